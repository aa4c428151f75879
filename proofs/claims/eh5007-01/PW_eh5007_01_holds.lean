import PyProof.Rows.All
import Wide.All
import OpenK.AllK
import Wide.FinOn
import KE.IntTextLaws
import KE.KIntText
import KE.KTextTable
import KE.LcTurns
import Lean
import PySem.Challenge.RW_eh5007_01
set_option Elab.async false
section
open PySem PySem.W PyProof.Rows
set_option maxRecDepth 100000
set_option maxHeartbeats 8000000
namespace Mine
open_top hd for PySem.Challenge.rw_eh5007_01
end Mine
end
section
open PySem PySem.Sre
set_option maxRecDepth 100000
namespace Mine
def code : Array Nat := #[14, 4, 0, 2, 4294967295, 17, 0, 24, 11, 0, 1, 13, 6, 16, 60, 16, 62, 0, 1, 17, 1, 17, 2, 13, 8, 22, 97, 122, 22, 65, 90, 0, 17, 3, 17, 4, 24, 9, 1, 4294967295, 13, 4, 8, 10, 0, 1, 17, 5, 17, 6, 24, 9, 0, 4294967295, 13, 4, 8, 12, 0, 1, 17, 7, 1]

def mk (T : Array Nat) (lim st ls : Nat) (mu : Bool) (pc pos hd : Nat) (ou : Bool) (ms : Array (Option Nat)) (lm li : Int) (fr : List Sre.Frame) (w : Nat) (an : Option Bool) (sn : Seen) : M :=
  { code := code, text := T, lim := lim, start := st, lastStart := ls, wholeText := false, mustAdvance := mu, pc := pc, pos := pos, handed := hd, outermost := ou, marks := ms, lastmark := lm, lastindex := li, loops := #[], inner := none, frames := fr, weight := w, answer := an, seen := sn, outcome := none }

variable {T : Array Nat} {lim st ls : Nat} {mu : Bool} {pc pos hd : Nat} {ou : Bool} {ms : Array (Option Nat)} {lm li : Int} {fr : List Sre.Frame} {w : Nat} {an : Option Bool} {sn : Seen}

theorem s_mark0 : (mk T lim st ls mu 5 pos hd ou ms (-1) li fr w none sn).step = mk T lim st ls mu 7 pos hd ou (ms.setIfInBounds 0 (some pos)) 0 li fr w none (sn.add 17) := by with_unfolding_all rfl
theorem s_mark1 : (mk T lim st ls mu 19 pos hd ou ms 0 li fr w none sn).step = mk T lim st ls mu 21 pos hd ou (ms.setIfInBounds 1 (some pos)) 1 1 fr w none (sn.add 17) := by with_unfolding_all rfl
theorem s_mark2 : (mk T lim st ls mu 21 pos hd ou ms 1 li fr w none sn).step = mk T lim st ls mu 23 pos hd ou (ms.setIfInBounds 2 (some pos)) 2 li fr w none (sn.add 17) := by with_unfolding_all rfl
theorem s_mark3 : (mk T lim st ls mu 32 pos hd ou ms 2 li fr w none sn).step = mk T lim st ls mu 34 pos hd ou (ms.setIfInBounds 3 (some pos)) 3 2 fr w none (sn.add 17) := by with_unfolding_all rfl
theorem s_mark4 : (mk T lim st ls mu 34 pos hd ou ms 3 li fr w none sn).step = mk T lim st ls mu 36 pos hd ou (ms.setIfInBounds 4 (some pos)) 4 li fr w none (sn.add 17) := by with_unfolding_all rfl
theorem s_mark5 : (mk T lim st ls mu 46 pos hd ou ms 4 li fr w none sn).step = mk T lim st ls mu 48 pos hd ou (ms.setIfInBounds 5 (some pos)) 5 3 fr w none (sn.add 17) := by with_unfolding_all rfl
theorem s_mark6 : (mk T lim st ls mu 48 pos hd ou ms 5 li fr w none sn).step = mk T lim st ls mu 50 pos hd ou (ms.setIfInBounds 6 (some pos)) 6 li fr w none (sn.add 17) := by with_unfolding_all rfl
theorem s_mark7 : (mk T lim st ls mu 60 pos hd ou ms 6 li fr w none sn).step = mk T lim st ls mu 62 pos hd ou (ms.setIfInBounds 7 (some pos)) 7 4 fr w none (sn.add 17) := by with_unfolding_all rfl

theorem step_exec {m : M} (ho : m.outcome = none) (ha : m.answer = none) (hp : m.pc < m.code.size) : m.step = m.exec := by
  unfold M.step
  rw [ho, ha]
  simp [hp]

theorem exec_rep {m : M} {n : Nat} {sn' : Seen} (h : ops[m.word 0]? = some .REPEAT_ONE) (hroom : ¬ ((m.word 2 : Nat) : Int) > (m.lim : Int) - m.pos)
    (hr : run m.code m.text (m.pc + 4) (min (m.word 3) ((m.lim : Int) - m.pos).toNat) m.pos 0 ((m.seen.add (m.word 0)).add (m.word 4)) = .ok (n, sn')) :
    m.exec = if n < m.word 2 then ({ m with seen := sn' } : M).say false else ({ m with seen := sn', pos := m.pos + n } : M).afterRun .giveBack n (({ m with seen := sn', pos := m.pos + n } : M).keep m.inner.isSome) := by
  unfold M.exec
  rw [h]
  dsimp only
  refine Eq.trans (if_neg ?_) ?_
  · exact hroom
  generalize hx : run _ _ _ _ _ _ _ = r
  have hx' : r = .ok (n, sn') := hx.symm.trans hr
  subst hx'
  dsimp only
  by_cases hn : n < m.word 2
  · rw [if_pos hn]; exact if_pos hn
  · rw [if_neg hn]; exact if_neg hn

theorem s_rep7 {n : Nat} {sn' : Seen} (hp : pos ≤ lim) (hw : w + 1 ≤ 16777216) (hr : Sre.run code T 11 (min 1 (lim - pos)) pos 0 ((sn.add 24).add 13) = .ok (n, sn')) :
    (mk T lim st ls mu 7 pos hd ou ms 0 li fr w none sn).step = mk T lim st ls mu 19 (pos + n) (pos + n) ou ms 0 li ({ wait := .giveBack, pc := 7, pos := pos + n, outermost := ou, count := n, kept := { lastmark := 0, lastindex := li } } :: fr) (w + 1) none sn' := by
  rw [step_exec rfl rfl (by exact (show (7:Nat) < 63 by decide))]
  rw [exec_rep (n := n) (sn' := sn') rfl (by show ¬ ((0:Nat):Int) > (lim:Int) - pos; omega) (by
    show Sre.run code T 11 (min 1 ((lim : Int) - pos).toNat) pos 0 _ = _
    rw [show ((lim : Int) - pos).toNat = lim - pos by omega]; exact hr)]
  rw [if_neg (by show ¬ n < 0; omega)]
  unfold M.afterRun M.attempt
  rw [if_neg (by show ¬ w + 1 + 0 > 16777216; omega)]
  rfl
theorem s_rep36 {n : Nat} {sn' : Seen} (hp : pos ≤ lim) (h1 : 1 ≤ n) (hw : w + 1 ≤ 16777216) (hr : Sre.run code T 40 (min 4294967295 (lim - pos)) pos 0 ((sn.add 24).add 13) = .ok (n, sn')) (hle : n ≤ lim - pos) :
    (mk T lim st ls mu 36 pos hd ou ms 4 li fr w none sn).step = mk T lim st ls mu 46 (pos + n) (pos + n) ou ms 4 li ({ wait := .giveBack, pc := 36, pos := pos + n, outermost := ou, count := n, kept := { lastmark := 4, lastindex := li } } :: fr) (w + 1) none sn' := by
  rw [step_exec rfl rfl (by exact (show (36:Nat) < 63 by decide))]
  rw [exec_rep (n := n) (sn' := sn') rfl (by show ¬ ((1:Nat):Int) > (lim:Int) - pos; omega) (by
    show Sre.run code T 40 (min 4294967295 ((lim : Int) - pos).toNat) pos 0 _ = _
    rw [show ((lim : Int) - pos).toNat = lim - pos by omega]; exact hr)]
  rw [if_neg (by show ¬ n < 1; omega)]
  unfold M.afterRun M.attempt
  rw [if_neg (by show ¬ w + 1 + 0 > 16777216; omega)]
  rfl
theorem s_rep50 {n : Nat} {sn' : Seen} (hp : pos ≤ lim) (hw : w + 1 ≤ 16777216) (hr : Sre.run code T 54 (min 4294967295 (lim - pos)) pos 0 ((sn.add 24).add 13) = .ok (n, sn')) :
    (mk T lim st ls mu 50 pos hd ou ms 6 li fr w none sn).step = mk T lim st ls mu 60 (pos + n) (pos + n) ou ms 6 li ({ wait := .giveBack, pc := 50, pos := pos + n, outermost := ou, count := n, kept := { lastmark := 6, lastindex := li } } :: fr) (w + 1) none sn' := by
  rw [step_exec rfl rfl (by exact (show (50:Nat) < 63 by decide))]
  rw [exec_rep (n := n) (sn' := sn') rfl (by show ¬ ((0:Nat):Int) > (lim:Int) - pos; omega) (by
    show Sre.run code T 54 (min 4294967295 ((lim : Int) - pos).toNat) pos 0 _ = _
    rw [show ((lim : Int) - pos).toNat = lim - pos by omega]; exact hr)]
  rw [if_neg (by show ¬ n < 0; omega)]
  unfold M.afterRun M.attempt
  rw [if_neg (by show ¬ w + 1 + 0 > 16777216; omega)]
  rfl
/-- too few digits, or no room for one -/
theorem s_rep36_fail {sn' : Seen} (hp : pos ≤ lim) (hr : pos < lim → Sre.run code T 40 (min 4294967295 (lim - pos)) pos 0 ((sn.add 24).add 13) = .ok (0, sn')) :
    ∃ sn'', (mk T lim st ls mu 36 pos hd ou ms 4 li fr w none sn).step = mk T lim st ls mu 36 pos hd ou ms 4 li fr w (some false) sn'' := by
  rw [step_exec rfl rfl (by exact (show (36:Nat) < 63 by decide))]
  by_cases h : pos < lim
  · rw [exec_rep (n := 0) (sn' := sn') rfl (by show ¬ ((1:Nat):Int) > (lim:Int) - pos; omega) (by
      show Sre.run code T 40 (min 4294967295 ((lim : Int) - pos).toNat) pos 0 _ = _
      rw [show ((lim : Int) - pos).toNat = lim - pos by omega]; exact hr h)]
    exact ⟨sn', rfl⟩
  · refine ⟨sn.add 24, ?_⟩
    unfold M.exec
    rw [show ops[(mk T lim st ls mu 36 pos hd ou ms 4 li fr w none sn).word 0]? = some .REPEAT_ONE from rfl]
    dsimp only
    rw [if_pos (by show ((1:Nat):Int) > (lim:Int) - pos; omega)]
    rfl

theorem exec_in {m : M} {b : Bool} {sn' : Seen} (h : ops[m.word 0]? = some .IN) (hp : ¬ m.pos ≥ m.lim) (hr : accepts m.code m.pc (m.text.getD m.pos 0) (m.seen.add (m.word 0)) = .ok (b, sn')) :
    m.exec = if b then ({ m with seen := sn', pc := m.pc + itemWidth m.code m.pc, pos := m.pos + 1 } : M) else ({ m with seen := sn' } : M).say false := by
  unfold M.exec
  rw [h]
  dsimp only
  rw [if_neg hp, hr]
  cases b <;> rfl

theorem s_let {sn' : Seen} (hp : pos < lim) (hr : accepts code 23 (T.getD pos 0) (sn.add 13) = .ok (true, sn')) :
    (mk T lim st ls mu 23 pos hd ou ms 2 li fr w none sn).step = mk T lim st ls mu 32 (pos + 1) hd ou ms 2 li fr w none sn' := by
  rw [step_exec rfl rfl (by exact (show (23:Nat) < 63 by decide))]
  rw [exec_in (b := true) (sn' := sn') rfl (by show ¬ pos ≥ lim; omega) hr]
  rfl
theorem s_let_fail (hr : pos < lim → ∃ sn', accepts code 23 (T.getD pos 0) (sn.add 13) = .ok (false, sn')) :
    ∃ sn', (mk T lim st ls mu 23 pos hd ou ms 2 li fr w none sn).step = mk T lim st ls mu 23 pos hd ou ms 2 li fr w (some false) sn' := by
  rw [step_exec rfl rfl (by exact (show (23:Nat) < 63 by decide))]
  by_cases h : pos < lim
  · obtain ⟨sn', e⟩ := hr h
    refine ⟨sn', ?_⟩
    rw [exec_in (b := false) (sn' := sn') rfl (by show ¬ pos ≥ lim; omega) e]
    rfl
  · refine ⟨sn.add 13, ?_⟩
    unfold M.exec
    rw [show ops[(mk T lim st ls mu 23 pos hd ou ms 2 li fr w none sn).word 0]? = some .IN from rfl]
    dsimp only
    rw [if_pos (by show pos ≥ lim; omega)]
    rfl
theorem s_succ (h : (mu && pos == st) = false) :
    (mk T lim st ls mu 62 pos hd ou ms 7 li fr w none sn).step = mk T lim st ls mu 62 pos pos ou ms 7 li fr w (some true) (sn.add 1) := by
  rw [step_exec rfl rfl (by exact (show (62:Nat) < 63 by decide))]
  unfold M.exec
  rw [show ops[(mk T lim st ls mu 62 pos hd ou ms 7 li fr w none sn).word 0]? = some .SUCCESS from rfl]
  dsimp only
  rw [if_neg]
  · rfl
  · show ¬ (ou && ((false && pos != lim) || (mu && pos == st))) = true
    rw [h]; simp
/-- unwinding -/
theorem s_yes {f : Sre.Frame} (hf : f.wait = .giveBack ∨ f.wait = .nextStart) : 
    (mk T lim st ls mu pc pos hd ou ms lm li (f :: fr) w (some true) sn).step = mk T lim st ls mu f.pc f.pos hd f.outermost ms lm li fr (w - (1 + f.kept.marks.size)) (some true) sn := by
  unfold M.step
  rw [if_neg (by show ¬ (none : Option Sre.Outcome).isSome = true; simp)]
  show M.resume _ f true = _
  unfold M.resume
  rcases hf with h | h <;> (rw [h]; rfl)
theorem s_no36 {p : Nat} {o : Bool} {li' : Int} :
    (mk T lim st ls mu pc pos hd ou ms lm li ({ wait := .giveBack, pc := 7, pos := p, outermost := o, count := 0, kept := { lastmark := 0, lastindex := li' } } :: fr) w (some false) sn).step
     = mk T lim st ls mu 7 p hd o ms 0 li' fr (w - 1) (some false) sn := by with_unfolding_all rfl
theorem s_no7 {p : Nat} {o : Bool} {li' : Int} (hw : w ≤ 16777216) (h1 : 1 ≤ w) :
    (mk T lim st ls mu pc pos hd ou ms lm li ({ wait := .giveBack, pc := 7, pos := p + 1, outermost := o, count := 1, kept := { lastmark := 0, lastindex := li' } } :: fr) w (some false) sn).step
     = mk T lim st ls mu 19 p p o ms 0 li' ({ wait := .giveBack, pc := 7, pos := p, outermost := o, count := 0, kept := { lastmark := 0, lastindex := li' } } :: fr) w none sn := by
  unfold M.step
  rw [if_neg (by show ¬ (none : Option Sre.Outcome).isSome = true; simp)]
  show M.resume _ _ false = _
  unfold M.resume
  dsimp only
  rw [if_neg (by simp), if_neg (by show ¬ (1:Int) - 1 < ((0:Nat):Int); omega)]
  unfold M.afterRun M.attempt
  rw [if_neg (by show ¬ w - 1 + 1 + 0 > 16777216; omega)]
  have : w - 1 + 1 = w := by omega
  show mk T lim st ls mu 19 p p o ms 0 li' _ (w - 1 + 1) none sn = _
  rw [this]
  rfl
/-- the search moves on, or ends -/
theorem s_nostart_end {p : Nat} {o : Bool} (h : ¬ p < ls) :
    (mk T lim st ls mu pc pos hd ou ms lm li [{ wait := .nextStart, pc := 5, pos := p, outermost := o }] w (some false) sn).step
     = mk T lim st ls mu 5 p hd o ms lm li [] (w - 1) (some false) sn := by
  unfold M.step
  rw [if_neg (by show ¬ (none : Option Sre.Outcome).isSome = true; simp)]
  show M.resume _ _ false = _
  unfold M.resume
  dsimp only
  rw [if_neg (by simp), if_neg (by show ¬ p < ls; exact h)]
  rfl
theorem s_nostart_next {p : Nat} {o : Bool} (h : p < ls) (hw : w ≤ 16777216) (h1 : 1 ≤ w) :
    (mk T lim st ls mu pc pos hd ou ms lm li [{ wait := .nextStart, pc := 5, pos := p, outermost := o }] w (some false) sn).step
     = mk T lim (p + 1) ls false 5 (p + 1) (p + 1) false ms (-1) (-1) [{ wait := .nextStart, pc := 5, pos := p + 1, outermost := false }] w none sn := by
  unfold M.step
  rw [if_neg (by show ¬ (none : Option Sre.Outcome).isSome = true; simp)]
  show M.resume _ _ false = _
  unfold M.resume
  dsimp only
  rw [if_neg (by simp), if_pos (by show p < ls; exact h)]
  unfold M.attemptFrom
  rw [if_pos (by rfl)]
  unfold M.attemptAt M.attempt
  rw [if_neg (by show ¬ w - 1 + 1 + 0 > 16777216; omega)]
  have : w - 1 + 1 = w := by omega
  show mk T lim (p + 1) ls false 5 (p + 1) (p + 1) false ms (-1) (-1) _ (w - 1 + 1) none sn = _
  rw [this]
theorem s_end {b : Bool} :
    (mk T lim st ls mu pc pos hd ou ms lm li [] w (some b) sn).step = { mk T lim st ls mu pc pos hd ou ms lm li [] w (some b) sn with outcome := some (if b then .matched else .failed) } := rfl

def isMark (c : Nat) : Bool := c == 60 || c == 62
def isLet (c : Nat) : Bool := (97 ≤ c && c ≤ 122) || (65 ≤ c && c ≤ 90)
theorem acc_mark (c : Nat) (sn : Seen) : ∃ sn', accepts code 11 c sn = .ok (isMark c, sn') := by
  have e : accepts code 11 c sn = if (c == 60) = true then .ok (true, sn.add 16) else if (c == 62) = true then .ok (true, (sn.add 16).add 16) else .ok (false, ((sn.add 16).add 16).add 0) := by with_unfolding_all rfl
  rw [e]
  unfold isMark
  cases h1 : c == 60
  · cases h2 : c == 62
    · exact ⟨_, rfl⟩
    · exact ⟨_, rfl⟩
  · exact ⟨_, rfl⟩
theorem acc_let (c : Nat) (sn : Seen) : ∃ sn', accepts code 23 c sn = .ok (isLet c, sn') := by
  have e : accepts code 23 c sn = if (decide (97 ≤ c) && decide (c ≤ 122)) = true then .ok (true, sn.add 22) else if (decide (65 ≤ c) && decide (c ≤ 90)) = true then .ok (true, (sn.add 22).add 22) else .ok (false, ((sn.add 22).add 22).add 0) := by with_unfolding_all rfl
  rw [e]
  unfold isLet
  cases h1 : (decide (97 ≤ c) && decide (c ≤ 122))
  · cases h2 : (decide (65 ≤ c) && decide (c ≤ 90))
    · exact ⟨_, rfl⟩
    · exact ⟨_, rfl⟩
  · exact ⟨_, rfl⟩
theorem acc_dig (c : Nat) (sn : Seen) : ∃ sn', accepts code 40 c sn = .ok (Unicode.isDecimal c, sn') := by
  have e : accepts code 40 c sn = if (Unicode.isDecimal c != false) = true then .ok (true, (sn.add 8).add 65) else .ok (false, ((sn.add 8).add 65).add 0) := by with_unfolding_all rfl
  rw [e]
  cases h1 : Unicode.isDecimal c
  · exact ⟨_, rfl⟩
  · exact ⟨_, rfl⟩
theorem acc_sp (c : Nat) (sn : Seen) : ∃ sn', accepts code 54 c sn = .ok (Unicode.isSpace c, sn') := by
  have e : accepts code 54 c sn = if (Unicode.isSpace c != false) = true then .ok (true, (sn.add 8).add 67) else .ok (false, ((sn.add 8).add 67).add 0) := by with_unfolding_all rfl
  rw [e]
  cases h1 : Unicode.isSpace c
  · exact ⟨_, rfl⟩
  · exact ⟨_, rfl⟩

/-- how many signs a run takes -/
def cnt (P : Nat → Bool) (T : Array Nat) : Nat → Nat → Nat
  | 0, _ => 0
  | n + 1, p => if P (T.getD p 0) then cnt P T n (p + 1) + 1 else 0
theorem cnt_le (P : Nat → Bool) (T : Array Nat) : ∀ n p, cnt P T n p ≤ n
  | 0, _ => Nat.le_refl _
  | n + 1, p => by
    unfold cnt
    split
    · exact Nat.succ_le_succ (cnt_le P T n (p + 1))
    · exact Nat.zero_le _
theorem run_cnt {i : Nat} {P : Nat → Bool} (h : ∀ c sn, ∃ sn', accepts code i c sn = .ok (P c, sn')) (T : Array Nat) : ∀ n p f sn, ∃ sn', Sre.run code T i n p f sn = .ok (f + cnt P T n p, sn')
  | 0, p, f, sn => ⟨sn, rfl⟩
  | n + 1, p, f, sn => by
    obtain ⟨s1, e⟩ := h (T.getD p 0) sn
    unfold Sre.run cnt
    rw [e]
    cases hb : P (T.getD p 0)
    · exact ⟨s1, by simp [bind, Except.bind]; rfl⟩
    · obtain ⟨s2, e2⟩ := run_cnt h T n (p + 1) (f + 1) s1
      refine ⟨s2, ?_⟩
      simp only [bind, Except.bind, if_true]
      rw [e2, show f + 1 + cnt P T n (p + 1) = f + (cnt P T n (p + 1) + 1) by omega]

def Ends (b : Nat) (m : M) (P : M → Prop) : Prop := ∃ n, n ≤ b ∧ P (m.runFor n)
theorem Ends.step {b : Nat} {m : M} {P : M → Prop} (ho : m.outcome = none) (h : Ends b m.step P) : Ends (b + 1) m P := by
  obtain ⟨n, hb, hn⟩ := h
  refine ⟨n + 1, by omega, ?_⟩
  unfold M.runFor
  rw [ho]
  exact hn
theorem Ends.now {b : Nat} {m : M} {P : M → Prop} (h : P m) : Ends b m P := ⟨0, Nat.zero_le _, h⟩
theorem Ends.mono {a b : Nat} {m : M} {P : M → Prop} (h : Ends a m P) (hab : a ≤ b) : Ends b m P := by
  obtain ⟨n, hb, hn⟩ := h
  exact ⟨n, Nat.le_trans hb hab, hn⟩
theorem Ends.next {b : Nat} {m m' : M} {P : M → Prop} (ho : m.outcome = none) (e : m.step = m') (h : Ends b m' P) : Ends (b + 1) m P := Ends.step ho (e ▸ h)
theorem runFor_some {m : M} (h : m.outcome.isSome = true) : ∀ n, m.runFor n = m
  | 0 => rfl
  | n + 1 => by unfold M.runFor; rw [if_pos h]
theorem runFor_add (m : M) : ∀ a b, m.runFor (a + b) = (m.runFor a).runFor b
  | 0, b => by rw [Nat.zero_add]; rfl
  | a + 1, b => by
    cases h : m.outcome.isSome
    · rw [show a + 1 + b = (a + b) + 1 by omega]
      have e : ∀ n, m.runFor (n + 1) = m.step.runFor n := fun n => by
        conv => lhs; unfold M.runFor
        rw [h]; rfl
      rw [e, e]
      exact runFor_add m.step a b
    · rw [runFor_some h, runFor_some h, runFor_some h]

def fr0 (s : Nat) (o : Bool) : Sre.Frame := { wait := .nextStart, pc := 5, pos := s, outermost := o }

structure Hit (T : Array Nat) (s q d e : Nat) : Prop where
  mark : q = s + cnt isMark T (min 1 (T.size - s)) s
  lt : q < T.size
  let_ : isLet (T.getD q 0) = true
  dig : d = cnt Unicode.isDecimal T (min 4294967295 (T.size - (q + 1))) (q + 1)
  pos : 1 ≤ d
  sp : e = cnt Unicode.isSpace T (min 4294967295 (T.size - (q + 1 + d))) (q + 1 + d)

def marksOf (ms : Array (Option Nat)) (s q d e : Nat) : Array (Option Nat) :=
  (((((((ms.setIfInBounds 0 (some s)).setIfInBounds 1 (some q)).setIfInBounds 2 (some q)).setIfInBounds 3 (some (q + 1))).setIfInBounds 4 (some (q + 1))).setIfInBounds 5 (some (q + 1 + d))).setIfInBounds 6 (some (q + 1 + d))).setIfInBounds 7 (some (q + 1 + d + e))

theorem hit_ends {s q d e : Nat} {o : Bool} (H : Hit T s q d e) (hs : s ≤ T.size) (hw : w + 3 ≤ 16777216) :
    Ends 18 (mk T T.size s ls mu 5 s hd ou ms (-1) li [fr0 s o] w none sn) (fun m => m.outcome = some .matched ∧ m.start = s ∧ m.handed = q + 1 + d + e ∧ m.lastmark = 7 ∧ m.marks = marksOf ms s q d e) := by
  have hq := H.mark
  have hlt := H.lt
  have hd1 := H.pos
  have hdle := cnt_le Unicode.isDecimal T (min 4294967295 (T.size - (q + 1))) (q + 1)
  rw [← H.dig] at hdle
  refine Ends.next rfl s_mark0 ?_
  obtain ⟨s1, e1⟩ := run_cnt acc_mark T (min 1 (T.size - s)) s 0 ((((sn.add 17)).add 24).add 13)
  rw [Nat.zero_add] at e1
  refine Ends.next rfl (s_rep7 hs (by omega) e1) ?_
  rw [← hq]
  refine Ends.next rfl s_mark1 ?_
  refine Ends.next rfl s_mark2 ?_
  obtain ⟨s2, e2⟩ := acc_let (T.getD q 0) (((s1.add 17).add 17).add 13)
  rw [H.let_] at e2
  refine Ends.next rfl (s_let hlt e2) ?_
  refine Ends.next rfl s_mark3 ?_
  refine Ends.next rfl s_mark4 ?_
  obtain ⟨s3, e3⟩ := run_cnt acc_dig T (min 4294967295 (T.size - (q + 1))) (q + 1) 0 ((((s2.add 17).add 17).add 24).add 13)
  rw [Nat.zero_add, ← H.dig] at e3
  refine Ends.next rfl (s_rep36 (by omega) hd1 (by omega) e3 (by omega)) ?_
  refine Ends.next rfl s_mark5 ?_
  refine Ends.next rfl s_mark6 ?_
  obtain ⟨s4, e4⟩ := run_cnt acc_sp T (min 4294967295 (T.size - (q + 1 + d))) (q + 1 + d) 0 ((((s3.add 17).add 17).add 24).add 13)
  rw [Nat.zero_add, ← H.sp] at e4
  refine Ends.next rfl (s_rep50 (by omega) (by omega) e4) ?_
  refine Ends.next rfl s_mark7 ?_
  refine Ends.next rfl (s_succ (by
    have : (q + 1 + d + e == s) = false := by rw [beq_eq_false_iff_ne]; omega
    rw [this, Bool.and_false])) ?_
  refine Ends.next rfl (s_yes (.inl rfl)) ?_
  refine Ends.next rfl (s_yes (.inl rfl)) ?_
  refine Ends.next rfl (s_yes (.inl rfl)) ?_
  refine Ends.next rfl (s_yes (.inr rfl)) ?_
  refine Ends.next rfl s_end ?_
  refine Ends.now ?_
  refine ⟨?_, ?_, ?_, ?_, ?_⟩
  · rfl
  · rfl
  · rfl
  · rfl
  · dsimp only [mk]
    unfold marksOf
    rfl

theorem mark_not_let {c : Nat} (h : isMark c = true) : isLet c = false := by
  unfold isMark at h
  unfold isLet
  simp only [Bool.or_eq_true, beq_iff_eq] at h
  rcases h with rfl | rfl <;> decide

theorem miss_ends {s : Nat} {o : Bool} {P : M → Prop} {b : Nat} (hm : ∀ q d e, ¬ Hit T s q d e) (hs : s ≤ T.size) (hw : w + 3 ≤ 16777216) (h1 : 1 ≤ w)
    (k : ∀ pc' pos' hd' ou' ms' lm' li' sn', ms'.size = ms.size → Ends b (mk T T.size s ls mu pc' pos' hd' ou' ms' lm' li' [fr0 s o] w (some false) sn') P) :
    Ends (b + 20) (mk T T.size s ls mu 5 s hd ou ms (-1) li [fr0 s o] w none sn) P := by
  refine Ends.next rfl s_mark0 ?_
  obtain ⟨s1, e1⟩ := run_cnt acc_mark T (min 1 (T.size - s)) s 0 ((((sn.add 17)).add 24).add 13)
  rw [Nat.zero_add] at e1
  have hle := cnt_le isMark T (min 1 (T.size - s)) s
  refine Ends.next rfl (s_rep7 hs (by omega) e1) ?_
  generalize ha : cnt isMark T (min 1 (T.size - s)) s = a at hle
  -- the unwinding behind a failure within
  have back : ∀ pc' pos' hd' ou' ms' lm' li' sn', ms'.size = ms.size →
      Ends (b + 5) (mk T T.size s ls mu pc' pos' hd' ou' ms' lm' li' [{ wait := .giveBack, pc := 7, pos := s + a, outermost := ou, count := a, kept := { lastmark := 0, lastindex := li } }, fr0 s o] (w + 1) (some false) sn') P := by
    intro pc' pos' hd' ou' ms' lm' li' sn' hsz
    have ha1 : a ≤ 1 := by omega
    rcases Nat.lt_or_ge a 1 with h0 | h0
    · obtain rfl : a = 0 := by omega
      refine Ends.next rfl s_no36 ?_
      exact (k _ _ _ _ _ _ _ _ hsz).mono (by omega)
    · obtain rfl : a = 1 := by omega
      refine Ends.next rfl (s_no7 (by omega) (by omega)) ?_
      refine Ends.next rfl s_mark1 ?_
      refine Ends.next rfl s_mark2 ?_
      have hmk : isMark (T.getD s 0) = true := by
        have hn : ∃ n, min 1 (T.size - s) = n + 1 := ⟨min 1 (T.size - s) - 1, by omega⟩
        obtain ⟨n, hn⟩ := hn
        rw [hn] at ha
        unfold cnt at ha
        split at ha
        · assumption
        · omega
      obtain ⟨s3, e3⟩ := s_let_fail (T := T) (lim := T.size) (st := s) (ls := ls) (mu := mu) (pos := s) (hd := s) (ou := ou) (ms := ((ms'.setIfInBounds 1 (some s)).setIfInBounds 2 (some s))) (li := 1)
        (fr := [{ wait := .giveBack, pc := 7, pos := s, outermost := ou, count := 0, kept := { lastmark := 0, lastindex := li } }, fr0 s o]) (w := w + 1) (sn := (sn'.add 17).add 17) (fun _ => by
          obtain ⟨s2, e2⟩ := acc_let (T.getD s 0) (((sn'.add 17).add 17).add 13)
          rw [mark_not_let hmk] at e2
          exact ⟨s2, e2⟩)
      refine Ends.next rfl e3 ?_
      refine Ends.next rfl s_no36 ?_
      refine (k _ _ _ _ _ _ _ _ ?_).mono (by omega)
      simp [hsz]
  refine Ends.next rfl s_mark1 ?_
  refine Ends.next rfl s_mark2 ?_
  by_cases hq : s + a < T.size ∧ isLet (T.getD (s + a) 0) = true
  · obtain ⟨hlt, hlet⟩ := hq
    obtain ⟨s2, e2⟩ := acc_let (T.getD (s + a) 0) (((s1.add 17).add 17).add 13)
    rw [hlet] at e2
    refine Ends.next rfl (s_let hlt e2) ?_
    refine Ends.next rfl s_mark3 ?_
    refine Ends.next rfl s_mark4 ?_
    obtain ⟨s3, e3⟩ := run_cnt acc_dig T (min 4294967295 (T.size - (s + a + 1))) (s + a + 1) 0 ((((s2.add 17).add 17).add 24).add 13)
    rw [Nat.zero_add] at e3
    generalize hd' : cnt Unicode.isDecimal T (min 4294967295 (T.size - (s + a + 1))) (s + a + 1) = d at e3
    rcases Nat.eq_zero_or_pos d with h0 | h0
    · subst h0
      obtain ⟨s4, e4⟩ := s_rep36_fail (T := T) (lim := T.size) (st := s) (ls := ls) (mu := mu) (pos := s + a + 1) (hd := s + a) (ou := ou) (ms := ((((ms.setIfInBounds 0 (some s)).setIfInBounds 1 (some (s + a))).setIfInBounds 2 (some (s + a))).setIfInBounds 3 (some (s + a + 1))).setIfInBounds 4 (some (s + a + 1))) (li := 2)
        (fr := [{ wait := .giveBack, pc := 7, pos := s + a, outermost := ou, count := a, kept := { lastmark := 0, lastindex := li } }, fr0 s o]) (w := w + 1) (sn := (s2.add 17).add 17) (by omega) (fun _ => e3)
      refine Ends.next rfl e4 ?_
      exact (back _ _ _ _ _ _ _ _ (by simp)).mono (by omega)
    · exact absurd ⟨by rw [ha], hlt, hlet, hd'.symm, h0, rfl⟩ (hm (s + a) d _)
  · obtain ⟨s4, e4⟩ := s_let_fail (T := T) (lim := T.size) (st := s) (ls := ls) (mu := mu) (pos := s + a) (hd := s + a) (ou := ou) (ms := (((ms.setIfInBounds 0 (some s)).setIfInBounds 1 (some (s + a))).setIfInBounds 2 (some (s + a)))) (li := 1)
        (fr := [{ wait := .giveBack, pc := 7, pos := s + a, outermost := ou, count := a, kept := { lastmark := 0, lastindex := li } }, fr0 s o]) (w := w + 1) (sn := (s1.add 17).add 17) (fun hlt => by
          obtain ⟨s2, e2⟩ := acc_let (T.getD (s + a) 0) (((s1.add 17).add 17).add 13)
          have : isLet (T.getD (s + a) 0) = false := by
            cases h : isLet (T.getD (s + a) 0)
            · rfl
            · exact absurd ⟨hlt, h⟩ hq
          rw [this] at e2
          exact ⟨s2, e2⟩)
    refine Ends.next rfl e4 ?_
    exact (back _ _ _ _ _ _ _ _ (by simp)).mono (by omega)

structure Won (T : Array Nat) (s q d e : Nat) (m : M) : Prop where
  hit : Hit T s q d e
  won : m.outcome = some .matched
  start : m.start = s
  handed : m.handed = q + 1 + d + e
  last : m.lastmark = 7
  marks : ∃ ms : Array (Option Nat), ms.size = 8 ∧ m.marks = marksOf ms s q d e

theorem search_ends : ∀ (n s : Nat) (mu : Bool) (hd : Nat) (ou : Bool) (ms : Array (Option Nat)) (li : Int) (o : Bool) (w : Nat) (sn : Seen), ls - s = n → s ≤ T.size → ls ≤ T.size → w + 3 ≤ 16777216 → 1 ≤ w → ms.size = 8 →
    Ends (25 * (n + 1)) (mk T T.size s ls mu 5 s hd ou ms (-1) li [fr0 s o] w none sn) (fun m =>
      (∃ s' q d e, s ≤ s' ∧ (∀ t, s ≤ t → t < s' → ∀ q d e, ¬ Hit T t q d e) ∧ Won T s' q d e m) ∨
      ((∀ t, s ≤ t → (t ≤ ls ∨ t = s) → ∀ q d e, ¬ Hit T t q d e) ∧ m.outcome = some .failed)) := by
  intro n
  induction n with
  | zero =>
    intro s mu hd ou ms li o w sn hn hs hls hw h1 hms
    by_cases hh : ∃ q d e, Hit T s q d e
    · obtain ⟨q, d, e, H⟩ := hh
      obtain ⟨k, hkb, a1, a2, a3, a4, a5⟩ := hit_ends (w := w) (ls := ls) (mu := mu) (hd := hd) (ou := ou) (ms := ms) (li := li) (sn := sn) (o := o) H hs hw
      exact ⟨k, by omega, .inl ⟨s, q, d, e, Nat.le_refl _, fun t h1 h2 => by omega, H, a1, a2, a3, a4, ms, hms, a5⟩⟩
    · have hm : ∀ q d e, ¬ Hit T s q d e := fun q d e H => hh ⟨q, d, e, H⟩
      refine Ends.mono (miss_ends (b := 2) hm hs hw h1 fun pc' pos' hd' ou' ms' lm' li' sn' hsz => ?_) (by omega)
      refine Ends.next rfl (s_nostart_end (by omega)) ?_
      refine Ends.next rfl s_end ?_
      refine Ends.now (.inr ⟨fun t h1 h2 => ?_, rfl⟩)
      obtain rfl : t = s := by omega
      exact hm
  | succ n ih =>
    intro s mu hd ou ms li o w sn hn hs hls hw h1 hms
    by_cases hh : ∃ q d e, Hit T s q d e
    · obtain ⟨q, d, e, H⟩ := hh
      obtain ⟨k, hkb, a1, a2, a3, a4, a5⟩ := hit_ends (w := w) (ls := ls) (mu := mu) (hd := hd) (ou := ou) (ms := ms) (li := li) (sn := sn) (o := o) H hs hw
      exact ⟨k, by omega, .inl ⟨s, q, d, e, Nat.le_refl _, fun t h1 h2 => by omega, H, a1, a2, a3, a4, ms, hms, a5⟩⟩
    · have hm : ∀ q d e, ¬ Hit T s q d e := fun q d e H => hh ⟨q, d, e, H⟩
      refine Ends.mono (miss_ends (b := 25 * (n + 1) + 1) hm hs hw h1 fun pc' pos' hd' ou' ms' lm' li' sn' hsz => ?_) (by omega)
      refine Ends.next rfl (s_nostart_next (by omega) (by omega) h1) ?_
      obtain ⟨k, hkb, hk⟩ := ih (s + 1) false (s + 1) false ms' (-1) false w sn' (by omega) (by omega) hls hw h1 (hsz.trans hms)
      refine ⟨k, hkb, ?_⟩
      rcases hk with ⟨s', q, d, e, a1, a2, a3⟩ | ⟨a1, a2⟩
      · refine .inl ⟨s', q, d, e, by omega, fun t h1 h2 => ?_, a3⟩
        rcases Nat.eq_or_lt_of_le h1 with rfl | h1
        · exact hm
        · exact a2 t h1 h2
      · refine .inr ⟨fun t h1 h2 => ?_, a2⟩
        rcases Nat.eq_or_lt_of_le h1 with rfl | h1
        · exact hm
        · exact a1 t h1 (by omega)

theorem hit_room {T : Array Nat} {s q d e : Nat} (H : Hit T s q d e) : s + 2 ≤ T.size := by
  have h1 := H.mark
  have h2 := H.lt
  have h3 := H.pos
  have h4 := cnt_le Unicode.isDecimal T (min 4294967295 (T.size - (q + 1))) (q + 1)
  rw [← H.dig] at h4
  omega

theorem forSearch_ends (T : Array Nat) (pos : Nat) (mu : Bool) (hp : pos ≤ T.size) (hT : T.size ≤ 1000) :
    Ends (25 * (T.size + 1)) (forSearch code T 4 pos T.size mu) (fun m =>
      (∃ s' q d e, pos ≤ s' ∧ (∀ t, pos ≤ t → t < s' → ∀ q d e, ¬ Hit T t q d e) ∧ Won T s' q d e m) ∨
      ((∀ t, pos ≤ t → ∀ q d e, ¬ Hit T t q d e) ∧ m.outcome = some .failed)) := by
  by_cases h : T.size - pos < 2
  · have e : forSearch code T 4 pos T.size mu = mk T T.size pos 0 mu 5 pos pos true (Array.replicate 8 none) (-1) (-1) [] 0 (some false) (({} : Seen).add 14) := by
      unfold forSearch
      rw [show (header code).1 = 2 from rfl]
      dsimp only
      rw [if_pos (by simp [h])]
      rfl
    rw [e]
    refine Ends.mono (a := 1) (Ends.next rfl s_end ?_) (by omega)
    exact Ends.now (.inr ⟨fun t ht q d e H => by have := hit_room H; omega, rfl⟩)
  · have e : forSearch code T 4 pos T.size mu = mk T T.size pos (max pos (T.size - 1)) mu 5 pos pos true (Array.replicate 8 none) (-1) (-1) [fr0 pos true] 1 none (({} : Seen).add 14) := by
      unfold forSearch
      rw [show (header code).1 = 2 from rfl]
      dsimp only
      rw [if_neg (by simp only [Bool.or_eq_true, decide_eq_true_eq, not_or]; omega)]
      rfl
    rw [e]
    obtain ⟨k, hkb, hk⟩ := search_ends (T := T) (ls := max pos (T.size - 1)) _ pos mu pos true (Array.replicate 8 none) (-1) true 1 (({} : Seen).add 14) rfl hp (by omega) (by omega) (by omega) (by simp)
    refine ⟨k, by omega, ?_⟩
    rcases hk with h1 | ⟨h1, h2⟩
    · exact .inl h1
    · refine .inr ⟨fun t ht q d e H => ?_, h2⟩
      have := hit_room H
      exact h1 t ht (by omega) q d e H
end Mine
end
section
open PySem PySem.W PyProof.Rows PySem.Calls
set_option maxRecDepth 100000
set_option maxHeartbeats 8000000
namespace Mine
open PySem.Sre PySem.Builtin.Re
section
variable {M : Model} {A : Around} {E : Value → Shared → Prop} {s : Shared}

theorem wp_reDrive {P : Sre.M → Prop} (hP : ∀ m, P m → m.outcome.isSome = true) {Q : Sre.M → Shared → Prop} (hQ : ∀ m, P m → Q m s) :
    ∀ (turns b : Nat) (m : Sre.M), Ends b m P → b + 4 ≤ 4 * turns → wpAny M A (reDrive turns m) Q E s
  | 0, b, _, _, h => by omega
  | turns + 1, b, m, ⟨n, hb, hn⟩, h => by
    unfold reDrive
    have h4 : reTurnSteps = 4 := rfl
    rw [h4]
    dsimp only
    by_cases hs : (Sre.M.runFor 4 m).outcome.isSome = true
    · rw [if_pos hs]
      refine wpAny_pure (hQ _ ?_)
      rcases Nat.lt_or_ge n 4 with h1 | h1
      · have e : Sre.M.runFor 4 m = Sre.M.runFor n m := by
          rw [show (4 : Nat) = n + (4 - n) by omega, runFor_add, runFor_some (hP _ hn)]
        rw [e]; exact hn
      · have e : Sre.M.runFor n m = Sre.M.runFor 4 m := by
          rw [show n = 4 + (n - 4) by omega, runFor_add, runFor_some hs]
        rw [← e]; exact hn
    · rw [if_neg hs]
      refine wpAny_bind (wpAny_rule ?_)
      have h1 : 4 < n := by
        rcases Nat.lt_or_ge 4 n with h1 | h1
        · exact h1
        · exfalso
          apply hs
          rw [show (4 : Nat) = n + (4 - n) by omega, runFor_add, runFor_some (hP _ hn)]
          exact hP _ hn
      refine wp_reDrive hP hQ turns (n - 4) _ ⟨n - 4, Nat.le_refl _, ?_⟩ (by omega)
      rw [← runFor_add, show 4 + (n - 4) = n by omega]
      exact hn

theorem wp_quiet {α : Type} {f : α → PUnit → Sem (ForInStep PUnit)} {Q : PUnit → Shared → Prop} (hf : ∀ a, wpAny M A (f a ⟨⟩) (fun r s' => r = .yield ⟨⟩ ∧ s' = s) E s) (hQ : Q ⟨⟩ s) :
    ∀ l : List α, wpAny M A (forIn l (⟨⟩ : PUnit) f) Q E s
  | [] => by
    rw [List.forIn_nil]
    exact wpAny_pure hQ
  | a :: l => by
    rw [List.forIn_cons]
    refine wpAny_bind (wpAny_mono (hf a) (fun r s' h => ?_) fun _ _ e => e)
    obtain ⟨hr, hs⟩ := h
    rw [hr, hs]
    exact wp_quiet hf hQ l

theorem wp_reRunToEnd {m : Sre.M} {P : Sre.M → Prop} {b : Nat} {Q : Option Sre.M → Shared → Prop} (h : Ends b m P) (hb : b ≤ 100000)
    (hP : ∀ m, P m → (m.outcome = some .matched ∧ Q (some m) s) ∨ (m.outcome = some .failed ∧ Q none s)) : wpAny M A (reRunToEnd m) Q E s := by
  unfold reRunToEnd
  refine wpAny_bind (wp_reDrive (P := P) (fun m hm => ?_) (fun m' hm => ?_) (2 ^ 64) b m h (by omega))
  · rcases hP m hm with ⟨e, _⟩ | ⟨e, _⟩ <;> rw [e] <;> rfl
  · refine wpAny_bind (wp_quiet (fun a => ?_) ?_ _)
    · split
      · exact wpAny_bind (wpAny_rule (wpAny_pure ⟨rfl, rfl⟩))
      · exact wpAny_pure ⟨rfl, rfl⟩
    · rcases hP m' hm with ⟨e, q⟩ | ⟨e, q⟩
      · rw [e]; exact wpAny_pure q
      · rw [e]; exact wpAny_pure q
end
end Mine
end
section
open PySem PySem.W PyProof.Rows PySem.Calls
set_option maxRecDepth 100000
set_option maxHeartbeats 8000000
namespace Mine
open PySem.Sre PySem.Builtin.Re

theorem slot_findall : Slot "re.Pattern" "findall" "re.Pattern.findall" :=
  .of (owner := "re.Pattern") (n := "findall") (by rw [typeLookup_type, builtinLookup_eq_fast]; kernel_rfl) (by decide +kernel) (by decide +kernel) (by decide +kernel)
    (by first | exact .inl (by decide +kernel) | exact .inr (by decide +kernel)) (by rw [isSubtype_type]; kernel_rfl)
theorem pat_getattribute : typeLookup (.type "re.Pattern") "__getattribute__" = pure (some (.builtin "object.__getattribute__")) := by rw [typeLookup_type, builtinLookup_eq_fast]; kernel_rfl
theorem canon_pat_getattribute : (Manifest.canonical "object.__getattribute__" != "object.__getattribute__") = false := by decide +kernel
theorem pat_getattr_none : typeLookup (.type "re.Pattern") "__getattr__" = pure none := by rw [typeLookup_type, builtinLookup_eq_fast]; kernel_rfl
theorem type_findall : typeOf (.builtin "re.Pattern.findall") = pure (.type "method_descriptor") := by show builtinType _ = _; rw [builtinType_eq_fast]; kernel_rfl
theorem entry_findall : entryFor table "re.Pattern.findall" = some Builtin.«re.Pattern.findall» := entryFor_of_tree (by kernel_rfl)
theorem args_findall (a b : Value) : argsOk "re.Pattern.findall" ⟨[a, b], []⟩ := by unfold argsOk; kernel_rfl

section
variable {M : Model} {A : Around} {E : Value → Shared → Prop} {s : Shared}
theorem getMethod_findall {l : Addr} {o : Obj} {pl : Sem Bool} {Q : Value × List Value → Shared → Prop} (ho : s.heap.get? l = some o) (hc : o.cls = .type "re.Pattern") (hd : o.dict = none)
    (h : Q (.builtin "re.Pattern.findall", [.ref l]) s) : wpAny M A (getMethod (.ref l) "findall" pl) Q E s := by
  have hT : s.TypeIs (.ref l) "re.Pattern" := ⟨o, ho, hc⟩
  unfold getMethod
  refine wpAny_bind (wpAny_specialOf hT pat_getattribute ?_)
  show wpAny M A (if (Manifest.canonical "object.__getattribute__" != "object.__getattribute__") = true then _ else _) Q E s
  rw [canon_pat_getattribute, if_neg Bool.false_ne_true]
  refine wpAny_bind (wpAny_specialOf hT pat_getattr_none ?_)
  refine wpAny_bind (wpAny_specialOf hT slot_findall.lookup ?_)
  refine wpAny_bind (wpAny_of_eq type_findall ?_)
  refine wpAny_bind (wpAny_load ho ?_)
  rw [hd]
  exact wpAny_bind (wpAny_rule (wpAny_pure h))

theorem wp_target {x : Str} {t : Tok} {o o2 : Obj} {fs its : Array Value} {n : Nat} {Q : ReTarget → Shared → Prop} (ho : s.heap.get? 43 = some o) (hd : o.data = .fields fs)
    (h6 : fs.getD 6 .none = .int 0 0) (h5 : fs.getD 5 .none = .ref 42) (h2 : fs.getD 2 .none = .int 4 0)
    (ho2 : s.heap.get? 42 = some o2) (hd2 : o2.data = .seq its n) (hcode : (its.map reRawOf).map (·.toNat) = code) (hx : x.cps.size ≤ 1000)
    (h : Q { pattern := .ref 43, string := .str x t, code := code, text := x.cps, kind := 0, groups := 4, pos := 0, lim := x.cps.size } s) :
    wpAny M A (reTarget "re.Pattern.findall" "findall" ⟨[.ref 43, .str x t], []⟩) Q E s := by
  unfold reTarget
  dsimp only
  refine wpAny_bind (wpAny_of_eq (a := [some (.str x t), none, none]) (by with_unfolding_all rfl) ?_)
  dsimp only
  refine wpAny_bind (wpAny_pure ?_)
  refine wpAny_bind (wpAny_pure ?_)
  refine wpAny_bind (wpAny_fieldsOf ho hd ?_)
  refine wpAny_bind (wpAny_of_eq (a := (x.cps, 0)) (by with_unfolding_all rfl) ?_)
  dsimp only
  rw [h6, h5, h2]
  refine wpAny_bind (wpAny_of_eq (a := ()) rfl ?_)
  refine wpAny_bind (wpAny_bind (wpAny_seqItems ho2 hd2 (wpAny_pure ?_)))
  refine wpAny_pure ?_
  have e1 : (Array.map (fun x => x.toNat) (((some its : Option (Array Value)).getD #[]).map reRawOf)) = code := hcode
  have e2 : min ((2 : Int) ^ 63 - 1).toNat x.cps.size = x.cps.size := Nat.min_eq_right (by
    have : ((2 : Int) ^ 63 - 1).toNat = 9223372036854775807 := by decide
    omega)
  have e3 : min (Int.toNat 0) x.cps.size = 0 := Nat.min_eq_left (Nat.zero_le _)
  rw [e2, e3]
  rw [show Array.map (fun x : Int => x.toNat) (((some its : Option (Array Value)).getD #[]).map reRawOf) = code from hcode]
  exact h
end
end Mine
end
section
open PySem PySem.W PyProof.Rows PySem.Calls
set_option maxRecDepth 100000
set_option maxHeartbeats 8000000
namespace Mine
open PySem.Sre PySem.Builtin.Re

/-- one group's places: start, the letter's, digits, blanks -/
structure Spot where
  s : Nat
  q : Nat
  d : Nat
  e : Nat
def Spot.stop (g : Spot) : Nat := g.q + 1 + g.d + g.e
inductive FA (T : Array Nat) : Nat → List Spot → Prop
  | done {p : Nat} : (∀ t, p ≤ t → ∀ q d e, ¬ Hit T t q d e) → FA T p []
  | hit {p : Nat} {g : Spot} {r : List Spot} : p ≤ g.s → (∀ t, p ≤ t → t < g.s → ∀ q d e, ¬ Hit T t q d e) → Hit T g.s g.q g.d g.e → FA T g.stop r → FA T p (g :: r)
def tupObj (vs : List Value) : Obj := { cls := .type "tuple", data := .seq vs.toArray }
def piece (T : Array Nat) (b e : Nat) (t : Tok) : Value := .str ⟨T.extract b e⟩ t
inductive GrpsIn (T : Array Nat) (led : List (Addr × Obj)) : List Value → List Spot → Prop
  | nil : GrpsIn T led [] []
  | cons {a : Addr} {g : Spot} {t1 t2 t3 t4 : Tok} {vs : List Value} {gs : List Spot} : (a, tupObj [piece T g.s g.q t1, piece T g.q (g.q + 1) t2, piece T (g.q + 1) (g.q + 1 + g.d) t3, piece T (g.q + 1 + g.d) g.stop t4]) ∈ led →
      GrpsIn T led vs gs → GrpsIn T led (.ref a :: vs) (g :: gs)
theorem GrpsIn.mono {T : Array Nat} {led led' : List (Addr × Obj)} {vs : List Value} {gs : List Spot} (h : GrpsIn T led vs gs) (hs : ∀ p ∈ led, p ∈ led') : GrpsIn T led' vs gs := by
  induction h with
  | nil => exact .nil
  | cons hm _ ih => exact .cons (hs _ hm) ih

theorem marksOf_get {ms : Array (Option Nat)} (h : ms.size = 8) (s q d e : Nat) :
    (marksOf ms s q d e).getD 0 none = some s ∧ (marksOf ms s q d e).getD 1 none = some q ∧ (marksOf ms s q d e).getD 2 none = some q ∧ (marksOf ms s q d e).getD 3 none = some (q + 1) ∧
    (marksOf ms s q d e).getD 4 none = some (q + 1) ∧ (marksOf ms s q d e).getD 5 none = some (q + 1 + d) ∧ (marksOf ms s q d e).getD 6 none = some (q + 1 + d) ∧ (marksOf ms s q d e).getD 7 none = some (q + 1 + d + e) := by
  unfold marksOf
  simp [Array.getD_eq_getD_getElem?, h]

section
variable {M : Model} {A : Around} {E : Value → Shared → Prop} {s : Shared}
theorem wp_grp {t : ReTarget} {m : Sre.M} {g b e : Nat} {df : Sem Value} {Q : Value → Shared → Prop} (hk : t.kind = 0) (hl : ((2 * (g - 1) : Nat) : Int) < m.lastmark)
    (h1 : m.marks.getD (2 * (g - 1)) none = some b) (h2 : m.marks.getD (2 * (g - 1) + 1) none = some e) (hbe : b ≤ e) (hsz : t.text.size ≤ 1000)
    (h : ∀ tk, Q (piece t.text b e tk) { s with toks := s.toks + 1 }) : wpAny M A (reMachineGroup t m g df) Q E s := by
  unfold reMachineGroup
  rw [if_neg (by omega), h1, h2]
  dsimp only
  rw [if_neg (by omega)]
  unfold reSlice
  rw [hk]
  refine wpAny_mkStr (h _) ?_
  show (t.text.extract b e).size ≤ sizeLine
  have := Array.size_extract (xs := t.text) (start := b) (stop := e)
  have hs : sizeLine = 16777216 := by decide
  omega
end

abbrev tgt (x : PySem.Str) (t : Tok) : ReTarget := { pattern := Value.ref 43, string := Value.str x t, code := code, text := x.cps, kind := 0, groups := 4, pos := 0, lim := x.cps.size }
abbrev FSt := Array Value × Nat × Bool × Bool
def fbody (x : PySem.Str) (t : Tok) (_ : Nat) (st : FSt) : Sem (ForInStep FSt) :=
  if (!st.2.2.2) = true then
    (if st.2.1 > x.cps.size then pure none else reNextFound (tgt x t) st.2.1 st.2.2.1) >>= fun r =>
    match r with
    | none => pure (ForInStep.yield (st.1, st.2.1, st.2.2.1, true))
    | some m =>
      ((List.range 4).mapM fun g => reMachineGroup (tgt x t) m (g + 1) (reSlice x.cps 0 0 0)) >>= fun vs => newTuple vs >>= fun item =>
      pure (ForInStep.yield (st.1.push item, m.handed, m.handed == m.start, st.2.2.2))
  else pure (ForInStep.yield (st.1, st.2.1, st.2.2.1, st.2.2.2))
theorem wp_over {M : Model} {A : Around} {E : Value → Shared → Prop} {s : Shared} {x : PySem.Str} {t : Tok} {a : Array Value} {b : Nat} {c : Bool} {Q : FSt → Shared → Prop} (h : Q (a, b, c, true) s) :
    ∀ l : List Nat, wpAny M A (forIn l (a, b, c, true) (fbody x t)) Q E s
  | [] => by rw [List.forIn_nil]; exact wpAny_pure h
  | _ :: l => by
    rw [List.forIn_cons]
    refine wpAny_bind (m := fbody x t _ _) (wpAny_pure ?_)
    exact wp_over h l

theorem Hit.stop_le {T : Array Nat} {s q d e : Nat} (H : Hit T s q d e) : q + 1 + d + e ≤ T.size ∧ s + 2 ≤ q + 1 + d + e ∧ s ≤ q := by
  have h1 := H.mark
  have h2 := H.lt
  have h3 := H.pos
  have h4 := cnt_le Unicode.isDecimal T (min 4294967295 (T.size - (q + 1))) (q + 1)
  rw [← H.dig] at h4
  have h5 := cnt_le Unicode.isSpace T (min 4294967295 (T.size - (q + 1 + d))) (q + 1 + d)
  rw [← H.sp] at h5
  omega

theorem FA.len {T : Array Nat} {p : Nat} {gs : List Spot} (h : FA T p gs) (hp : p ≤ T.size) : p + 2 * gs.length ≤ T.size := by
  induction h with
  | done _ => simpa using hp
  | hit h1 _ H _ ih =>
    have h2 := H.stop_le
    have h3 := ih h2.1
    unfold Spot.stop at h3
    simp only [List.length_cons]
    omega
theorem wp_floop {prog : Program} {w : World} {A : Around} {E : Value → Shared → Prop} {x : PySem.Str} {t : Tok} {h₀ : Heap} {L : Addr} {m : PySem.Str → Option Value} (news : List (Addr × Obj)) (z : Nat) (hx : x.cps.size ≤ 1000) {Q : FSt → Shared → Prop} :
    ∀ (l : List Nat) (s : Shared) (start : Nat) (must : Bool) (out : Array Value) (T' : List (Addr × Obj)), start ≤ x.cps.size → x.cps.size - start + 2 ≤ l.length →
      Fr h₀ L s.heap m → News h₀ L s.heap (T' ++ news) → (∀ p ∈ T', z ≤ p.1) → z ≤ s.heap.objs.size →
      (∀ gs vs T'' h' tk' b c, FA x.cps start gs → GrpsIn x.cps T'' vs gs → Fr h₀ L h' m → News h₀ L h' (T'' ++ news) → (∀ p ∈ T', p ∈ T'') → (∀ p ∈ T'', z ≤ p.1) → z ≤ h'.objs.size →
        Q ((out.toList ++ vs).toArray, b, c, true) { s with heap := h', toks := tk' }) →
      wpAny (model prog w) A (forIn l (out, start, must, false) (fbody x t)) Q E s
  | [], _, _, _, _, _, _, hl, _, _, _, _, _ => by simp at hl
  | i :: l, s, start, must, out, T', hst, hl, F, N, hz, hz2, hQ => by
    rw [List.forIn_cons]
    refine wpAny_bind (m := fbody x t _ _) ?_
    unfold fbody
    refine wpAny_ite ?_
    rw [if_pos (by rfl)]
    refine wpAny_bind (wpAny_ite ?_)
    rw [if_neg (by show ¬ start > x.cps.size; omega)]
    refine wp_reRunToEnd (forSearch_ends x.cps start must hst hx) (by omega) fun m' hm => ?_
    rcases hm with ⟨s', q, d, e, h1, h2, W⟩ | ⟨h1, h2⟩
    · refine .inl ⟨W.won, ?_⟩
      dsimp only
      have hH := W.hit
      obtain ⟨b1, b2, b3⟩ := hH.stop_le
      obtain ⟨ms, hms, hmk⟩ := W.marks
      obtain ⟨k0, k1, k2, k3, k4, k5, k6, k7⟩ := marksOf_get hms s' q d e
      rw [← hmk] at k0 k1 k2 k3 k4 k5 k6 k7
      have hlast := W.last
      refine wpAny_bind ?_
      show wpAny _ _ ([0, 1, 2, 3].mapM fun g => reMachineGroup (tgt x t) m' (g + 1) (reSlice x.cps 0 0 0)) _ _ _
      simp only [List.mapM_cons, List.mapM_nil]
      refine wpAny_bind (wp_grp rfl (by rw [hlast]; decide) k0 k1 (by omega) hx fun t1 => ?_)
      refine wpAny_bind (wpAny_bind (wp_grp rfl (by rw [hlast]; decide) k2 k3 (by omega) hx fun t2 => ?_))
      refine wpAny_bind (wpAny_bind (wp_grp rfl (by rw [hlast]; decide) k4 k5 (by omega) hx fun t3 => ?_))
      refine wpAny_bind (wpAny_bind (wp_grp rfl (by rw [hlast]; decide) k6 k7 (by omega) hx fun t4 => ?_))
      refine wpAny_bind (wpAny_pure (wpAny_pure (wpAny_pure (wpAny_pure (wpAny_pure ?_)))))
      refine wpAny_bind ?_
      refine newTuple_N (F := F) (N := N) (fun h' F' N' => ?_) (by
        have hs : sizeLine = 16777216 := by decide
        rw [hs]
        show 4 ≤ 16777216
        decide)
      refine wpAny_pure ?_
      have hh : m'.handed = q + 1 + d + e := W.handed
      dsimp only
      rw [hh]
      refine wp_floop news z hx l _ _ _ _ ((s.heap.objs.size, tupObj [piece x.cps s' q t1, piece x.cps q (q + 1) t2, piece x.cps (q + 1) (q + 1 + d) t3, piece x.cps (q + 1 + d) (q + 1 + d + e) t4]) :: T') b1 ?_ F' N' ?_ ?_ ?_
      · simp only [List.length_cons] at hl; omega
      · intro p hp
        rcases List.mem_cons.mp hp with rfl | hp
        · exact hz2
        · exact hz p hp
      · have := (N' _ (.head _)).1
        exact Nat.le_of_lt (Nat.lt_of_le_of_lt hz2 (Heap.lt_size this))
      · intro gs vs T'' h'' tk' b c hfa hg F'' N'' hsub hz'' hz3
        have := hQ (⟨s', q, d, e⟩ :: gs) (.ref s.heap.objs.size :: vs) T'' h'' tk' b c (.hit h1 h2 hH hfa) (.cons (hsub _ (.head _)) hg) F'' N'' (fun p hp => hsub p (.tail _ hp)) hz'' hz3
        simpa using this
    · refine .inr ⟨h2, ?_⟩
      dsimp only
      refine wpAny_pure ?_
      refine wp_over ?_ l
      have := hQ [] [] T' s.heap s.toks start must (.done h1) .nil F N (fun _ h => h) hz hz2
      simpa using this

abbrev patObj : Obj := { cls := .type "re.Pattern", data := .fields #[.str (Str.ofString "([<>]?)([a-zA-Z])(\\d+)(\\s*)") 292, .int 32 358, .int 4 0, .none, .none, .ref 42, .int 0 0] }
abbrev codeSeq : Array Value := #[.int 14 0, .int 4 0, .int 0 0, .int 2 0, .int 4294967295 0, .int 17 0, .int 0 0, .int 24 0, .int 11 0, .int 0 0, .int 1 0, .int 13 0, .int 6 0, .int 16 0, .int 60 0, .int 16 0, .int 62 0, .int 0 0, .int 1 0, .int 17 0, .int 1 0, .int 17 0, .int 2 0, .int 13 0, .int 8 0, .int 22 0, .int 97 0, .int 122 0, .int 22 0, .int 65 0, .int 90 0, .int 0 0, .int 17 0, .int 3 0, .int 17 0, .int 4 0, .int 24 0, .int 9 0, .int 1 0, .int 4294967295 0, .int 13 0, .int 4 0, .int 8 0, .int 10 0, .int 0 0, .int 1 0, .int 17 0, .int 5 0, .int 17 0, .int 6 0, .int 24 0, .int 9 0, .int 0 0, .int 4294967295 0, .int 13 0, .int 4 0, .int 8 0, .int 12 0, .int 0 0, .int 1 0, .int 17 0, .int 7 0, .int 1 0]
abbrev codeObj : Obj := { cls := .type "tuple", data := .seq codeSeq }
theorem at43 (P : Params) : List.lookup 43 (Mine.hd.heap_39 P) = some patObj := by kernel_rfl
theorem at42 (P : Params) : List.lookup 42 (Mine.hd.heap_39 P) = some codeObj := by kernel_rfl
theorem codeSeq_is : (codeSeq.map reRawOf).map (·.toNat) = code := by decide +kernel

theorem call_findall {prog : Program} {w : World} {A : Around} {E : Value → Shared → Prop} {s : Shared} {x : PySem.Str} {t : Tok} {h₀ : Heap} {L : Addr} {m : PySem.Str → Option Value} {news : List (Addr × Obj)} {Q : Value → Shared → Prop}
    (F : Fr h₀ L s.heap m) (X : (Mine.hd.heap_39 w.params).In h₀) (N : News h₀ L s.heap news) (hx : x.cps.size ≤ 1000)
    (h : ∀ gs vs T' l h' tk', FA x.cps 0 gs → GrpsIn x.cps T' vs gs → Fr h₀ L h' m → News h₀ L h' ((l, listOf vs.toArray 0) :: (T' ++ news)) → (∀ p ∈ T', s.heap.objs.size ≤ p.1) → (∀ p ∈ T', p.1 < l) → s.heap.objs.size ≤ l →
      Q (.ref l) { s with heap := h', toks := tk' }) :
    wpAny (model prog w) A (call (.builtin "re.Pattern.findall") [.ref 43, .str x t]) Q E s := by
  have p43 := (X.keeps F.keep) _ _ (at43 w.params)
  have p42 := (X.keeps F.keep) _ _ (at42 w.params)
  refine wpAny_call_entry slot_findall ⟨_, p43, rfl⟩ entry_findall ?_ (args_findall _ _)
  unfold Builtin.«re.Pattern.findall»
  refine wpAny_bind (wp_target p43 rfl rfl rfl rfl p42 rfl codeSeq_is hx ?_)
  dsimp only
  refine wpAny_bind ?_
  refine wp_floop (prog := prog) (w := w) (x := x) (t := t) (m := m) (h₀ := h₀) (L := L) news s.heap.objs.size hx (List.range (reMostMatches (tgt x t))) s 0 false #[] [] (Nat.zero_le _) ?_ F N (fun _ h => nomatch h) (Nat.le_refl _) ?_
  · rw [List.length_range]
    show _ ≤ 2 * x.cps.size + 3
    omega
  · intro gs vs T'' h' tk' b c hfa hg F' N' _ hz hz3
    dsimp only
    refine wpAny_ite ?_
    rw [if_neg (by decide)]
    refine wpAny_bind ?_
    have hlen : gs.length = vs.length := by
      clear h hfa
      induction hg with
      | nil => rfl
      | cons _ _ ih => simp [ih]
    have hl2 := hfa.len (Nat.zero_le _)
    refine newList_N (F := F') (N := N') (fun h'' F'' N'' => ?_) (by
      have hs : sizeLine = 16777216 := by decide
      rw [hs]
      simp
      omega)
    refine wpAny_pure ⟨_, rfl, ?_⟩
    have hv : (([] : List Value) ++ vs).toArray.toList.toArray = vs.toArray := by simp
    refine h gs vs T'' _ _ _ hfa hg F'' ?_ hz (fun p hp => ?_) hz3
    · simpa using N''
    · exact Heap.lt_size (N' p (List.mem_append_left _ hp)).1
end Mine
end
section
open PySem PySem.W PyProof.Rows
set_option maxRecDepth 100000
set_option maxHeartbeats 8000000
namespace Mine
local macro_rules | `(tactic| k_all) => `(tactic| assumption)

theorem draw_c (w : World) {dp un : Nat} {gd : Option (List Code)} {cn : PySem.Str} {cs : Scope} {a : Addr} {ccd : Value} {cl : List (PySem.Str × Addr)} {outer : List Env} {A₀ : Around} {base h₀ : Heap} {L : Addr} {m : PySem.Str → Option Value} {s : Shared} {Q E : Value → Shared → Prop} {mean : ExcName → Option Value} {mg mb : PySem.Str → Option Value}
  {box few : Addr} {c lim : Int} {tc tl : Tok} {vs : List Value} {ns : List Int} {n1 n2 : Nat} {rest : List (Addr × Obj)}
  (B : Below A₀ base outer h₀) (F : Fr h₀ L s.heap m) (X : (Mine.hd.heap_39 w.params).In h₀)
  (N : News h₀ L s.heap ((box, listOf #[.ref few, .int c tc] n1) :: (few, listOf vs.toArray n2) :: rest)) (hne : few ≠ box) (hrest : ∀ p ∈ rest, p.1 ≠ box)
  (T : Top Mine.hd.view_39 (looseW Mine.hd.view_39 [Str.ofString "_twin_re_1"]) mean mg mb h₀) (hk : cs.kind = .function) (hi : IntsAre vs ns) (hns : 0 < ns.length) (hns' : ns.length ≤ 63) (hc : 0 ≤ c) (hlim : 0 < lim)
  (hd : dp + 1 < recursionLimit) (hu : un + 8 < cLine)
  (hret : ∀ v t t' h' tk', 0 ≤ v → v < lim → Fr h₀ L h' m → News h₀ L h' ((box, listOf #[.ref few, .int (c + 1) t'] n1) :: (few, listOf vs.toArray n2) :: rest) → 
    Q (.int v t) { s with heap := h', toks := tk' }) :
  wpAny (model PySem.Challenge.rw_eh5007_01.row.prog w) (ktrTop dp un gd cn cs L a ccd cl outer) (call (.ref 326) [.ref box, .int lim tl]) Q E s := by
  (w_top off; (have fillIt : PySem.Challenge.rw_eh5007_01 = PySem.Challenge.rw_eh5007_01 ∧ Mine.hd.heap_39 = Mine.hd.heap_39 := by (k_fill; exact ⟨rfl, rfl⟩)); clear fillIt)
  refine wpAny_call ?_
  k_dflt cell_enter
  k_steps
  exact hret _ _ _ _ _ (fmod_lo _ hlim) (fmod_hi _ hlim) (by k_asm) (by k_asm)

theorem few_ne {h₀ h : Heap} {L box few : Addr} {news : List (Addr × Obj)} {c : Int} {tc : Tok} {vs : List Value} {ns : List Int} {n1 n2 : Nat} (N : News h₀ L h news)
    (hb : (box, listOf #[.ref few, .int c tc] n1) ∈ news) (hf : (few, listOf vs.toArray n2) ∈ news) (hi : IntsAre vs ns) : few ≠ box := by
  rintro rfl
  have e := (N _ hb).1.symm.trans (N _ hf).1
  have e2 := Option.some.inj e
  have e3 : #[Value.ref few, Value.int c tc] = vs.toArray := by
    have := congrArg Obj.data e2
    simp only [W.listOf] at this
    injection this
  have e4 : vs = [Value.ref few, Value.int c tc] := by
    have := congrArg Array.toList e3
    simpa using this.symm
  subst e4
  cases hi

theorem draw_g (w : World) {dp un : Nat} {gd : Option (List Code)} {cn : PySem.Str} {cs : Scope} {a : Addr} {ccd : Value} {cl : List (PySem.Str × Addr)} {outer : List Env} {A₀ : Around} {base h₀ : Heap} {L : Addr} {m : PySem.Str → Option Value} {s : Shared} {Q E : Value → Shared → Prop} {mean : ExcName → Option Value} {mg mb : PySem.Str → Option Value}
  {box few : Addr} {c lim : Int} {tc tl : Tok} {vs : List Value} {ns : List Int} {n1 n2 : Nat} {news : List (Addr × Obj)} {nw : Obj → List (Addr × Obj)}
  (B : Below A₀ base outer h₀) (F : Fr h₀ L s.heap m) (X : (Mine.hd.heap_39 w.params).In h₀)
  (N : News h₀ L s.heap news) (U : UpdF box (listOf #[.ref few, .int c tc] n1) news nw) (hf : (few, listOf vs.toArray n2) ∈ news)
  (T : Top Mine.hd.view_39 (looseW Mine.hd.view_39 [Str.ofString "_twin_re_1"]) mean mg mb h₀) (hk : cs.kind = .function) (hi : IntsAre vs ns) (hns : 0 < ns.length) (hns' : ns.length ≤ 63) (hc : 0 ≤ c) (hlim : 0 < lim)
  (hd : dp + 1 < recursionLimit) (hu : un + 8 < cLine)
  (hret : ∀ v t t' h' tk', 0 ≤ v → v < lim → Fr h₀ L h' m → News h₀ L h' (nw (listOf #[.ref few, .int (c + 1) t'] n1)) → 
    Q (.int v t) { s with heap := h', toks := tk' }) :
  wpAny (model PySem.Challenge.rw_eh5007_01.row.prog w) (ktrTop dp un gd cn cs L a ccd cl outer) (call (.ref 326) [.ref box, .int lim tl]) Q E s := by
  obtain ⟨pre, post, rfl, hnw, h1, h2⟩ := U.split
  have hne : few ≠ box := few_ne N (List.mem_append_right _ (.head _)) hf hi
  refine draw_c w (rest := pre ++ post) (n1 := n1) (n2 := n2) (tc := tc) (c := c) B F X (fun p hp => N p ?_) hne (fun p hp => ?_) T hk hi hns hns' hc hlim hd hu (fun v t t' h' tk' a1 a2 F' N' => hret v t t' h' tk' a1 a2 F' fun p hp => N' p ?_)
  · simp only [List.mem_cons, List.mem_append] at hp ⊢
    rcases hp with rfl | rfl | hp | hp
    · simp
    · simpa using hf
    · exact .inl hp
    · exact .inr (.inr hp)
  · rcases List.mem_append.mp hp with q | q
    · exact h1 p q
    · exact h2 p q
  · rw [hnw] at hp
    simp only [List.mem_cons, List.mem_append] at hp ⊢
    rcases hp with hp | rfl | hp
    · exact .inr (.inr (.inl hp))
    · exact .inl rfl
    · exact .inr (.inr (.inr hp))
end Mine
end
section
set_option maxRecDepth 100000
namespace Mine
open PySem PySem.Sre

def isDig (c : Nat) : Bool := 48 ≤ c && c ≤ 57
def isSp (c : Nat) : Bool := c == 32 || c == 9 || c == 10
def okc (c : Nat) : Bool := isMark c || isLet c || isDig c || isSp c || c == 45
theorem okc_lt {c : Nat} (h : okc c = true) : c < 128 := by
  unfold okc isMark isLet isDig isSp at h
  simp only [Bool.or_eq_true, Bool.and_eq_true, beq_iff_eq, decide_eq_true_eq] at h
  omega
theorem uni_all : ∀ c, c < 128 → okc c = true → Unicode.isDecimal c = isDig c ∧ Unicode.isSpace c = isSp c := by decide +kernel
theorem uni {c : Nat} (h : okc c = true) : Unicode.isDecimal c = isDig c ∧ Unicode.isSpace c = isSp c := uni_all c (okc_lt h) h

theorem cnt_congr {P P' : Nat → Bool} {T : Array Nat} : ∀ (n p : Nat), (∀ i, p ≤ i → i < p + n → P (T.getD i 0) = P' (T.getD i 0)) → cnt P T n p = cnt P' T n p
  | 0, _, _ => rfl
  | n + 1, p, h => by
    unfold cnt
    rw [h p (Nat.le_refl _) (by omega), cnt_congr n (p + 1) fun i h1 h2 => h i (by omega) (by omega)]
theorem cnt_of {P : Nat → Bool} {T : Array Nat} : ∀ (n p d : Nat), d ≤ n → (∀ i, i < d → P (T.getD (p + i) 0) = true) → (d < n → P (T.getD (p + d) 0) = false) → cnt P T n p = d
  | 0, _, d, h, _, _ => by simp only [Nat.le_zero_eq] at h; subst h; rfl
  | n + 1, p, 0, _, _, h => by
    unfold cnt
    have := h (by omega)
    rw [Nat.add_zero] at this
    rw [this]; rfl
  | n + 1, p, d + 1, h, h1, h2 => by
    unfold cnt
    have e := h1 0 (by omega)
    rw [Nat.add_zero] at e
    rw [if_pos e, cnt_of n (p + 1) d (by omega) (fun i hi => by have := h1 (i + 1) (by omega); rwa [show p + (i + 1) = p + 1 + i by omega] at this) fun hd => by
      have := h2 (by omega); rwa [show p + (d + 1) = p + 1 + d by omega] at this]
theorem cnt_all {P : Nat → Bool} {T : Array Nat} : ∀ (n p : Nat) (i : Nat), i < cnt P T n p → P (T.getD (p + i) 0) = true
  | 0, _, i, h => by simp [cnt] at h
  | n + 1, p, i, h => by
    unfold cnt at h
    split at h
    · rename_i hp
      cases i with
      | zero => simpa using hp
      | succ i => have := cnt_all (P := P) (T := T) n (p + 1) i (by omega); rwa [show p + (i + 1) = p + 1 + i by omega]
    · omega
theorem cnt_stop {P : Nat → Bool} {T : Array Nat} : ∀ (n p : Nat), cnt P T n p < n → P (T.getD (p + cnt P T n p) 0) = false
  | 0, _, h => by omega
  | n + 1, p, h => by
    unfold cnt at h ⊢
    split at h
    · rename_i hp
      rw [if_pos hp]
      have := cnt_stop (P := P) (T := T) n (p + 1) (by omega)
      rwa [show p + (cnt P T n (p + 1) + 1) = p + 1 + cnt P T n (p + 1) by omega]
    · rename_i hp
      rw [if_neg hp]
      simpa using hp

structure Fine (T : Array Nat) : Prop where
  small : T.size ≤ 64
  ok : ∀ i, i < T.size → okc (T.getD i 0) = true
  runs : ∀ n p, p + n ≤ T.size → cnt isDig T n p ≤ 3

theorem hit_fine {T : Array Nat} (F : Fine T) {s q d e : Nat} : Hit T s q d e ↔
    (q = s + cnt isMark T (min 1 (T.size - s)) s ∧ q < T.size ∧ isLet (T.getD q 0) = true ∧ d = cnt isDig T (T.size - (q + 1)) (q + 1) ∧ 1 ≤ d ∧ e = cnt isSp T (T.size - (q + 1 + d)) (q + 1 + d)) := by
  have hs := F.small
  have e1 : ∀ p, cnt Unicode.isDecimal T (min 4294967295 (T.size - p)) p = cnt isDig T (T.size - p) p := fun p => by
    rw [Nat.min_eq_right (by omega)]
    exact cnt_congr _ _ fun i h1 h2 => (uni (F.ok i (by omega))).1
  have e2 : ∀ p, cnt Unicode.isSpace T (min 4294967295 (T.size - p)) p = cnt isSp T (T.size - p) p := fun p => by
    rw [Nat.min_eq_right (by omega)]
    exact cnt_congr _ _ fun i h1 h2 => (uni (F.ok i (by omega))).2
  constructor
  · intro H
    exact ⟨H.mark, H.lt, H.let_, by rw [← e1]; exact H.dig, H.pos, by rw [← e2]; exact H.sp⟩
  · rintro ⟨a, b, c, d1, d2, d3⟩
    exact ⟨a, b, c, by rw [e1]; exact d1, d2, by rw [e2]; exact d3⟩

theorem hit_det {T : Array Nat} {s q d e q' d' e' : Nat} (H : Hit T s q d e) (H' : Hit T s q' d' e') : q = q' ∧ d = d' ∧ e = e' := by
  have h1 : q = q' := H.mark.trans H'.mark.symm
  subst h1
  have h2 : d = d' := H.dig.trans H'.dig.symm
  subst h2
  exact ⟨rfl, rfl, H.sp.trans H'.sp.symm⟩

/-- what the law's own walk has read -/
inductive Lx (T : Array Nat) : Nat → List Spot → Prop
  | nil : Lx T 0 []
  | snoc {p q d e : Nat} {gs : List Spot} : Lx T p gs → Hit T p q d e → Lx T (q + 1 + d + e) (gs ++ [⟨p, q, d, e⟩])

theorem lx_fa {T : Array Nat} {p : Nat} {gs : List Spot} (h : Lx T p gs) : ∀ {gs' : List Spot}, FA T 0 gs' → ∃ r, gs' = gs ++ r ∧ FA T p r := by
  induction h with
  | nil => intro gs' h'; exact ⟨gs', rfl, h'⟩
  | @snoc p q d e gs _ H ih =>
    intro gs' h'
    obtain ⟨r, rfl, hr⟩ := ih h'
    cases hr with
    | done hn => exact absurd H (hn _ (Nat.le_refl _) _ _ _)
    | @hit _ g r' h1 h2 H2 hr2 =>
      have hs : g.s = p := by
        rcases Nat.lt_or_ge p g.s with h3 | h3
        · exact absurd H (h2 p (Nat.le_refl _) h3 _ _ _)
        · omega
      obtain ⟨gs0, gq, gd, ge⟩ := g
      dsimp only at hs H2
      subst hs
      obtain ⟨rfl, rfl, rfl⟩ := hit_det H H2
      exact ⟨r', by simp, hr2⟩

def spanLen (g : Spot) : Nat := g.stop - g.s
theorem fa_span {T : Array Nat} {p : Nat} {gs : List Spot} (h : FA T p gs) (hp : p ≤ T.size) : p + (gs.map spanLen).sum ≤ T.size := by
  induction h with
  | done _ => simpa using hp
  | hit h1 _ H _ ih =>
    have h2 := H.stop_le
    have h3 := ih h2.1
    simp only [List.map_cons, List.sum_cons]
    unfold spanLen Spot.stop at *
    omega
theorem fa_gap {T : Array Nat} {p : Nat} {gs : List Spot} (h : FA T p gs) (hp : p < T.size) (hm : ∀ q d e, ¬ Hit T p q d e) : p + (gs.map spanLen).sum < T.size := by
  cases h with
  | done _ => simpa using hp
  | @hit _ g r h1 _ H h4 =>
    have h2 := H.stop_le
    have h3 := fa_span h4 h2.1
    have h5 : p ≠ g.s := fun e => hm _ _ _ (e ▸ H)
    simp only [List.map_cons, List.sum_cons]
    unfold spanLen Spot.stop at *
    omega
theorem lx_span {T : Array Nat} {p : Nat} {gs : List Spot} (h : Lx T p gs) : p = (gs.map spanLen).sum ∧ p ≤ T.size := by
  induction h with
  | nil => exact ⟨rfl, Nat.zero_le _⟩
  | snoc _ H ih =>
    have h2 := H.stop_le
    simp only [List.map_append, List.sum_append, List.map_cons, List.map_nil, List.sum_cons, List.sum_nil]
    unfold spanLen Spot.stop at *
    dsimp only
    omega
/-- the groups, as texts -/
def chars (T : Array Nat) (g : Spot) : List Nat := (T.extract g.s g.q).toList ++ (T.extract g.q (g.q + 1)).toList ++ (T.extract (g.q + 1) (g.q + 1 + g.d)).toList ++ (T.extract (g.q + 1 + g.d) g.stop).toList
theorem extract_app (T : Array Nat) {a b c : Nat} (h1 : a ≤ b) (h2 : b ≤ c) : (T.extract a b).toList ++ (T.extract b c).toList = (T.extract a c).toList := by
  simp only [Array.toList_extract, List.extract_eq_take_drop]
  rw [show c - a = (b - a) + (c - b) by omega, List.take_add, List.drop_drop, show a + (b - a) = b by omega]
theorem chars_eq {T : Array Nat} {g : Spot} (H : Hit T g.s g.q g.d g.e) : chars T g = (T.extract g.s g.stop).toList := by
  have h := H.stop_le
  unfold chars Spot.stop
  rw [extract_app T (by omega) (by omega), extract_app T (by omega) (by omega), extract_app T (by omega) (by omega)]
theorem chars_len {T : Array Nat} {g : Spot} (H : Hit T g.s g.q g.d g.e) : (chars T g).length = spanLen g := by
  rw [chars_eq H]
  have h := H.stop_le
  unfold spanLen Spot.stop
  simp only [Array.length_toList, Array.size_extract]
  omega
theorem fa_chars_len {T : Array Nat} {p : Nat} {gs : List Spot} (h : FA T p gs) : (gs.flatMap (chars T)).length = (gs.map spanLen).sum := by
  induction h with
  | done _ => rfl
  | hit _ _ H _ ih => rw [List.flatMap_cons, List.length_append, chars_len H, ih, List.map_cons, List.sum_cons]
theorem lx_chars {T : Array Nat} {p : Nat} {gs : List Spot} (h : Lx T p gs) : gs.flatMap (chars T) = (T.extract 0 p).toList := by
  induction h with
  | nil => simp
  | snoc _ H ih =>
    have h2 := H.stop_le
    rw [List.flatMap_append, ih, List.flatMap_cons, List.flatMap_nil, List.append_nil]
    rw [chars_eq (g := ⟨_, _, _, _⟩) H]
    exact extract_app T (by omega) (by unfold Spot.stop; dsimp only; omega)

theorem fa_all {T : Array Nat} {gs gs' : List Spot} (h : Lx T T.size gs) (h' : FA T 0 gs') : gs' = gs ∧ gs'.flatMap (chars T) = T.toList := by
  obtain ⟨r, e, hr⟩ := lx_fa h h'
  cases hr with
  | done _ =>
    rw [List.append_nil] at e
    subst e
    exact ⟨rfl, by rw [lx_chars h]; simp⟩
  | hit h1 _ H _ => have := H.stop_le; omega
theorem fa_fail {T : Array Nat} {p : Nat} {gs gs' : List Spot} (h : Lx T p gs) (hp : p < T.size) (hm : ∀ q d e, ¬ Hit T p q d e) (h' : FA T 0 gs') : gs'.flatMap (chars T) ≠ T.toList := by
  obtain ⟨r, e, hr⟩ := lx_fa h h'
  intro he
  have h1 := fa_chars_len h'
  rw [he, e, List.map_append, List.sum_append, ← (lx_span h).1] at h1
  have h2 := fa_gap hr hp hm
  simp only [Array.length_toList] at h1
  omega
end Mine
end
section
open PySem PySem.W PyProof.Rows PySem.Calls
set_option maxRecDepth 100000
set_option maxHeartbeats 8000000
namespace Mine
def Halt (P : Prop) : Prop := P
theorem Halt.out {P : Prop} (h : Halt P) : P := h
theorem Halt.mk {P : Prop} (h : P) : Halt P := h
theorem size_line : sizeLine = 16777216 := by decide
structure Go : Prop where
def PostF (s : Shared) (g : Heap) (L : Addr) (J : (PySem.Str → Option Value) → List (Addr × Obj) → Prop) (fl : Flow) (s' : Shared) : Prop :=
  fl = .next ∧ ∃ h' tk' m' nw, s' = { s with heap := h', toks := tk' } ∧ Fr g L h' m' ∧ News g L h' nw ∧ J m' nw
theorem PostF.intro {s : Shared} {g h' : Heap} {L : Addr} {J : (PySem.Str → Option Value) → List (Addr × Obj) → Prop} {m' : PySem.Str → Option Value} {nw : List (Addr × Obj)} {tk' : Nat} (F : Fr g L h' m') (N : News g L h' nw) (hJ : J m' nw) :
    PostF s g L J .next { s with heap := h', toks := tk' } := ⟨rfl, _, _, _, _, rfl, F, N, hJ⟩
theorem cutF {prog : Program} {w : World} {A : Around} {E : Value → Shared → Prop} {t : Sem Flow} {Q : Flow → Shared → Prop} {s : Shared} {g : Heap} {L : Addr} (J : (PySem.Str → Option Value) → List (Addr × Obj) → Prop)
    (h : wpAny (model prog w) A t (PostF s g L J) E s) (k : ∀ h' tk' m' nw, Fr g L h' m' → News g L h' nw → J m' nw → Q .next { s with heap := h', toks := tk' }) : wpAny (model prog w) A t Q E s :=
  wpAny_mono h (fun fl s' ⟨e, h', tk', m', nw, e2, F, N, hJ⟩ => by subst e; subst e2; exact k h' tk' m' nw F N hJ) fun _ _ e => e
def one (c : Nat) : PySem.Str := ⟨#[c]⟩
def isPad (c : Nat) : Bool := c == 112 || c == 80
def isVal (c : Nat) : Bool := c == 117 || c == 115 || c == 102 || c == 98 || c == 116 || c == 114
def isUB (c : Nat) : Bool := c == 117 || c == 98

section
variable {prog : Program} {w : World} {A : Around} {E : Value → Shared → Prop} {s : Shared} {c : Nat} {t u : Tok} {Q : Value → Shared → Prop}
theorem r_in {S : PySem.Str} {f : Nat → Bool} (hf : ∀ c, decide (c ∈ S.cps.toList) = f c) (h : Q (.bool (f c)) s) : wpAny (model prog w) A (compareOp .In (.str (one c) u) (.str S t)) Q E s := by
  refine PyProof.Rows.in_str ?_
  have := StrLaws.found_one S c
  unfold one
  rw [this, hf]
  exact h
theorem r_notIn {S : PySem.Str} {f : Nat → Bool} (hf : ∀ c, decide (c ∈ S.cps.toList) = f c) (h : Q (.bool (!f c)) s) : wpAny (model prog w) A (compareOp .NotIn (.str (one c) u) (.str S t)) Q E s := by
  refine PyProof.Rows.notIn_str ?_
  have := StrLaws.found_one S c
  unfold one
  rw [this, hf]
  exact h
theorem mem_marks (c : Nat) : decide (c ∈ (Str.ofString "<>").cps.toList) = isMark c := by
  rw [show (Str.ofString "<>").cps.toList = [60, 62] by decide +kernel]
  unfold isMark
  rw [Bool.eq_iff_iff]; simp
theorem mem_marks' (c : Nat) : decide (c ∈ (Str.ofString "><").cps.toList) = isMark c := by
  rw [show (Str.ofString "><").cps.toList = [62, 60] by decide +kernel]
  unfold isMark
  rw [Bool.eq_iff_iff]; simp; omega
theorem mem_pads (c : Nat) : decide (c ∈ (Str.ofString "pP").cps.toList) = isPad c := by
  rw [show (Str.ofString "pP").cps.toList = [112, 80] by decide +kernel]
  unfold isPad
  rw [Bool.eq_iff_iff]; simp
theorem mem_ub (c : Nat) : decide (c ∈ (Str.ofString "ub").cps.toList) = isUB c := by
  rw [show (Str.ofString "ub").cps.toList = [117, 98] by decide +kernel]
  unfold isUB
  rw [Bool.eq_iff_iff]; simp
theorem mem_vals (c : Nat) : decide (c ∈ (Str.ofString "usfbtr").cps.toList) = isVal c := by
  rw [show (Str.ofString "usfbtr").cps.toList = [117, 115, 102, 98, 116, 114] by decide +kernel]
  unfold isVal
  rw [Bool.eq_iff_iff]; simp [or_assoc]
theorem mem_digs (c : Nat) : decide (c ∈ (Str.ofString "0123456789").cps.toList) = isDig c := by
  rw [show (Str.ofString "0123456789").cps.toList = [48, 49, 50, 51, 52, 53, 54, 55, 56, 57] by decide +kernel]
  unfold isDig
  rw [Bool.eq_iff_iff]; simp; omega
theorem mem_sps (c : Nat) : decide (c ∈ (Str.ofString " \t\n").cps.toList) = isSp c := by
  rw [show (Str.ofString " \t\n").cps.toList = [32, 9, 10] by decide +kernel]
  unfold isSp
  rw [Bool.eq_iff_iff]; simp [or_assoc]
theorem letters_list : (Str.ofString "abcdefghijklmnopqrstuvwxyzABCDEFGHIJKLMNOPQRSTUVWXYZ").cps.toList = (List.range 26).map (· + 97) ++ (List.range 26).map (· + 65) := by decide +kernel
theorem mem_lets (c : Nat) : decide (c ∈ (Str.ofString "abcdefghijklmnopqrstuvwxyzABCDEFGHIJKLMNOPQRSTUVWXYZ").cps.toList) = isLet c := by
  rw [letters_list]
  unfold isLet
  rw [Bool.eq_iff_iff]
  simp only [decide_eq_true_eq, List.mem_append, List.mem_map, List.mem_range, Bool.or_eq_true, Bool.and_eq_true]
  constructor
  · rintro (⟨a, h, rfl⟩ | ⟨a, h, rfl⟩) <;> omega
  · rintro (h | h)
    · exact .inl ⟨c - 97, by omega, by omega⟩
    · exact .inr ⟨c - 65, by omega, by omega⟩

theorem item_is {b : PySem.Str} {k : Nat} (h : k < b.cps.size) : Txt.item b (k : Int) = one (b.cps.getD k 0) := by
  unfold Txt.item one Txt.charAt
  rw [seqIndex_of (by omega) (by exact Int.ofNat_lt.mpr h)]
  simp only [Int.toNat_natCast, Option.bind_some, Array.getD_eq_getD_getElem?]
theorem r_item {value slice : Expr} {b : PySem.Str} {i : Int} (h0 : 0 ≤ i) (h1 : i < (b.cps.size : Int)) (hfit : b.cps.size ≤ 1000) (h : Q (.str (one (b.cps.getD i.toNat 0)) s.toks) { s with toks := s.toks + 1 })
    (hs : subscripted slice false (.str b t) (.int i u) = operate [.str b t, .int i u] (getItem (.str b t) (.int i u)) := by with_unfolding_all rfl)
    (ht : ∀ r, letTemporaryGo value (.str b t) r = pure () := by intro _; with_unfolding_all rfl) :
    wpAny (model prog w) A (subscriptTail value slice (.str b t) (.int i u)) Q E s := by
  obtain ⟨k, rfl⟩ := Int.eq_ofNat_of_zero_le h0
  refine item_str ?_ (by omega) (by exact h1) (fun _ => ?_) hs ht
  · unfold fitsSsize
    simp
    omega
  · rw [item_is (by omega)]
    exact h
theorem item_last {b : PySem.Str} (h : 0 < b.cps.size) : Txt.item b (-1) = one (b.cps.getD (b.cps.size - 1) 0) := by
  rw [← item_is (by omega)]
  have e : (b.length : Int) = b.cps.size := rfl
  have e1 : seqIndex? (-1) b.length = some (b.cps.size - 1) := by
    unfold seqIndex?
    dsimp only
    rw [if_pos (by decide : (-1:Int) < 0), e]
    rw [if_pos (by simp only [Bool.and_eq_true, decide_eq_true_eq]; omega)]
    congr 1
    omega
  have e2 : seqIndex? ((b.cps.size - 1 : Nat) : Int) b.length = some (b.cps.size - 1) := by
    rw [seqIndex_of (by omega) (by rw [e]; omega)]
    simp
  unfold Txt.item Txt.charAt
  rw [e1, e2]
theorem r_last {value slice : Expr} {b : PySem.Str} (h1 : 0 < b.cps.size) (h : Q (.str (one (b.cps.getD (b.cps.size - 1) 0)) s.toks) { s with toks := s.toks + 1 })
    (hs : subscripted slice false (.str b t) (.int (-1) u) = operate [.str b t, .int (-1) u] (getItem (.str b t) (.int (-1) u)) := by with_unfolding_all rfl)
    (ht : ∀ r, letTemporaryGo value (.str b t) r = pure () := by intro _; with_unfolding_all rfl) :
    wpAny (model prog w) A (subscriptTail value slice (.str b t) (.int (-1) u)) Q E s := by
  have e : (b.length : Int) = b.cps.size := rfl
  refine item_str (by decide) (by omega) (by omega) (fun _ => ?_) hs ht
  rw [item_last h1]
  exact h
theorem filterMap_range (l : List Nat) : ∀ n, n ≤ l.length → (List.range n).filterMap (fun i => l[i]?) = l.take n := by
  intro n
  induction n with
  | zero => intro _; rfl
  | succ n ih =>
    intro h
    rw [List.range_succ, List.filterMap_append, ih (by omega), List.take_add_one]
    congr 1
theorem slice_init {b : PySem.Str} (h : 0 < b.cps.size) : Txt.slice b none (some (-1)) = ⟨b.cps.extract 0 (b.cps.size - 1)⟩ := by
  have e : b.length = b.cps.size := rfl
  have e1 : Builtin.Str.strSliceIndices none (some (-1)) 1 b.length = List.range (b.cps.size - 1) := by
    unfold Builtin.Str.strSliceIndices
    dsimp only
    rw [e, if_pos (by decide : (1:Int) > 0), if_pos (by decide : (1:Int) > 0), if_pos (by decide : (-1:Int) < 0)]
    unfold sliceRange
    rw [if_pos (by decide : (1:Int) > 0)]
    have hm : max (0:Int) (min (-1 + (b.cps.size : Int)) b.cps.size) = ((b.cps.size - 1 : Nat) : Int) := by omega
    rw [hm]
    have hc : (if (0:Int) < ((b.cps.size - 1 : Nat) : Int) then (((b.cps.size - 1 : Nat) : Int) - 0 + 1 - 1) / 1 else 0).toNat = b.cps.size - 1 := by
      split <;> omega
    dsimp only
    rw [hc]
    conv => rhs; rw [← List.map_id (List.range (b.cps.size - 1))]
    congr 1
    funext k
    simp
  unfold Txt.slice
  rw [e1]
  rw [if_neg (by simp; rw [e]; omega)]
  congr 1
  have := filterMap_range b.cps.toList (b.cps.size - 1) (by simp)
  simp only [Array.getElem?_toList] at this
  apply Array.ext'
  rw [this]
  simp [List.dropLast_eq_take]
theorem r_init {value slice : Expr} {b : PySem.Str} {h₀ : Heap} {L : Addr} {m : PySem.Str → Option Value} {news : List (Addr × Obj)} (hF : Fr h₀ L s.heap m) (hN : News h₀ L s.heap news) (h1 : 0 < b.cps.size) (hfit : b.cps.size ≤ 1000)
    (h : ∀ h' t' k, Fr h₀ L h' m → News h₀ L h' news → Q (.str ⟨b.cps.extract 0 (b.cps.size - 1)⟩ t') { s with heap := h', toks := k })
    (hs : subscripted slice false (.str b t) (.ref s.heap.objs.size) = operate [.ref s.heap.objs.size, .str b t] (getItem (.str b t) (.ref s.heap.objs.size)) := by with_unfolding_all rfl)
    (ht : ∀ r, letTemporaryGo value (.str b t) r = pure () := by intro _; with_unfolding_all rfl) :
    wpAny (model prog w) A (subscriptTail value slice (.str b t) (.ref s.heap.objs.size)) Q E { s with heap := s.heap.push { cls := .type "slice", data := .fields #[.none, .int (-1) u, .none] } } := by
  refine slice_strN_ns hF hN (fun h' t' k F' N' => ?_) hs ht (by
    have hz : sizeLine = 16777216 := by decide
    have e : b.length = b.cps.size := rfl
    omega)
  rw [slice_init h1]
  exact h h' t' k F' N'
theorem r_len {x : PySem.Str} (hfit : x.cps.size ≤ 1000) (h : Q (.int x.cps.size (s.toks + 1)) { s with toks := s.toks + 1 + 1 }) : wpAny (model prog w) A (call (.builtin "len") [.str x t]) Q E s :=
  len_str (by have e : x.length = x.cps.size := rfl; rw [e]; omega) h
theorem r_add {x y : PySem.Str} (h1 : x.cps.size ≤ 1000) (h2 : y.cps.size ≤ 1000) (h : ∀ t' tk, Q (.str ⟨x.cps ++ y.cps⟩ t') { s with toks := tk }) : wpAny (model prog w) A (binaryOp .Add (.str x t) (.str y u)) Q E s :=
  PyProof.Rows.add_str h (by
    have hz : sizeLine = 16777216 := by decide
    have e : ∀ z : PySem.Str, z.length = z.cps.size := fun _ => rfl
    rw [e, e]; omega)
end

section
variable {prog : Program} {w : World} {A : Around} {E : Value → Shared → Prop} {s : Shared} {h₀ : Heap} {L : Addr} {m : PySem.Str → Option Value} {news : List (Addr × Obj)}
theorem r_newTuple {vs : List Value} {Q : Value → Shared → Prop} (F : Fr h₀ L s.heap m) (N : News h₀ L s.heap news)
    (h : ∀ a h', Fr h₀ L h' m → News h₀ L h' ((a, tupObj vs) :: news) → (∀ p ∈ news, p.1 < a) → Q (.ref a) { s with heap := h' }) (hsz : vs.length ≤ 1000) : wpAny (model prog w) A (newTuple vs) Q E s :=
  newTuple_N F N (fun h' F' N' => h _ h' F' N' fun p hp => Heap.lt_size (N p hp).1) (by
    have hz : sizeLine = 16777216 := by decide
    omega)
theorem allNe {d : Addr} {l : List (Addr × Obj)} (h : AllLt d l) : ∀ p ∈ l, p.1 ≠ d := by
  induction l with
  | nil => intro p hp; cases hp
  | cons x l ih =>
    intro p hp
    rcases List.mem_cons.mp hp with rfl | hp
    · exact Nat.ne_of_lt h.1
    · exact ih h.2 p hp
theorem allLt_mem {d : Addr} {l : List (Addr × Obj)} (h : AllLt d l) : ∀ p ∈ l, p.1 < d := by
  induction l with
  | nil => intro p hp; cases hp
  | cons x l ih =>
    intro p hp
    rcases List.mem_cons.mp hp with rfl | hp
    · exact h.1
    · exact ih h.2 p hp
end
end Mine
end
section
open PySem PySem.W PyProof.Rows PySem.Sre
set_option maxRecDepth 100000
namespace Mine
structure Row where
  c : Nat
  z : Int
  o : Nat
def num (T : Array Nat) (g : Spot) : Int := (NumText.digitsVal (T.extract (g.q + 1) (g.q + 1 + g.d)).toList : Nat)
def ordOf (T : Array Nat) (g : Spot) (o : Nat) : Nat := if g.q = g.s then o else T.getD g.s 0
def rowsOf (T : Array Nat) : Nat → List Spot → List Row
  | _, [] => []
  | o, g :: gs => ⟨T.getD g.q 0, num T g, ordOf T g o⟩ :: rowsOf T (ordOf T g o) gs
def lastO (T : Array Nat) : Nat → List Spot → Nat
  | o, [] => o
  | o, g :: gs => lastO T (ordOf T g o) gs
theorem rowsOf_snoc (T : Array Nat) (g : Spot) : ∀ (gs : List Spot) (o : Nat), rowsOf T o (gs ++ [g]) = rowsOf T o gs ++ [⟨T.getD g.q 0, num T g, ordOf T g (lastO T o gs)⟩]
  | [], _ => rfl
  | h :: gs, o => by
    show _ :: rowsOf T _ (gs ++ [g]) = _
    rw [rowsOf_snoc T g gs]; rfl
theorem lastO_snoc (T : Array Nat) (g : Spot) : ∀ (gs : List Spot) (o : Nat), lastO T o (gs ++ [g]) = ordOf T g (lastO T o gs)
  | [], _ => rfl
  | h :: gs, o => lastO_snoc T g gs _
theorem rowsOf_len (T : Array Nat) : ∀ (gs : List Spot) (o : Nat), (rowsOf T o gs).length = gs.length
  | [], _ => rfl
  | h :: gs, o => by show (rowsOf T _ gs).length + 1 = gs.length + 1; rw [rowsOf_len T gs]

inductive RowsIn (led : List (Addr × Obj)) : List Value → List Row → Prop
  | nil : RowsIn led [] []
  | cons {a : Addr} {r : Row} {t1 t2 t3 : Tok} {vs : List Value} {rs : List Row} : (a, tupObj [.str (one r.c) t1, .int r.z t2, .str (one r.o) t3]) ∈ led → RowsIn led vs rs → RowsIn led (.ref a :: vs) (r :: rs)
theorem RowsIn.mono {led led' : List (Addr × Obj)} {vs : List Value} {rs : List Row} (h : RowsIn led vs rs) (hs : ∀ p ∈ led, p ∈ led') : RowsIn led' vs rs := by
  induction h with
  | nil => exact .nil
  | cons hm _ ih => exact .cons (hs _ hm) ih
theorem RowsIn.len {led : List (Addr × Obj)} {vs : List Value} {rs : List Row} (h : RowsIn led vs rs) : vs.length = rs.length := by
  induction h with
  | nil => rfl
  | cons _ _ ih => simp [ih]
theorem RowsIn.snoc {led : List (Addr × Obj)} {vs : List Value} {rs : List Row} (h : RowsIn led vs rs) {a : Addr} {r : Row} {t1 t2 t3 : Tok} (hm : (a, tupObj [.str (one r.c) t1, .int r.z t2, .str (one r.o) t3]) ∈ led) :
    RowsIn led (vs ++ [.ref a]) (rs ++ [r]) := by
  induction h with
  | nil => exact .cons hm .nil
  | cons h1 _ ih => exact .cons h1 ih
theorem RowsIn.get {led : List (Addr × Obj)} {vs : List Value} {rs : List Row} (h : RowsIn led vs rs) : ∀ (i : Nat) (v : Value), vs[i]? = some v → ∃ a r t1 t2 t3, v = .ref a ∧ rs[i]? = some r ∧ (a, tupObj [.str (one r.c) t1, .int r.z t2, .str (one r.o) t3]) ∈ led := by
  induction h with
  | nil => intro i v h; simp at h
  | cons h1 _ ih =>
    intro i v h
    cases i with
    | zero => simp at h; exact ⟨_, _, _, _, _, h.symm, rfl, h1⟩
    | succ i => exact ih i v (by simpa using h)

def GoodRow (r : Row) : Prop := isLet r.c = true ∧ 0 ≤ r.z ∧ r.z ≤ 999 ∧ isMark r.o = true

theorem digitsVal_le {cs : List Nat} (h : NumText.AllDigits cs) (hl : cs.length ≤ 3) : NumText.digitsVal cs ≤ 999 := by
  unfold NumText.digitsVal
  match cs, h, hl with
  | [], _, _ => decide
  | [a], h, _ =>
    have h1 := h a (by simp)
    simp only [List.foldl_cons, List.foldl_nil]; omega
  | [a, b], h, _ =>
    have h1 := h a (by simp)
    have h2 := h b (by simp)
    simp only [List.foldl_cons, List.foldl_nil]; omega
  | [a, b, c], h, _ =>
    have h1 := h a (by simp)
    have h2 := h b (by simp)
    have h3 := h c (by simp)
    simp only [List.foldl_cons, List.foldl_nil]; omega
  | _ :: _ :: _ :: _ :: _, _, hl => simp at hl
theorem num_ok {T : Array Nat} (F : Fine T) {g : Spot} (H : Hit T g.s g.q g.d g.e) :
    PySem.intText? ⟨T.extract (g.q + 1) (g.q + 1 + g.d)⟩ = some (num T g) ∧ 0 ≤ num T g ∧ num T g ≤ 999 ∧ g.d ≤ 3 := by
  have h := (hit_fine F).mp H
  have hb := H.stop_le
  have hr := F.runs (T.size - (g.q + 1)) (g.q + 1) (by omega)
  rw [← h.2.2.2.1] at hr
  have hlen : (T.extract (g.q + 1) (g.q + 1 + g.d)).toList.length = g.d := by simp; omega
  have hall : NumText.AllDigits (T.extract (g.q + 1) (g.q + 1 + g.d)).toList := by
    intro c hc
    obtain ⟨i, hi, rfl⟩ := List.mem_iff_getElem.mp hc
    rw [hlen] at hi
    have := cnt_all (P := isDig) (T := T) (T.size - (g.q + 1)) (g.q + 1) i (by rw [← h.2.2.2.1]; exact hi)
    have e : T.getD (g.q + 1 + i) 0 = (T.extract (g.q + 1) (g.q + 1 + g.d)).toList[i] := by
      rw [Array.getElem_toList, Array.getElem_extract, Array.getD_eq_getD_getElem?, Array.getElem?_eq_getElem (by omega)]
      rfl
    rw [e] at this
    unfold isDig at this
    simpa [Bool.and_eq_true] using this
  refine ⟨?_, Int.natCast_nonneg _, ?_, hr⟩
  · refine PySem.intText_digits hall ?_ ?_
    · intro e
      rw [e] at hlen
      simp at hlen
      omega
    · show (T.extract (g.q + 1) (g.q + 1 + g.d)).size ≤ 4300
      simp; omega
  · have := digitsVal_le hall (by omega)
    unfold num
    omega
end Mine
end
section
open PySem PySem.W PyProof.Rows PySem.Calls
set_option maxRecDepth 100000
set_option maxHeartbeats 8000000
namespace Mine
def TurnEnd (h₀ : Heap) (L R : Addr) (J : (PySem.Str → Option Value) → List (Addr × Obj) → Prop) (own : List (Addr × Obj)) (s₁ : Shared) (Q : Flow → Shared → Prop) (f : Flow) (s₂ : Shared) : Prop :=
  match f with
  | .ret v => Q (.ret v) s₂
  | .brk => Q .next s₂
  | _ => ∃ h' tk m' news', s₂ = { s₁ with heap := h', toks := tk } ∧ Fr h₀ L h' m' ∧ News h₀ L h' (news' ++ own) ∧ (∀ p ∈ news', ∀ q ∈ own, q.1 = R ∨ p.1 ≠ q.1) ∧ J m' news'

def TgtOk : Expr → Prop
  | .Tuple _ _ _ => True
  | .Name _ _ => True
  | _ => False
theorem letGo_list {prog : Program} {w : World} {A : Around} {target : Expr} {I l : Addr} {i : Nat} {s : Shared} {v : Value} {Q : Unit → Shared → Prop} {E : Value → Shared → Prop} (ht : TgtOk target) (hit : s.heap.IsListIter I l i) (hQ : Q () s) :
    wpAny (model prog w) A (letOwnedTupleGo target (.ref I) v) Q E s := by
  cases target with
  | Tuple elts k pos =>
    cases v with
    | ref T => exact wpAny_letOwnedTupleGo_listiter hit hQ
    | _ => exact wpAny_pure hQ
  | Name x p => exact wpAny_pure hQ
  | _ => exact ht.elim

theorem forL {prog : Program} {w : World} {A : Around} {E : Value → Shared → Prop} {s : Shared} {env : Env} {h₀ : Heap} {target : Expr} {body : List Stmt} {Q : Flow → Shared → Prop} {R : Addr} {items : List Value} {n : Nat} {m : PySem.Str → Option Value} {news : List (Addr × Obj)}
    (J : Nat → (PySem.Str → Option Value) → List (Addr × Obj) → Prop) (ht : TgtOk target) (hh : A.handled = none) (F : Fr h₀ env.locals s.heap m) (N : News h₀ env.locals s.heap news) (hR : (R, W.listOf items.toArray n) ∈ news) (hJ : J 0 m news)
    (turn : ∀ i v m₁ news₁ h₁ tk₁ own, items[i]? = some v → J i m₁ news₁ → (∀ p ∈ news₁, ∀ q ∈ own, q.1 = R ∨ p.1 ≠ q.1) → Fr h₀ env.locals h₁ m₁ → News h₀ env.locals h₁ (news₁ ++ own) →
      wpAny (model prog w) A (assign target env v) (fun _ s₂ => wpAny (model prog w) A (execs body env) (TurnEnd h₀ env.locals R (J (i + 1)) own { s with heap := h₁, toks := tk₁ } Q) E s₂) E { s with heap := h₁, toks := tk₁ })
    (done : ∀ h' tk m' news', Fr h₀ env.locals h' m' → News h₀ env.locals h' news' → J items.length m' news' → Q .next { s with heap := h', toks := tk }) :
    wpAny (model prog w) A (pyIter (.ref R)) (fun it s₂ => TurnsAt prog w A h₀ env target body Q E it s₂) E s := by
  have hls : s.heap.IsList R items.toArray := News.isList N hR
  have hRlt : R < s.heap.objs.size := Heap.lt_size (N _ hR).1
  have hne : R ≠ s.heap.objs.size := Nat.ne_of_lt hRlt
  refine wpAny_pyIter_list hls ?_
  have W := Walks.list (prog := prog) (w := w) hh s.heap.objs.size R hne items.toArray
  have hlen : items.toArray.size = items.length := by simp
  rw [hlen] at W
  have hI : (s.heap.push { cls := .type "list_iterator", data := .fields #[.ref R, .int 0 0] }).get? s.heap.objs.size = some { cls := .type "list_iterator", data := .fields #[.ref R, .int 0 0] } := Heap.get?_push_size _ rfl
  refine ⟨_, _, _, items.length, _, _, _, m, news, J, rfl, KTurns.ofWalks W (fun i v s' Q' E' hst hQ => letGo_list ht hst.1 hQ), ?_, ?_, ?_, ⟨⟨_, hI, rfl, rfl⟩, hls.at fun o e => Heap.get?_push_of_some _ e⟩, F.push _, (fun p hp => ⟨Heap.get?_push_of_some _ (N p hp).1, (N p hp).2⟩), hJ, ?_, ?_⟩
  · intro hm
    rcases List.mem_cons.mp hm with e | hm
    · exact absurd F.ns.lt (e ▸ Nat.lt_irrefl _)
    · exact (N _ hR).2.1 (List.mem_singleton.mp hm).symm
  · intro b hb
    rw [List.mem_singleton.mp hb]
    exact next_is_new F
  · intro p hp hI
    exact absurd (Heap.lt_size (N p hp).1) ((List.mem_singleton.mp hI) ▸ Nat.lt_irrefl _)
  · intro i v m₁ news₁ h₁ tk₁ own hi hP hJ₁ hoff hown hget hall hst F₁ N₁
    have hv : items[i]? = some v := by simpa using hP
    have hap : ∀ p ∈ news₁, ∀ q ∈ own, q.1 = R ∨ p.1 ≠ q.1 := by
      intro p hp q hq
      rcases List.mem_cons.mp (hown q hq) with e | e
      · exact .inr fun z => hoff p hp (by rw [z, e]; exact .head _)
      · exact .inl (List.mem_singleton.mp e)
    have N₂ : News h₀ env.locals h₁ (news₁ ++ own) := News.perm N₁ fun p hp => (List.mem_append.mp hp).elim (fun h => List.mem_append_right _ h) fun h => List.mem_append_left _ h
    obtain ⟨oI, hoI, _⟩ := hst.1
    have hIown : (s.heap.objs.size, oI) ∈ own := hall _ (.head _) (next_is_new F) _ hoI
    refine wpAny_mono (turn i v m₁ news₁ h₁ tk₁ own hv hJ₁ hap F₁ N₂) (fun _ s₂ h₂ => wpAny_mono h₂ (fun f s₃ p => ?_) fun _ _ e => e) fun _ _ e => e
    have fin : (∃ h' tk m' news', s₃ = { s with heap := h', toks := tk } ∧ Fr h₀ env.locals h' m' ∧ News h₀ env.locals h' (news' ++ own) ∧ (∀ p ∈ news', ∀ q ∈ own, q.1 = R ∨ p.1 ≠ q.1) ∧ J (i + 1) m' news') →
        LoopStepU h₀ env.locals [s.heap.objs.size] own (J (i + 1)) { s with heap := h₁, toks := tk₁ } .next s₃ := by
      rintro ⟨h', tk, m', news', rfl, F', N', hap', hJ'⟩
      refine ⟨rfl, h', tk, m', news', rfl, F', News.perm N' fun p hp => (List.mem_append.mp hp).elim (fun h => List.mem_append_right _ h) fun h => List.mem_append_left _ h, fun p hp hq => ?_, hJ'⟩
      rcases hap' p hp _ hIown with e | e
      · exact hne e.symm
      · exact e (List.mem_singleton.mp hq)
    cases f with
    | ret v => exact .ret p
    | brk => exact .brk p
    | next => exact .next (fin p)
    | cont => exact .cont (fin p)
  · intro h' tk m' news' F' N' _ hJ'
    exact done h' tk m' news' F' N' hJ'
end Mine
end
section
open PySem PySem.W PyProof.Rows PySem.Sre
set_option maxRecDepth 100000
namespace Mine
inductive NameV where
  | none
  | int (i : Int)
  | str (x : PySem.Str)
structure Item where
  row : Row
  name : NameV
inductive NmIs : NameV → Value → Prop
  | none : NmIs .none .none
  | int {i : Int} {t : Tok} : NmIs (.int i) (.int i t)
  | str {x : PySem.Str} {t : Tok} : NmIs (.str x) (.str x t)
inductive DueR where
  | err
  | idx
  | ok (l : List Item)
def DueR.pre (its : List Item) : DueR → DueR
  | .ok l => .ok (its ++ l)
  | .err => .err
  | .idx => .idx
theorem DueR.pre_pre (a b : List Item) (d : DueR) : (d.pre a).pre b = d.pre (b ++ a) := by cases d <;> simp [DueR.pre]
theorem DueR.pre_nil (d : DueR) : d.pre [] = d := by cases d <;> rfl
def due (names : Option (List PySem.Str)) : Nat → List Row → DueR
  | _, [] => .ok []
  | p, r :: rs =>
    if r.z = 0 then .err
    else if isPad r.c = true then (due names p rs).pre [⟨r, .none⟩]
    else match names with
      | none => if isVal r.c = true then (due names (p + 1) rs).pre [⟨r, .int p⟩] else .err
      | some ws => if p < ws.length then (if isVal r.c = true then (due names (p + 1) rs).pre [⟨r, .str (ws.getD p PySem.Str.empty)⟩] else .err) else .idx

inductive ItemsIn (led : List (Addr × Obj)) : List Value → List Item → Prop
  | nil : ItemsIn led [] []
  | cons {a : Addr} {i : Item} {t1 t2 t3 : Tok} {nm : Value} {vs : List Value} {is : List Item} : (a, tupObj [.str (one i.row.c) t1, .int i.row.z t2, .str (one i.row.o) t3, nm]) ∈ led → NmIs i.name nm → ItemsIn led vs is → ItemsIn led (.ref a :: vs) (i :: is)
theorem ItemsIn.mono {led led' : List (Addr × Obj)} {vs : List Value} {rs : List Item} (h : ItemsIn led vs rs) (hs : ∀ p ∈ led, p ∈ led') : ItemsIn led' vs rs := by
  induction h with
  | nil => exact .nil
  | cons hm hn _ ih => exact .cons (hs _ hm) hn ih
theorem ItemsIn.len {led : List (Addr × Obj)} {vs : List Value} {rs : List Item} (h : ItemsIn led vs rs) : vs.length = rs.length := by
  induction h with
  | nil => rfl
  | cons _ _ _ ih => simp [ih]
theorem ItemsIn.snoc {led : List (Addr × Obj)} {vs : List Value} {rs : List Item} (h : ItemsIn led vs rs) {a : Addr} {i : Item} {t1 t2 t3 : Tok} {nm : Value} (hm : (a, tupObj [.str (one i.row.c) t1, .int i.row.z t2, .str (one i.row.o) t3, nm]) ∈ led) (hn : NmIs i.name nm) :
    ItemsIn led (vs ++ [.ref a]) (rs ++ [i]) := by
  induction h with
  | nil => exact .cons hm hn .nil
  | cons h1 h2 _ ih => exact .cons h1 h2 ih
theorem ItemsIn.get {led : List (Addr × Obj)} {vs : List Value} {rs : List Item} (h : ItemsIn led vs rs) : ∀ (i : Nat) (v : Value), vs[i]? = some v → ∃ a r t1 t2 t3 nm, v = .ref a ∧ rs[i]? = some r ∧ (a, tupObj [.str (one r.row.c) t1, .int r.row.z t2, .str (one r.row.o) t3, nm]) ∈ led ∧ NmIs r.name nm := by
  induction h with
  | nil => intro i v h; simp at h
  | cons h1 h2 _ ih =>
    intro i v h
    cases i with
    | zero => simp at h; exact ⟨_, _, _, _, _, _, h.symm, rfl, h1, h2⟩
    | succ i => exact ih i v (by simpa using h)

/-- a list or a tuple on the ledger -/
def SeqIn (led : List (Addr × Obj)) (a : Addr) (vs : List Value) : Prop := (∃ n, (a, W.listOf vs.toArray n) ∈ led) ∨ (a, tupObj vs) ∈ led
theorem SeqIn.mono {led led' : List (Addr × Obj)} {a : Addr} {vs : List Value} (h : SeqIn led a vs) (hs : ∀ p ∈ led, p ∈ led') : SeqIn led' a vs := h.imp (fun ⟨n, h⟩ => ⟨n, hs _ h⟩) (hs _)
theorem SeqIn.tl {led : List (Addr × Obj)} {a : Addr} {vs : List Value} {x : Addr × Obj} (h : SeqIn led a vs) : SeqIn (x :: led) a vs := h.mono fun _ hp => .tail _ hp
def NamesIn (led : List (Addr × Obj)) (nv : Value) (names : Option (List PySem.Str)) : Prop :=
  (nv = .none ∧ names = none) ∨ ∃ a vs ws, nv = .ref a ∧ names = some ws ∧ StrsAre vs ws ∧ SeqIn led a vs ∧ ws.length ≤ 100
theorem NamesIn.mono {led led' : List (Addr × Obj)} {nv : Value} {names : Option (List PySem.Str)} (h : NamesIn led nv names) (hs : ∀ p ∈ led, p ∈ led') : NamesIn led' nv names :=
  h.imp id fun ⟨a, vs, ws, h1, h2, h3, h4, h5⟩ => ⟨a, vs, ws, h1, h2, h3, h4.mono hs, h5⟩

section
variable {prog : Program} {w : World} {A : Around} {E : Value → Shared → Prop} {s : Shared} {h₀ : Heap} {L : Addr} {m : PySem.Str → Option Value} {news : List (Addr × Obj)} {a : Addr} {vs : List Value} {ws : List PySem.Str} {Q : Value → Shared → Prop}
theorem r_lenSeq (N : News h₀ L s.heap news) (h1 : SeqIn news a vs) (hs : StrsAre vs ws) (hl : ws.length ≤ 100) (h : ∀ t k, Q (.int ws.length t) { s with toks := k }) : wpAny (model prog w) A (call (.builtin "len") [.ref a]) Q E s := by
  have hlen : vs.length = ws.length := hs.length
  rcases h1 with ⟨n, h1⟩ | h1
  · refine len_list (News.isList N h1) (by simp; omega) ?_
    have := h (s.toks + 1) (s.toks + 1 + 1)
    rw [← hlen] at this
    simpa using this
  · refine len_tuple (News.isTup N h1) (by simp; omega) ?_
    have := h (s.toks + 1) (s.toks + 1 + 1)
    rw [← hlen] at this
    simpa using this
theorem r_itemSeq {value slice : Expr} {i : Int} {u : Tok} (N : News h₀ L s.heap news) (h1 : SeqIn news a vs) (hs : StrsAre vs ws) (h0 : 0 ≤ i) (hi : i < (ws.length : Int)) (hl : ws.length ≤ 100) (h : ∀ t, Q (.str (ws.getD i.toNat PySem.Str.empty) t) s)
    (hsub : subscripted slice false (.ref a) (.int i u) = operate [.ref a, .int i u] (getItem (.ref a) (.int i u)) := by with_unfolding_all rfl) :
    wpAny (model prog w) A (subscriptTail value slice (.ref a) (.int i u)) Q E s := by
  rcases h1 with ⟨n, h1⟩ | h1
  · exact KTb.item_list (News.isList N h1) hs h0 hi (by omega) (fun t' _ => h t') hsub
  · exact KTb.item_tup (News.isTup N h1) hs h0 hi (by omega) (fun t' _ => h t') hsub
end
end Mine
end
section
open PySem PySem.W PyProof.Rows
set_option maxRecDepth 100000
set_option maxHeartbeats 8000000
namespace Mine
local macro_rules | `(tactic| k_all) => `(tactic| assumption)
local macro_rules | `(tactic| k_room) => `(tactic| ktr_room)
local macro_rules | `(tactic| walk_at "call builtin:list.append") => `(tactic| (k_here; (with_reducible show wpAny _ _ (call (Value.builtin _) [Value.ref _, _]) _ _ _); k_dflt (refine' append_K ?k1 ?k2 ?k3 ?_ ?z; (case k1 => k_asm); (case k2 => k_asm); (case k3 => k_upd); (case z => (have hz9 := size_line; simp only [List.size_toArray]; omega)); k_whole); intro h9 F9 N9; (try k_sweep)))
local macro_rules | `(tactic| walk_at "call type:int") => `(tactic| (k_here; (with_reducible show wpAny _ _ (call (Value.type "int") [Value.str _ _]) _ _ _); k_dflt (refine' KIN.call_text ?a ?b ?_; (case a => assumption); (case b => (simp only [PySem.Str.length, Array.size_extract]; omega)))))
local macro_rules | `(tactic| walk_at "binaryOp Add str str") => `(tactic| (k_here; k_dflt (refine r_add ?a ?b ?_; (case a => (first | omega | ((simp only [Array.size_extract]); omega) | (show 1 ≤ 1000; decide))); (case b => (first | omega | (show 1 ≤ 1000; decide) | ((simp only [Array.size_extract]); omega)))); intro _ _))
local macro_rules | `(tactic| walk_at "newTuple") => `(tactic| (k_here; k_dflt (refine r_newTuple ?a ?b ?_ ?c; (case a => k_asm); (case b => k_asm); (case c => decide); k_whole); intro a9 h9 F9 N9 l9; (try k_lt l9); (try k_sweep)))
local macro_rules | `(tactic| k_steps) => `(tactic| repeat' ((fail_if_success (with_reducible show Halt _)); first | (k_unfold; (try dsimp only)) | (k_end; kc_close) | walk1 | (dsimp only; walk1) | (leave1; walk_say "STEP leave1"; (try dsimp only)) | fail "no step"))
local macro_rules | `(tactic| walk_at "eval Name") => `(tactic| (k_here; k_dflt (refine' nameX_L ?F ?v ?_ ?a ?b; (case F => k_asm); (case a => rfl); (case b => rfl); (case v => first | rfl | assumption); k_whole)))
local macro_rules | `(tactic| walk_at "subscriptTail Name Name str int") => `(tactic| (k_here; k_dflt (refine r_item ?a ?b ?c ?_; (case a => omega); (case b => omega); (case c => omega))))
local macro_rules | `(tactic| walk_at "compareOp In str str") => `(tactic| (k_here; k_dflt (first | with_reducible refine r_in mem_marks ?_ | with_reducible refine r_in mem_marks' ?_ | with_reducible refine r_in mem_pads ?_ | with_reducible refine r_in mem_digs ?_ | with_reducible refine r_in mem_sps ?_ | with_reducible refine r_in mem_lets ?_ | with_reducible refine r_in mem_ub ?_ | with_reducible refine r_in mem_vals ?_)))
local macro_rules | `(tactic| walk_at "compareOp NotIn str str") => `(tactic| (k_here; k_dflt (first | with_reducible refine r_notIn mem_lets ?_ | with_reducible refine r_notIn mem_pads ?_ | with_reducible refine r_notIn mem_vals ?_)))
local macro_rules | `(tactic| walk_at "call builtin:len") => `(tactic| (k_here; (with_reducible show wpAny _ _ (call (Value.builtin "len") [Value.str _ _]) _ _ _); k_dflt (refine r_len ?a ?_; (case a => omega))))
local macro_rules | `(tactic| walk_at "subscriptTail Name UnaryOp str int") => `(tactic| (k_here; k_dflt (refine r_last ?a ?_; (case a => omega))))
local macro_rules | `(tactic| walk_at "subscriptTail Name Slice str ref") => `(tactic| ((with_reducible show wpAny _ _ (subscriptTail _ (Expr.Slice none (some _) none _) _ _) _ _ _); (with_reducible rename Fr _ _ _ _ => F'); (with_reducible rename News _ _ _ _ => N'); k_dflt (refine r_init (s := ⟨_, _, _, _, _⟩) F' N' ?a ?b ?_; (case a => omega); (case b => omega)); intro _ _ _ _ _))

local macro_rules | `(tactic| walk_at "exec While Compare cons nil") => `(tactic| refine Halt.out ?_)
local macro_rules | `(tactic| walk_at "exec While BoolOp cons nil") => `(tactic| refine Halt.out ?_)
local macro_rules | `(tactic| walk_at "exec If") => `(tactic| ((fail_if_success (rename Go => gg)); (with_reducible show wpAny _ _ (exec (Stmt.If (Expr.BoolOp BoolOp.And _ _) _ _ _) _) _ _ _); refine Halt.out ?_))
local macro_rules | `(tactic| walk_at "exec If") => `(tactic| ((fail_if_success (rename Go => gg)); (with_reducible show wpAny _ _ (exec (Stmt.If (Expr.Compare (Expr.Subscript _ _ _) _ _ _) _ _ _) _) _ _ _); refine Halt.out ?_))
local macro_rules | `(tactic| walk_at "exec If") => `(tactic| ((fail_if_success (rename Go => gg)); (with_reducible show wpAny _ _ (exec (Stmt.If (Expr.BoolOp BoolOp.Or _ _) _ _ _) _) _ _ _); refine Halt.out ?_))
/-- a text, and what is behind its last mark -/
def Split (x b : PySem.Str) (mk : Nat) : Prop :=
  (x.cps.size = 0 ∧ b = x ∧ mk = 62) ∨ (0 < x.cps.size ∧ isMark (x.cps.getD (x.cps.size - 1) 0) = false ∧ b = x ∧ mk = 62) ∨
  (0 < x.cps.size ∧ isMark (x.cps.getD (x.cps.size - 1) 0) = true ∧ b = ⟨x.cps.extract 0 (x.cps.size - 1)⟩ ∧ mk = x.cps.getD (x.cps.size - 1) 0)
theorem ne_empty {x : PySem.Str} : (x != Str.ofString "") = decide (0 < x.cps.size) := by
  have e : Str.ofString "" = ⟨#[]⟩ := by decide +kernel
  rw [e]
  rw [Bool.eq_iff_iff]
  simp only [bne_iff_ne, ne_eq, decide_eq_true_eq]
  constructor
  · intro h
    rcases Nat.eq_zero_or_pos x.cps.size with h0 | h0
    · exfalso; apply h
      cases x; simp only [PySem.Str.mk.injEq]; exact Array.eq_empty_of_size_eq_zero h0
    · exact h0
  · rintro h rfl
    simp at h
theorem extract_push {T : Array Nat} {a k : Nat} (h1 : a ≤ k) (h2 : k < T.size) : T.extract a k ++ (one (T.getD k 0)).cps = T.extract a (k + 1) := by
  apply Array.ext'
  have := extract_app T (a := a) (b := k) (c := k + 1) h1 (by omega)
  rw [← this, Array.toList_append]
  congr 1
  unfold one
  simp only [Array.toList_extract, List.extract_eq_take_drop]
  rw [show k + 1 - k = 1 by omega]
  have hl : k < T.toList.length := by simpa using h2
  rw [List.drop_eq_getElem_cons hl]
  simp [Array.getD_eq_getD_getElem?, h2]
theorem lx_len {T : Array Nat} {p : Nat} {gs : List Spot} (h : Lx T p gs) : gs.length ≤ p := by
  induction h with
  | nil => exact Nat.le_refl _
  | snoc _ H ih => have := H.stop_le; simp only [List.length_append, List.length_singleton]; omega
theorem lex_step {g h : Heap} {L D R : Addr} {o : Obj} {vs : List Value} {k : Nat} {led nw : List (Addr × Obj)} (N : News g L h ((D, o) :: (R, W.listOf (vs.toArray.push (Value.ref D)) k) :: (led ++ nw))) :
    News g L h ((R, W.listOf (vs ++ [Value.ref D]).toArray k) :: (((D, o) :: led) ++ nw)) := by
  rw [List.push_toArray] at N
  refine News.perm N fun p hp => ?_
  simp only [List.mem_cons, List.mem_append, List.cons_append] at hp ⊢
  rcases hp with h | h | h
  · exact .inr (.inl h)
  · exact .inl h
  · exact .inr (.inr h)
/-- what holds between the turns of the law's own walk -/
def LexJ (b : PySem.Str) (tb : Tok) (mk : Nat) (tm : Tok) (news : List (Addr × Obj)) (fuel : Nat) (m₁ : PySem.Str → Option Value) (news₁ : List (Addr × Obj)) : Prop :=
  ∃ R p gs vs led n tk to, m₁ (Str.ofString "k") = some (.int (p : Nat) tk) ∧ m₁ (Str.ofString "rows") = some (.ref R) ∧ m₁ (Str.ofString "body") = some (.str b tb) ∧ m₁ (Str.ofString "mark") = some (.str (one mk) tm) ∧
    m₁ (Str.ofString "order") = some (.str (one (lastO b.cps 62 gs)) to) ∧ Lx b.cps p gs ∧ RowsIn led vs (rowsOf b.cps 62 gs) ∧ news₁ = (R, listOf vs.toArray n) :: (led ++ news) ∧ (∀ p ∈ led ++ news, p.1 ≠ R) ∧
    (∀ q ∈ led, ∀ p ∈ news, p.1 < q.1) ∧ (∀ p ∈ news, p.1 < R) ∧ fuel = b.cps.size - p
def LexOut (b : PySem.Str) (v : Value) (T' : List (Addr × Obj)) : Prop :=
  (∃ gs R vs n, Lx b.cps b.cps.size gs ∧ v = .ref R ∧ (R, listOf vs.toArray n) ∈ T' ∧ RowsIn T' vs (rowsOf b.cps 62 gs)) ∨ (v = .none ∧ ∃ p gs, Lx b.cps p gs ∧ p < b.cps.size ∧ ∀ q d e, ¬ Hit b.cps p q d e)

theorem lex_ok (w : World) {dp un : Nat} {gd : Option (List Code)} {cn : PySem.Str} {cs : Scope} {a : Addr} {ccd : Value} {cl : List (PySem.Str × Addr)} {outer : List Env} {A₀ : Around} {base h₀ : Heap} {L : Addr} {m : PySem.Str → Option Value} {s : Shared} {Q E : Value → Shared → Prop} {mean : ExcName → Option Value} {mg mb : PySem.Str → Option Value} {x b : PySem.Str} {mk : Nat} {t1 : Tok} {news : List (Addr × Obj)}
  (B : Below A₀ base outer h₀) (F : Fr h₀ L s.heap m) (X : (Mine.hd.heap_39 w.params).In h₀) (N : News h₀ L s.heap news) (T : Top Mine.hd.view_39 (looseW Mine.hd.view_39 [Str.ofString "_twin_re_1"]) mean mg mb h₀) (hk : cs.kind = .function) (hd : dp + 8 < recursionLimit) (hu : un + 64 < cLine) (hx : Split x b mk) (hxs : x.cps.size ≤ 100) (hF : Fine b.cps)
  (hret : ∀ r v t T' h' tk', LexOut b v T' → Fr h₀ L h' m → News h₀ L h' ((r, tupObj [v, .str (one mk) t]) :: (T' ++ news)) → (∀ q ∈ T', ∀ p ∈ news, p.1 < q.1) → Q (.ref r) { s with heap := h', toks := tk' }) :
  wpAny (model PySem.Challenge.rw_eh5007_01.row.prog w) (ktrTop dp un gd cn cs L a ccd cl outer) (call (.ref 333) [.str x t1]) Q E s := by
  (w_top off; (have fillIt : PySem.Challenge.rw_eh5007_01 = PySem.Challenge.rw_eh5007_01 ∧ Mine.hd.heap_39 = Mine.hd.heap_39 := by (k_fill; exact ⟨rfl, rfl⟩)); clear fillIt)
  have hsm := hF.small
  refine wpAny_call ?_
  k_dflt (refine' code_def ?k1 ?k2 ?k3 ?k4 ?k5 ?kA ?kF ?kK ?k6 ?k7 ?k8 ?k9 ?kB ?_ ?c2 ?c3 ?c4 ?c5; (case kA => exact rfl); (case kF => exact rfl); (case kK => assumption); (case k1 => k_asm); (case k2 => k_asm); (case k3 => k_asm); (case k4 => k_asm); (case k5 => k_asm); (case k6 => k_is); (case k7 => k_is); (case k8 => ktr_room); (case k9 => exact BindsTo.of_eq rfl); (case c5 => decide); (case kB => exact locs rfl); (case c2 => exact rfl); (case c3 => exact rfl); (case c4 => exact rfl); k_whole)
  intro gE LE hE FGE FE NE BE XE TE
  (try dsimp only)
  k_fold
  k_steps
  rename Fr _ _ _ _ => F1
  rename News _ _ _ _ => N1
  refine Halt.mk (cutF (g := gE) (L := LE) (fun m' nw => nw = news ∧ ∃ tb tm, m' (Str.ofString "body") = some (.str b tb) ∧ m' (Str.ofString "mark") = some (.str (one mk) tm)) ?_ ?_)
  · have go := Go.mk
    rcases hx with ⟨h0, rfl, rfl⟩ | ⟨h0, h1, rfl, rfl⟩ | ⟨h0, h1, rfl, rfl⟩
    · have hne : (b != Str.ofString "") = false := by rw [ne_empty]; simp [h0]
      k_steps
      exact PostF.intro (by assumption) (by assumption) ⟨rfl, _, _, rfl, by with_unfolding_all rfl⟩
    · have hne : (b != Str.ofString "") = true := by rw [ne_empty]; simp [h0]
      k_steps
      exact PostF.intro (by assumption) (by assumption) ⟨rfl, _, _, rfl, by with_unfolding_all rfl⟩
    · have hne : (x != Str.ofString "") = true := by rw [ne_empty]; simp [h0]
      k_steps
      exact PostF.intro (by assumption) (by assumption) ⟨rfl, _, _, rfl, by with_unfolding_all rfl⟩
  clear F1 N1
  intro h1 tk1 m1 nw1 F1 N1 hJ1
  obtain ⟨rfl, tb, tm, hm1, hm2⟩ := hJ1
  k_steps
  rename Fr _ _ _ _ => F2
  rename News _ _ _ _ => N2
  rename (∀ p ∈ nw1, p.1 < _) => l2
  refine Halt.mk (While_inv2 (h₀ := gE) (L := LE) (LexJ b tb mk tm nw1) (n₀ := b.cps.size) F2 N2 ⟨_, 0, [], [], [], _, _, _, rfl, rfl, by assumption, by assumption, by with_unfolding_all rfl, .nil, .nil, rfl, fun p hp => Nat.ne_of_lt (l2 p hp), (fun q hq => by cases hq), l2, rfl⟩ ?_)
  clear F2 N2 l2 hm1 hm2
  intro fuel m2 news2 h2 tk2 F2 N2 hJ2
  obtain ⟨R, p, gs, vs, led, n, tk, to, hk1, hk2, hk3, hk4, hk5, hLx, hRows, rfl, hoff, hfr, hfr2, rfl⟩ := hJ2
  by_cases hp : p < b.cps.size
  · have hc1 : decide ((p : Int) < (b.cps.size : Int)) = true := decide_eq_true (by omega)
    k_steps
    -- the mark before the letter
    obtain ⟨a, ha⟩ : ∃ a, a = cnt isMark b.cps (min 1 (b.cps.size - p)) p := ⟨_, rfl⟩
    obtain ⟨o2, ho2⟩ : ∃ o2, o2 = if a = 0 then lastO b.cps 62 gs else b.cps.getD p 0 := ⟨_, rfl⟩
    have ha1 : a = if isMark (b.cps.getD p 0) = true then 1 else 0 := by
      rw [ha, show min 1 (b.cps.size - p) = 0 + 1 by omega]
      unfold cnt
      rfl
    refine Halt.mk (cutF (g := gE) (L := LE) (fun m' nw => nw = (R, listOf vs.toArray n) :: (led ++ nw1) ∧ ∃ tk to, m' (Str.ofString "k") = some (.int ((p + a : Nat) : Int) tk) ∧ m' (Str.ofString "order") = some (.str (one o2) to) ∧ m' (Str.ofString "rows") = some (.ref R) ∧ m' (Str.ofString "body") = some (.str b tb) ∧ m' (Str.ofString "mark") = some (.str (one mk) tm)) ?_ ?_)
    · have go := Go.mk
      cases hmk : isMark (b.cps.getD p 0)
      · have hmk' : isMark (b.cps.getD (p : Int).toNat 0) = false := hmk
        rw [hmk] at ha1
        obtain rfl : a = 0 := ha1
        obtain rfl : o2 = _ := ho2
        k_steps
        exact PostF.intro (by assumption) (by assumption) ⟨rfl, _, _, by assumption, by assumption, by assumption, by assumption, by assumption⟩
      · have hmk' : isMark (b.cps.getD (p : Int).toNat 0) = true := hmk
        rw [hmk] at ha1
        obtain rfl : a = 1 := ha1
        obtain rfl : o2 = _ := ho2
        k_steps
        exact PostF.intro (by assumption) (by assumption) ⟨rfl, _, _, rfl, by with_unfolding_all rfl, by with_unfolding_all assumption, by with_unfolding_all assumption, by with_unfolding_all assumption⟩
    clear hk1 hk2 hk3 hk4 hk5 hc1 N2 F2
    intro h3 tk3 m3 nw3 F3 N3 hJ3
    obtain ⟨rfl, tk, to, hk1, hk5, hk2, hk3, hk4⟩ := hJ3
    obtain ⟨q, hq⟩ : ∃ q, q = p + a := ⟨_, rfl⟩
    rw [← hq] at hk1
    k_steps
    have hqs : q ≤ b.cps.size := by have := cnt_le isMark b.cps (min 1 (b.cps.size - p)) p; omega
    refine Halt.mk ?_
    have go := Go.mk
    by_cases hlet : q < b.cps.size ∧ isLet (b.cps.getD q 0) = true
    · obtain ⟨hq1, hq2⟩ := hlet
      have hl2 : (!isLet (b.cps.getD (q : Int).toNat 0)) = false := by rw [show (q : Int).toNat = q from rfl, hq2]; rfl
      have hqa : ((q : Int) == (b.cps.size : Int)) = false := beq_eq_false_iff_ne.mpr (by omega)
      k_steps
      rename Fr _ _ _ _ => F4
      rename News _ _ _ _ => N4
      obtain ⟨d, hd⟩ : ∃ d, d = cnt isDig b.cps (b.cps.size - (q + 1)) (q + 1) := ⟨_, rfl⟩
      have hdle := cnt_le isDig b.cps (b.cps.size - (q + 1)) (q + 1)
      rw [← hd] at hdle
      have hdall := cnt_all (P := isDig) (T := b.cps) (b.cps.size - (q + 1)) (q + 1)
      have hdstop := cnt_stop (P := isDig) (T := b.cps) (b.cps.size - (q + 1)) (q + 1)
      rw [← hd] at hdall hdstop
      refine Halt.mk (cutF (g := gE) (L := LE) (fun m' nw => nw = (R, listOf vs.toArray n) :: (led ++ nw1) ∧ ∃ tk tn tl, m' (Str.ofString "k") = some (.int ((q + 1 + d : Nat) : Int) tk) ∧ m' (Str.ofString "number") = some (.str ⟨b.cps.extract (q + 1) (q + 1 + d)⟩ tn) ∧
        m' (Str.ofString "letter") = some (.str (one (b.cps.getD q 0)) tl) ∧ m' (Str.ofString "order") = some (.str (one o2) to) ∧ m' (Str.ofString "rows") = some (.ref R) ∧ m' (Str.ofString "body") = some (.str b tb) ∧ m' (Str.ofString "mark") = some (.str (one mk) tm)) ?_ ?_)
      · refine While_inv2 (h₀ := gE) (L := LE) (fun fuel m' nw => nw = (R, listOf vs.toArray n) :: (led ++ nw1) ∧ ∃ j z y tk tn tl, j ≤ d ∧ fuel = d - j ∧ z = ((q + 1 + j : Nat) : Int) ∧ y = ⟨b.cps.extract (q + 1) (q + 1 + j)⟩ ∧ m' (Str.ofString "k") = some (.int z tk) ∧ m' (Str.ofString "number") = some (.str y tn) ∧
          m' (Str.ofString "letter") = some (.str (one (b.cps.getD q 0)) tl) ∧ m' (Str.ofString "order") = some (.str (one o2) to) ∧ m' (Str.ofString "rows") = some (.ref R) ∧ m' (Str.ofString "body") = some (.str b tb) ∧ m' (Str.ofString "mark") = some (.str (one mk) tm)) (n₀ := d) F4 N4 ⟨rfl, 0, _, _, _, _, _, Nat.zero_le _, rfl, ?_, ?_, rfl, by with_unfolding_all rfl, by with_unfolding_all rfl, by with_unfolding_all assumption, by with_unfolding_all assumption, by with_unfolding_all assumption, by with_unfolding_all assumption⟩ ?_
        · show (q : Int) + 1 = ((q + 1 + 0 : Nat) : Int)
          omega
        · show Str.ofString "" = _
          rw [show Str.ofString "" = ⟨#[]⟩ by decide +kernel, show b.cps.extract (q + 1) (q + 1 + 0) = #[] from Array.eq_empty_of_size_eq_zero (by simp; omega)]
        · clear F4 N4 hk1 hk2 hk3 hk4 hk5
          intro fuel5 m5 news5 h5 tk5 F5 N5 hJ5
          obtain ⟨rfl, j, z, y, tk, tn, tl, hj, rfl, rfl, rfl, hk1, hk6, hk7, hk5, hk2, hk3, hk4⟩ := hJ5
          by_cases hjd : j < d
          · have hdj : isDig (b.cps.getD ((q + 1 + j : Nat) : Int).toNat 0) = true := hdall j hjd
            have hkk : decide (((q + 1 + j : Nat) : Int) < (b.cps.size : Int)) = true := decide_eq_true (by omega)
            k_steps
            refine ⟨_, _, _, _, d - (j + 1), rfl, by assumption, by assumption, by omega, rfl, j + 1, _, _, _, _, _, by omega, rfl, ?_, ?_, rfl, by with_unfolding_all rfl, by with_unfolding_all assumption, by with_unfolding_all assumption, by with_unfolding_all assumption, by with_unfolding_all assumption, by with_unfolding_all assumption⟩
            · omega
            · rw [show ((q + 1 + j : Nat) : Int).toNat = q + 1 + j from rfl]
              exact congrArg PySem.Str.mk (extract_push (by omega) (by omega))
          · obtain rfl : j = d := by omega
            by_cases hend : q + 1 + j < b.cps.size
            · have hdj : isDig (b.cps.getD ((q + 1 + j : Nat) : Int).toNat 0) = false := hdstop (by omega)
              have hkk : decide (((q + 1 + j : Nat) : Int) < (b.cps.size : Int)) = true := decide_eq_true (by omega)
              k_steps
              exact PostF.intro (by assumption) (by assumption) ⟨rfl, _, _, _, by assumption, by assumption, by assumption, by assumption, by assumption, by assumption, by assumption⟩
            · have hkk : decide (((q + 1 + j : Nat) : Int) < (b.cps.size : Int)) = false := decide_eq_false (by omega)
              k_steps
              exact PostF.intro (by assumption) (by assumption) ⟨rfl, _, _, _, by assumption, by assumption, by assumption, by assumption, by assumption, by assumption, by assumption⟩
      clear F4 N4 hk1 hk2 hk3 hk4 hk5
      intro h6 tk6 m6 nw6 F6 N6 hJ6
      obtain ⟨rfl, tk, tn, tl, hk1, hk6, hk7, hk5, hk2, hk3, hk4⟩ := hJ6
      have hnum : ((⟨b.cps.extract (q + 1) (q + 1 + d)⟩ : PySem.Str) == Str.ofString "") = decide (d = 0) := by
        have h := @ne_empty ⟨b.cps.extract (q + 1) (q + 1 + d)⟩
        rw [bne, Bool.not_eq_eq_eq_not] at h
        rw [h, Bool.eq_iff_iff]
        simp only [Array.size_extract, Bool.not_eq_eq_eq_not, Bool.not_true, decide_eq_false_iff_not, decide_eq_true_eq]
        omega
      by_cases hd0 : d = 0
      · have hnum' : ((⟨b.cps.extract (q + 1) (q + 1 + d)⟩ : PySem.Str) == Str.ofString "") = true := hnum.trans (decide_eq_true hd0)
        have hmiss : ∀ q' d e, ¬ Hit b.cps p q' d e := fun q' d' e H => by
          have h := (hit_fine hF).mp H
          have e1 : q' = q := by rw [h.1, hq, ha]
          subst e1
          have := h.2.2.2.1
          have := h.2.2.2.2.1
          omega
        have hout : ∀ T', LexOut b .none T' := fun _ => .inr ⟨rfl, p, gs, hLx, hp, hmiss⟩
        k_steps
        dsimp only [WhileStep2]
        k_steps
        refine hret _ _ _ ((R, listOf vs.toArray n) :: led) _ _ (hout _) (by assumption) (by assumption) ?_
        intro q hq p hp
        rcases List.mem_cons.mp hq with rfl | hq
        · exact hfr2 p hp
        · exact hfr q hq p hp
      have hnum' : ((⟨b.cps.extract (q + 1) (q + 1 + d)⟩ : PySem.Str) == Str.ofString "") = false := hnum.trans (decide_eq_false hd0)
      k_steps
      rename Fr _ _ _ _ => F7
      rename News _ _ _ _ => N7
      obtain ⟨e, he⟩ : ∃ e, e = cnt isSp b.cps (b.cps.size - (q + 1 + d)) (q + 1 + d) := ⟨_, rfl⟩
      have hele := cnt_le isSp b.cps (b.cps.size - (q + 1 + d)) (q + 1 + d)
      rw [← he] at hele
      have heall := cnt_all (P := isSp) (T := b.cps) (b.cps.size - (q + 1 + d)) (q + 1 + d)
      have hestop := cnt_stop (P := isSp) (T := b.cps) (b.cps.size - (q + 1 + d)) (q + 1 + d)
      rw [← he] at heall hestop
      refine Halt.mk (cutF (g := gE) (L := LE) (fun m' nw => nw = (R, listOf vs.toArray n) :: (led ++ nw1) ∧ ∃ tk, m' (Str.ofString "k") = some (.int ((q + 1 + d + e : Nat) : Int) tk) ∧ m' (Str.ofString "number") = some (.str ⟨b.cps.extract (q + 1) (q + 1 + d)⟩ tn) ∧
        m' (Str.ofString "letter") = some (.str (one (b.cps.getD q 0)) tl) ∧ m' (Str.ofString "order") = some (.str (one o2) to) ∧ m' (Str.ofString "rows") = some (.ref R) ∧ m' (Str.ofString "body") = some (.str b tb) ∧ m' (Str.ofString "mark") = some (.str (one mk) tm)) ?_ ?_)
      · refine While_inv2 (h₀ := gE) (L := LE) (fun fuel m' nw => nw = (R, listOf vs.toArray n) :: (led ++ nw1) ∧ ∃ j z tk, j ≤ e ∧ fuel = e - j ∧ z = ((q + 1 + d + j : Nat) : Int) ∧ m' (Str.ofString "k") = some (.int z tk) ∧ m' (Str.ofString "number") = some (.str ⟨b.cps.extract (q + 1) (q + 1 + d)⟩ tn) ∧
          m' (Str.ofString "letter") = some (.str (one (b.cps.getD q 0)) tl) ∧ m' (Str.ofString "order") = some (.str (one o2) to) ∧ m' (Str.ofString "rows") = some (.ref R) ∧ m' (Str.ofString "body") = some (.str b tb) ∧ m' (Str.ofString "mark") = some (.str (one mk) tm)) (n₀ := e) F7 N7 ⟨rfl, 0, _, _, Nat.zero_le _, rfl, ?_, by assumption, by assumption, by assumption, by assumption, by assumption, by assumption, by assumption⟩ ?_
        · rfl
        · clear F7 N7 hk1 hk2 hk3 hk4 hk5 hk6 hk7
          intro fuel5 m5 news5 h5 tk5 F5 N5 hJ5
          obtain ⟨rfl, j, z, tk, hj, rfl, rfl, hk1, hk6, hk7, hk5, hk2, hk3, hk4⟩ := hJ5
          by_cases hjd : j < e
          · have hdj : isSp (b.cps.getD ((q + 1 + d + j : Nat) : Int).toNat 0) = true := heall j hjd
            have hkk : decide (((q + 1 + d + j : Nat) : Int) < (b.cps.size : Int)) = true := decide_eq_true (by omega)
            k_steps
            refine ⟨_, _, _, _, e - (j + 1), rfl, by assumption, by assumption, by omega, rfl, j + 1, _, _, by omega, rfl, ?_, rfl, by with_unfolding_all assumption, by with_unfolding_all assumption, by with_unfolding_all assumption, by with_unfolding_all assumption, by with_unfolding_all assumption, by with_unfolding_all assumption⟩
            omega
          · obtain rfl : j = e := by omega
            by_cases hend : q + 1 + d + j < b.cps.size
            · have hdj : isSp (b.cps.getD ((q + 1 + d + j : Nat) : Int).toNat 0) = false := hestop (by omega)
              have hkk : decide (((q + 1 + d + j : Nat) : Int) < (b.cps.size : Int)) = true := decide_eq_true (by omega)
              k_steps
              exact PostF.intro (by assumption) (by assumption) ⟨rfl, _, by assumption, by assumption, by assumption, by assumption, by assumption, by assumption, by assumption⟩
            · have hkk : decide (((q + 1 + d + j : Nat) : Int) < (b.cps.size : Int)) = false := decide_eq_false (by omega)
              k_steps
              exact PostF.intro (by assumption) (by assumption) ⟨rfl, _, by assumption, by assumption, by assumption, by assumption, by assumption, by assumption, by assumption⟩
      clear F7 N7 hk1 hk2 hk3 hk4 hk5 hk6 hk7
      intro h8 tk8 m8 nw8 F8 N8 hJ8
      obtain ⟨rfl, tk, hk1, hk6, hk7, hk5, hk2, hk3, hk4⟩ := hJ8
      have hvl : vs.length ≤ 64 := by have := hRows.len; rw [rowsOf_len] at this; have := (lx_span hLx); have := lx_len hLx; omega
      have hHit : Hit b.cps p q d e := (hit_fine hF).mpr ⟨by rw [hq, ha], hq1, hq2, hd, by omega, he⟩
      have hnk := num_ok hF (g := ⟨p, q, d, e⟩) hHit
      have hint : PySem.intText? ⟨b.cps.extract (q + 1) (q + 1 + d)⟩ = some (num b.cps ⟨p, q, d, e⟩) := hnk.1
      k_steps
      rename News _ _ _ _ => N9
      rename (R < _ ∧ AllLt _ _) => l9
      have ho4 : ordOf b.cps ⟨p, q, d, e⟩ (lastO b.cps 62 gs) = o2 := by
        rw [ho2]
        unfold ordOf
        dsimp only
        by_cases h0 : a = 0
        · rw [if_pos h0, if_pos (by omega)]
        · rw [if_neg h0, if_neg (by omega)]
      have ho3 : lastO b.cps 62 (gs ++ [⟨p, q, d, e⟩]) = o2 := by rw [lastO_snoc, ho4]
      refine ⟨_, _, _, _, b.cps.size - (q + 1 + d + e), rfl, by assumption, lex_step N9, by omega, R, q + 1 + d + e, gs ++ [⟨p, q, d, e⟩], _, _, _, _, _, by with_unfolding_all assumption, by with_unfolding_all assumption, by with_unfolding_all assumption, by with_unfolding_all assumption, by rw [ho3]; with_unfolding_all assumption, .snoc hLx hHit, ?_, rfl, ?_, ?_, hfr2, rfl⟩
      · rw [rowsOf_snoc, ho4]
        exact (hRows.mono fun p hp => .tail _ hp).snoc (.head _)
      · intro x hx
        rcases List.mem_cons.mp hx with rfl | hx
        · exact Nat.ne_of_gt l9.1
        · exact hoff x hx
      · intro x hx y hy
        rcases List.mem_cons.mp hx with rfl | hx
        · exact allLt_mem l9.2 y (List.mem_append_right _ hy)
        · exact hfr x hx y hy
    · have hmiss : ∀ q' d e, ¬ Hit b.cps p q' d e := fun q' d e H => hlet (by
        have h := (hit_fine hF).mp H
        have : q' = q := by rw [h.1, hq, ha]
        exact ⟨this ▸ h.2.1, this ▸ h.2.2.1⟩)
      have hout : ∀ T', LexOut b .none T' := fun _ => .inr ⟨rfl, p, gs, hLx, hp, hmiss⟩
      by_cases hq1 : q = b.cps.size
      · have hqa : ((q : Int) == (b.cps.size : Int)) = true := beq_iff_eq.mpr (by omega)
        k_steps
        dsimp only [WhileStep2]
        k_steps
        refine hret _ _ _ ((R, listOf vs.toArray n) :: led) _ _ (hout _) (by assumption) (by assumption) ?_
        intro q hq p hp
        rcases List.mem_cons.mp hq with rfl | hq
        · exact hfr2 p hp
        · exact hfr q hq p hp
      · have hl2 : (!isLet (b.cps.getD (q : Int).toNat 0)) = true := by
          rw [show (q : Int).toNat = q from rfl]
          cases h : isLet (b.cps.getD q 0)
          · rfl
          · exact absurd ⟨by omega, h⟩ hlet
        have hqa : ((q : Int) == (b.cps.size : Int)) = false := beq_eq_false_iff_ne.mpr (by omega)
        k_steps
        dsimp only [WhileStep2]
        k_steps
        refine hret _ _ _ ((R, listOf vs.toArray n) :: led) _ _ (hout _) (by assumption) (by assumption) ?_
        intro q hq p hp
        rcases List.mem_cons.mp hq with rfl | hq
        · exact hfr2 p hp
        · exact hfr q hq p hp
  · have hc1 : decide ((p : Int) < (b.cps.size : Int)) = false := decide_eq_false (by omega)
    k_steps
    obtain rfl : p = b.cps.size := by have := (lx_span hLx).2; omega
    refine hret _ _ _ ((R, listOf vs.toArray n) :: led) _ _ (.inl ⟨gs, R, vs, n, hLx, rfl, .head _, hRows.mono fun p hp => .tail _ hp⟩) (by assumption) (by assumption) ?_
    intro q hq p hp
    rcases List.mem_cons.mp hq with rfl | hq
    · exact hfr2 p hp
    · exact hfr q hq p hp
end Mine
end
section
open PySem PySem.W PyProof.Rows
set_option maxRecDepth 100000
set_option maxHeartbeats 8000000
namespace Mine
local macro_rules | `(tactic| k_all) => `(tactic| assumption)
local macro_rules | `(tactic| k_room) => `(tactic| ktr_room)
local macro_rules | `(tactic| walk_at "call builtin:list.append") => `(tactic| (k_here; (with_reducible show wpAny _ _ (call (Value.builtin _) [Value.ref _, _]) _ _ _); k_dflt (refine' append_K ?k1 ?k2 ?k3 ?_ ?z; (case k1 => k_asm); (case k2 => k_asm); (case k3 => k_upd); (case z => (have hz9 := size_line; simp only [List.size_toArray]; omega)); k_whole); intro h9 F9 N9; (try k_sweep)))
local macro_rules | `(tactic| walk_at "call type:int") => `(tactic| (k_here; (with_reducible show wpAny _ _ (call (Value.type "int") [Value.str _ _]) _ _ _); k_dflt (refine' KIN.call_text ?a ?b ?_; (case a => assumption); (case b => (simp only [PySem.Str.length, Array.size_extract]; omega)))))
local macro_rules | `(tactic| walk_at "binaryOp Add str str") => `(tactic| (k_here; k_dflt (refine r_add ?a ?b ?_; (case a => (first | omega | ((simp only [Array.size_extract]); omega) | (show 1 ≤ 1000; decide))); (case b => (first | omega | (show 1 ≤ 1000; decide) | ((simp only [Array.size_extract]); omega)))); intro _ _))
local macro_rules | `(tactic| walk_at "newTuple") => `(tactic| (k_here; k_dflt (refine r_newTuple ?a ?b ?_ ?c; (case a => k_asm); (case b => k_asm); (case c => decide); k_whole); intro a9 h9 F9 N9 l9; (try k_lt l9); (try k_sweep)))
local macro_rules | `(tactic| k_steps) => `(tactic| repeat' ((fail_if_success (with_reducible show Halt _)); first | (k_unfold; (try dsimp only)) | (k_end; kc_close) | walk1 | (dsimp only; walk1) | (leave1; walk_say "STEP leave1"; (try dsimp only)) | fail "no step"))
local macro_rules | `(tactic| walk_at "eval Name") => `(tactic| (k_here; k_dflt (refine' nameX_L ?F ?v ?_ ?a ?b; (case F => k_asm); (case a => rfl); (case b => rfl); (case v => first | rfl | assumption); k_whole)))
local macro_rules | `(tactic| walk_at "subscriptTail Name Name str int") => `(tactic| (k_here; k_dflt (refine r_item ?a ?b ?c ?_; (case a => omega); (case b => omega); (case c => omega))))
local macro_rules | `(tactic| walk_at "compareOp In str str") => `(tactic| (k_here; k_dflt (first | with_reducible refine r_in mem_marks ?_ | with_reducible refine r_in mem_marks' ?_ | with_reducible refine r_in mem_pads ?_ | with_reducible refine r_in mem_digs ?_ | with_reducible refine r_in mem_sps ?_ | with_reducible refine r_in mem_lets ?_ | with_reducible refine r_in mem_ub ?_ | with_reducible refine r_in mem_vals ?_)))
local macro_rules | `(tactic| walk_at "compareOp NotIn str str") => `(tactic| (k_here; k_dflt (first | with_reducible refine r_notIn mem_lets ?_ | with_reducible refine r_notIn mem_pads ?_ | with_reducible refine r_notIn mem_vals ?_)))
local macro_rules | `(tactic| walk_at "call builtin:len") => `(tactic| (k_here; (with_reducible show wpAny _ _ (call (Value.builtin "len") [Value.str _ _]) _ _ _); k_dflt (refine r_len ?a ?_; (case a => omega))))
local macro_rules | `(tactic| walk_at "subscriptTail Name UnaryOp str int") => `(tactic| (k_here; k_dflt (refine r_last ?a ?_; (case a => omega))))
local macro_rules | `(tactic| walk_at "subscriptTail Name Slice str ref") => `(tactic| ((with_reducible show wpAny _ _ (subscriptTail _ (Expr.Slice none (some _) none _) _ _) _ _ _); (with_reducible rename Fr _ _ _ _ => F'); (with_reducible rename News _ _ _ _ => N'); k_dflt (refine r_init (s := ⟨_, _, _, _, _⟩) F' N' ?a ?b ?_; (case a => omega); (case b => omega)); intro _ _ _ _ _))

local macro_rules | `(tactic| walk_at "call builtin:len") => `(tactic| (k_here; (with_reducible show wpAny _ _ (call (Value.builtin "len") [Value.ref _]) _ _ _); k_dflt (refine' r_lenSeq ?N ?a ?b ?c ?_; (case N => k_asm); (case a => first | assumption | exact SeqIn.tl (by assumption) | exact SeqIn.tl (SeqIn.tl (by assumption)) | exact SeqIn.tl (SeqIn.tl (SeqIn.tl (by assumption)))); (case b => assumption); (case c => assumption)); intro _ _))
local macro_rules | `(tactic| walk_at "subscriptTail Name Name ref int") => `(tactic| (k_here; k_dflt (refine' r_itemSeq ?N ?a ?b ?c ?d ?e ?_; (case N => k_asm); (case a => first | assumption | exact SeqIn.tl (by assumption) | exact SeqIn.tl (SeqIn.tl (by assumption)) | exact SeqIn.tl (SeqIn.tl (SeqIn.tl (by assumption)))); (case b => assumption); (case c => omega); (case d => omega); (case e => assumption)); intro _))
local macro_rules | `(tactic| walk_at "exec For Tuple Name cons nil") => `(tactic| refine Halt.out ?_)
local macro_rules | `(tactic| walk_at "pyIter ref") => `(tactic| refine Halt.out ?_)

def DueJ (names : Option (List PySem.Str)) (rows : List Row) (nv : Value) (news : List (Addr × Obj)) (i : Nat) (m₁ : PySem.Str → Option Value) (news₁ : List (Addr × Obj)) : Prop :=
  ∃ O p its vs led n tp, m₁ (Str.ofString "out") = some (.ref O) ∧ m₁ (Str.ofString "place") = some (.int ((p : Nat) : Int) tp) ∧ m₁ (Str.ofString "names") = some nv ∧
    due names 0 rows = (due names p (rows.drop i)).pre its ∧ ItemsIn led vs its ∧ vs.length = i ∧ news₁ = (O, W.listOf vs.toArray n) :: (led ++ news) ∧ (∀ p ∈ led ++ news, p.1 ≠ O) ∧ (∀ q ∈ led, ∀ p ∈ news, p.1 < q.1) ∧ (∀ p ∈ news, p.1 < O)
def DueOut (T' : List (Addr × Obj)) (v : Value) : DueR → Prop
  | .err => ∃ t, v = .str (Str.ofString "error") t
  | .idx => ∃ t, v = .str (Str.ofString "index") t
  | .ok its => ∃ O vs n, v = .ref O ∧ (O, W.listOf vs.toArray n) ∈ T' ∧ ItemsIn T' vs its

theorem due_cons (names : Option (List PySem.Str)) (p : Nat) (r : Row) (rs : List Row) : due names p (r :: rs) = if r.z = 0 then .err
    else if isPad r.c = true then (due names p rs).pre [⟨r, .none⟩]
    else match names with
      | none => if isVal r.c = true then (due names (p + 1) rs).pre [⟨r, .int p⟩] else .err
      | some ws => if p < ws.length then (if isVal r.c = true then (due names (p + 1) rs).pre [⟨r, .str (ws.getD p PySem.Str.empty)⟩] else .err) else .idx := by
  conv => lhs; unfold due
  all_goals rfl
theorem due_step {g h : Heap} {L D O : Addr} {o : Obj} {vs : List Value} {k : Nat} {led nw own tl : List (Addr × Obj)} (htl : tl = led ++ nw ++ own) (N : News g L h ((D, o) :: (O, W.listOf (vs.toArray.push (Value.ref D)) k) :: tl)) :
    News g L h (((O, W.listOf (vs ++ [Value.ref D]).toArray k) :: (((D, o) :: led) ++ nw)) ++ own) := by
  rw [List.push_toArray, htl] at N
  refine News.perm N fun p hp => ?_
  simp only [List.mem_cons, List.mem_append, List.cons_append] at hp ⊢
  rcases hp with h | h | (h | h) | h
  · exact .inr (.inl h)
  · exact .inl h
  · exact .inr (.inr (.inl (.inl h)))
  · exact .inr (.inr (.inl (.inr h)))
  · exact .inr (.inr (.inr h))
theorem due_ap {D O R : Addr} {o x y : Obj} {led nw own tl : List (Addr × Obj)} (hap : ∀ p ∈ (O, x) :: (led ++ nw), ∀ q ∈ own, q.1 = R ∨ p.1 ≠ q.1) (htl : tl = led ++ nw ++ own) (l : AllLt D tl) :
    ∀ p ∈ (O, y) :: (((D, o) :: led) ++ nw), ∀ q ∈ own, q.1 = R ∨ p.1 ≠ q.1 := by
  intro p hp q hq
  simp only [List.mem_cons, List.mem_append, List.cons_append] at hp
  rcases hp with rfl | rfl | h
  · exact hap (O, x) (.head _) q hq
  · exact .inr fun e => Nat.lt_irrefl _ (e ▸ allLt_mem l q (by rw [htl]; simp [hq]))
  · exact hap p (.tail _ (List.mem_append.mpr h)) q hq
theorem due_off {D O : Addr} {o : Obj} {led nw : List (Addr × Obj)} (hoff : ∀ p ∈ led ++ nw, p.1 ≠ O) (l : O < D) : ∀ p ∈ ((D, o) :: led) ++ nw, p.1 ≠ O := by
  intro p hp
  simp only [List.cons_append, List.mem_cons] at hp
  rcases hp with rfl | h
  · exact Nat.ne_of_gt l
  · exact hoff p h
theorem due_fr {D : Addr} {o : Obj} {led nw own tl : List (Addr × Obj)} (hfr : ∀ q ∈ led, ∀ p ∈ nw, p.1 < q.1) (htl : tl = led ++ nw ++ own) (l : AllLt D tl) : ∀ q ∈ (D, o) :: led, ∀ p ∈ nw, p.1 < q.1 := by
  intro q hq p hp
  rcases List.mem_cons.mp hq with rfl | hq
  · exact allLt_mem l p (by rw [htl]; simp [hp])
  · exact hfr q hq p hp
theorem due_none (w : World) {dp un : Nat} {gd : Option (List Code)} {cn : PySem.Str} {cs : Scope} {a : Addr} {ccd : Value} {cl : List (PySem.Str × Addr)} {outer : List Env} {A₀ : Around} {base h₀ : Heap} {L : Addr} {m : PySem.Str → Option Value} {s : Shared} {Q E : Value → Shared → Prop} {mean : ExcName → Option Value} {mg mb : PySem.Str → Option Value} {nv : Value} {news : List (Addr × Obj)}
  (B : Below A₀ base outer h₀) (F : Fr h₀ L s.heap m) (X : (Mine.hd.heap_39 w.params).In h₀) (N : News h₀ L s.heap news) (T : Top Mine.hd.view_39 (looseW Mine.hd.view_39 [Str.ofString "_twin_re_1"]) mean mg mb h₀) (hk : cs.kind = .function) (hd : dp + 8 < recursionLimit) (hu : un + 64 < cLine)
  (hret : ∀ t h' tk', Fr h₀ L h' m → News h₀ L h' news → Q (.str (Str.ofString "error") t) { s with heap := h', toks := tk' }) :
  wpAny (model PySem.Challenge.rw_eh5007_01.row.prog w) (ktrTop dp un gd cn cs L a ccd cl outer) (call (.ref 340) [.none, nv]) Q E s := by
  (w_top off; (have fillIt : PySem.Challenge.rw_eh5007_01 = PySem.Challenge.rw_eh5007_01 ∧ Mine.hd.heap_39 = Mine.hd.heap_39 := by (k_fill; exact ⟨rfl, rfl⟩)); clear fillIt)
  refine wpAny_call ?_
  k_dflt (refine' code_def ?k1 ?k2 ?k3 ?k4 ?k5 ?kA ?kF ?kK ?k6 ?k7 ?k8 ?k9 ?kB ?_ ?c2 ?c3 ?c4 ?c5; (case kA => exact rfl); (case kF => exact rfl); (case kK => assumption); (case k1 => k_asm); (case k2 => k_asm); (case k3 => k_asm); (case k4 => k_asm); (case k5 => k_asm); (case k6 => k_is); (case k7 => k_is); (case k8 => ktr_room); (case k9 => exact BindsTo.of_eq rfl); (case c5 => decide); (case kB => exact locs rfl); (case c2 => exact rfl); (case c3 => exact rfl); (case c4 => exact rfl); k_whole)
  intro gE LE hE FGE FE NE BE XE TE
  (try dsimp only)
  k_fold
  k_steps
  exact hret _ _ _ (by assumption) (by assumption)

theorem due_ok (w : World) {dp un : Nat} {gd : Option (List Code)} {cn : PySem.Str} {cs : Scope} {a : Addr} {ccd : Value} {cl : List (PySem.Str × Addr)} {outer : List Env} {A₀ : Around} {base h₀ : Heap} {L : Addr} {m : PySem.Str → Option Value} {s : Shared} {Q E : Value → Shared → Prop} {mean : ExcName → Option Value} {mg mb : PySem.Str → Option Value} {R : Addr} {rvs : List Value} {rows : List Row} {nv : Value} {names : Option (List PySem.Str)} {rn : Nat} {news : List (Addr × Obj)}
  (B : Below A₀ base outer h₀) (F : Fr h₀ L s.heap m) (X : (Mine.hd.heap_39 w.params).In h₀) (N : News h₀ L s.heap news) (T : Top Mine.hd.view_39 (looseW Mine.hd.view_39 [Str.ofString "_twin_re_1"]) mean mg mb h₀) (hk : cs.kind = .function) (hd : dp + 8 < recursionLimit) (hu : un + 64 < cLine) (hR : (R, W.listOf rvs.toArray rn) ∈ news) (hrows : RowsIn news rvs rows) (hlen : rows.length ≤ 100) (hnm : NamesIn news nv names)
  (hret : ∀ v T' h' tk', DueOut T' v (due names 0 rows) → Fr h₀ L h' m → News h₀ L h' (T' ++ news) → (∀ q ∈ T', ∀ p ∈ news, p.1 < q.1) → Q v { s with heap := h', toks := tk' }) :
  wpAny (model PySem.Challenge.rw_eh5007_01.row.prog w) (ktrTop dp un gd cn cs L a ccd cl outer) (call (.ref 340) [.ref R, nv]) Q E s := by
  (w_top off; (have fillIt : PySem.Challenge.rw_eh5007_01 = PySem.Challenge.rw_eh5007_01 ∧ Mine.hd.heap_39 = Mine.hd.heap_39 := by (k_fill; exact ⟨rfl, rfl⟩)); clear fillIt)
  refine wpAny_call ?_
  k_dflt (refine' code_def ?k1 ?k2 ?k3 ?k4 ?k5 ?kA ?kF ?kK ?k6 ?k7 ?k8 ?k9 ?kB ?_ ?c2 ?c3 ?c4 ?c5; (case kA => exact rfl); (case kF => exact rfl); (case kK => assumption); (case k1 => k_asm); (case k2 => k_asm); (case k3 => k_asm); (case k4 => k_asm); (case k5 => k_asm); (case k6 => k_is); (case k7 => k_is); (case k8 => ktr_room); (case k9 => exact BindsTo.of_eq rfl); (case c5 => decide); (case kB => exact locs rfl); (case c2 => exact rfl); (case c3 => exact rfl); (case c4 => exact rfl); k_whole)
  intro gE LE hE FGE FE NE BE XE TE
  (try dsimp only)
  k_fold
  k_steps
  rename Fr _ _ _ _ => F1
  refine Halt.mk (For_turns F1 (h₀ := gE) ?_)
  k_steps
  rename News _ _ _ _ => N1
  rename (∀ p ∈ news, p.1 < _) => l1
  refine Halt.mk (forL (h₀ := gE) (DueJ names rows nv news) trivial rfl F1 N1 (.tail _ hR) ⟨_, 0, [], [], [], _, _, by with_unfolding_all rfl, rfl, by with_unfolding_all rfl, ?_, .nil, rfl, rfl, fun p hp => Nat.ne_of_lt (l1 p hp), (fun q hq => by cases hq), l1⟩ ?_ ?_)
  · rw [List.drop_zero, DueR.pre_nil]
  · clear F1 N1 l1
    intro i v m2 news2 h2 tk2 own hv hJ hap F2 N2
    obtain ⟨O, p, its, vs, led, n, tp, hk1, hk2, hk3, hdue, hits, hvl, rfl, hoff, hfr, hfr2⟩ := hJ
    obtain ⟨a, r, t1, t2, t3, rfl, hr, hra⟩ := hrows.get i v hv
    obtain ⟨tl, htl⟩ : ∃ tl, tl = led ++ news ++ own := ⟨_, rfl⟩
    have N3 : News gE LE h2 ((O, W.listOf vs.toArray n) :: tl) := by
      have N4 : News gE LE h2 _ := N2
      rw [htl]; simpa using N4
    have hoffT : ∀ p ∈ tl, p.1 ≠ O := by
      intro x hx
      rw [htl] at hx
      rcases List.mem_append.mp hx with hx | hx
      · exact hoff x hx
      · rcases hap _ (.head _) x hx with e | e
        · rw [e]; exact hoff _ (List.mem_append_right _ hR)
        · exact fun z => e z.symm
    have hra3 : (a, tupObj [.str (one r.c) t1, .int r.z t2, .str (one r.o) t3]) ∈ tl := by rw [htl]; simp [hra]
    have hT : IsTup h2 a [Value.str (one r.c) t1, .int r.z t2, .str (one r.o) t3].toArray := News.isTup N3 (.tail _ hra3)
    have hsub : ∀ p ∈ news, p ∈ tl := fun p hp => by rw [htl]; simp [hp]
    clear N2
    have hvl2 : vs.length ≤ 100 := by
      have := (List.getElem?_eq_some_iff.mp hr).1
      omega
    have hdrop : rows.drop i = r :: rows.drop (i + 1) := by
      obtain ⟨h1, h2⟩ := List.getElem?_eq_some_iff.mp hr
      rw [List.drop_eq_getElem_cons h1, h2]
    rw [hdrop] at hdue
    rw [due_cons] at hdue
    have hfin : ∀ (g : Heap) (l : Addr) (hh : Heap), News g l hh ((O, W.listOf vs.toArray n) :: tl) → News g l hh (((O, W.listOf vs.toArray n) :: led) ++ news) := by
      intro g l hh N
      refine News.perm N fun p hp => ?_
      rw [htl]
      simp only [List.mem_cons, List.mem_append, List.cons_append] at hp ⊢
      rcases hp with h | h | h
      · exact .inl h
      · exact .inr (.inl (.inl h))
      · exact .inr (.inl (.inr h))
    have hfrT : ∀ q ∈ (O, W.listOf vs.toArray n) :: led, ∀ p ∈ news, p.1 < q.1 := by
      intro q hq p hp
      rcases List.mem_cons.mp hq with rfl | hq
      · exact hfr2 p hp
      · exact hfr q hq p hp
    by_cases hz0 : r.z = 0
    · have hz : (r.z == 0) = true := beq_iff_eq.mpr hz0
      have hd2 : due names 0 rows = .err := by rw [hdue, if_pos hz0]; rfl
      k_steps
      dsimp only [TurnEnd]
      k_steps
      exact hret _ ((O, W.listOf vs.toArray n) :: led) _ _ (by rw [hd2]; exact ⟨_, rfl⟩) (by assumption) (hfin _ _ _ (by assumption)) hfrT
    have hz : (r.z == 0) = false := beq_eq_false_iff_ne.mpr hz0
    rw [if_neg hz0] at hdue
    by_cases hpad : isPad r.c = true
    · have hpad2 : (!isPad r.c) = false := by rw [hpad]; rfl
      have hd2 : due names 0 rows = ((due names p (rows.drop (i + 1))).pre [⟨r, .none⟩]).pre its := by rw [hdue, if_pos hpad]
      k_steps
      rename News _ _ _ _ => N9
      rename (O < _ ∧ AllLt _ _) => l9
      refine ⟨_, _, _, _, rfl, by assumption, due_step htl N9, ?_, ⟨O, p, its ++ [⟨r, .none⟩], _, _, _, _, by with_unfolding_all assumption, by with_unfolding_all first | rfl | assumption, by with_unfolding_all assumption, by rw [hd2, DueR.pre_pre], (hits.mono fun p hp => .tail _ hp).snoc (i := ⟨r, .none⟩) (.head _) .none, by simp [hvl], rfl, ?_, ?_, hfr2⟩⟩
      · exact due_ap hap htl l9.2
      · exact due_off hoff l9.1
      · exact due_fr hfr htl l9.2
    have hpad2 : (!isPad r.c) = true := by rw [Bool.not_eq_true] at hpad; rw [hpad]; rfl
    rw [if_neg hpad] at hdue
    rcases hnm with ⟨rfl, rfl⟩ | ⟨na, nvs, ws, rfl, rfl, hws, hseq, hwl⟩
    · by_cases hval : isVal r.c = true
      · have hval2 : (!isVal r.c) = false := by rw [hval]; rfl
        have hd2 : due none 0 rows = ((due none (p + 1) (rows.drop (i + 1))).pre [⟨r, .int p⟩]).pre its := by rw [hdue]; dsimp only; rw [if_pos hval]
        k_steps
        rename News _ _ _ _ => N9
        rename (O < _ ∧ AllLt _ _) => l9
        refine ⟨_, _, _, _, rfl, by assumption, due_step htl N9, ?_, ⟨O, p + 1, its ++ [⟨r, .int p⟩], _, _, _, _, by with_unfolding_all assumption, by with_unfolding_all first | rfl | assumption, by with_unfolding_all assumption, by rw [hd2, DueR.pre_pre], (hits.mono fun p hp => .tail _ hp).snoc (i := ⟨r, .int p⟩) (.head _) .int, by simp [hvl], rfl, ?_, ?_, hfr2⟩⟩
        · exact due_ap hap htl l9.2
        · exact due_off hoff l9.1
        · exact due_fr hfr htl l9.2
      · have hval2 : (!isVal r.c) = true := by rw [Bool.not_eq_true] at hval; rw [hval]; rfl
        have hd2 : due none 0 rows = .err := by rw [hdue]; dsimp only; rw [if_neg hval]; rfl
        k_steps

        dsimp only [TurnEnd]
        k_steps
        exact hret _ ((O, W.listOf vs.toArray n) :: led) _ _ (by rw [hd2]; exact ⟨_, rfl⟩) (by assumption) (hfin _ _ _ (by assumption)) hfrT
    · have hseq2 : SeqIn tl na nvs := hseq.mono hsub
      by_cases hpl : p < ws.length
      · by_cases hval : isVal r.c = true
        · have hval2 : (!isVal r.c) = false := by rw [hval]; rfl
          have hd2 : due (some ws) 0 rows = ((due (some ws) (p + 1) (rows.drop (i + 1))).pre [⟨r, .str (ws.getD p PySem.Str.empty)⟩]).pre its := by rw [hdue]; dsimp only; rw [if_pos hpl, if_pos hval]
          k_steps
          rename News _ _ _ _ => N9
          rename (O < _ ∧ AllLt _ _) => l9
          refine ⟨_, _, _, _, rfl, by assumption, due_step htl N9, ?_, ⟨O, p + 1, its ++ [⟨r, .str (ws.getD p PySem.Str.empty)⟩], _, _, _, _, by with_unfolding_all assumption, by with_unfolding_all first | rfl | assumption, by with_unfolding_all assumption, by rw [hd2, DueR.pre_pre], (hits.mono fun p hp => .tail _ hp).snoc (i := ⟨r, .str (ws.getD p PySem.Str.empty)⟩) (.head _) .str, by simp [hvl], rfl, ?_, ?_, hfr2⟩⟩
          · exact due_ap hap htl l9.2
          · exact due_off hoff l9.1
          · exact due_fr hfr htl l9.2
        · have hval2 : (!isVal r.c) = true := by rw [Bool.not_eq_true] at hval; rw [hval]; rfl
          have hd2 : due (some ws) 0 rows = .err := by rw [hdue]; dsimp only; rw [if_pos hpl, if_neg hval]; rfl
          k_steps

          dsimp only [TurnEnd]
          k_steps
          exact hret _ ((O, W.listOf vs.toArray n) :: led) _ _ (by rw [hd2]; exact ⟨_, rfl⟩) (by assumption) (hfin _ _ _ (by assumption)) hfrT
      · have hd2 : due (some ws) 0 rows = .idx := by rw [hdue]; dsimp only; rw [if_neg hpl]; rfl
        k_steps

        dsimp only [TurnEnd]
        k_steps
        exact hret _ ((O, W.listOf vs.toArray n) :: led) _ _ (by rw [hd2]; exact ⟨_, rfl⟩) (by assumption) (hfin _ _ _ (by assumption)) hfrT
  · intro h' tk' m' news' F' N' hJ
    obtain ⟨O, p, its, vs, led, n, tp, hk1, hk2, hk3, hdue, hits, hvl, rfl, hoff, hfr, hfr2⟩ := hJ
    have hd2 : due names 0 rows = .ok its := by
      rw [hdue, List.drop_eq_nil_of_le (by rw [hrows.len]; exact Nat.le_refl _)]
      simp [due, DueR.pre]
    k_steps
    refine hret _ ((O, W.listOf vs.toArray n) :: led) _ _ (by rw [hd2]; exact ⟨O, vs, n, rfl, .head _, hits.mono fun p hp => .tail _ hp⟩) (by assumption) (by assumption) ?_
    intro q hq p hp
    rcases List.mem_cons.mp hq with rfl | hq
    · exact hfr2 p hp
    · exact hfr q hq p hp
end Mine
end
section
open PySem PySem.W PyProof.Rows
set_option maxRecDepth 100000
set_option maxHeartbeats 8000000
namespace Mine
local macro_rules | `(tactic| k_all) => `(tactic| assumption)
local macro_rules | `(tactic| k_room) => `(tactic| ktr_room)
local macro_rules | `(tactic| walk_at "wpAt") => `(tactic| (ks_step "exec Expr"; k_dflt (refine ks_wpAt_Expr_any ?_)))
local macro_rules | `(tactic| walk_at "wpAt") => `(tactic| (ks_step "eval Call"; k_dflt (refine ks_wpAt_MethodCall ?_)))

abbrev ent (P : Params) (n : String) (v : Value) (t : Tok) : DictEntry := ⟨PyData.keyHash P (Str.ofString n), .str (Str.ofString n) t, v⟩
abbrev made (P : Params) (z : Int) (nv ev : Value) (t0 t1 t2 t3 : Tok) (rest : List DictEntry) : List DictEntry := ent P "size" (.int z t0) t1 :: ent P "name" nv t2 :: ent P "endianness" ev t3 :: rest
theorem drop2 {g h : Heap} {L : Addr} {a b : Addr × Obj} {l : List (Addr × Obj)} (N : News g L h (a :: b :: l)) : News g L h l := fun p hp => N p (.tail _ (.tail _ hp))

theorem mk_s (w : World) {dp un : Nat} {gd : Option (List Code)} {cn : PySem.Str} {cs : Scope} {a : Addr} {ccd : Value} {cl : List (PySem.Str × Addr)} {outer : List Env} {A₀ : Around} {base h₀ : Heap} {L : Addr} {m : PySem.Str → Option Value} {s : Shared} {Q E : Value → Shared → Prop} {mean : ExcName → Option Value} {mg mb : PySem.Str → Option Value} {size : Int} {ts : Tok} {nv : Value} {news : List (Addr × Obj)}
  (B : Below A₀ base outer h₀) (F : Fr h₀ L s.heap m) (X : (Mine.hd.heap_39 w.params).In h₀) (N : News h₀ L s.heap news) (T : Top Mine.hd.view_39 (looseW Mine.hd.view_39 [Str.ofString "_twin_re_1"]) mean mg mb h₀) (hk : cs.kind = .function) (h1 : 1 ≤ size) (h2 : size ≤ 999) (hd : dp + 8 < recursionLimit) (hu : un + 64 < cLine)
  (hret : ∀ x d t1 t2 t3 u1 u2 t4 t5 h' tk', Fr h₀ L h' m → News h₀ L h' ((x, instObj 111 d) :: (d, dictOf (made w.params size nv .none ts t1 t2 t3 [ent w.params "minimum" (.int (-2 ^ (size - 1).toNat) u1) t4, ent w.params "maximum" (.int (- -2 ^ (size - 1).toNat - 1) u2) t5]) 5) :: news) → (∀ p ∈ news, p.1 < d) → d < x → Q (.ref x) { s with heap := h', toks := tk' }) :
  wpAny (model PySem.Challenge.rw_eh5007_01.row.prog w) (ktrTop dp un gd cn cs L a ccd cl outer) (call (.ref 111) [.int size ts, nv]) Q E s := by
  (w_top off; (have fillIt : PySem.Challenge.rw_eh5007_01 = PySem.Challenge.rw_eh5007_01 ∧ Mine.hd.heap_39 = Mine.hd.heap_39 := by (k_fill; exact ⟨rfl, rfl⟩)); clear fillIt)
  obtain ⟨ck, c1, c2, c3, c4⟩ := cs
  obtain rfl : ck = .function := hk
  k_steps
  rename News _ _ _ _ => N9
  exact hret _ _ _ _ _ _ _ _ _ _ _ (by assumption) (drop2 N9) (by assumption) (by assumption)

theorem mk_u (w : World) {dp un : Nat} {gd : Option (List Code)} {cn : PySem.Str} {cs : Scope} {a : Addr} {ccd : Value} {cl : List (PySem.Str × Addr)} {outer : List Env} {A₀ : Around} {base h₀ : Heap} {L : Addr} {m : PySem.Str → Option Value} {s : Shared} {Q E : Value → Shared → Prop} {mean : ExcName → Option Value} {mg mb : PySem.Str → Option Value} {size : Int} {ts : Tok} {nv : Value} {news : List (Addr × Obj)}
  (B : Below A₀ base outer h₀) (F : Fr h₀ L s.heap m) (X : (Mine.hd.heap_39 w.params).In h₀) (N : News h₀ L s.heap news) (T : Top Mine.hd.view_39 (looseW Mine.hd.view_39 [Str.ofString "_twin_re_1"]) mean mg mb h₀) (hk : cs.kind = .function) (h1 : 1 ≤ size) (h2 : size ≤ 999) (hd : dp + 8 < recursionLimit) (hu : un + 64 < cLine)
  (hret : ∀ x d t1 t2 t3 u1 t4 h' tk', Fr h₀ L h' m → News h₀ L h' ((x, instObj 146 d) :: (d, dictOf (made w.params size nv .none ts t1 t2 t3 [ent w.params "maximum" (.int (2 ^ size.toNat - 1) u1) t4]) 4) :: news) → (∀ p ∈ news, p.1 < d) → d < x → Q (.ref x) { s with heap := h', toks := tk' }) :
  wpAny (model PySem.Challenge.rw_eh5007_01.row.prog w) (ktrTop dp un gd cn cs L a ccd cl outer) (call (.ref 146) [.int size ts, nv]) Q E s := by
  (w_top off; (have fillIt : PySem.Challenge.rw_eh5007_01 = PySem.Challenge.rw_eh5007_01 ∧ Mine.hd.heap_39 = Mine.hd.heap_39 := by (k_fill; exact ⟨rfl, rfl⟩)); clear fillIt)
  obtain ⟨ck, c1, c2, c3, c4⟩ := cs
  obtain rfl : ck = .function := hk
  k_steps
  rename News _ _ _ _ => N9
  exact hret _ _ _ _ _ _ _ _ _ (by assumption) (drop2 N9) (by assumption) (by assumption)

theorem mk_b (w : World) {dp un : Nat} {gd : Option (List Code)} {cn : PySem.Str} {cs : Scope} {a : Addr} {ccd : Value} {cl : List (PySem.Str × Addr)} {outer : List Env} {A₀ : Around} {base h₀ : Heap} {L : Addr} {m : PySem.Str → Option Value} {s : Shared} {Q E : Value → Shared → Prop} {mean : ExcName → Option Value} {mg mb : PySem.Str → Option Value} {size : Int} {ts : Tok} {nv : Value} {news : List (Addr × Obj)}
  (B : Below A₀ base outer h₀) (F : Fr h₀ L s.heap m) (X : (Mine.hd.heap_39 w.params).In h₀) (N : News h₀ L s.heap news) (T : Top Mine.hd.view_39 (looseW Mine.hd.view_39 [Str.ofString "_twin_re_1"]) mean mg mb h₀) (hk : cs.kind = .function) (h1 : 1 ≤ size) (h2 : size ≤ 999) (hd : dp + 8 < recursionLimit) (hu : un + 64 < cLine)
  (hret : ∀ x d t1 t2 t3 u1 t4 h' tk', Fr h₀ L h' m → News h₀ L h' ((x, instObj 172 d) :: (d, dictOf (made w.params size nv .none ts t1 t2 t3 [ent w.params "maximum" (.int (2 ^ size.toNat - 1) u1) t4]) 4) :: news) → (∀ p ∈ news, p.1 < d) → d < x → Q (.ref x) { s with heap := h', toks := tk' }) :
  wpAny (model PySem.Challenge.rw_eh5007_01.row.prog w) (ktrTop dp un gd cn cs L a ccd cl outer) (call (.ref 172) [.int size ts, nv]) Q E s := by
  (w_top off; (have fillIt : PySem.Challenge.rw_eh5007_01 = PySem.Challenge.rw_eh5007_01 ∧ Mine.hd.heap_39 = Mine.hd.heap_39 := by (k_fill; exact ⟨rfl, rfl⟩)); clear fillIt)
  obtain ⟨ck, c1, c2, c3, c4⟩ := cs
  obtain rfl : ck = .function := hk
  k_steps
  rename News _ _ _ _ => N9
  exact hret _ _ _ _ _ _ _ _ _ (by assumption) (drop2 N9) (by assumption) (by assumption)

theorem mk_f (w : World) {dp un : Nat} {gd : Option (List Code)} {cn : PySem.Str} {cs : Scope} {a : Addr} {ccd : Value} {cl : List (PySem.Str × Addr)} {outer : List Env} {A₀ : Around} {base h₀ : Heap} {L : Addr} {m : PySem.Str → Option Value} {s : Shared} {Q E : Value → Shared → Prop} {mean : ExcName → Option Value} {mg mb : PySem.Str → Option Value} {size : Int} {ts : Tok} {nv : Value} {news : List (Addr × Obj)}
  (B : Below A₀ base outer h₀) (F : Fr h₀ L s.heap m) (X : (Mine.hd.heap_39 w.params).In h₀) (N : News h₀ L s.heap news) (T : Top Mine.hd.view_39 (looseW Mine.hd.view_39 [Str.ofString "_twin_re_1"]) mean mg mb h₀) (hk : cs.kind = .function) (h1 : 1 ≤ size) (h2 : size ≤ 999) (hd : dp + 8 < recursionLimit) (hu : un + 64 < cLine)
  (hret : ∀ x d t1 t2 t3 h' tk', Fr h₀ L h' m → News h₀ L h' ((x, instObj 198 d) :: (d, dictOf (made w.params size nv .none ts t1 t2 t3 []) 3) :: news) → (∀ p ∈ news, p.1 < d) → d < x → Q (.ref x) { s with heap := h', toks := tk' }) :
  wpAny (model PySem.Challenge.rw_eh5007_01.row.prog w) (ktrTop dp un gd cn cs L a ccd cl outer) (call (.ref 198) [.int size ts, nv]) Q E s := by
  (w_top off; (have fillIt : PySem.Challenge.rw_eh5007_01 = PySem.Challenge.rw_eh5007_01 ∧ Mine.hd.heap_39 = Mine.hd.heap_39 := by (k_fill; exact ⟨rfl, rfl⟩)); clear fillIt)
  obtain ⟨ck, c1, c2, c3, c4⟩ := cs
  obtain rfl : ck = .function := hk
  k_steps
  rename News _ _ _ _ => N9
  exact hret _ _ _ _ _ _ _ (by assumption) (N9) (by assumption) (by assumption)

theorem mk_r (w : World) {dp un : Nat} {gd : Option (List Code)} {cn : PySem.Str} {cs : Scope} {a : Addr} {ccd : Value} {cl : List (PySem.Str × Addr)} {outer : List Env} {A₀ : Around} {base h₀ : Heap} {L : Addr} {m : PySem.Str → Option Value} {s : Shared} {Q E : Value → Shared → Prop} {mean : ExcName → Option Value} {mg mb : PySem.Str → Option Value} {size : Int} {ts : Tok} {nv : Value} {news : List (Addr × Obj)}
  (B : Below A₀ base outer h₀) (F : Fr h₀ L s.heap m) (X : (Mine.hd.heap_39 w.params).In h₀) (N : News h₀ L s.heap news) (T : Top Mine.hd.view_39 (looseW Mine.hd.view_39 [Str.ofString "_twin_re_1"]) mean mg mb h₀) (hk : cs.kind = .function) (h1 : 1 ≤ size) (h2 : size ≤ 999) (hd : dp + 8 < recursionLimit) (hu : un + 64 < cLine)
  (hret : ∀ x d t1 t2 t3 h' tk', Fr h₀ L h' m → News h₀ L h' ((x, instObj 224 d) :: (d, dictOf (made w.params size nv .none ts t1 t2 t3 []) 3) :: news) → (∀ p ∈ news, p.1 < d) → d < x → Q (.ref x) { s with heap := h', toks := tk' }) :
  wpAny (model PySem.Challenge.rw_eh5007_01.row.prog w) (ktrTop dp un gd cn cs L a ccd cl outer) (call (.ref 224) [.int size ts, nv]) Q E s := by
  (w_top off; (have fillIt : PySem.Challenge.rw_eh5007_01 = PySem.Challenge.rw_eh5007_01 ∧ Mine.hd.heap_39 = Mine.hd.heap_39 := by (k_fill; exact ⟨rfl, rfl⟩)); clear fillIt)
  obtain ⟨ck, c1, c2, c3, c4⟩ := cs
  obtain rfl : ck = .function := hk
  k_steps
  rename News _ _ _ _ => N9
  exact hret _ _ _ _ _ _ _ (by assumption) (N9) (by assumption) (by assumption)

theorem mk_p (w : World) {dp un : Nat} {gd : Option (List Code)} {cn : PySem.Str} {cs : Scope} {a : Addr} {ccd : Value} {cl : List (PySem.Str × Addr)} {outer : List Env} {A₀ : Around} {base h₀ : Heap} {L : Addr} {m : PySem.Str → Option Value} {s : Shared} {Q E : Value → Shared → Prop} {mean : ExcName → Option Value} {mg mb : PySem.Str → Option Value} {size : Int} {ts : Tok} {news : List (Addr × Obj)}
  (B : Below A₀ base outer h₀) (F : Fr h₀ L s.heap m) (X : (Mine.hd.heap_39 w.params).In h₀) (N : News h₀ L s.heap news) (T : Top Mine.hd.view_39 (looseW Mine.hd.view_39 [Str.ofString "_twin_re_1"]) mean mg mb h₀) (hk : cs.kind = .function) (h1 : 1 ≤ size) (h2 : size ≤ 999) (hd : dp + 8 < recursionLimit) (hu : un + 64 < cLine)
  (hret : ∀ x d t1 t2 t3 h' tk', Fr h₀ L h' m → News h₀ L h' ((x, instObj 255 d) :: (d, dictOf (made w.params size .none .none ts t1 t2 t3 []) 3) :: news) → (∀ p ∈ news, p.1 < d) → d < x → Q (.ref x) { s with heap := h', toks := tk' }) :
  wpAny (model PySem.Challenge.rw_eh5007_01.row.prog w) (ktrTop dp un gd cn cs L a ccd cl outer) (call (.ref 255) [.int size ts]) Q E s := by
  (w_top off; (have fillIt : PySem.Challenge.rw_eh5007_01 = PySem.Challenge.rw_eh5007_01 ∧ Mine.hd.heap_39 = Mine.hd.heap_39 := by (k_fill; exact ⟨rfl, rfl⟩)); clear fillIt)
  obtain ⟨ck, c1, c2, c3, c4⟩ := cs
  obtain rfl : ck = .function := hk
  k_steps
  rename News _ _ _ _ => N9
  exact hret _ _ _ _ _ _ _ (by assumption) (N9) (by assumption) (by assumption)

theorem mk_P (w : World) {dp un : Nat} {gd : Option (List Code)} {cn : PySem.Str} {cs : Scope} {a : Addr} {ccd : Value} {cl : List (PySem.Str × Addr)} {outer : List Env} {A₀ : Around} {base h₀ : Heap} {L : Addr} {m : PySem.Str → Option Value} {s : Shared} {Q E : Value → Shared → Prop} {mean : ExcName → Option Value} {mg mb : PySem.Str → Option Value} {size : Int} {ts : Tok} {news : List (Addr × Obj)}
  (B : Below A₀ base outer h₀) (F : Fr h₀ L s.heap m) (X : (Mine.hd.heap_39 w.params).In h₀) (N : News h₀ L s.heap news) (T : Top Mine.hd.view_39 (looseW Mine.hd.view_39 [Str.ofString "_twin_re_1"]) mean mg mb h₀) (hk : cs.kind = .function) (h1 : 1 ≤ size) (h2 : size ≤ 999) (hd : dp + 8 < recursionLimit) (hu : un + 64 < cLine)
  (hret : ∀ x d t1 t2 t3 h' tk', Fr h₀ L h' m → News h₀ L h' ((x, instObj 274 d) :: (d, dictOf (made w.params size .none .none ts t1 t2 t3 []) 3) :: news) → (∀ p ∈ news, p.1 < d) → d < x → Q (.ref x) { s with heap := h', toks := tk' }) :
  wpAny (model PySem.Challenge.rw_eh5007_01.row.prog w) (ktrTop dp un gd cn cs L a ccd cl outer) (call (.ref 274) [.int size ts]) Q E s := by
  (w_top off; (have fillIt : PySem.Challenge.rw_eh5007_01 = PySem.Challenge.rw_eh5007_01 ∧ Mine.hd.heap_39 = Mine.hd.heap_39 := by (k_fill; exact ⟨rfl, rfl⟩)); clear fillIt)
  obtain ⟨ck, c1, c2, c3, c4⟩ := cs
  obtain rfl : ck = .function := hk
  k_steps
  rename News _ _ _ _ => N9
  exact hret _ _ _ _ _ _ _ (by assumption) (N9) (by assumption) (by assumption)

theorem mk_t (w : World) {dp un : Nat} {gd : Option (List Code)} {cn : PySem.Str} {cs : Scope} {a : Addr} {ccd : Value} {cl : List (PySem.Str × Addr)} {outer : List Env} {A₀ : Around} {base h₀ : Heap} {L : Addr} {m : PySem.Str → Option Value} {s : Shared} {Q E : Value → Shared → Prop} {mean : ExcName → Option Value} {mg mb : PySem.Str → Option Value} {size : Int} {ts : Tok} {nv : Value} {tc tw : Tok} {cc cw : PySem.Str} {news : List (Addr × Obj)}
  (B : Below A₀ base outer h₀) (F : Fr h₀ L s.heap m) (X : (Mine.hd.heap_39 w.params).In h₀) (N : News h₀ L s.heap news) (T : Top Mine.hd.view_39 (looseW Mine.hd.view_39 [Str.ofString "_twin_re_1"]) mean mg mb h₀) (hk : cs.kind = .function) (h1 : 1 ≤ size) (h2 : size ≤ 999) (hd : dp + 8 < recursionLimit) (hu : un + 64 < cLine)
  (hret : ∀ x d t1 t2 t3 t4 t5 h' tk', Fr h₀ L h' m → News h₀ L h' ((x, instObj 309 d) :: (d, dictOf (made w.params size nv .none ts t1 t2 t3 [ent w.params "encoding" (.str cc tc) t4, ent w.params "errors" (.str cw tw) t5]) 5) :: news) → (∀ p ∈ news, p.1 < d) → d < x → Q (.ref x) { s with heap := h', toks := tk' }) :
  wpAny (model PySem.Challenge.rw_eh5007_01.row.prog w) (ktrTop dp un gd cn cs L a ccd cl outer) (call (.ref 309) [.int size ts, nv, .str cc tc, .str cw tw]) Q E s := by
  (w_top off; (have fillIt : PySem.Challenge.rw_eh5007_01 = PySem.Challenge.rw_eh5007_01 ∧ Mine.hd.heap_39 = Mine.hd.heap_39 := by (k_fill; exact ⟨rfl, rfl⟩)); clear fillIt)
  obtain ⟨ck, c1, c2, c3, c4⟩ := cs
  obtain rfl : ck = .function := hk
  k_steps
  rename News _ _ _ _ => N9
  exact hret _ _ _ _ _ _ _ _ _ (by assumption) (drop2 N9) (by assumption) (by assumption)
end Mine
end
section
open PySem PySem.W PyProof.Rows PySem.Calls
set_option maxRecDepth 100000
set_option maxHeartbeats 8000000
namespace Mine
theorem compL {prog : Program} {w : World} {A : Around} {E : Value → Shared → Prop} {s : Shared} {env : Env} {h₀ : Heap} {L R : Addr} {m : PySem.Str → Option Value} {news : List (Addr × Obj)} {its : List Value} {n : Nat}
    {elt iter : Expr} {x : PySem.Str} {px : Pos} {ifs : List Expr} {scope : Scope} {pos : Pos} {Q : Value → Shared → Prop} (p : Value → Bool) (G : Value → Value → Prop) (_F : Fr h₀ L s.heap m) (_N : News h₀ L s.heap news) (hh : A.handled = none)
    (hfree : ∀ y ∈ scope.names, y.2 ≠ .free) (hcell : ∀ y ∈ scope.names, y.2 ≠ .cell) (hkind : scope.kind = .function)
    (hnames : ∀ y ∈ scope.names, y.2 = .local → scope.names.lookup y.1 = some .local) (hx : scope.names.lookup x = some .local) (hR : (R, W.listOf its.toArray n) ∈ news) (hl : its.length ≤ 1000)
    (htest : ∀ C v s₃ m₃ E', v ∈ its → s₃.heap.Ns C m₃ → m₃ x = some v → (∀ p ∈ news, s₃.heap.get? p.1 = some p.2) →
      wpAny (model prog w) A (forIn ifs true fun c r => if r = true then do let ok ← isTrue c (compEnv scope C env) (eval c (compEnv scope C env)); pure (ForInStep.yield ok) else pure (ForInStep.yield r))
        (fun ok s₄ => ok = p v ∧ Keeps s₃ s₄) E' s₃)
    (helt : ∀ C v s₃ m₃ E', v ∈ its → p v = true → s₃.heap.Ns C m₃ → m₃ x = some v → (∀ p ∈ news, s₃.heap.get? p.1 = some p.2) →
      wpAny (model prog w) A (eval elt (compEnv scope C env)) (fun y s₄ => G v y ∧ Keeps s₃ s₄) E' s₃)
    (hs : ∀ x, foldedSetIterable iter env x = pure x)
    (h : wpAny (model prog w) A (eval iter env) (fun xv s₁ => xv = .ref R ∧ Fr h₀ L s₁.heap m ∧ News h₀ L s₁.heap news ∧
      ∀ D ys k h' tk, Fr h₀ L h' m → News h₀ L h' ((D, W.listOf ys.toArray k) :: news) → (∀ p ∈ news, p.1 ≠ D) → Paired G (its.filter p) ys → Q (.ref D) { s₁ with heap := h', toks := tk }) E s) :
    wpAny (model prog w) A (eval (.ListComp elt [⟨.Name x px, iter, ifs, 0⟩] scope pos) env) Q E s := by
  refine wpAny_ListComp_walk p G hfree hcell hkind hnames hx (wpAny_mono h (fun xv s₁ h₁ => ?_) fun _ _ e => e) hs
  obtain ⟨rfl, F, N, hQ⟩ := h₁
  have hls : s₁.heap.IsList R its.toArray := News.isList N hR
  have hRlt : R < s₁.heap.objs.size := Heap.lt_size (N _ hR).1
  have hne : R ≠ s₁.heap.objs.size := Nat.ne_of_lt hRlt
  refine wpAny_pyIter_list hls ?_
  have W := Walks.list (prog := prog) (w := w) hh s₁.heap.objs.size R hne its.toArray
  have hlen : its.toArray.size = its.length := by simp
  rw [hlen] at W
  have hI : (s₁.heap.push { cls := .type "list_iterator", data := .fields #[.ref R, .int 0 0] }).get? s₁.heap.objs.size = some { cls := .type "list_iterator", data := .fields #[.ref R, .int 0 0] } := Heap.get?_push_size _ rfl
  have nI : h₀.get? s₁.heap.objs.size = none := next_is_new F
  have F' := F.push { cls := .type "list_iterator", data := .fields #[.ref R, .int 0 0] }
  have N' : News h₀ L (s₁.heap.push { cls := .type "list_iterator", data := .fields #[.ref R, .int 0 0] }) news := fun p hp => ⟨Heap.get?_push_of_some _ (N p hp).1, (N p hp).2⟩
  have off : ∀ p ∈ news, p.1 ≠ s₁.heap.objs.size := fun p hp => Nat.ne_of_lt (Heap.lt_size (N p hp).1)
  have hLI : L ≠ s₁.heap.objs.size := Nat.ne_of_lt F.ns.lt
  refine ⟨_, _, _, its.length, _, _, rfl, W, ?_, ⟨⟨_, hI, rfl, rfl⟩, hls.at fun o e => Heap.get?_push_of_some _ e⟩, ?_, ⟨?_, ?_⟩, ?_⟩
  · have := size_line; omega
  · intro b hb
    show b < (s₁.heap.push _).objs.size
    rw [Heap.size_push]
    simp only [List.mem_cons, List.not_mem_nil, or_false] at hb
    rcases hb with rfl | rfl
    · exact Nat.lt_succ_self _
    · exact Nat.lt_succ_of_lt hRlt
  · intro C i v s₃ m₃ E' hv hn hm hk _
    refine htest C v s₃ m₃ E' ?_ hn hm fun p hp => hk _ _ ?_ (N' p hp).1
    · have : its[i]? = some v := by simpa using hv
      exact List.mem_of_getElem? this
    · simpa using off p hp
  · intro C i v s₃ m₃ E' hv hp' hn hm hk _
    refine helt C v s₃ m₃ E' ?_ hp' hn hm fun p hp => hk _ _ ?_ (N' p hp).1
    · have : its[i]? = some v := by simpa using hv
      exact List.mem_of_getElem? this
    · simpa using off p hp
  · intro D h' tk ys vs hD hDl hDp hvl hP hpair hk
    have hvs : vs = its := by
      apply List.ext_getElem?
      intro j
      by_cases hj : j < vs.length
      · have := hP j vs[j] (List.getElem?_eq_getElem hj)
        rw [List.getElem?_eq_getElem hj]
        simpa using this.symm
      · rw [List.getElem?_eq_none (by omega), List.getElem?_eq_none (by omega)]
    subst hvs
    have F'' := LCg.fr_but F' hk hLI nI
    have N'' := LCg.news_but N' hk off
    obtain ⟨k, hDk⟩ := hDp
    have eD : ∀ b o, (s₁.heap.push { cls := .type "list_iterator", data := .fields #[.ref R, .int 0 0] }).get? b = some o → b ≠ D := by
      rintro b o e rfl
      rw [hD] at e; cases e
    refine hQ D ys.toList k h' tk F'' (fun p hp => ?_) (fun p hp => eD _ _ (N' p hp).1) hpair
    rcases List.mem_cons.mp hp with rfl | hp
    · refine ⟨hDk, ?_, ?_⟩
      · obtain ⟨o, es, k, ho, _⟩ := F'.ns
        exact (eD _ _ ho).symm
      · cases q : h₀.get? D with
        | none => rfl
        | some o => exact absurd rfl (eD _ _ (F'.keep _ _ q))
    · exact N'' p hp
end Mine
end
section
open PySem PySem.W PyProof.Rows PySem.Calls
set_option maxRecDepth 100000
set_option maxHeartbeats 8000000
namespace Mine
theorem foldl_nil0 : ∀ (rest : List PySem.Str) (acc : Array Nat), rest.foldl (fun acc p => acc ++ (#[] : Array Nat) ++ p.cps) acc = acc ++ (rest.flatMap (·.cps.toList)).toArray
  | [], acc => by simp
  | p :: r, acc => by
    rw [List.foldl_cons, foldl_nil0 r]
    apply Array.ext'
    simp
theorem join0 (l : List PySem.Str) : PySem.Txt.join (Str.ofString "") l = ⟨(l.flatMap (·.cps.toList)).toArray⟩ := by
  have e : Str.ofString "" = ⟨#[]⟩ := by decide +kernel
  rw [e]
  unfold PySem.Txt.join
  cases l with
  | nil => rfl
  | cons p r =>
    show (⟨r.foldl (fun acc p => acc ++ (#[] : Array Nat) ++ p.cps) p.cps⟩ : PySem.Str) = _
    rw [foldl_nil0]
    congr 1
    apply Array.ext'
    simp
def spotS (T : Array Nat) (g : Spot) : PySem.Str := ⟨(chars T g).toArray⟩
def GAt (T : Array Nat) (h : Heap) (v : Value) (g : Spot) : Prop := ∃ a t1 t2 t3 t4, v = .ref a ∧ h.get? a = some (tupObj [piece T g.s g.q t1, piece T g.q (g.q + 1) t2, piece T (g.q + 1) (g.q + 1 + g.d) t3, piece T (g.q + 1 + g.d) g.stop t4])
theorem piece_inj {T : Array Nat} {a b c d : Nat} {t u : Tok} (h : piece T a b t = piece T c d u) : T.extract a b = T.extract c d := by
  unfold piece at h
  injection h with h1 _
  injection h1
theorem GAt.det {T : Array Nat} {h : Heap} {v : Value} {g g' : Spot} (x : GAt T h v g) (y : GAt T h v g') : spotS T g = spotS T g' := by
  obtain ⟨a, t1, t2, t3, t4, rfl, e⟩ := x
  obtain ⟨b, u1, u2, u3, u4, hb, e'⟩ := y
  injection hb with hb
  subst hb
  rw [e] at e'
  have e2 := congrArg Obj.data (Option.some.inj e')
  simp only [tupObj] at e2
  injection e2 with e3 _
  have e4 := congrArg Array.toList e3
  simp only [List.cons.injEq, and_true] at e4
  obtain ⟨p1, p2, p3, p4⟩ := e4
  unfold spotS chars
  rw [piece_inj p1, piece_inj p2, piece_inj p3, piece_inj p4]
theorem spot_join (T : Array Nat) (g : Spot) : PySem.Txt.join (Str.ofString "") [⟨T.extract g.s g.q⟩, ⟨T.extract g.q (g.q + 1)⟩, ⟨T.extract (g.q + 1) (g.q + 1 + g.d)⟩, ⟨T.extract (g.q + 1 + g.d) g.stop⟩] = spotS T g := by
  rw [join0]
  unfold spotS chars
  simp
def GJ (T : Array Nat) (h : Heap) (v y : Value) : Prop := ∀ g, GAt T h v g → ∃ t, y = .str (spotS T g) t
theorem grps_strs {T : Array Nat} {h : Heap} {led : List (Addr × Obj)} (N : ∀ p ∈ led, h.get? p.1 = some p.2) {vs : List Value} {gs : List Spot} (hg : GrpsIn T led vs gs) : ∀ {ys : List Value}, Paired (GJ T h) vs ys → StrsAre ys (gs.map (spotS T)) := by
  induction hg with
  | nil => intro ys hp; cases hp; exact .nil
  | cons hm _ ih =>
    intro ys hp
    cases hp with
    | cons h1 h2 =>
      obtain ⟨t, rfl⟩ := h1 _ ⟨_, _, _, _, _, rfl, N _ hm⟩
      exact .cons _ t (ih h2)
theorem grps_len {T : Array Nat} {led : List (Addr × Obj)} {vs : List Value} {gs : List Spot} (hg : GrpsIn T led vs gs) : vs.length = gs.length := by
  induction hg with
  | nil => rfl
  | cons _ _ ih => simp [ih]
theorem grps_mem {T : Array Nat} {led : List (Addr × Obj)} {vs : List Value} {gs : List Spot} (hg : GrpsIn T led vs gs) : ∀ v ∈ vs, ∃ a g t1 t2 t3 t4, v = .ref a ∧ g ∈ gs ∧ (a, tupObj [piece T g.s g.q t1, piece T g.q (g.q + 1) t2, piece T (g.q + 1) (g.q + 1 + g.d) t3, piece T (g.q + 1 + g.d) g.stop t4]) ∈ led := by
  induction hg with
  | nil => intro v hv; cases hv
  | cons hm _ ih =>
    intro v hv
    rcases List.mem_cons.mp hv with rfl | hv
    · exact ⟨_, _, _, _, _, _, rfl, .head _, hm⟩
    · obtain ⟨a, g, t1, t2, t3, t4, e, hg, hmm⟩ := ih v hv
      exact ⟨a, g, t1, t2, t3, t4, e, .tail _ hg, hmm⟩
theorem grps_get {T : Array Nat} {led : List (Addr × Obj)} {vs : List Value} {gs : List Spot} (hg : GrpsIn T led vs gs) : ∀ (i : Nat) (v : Value), vs[i]? = some v → ∃ a g t1 t2 t3 t4, v = .ref a ∧ gs[i]? = some g ∧ (a, tupObj [piece T g.s g.q t1, piece T g.q (g.q + 1) t2, piece T (g.q + 1) (g.q + 1 + g.d) t3, piece T (g.q + 1 + g.d) g.stop t4]) ∈ led := by
  induction hg with
  | nil => intro i v h; simp at h
  | cons hm _ ih =>
    intro i v h
    cases i with
    | zero => simp at h; exact ⟨_, _, _, _, _, _, h.symm, rfl, hm⟩
    | succ i => exact ih i v (by simpa using h)
theorem fa_hit {T : Array Nat} {p : Nat} {gs : List Spot} (h : FA T p gs) : ∀ g ∈ gs, Hit T g.s g.q g.d g.e := by
  induction h with
  | done _ => intro g hg; cases hg
  | hit _ _ H _ ih =>
    intro g hg
    rcases List.mem_cons.mp hg with rfl | hg
    · exact H
    · exact ih g hg
theorem extract_one {T : Array Nat} {k : Nat} (h : k < T.size) : (⟨T.extract k (k + 1)⟩ : PySem.Str) = one (T.getD k 0) := by
  unfold one
  congr 1
  apply Array.ext'
  simp only [Array.toList_extract, List.extract_eq_take_drop]
  rw [show k + 1 - k = 1 by omega]
  have hl : k < T.toList.length := by simpa using h
  rw [List.drop_eq_getElem_cons hl]
  simp [Array.getD_eq_getD_getElem?, h]
theorem hit_mark {T : Array Nat} {s q d e : Nat} (H : Hit T s q d e) : (q = s ∧ (⟨T.extract s q⟩ : PySem.Str) = Str.ofString "") ∨ (q = s + 1 ∧ (⟨T.extract s q⟩ : PySem.Str) = one (T.getD s 0)) := by
  have h1 := H.mark
  have h2 := cnt_le isMark T (min 1 (T.size - s)) s
  have h3 := H.lt
  rcases Nat.eq_or_lt_of_le (show s ≤ q by omega) with h | h
  · subst h
    refine .inl ⟨rfl, ?_⟩
    have e : Str.ofString "" = ⟨#[]⟩ := by decide +kernel
    rw [e]
    simp
    exact Nat.min_le_left _ _
  · obtain rfl : q = s + 1 := by omega
    exact .inr ⟨rfl, extract_one (by omega)⟩
theorem one_ne (c : Nat) : (one c != Str.ofString "") = true := by
  have e : Str.ofString "" = ⟨#[]⟩ := by decide +kernel
  rw [e]
  simp [one]
theorem spots_join (T : Array Nat) (gs : List Spot) : PySem.Txt.join (Str.ofString "") (gs.map (spotS T)) = ⟨(gs.flatMap (chars T)).toArray⟩ := by
  rw [join0]
  congr 2
  induction gs with
  | nil => rfl
  | cons g r ih => rw [List.map_cons, List.flatMap_cons, List.flatMap_cons, ih]; rfl
theorem spots_sum {T : Array Nat} {p : Nat} {gs : List Spot} (h : FA T p gs) (hp : p ≤ T.size) : ((gs.map (spotS T)).map (·.length)).sum ≤ T.size := by
  have h1 := fa_span h hp
  have h2 := fa_chars_len h
  have h3 : ((gs.map (spotS T)).map (·.length)).sum = (gs.flatMap (chars T)).length := by
    clear h h1 h2 hp
    induction gs with
    | nil => rfl
    | cons g r ih => rw [List.map_cons, List.map_cons, List.sum_cons, ih, List.flatMap_cons, List.length_append]; rfl
  omega
theorem join_ne {T : Array Nat} {gs' : List Spot} {b : PySem.Str} (hb : b.cps = T) (h' : FA T 0 gs') : (PySem.Txt.join (Str.ofString "") (gs'.map (spotS T)) != b) = decide (gs'.flatMap (chars T) ≠ T.toList) := by
  rw [spots_join, Bool.eq_iff_iff]
  simp only [bne_iff_ne, ne_eq, decide_eq_true_eq]
  obtain ⟨c⟩ := b
  obtain rfl : c = T := hb
  constructor
  · intro h e; apply h; rw [e]
  · intro h e; apply h
    have e2 := congrArg (fun z : PySem.Str => z.cps.toList) e
    simpa using e2
section
variable {prog : Program} {w : World} {A : Around} {E : Value → Shared → Prop} {s : Shared} {x : PySem.Str} {t : Tok}
theorem r_truthy {Q : Bool → Shared → Prop} (hx : x.cps.size ≤ 1000) (h : ∀ k, Q (decide (0 < x.cps.size)) { s with toks := k }) : wpAny (model prog w) A (truthy (.str x t)) Q E s := by
  have e : x.length = x.cps.size := rfl
  refine PySem.P.truthy_str (by rw [e]; omega) ?_
  have e2 : ((x.length : Int) != 0) = decide (0 < x.cps.size) := by
    rw [Bool.eq_iff_iff, e]
    simp only [bne_iff_ne, ne_eq, decide_eq_true_eq]
    omega
  rw [e2]
  exact h _
theorem r_eq {y : PySem.Str} {c k : Nat} {u : Tok} {Q : Value → Shared → Prop} (hy : y = one k) (h : Q (.bool (c == k)) s) : wpAny (model prog w) A (compareOp .Eq (.str (one c) t) (.str y u)) Q E s := by
  subst hy
  refine PySem.P.eq_str ?_
  have : ((one c).cps.toList == (one k).cps.toList) = (c == k) := by
    rw [Bool.eq_iff_iff]
    simp [one]
  rw [this]
  exact h
end
end Mine
end
section
open PySem PySem.W PyProof.Rows
set_option maxRecDepth 100000
set_option maxHeartbeats 8000000
namespace Mine
structure ClsOk (K : Frag) (C : Addr) (c : Nat) : Prop where
  pg : plainGet K C (Str.ofString "") = true
  hd : hasDictIn K C = true
  k1 : findIn K (.ref C) (Str.ofString "__class__") = some (some (.builtin "object.__class__"))
  k2 : mroIn K C (.type "object") = some true
  f_size : findIn K (.ref C) (Str.ofString "size") = some none
  f_name : findIn K (.ref C) (Str.ofString "name") = some none
  f_endianness : findIn K (.ref C) (Str.ofString "endianness") = some none
  f_minimum : findIn K (.ref C) (Str.ofString "minimum") = some none
  f_maximum : findIn K (.ref C) (Str.ofString "maximum") = some none
  f_encoding : findIn K (.ref C) (Str.ofString "encoding") = some none
  f_errors : findIn K (.ref C) (Str.ofString "errors") = some none
  i74 : kitOne K (.ref C) (.ref 74) = some true
  i236 : kitOne K (.ref C) (.ref 236) = some (isPad c)
  i255 : kitOne K (.ref C) (.ref 255) = some (c == 112)
  i274 : kitOne K (.ref C) (.ref 274) = some (c == 80)
  i146 : kitOne K (.ref C) (.ref 146) = some (isUB c)
  i172 : kitOne K (.ref C) (.ref 172) = some (c == 98)
  i111 : kitOne K (.ref C) (.ref 111) = some (c == 115)
  i198 : kitOne K (.ref C) (.ref 198) = some (c == 102)
  i309 : kitOne K (.ref C) (.ref 309) = some (c == 116)
  i224 : kitOne K (.ref C) (.ref 224) = some (c == 114)
theorem cls_s (P : Params) : ClsOk (Mine.hd.heap_39 P) 111 115 := by
  (w_top off; (have fillIt : PySem.Challenge.rw_eh5007_01 = PySem.Challenge.rw_eh5007_01 ∧ Mine.hd.heap_39 = Mine.hd.heap_39 := by (k_fill; exact ⟨rfl, rfl⟩)); clear fillIt)
  refine ⟨by k_is, by k_is, by k_is, by k_is, by k_is, by k_is, by k_is, by k_is, by k_is, by k_is, by k_is, (show kitOne _ _ _ = some true by kit_is), (show kitOne _ _ _ = some false by kit_is), (show kitOne _ _ _ = some false by kit_is), (show kitOne _ _ _ = some false by kit_is), (show kitOne _ _ _ = some false by kit_is), (show kitOne _ _ _ = some false by kit_is), (show kitOne _ _ _ = some true by kit_is), (show kitOne _ _ _ = some false by kit_is), (show kitOne _ _ _ = some false by kit_is), (show kitOne _ _ _ = some false by kit_is)⟩
theorem cls_u (P : Params) : ClsOk (Mine.hd.heap_39 P) 146 117 := by
  (w_top off; (have fillIt : PySem.Challenge.rw_eh5007_01 = PySem.Challenge.rw_eh5007_01 ∧ Mine.hd.heap_39 = Mine.hd.heap_39 := by (k_fill; exact ⟨rfl, rfl⟩)); clear fillIt)
  refine ⟨by k_is, by k_is, by k_is, by k_is, by k_is, by k_is, by k_is, by k_is, by k_is, by k_is, by k_is, (show kitOne _ _ _ = some true by kit_is), (show kitOne _ _ _ = some false by kit_is), (show kitOne _ _ _ = some false by kit_is), (show kitOne _ _ _ = some false by kit_is), (show kitOne _ _ _ = some true by kit_is), (show kitOne _ _ _ = some false by kit_is), (show kitOne _ _ _ = some false by kit_is), (show kitOne _ _ _ = some false by kit_is), (show kitOne _ _ _ = some false by kit_is), (show kitOne _ _ _ = some false by kit_is)⟩
theorem cls_f (P : Params) : ClsOk (Mine.hd.heap_39 P) 198 102 := by
  (w_top off; (have fillIt : PySem.Challenge.rw_eh5007_01 = PySem.Challenge.rw_eh5007_01 ∧ Mine.hd.heap_39 = Mine.hd.heap_39 := by (k_fill; exact ⟨rfl, rfl⟩)); clear fillIt)
  refine ⟨by k_is, by k_is, by k_is, by k_is, by k_is, by k_is, by k_is, by k_is, by k_is, by k_is, by k_is, (show kitOne _ _ _ = some true by kit_is), (show kitOne _ _ _ = some false by kit_is), (show kitOne _ _ _ = some false by kit_is), (show kitOne _ _ _ = some false by kit_is), (show kitOne _ _ _ = some false by kit_is), (show kitOne _ _ _ = some false by kit_is), (show kitOne _ _ _ = some false by kit_is), (show kitOne _ _ _ = some true by kit_is), (show kitOne _ _ _ = some false by kit_is), (show kitOne _ _ _ = some false by kit_is)⟩
theorem cls_b (P : Params) : ClsOk (Mine.hd.heap_39 P) 172 98 := by
  (w_top off; (have fillIt : PySem.Challenge.rw_eh5007_01 = PySem.Challenge.rw_eh5007_01 ∧ Mine.hd.heap_39 = Mine.hd.heap_39 := by (k_fill; exact ⟨rfl, rfl⟩)); clear fillIt)
  refine ⟨by k_is, by k_is, by k_is, by k_is, by k_is, by k_is, by k_is, by k_is, by k_is, by k_is, by k_is, (show kitOne _ _ _ = some true by kit_is), (show kitOne _ _ _ = some false by kit_is), (show kitOne _ _ _ = some false by kit_is), (show kitOne _ _ _ = some false by kit_is), (show kitOne _ _ _ = some true by kit_is), (show kitOne _ _ _ = some true by kit_is), (show kitOne _ _ _ = some false by kit_is), (show kitOne _ _ _ = some false by kit_is), (show kitOne _ _ _ = some false by kit_is), (show kitOne _ _ _ = some false by kit_is)⟩
theorem cls_t (P : Params) : ClsOk (Mine.hd.heap_39 P) 309 116 := by
  (w_top off; (have fillIt : PySem.Challenge.rw_eh5007_01 = PySem.Challenge.rw_eh5007_01 ∧ Mine.hd.heap_39 = Mine.hd.heap_39 := by (k_fill; exact ⟨rfl, rfl⟩)); clear fillIt)
  refine ⟨by k_is, by k_is, by k_is, by k_is, by k_is, by k_is, by k_is, by k_is, by k_is, by k_is, by k_is, (show kitOne _ _ _ = some true by kit_is), (show kitOne _ _ _ = some false by kit_is), (show kitOne _ _ _ = some false by kit_is), (show kitOne _ _ _ = some false by kit_is), (show kitOne _ _ _ = some false by kit_is), (show kitOne _ _ _ = some false by kit_is), (show kitOne _ _ _ = some false by kit_is), (show kitOne _ _ _ = some false by kit_is), (show kitOne _ _ _ = some true by kit_is), (show kitOne _ _ _ = some false by kit_is)⟩
theorem cls_r (P : Params) : ClsOk (Mine.hd.heap_39 P) 224 114 := by
  (w_top off; (have fillIt : PySem.Challenge.rw_eh5007_01 = PySem.Challenge.rw_eh5007_01 ∧ Mine.hd.heap_39 = Mine.hd.heap_39 := by (k_fill; exact ⟨rfl, rfl⟩)); clear fillIt)
  refine ⟨by k_is, by k_is, by k_is, by k_is, by k_is, by k_is, by k_is, by k_is, by k_is, by k_is, by k_is, (show kitOne _ _ _ = some true by kit_is), (show kitOne _ _ _ = some false by kit_is), (show kitOne _ _ _ = some false by kit_is), (show kitOne _ _ _ = some false by kit_is), (show kitOne _ _ _ = some false by kit_is), (show kitOne _ _ _ = some false by kit_is), (show kitOne _ _ _ = some false by kit_is), (show kitOne _ _ _ = some false by kit_is), (show kitOne _ _ _ = some false by kit_is), (show kitOne _ _ _ = some true by kit_is)⟩
theorem cls_p (P : Params) : ClsOk (Mine.hd.heap_39 P) 255 112 := by
  (w_top off; (have fillIt : PySem.Challenge.rw_eh5007_01 = PySem.Challenge.rw_eh5007_01 ∧ Mine.hd.heap_39 = Mine.hd.heap_39 := by (k_fill; exact ⟨rfl, rfl⟩)); clear fillIt)
  refine ⟨by k_is, by k_is, by k_is, by k_is, by k_is, by k_is, by k_is, by k_is, by k_is, by k_is, by k_is, (show kitOne _ _ _ = some true by kit_is), (show kitOne _ _ _ = some true by kit_is), (show kitOne _ _ _ = some true by kit_is), (show kitOne _ _ _ = some false by kit_is), (show kitOne _ _ _ = some false by kit_is), (show kitOne _ _ _ = some false by kit_is), (show kitOne _ _ _ = some false by kit_is), (show kitOne _ _ _ = some false by kit_is), (show kitOne _ _ _ = some false by kit_is), (show kitOne _ _ _ = some false by kit_is)⟩
theorem cls_P (P : Params) : ClsOk (Mine.hd.heap_39 P) 274 80 := by
  (w_top off; (have fillIt : PySem.Challenge.rw_eh5007_01 = PySem.Challenge.rw_eh5007_01 ∧ Mine.hd.heap_39 = Mine.hd.heap_39 := by (k_fill; exact ⟨rfl, rfl⟩)); clear fillIt)
  refine ⟨by k_is, by k_is, by k_is, by k_is, by k_is, by k_is, by k_is, by k_is, by k_is, by k_is, by k_is, (show kitOne _ _ _ = some true by kit_is), (show kitOne _ _ _ = some true by kit_is), (show kitOne _ _ _ = some false by kit_is), (show kitOne _ _ _ = some true by kit_is), (show kitOne _ _ _ = some false by kit_is), (show kitOne _ _ _ = some false by kit_is), (show kitOne _ _ _ = some false by kit_is), (show kitOne _ _ _ = some false by kit_is), (show kitOne _ _ _ = some false by kit_is), (show kitOne _ _ _ = some false by kit_is)⟩
theorem ClsOk.pgn {K : Frag} {C : Addr} {c : Nat} (q : ClsOk K C c) (n : PySem.Str) : plainGet K C n = true := by
  have := q.pg
  unfold plainGet at this ⊢
  exact this
end Mine
end
section
open PySem PySem.W PyProof.Rows
set_option maxRecDepth 100000
set_option maxHeartbeats 8000000
namespace Mine
local macro_rules | `(tactic| k_all) => `(tactic| assumption)
local macro_rules | `(tactic| k_room) => `(tactic| ktr_room)
local macro_rules | `(tactic| walk_at "call builtin:list.append") => `(tactic| (k_here; (with_reducible show wpAny _ _ (call (Value.builtin _) [Value.ref _, _]) _ _ _); k_dflt (refine' append_K ?k1 ?k2 ?k3 ?_ ?z; (case k1 => k_asm); (case k2 => k_asm); (case k3 => k_upd); (case z => (have hz9 := size_line; simp only [List.size_toArray]; omega)); k_whole); intro h9 F9 N9; (try k_sweep)))
local macro_rules | `(tactic| walk_at "call type:int") => `(tactic| (k_here; (with_reducible show wpAny _ _ (call (Value.type "int") [Value.str _ _]) _ _ _); k_dflt (refine' KIN.call_text ?a ?b ?_; (case a => assumption); (case b => (simp only [PySem.Str.length, Array.size_extract]; omega)))))
local macro_rules | `(tactic| walk_at "binaryOp Add str str") => `(tactic| (k_here; k_dflt (refine r_add ?a ?b ?_; (case a => (first | omega | ((simp only [Array.size_extract]); omega) | (show 1 ≤ 1000; decide))); (case b => (first | omega | (show 1 ≤ 1000; decide) | ((simp only [Array.size_extract]); omega)))); intro _ _))
local macro_rules | `(tactic| walk_at "newTuple") => `(tactic| (k_here; k_dflt (refine r_newTuple ?a ?b ?_ ?c; (case a => k_asm); (case b => k_asm); (case c => decide); k_whole); intro a9 h9 F9 N9 l9; (try k_lt l9); (try k_sweep)))
local macro_rules | `(tactic| k_steps) => `(tactic| repeat' ((fail_if_success (with_reducible show Halt _)); first | (k_unfold; (try dsimp only)) | (k_end; kc_close) | walk1 | (dsimp only; walk1) | (leave1; walk_say "STEP leave1"; (try dsimp only)) | fail "no step"))
local macro_rules | `(tactic| walk_at "eval Name") => `(tactic| (k_here; k_dflt (refine' nameX_L ?F ?v ?_ ?a ?b; (case F => k_asm); (case a => rfl); (case b => rfl); (case v => first | rfl | assumption); k_whole)))
local macro_rules | `(tactic| walk_at "subscriptTail Name Name str int") => `(tactic| (k_here; k_dflt (refine r_item ?a ?b ?c ?_; (case a => omega); (case b => omega); (case c => omega))))
local macro_rules | `(tactic| walk_at "compareOp In str str") => `(tactic| (k_here; k_dflt (first | with_reducible refine r_in mem_marks ?_ | with_reducible refine r_in mem_marks' ?_ | with_reducible refine r_in mem_pads ?_ | with_reducible refine r_in mem_digs ?_ | with_reducible refine r_in mem_sps ?_ | with_reducible refine r_in mem_lets ?_ | with_reducible refine r_in mem_ub ?_ | with_reducible refine r_in mem_vals ?_)))
local macro_rules | `(tactic| walk_at "compareOp NotIn str str") => `(tactic| (k_here; k_dflt (first | with_reducible refine r_notIn mem_lets ?_ | with_reducible refine r_notIn mem_pads ?_ | with_reducible refine r_notIn mem_vals ?_)))
local macro_rules | `(tactic| walk_at "call builtin:len") => `(tactic| (k_here; (with_reducible show wpAny _ _ (call (Value.builtin "len") [Value.str _ _]) _ _ _); k_dflt (refine r_len ?a ?_; (case a => omega))))
local macro_rules | `(tactic| walk_at "subscriptTail Name UnaryOp str int") => `(tactic| (k_here; k_dflt (refine r_last ?a ?_; (case a => omega))))
local macro_rules | `(tactic| walk_at "subscriptTail Name Slice str ref") => `(tactic| ((with_reducible show wpAny _ _ (subscriptTail _ (Expr.Slice none (some _) none _) _ _) _ _ _); (with_reducible rename Fr _ _ _ _ => F'); (with_reducible rename News _ _ _ _ => N'); k_dflt (refine r_init (s := ⟨_, _, _, _, _⟩) F' N' ?a ?b ?_; (case a => omega); (case b => omega)); intro _ _ _ _ _))

section
variable {prog : Program} {w : World} {A : Around} {E : Value → Shared → Prop} {s : Shared} {Q : Value → Shared → Prop}
theorem r_neb {a : Bool} (h : Q (.bool false) s) : wpAny (model prog w) A (compareOp .NotEq (.bool a) (.bool a)) Q E s := by
  refine SeqAt.RcNeAt.bool_bool a a prog w E Q ?_
  have e : (!(a == a)) = false := by simp
  rw [e]; exact h
theorem r_eqb {a : Bool} (h : Q (.bool true) s) : wpAny (model prog w) A (compareOp .Eq (.bool a) (.bool a)) Q E s := by
  refine SeqAt.RcAt.bool_bool a a prog w E Q ?_
  have e : (a == a) = true := by simp
  rw [e]; exact h
end

theorem e62 : Str.ofString ">" = one 62 := by decide +kernel
theorem lit_s : Str.ofString "s" = one 115 := by decide +kernel
theorem lit_u : Str.ofString "u" = one 117 := by decide +kernel
theorem lit_f : Str.ofString "f" = one 102 := by decide +kernel
theorem lit_b : Str.ofString "b" = one 98 := by decide +kernel
theorem lit_t : Str.ofString "t" = one 116 := by decide +kernel
theorem lit_r : Str.ofString "r" = one 114 := by decide +kernel
theorem lit_p : Str.ofString "p" = one 112 := by decide +kernel
theorem lit_P : Str.ofString "P" = one 80 := by decide +kernel
local macro_rules | `(tactic| walk_at "compareOp Eq str str") => `(tactic| (k_here; k_dflt (first | with_reducible refine r_eq lit_s ?_ | with_reducible refine r_eq lit_u ?_ | with_reducible refine r_eq lit_f ?_ | with_reducible refine r_eq lit_b ?_ | with_reducible refine r_eq lit_t ?_ | with_reducible refine r_eq lit_r ?_ | with_reducible refine r_eq lit_p ?_ | with_reducible refine r_eq lit_P ?_)))
local macro_rules | `(tactic| walk_at "call builtin:isinstance") => `(tactic| (k_here; (with_reducible rename ClsOk _ _ _ => q9); k_dflt (refine' kia_one (kitx_own (ClsOk.pgn q9 _) (ClsOk.hd q9) (ClsOk.k1 q9) ?k7 ?k8 (ClsOk.k2 q9)) ?X ?I ?ee ?nb ?_; (case X => k_in); (case I => k_inst); (case ee => with_reducible first | exact ClsOk.i74 q9 | exact ClsOk.i236 q9 | exact ClsOk.i255 q9 | exact ClsOk.i274 q9 | exact ClsOk.i146 q9 | exact ClsOk.i172 q9 | exact ClsOk.i111 q9 | exact ClsOk.i198 q9 | exact ClsOk.i309 q9 | exact ClsOk.i224 q9); (case nb => (intro q; cases q)); (case k7 => k_is); (case k8 => k_is); k_whole); intro _))
local macro_rules | `(tactic| walk_at "compareOp NotEq bool bool") => `(tactic| (k_here; k_dflt (with_reducible refine r_neb ?_)))
local macro_rules | `(tactic| walk_at "compareOp Eq bool bool") => `(tactic| (k_here; k_dflt (with_reducible refine r_eqb ?_)))

theorem kind_ok (w : World) {dp un : Nat} {gd : Option (List Code)} {cn : PySem.Str} {cs : Scope} {a : Addr} {ccd : Value} {cl : List (PySem.Str × Addr)} {outer : List Env} {A₀ : Around} {base h₀ : Heap} {L : Addr} {m : PySem.Str → Option Value} {s : Shared} {Q E : Value → Shared → Prop} {mean : ExcName → Option Value} {mg mb : PySem.Str → Option Value} {x d C : Addr} {c : Nat} {tc : Tok} {es : List DictEntry} {n : Nat} {rest : List (Addr × Obj)}
  (B : Below A₀ base outer h₀) (F : Fr h₀ L s.heap m) (X : (Mine.hd.heap_39 w.params).In h₀) (N : News h₀ L s.heap ((x, instObj C d) :: (d, dictOf es n) :: rest)) (T : Top Mine.hd.view_39 (looseW Mine.hd.view_39 [Str.ofString "_twin_re_1"]) mean mg mb h₀) (hk : cs.kind = .function) (hd : dp + 8 < recursionLimit) (hu : un + 64 < cLine) (ck : ClsOk (Mine.hd.heap_39 w.params) C c)
  (hret : ∀ h' tk', Fr h₀ L h' m → News h₀ L h' ((x, instObj C d) :: (d, dictOf es n) :: rest) → Q (.bool true) { s with heap := h', toks := tk' }) :
  wpAny (model PySem.Challenge.rw_eh5007_01.row.prog w) (ktrTop dp un gd cn cs L a ccd cl outer) (call (.ref 347) [.ref x, .str (one c) tc]) Q E s := by
  (w_top off; (have fillIt : PySem.Challenge.rw_eh5007_01 = PySem.Challenge.rw_eh5007_01 ∧ Mine.hd.heap_39 = Mine.hd.heap_39 := by (k_fill; exact ⟨rfl, rfl⟩)); clear fillIt)
  refine wpAny_call ?_
  k_dflt (refine' code_def ?k1 ?k2 ?k3 ?k4 ?k5 ?kA ?kF ?kK ?k6 ?k7 ?k8 ?k9 ?kB ?_ ?c2 ?c3 ?c4 ?c5; (case kA => exact rfl); (case kF => exact rfl); (case kK => assumption); (case k1 => k_asm); (case k2 => k_asm); (case k3 => k_asm); (case k4 => k_asm); (case k5 => k_asm); (case k6 => k_is); (case k7 => k_is); (case k8 => ktr_room); (case k9 => exact BindsTo.of_eq rfl); (case c5 => decide); (case kB => exact locs rfl); (case c2 => exact rfl); (case c3 => exact rfl); (case c4 => exact rfl); k_whole)
  intro gE LE hE FGE FE NE BE XE TE
  (try dsimp only)
  k_fold
  k_steps
  exact hret _ _ (by assumption) (by assumption)
end Mine
end
section
open PySem PySem.W PyProof.Rows
set_option maxRecDepth 100000
namespace Mine
def PRes (b : PySem.Str) (names : Option (List PySem.Str)) (D : DueR) : Prop :=
  (∃ gs, Lx b.cps b.cps.size gs ∧ D = due names 0 (rowsOf b.cps 62 gs)) ∨ (D = .err ∧ ∃ p gs, Lx b.cps p gs ∧ p < b.cps.size ∧ ∀ q d e, ¬ Hit b.cps p q d e)
inductive KindIs (P : Params) (z : Int) (cc cw : PySem.Str) : Nat → Addr → List DictEntry → Prop
  | s {t4 t5 u1 u2 : Tok} : KindIs P z cc cw 115 111 [ent P "minimum" (.int (-2 ^ (z - 1).toNat) u1) t4, ent P "maximum" (.int (- -2 ^ (z - 1).toNat - 1) u2) t5]
  | u {t4 u1 : Tok} : KindIs P z cc cw 117 146 [ent P "maximum" (.int (2 ^ z.toNat - 1) u1) t4]
  | b {t4 u1 : Tok} : KindIs P z cc cw 98 172 [ent P "maximum" (.int (2 ^ z.toNat - 1) u1) t4]
  | f : KindIs P z cc cw 102 198 []
  | r : KindIs P z cc cw 114 224 []
  | p : KindIs P z cc cw 112 255 []
  | P : KindIs P z cc cw 80 274 []
  | t {t4 t5 tc tw : Tok} : KindIs P z cc cw 116 309 [ent P "encoding" (.str cc tc) t4, ent P "errors" (.str cw tw) t5]
inductive InfosIn (P : Params) (cc cw : PySem.Str) (led : List (Addr × Obj)) : List Value → List Item → Prop
  | nil : InfosIn P cc cw led [] []
  | cons {x d C : Addr} {i : Item} {t0 t1 t2 t3 te : Tok} {nm : Value} {n : Nat} {rest : List DictEntry} {vs : List Value} {is : List Item} :
      (x, instObj C d) ∈ led → (d, dictOf (made P i.row.z nm (.str (one i.row.o) te) t0 t1 t2 t3 rest) n) ∈ led → KindIs P i.row.z cc cw i.row.c C rest → NmIs i.name nm → InfosIn P cc cw led vs is → InfosIn P cc cw led (.ref x :: vs) (i :: is)
theorem InfosIn.mono {P : Params} {cc cw : PySem.Str} {led led' : List (Addr × Obj)} {vs : List Value} {rs : List Item} (h : InfosIn P cc cw led vs rs) (hs : ∀ p ∈ led, p ∈ led') : InfosIn P cc cw led' vs rs := by
  induction h with
  | nil => exact .nil
  | cons hm hd hk hn _ ih => exact .cons (hs _ hm) (hs _ hd) hk hn ih
theorem InfosIn.len {P : Params} {cc cw : PySem.Str} {led : List (Addr × Obj)} {vs : List Value} {rs : List Item} (h : InfosIn P cc cw led vs rs) : vs.length = rs.length := by
  induction h with
  | nil => rfl
  | cons _ _ _ _ _ ih => simp [ih]
theorem InfosIn.snoc {P : Params} {cc cw : PySem.Str} {led : List (Addr × Obj)} {vs : List Value} {rs : List Item} (h : InfosIn P cc cw led vs rs) {x d C : Addr} {i : Item} {t0 t1 t2 t3 te : Tok} {nm : Value} {n : Nat} {rest : List DictEntry}
    (hm : (x, instObj C d) ∈ led) (hd : (d, dictOf (made P i.row.z nm (.str (one i.row.o) te) t0 t1 t2 t3 rest) n) ∈ led) (hk : KindIs P i.row.z cc cw i.row.c C rest) (hn : NmIs i.name nm) : InfosIn P cc cw led (vs ++ [.ref x]) (rs ++ [i]) := by
  induction h with
  | nil => exact .cons hm hd hk hn .nil
  | cons a b c e _ ih => exact .cons a b c e ih
theorem InfosIn.get {P : Params} {cc cw : PySem.Str} {led : List (Addr × Obj)} {vs : List Value} {rs : List Item} (h : InfosIn P cc cw led vs rs) : ∀ (j : Nat) (v : Value), vs[j]? = some v →
    ∃ (x d C : Addr) (i : Item) (t0 t1 t2 t3 te : Tok) (nm : Value) (n : Nat) (rest : List DictEntry), v = .ref x ∧ rs[j]? = some i ∧ (x, instObj C d) ∈ led ∧ (d, dictOf (made P i.row.z nm (.str (one i.row.o) te) t0 t1 t2 t3 rest) n) ∈ led ∧ KindIs P i.row.z cc cw i.row.c C rest ∧ NmIs i.name nm := by
  induction h with
  | nil => intro j v h; simp at h
  | cons h1 h2 h3 h4 _ ih =>
    intro j v h
    cases j with
    | zero => simp at h; exact ⟨_, _, _, _, _, _, _, _, _, _, _, _, h.symm, rfl, h1, h2, h3, h4⟩
    | succ j => exact ih j v (by simpa using h)
end Mine
end
section
open PySem PySem.W PyProof.Rows
set_option maxRecDepth 100000
set_option maxHeartbeats 8000000
namespace Mine
local macro_rules | `(tactic| k_all) => `(tactic| assumption)
local macro_rules | `(tactic| k_room) => `(tactic| ktr_room)
local macro_rules | `(tactic| walk_at "call builtin:list.append") => `(tactic| (k_here; (with_reducible show wpAny _ _ (call (Value.builtin _) [Value.ref _, _]) _ _ _); k_dflt (refine' append_K ?k1 ?k2 ?k3 ?_ ?z; (case k1 => k_asm); (case k2 => k_asm); (case k3 => k_upd); (case z => (have hz9 := size_line; simp only [List.size_toArray]; omega)); k_whole); intro h9 F9 N9; (try k_sweep)))
local macro_rules | `(tactic| walk_at "call type:int") => `(tactic| (k_here; (with_reducible show wpAny _ _ (call (Value.type "int") [Value.str _ _]) _ _ _); k_dflt (refine' KIN.call_text ?a ?b ?_; (case a => assumption); (case b => (simp only [PySem.Str.length, Array.size_extract]; omega)))))
local macro_rules | `(tactic| walk_at "binaryOp Add str str") => `(tactic| (k_here; k_dflt (refine r_add ?a ?b ?_; (case a => (first | omega | ((simp only [Array.size_extract]); omega) | (show 1 ≤ 1000; decide))); (case b => (first | omega | (show 1 ≤ 1000; decide) | ((simp only [Array.size_extract]); omega)))); intro _ _))
local macro_rules | `(tactic| walk_at "newTuple") => `(tactic| (k_here; k_dflt (refine r_newTuple ?a ?b ?_ ?c; (case a => k_asm); (case b => k_asm); (case c => decide); k_whole); intro a9 h9 F9 N9 l9; (try k_lt l9); (try k_sweep)))
local macro_rules | `(tactic| k_steps) => `(tactic| repeat' ((fail_if_success (with_reducible show Halt _)); first | (k_unfold; (try dsimp only)) | (k_end; kc_close) | walk1 | (dsimp only; walk1) | (leave1; walk_say "STEP leave1"; (try dsimp only)) | fail "no step"))
local macro_rules | `(tactic| walk_at "eval Name") => `(tactic| (k_here; k_dflt (refine' nameX_L ?F ?v ?_ ?a ?b; (case F => k_asm); (case a => rfl); (case b => rfl); (case v => first | rfl | assumption); k_whole)))
local macro_rules | `(tactic| walk_at "subscriptTail Name Name str int") => `(tactic| (k_here; k_dflt (refine r_item ?a ?b ?c ?_; (case a => omega); (case b => omega); (case c => omega))))
local macro_rules | `(tactic| walk_at "compareOp In str str") => `(tactic| (k_here; k_dflt (first | with_reducible refine r_in mem_marks ?_ | with_reducible refine r_in mem_marks' ?_ | with_reducible refine r_in mem_pads ?_ | with_reducible refine r_in mem_digs ?_ | with_reducible refine r_in mem_sps ?_ | with_reducible refine r_in mem_lets ?_ | with_reducible refine r_in mem_ub ?_ | with_reducible refine r_in mem_vals ?_)))
local macro_rules | `(tactic| walk_at "compareOp NotIn str str") => `(tactic| (k_here; k_dflt (first | with_reducible refine r_notIn mem_lets ?_ | with_reducible refine r_notIn mem_pads ?_ | with_reducible refine r_notIn mem_vals ?_)))
local macro_rules | `(tactic| walk_at "call builtin:len") => `(tactic| (k_here; (with_reducible show wpAny _ _ (call (Value.builtin "len") [Value.str _ _]) _ _ _); k_dflt (refine r_len ?a ?_; (case a => omega))))
local macro_rules | `(tactic| walk_at "subscriptTail Name UnaryOp str int") => `(tactic| (k_here; k_dflt (refine r_last ?a ?_; (case a => omega))))
local macro_rules | `(tactic| walk_at "subscriptTail Name Slice str ref") => `(tactic| ((with_reducible show wpAny _ _ (subscriptTail _ (Expr.Slice none (some _) none _) _ _) _ _ _); (with_reducible rename Fr _ _ _ _ => F'); (with_reducible rename News _ _ _ _ => N'); k_dflt (refine r_init (s := ⟨_, _, _, _, _⟩) F' N' ?a ?b ?_; (case a => omega); (case b => omega)); intro _ _ _ _ _))

section
variable {prog : Program} {w : World} {A : Around} {E : Value → Shared → Prop} {s : Shared} {Q : Value → Shared → Prop}
theorem r_nei {a b : Int} {t u : Tok} (e : a = b) (h : Q (.bool false) s) : wpAny (model prog w) A (compareOp .NotEq (.int a t) (.int b u)) Q E s := by
  subst e
  refine SeqAt.RcNeAt.int_int a t a u prog w E Q ?_
  have e : (!(a == a)) = false := by simp
  rw [e]; exact h
theorem r_nes {a : PySem.Str} {t u : Tok} (h : Q (.bool false) s) : wpAny (model prog w) A (compareOp .NotEq (.str a t) (.str a u)) Q E s := by
  refine SeqAt.RcNeAt.str_str a t a u prog w E Q ?_
  have e : (!(a == a)) = false := by simp
  rw [e]; exact h
theorem r_eqs {a : PySem.Str} {t u : Tok} (h : Q (.bool true) s) : wpAny (model prog w) A (compareOp .Eq (.str a t) (.str a u)) Q E s := by
  refine SeqAt.RcAt.str_str a t a u prog w E Q ?_
  have e : (a == a) = true := by simp
  rw [e]; exact h
theorem r_neNm {n : NameV} {a b : Value} (h1 : NmIs n a) (h2 : NmIs n b) (h : Q (.bool false) s) : wpAny (model prog w) A (compareOp .NotEq a b) Q E s := by
  cases h1 with
  | none => cases h2; exact SeqAt.RcNeAt.none_none prog w E Q h
  | int => cases h2; exact r_nei rfl h
  | str => cases h2; exact r_nes h
theorem r_neT {c : Nat} {t u : Tok} (h : Q (.bool (c != 116)) s) : wpAny (model prog w) A (compareOp .NotEq (.str (one c) t) (.str (Str.ofString "t") u)) Q E s := by
  refine SeqAt.RcNeAt.str_str _ t _ u prog w E Q ?_
  have e : (!(one c == Str.ofString "t")) = (c != 116) := by
    rw [lit_t, Bool.eq_iff_iff]
    unfold one
    simp
  rw [e]; exact h
end
theorem NmIs.handed {n : NameV} {v : Value} (h : NmIs n v) : handedIn v = true := by cases h <;> rfl
local macro_rules | `(tactic| walk_at "compareOp Eq str str") => `(tactic| (k_here; k_dflt (first | with_reducible refine r_eq lit_s ?_ | with_reducible refine r_eq lit_u ?_ | with_reducible refine r_eq lit_f ?_ | with_reducible refine r_eq lit_b ?_ | with_reducible refine r_eq lit_t ?_ | with_reducible refine r_eq lit_r ?_ | with_reducible refine r_eq lit_p ?_ | with_reducible refine r_eq lit_P ?_)))
local macro_rules | `(tactic| walk_at "binaryOp Pow int int") => `(tactic| (k_here; k_dflt (with_reducible refine pow_int_small ?a ?b ?c ?_; (case a => omega); (case b => omega); (case c => decide))))
local macro_rules | `(tactic| walk_at "getAttr ref") => `(tactic| (k_here; (with_reducible rename ClsOk _ _ _ => q9); k_dflt (refine' get_own ?k1 ?k2 ?k3 (ClsOk.pgn q9 _) (ClsOk.hd q9) ?k6 ?k7 ?k8 ?k9 ?_; (case k1 => k_asm); (case k2 => k_asm); (case k3 => k_inst); (case k6 => with_reducible first | exact ClsOk.f_size q9 | exact ClsOk.f_name q9 | exact ClsOk.f_endianness q9 | exact ClsOk.f_maximum q9 | exact ClsOk.f_minimum q9 | exact ClsOk.f_encoding q9 | exact ClsOk.f_errors q9); (case k7 => exact rfl); (case k8 => k_get); (case k9 => first | assumption | k_handed); k_whole)))
local macro_rules | `(tactic| walk_at "call ref") => `(tactic| (k_here; (with_reducible show wpAny _ _ (call (Value.ref 347) _) _ _ _); k_dflt (refine' kind_ok _ ?B ?F ?X ?N ?T rfl ?hd ?hu ?ck ?_; (case B => k_asm); (case F => k_asm); (case X => k_asm); (case N => k_asm); (case T => k_asm); (case hd => first | omega | ktr_room); (case hu => first | omega | ktr_units); (case ck => assumption); k_whole); intro h9 tk9 F9 N9; (try k_sweep)))
local macro_rules | `(tactic| walk_at "compareOp NotEq int int") => `(tactic| (k_here; k_dflt (refine r_nei ?e ?_; (case e => first | rfl | (rw [Int.neg_neg])))))
local macro_rules | `(tactic| walk_at "compareOp NotEq str str") => `(tactic| (k_here; k_dflt (first | with_reducible refine r_nes ?_ | with_reducible refine r_neT ?_)))
local macro_rules | `(tactic| walk_at "compareOp Eq str str") => `(tactic| (k_here; k_dflt (with_reducible refine r_eqs ?_)))
local macro_rules | `(tactic| walk_at "compareOp NotEq") => `(tactic| (k_here; k_dflt (refine' r_neNm ?a ?b ?_; (case a => assumption); (case b => assumption))))
local macro_rules | `(tactic| k_steps) => `(tactic| repeat' ((fail_if_success (with_reducible show Halt _)); first | (k_unfold; (try dsimp only)) | (k_end; kc_close) | (walk1; all_goals (try dsimp only)) | (dsimp only; walk1) | (leave1; walk_say "STEP leave1"; (try dsimp only)) | fail "no step"))

theorem fits_s (w : World) {dp un : Nat} {gd : Option (List Code)} {cn : PySem.Str} {cs : Scope} {a : Addr} {ccd : Value} {cl : List (PySem.Str × Addr)} {outer : List Env} {A₀ : Around} {base h₀ : Heap} {L : Addr} {m : PySem.Str → Option Value} {s : Shared} {Q E : Value → Shared → Prop} {mean : ExcName → Option Value} {mg mb : PySem.Str → Option Value} {x d rt : Addr} {z : Int} {o n : Nat} {nm nm2 : Value} {nv : NameV} {cc cw : PySem.Str} {tc tw te t0 t1 t2 t3 r1 r2 r3 : Tok} {u1 u2 t4 t5 : Tok} {rest : List (Addr × Obj)}
  (B : Below A₀ base outer h₀) (F : Fr h₀ L s.heap m) (X : (Mine.hd.heap_39 w.params).In h₀) (N : News h₀ L s.heap ((x, instObj 111 d) :: (d, dictOf (made w.params z nm (.str (one o) te) t0 t1 t2 t3 [ent w.params "minimum" (.int (-2 ^ (z - 1).toNat) u1) t4, ent w.params "maximum" (.int (- -2 ^ (z - 1).toNat - 1) u2) t5]) n) :: (rt, tupObj [.str (one 115) r1, .int z r2, .str (one o) r3, nm2]) :: rest)) (T : Top Mine.hd.view_39 (looseW Mine.hd.view_39 [Str.ofString "_twin_re_1"]) mean mg mb h₀) (hk : cs.kind = .function) (hd : dp + 16 < recursionLimit) (hu : un + 128 < cLine) (ck : ClsOk (Mine.hd.heap_39 w.params) 111 115) (hn : NmIs nv nm) (hn2 : NmIs nv nm2) (h1 : 1 ≤ z) (h2 : z ≤ 999) 
  (hret : ∀ h' tk', Fr h₀ L h' m → News h₀ L h' rest → Q (.bool true) { s with heap := h', toks := tk' }) :
  wpAny (model PySem.Challenge.rw_eh5007_01.row.prog w) (ktrTop dp un gd cn cs L a ccd cl outer) (call (.ref 354) [.ref x, .ref rt, .str cc tc, .str cw tw]) Q E s := by
  (w_top off; (have fillIt : PySem.Challenge.rw_eh5007_01 = PySem.Challenge.rw_eh5007_01 ∧ Mine.hd.heap_39 = Mine.hd.heap_39 := by (k_fill; exact ⟨rfl, rfl⟩)); clear fillIt)
  have hh := hn.handed
  have g1 : isUB 115 = false := rfl
  have g2 : ((115 : Nat) == 115) = true := rfl
  have g3 : ((115 : Nat) != 116) = true := rfl
  refine wpAny_call ?_
  k_dflt (refine' code_def ?k1 ?k2 ?k3 ?k4 ?k5 ?kA ?kF ?kK ?k6 ?k7 ?k8 ?k9 ?kB ?_ ?c2 ?c3 ?c4 ?c5; (case kA => exact rfl); (case kF => exact rfl); (case kK => assumption); (case k1 => k_asm); (case k2 => k_asm); (case k3 => k_asm); (case k4 => k_asm); (case k5 => k_asm); (case k6 => k_is); (case k7 => k_is); (case k8 => ktr_room); (case k9 => exact BindsTo.of_eq rfl); (case c5 => decide); (case kB => exact locs rfl); (case c2 => exact rfl); (case c3 => exact rfl); (case c4 => exact rfl); k_whole)
  intro gE LE hE FGE FE NE BE XE TE
  (try dsimp only)
  k_fold
  k_steps
  rename News _ _ _ _ => N9
  skip
  exact hret _ _ (by assumption) fun p hp => N9 p (.tail _ (.tail _ (.tail _ hp)))

theorem fits_u (w : World) {dp un : Nat} {gd : Option (List Code)} {cn : PySem.Str} {cs : Scope} {a : Addr} {ccd : Value} {cl : List (PySem.Str × Addr)} {outer : List Env} {A₀ : Around} {base h₀ : Heap} {L : Addr} {m : PySem.Str → Option Value} {s : Shared} {Q E : Value → Shared → Prop} {mean : ExcName → Option Value} {mg mb : PySem.Str → Option Value} {x d rt : Addr} {C : Addr} {c : Nat} {z : Int} {o n : Nat} {nm nm2 : Value} {nv : NameV} {cc cw : PySem.Str} {tc tw te t0 t1 t2 t3 r1 r2 r3 : Tok} {u1 t4 : Tok} {rest : List (Addr × Obj)}
  (B : Below A₀ base outer h₀) (F : Fr h₀ L s.heap m) (X : (Mine.hd.heap_39 w.params).In h₀) (N : News h₀ L s.heap ((x, instObj C d) :: (d, dictOf (made w.params z nm (.str (one o) te) t0 t1 t2 t3 [ent w.params "maximum" (.int (2 ^ z.toNat - 1) u1) t4]) n) :: (rt, tupObj [.str (one c) r1, .int z r2, .str (one o) r3, nm2]) :: rest)) (T : Top Mine.hd.view_39 (looseW Mine.hd.view_39 [Str.ofString "_twin_re_1"]) mean mg mb h₀) (hk : cs.kind = .function) (hd : dp + 16 < recursionLimit) (hu : un + 128 < cLine) (ck : ClsOk (Mine.hd.heap_39 w.params) C c) (hn : NmIs nv nm) (hn2 : NmIs nv nm2) (h1 : 1 ≤ z) (h2 : z ≤ 999) (g1 : isUB c = true) (g2 : (c == 115) = false) (g3 : (c != 116) = true)
  (hret : ∀ h' tk', Fr h₀ L h' m → News h₀ L h' rest → Q (.bool true) { s with heap := h', toks := tk' }) :
  wpAny (model PySem.Challenge.rw_eh5007_01.row.prog w) (ktrTop dp un gd cn cs L a ccd cl outer) (call (.ref 354) [.ref x, .ref rt, .str cc tc, .str cw tw]) Q E s := by
  (w_top off; (have fillIt : PySem.Challenge.rw_eh5007_01 = PySem.Challenge.rw_eh5007_01 ∧ Mine.hd.heap_39 = Mine.hd.heap_39 := by (k_fill; exact ⟨rfl, rfl⟩)); clear fillIt)
  have hh := hn.handed
  refine wpAny_call ?_
  k_dflt (refine' code_def ?k1 ?k2 ?k3 ?k4 ?k5 ?kA ?kF ?kK ?k6 ?k7 ?k8 ?k9 ?kB ?_ ?c2 ?c3 ?c4 ?c5; (case kA => exact rfl); (case kF => exact rfl); (case kK => assumption); (case k1 => k_asm); (case k2 => k_asm); (case k3 => k_asm); (case k4 => k_asm); (case k5 => k_asm); (case k6 => k_is); (case k7 => k_is); (case k8 => ktr_room); (case k9 => exact BindsTo.of_eq rfl); (case c5 => decide); (case kB => exact locs rfl); (case c2 => exact rfl); (case c3 => exact rfl); (case c4 => exact rfl); k_whole)
  intro gE LE hE FGE FE NE BE XE TE
  (try dsimp only)
  k_fold
  k_steps
  rename News _ _ _ _ => N9
  rw [g3]
  exact hret _ _ (by assumption) fun p hp => N9 p (.tail _ (.tail _ (.tail _ hp)))

theorem fits_t (w : World) {dp un : Nat} {gd : Option (List Code)} {cn : PySem.Str} {cs : Scope} {a : Addr} {ccd : Value} {cl : List (PySem.Str × Addr)} {outer : List Env} {A₀ : Around} {base h₀ : Heap} {L : Addr} {m : PySem.Str → Option Value} {s : Shared} {Q E : Value → Shared → Prop} {mean : ExcName → Option Value} {mg mb : PySem.Str → Option Value} {x d rt : Addr} {z : Int} {o n : Nat} {nm nm2 : Value} {nv : NameV} {cc cw : PySem.Str} {tc tw te t0 t1 t2 t3 r1 r2 r3 : Tok} {u1 u2 t4 t5 : Tok} {rest : List (Addr × Obj)}
  (B : Below A₀ base outer h₀) (F : Fr h₀ L s.heap m) (X : (Mine.hd.heap_39 w.params).In h₀) (N : News h₀ L s.heap ((x, instObj 309 d) :: (d, dictOf (made w.params z nm (.str (one o) te) t0 t1 t2 t3 [ent w.params "encoding" (.str cc u1) t4, ent w.params "errors" (.str cw u2) t5]) n) :: (rt, tupObj [.str (one 116) r1, .int z r2, .str (one o) r3, nm2]) :: rest)) (T : Top Mine.hd.view_39 (looseW Mine.hd.view_39 [Str.ofString "_twin_re_1"]) mean mg mb h₀) (hk : cs.kind = .function) (hd : dp + 16 < recursionLimit) (hu : un + 128 < cLine) (ck : ClsOk (Mine.hd.heap_39 w.params) 309 116) (hn : NmIs nv nm) (hn2 : NmIs nv nm2) (h1 : 1 ≤ z) (h2 : z ≤ 999) 
  (hret : ∀ h' tk', Fr h₀ L h' m → News h₀ L h' rest → Q (.bool true) { s with heap := h', toks := tk' }) :
  wpAny (model PySem.Challenge.rw_eh5007_01.row.prog w) (ktrTop dp un gd cn cs L a ccd cl outer) (call (.ref 354) [.ref x, .ref rt, .str cc tc, .str cw tw]) Q E s := by
  (w_top off; (have fillIt : PySem.Challenge.rw_eh5007_01 = PySem.Challenge.rw_eh5007_01 ∧ Mine.hd.heap_39 = Mine.hd.heap_39 := by (k_fill; exact ⟨rfl, rfl⟩)); clear fillIt)
  have hh := hn.handed
  have g1 : isUB 116 = false := rfl
  have g2 : ((116 : Nat) == 115) = false := rfl
  have g3 : ((116 : Nat) != 116) = false := rfl
  refine wpAny_call ?_
  k_dflt (refine' code_def ?k1 ?k2 ?k3 ?k4 ?k5 ?kA ?kF ?kK ?k6 ?k7 ?k8 ?k9 ?kB ?_ ?c2 ?c3 ?c4 ?c5; (case kA => exact rfl); (case kF => exact rfl); (case kK => assumption); (case k1 => k_asm); (case k2 => k_asm); (case k3 => k_asm); (case k4 => k_asm); (case k5 => k_asm); (case k6 => k_is); (case k7 => k_is); (case k8 => ktr_room); (case k9 => exact BindsTo.of_eq rfl); (case c5 => decide); (case kB => exact locs rfl); (case c2 => exact rfl); (case c3 => exact rfl); (case c4 => exact rfl); k_whole)
  intro gE LE hE FGE FE NE BE XE TE
  (try dsimp only)
  k_fold
  k_steps
  rename News _ _ _ _ => N9
  skip
  exact hret _ _ (by assumption) fun p hp => N9 p (.tail _ (.tail _ (.tail _ hp)))

theorem fits_o (w : World) {dp un : Nat} {gd : Option (List Code)} {cn : PySem.Str} {cs : Scope} {a : Addr} {ccd : Value} {cl : List (PySem.Str × Addr)} {outer : List Env} {A₀ : Around} {base h₀ : Heap} {L : Addr} {m : PySem.Str → Option Value} {s : Shared} {Q E : Value → Shared → Prop} {mean : ExcName → Option Value} {mg mb : PySem.Str → Option Value} {x d rt : Addr} {C : Addr} {c : Nat} {z : Int} {o n : Nat} {nm nm2 : Value} {nv : NameV} {cc cw : PySem.Str} {tc tw te t0 t1 t2 t3 r1 r2 r3 : Tok}  {rest : List (Addr × Obj)}
  (B : Below A₀ base outer h₀) (F : Fr h₀ L s.heap m) (X : (Mine.hd.heap_39 w.params).In h₀) (N : News h₀ L s.heap ((x, instObj C d) :: (d, dictOf (made w.params z nm (.str (one o) te) t0 t1 t2 t3 []) n) :: (rt, tupObj [.str (one c) r1, .int z r2, .str (one o) r3, nm2]) :: rest)) (T : Top Mine.hd.view_39 (looseW Mine.hd.view_39 [Str.ofString "_twin_re_1"]) mean mg mb h₀) (hk : cs.kind = .function) (hd : dp + 16 < recursionLimit) (hu : un + 128 < cLine) (ck : ClsOk (Mine.hd.heap_39 w.params) C c) (hn : NmIs nv nm) (hn2 : NmIs nv nm2) (h1 : 1 ≤ z) (h2 : z ≤ 999) (g1 : isUB c = false) (g2 : (c == 115) = false) (g3 : (c != 116) = true)
  (hret : ∀ h' tk', Fr h₀ L h' m → News h₀ L h' rest → Q (.bool true) { s with heap := h', toks := tk' }) :
  wpAny (model PySem.Challenge.rw_eh5007_01.row.prog w) (ktrTop dp un gd cn cs L a ccd cl outer) (call (.ref 354) [.ref x, .ref rt, .str cc tc, .str cw tw]) Q E s := by
  (w_top off; (have fillIt : PySem.Challenge.rw_eh5007_01 = PySem.Challenge.rw_eh5007_01 ∧ Mine.hd.heap_39 = Mine.hd.heap_39 := by (k_fill; exact ⟨rfl, rfl⟩)); clear fillIt)
  have hh := hn.handed
  refine wpAny_call ?_
  k_dflt (refine' code_def ?k1 ?k2 ?k3 ?k4 ?k5 ?kA ?kF ?kK ?k6 ?k7 ?k8 ?k9 ?kB ?_ ?c2 ?c3 ?c4 ?c5; (case kA => exact rfl); (case kF => exact rfl); (case kK => assumption); (case k1 => k_asm); (case k2 => k_asm); (case k3 => k_asm); (case k4 => k_asm); (case k5 => k_asm); (case k6 => k_is); (case k7 => k_is); (case k8 => ktr_room); (case k9 => exact BindsTo.of_eq rfl); (case c5 => decide); (case kB => exact locs rfl); (case c2 => exact rfl); (case c3 => exact rfl); (case c4 => exact rfl); k_whole)
  intro gE LE hE FGE FE NE BE XE TE
  (try dsimp only)
  k_fold
  k_steps
  rename News _ _ _ _ => N9
  rw [g3]
  exact hret _ _ (by assumption) fun p hp => N9 p (.tail _ (.tail _ (.tail _ hp)))
end Mine
end
section
open PySem PySem.W PyProof.Rows
set_option maxRecDepth 100000
set_option maxHeartbeats 8000000
namespace Mine
local macro_rules | `(tactic| k_all) => `(tactic| assumption)
local macro_rules | `(tactic| k_room) => `(tactic| ktr_room)
local macro_rules | `(tactic| walk_at "call builtin:list.append") => `(tactic| (k_here; (with_reducible show wpAny _ _ (call (Value.builtin _) [Value.ref _, _]) _ _ _); k_dflt (refine' append_K ?k1 ?k2 ?k3 ?_ ?z; (case k1 => k_asm); (case k2 => k_asm); (case k3 => k_upd); (case z => (have hz9 := size_line; simp only [List.size_toArray]; omega)); k_whole); intro h9 F9 N9; (try k_sweep)))
local macro_rules | `(tactic| walk_at "call type:int") => `(tactic| (k_here; (with_reducible show wpAny _ _ (call (Value.type "int") [Value.str _ _]) _ _ _); k_dflt (refine' KIN.call_text ?a ?b ?_; (case a => assumption); (case b => (simp only [PySem.Str.length, Array.size_extract]; omega)))))
local macro_rules | `(tactic| walk_at "binaryOp Add str str") => `(tactic| (k_here; k_dflt (refine r_add ?a ?b ?_; (case a => (first | omega | ((simp only [Array.size_extract]); omega) | (show 1 ≤ 1000; decide))); (case b => (first | omega | (show 1 ≤ 1000; decide) | ((simp only [Array.size_extract]); omega)))); intro _ _))
local macro_rules | `(tactic| walk_at "newTuple") => `(tactic| (k_here; k_dflt (refine r_newTuple ?a ?b ?_ ?c; (case a => k_asm); (case b => k_asm); (case c => decide); k_whole); intro a9 h9 F9 N9 l9; (try k_lt l9); (try k_sweep)))
local macro_rules | `(tactic| k_steps) => `(tactic| repeat' ((fail_if_success (with_reducible show Halt _)); first | (k_unfold; (try dsimp only)) | (k_end; kc_close) | walk1 | (dsimp only; walk1) | (leave1; walk_say "STEP leave1"; (try dsimp only)) | fail "no step"))
local macro_rules | `(tactic| walk_at "eval Name") => `(tactic| (k_here; k_dflt (refine' nameX_L ?F ?v ?_ ?a ?b; (case F => k_asm); (case a => rfl); (case b => rfl); (case v => first | rfl | assumption); k_whole)))
local macro_rules | `(tactic| walk_at "subscriptTail Name Name str int") => `(tactic| (k_here; k_dflt (refine r_item ?a ?b ?c ?_; (case a => omega); (case b => omega); (case c => omega))))
local macro_rules | `(tactic| walk_at "compareOp In str str") => `(tactic| (k_here; k_dflt (first | with_reducible refine r_in mem_marks ?_ | with_reducible refine r_in mem_marks' ?_ | with_reducible refine r_in mem_pads ?_ | with_reducible refine r_in mem_digs ?_ | with_reducible refine r_in mem_sps ?_ | with_reducible refine r_in mem_lets ?_ | with_reducible refine r_in mem_ub ?_ | with_reducible refine r_in mem_vals ?_)))
local macro_rules | `(tactic| walk_at "compareOp NotIn str str") => `(tactic| (k_here; k_dflt (first | with_reducible refine r_notIn mem_lets ?_ | with_reducible refine r_notIn mem_pads ?_ | with_reducible refine r_notIn mem_vals ?_)))
local macro_rules | `(tactic| walk_at "call builtin:len") => `(tactic| (k_here; (with_reducible show wpAny _ _ (call (Value.builtin "len") [Value.str _ _]) _ _ _); k_dflt (refine r_len ?a ?_; (case a => omega))))
local macro_rules | `(tactic| walk_at "subscriptTail Name UnaryOp str int") => `(tactic| (k_here; k_dflt (refine r_last ?a ?_; (case a => omega))))
local macro_rules | `(tactic| walk_at "subscriptTail Name Slice str ref") => `(tactic| ((with_reducible show wpAny _ _ (subscriptTail _ (Expr.Slice none (some _) none _) _ _) _ _ _); (with_reducible rename Fr _ _ _ _ => F'); (with_reducible rename News _ _ _ _ => N'); k_dflt (refine r_init (s := ⟨_, _, _, _, _⟩) F' N' ?a ?b ?_; (case a => omega); (case b => omega)); intro _ _ _ _ _))

def ZipEnd (h₀ : Heap) (L : Addr) (led : List (Addr × Obj)) (J : (PySem.Str → Option Value) → Prop) (s₁ : Shared) (Q : Flow → Shared → Prop) (f : Flow) (s₂ : Shared) : Prop :=
  match f with
  | .ret v => Q (.ret v) s₂
  | .brk => Q .next s₂
  | _ => ∃ h' tk m', s₂ = { s₁ with heap := h', toks := tk } ∧ Fr h₀ L h' m' ∧ News h₀ L h' led ∧ J m'
theorem forZip {prog : Program} {w : World} {A : Around} {E : Value → Shared → Prop} {s : Shared} {env : Env} {h₀ : Heap} {elts : List PySem.Expr} {k : Nat} {pos : Pos} {body : List Stmt} {Q : Flow → Shared → Prop} {l1 l2 : Addr} {xs ys : List Value} {n1 n2 : Nat} {m : PySem.Str → Option Value} {news : List (Addr × Obj)}
    (J : Nat → (PySem.Str → Option Value) → Prop) (hh : A.handled = none) (F : Fr h₀ env.locals s.heap m) (N : News h₀ env.locals s.heap news) (h1 : (l1, W.listOf xs.toArray n1) ∈ news) (h2 : (l2, W.listOf ys.toArray n2) ∈ news) (hJ : J 0 m)
    (turn : ∀ i x y T m₁ h₁ tk₁ own, xs[i]? = some x → ys[i]? = some y → J i m₁ → Fr h₀ env.locals h₁ m₁ → News h₀ env.locals h₁ (own ++ news) → IsTup h₁ T [x, y].toArray →
      wpAny (model prog w) A (assign (.Tuple elts k pos) env (.ref T)) (fun _ s₂ => wpAny (model prog w) A (execs body env) (ZipEnd h₀ env.locals (own ++ news) (J (i + 1)) { s with heap := h₁, toks := tk₁ } Q) E s₂) E { s with heap := h₁, toks := tk₁ })
    (done : ∀ h' tk m', Fr h₀ env.locals h' m' → News h₀ env.locals h' news → Q .next { s with heap := h', toks := tk }) :
    wpAny (model prog w) A (call (.type "zip") [.ref l1, .ref l2]) (fun xv s₁ => wpAny (model prog w) A (pyIter xv) (fun it s₂ => TurnsAt prog w A h₀ env (.Tuple elts k pos) body Q E it s₂) E s₁) E s := by
  have hax1 := N _ h1
  have hax2 := N _ h2
  have hl1 : s.heap.IsList l1 xs.toArray := News.isList N h1
  have hl2 : s.heap.IsList l2 ys.toArray := News.isList N h2
  have hlt1 : l1 < s.heap.objs.size := Heap.lt_size hax1.1
  have hlt2 : l2 < s.heap.objs.size := Heap.lt_size hax2.1
  have hLs : env.locals < s.heap.objs.size := F.ns.lt
  have D := ktu_apart _ _ _ hlt1 hlt2
  refine call_zip_2 hl1 hl2 fun h' hz hTI hTO hi1 hi2 hsz hk => ?_
  refine wpAny_pyIter_zip hz ?_
  have F' := F.keeps hk
  have N' := N.grown hk
  refine ⟨_, _, _, _, _, _, _, m, news, fun i m' nw => nw = news ∧ J i m', rfl, KTurns.ofWalksU (WalksT.zip2 hh _ _ _ _ _ _ _ D xs.toArray ys.toArray).toU, ?_, ?_, ?_, ⟨hz, hTI, ⟨_, _, hTO⟩, hi1, hi2, hl1.at fun o e => hk _ o e, hl2.at fun o e => hk _ o e⟩, F', N', ⟨rfl, hJ⟩, ?_, ?_⟩
  · intro hm
    have hm' : env.locals = s.heap.objs.size + 4 ∨ env.locals = s.heap.objs.size + 2 ∨ env.locals = s.heap.objs.size + 3 ∨ env.locals = s.heap.objs.size ∨ env.locals = s.heap.objs.size + 1 ∨ env.locals = l1 ∨ env.locals = l2 := by simpa using hm
    rcases hm' with e | e | e | e | e | e | e
    · rw [e] at hLs; exact absurd hLs (Nat.not_lt.mpr (Nat.le_add_right _ _))
    · rw [e] at hLs; exact absurd hLs (Nat.not_lt.mpr (Nat.le_add_right _ _))
    · rw [e] at hLs; exact absurd hLs (Nat.not_lt.mpr (Nat.le_add_right _ _))
    · rw [e] at hLs; exact absurd hLs (Nat.lt_irrefl _)
    · rw [e] at hLs; exact absurd hLs (Nat.not_lt.mpr (Nat.le_add_right _ _))
    · exact hax1.2.1 e.symm
    · exact hax2.2.1 e.symm
  · intro b hb
    have hb' : b = s.heap.objs.size + 4 ∨ b = s.heap.objs.size + 3 ∨ b = s.heap.objs.size ∨ b = s.heap.objs.size + 1 := by simpa using hb
    rcases hb' with rfl | rfl | rfl | rfl
    · exact ktu_new F (Nat.le_add_right _ _)
    · exact ktu_new F (Nat.le_add_right _ _)
    · exact ktu_new F (Nat.le_refl _)
    · exact ktu_new F (Nat.le_add_right _ _)
  · intro p hp hb
    have hp' := Heap.lt_size (N p hp).1
    have hb' : p.1 = s.heap.objs.size + 4 ∨ p.1 = s.heap.objs.size + 3 ∨ p.1 = s.heap.objs.size ∨ p.1 = s.heap.objs.size + 1 := by simpa using hb
    rcases hb' with e | e | e | e
    · rw [e] at hp'; exact absurd hp' (Nat.not_lt.mpr (Nat.le_add_right _ _))
    · rw [e] at hp'; exact absurd hp' (Nat.not_lt.mpr (Nat.le_add_right _ _))
    · rw [e] at hp'; exact absurd hp' (Nat.lt_irrefl _)
    · rw [e] at hp'; exact absurd hp' (Nat.not_lt.mpr (Nat.le_add_right _ _))
  · rintro i v m₁ news₁ h₁ tk₁ own hi ⟨T, vals, rfl, ⟨x, y, hx, hy, rfl⟩, hT⟩ ⟨rfl, hJ₁⟩ hoff hown hget hall hst F₁ N₁
    refine wpAny_mono (turn i x y T m₁ h₁ tk₁ own (by simpa using hx) (by simpa using hy) hJ₁ F₁ N₁ hT) (fun _ s₂ h₂ => wpAny_mono h₂ (fun f s₃ p => ?_) fun _ _ e => e) fun _ _ e => e
    cases f with
    | ret v => exact p
    | brk => exact p
    | next =>
      obtain ⟨h', tk, m', rfl, F', N', hJ'⟩ := p
      exact ⟨rfl, h', tk, m', news₁, rfl, F', N', hoff, rfl, hJ'⟩
    | cont =>
      obtain ⟨h', tk, m', rfl, F', N', hJ'⟩ := p
      exact ⟨rfl, h', tk, m', news₁, rfl, F', N', hoff, rfl, hJ'⟩
  · rintro h' tk m' news' F' N' _ ⟨e, _⟩
    rw [e] at N'
    exact done h' tk m' F' N'

theorem fits_ok (w : World) {dp un : Nat} {gd : Option (List Code)} {cn : PySem.Str} {cs : Scope} {a : Addr} {ccd : Value} {cl : List (PySem.Str × Addr)} {outer : List Env} {A₀ : Around} {base h₀ : Heap} {L : Addr} {m : PySem.Str → Option Value} {s : Shared} {Q E : Value → Shared → Prop} {mean : ExcName → Option Value} {mg mb : PySem.Str → Option Value} {x d rt C : Addr} {c : Nat} {z : Int} {o n : Nat} {nm nm2 : Value} {nv : NameV} {cc cw : PySem.Str} {tc tw te t0 t1 t2 t3 r1 r2 r3 : Tok} {es : List DictEntry} {rest : List (Addr × Obj)}
  (B : Below A₀ base outer h₀) (F : Fr h₀ L s.heap m) (X : (Mine.hd.heap_39 w.params).In h₀) (N : News h₀ L s.heap rest) (m1 : (x, instObj C d) ∈ rest) (m2 : (d, dictOf (made w.params z nm (.str (one o) te) t0 t1 t2 t3 es) n) ∈ rest) (m3 : (rt, tupObj [.str (one c) r1, .int z r2, .str (one o) r3, nm2]) ∈ rest) (T : Top Mine.hd.view_39 (looseW Mine.hd.view_39 [Str.ofString "_twin_re_1"]) mean mg mb h₀) (hk : cs.kind = .function) (hd : dp + 16 < recursionLimit) (hu : un + 128 < cLine) (hkd : KindIs w.params z cc cw c C es) (hn : NmIs nv nm) (hn2 : NmIs nv nm2) (h1 : 1 ≤ z) (h2 : z ≤ 999)
  (hret : ∀ h' tk', Fr h₀ L h' m → News h₀ L h' rest → Q (.bool true) { s with heap := h', toks := tk' }) :
  wpAny (model PySem.Challenge.rw_eh5007_01.row.prog w) (ktrTop dp un gd cn cs L a ccd cl outer) (call (.ref 354) [.ref x, .ref rt, .str cc tc, .str cw tw]) Q E s := by
  have N' : News h₀ L s.heap ((x, instObj C d) :: (d, dictOf (made w.params z nm (.str (one o) te) t0 t1 t2 t3 es) n) :: (rt, tupObj [.str (one c) r1, .int z r2, .str (one o) r3, nm2]) :: rest) := by
    intro p hp
    simp only [List.mem_cons] at hp
    rcases hp with rfl | rfl | rfl | hp
    · exact N _ m1
    · exact N _ m2
    · exact N _ m3
    · exact N _ hp
  clear m1 m2 m3 N
  cases hkd with
  | s => exact fits_s w B F X N' T hk hd hu (cls_s _) hn hn2 h1 h2 hret
  | u => exact fits_u w B F X N' T hk hd hu (cls_u _) hn hn2 h1 h2 rfl rfl rfl hret
  | b => exact fits_u w B F X N' T hk hd hu (cls_b _) hn hn2 h1 h2 rfl rfl rfl hret
  | f => exact fits_o w B F X N' T hk hd hu (cls_f _) hn hn2 h1 h2 rfl rfl rfl hret
  | r => exact fits_o w B F X N' T hk hd hu (cls_r _) hn hn2 h1 h2 rfl rfl rfl hret
  | p => exact fits_o w B F X N' T hk hd hu (cls_p _) hn hn2 h1 h2 rfl rfl rfl hret
  | P => exact fits_o w B F X N' T hk hd hu (cls_P _) hn hn2 h1 h2 rfl rfl rfl hret
  | t => exact fits_t w B F X N' T hk hd hu (cls_t _) hn hn2 h1 h2 hret
theorem r_lenL {prog : Program} {w : World} {A : Around} {E : Value → Shared → Prop} {s : Shared} {h₀ : Heap} {L R : Addr} {vs : List Value} {n k : Nat} {news : List (Addr × Obj)} {Q : Value → Shared → Prop} (N : News h₀ L s.heap news) (h1 : (R, W.listOf vs.toArray n) ∈ news) (hl : vs.length = k) (hk : k ≤ 100) (h : ∀ t tk, Q (.int (k : Nat) t) { s with toks := tk }) :
    wpAny (model prog w) A (call (.builtin "len") [.ref R]) Q E s := by
  refine len_list (News.isList N h1) (by simp; omega) ?_
  have := h (s.toks + 1) (s.toks + 1 + 1)
  rw [← hl] at this
  simpa using this
local macro_rules | `(tactic| walk_at "call builtin:len") => `(tactic| (k_here; (with_reducible show wpAny _ _ (call (Value.builtin "len") [Value.ref _]) _ _ _); k_dflt (refine' r_lenL ?N ?a ?b ?c ?_; (case N => k_asm); (case a => k_mem); (case b => assumption); (case c => assumption)); intro _ _))
local macro_rules | `(tactic| walk_at "compareOp NotEq int int") => `(tactic| (k_here; k_dflt (refine r_nei rfl ?_)))
local macro_rules | `(tactic| walk_at "compareOp NotEq str str") => `(tactic| (k_here; k_dflt (with_reducible refine r_nes ?_)))
local macro_rules | `(tactic| walk_at "call type:zip") => `(tactic| refine Halt.out ?_)
local macro_rules | `(tactic| walk_at "call ref") => `(tactic| (k_here; (with_reducible show wpAny _ _ (call (Value.ref 354) _) _ _ _); k_dflt (refine' fits_ok _ ?B ?F ?X ?N ?m1 ?m2 ?m3 ?T rfl ?hd ?hu ?hkd ?hn ?hn2 ?h1 ?h2 ?_; (case B => k_asm); (case F => k_asm); (case X => k_asm); (case N => k_asm); (case m1 => assumption); (case m2 => assumption); (case m3 => assumption); (case T => k_asm); (case hd => first | omega | ktr_room); (case hu => first | omega | ktr_units); (case hkd => assumption); (case hn => assumption); (case hn2 => assumption); (case h1 => assumption); (case h2 => assumption); k_whole); intro h9 tk9 F9 N9; (try k_sweep)))
local macro_rules | `(tactic| walk_at "exec For Tuple Call cons nil") => `(tactic| refine Halt.out ?_)

def FitJ (cc cw : PySem.Str) (tc tw : Tok) (m₁ : PySem.Str → Option Value) : Prop := m₁ (Str.ofString "codec") = some (.str cc tc) ∧ m₁ (Str.ofString "way") = some (.str cw tw)
theorem all_ok (w : World) {dp un : Nat} {gd : Option (List Code)} {cn : PySem.Str} {cs : Scope} {a : Addr} {ccd : Value} {cl : List (PySem.Str × Addr)} {outer : List Env} {A₀ : Around} {base h₀ : Heap} {L : Addr} {m : PySem.Str → Option Value} {s : Shared} {Q E : Value → Shared → Prop} {mean : ExcName → Option Value} {mg mb : PySem.Str → Option Value} {I D : Addr} {ivs dvs : List Value} {its : List Item} {n1 n2 mk : Nat} {to tm tc tw : Tok} {cc cw : PySem.Str} {news : List (Addr × Obj)}
  (B : Below A₀ base outer h₀) (F : Fr h₀ L s.heap m) (X : (Mine.hd.heap_39 w.params).In h₀) (N : News h₀ L s.heap news) (T : Top Mine.hd.view_39 (looseW Mine.hd.view_39 [Str.ofString "_twin_re_1"]) mean mg mb h₀) (hk : cs.kind = .function) (hd : dp + 24 < recursionLimit) (hu : un + 256 < cLine) (hI : (I, W.listOf ivs.toArray n1) ∈ news) (hD : (D, W.listOf dvs.toArray n2) ∈ news) (hi : InfosIn w.params cc cw news ivs its) (hds : ItemsIn news dvs its) (hlen : its.length ≤ 100) (hgood : ∀ i ∈ its, 1 ≤ i.row.z ∧ i.row.z ≤ 999)
  (hret : ∀ h' tk', Fr h₀ L h' m → News h₀ L h' news → Q (.bool true) { s with heap := h', toks := tk' }) :
  wpAny (model PySem.Challenge.rw_eh5007_01.row.prog w) (ktrTop dp un gd cn cs L a ccd cl outer) (call (.ref 361) [.ref I, .str (one mk) to, .ref D, .str (one mk) tm, .str cc tc, .str cw tw]) Q E s := by
  have N' : News h₀ L s.heap ((I, W.listOf ivs.toArray n1) :: (D, W.listOf dvs.toArray n2) :: news) := by
    intro p hp
    simp only [List.mem_cons] at hp
    rcases hp with rfl | rfl | hp
    · exact N _ hI
    · exact N _ hD
    · exact N _ hp
  clear N
  have hl1 := hi.len
  have hl2 := hds.len
  (w_top off; (have fillIt : PySem.Challenge.rw_eh5007_01 = PySem.Challenge.rw_eh5007_01 ∧ Mine.hd.heap_39 = Mine.hd.heap_39 := by (k_fill; exact ⟨rfl, rfl⟩)); clear fillIt)
  refine wpAny_call ?_
  k_dflt (refine' code_def ?k1 ?k2 ?k3 ?k4 ?k5 ?kA ?kF ?kK ?k6 ?k7 ?k8 ?k9 ?kB ?_ ?c2 ?c3 ?c4 ?c5; (case kA => exact rfl); (case kF => exact rfl); (case kK => assumption); (case k1 => k_asm); (case k2 => k_asm); (case k3 => k_asm); (case k4 => k_asm); (case k5 => k_asm); (case k6 => k_is); (case k7 => k_is); (case k8 => ktr_room); (case k9 => exact BindsTo.of_eq rfl); (case c5 => decide); (case kB => exact locs rfl); (case c2 => exact rfl); (case c3 => exact rfl); (case c4 => exact rfl); k_whole)
  intro gE LE hE FGE FE NE BE XE TE
  (try dsimp only)
  k_fold
  k_steps
  rename Fr _ _ _ _ => F4
  refine Halt.mk (For_turns F4 (h₀ := gE) ?_)
  k_steps
  rename Fr _ _ _ _ => F5
  rename News _ _ _ _ => N5
  refine Halt.mk (forZip (h₀ := gE) (fun _ m₁ => FitJ cc cw tc tw m₁) rfl F5 N5 (.head _) (.tail _ (.head _)) ?_ ?_ ?_)
  · exact ⟨by with_unfolding_all first | rfl | assumption, by with_unfolding_all first | rfl | assumption⟩
  · obtain ⟨nw, hnw⟩ : ∃ nw, nw = (I, W.listOf ivs.toArray n1) :: (D, W.listOf dvs.toArray n2) :: news := ⟨_, rfl⟩
    rw [← hnw]
    clear F5 N5
    rintro i x y T2 m₁ h₁ tk₁ own hx hy ⟨hk1, hk2⟩ F2 N2 hT
    obtain ⟨x, d, C, it, t0, t1, t2, t3, te, nm, n, es, rfl, hit, hm1, hm2, hkd, hn⟩ := hi.get i x hx
    obtain ⟨rt, it2, r1, r2, r3, nm2, rfl, hit2, hm3, hn2⟩ := hds.get i y hy
    obtain rfl : it = it2 := Option.some.inj (hit.symm.trans hit2)
    obtain ⟨hz1, hz9⟩ := hgood it (List.mem_of_getElem? hit)
    obtain ⟨tl, htl⟩ : ∃ tl, tl = own ++ nw := ⟨_, rfl⟩
    have hsub : ∀ p ∈ news, p ∈ tl := fun p hp => by rw [htl, hnw]; simp [hp]
    replace hm1 := hsub _ hm1
    replace hm2 := hsub _ hm2
    replace hm3 := hsub _ hm3
    rw [← htl] at N2 ⊢
    k_steps
    refine ⟨_, _, _, rfl, by assumption, by assumption, by with_unfolding_all first | rfl | assumption, by with_unfolding_all first | rfl | assumption⟩
  · intro h' tk' m' F' N'
    k_steps
    exact hret _ _ (by assumption) fun p hp => (by assumption : News _ _ _ _) p (.tail _ (.tail _ hp))
end Mine
end
section
open PySem PySem.W PyProof.Rows PySem.Sre
set_option maxRecDepth 100000
set_option maxHeartbeats 8000000
namespace Mine
def stp (s : Option Nat) (c : Nat) : Option Nat := match s with
  | none => none
  | some k => if okc c = true then (if isDig c = true then (if k < 3 then some (k + 1) else none) else some 0) else none
def st (s : Option Nat) (l : List Nat) : Option Nat := l.foldl stp s
theorem st_none (l : List Nat) : st none l = none := by
  induction l with
  | nil => rfl
  | cons c l ih => exact ih
theorem st_app (s : Option Nat) (l r : List Nat) : st s (l ++ r) = st (st s l) r := List.foldl_append
theorem st_cons (s : Option Nat) (c : Nat) (l : List Nat) : st s (c :: l) = st (stp s c) l := rfl
theorem st_step {k c j : Nat} {l : List Nat} (h : st (some k) (c :: l) = some j) : okc c = true ∧ ((isDig c = true ∧ k < 3 ∧ st (some (k + 1)) l = some j) ∨ (isDig c = false ∧ st (some 0) l = some j)) := by
  rw [st_cons] at h
  unfold stp at h
  dsimp only at h
  by_cases h1 : okc c = true
  · rw [if_pos h1] at h
    refine ⟨h1, ?_⟩
    by_cases h2 : isDig c = true
    · rw [if_pos h2] at h
      by_cases h3 : k < 3
      · rw [if_pos h3] at h; exact .inl ⟨h2, h3, h⟩
      · rw [if_neg h3, st_none] at h; cases h
    · rw [if_neg h2] at h; exact .inr ⟨by simpa using h2, h⟩
  · rw [if_neg h1, st_none] at h; cases h
theorem st_ok : ∀ (l : List Nat) (k j : Nat), st (some k) l = some j → ∀ c ∈ l, okc c = true
  | [], _, _, _, c, h => nomatch h
  | d :: l, k, j, h, c, hc => by
    obtain ⟨h1, h2⟩ := st_step h
    rcases List.mem_cons.mp hc with rfl | hc
    · exact h1
    rcases h2 with ⟨_, _, h3⟩ | ⟨_, h3⟩
    · exact st_ok l _ j h3 c hc
    · exact st_ok l _ j h3 c hc
theorem st_le : ∀ (l : List Nat) (k j : Nat), k ≤ 3 → st (some k) l = some j → j ≤ 3
  | [], k, j, hk, h => by
    have : k = j := Option.some.inj h
    omega
  | d :: l, k, j, hk, h => by
    obtain ⟨_, h2⟩ := st_step h
    rcases h2 with ⟨_, h4, h3⟩ | ⟨_, h3⟩
    · exact st_le l _ j (by omega) h3
    · exact st_le l _ j (by omega) h3
theorem getD_list (T : Array Nat) (p : Nat) (h : p < T.toList.length) : T.getD p 0 = T.toList[p] := by
  rw [Array.getD_eq_getD_getElem?, Array.getElem?_eq_getElem (by simpa using h)]
  rfl
theorem st_runs (T : Array Nat) (j : Nat) : ∀ n p k, p + n ≤ T.size → k ≤ 3 → st (some k) (T.toList.drop p) = some j → k + cnt isDig T n p ≤ 3
  | 0, p, k, _, hk, _ => by simpa [cnt] using hk
  | n + 1, p, k, hp, hk, h => by
    have hlt : p < T.toList.length := by simp; omega
    rw [List.drop_eq_getElem_cons hlt] at h
    obtain ⟨_, h2⟩ := st_step h
    unfold cnt
    rw [getD_list T p hlt]
    rcases h2 with ⟨h5, h4, h3⟩ | ⟨h5, h3⟩
    · rw [if_pos h5]
      have := st_runs T j n (p + 1) (k + 1) (by omega) (by omega) h3
      omega
    · rw [if_neg (by rw [h5]; decide)]
      omega
theorem st_split {l : List Nat} {j : Nat} (h : st (some 0) l = some j) (p : Nat) : ∃ k, k ≤ 3 ∧ st (some 0) (l.take p) = some k ∧ st (some k) (l.drop p) = some j := by
  rw [← List.take_append_drop p l, st_app] at h
  cases e : st (some 0) (l.take p) with
  | none => rw [e, st_none] at h; cases h
  | some k =>
    rw [e] at h
    exact ⟨k, st_le _ 0 k (by omega) e, rfl, h⟩
theorem st_fine {T : Array Nat} {j : Nat} (h : st (some 0) T.toList = some j) (hs : T.size ≤ 64) : Fine T where
  small := hs
  ok := fun i hi => by
    have hlt : i < T.toList.length := by simpa using hi
    rw [getD_list T i hlt]
    exact st_ok _ _ _ h _ (List.getElem_mem _)
  runs := fun n p hp => by
    obtain ⟨k, hk, _, h2⟩ := st_split h p
    have := st_runs T j n p k hp hk h2
    omega
theorem st_last {l : List Nat} {c k j : Nat} (h : st (some k) (l ++ [c]) = some j) (hc : isDig c = false) : j = 0 := by
  rw [st_app] at h
  cases e : st (some k) l with
  | none => rw [e, st_none] at h; cases h
  | some i =>
    rw [e] at h
    obtain ⟨_, h2⟩ := st_step h
    rcases h2 with ⟨h3, _⟩ | ⟨_, h3⟩
    · rw [hc] at h3; cases h3
    · exact (Option.some.inj h3).symm
def stepOk (l : List Nat) : Bool := (List.range 4).all fun k => (st (some k) l).isSome
theorem stepOk.get {l : List Nat} (h : stepOk l = true) {k : Nat} (hk : k ≤ 3) : ∃ j, st (some k) l = some j := by
  unfold stepOk at h
  rw [List.all_eq_true] at h
  exact Option.isSome_iff_exists.mp (h k (List.mem_range.mpr (by omega)))
/-- a text whose signs may be read -/
def Okt (T : Array Nat) : Prop := ∃ j, st (some 0) T.toList = some j
theorem Okt.app {T U : Array Nat} (h : Okt T) (hU : stepOk U.toList = true) : Okt (T ++ U) := by
  obtain ⟨j, h⟩ := h
  obtain ⟨i, hi⟩ := stepOk.get hU (st_le _ 0 j (by omega) h)
  refine ⟨i, ?_⟩
  rw [Array.toList_append, st_app, h, hi]
theorem Okt.pre {T : Array Nat} (h : Okt T) (n : Nat) : Okt (T.extract 0 n) := by
  obtain ⟨j, h⟩ := h
  obtain ⟨k, _, h1, _⟩ := st_split h n
  refine ⟨k, ?_⟩
  have e : (T.extract 0 n).toList = T.toList.take n := by simp [List.extract_eq_take_drop]
  rw [e]; exact h1
theorem Okt.nil : Okt #[] := ⟨0, rfl⟩
def nLet (l : List Nat) : Nat := (l.filter isLet).length
theorem nLet_app (l r : List Nat) : nLet (l ++ r) = nLet l + nLet r := by unfold nLet; rw [List.filter_append, List.length_append]
theorem nLet_pre (T : Array Nat) (n : Nat) : nLet (T.extract 0 n).toList ≤ nLet T.toList := by
  have e : (T.extract 0 n).toList = T.toList.take n := by simp [List.extract_eq_take_drop]
  rw [e]
  have := nLet_app (T.toList.take n) (T.toList.drop n)
  rw [List.take_append_drop] at this
  omega
theorem lx_lets {T : Array Nat} {p : Nat} {gs : List Spot} (h : Lx T p gs) : gs.length ≤ nLet (T.toList.take p) := by
  induction h with
  | nil => exact Nat.zero_le _
  | @snoc p q d e gs _ H ih =>
    have h1 := H.stop_le
    have hlt := H.lt
    have e1 : T.toList.take (q + 1 + d + e) = T.toList.take p ++ (T.toList.take (q + 1 + d + e)).drop p := by
      have := List.take_append_drop p (T.toList.take (q + 1 + d + e))
      rw [List.take_take, Nat.min_eq_left (by omega)] at this
      exact this.symm
    rw [e1, nLet_app, List.length_append]
    have h2 : 0 < nLet ((T.toList.take (q + 1 + d + e)).drop p) := by
      unfold nLet
      refine List.length_pos_of_mem (a := T.getD q 0) (List.mem_filter.mpr ⟨?_, H.let_⟩)
      refine List.mem_iff_getElem.mpr ⟨q - p, by simp; omega, ?_⟩
      rw [List.getElem_drop, List.getElem_take, getD_list T q (by simpa using hlt)]
      congr 1
      omega
    simp only [List.length_cons, List.length_nil]
    omega
theorem Okt.split {x : PySem.Str} (h : Okt x.cps) (hs : x.cps.size ≤ 64) : ∃ b mk, Split x b mk ∧ Fine b.cps ∧ nLet b.cps.toList ≤ nLet x.cps.toList := by
  rcases Nat.eq_zero_or_pos x.cps.size with h0 | h0
  · obtain ⟨j, hj⟩ := h
    exact ⟨x, 62, .inl ⟨h0, rfl, rfl⟩, st_fine hj hs, Nat.le_refl _⟩
  · cases hm : isMark (x.cps.getD (x.cps.size - 1) 0) with
    | false =>
      obtain ⟨j, hj⟩ := h
      exact ⟨x, 62, .inr (.inl ⟨h0, hm, rfl, rfl⟩), st_fine hj hs, Nat.le_refl _⟩
    | true =>
      obtain ⟨j, hj⟩ := h.pre (x.cps.size - 1)
      exact ⟨_, _, .inr (.inr ⟨h0, hm, rfl, rfl⟩), st_fine hj (by simp; omega), nLet_pre _ _⟩

theorem getD_app_left {T U : Array Nat} {i : Nat} (h : i < T.size) : (T ++ U).getD i 0 = T.getD i 0 := by
  simp only [Array.getD_eq_getD_getElem?]
  rw [Array.getElem?_append_left h]
theorem getD_app_right {T U : Array Nat} {p : Nat} : (T ++ U).getD (T.size + p) 0 = U.getD p 0 := by
  simp only [Array.getD_eq_getD_getElem?]
  rw [Array.getElem?_append_right (Nat.le_add_right _ _), Nat.add_sub_cancel_left]
theorem cnt_shift {P : Nat → Bool} {T U : Array Nat} : ∀ n p, cnt P (T ++ U) n (T.size + p) = cnt P U n p
  | 0, _ => rfl
  | n + 1, p => by
    unfold cnt
    rw [getD_app_right, Nat.add_assoc, cnt_shift n (p + 1)]
theorem cnt_ext {P : Nat → Bool} {T U : Array Nat} (h0 : P (U.getD 0 0) = false) (hU : 0 < U.size) {p : Nat} (hp : p ≤ T.size) : cnt P (T ++ U) ((T ++ U).size - p) p = cnt P T (T.size - p) p := by
  have hle := cnt_le P T (T.size - p) p
  have hsz : (T ++ U).size = T.size + U.size := Array.size_append
  refine cnt_of _ _ _ (by omega) (fun i hi => ?_) (fun hlt => ?_)
  · rw [getD_app_left (by omega)]
    exact cnt_all _ _ i hi
  · by_cases hl : cnt P T (T.size - p) p < T.size - p
    · rw [getD_app_left (by omega)]
      exact cnt_stop _ _ hl
    · have e : p + cnt P T (T.size - p) p = T.size + 0 := by omega
      rw [e, getD_app_right]
      exact h0
theorem hit_ext {T U : Array Nat} (F : Fine T) (F' : Fine (T ++ U)) (hU : 0 < U.size) (h1 : isDig (U.getD 0 0) = false) (h2 : isSp (U.getD 0 0) = false) {s q d e : Nat} (H : Hit T s q d e) : Hit (T ++ U) s q d e := by
  have hst := H.stop_le
  obtain ⟨a1, a2, a3, a4, a5, a6⟩ := (hit_fine F).mp H
  have hsz : (T ++ U).size = T.size + U.size := Array.size_append
  refine (hit_fine F').mpr ⟨?_, by omega, ?_, ?_, a5, ?_⟩
  · have e1 : min 1 ((T ++ U).size - s) = 1 := by omega
    have e2 : min 1 (T.size - s) = 1 := by omega
    rw [e2] at a1
    rw [e1]
    unfold cnt at a1 ⊢
    rw [getD_app_left (by omega)]
    exact a1
  · rw [getD_app_left a2]; exact a3
  · rw [cnt_ext h1 hU (by omega)]; exact a4
  · rw [cnt_ext h2 hU (by omega)]; exact a6
theorem lx_ext {T U : Array Nat} (F : Fine T) (F' : Fine (T ++ U)) (hU : 0 < U.size) (h1 : isDig (U.getD 0 0) = false) (h2 : isSp (U.getD 0 0) = false) {p : Nat} {gs : List Spot} (H : Lx T p gs) : Lx (T ++ U) p gs := by
  induction H with
  | nil => exact .nil
  | snoc _ H ih => exact .snoc ih (hit_ext F F' hU h1 h2 H)
def SpotOk (T : Array Nat) (g : Spot) : Prop := (isVal (T.getD g.q 0) = true ∨ isPad (T.getD g.q 0) = true) ∧ num T g ≠ 0 ∧ g.q + 1 + g.d ≤ T.size
theorem extract_left {T U : Array Nat} {a b : Nat} (h : b ≤ T.size) : (T ++ U).extract a b = T.extract a b := by
  apply Array.ext'
  simp only [Array.toList_extract, Array.toList_append, List.extract_eq_take_drop]
  rw [List.drop_append, List.take_append]
  simp
  have e : b - a - (T.size - a) = 0 ∨ U.toList.drop (a - T.size) = [] ∨ True := .inr (.inr trivial)
  rcases Nat.le_total a T.size with ha | ha
  · left; omega
  · left; omega
theorem extract_right {T U : Array Nat} {a b : Nat} : (T ++ U).extract (T.size + a) (T.size + b) = U.extract a b := by
  apply Array.ext'
  simp only [Array.toList_extract, Array.toList_append, List.extract_eq_take_drop]
  have e1 : T.size + b - (T.size + a) = b - a := by omega
  rw [e1, List.drop_append]
  have e2 : T.toList.drop (T.size + a) = [] := List.drop_eq_nil_of_le (by simp)
  have e3 : T.size + a - T.toList.length = a := by simp
  rw [e2, e3, List.nil_append]
theorem SpotOk.ext {T U : Array Nat} {g : Spot} (h : SpotOk T g) : SpotOk (T ++ U) g := by
  obtain ⟨h1, h2, h3⟩ := h
  refine ⟨?_, ?_, ?_⟩
  · rw [getD_app_left (by omega)]; exact h1
  · unfold num at h2 ⊢
    rw [extract_left h3]; exact h2
  · rw [Array.size_append]; omega
def okU (U : Array Nat) : Bool :=
  let a := cnt isMark U (min 1 U.size) 0
  let d := cnt isDig U (U.size - (a + 1)) (a + 1)
  let e := cnt isSp U (U.size - (a + 1 + d)) (a + 1 + d)
  decide (a < U.size) && isLet (U.getD a 0) && (isVal (U.getD a 0) || isPad (U.getD a 0)) && decide (1 ≤ d) && decide (a + 1 + d + e = U.size) && decide (NumText.digitsVal (U.extract (a + 1) (a + 1 + d)).toList ≠ 0) &&
    !isDig (U.getD 0 0) && !isSp (U.getD 0 0) && decide (U.size ≤ 7) && stepOk U.toList && !isMark (U.getD (U.size - 1) 0)
structure CleanT (T : Array Nat) (n : Nat) : Prop where
  ok : Okt T
  size : T.size ≤ 7 * n
  last : isMark (T.getD (T.size - 1) 0) = false
  spots : ∃ gs, Lx T T.size gs ∧ (∀ g ∈ gs, SpotOk T g) ∧ gs.length = n
theorem CleanT.zero : CleanT #[] 0 := ⟨Okt.nil, Nat.le_refl _, rfl, [], .nil, by simp, rfl⟩
theorem CleanT.app {T U : Array Nat} {n : Nat} (h : CleanT T n) (hn : n ≤ 7) (hU : okU U = true) : CleanT (T ++ U) (n + 1) := by
  unfold okU at hU
  simp only [Bool.and_eq_true, decide_eq_true_eq, Bool.or_eq_true, Bool.not_eq_true'] at hU
  obtain ⟨⟨⟨⟨⟨⟨⟨⟨⟨⟨u1, u2⟩, u3⟩, u4⟩, u5⟩, u6⟩, u7⟩, u8⟩, u9⟩, u10⟩, u11⟩ := hU
  have hsz : (T ++ U).size = T.size + U.size := Array.size_append
  have hpos : 0 < U.size := by omega
  have hT := h.size
  have ok' := h.ok.app u10
  have F : Fine T := let ⟨_, hj⟩ := h.ok; st_fine hj (by omega)
  have F' : Fine (T ++ U) := let ⟨_, hj⟩ := ok'; st_fine hj (by omega)
  obtain ⟨gs, hL, hg, hlen⟩ := h.spots
  have hL' := lx_ext F F' hpos u7 u8 hL
  generalize ha : cnt isMark U (min 1 U.size) 0 = a at *
  generalize hd : cnt isDig U (U.size - (a + 1)) (a + 1) = d at *
  generalize he : cnt isSp U (U.size - (a + 1 + d)) (a + 1 + d) = e at *
  have H : Hit (T ++ U) T.size (T.size + a) d e := by
    refine (hit_fine F').mpr ⟨?_, by omega, ?_, ?_, u4, ?_⟩
    · have := cnt_shift (P := isMark) (T := T) (U := U) (min 1 ((T ++ U).size - T.size)) 0
      rw [Nat.add_zero] at this
      rw [this, hsz, Nat.add_sub_cancel_left, ha]
    · rw [getD_app_right]; exact u2
    · rw [Nat.add_assoc, cnt_shift, hsz, show T.size + U.size - (T.size + (a + 1)) = U.size - (a + 1) by omega, hd]
    · rw [show T.size + a + 1 + d = T.size + (a + 1 + d) by omega, cnt_shift, hsz, show T.size + U.size - (T.size + (a + 1 + d)) = U.size - (a + 1 + d) by omega, he]
  refine ⟨ok', by omega, ?_, gs ++ [⟨T.size, T.size + a, d, e⟩], ?_, ?_, by simp [hlen]⟩
  · rw [hsz, show T.size + U.size - 1 = T.size + (U.size - 1) by omega, getD_app_right]; exact u11
  · have := Lx.snoc hL' H
    rw [show T.size + a + 1 + d + e = (T ++ U).size by omega] at this
    exact this
  · intro g hg'
    rcases List.mem_append.mp hg' with hg' | hg'
    · exact (hg g hg').ext
    · rw [List.mem_singleton.mp hg']
      refine ⟨?_, ?_, ?_⟩
      · show isVal ((T ++ U).getD (T.size + a) 0) = true ∨ isPad ((T ++ U).getD (T.size + a) 0) = true
        rw [getD_app_right]; exact u3
      · unfold num
        show ((NumText.digitsVal ((T ++ U).extract (T.size + a + 1) (T.size + a + 1 + d)).toList : Nat) : Int) ≠ 0
        rw [show T.size + a + 1 = T.size + (a + 1) by omega, show T.size + (a + 1) + d = T.size + (a + 1 + d) by omega, extract_right]
        intro z
        exact u6 (Int.ofNat_eq_zero.mp z)
      · show T.size + a + 1 + d ≤ _
        omega

def goods : List PySem.Str := [Str.ofString "u8", Str.ofString "s5", Str.ofString "b1", Str.ofString "f16", Str.ofString "t24", Str.ofString "r3", Str.ofString "p2", Str.ofString "P7", Str.ofString "u007", Str.ofString "p10", Str.ofString "<", Str.ofString ">", Str.ofString " ", Str.ofString "  ", Str.ofString "\t", Str.ofString "\n "]
def bads : List PySem.Str := [Str.ofString "q4", Str.ofString "Z9", Str.ofString "u0", Str.ofString "s00", Str.ofString "u", Str.ofString "12", Str.ofString "-", Str.ofString "<<"]
def words : List PySem.Str := [Str.ofString "speed", Str.ofString "mode", Str.ofString "tag", Str.ofString "gain", Str.ofString "rate", Str.ofString "mask", Str.ofString "kind", Str.ofString "seat"]
def mks : List PySem.Str := [Str.ofString "", Str.ofString "", Str.ofString "<", Str.ofString ">"]
def sps : List PySem.Str := [Str.ofString "", Str.ofString "", Str.ofString " ", Str.ofString "  ", Str.ofString "\t", Str.ofString "\n "]
def grpOf (a b c : Nat) : Array Nat := (mks.getD a PySem.Str.empty).cps ++ ((goods.getD b PySem.Str.empty).cps ++ (sps.getD c PySem.Str.empty).cps)
theorem okU_all : ∀ a, a < 4 → ∀ b, b < 10 → ∀ c, c < 6 → okU (grpOf a b c) = true := by decide +kernel
theorem good_step : ∀ i, i < 16 → stepOk (goods.getD i PySem.Str.empty).cps.toList = true ∧ (goods.getD i PySem.Str.empty).cps.size ≤ 4 ∧ nLet (goods.getD i PySem.Str.empty).cps.toList ≤ 1 := by decide +kernel
theorem bad_step : ∀ i, i < 8 → (i = 5 ∨ stepOk (bads.getD i PySem.Str.empty).cps.toList = true) ∧ (bads.getD i PySem.Str.empty).cps.size ≤ 4 ∧ nLet (bads.getD i PySem.Str.empty).cps.toList ≤ 1 := by decide +kernel
theorem mks_size : ∀ i, i < 4 → (mks.getD i PySem.Str.empty).cps.size ≤ 1 := by decide +kernel
theorem sps_size : ∀ i, i < 6 → (sps.getD i PySem.Str.empty).cps.size ≤ 2 := by decide +kernel
theorem mks_last : ∀ i, i < 4 → mks.getD i PySem.Str.empty = Str.ofString "" ∨ ∃ c, isMark c = true ∧ mks.getD i PySem.Str.empty = one c := by
  intro i hi
  match i, hi with
  | 0, _ => exact .inl rfl
  | 1, _ => exact .inl rfl
  | 2, _ => exact .inr ⟨60, rfl, by decide +kernel⟩
  | 3, _ => exact .inr ⟨62, rfl, by decide +kernel⟩
/-- what a clean text is -/
def CleanX (x b : PySem.Str) (mk : Nat) : Prop := Split x b mk ∧ x.cps.size ≤ 100 ∧ Fine b.cps ∧ ∃ gs, Lx b.cps b.cps.size gs ∧ (∀ g ∈ gs, SpotOk b.cps g) ∧ gs.length ≤ 5
theorem CleanT.done {x y : PySem.Str} {n : Nat} (h : CleanT x.cps n) (h1 : 1 ≤ n) (h5 : n ≤ 5) (hy : y = Str.ofString "" ∨ ∃ c, isMark c = true ∧ y = one c) : ∃ b mk, CleanX ⟨x.cps ++ y.cps⟩ b mk := by
  have hT := h.size
  have F : Fine x.cps := let ⟨_, hj⟩ := h.ok; st_fine hj (by omega)
  obtain ⟨gs, hL, hg, hlen⟩ := h.spots
  have hpos : 0 < x.cps.size := by
    rcases Nat.eq_zero_or_pos x.cps.size with h0 | h0
    · exfalso
      obtain ⟨p, hp⟩ : ∃ p, p = x.cps.size := ⟨_, rfl⟩
      rw [← hp] at hL
      cases hL with
      | nil => simp at hlen; omega
      | snoc _ H => omega
    · exact h0
  rcases hy with rfl | ⟨c, hc, rfl⟩
  · have e : (⟨x.cps ++ (Str.ofString "").cps⟩ : PySem.Str) = x := by
      have e0 : (Str.ofString "").cps = #[] := by decide +kernel
      rw [e0]; cases x; simp
    rw [e]
    exact ⟨x, 62, .inr (.inl ⟨hpos, h.last, rfl, rfl⟩), by omega, F, gs, hL, hg, by omega⟩
  · have e1 : (x.cps ++ (one c).cps).size = x.cps.size + 1 := Array.size_append
    have e2 : (x.cps ++ (one c).cps).getD ((x.cps ++ (one c).cps).size - 1) 0 = c := by
      rw [e1]
      show (x.cps ++ (one c).cps).getD (x.cps.size + 0) 0 = c
      rw [getD_app_right]; rfl
    have e3 : (⟨(x.cps ++ (one c).cps).extract 0 ((x.cps ++ (one c).cps).size - 1)⟩ : PySem.Str) = x := by
      rw [e1]
      show (⟨(x.cps ++ (one c).cps).extract 0 x.cps.size⟩ : PySem.Str) = x
      rw [extract_left (Nat.le_refl _)]
      cases x; simp
    refine ⟨x, c, .inr (.inr ⟨?_, ?_, e3.symm, e2.symm⟩), ?_, F, gs, hL, hg, by omega⟩
    · show 0 < (x.cps ++ (one c).cps).size
      omega
    · show isMark ((x.cps ++ (one c).cps).getD ((x.cps ++ (one c).cps).size - 1) 0) = true
      rw [e2]; exact hc
    · show (x.cps ++ (one c).cps).size ≤ 100
      omega
/-- the other texts, sign by sign -/
structure TextT (T : Array Nat) (n : Nat) : Prop where
  ok : Okt T
  size : T.size ≤ 4 * n
  lets : nLet T.toList ≤ n
theorem TextT.zero : TextT #[] 0 := ⟨Okt.nil, Nat.le_refl _, Nat.le_refl _⟩
theorem TextT.app {T U : Array Nat} {n : Nat} (h : TextT T n) (h1 : stepOk U.toList = true) (h2 : U.size ≤ 4 ∧ nLet U.toList ≤ 1) : TextT (T ++ U) (n + 1) :=
  ⟨h.ok.app h1, by have := h.size; rw [Array.size_append]; omega, by have := h.lets; rw [Array.toList_append, nLet_app]; omega⟩
theorem st_12 : st (some 0) (bads.getD 5 PySem.Str.empty).cps.toList = some 2 := by decide +kernel
theorem TextT.app12 {T : Array Nat} {n : Nat} (h : TextT T n) (h1 : T.size = 0 ∨ isDig (T.getD (T.size - 1) 0) = false) : TextT (T ++ (bads.getD 5 PySem.Str.empty).cps) (n + 1) := by
  refine ⟨?_, by have := h.size; have e := (bad_step 5 (by decide)).2.1; rw [Array.size_append]; omega, by have := h.lets; have e := (bad_step 5 (by decide)).2.2; rw [Array.toList_append, nLet_app]; omega⟩
  obtain ⟨j, hj⟩ := h.ok
  refine ⟨2, ?_⟩
  have hj0 : j = 0 := by
    rcases Nat.eq_zero_or_pos T.size with h0 | h0
    · have : T = #[] := Array.eq_empty_of_size_eq_zero h0
      subst this
      exact (Option.some.inj hj).symm
    · have hd : isDig (T.getD (T.size - 1) 0) = false := by
        rcases h1 with h1 | h1
        · omega
        · exact h1
      have hl : T.toList ≠ [] := by
        intro e
        have : T.toList.length = 0 := by rw [e]; rfl
        rw [Array.length_toList] at this; omega
      have e := List.dropLast_concat_getLast hl
      rw [← e] at hj
      refine st_last hj ?_
      rw [getD_list T _ (by rw [Array.length_toList]; omega)] at hd
      rw [List.getLast_eq_getElem]
      simpa using hd
  rw [Array.toList_append, st_app, hj, hj0]
  exact st_12
end Mine
end
section
open PySem PySem.W PyProof.Rows
set_option maxRecDepth 100000
set_option maxHeartbeats 8000000
namespace Mine
local macro_rules | `(tactic| k_all) => `(tactic| assumption)
local macro_rules | `(tactic| k_room) => `(tactic| ktr_room)
local macro_rules | `(tactic| walk_at "call builtin:list.append") => `(tactic| (k_here; (with_reducible show wpAny _ _ (call (Value.builtin _) [Value.ref _, _]) _ _ _); k_dflt (refine' append_K ?k1 ?k2 ?k3 ?_ ?z; (case k1 => k_asm); (case k2 => k_asm); (case k3 => k_upd); (case z => (have hz9 := size_line; simp only [List.size_toArray]; omega)); k_whole); intro h9 F9 N9; (try k_sweep)))
local macro_rules | `(tactic| walk_at "call type:int") => `(tactic| (k_here; (with_reducible show wpAny _ _ (call (Value.type "int") [Value.str _ _]) _ _ _); k_dflt (refine' KIN.call_text ?a ?b ?_; (case a => assumption); (case b => (simp only [PySem.Str.length, Array.size_extract]; omega)))))
local macro_rules | `(tactic| walk_at "binaryOp Add str str") => `(tactic| (k_here; k_dflt (refine r_add ?a ?b ?_; (case a => (first | omega | ((simp only [Array.size_extract]); omega) | (show 1 ≤ 1000; decide))); (case b => (first | omega | (show 1 ≤ 1000; decide) | ((simp only [Array.size_extract]); omega)))); intro _ _))
local macro_rules | `(tactic| walk_at "newTuple") => `(tactic| (k_here; k_dflt (refine r_newTuple ?a ?b ?_ ?c; (case a => k_asm); (case b => k_asm); (case c => decide); k_whole); intro a9 h9 F9 N9 l9; (try k_lt l9); (try k_sweep)))
local macro_rules | `(tactic| k_steps) => `(tactic| repeat' ((fail_if_success (with_reducible show Halt _)); first | (k_unfold; (try dsimp only)) | (k_end; kc_close) | walk1 | (dsimp only; walk1) | (leave1; walk_say "STEP leave1"; (try dsimp only)) | fail "no step"))
local macro_rules | `(tactic| walk_at "eval Name") => `(tactic| (k_here; k_dflt (refine' nameX_L ?F ?v ?_ ?a ?b; (case F => k_asm); (case a => rfl); (case b => rfl); (case v => first | rfl | assumption); k_whole)))
local macro_rules | `(tactic| walk_at "subscriptTail Name Name str int") => `(tactic| (k_here; k_dflt (refine r_item ?a ?b ?c ?_; (case a => omega); (case b => omega); (case c => omega))))
local macro_rules | `(tactic| walk_at "compareOp In str str") => `(tactic| (k_here; k_dflt (first | with_reducible refine r_in mem_marks ?_ | with_reducible refine r_in mem_marks' ?_ | with_reducible refine r_in mem_pads ?_ | with_reducible refine r_in mem_digs ?_ | with_reducible refine r_in mem_sps ?_ | with_reducible refine r_in mem_lets ?_ | with_reducible refine r_in mem_ub ?_ | with_reducible refine r_in mem_vals ?_)))
local macro_rules | `(tactic| walk_at "compareOp NotIn str str") => `(tactic| (k_here; k_dflt (first | with_reducible refine r_notIn mem_lets ?_ | with_reducible refine r_notIn mem_pads ?_ | with_reducible refine r_notIn mem_vals ?_)))
local macro_rules | `(tactic| walk_at "call builtin:len") => `(tactic| (k_here; (with_reducible show wpAny _ _ (call (Value.builtin "len") [Value.str _ _]) _ _ _); k_dflt (refine r_len ?a ?_; (case a => omega))))
local macro_rules | `(tactic| walk_at "subscriptTail Name UnaryOp str int") => `(tactic| (k_here; k_dflt (refine r_last ?a ?_; (case a => omega))))
local macro_rules | `(tactic| walk_at "subscriptTail Name Slice str ref") => `(tactic| ((with_reducible show wpAny _ _ (subscriptTail _ (Expr.Slice none (some _) none _) _ _) _ _ _); (with_reducible rename Fr _ _ _ _ => F'); (with_reducible rename News _ _ _ _ => N'); k_dflt (refine r_init (s := ⟨_, _, _, _, _⟩) F' N' ?a ?b ?_; (case a => omega); (case b => omega)); intro _ _ _ _ _))

def TurnR (h₀ : Heap) (L : Addr) (J : (PySem.Str → Option Value) → List (Addr × Obj) → Prop) (own : List (Addr × Obj)) (s₁ : Shared) (Q : Flow → Shared → Prop) (f : Flow) (s₂ : Shared) : Prop :=
  match f with
  | .ret v => Q (.ret v) s₂
  | .brk => Q .next s₂
  | _ => ∃ h' tk m' news', s₂ = { s₁ with heap := h', toks := tk } ∧ Fr h₀ L h' m' ∧ News h₀ L h' (news' ++ own) ∧ (∀ p ∈ news', ∀ q ∈ own, p.1 ≠ q.1) ∧ J m' news'
theorem letGo_range {prog : Program} {w : World} {A : Around} {target : PySem.Expr} {I : Addr} {k : Int} {t : Tok} {s : Shared} {Q : Unit → Shared → Prop} {E : Value → Shared → Prop} (ht : ∃ x p, target = .Name x p) (hQ : Q () s) :
    wpAny (model prog w) A (letOwnedTupleGo target (.ref I) (.int k t)) Q E s := by
  obtain ⟨x, p, rfl⟩ := ht
  exact wpAny_pure hQ
theorem forR {prog : Program} {w : World} {A : Around} {E : Value → Shared → Prop} {s : Shared} {env : Env} {h₀ : Heap} {target : PySem.Expr} {body : List Stmt} {Q : Flow → Shared → Prop} {n : Int} {tn : Tok} {m : PySem.Str → Option Value} {news : List (Addr × Obj)}
    (J : Nat → (PySem.Str → Option Value) → List (Addr × Obj) → Prop) (ht : ∃ x p, target = .Name x p) (hh : A.handled = none) (F : Fr h₀ env.locals s.heap m) (N : News h₀ env.locals s.heap news) (h0 : 0 ≤ n) (h9 : n ≤ 1000) (hJ : J 0 m news)
    (turn : ∀ i t m₁ news₁ h₁ tk₁ own, (i : Nat) < n.toNat → J i m₁ news₁ → (∀ p ∈ news₁, ∀ q ∈ own, p.1 ≠ q.1) → Fr h₀ env.locals h₁ m₁ → News h₀ env.locals h₁ (news₁ ++ own) →
      wpAny (model prog w) A (assign target env (.int i t)) (fun _ s₂ => wpAny (model prog w) A (execs body env) (TurnR h₀ env.locals (J (i + 1)) own { s with heap := h₁, toks := tk₁ } Q) E s₂) E { s with heap := h₁, toks := tk₁ })
    (done : ∀ h' tk m' news', Fr h₀ env.locals h' m' → News h₀ env.locals h' news' → J n.toNat m' news' → Q .next { s with heap := h', toks := tk }) :
    wpAny (model prog w) A (call (.type "range") [.int n tn]) (fun xv s₁ => wpAny (model prog w) A (pyIter xv) (fun it s₂ => TurnsAt prog w A h₀ env target body Q E it s₂) E s₁) E s := by
  refine call_range_1 ?_
  refine wpAny_pyIter_range (IsRange.new ..) (small_one (by decide) (by decide) (by omega) (by omega)) ?_
  have hsz : Builtin.Range.rangeSize 0 n 1 = (n.toNat : Int) := by rw [rangeSize_one]; split <;> omega
  have F1 := F.push { cls := .type "range", data := .fields #[.int 0 s.toks, .int n tn, .int 1 (s.toks + 1)] }
  have N1 : News h₀ env.locals (s.heap.push { cls := .type "range", data := .fields #[.int 0 s.toks, .int n tn, .int 1 (s.toks + 1)] }) news := fun p hp => ⟨Heap.get?_push_of_some _ (N p hp).1, (N p hp).2⟩
  generalize s.heap.push { cls := .type "range", data := .fields #[.int 0 s.toks, .int n tn, .int 1 (s.toks + 1)] } = hr at F1 N1
  have F2 := F1.push { cls := .type "range_iterator", data := .fields #[.int 0 0, .int (Builtin.Range.rangeSize 0 n 1) 0, .int 1 0] }
  have W : Walks prog w A hr.objs.size [hr.objs.size] [hr.objs.size] n.toNat (fun i v => i < n.toNat ∧ ∃ t, v = .int (0 + i * 1) t) (fun i h => IsRangeIter h hr.objs.size (0 + (i : Nat) * 1) ((n.toNat : Int) - (i : Nat)) 1) := (Walks.range hh hr.objs.size 0 1 n.toNat).bound
  refine ⟨_, _, _, n.toNat, _, _, _, m, news, J, rfl, KTurns.ofWalks W (fun i v s' Q' E' hst hQ => ?g), ?_, ?_, ?_, ?_, F1.push _, (fun p hp => ⟨Heap.get?_push_of_some _ (N1 p hp).1, (N1 p hp).2⟩), hJ, ?_, ?_⟩
  case g =>
    obtain ⟨x, p, rfl⟩ := ht
    exact wpAny_pure hQ
  · intro hm
    exact absurd F1.ns.lt ((List.mem_singleton.mp hm) ▸ Nat.lt_irrefl _)
  · intro b hb
    rw [List.mem_singleton.mp hb]
    exact next_is_new F1
  · intro p hp hI
    exact absurd (Heap.lt_size (N1 p hp).1) ((List.mem_singleton.mp hI) ▸ Nat.lt_irrefl _)
  · show IsRangeIter _ _ _ _ _
    rw [hsz]
    simpa using Heap.get?_push_size _ rfl
  · rintro i v m₁ news₁ h₁ tk₁ own hi ⟨hi2, t, rfl⟩ hJ₁ hoff hown hget hall hst F₁ N₁
    have hap : ∀ p ∈ news₁, ∀ q ∈ own, p.1 ≠ q.1 := by
      intro p hp q hq e
      exact hoff p hp (by rw [e]; exact hown q hq)
    have N₂ : News h₀ env.locals h₁ (news₁ ++ own) := News.perm N₁ fun p hp => (List.mem_append.mp hp).elim (fun h => List.mem_append_right _ h) fun h => List.mem_append_left _ h
    have hIown : ∃ oI, (hr.objs.size, oI) ∈ own := ⟨_, hall _ (List.mem_singleton.mpr rfl) (next_is_new F1) _ hst⟩
    have e0 : (0 + (i : Int) * 1) = i := by omega
    rw [e0]
    refine wpAny_mono (turn i t m₁ news₁ h₁ tk₁ own hi2 hJ₁ hap F₁ N₂) (fun _ s₂ h₂ => wpAny_mono h₂ (fun f s₃ p => ?_) fun _ _ e => e) fun _ _ e => e
    have fin : (∃ h' tk m' news', s₃ = { s with heap := h', toks := tk } ∧ Fr h₀ env.locals h' m' ∧ News h₀ env.locals h' (news' ++ own) ∧ (∀ p ∈ news', ∀ q ∈ own, p.1 ≠ q.1) ∧ J (i + 1) m' news') →
        LoopStepU h₀ env.locals [hr.objs.size] own (J (i + 1)) { s with heap := h₁, toks := tk₁ } .next s₃ := by
      rintro ⟨h', tk, m', news', rfl, F', N', hap', hJ'⟩
      refine ⟨rfl, h', tk, m', news', rfl, F', News.perm N' fun p hp => (List.mem_append.mp hp).elim (fun h => List.mem_append_right _ h) fun h => List.mem_append_left _ h, fun p hp hq => ?_, hJ'⟩
      obtain ⟨oI, hoI⟩ := hIown
      exact hap' p hp _ hoI (List.mem_singleton.mp hq)
    cases f with
    | ret v => exact .ret p
    | brk => exact .brk p
    | next => exact .next (fin p)
    | cont => exact .cont (fin p)
  · intro h' tk m' news' F' N' _ hJ'
    exact done h' tk m' news' F' N' hJ'
theorem at317 (P : Params) : List.lookup 317 (Mine.hd.heap_39 P) = some (tupObj [.str (Str.ofString "u8") 716, .str (Str.ofString "s5") 717, .str (Str.ofString "b1") 718, .str (Str.ofString "f16") 719, .str (Str.ofString "t24") 720, .str (Str.ofString "r3") 721, .str (Str.ofString "p2") 722, .str (Str.ofString "P7") 723, .str (Str.ofString "u007") 724, .str (Str.ofString "p10") 725, .str (Str.ofString "<") 726, .str (Str.ofString ">") 727, .str (Str.ofString " ") 728, .str (Str.ofString "  ") 729, .str (Str.ofString "\t") 730, .str (Str.ofString "\n ") 731]) := by kernel_rfl
theorem at318 (P : Params) : List.lookup 318 (Mine.hd.heap_39 P) = some (tupObj [.str (Str.ofString "q4") 733, .str (Str.ofString "Z9") 734, .str (Str.ofString "u0") 735, .str (Str.ofString "s00") 736, .str (Str.ofString "u") 737, .str (Str.ofString "12") 738, .str (Str.ofString "-") 739, .str (Str.ofString "<<") 740]) := by kernel_rfl
theorem goods_are : StrsAre [.str (Str.ofString "u8") 716, .str (Str.ofString "s5") 717, .str (Str.ofString "b1") 718, .str (Str.ofString "f16") 719, .str (Str.ofString "t24") 720, .str (Str.ofString "r3") 721, .str (Str.ofString "p2") 722, .str (Str.ofString "P7") 723, .str (Str.ofString "u007") 724, .str (Str.ofString "p10") 725, .str (Str.ofString "<") 726, .str (Str.ofString ">") 727, .str (Str.ofString " ") 728, .str (Str.ofString "  ") 729, .str (Str.ofString "\t") 730, .str (Str.ofString "\n ") 731] goods := by
  unfold goods
  repeat' constructor
theorem bads_are : StrsAre [.str (Str.ofString "q4") 733, .str (Str.ofString "Z9") 734, .str (Str.ofString "u0") 735, .str (Str.ofString "s00") 736, .str (Str.ofString "u") 737, .str (Str.ofString "12") 738, .str (Str.ofString "-") 739, .str (Str.ofString "<<") 740] bads := by
  unfold bads
  repeat' constructor
section
variable {prog : Program} {w : World} {A : Around} {E : Value → Shared → Prop} {s : Shared} {Q : Value → Shared → Prop} {h₀ : Heap} {L : Addr} {m : PySem.Str → Option Value} {news : List (Addr × Obj)}
theorem r_tab {value slice : PySem.Expr} {a : Addr} {vs : List Value} {ws : List PySem.Str} {i : Int} {u : Tok} (ht : IsTup s.heap a vs.toArray) (hw : StrsAre vs ws) (hsz : ∀ j, j < ws.length → (ws.getD j PySem.Str.empty).cps.size ≤ 4) (h0 : 0 ≤ i) (hi : i < (ws.length : Int)) (hfit : i < 100) (h : ∀ t, (ws.getD i.toNat PySem.Str.empty).cps.size ≤ 4 → Q (.str (ws.getD i.toNat PySem.Str.empty) t) s)
    (hs : subscripted slice false (.ref a) (.int i u) = operate [.ref a, .int i u] (getItem (.ref a) (.int i u)) := by with_unfolding_all rfl) : wpAny (model prog w) A (subscriptTail value slice (.ref a) (.int i u)) Q E s :=
  KTb.item_tup ht hw h0 hi (by omega) (fun t' hlt => h t' (hsz _ hlt)) hs
theorem goods_size : ∀ j, j < goods.length → (goods.getD j PySem.Str.empty).cps.size ≤ 4 := fun j hj => (good_step j hj).2.1
theorem bads_size : ∀ j, j < bads.length → (bads.getD j PySem.Str.empty).cps.size ≤ 4 := fun j hj => (bad_step j hj).2.1
theorem mks_size4 : ∀ j, j < mks.length → (mks.getD j PySem.Str.empty).cps.size ≤ 4 := fun j hj => Nat.le_trans (mks_size j hj) (by decide)
theorem sps_size4 : ∀ j, j < sps.length → (sps.getD j PySem.Str.empty).cps.size ≤ 4 := fun j hj => Nat.le_trans (sps_size j hj) (by decide)
theorem tupK {P : Params} {a : Addr} {vs : List Value} (X : (Mine.hd.heap_39 P).In h₀) (F : Fr h₀ L s.heap m) (e : List.lookup a (Mine.hd.heap_39 P) = some (tupObj vs)) : IsTup s.heap a vs.toArray := ⟨_, (X.keeps F.keep) _ _ e, rfl, _, rfl⟩
end
theorem lenG : ((goods.length : Nat) : Int) = 16 := rfl
theorem lenB : ((bads.length : Nat) : Int) = 8 := rfl
theorem lenM : ((mks.length : Nat) : Int) = 4 := rfl
theorem lenS : ((sps.length : Nat) : Int) = 6 := rfl
theorem clean_step {x : PySem.Str} {n a b c : Nat} (h : CleanT x.cps n) (hn : n ≤ 7) (h1 : a < 4) (h2 : b < 10) (h3 : c < 6) :
    CleanT (⟨(⟨(⟨x.cps ++ (mks.getD a PySem.Str.empty).cps⟩ : PySem.Str).cps ++ (goods.getD b PySem.Str.empty).cps⟩ : PySem.Str).cps ++ (sps.getD c PySem.Str.empty).cps⟩ : PySem.Str).cps (n + 1) := by
  have := CleanT.app h hn (okU_all a h1 b h2 c h3)
  unfold grpOf at this
  rw [← Array.append_assoc, ← Array.append_assoc] at this
  exact this
theorem cps_empty : (Str.ofString "").cps = #[] := by decide +kernel
theorem tnf {a n : Int} {k : Nat} (h : 0 < n) (hk : n = k) : (Int.fmod a n).toNat < k := by
  have h1 := fmod_lo a h
  have h2 := fmod_hi a h
  omega
def OneOk (o : PySem.Str) : Prop := (stepOk o.cps.toList = true ∨ o = bads.getD 5 PySem.Str.empty) ∧ o.cps.size ≤ 4 ∧ nLet o.cps.toList ≤ 1
theorem goods_ok (i : Nat) (h : i < 16) : OneOk (goods.getD i PySem.Str.empty) := ⟨.inl (good_step i h).1, (good_step i h).2⟩
theorem bads_ok (i : Nat) (h : i < 8) : OneOk (bads.getD i PySem.Str.empty) := by
  refine ⟨?_, (bad_step i h).2⟩
  rcases (bad_step i h).1 with rfl | e
  · exact .inr rfl
  · exact .inl e
theorem one_ne12 {o : PySem.Str} (h : stepOk o.cps.toList = true) : (o == Str.ofString "12") = false := by
  rw [beq_eq_false_iff_ne]
  rintro rfl
  exact absurd h (by decide +kernel)
def CleanJ (box few : Addr) (vs : List Value) (n1 n2 : Nat) (rest : List (Addr × Obj)) (i : Nat) (m' : PySem.Str → Option Value) (nw : List (Addr × Obj)) : Prop :=
  ∃ x c tx tc, m' (Str.ofString "text") = some (.str x tx) ∧ m' (Str.ofString "box") = some (.ref box) ∧ CleanT x.cps i ∧ 0 ≤ c ∧ nw = (box, W.listOf #[.ref few, .int c tc] n1) :: (few, W.listOf vs.toArray n2) :: rest
def TextJ (box few : Addr) (vs : List Value) (n1 n2 : Nat) (rest : List (Addr × Obj)) (i : Nat) (m' : PySem.Str → Option Value) (nw : List (Addr × Obj)) : Prop :=
  ∃ x c tx tc, m' (Str.ofString "text") = some (.str x tx) ∧ m' (Str.ofString "box") = some (.ref box) ∧ TextT x.cps i ∧ 0 ≤ c ∧ nw = (box, W.listOf #[.ref few, .int c tc] n1) :: (few, W.listOf vs.toArray n2) :: rest
theorem box_news {g h : Heap} {L : Addr} {rest own tl : List (Addr × Obj)} {b f : Addr × Obj} (N : News g L h (b :: f :: tl)) (htl : tl = rest ++ own) : News g L h ((b :: f :: rest) ++ own) := by
  rw [htl] at N
  exact N
theorem dropA {g h : Heap} {L : Addr} {a : Addr × Obj} {l : List (Addr × Obj)} (N : News g L h (a :: l)) : News g L h l := fun p hp => N p (.tail _ hp)
theorem box_ap {box few : Addr} {o o' f : Obj} {rest own : List (Addr × Obj)} (h : ∀ p ∈ (box, o) :: (few, f) :: rest, ∀ q ∈ own, p.1 ≠ q.1) : ∀ p ∈ (box, o') :: (few, f) :: rest, ∀ q ∈ own, p.1 ≠ q.1 := by
  intro p hp q hq
  rcases List.mem_cons.mp hp with rfl | hp
  · exact h (box, o) (.head _) q hq
  · exact h p (.tail _ hp) q hq
local macro_rules | `(tactic| walk_at "call ref") => `(tactic| (k_here; (with_reducible show wpAny _ _ (call (Value.ref 326) _) _ _ _); (k_dflt (refine' draw_g _ ?B ?F ?X ?N ?U ?hf ?T rfl ?hi ?hns ?hns2 ?hc ?hl ?hd ?hu ?_; (case B => k_asm); (case F => k_asm); (case X => k_asm); (case N => k_asm); (case U => k_updF); (case hf => k_mem); (case T => k_asm); (case hi => assumption); (case hns => assumption); (case hns2 => assumption); (case hc => omega); (case hl => omega); (case hd => first | omega | ktr_room); (case hu => first | omega | ktr_units); k_whole)); intro v9 t9 t8 h9 tk9 g0 g1 F9 N9; (try dsimp only at N9); (try k_sweep)))
local macro_rules | `(tactic| walk_at "call ref") => `(tactic| ((fail_if_success (rename Go => gg)); (with_reducible show wpAny _ _ (call (Value.ref 326) _) _ _ _); refine Halt.out ?_))
local macro_rules | `(tactic| walk_at "exec If") => `(tactic| ((fail_if_success (rename Go => gg)); (with_reducible show wpAny _ _ (exec (Stmt.If (PySem.Expr.Compare _ (CmpOp.GtE :: _) _ _) _ _ _) _) _ _ _); refine Halt.out ?_))
local macro_rules | `(tactic| walk_at "call type:range") => `(tactic| refine Halt.out ?_)
local macro_rules | `(tactic| walk_at "exec For Name Call cons nil") => `(tactic| refine Halt.out ?_)
local macro_rules | `(tactic| walk_at "subscriptTail Name Call ref int") => `(tactic| (k_here; k_dflt (first
  | (refine' r_tab (ws := goods) ?t goods_are goods_size ?a ?b ?c ?_; (case t => exact tupK (by k_asm) (by k_asm) (at317 _)); (case a => omega); (case b => (rw [lenG]; omega)); (case c => omega))
  | (refine' r_tab (ws := mks) ?t ?w mks_size4 ?a ?b ?c ?_; (case t => exact News.isTup (by k_asm) (by k_mem)); (case w => (exact .cons _ _ (.cons _ _ (.cons _ _ (.cons _ _ .nil))))); (case a => omega); (case b => (rw [lenM]; omega)); (case c => omega))
  | (refine' r_tab (ws := sps) ?t ?w sps_size4 ?a ?b ?c ?_; (case t => exact News.isTup (by k_asm) (by k_mem)); (case w => (exact .cons _ _ (.cons _ _ (.cons _ _ (.cons _ _ (.cons _ _ (.cons _ _ .nil))))))); (case a => omega); (case b => (rw [lenS]; omega)); (case c => omega))); intro _ _))
local macro_rules | `(tactic| walk_at "subscriptTail Name BinOp ref int") => `(tactic| (k_here; k_dflt (first
  | (refine' r_tab (ws := goods) ?t goods_are goods_size ?a ?b ?c ?_; (case t => exact tupK (by k_asm) (by k_asm) (at317 _)); (case a => exact fmod_lo _ (by decide)); (case b => exact fmod_hi _ (by decide)); (case c => exact Int.lt_trans (fmod_hi _ (by decide)) (by decide)))
  | (refine' r_tab (ws := bads) ?t bads_are bads_size ?a ?b ?c ?_; (case t => exact tupK (by k_asm) (by k_asm) (at318 _)); (case a => exact fmod_lo _ (by decide)); (case b => exact fmod_hi _ (by decide)); (case c => exact Int.lt_trans (fmod_hi _ (by decide)) (by decide)))); intro _ _))
local macro_rules | `(tactic| walk_at "binaryOp Add str str") => `(tactic| (k_here; k_dflt (refine r_add ?a ?b ?_; (case a => (first | omega | ((simp only [Array.size_append]); omega))); (case b => (first | omega | ((simp only [Array.size_append]); omega)))); intro _ _))

theorem clean_ok (w : World) {dp un : Nat} {gd : Option (List Code)} {cn : PySem.Str} {cs : Scope} {a : Addr} {ccd : Value} {cl : List (PySem.Str × Addr)} {outer : List Env} {A₀ : Around} {base h₀ : Heap} {L : Addr} {m : PySem.Str → Option Value} {s : Shared} {Q E : Value → Shared → Prop} {mean : ExcName → Option Value} {mg mb : PySem.Str → Option Value} {box few : Addr} {c : Int} {tc : Tok} {vs : List Value} {ns : List Int} {n1 n2 : Nat} {rest : List (Addr × Obj)}
  (B : Below A₀ base outer h₀) (F : Fr h₀ L s.heap m) (X : (Mine.hd.heap_39 w.params).In h₀) (N : News h₀ L s.heap ((box, W.listOf #[.ref few, .int c tc] n1) :: (few, W.listOf vs.toArray n2) :: rest)) (T : Top Mine.hd.view_39 (looseW Mine.hd.view_39 [Str.ofString "_twin_re_1"]) mean mg mb h₀) (hk : cs.kind = .function) (hd : dp + 8 < recursionLimit) (hu : un + 64 < cLine) (hne : few ≠ box) (hrest : ∀ p ∈ rest, p.1 ≠ box) (hi : IntsAre vs ns) (hns : 0 < ns.length) (hns' : ns.length ≤ 63) (hc : 0 ≤ c)
  (hret : ∀ x b mk t c' t' h' tk', CleanX x b mk → 0 ≤ c' → Fr h₀ L h' m → News h₀ L h' ((box, W.listOf #[.ref few, .int c' t'] n1) :: (few, W.listOf vs.toArray n2) :: rest) → Q (.str x t) { s with heap := h', toks := tk' }) :
  wpAny (model PySem.Challenge.rw_eh5007_01.row.prog w) (ktrTop dp un gd cn cs L a ccd cl outer) (call (.ref 368) [.ref box]) Q E s := by
  (w_top off; (have fillIt : PySem.Challenge.rw_eh5007_01 = PySem.Challenge.rw_eh5007_01 ∧ Mine.hd.heap_39 = Mine.hd.heap_39 := by (k_fill; exact ⟨rfl, rfl⟩)); clear fillIt)
  refine wpAny_call ?_
  k_dflt (refine' code_def ?k1 ?k2 ?k3 ?k4 ?k5 ?kA ?kF ?kK ?k6 ?k7 ?k8 ?k9 ?kB ?_ ?c2 ?c3 ?c4 ?c5; (case kA => exact rfl); (case kF => exact rfl); (case kK => assumption); (case k1 => k_asm); (case k2 => k_asm); (case k3 => k_asm); (case k4 => k_asm); (case k5 => k_asm); (case k6 => k_is); (case k7 => k_is); (case k8 => ktr_room); (case k9 => exact BindsTo.of_eq rfl); (case c5 => decide); (case kB => exact locs rfl); (case c2 => exact rfl); (case c3 => exact rfl); (case c4 => exact rfl); k_whole)
  intro gE LE hE FGE FE NE BE XE TE
  (try dsimp only)
  k_fold
  have go := Go.mk
  k_steps
  rename Fr _ _ _ _ => F4
  refine Halt.mk (For_turns F4 (h₀ := gE) ?_)
  k_steps
  rename Fr _ _ _ _ => F5
  rename News _ _ _ _ => N5
  refine Halt.mk (forR (h₀ := gE) (CleanJ box few vs n1 n2 rest) ⟨_, _, rfl⟩ rfl F5 N5 (by omega) (by omega) ?_ ?_ ?_)
  · refine ⟨Str.ofString "", _, _, _, by with_unfolding_all first | rfl | assumption, by with_unfolding_all first | rfl | assumption, by rw [cps_empty]; exact CleanT.zero, ?_, rfl⟩
    omega
  · clear F5 N5
    rintro i tt m₁ news₁ h₁ tk₁ own hin ⟨x, c2, tx, tc2, hk1, hk2, hC, hc2, rfl⟩ hap F2 N2
    have hCs := hC.size
    obtain ⟨tl, htl⟩ : ∃ tl, tl = rest ++ own := ⟨_, rfl⟩
    have N3 : News gE LE h₁ ((box, W.listOf #[.ref few, .int c2 tc2] n1) :: (few, W.listOf vs.toArray n2) :: tl) := by rw [htl]; exact N2
    have hrest2 : ∀ p ∈ tl, p.1 ≠ box := by
      intro p hp
      rw [htl] at hp
      rcases List.mem_append.mp hp with hp | hp
      · exact hrest p hp
      · exact fun e => hap _ (.head _) p hp e.symm
    have hi7 : i ≤ 7 := by omega
    clear N2
    k_steps
    rename News _ _ _ _ => N9
    refine ⟨_, _, _, _, rfl, by assumption, box_news (dropA (dropA N9)) htl, box_ap hap, ⟨_, _, _, _, (by with_unfolding_all first | rfl | assumption), (by with_unfolding_all first | rfl | assumption), clean_step hC hi7 (by omega) (by omega) (by omega), ?_, rfl⟩⟩
    omega
  · rintro h' tk' m' news' F' N' ⟨x, c2, tx, tc2, hk1, hk2, hC, hc2, rfl⟩
    have hCs := hC.size
    k_steps
    rename News _ _ _ _ => N9
    have key : ∀ a, a < 4 → ∃ b mk, CleanX ⟨x.cps ++ (mks.getD a PySem.Str.empty).cps⟩ b mk := fun a ha => CleanT.done hC (by omega) (by omega) (mks_last a ha)
    refine (key _ ?ha).elim fun b hb => hb.elim fun mk hX => hret _ b mk _ (c2 + 1) _ _ _ hX (by omega) (by assumption) (dropA N9)
    omega

theorem text_ok (w : World) {dp un : Nat} {gd : Option (List Code)} {cn : PySem.Str} {cs : Scope} {a : Addr} {ccd : Value} {cl : List (PySem.Str × Addr)} {outer : List Env} {A₀ : Around} {base h₀ : Heap} {L : Addr} {m : PySem.Str → Option Value} {s : Shared} {Q E : Value → Shared → Prop} {mean : ExcName → Option Value} {mg mb : PySem.Str → Option Value} {box few : Addr} {c : Int} {tc : Tok} {vs : List Value} {ns : List Int} {n1 n2 : Nat} {rest : List (Addr × Obj)}
  (B : Below A₀ base outer h₀) (F : Fr h₀ L s.heap m) (X : (Mine.hd.heap_39 w.params).In h₀) (N : News h₀ L s.heap ((box, W.listOf #[.ref few, .int c tc] n1) :: (few, W.listOf vs.toArray n2) :: rest)) (T : Top Mine.hd.view_39 (looseW Mine.hd.view_39 [Str.ofString "_twin_re_1"]) mean mg mb h₀) (hk : cs.kind = .function) (hd : dp + 8 < recursionLimit) (hu : un + 64 < cLine) (hne : few ≠ box) (hrest : ∀ p ∈ rest, p.1 ≠ box) (hi : IntsAre vs ns) (hns : 0 < ns.length) (hns' : ns.length ≤ 63) (hc : 0 ≤ c)
  (hret : ∀ x b mk t c' t' h' tk', Split x b mk → x.cps.size ≤ 100 → Fine b.cps → nLet b.cps.toList ≤ 7 → 0 ≤ c' → Fr h₀ L h' m → News h₀ L h' ((box, W.listOf #[.ref few, .int c' t'] n1) :: (few, W.listOf vs.toArray n2) :: rest) → Q (.str x t) { s with heap := h', toks := tk' }) :
  wpAny (model PySem.Challenge.rw_eh5007_01.row.prog w) (ktrTop dp un gd cn cs L a ccd cl outer) (call (.ref 375) [.ref box]) Q E s := by
  (w_top off; (have fillIt : PySem.Challenge.rw_eh5007_01 = PySem.Challenge.rw_eh5007_01 ∧ Mine.hd.heap_39 = Mine.hd.heap_39 := by (k_fill; exact ⟨rfl, rfl⟩)); clear fillIt)
  refine wpAny_call ?_
  k_dflt (refine' code_def ?k1 ?k2 ?k3 ?k4 ?k5 ?kA ?kF ?kK ?k6 ?k7 ?k8 ?k9 ?kB ?_ ?c2 ?c3 ?c4 ?c5; (case kA => exact rfl); (case kF => exact rfl); (case kK => assumption); (case k1 => k_asm); (case k2 => k_asm); (case k3 => k_asm); (case k4 => k_asm); (case k5 => k_asm); (case k6 => k_is); (case k7 => k_is); (case k8 => ktr_room); (case k9 => exact BindsTo.of_eq rfl); (case c5 => decide); (case kB => exact locs rfl); (case c2 => exact rfl); (case c3 => exact rfl); (case c4 => exact rfl); k_whole)
  intro gE LE hE FGE FE NE BE XE TE
  (try dsimp only)
  k_fold
  have go := Go.mk
  k_steps
  rename Fr _ _ _ _ => F4
  refine Halt.mk (For_turns F4 (h₀ := gE) ?_)
  k_steps
  rename Fr _ _ _ _ => F5
  rename News _ _ _ _ => N5
  refine Halt.mk (forR (h₀ := gE) (TextJ box few vs n1 n2 rest) ⟨_, _, rfl⟩ rfl F5 N5 (by omega) (by omega) ?_ ?_ ?_)
  · refine ⟨Str.ofString "", _, _, _, by with_unfolding_all first | rfl | assumption, by with_unfolding_all first | rfl | assumption, by rw [cps_empty]; exact TextT.zero, ?_, rfl⟩
    omega
  · clear F5 N5 go
    rintro i tt m₁ news₁ h₁ tk₁ own hin ⟨x, c2, tx, tc2, hk1, hk2, hC, hc2, rfl⟩ hap F2 N2
    have hCs := hC.size
    obtain ⟨tl, htl⟩ : ∃ tl, tl = rest ++ own := ⟨_, rfl⟩
    have N3 : News gE LE h₁ ((box, W.listOf #[.ref few, .int c2 tc2] n1) :: (few, W.listOf vs.toArray n2) :: tl) := by rw [htl]; exact N2
    have hrest2 : ∀ p ∈ tl, p.1 ≠ box := by
      intro p hp
      rw [htl] at hp
      rcases List.mem_append.mp hp with hp | hp
      · exact hrest p hp
      · exact fun e => hap _ (.head _) p hp e.symm
    have hi7 : i ≤ 7 := by omega
    clear N2
    k_steps
    refine Halt.mk ?_
    (k_dflt (refine' draw_g _ ?B ?F ?X ?N ?U ?hf ?T rfl ?hi ?hns ?hns2 ?hc ?hl ?hd ?hu ?_; (case B => k_asm); (case F => k_asm); (case X => k_asm); (case N => k_asm); (case U => k_updF); (case hf => k_mem); (case T => k_asm); (case hi => assumption); (case hns => assumption); (case hns2 => assumption); (case hc => omega); (case hl => omega); (case hd => first | omega | ktr_room); (case hu => first | omega | ktr_units); k_whole))
    intro v t9 t8 h9 tk9 g0 g1 F9 N9
    try k_sweep
    try clear N3
    k_steps
    refine Halt.mk (cutF (g := gE) (L := LE) (fun m' nw => ∃ o c4 tc4 to tx, m' (Str.ofString "one") = some (.str o to) ∧ m' (Str.ofString "text") = some (.str x tx) ∧ m' (Str.ofString "box") = some (.ref box) ∧ OneOk o ∧ 0 ≤ c4 ∧ nw = (box, W.listOf #[.ref few, .int c4 tc4] n1) :: (few, W.listOf vs.toArray n2) :: tl) ?_ ?_)
    · have go := Go.mk
      by_cases hv : 16 ≤ v
      · have hv1 : decide (16 ≤ v) = true := decide_eq_true hv
        have hv2 : decide (v ≥ 16) = true := decide_eq_true hv
        have hv3 : decide (v < 16) = false := decide_eq_false (by omega)
        k_steps
        rename News _ _ _ _ => N8
        refine PostF.intro (by assumption) N8 ⟨_, _, _, _, _, (by with_unfolding_all first | rfl | assumption), (by with_unfolding_all first | rfl | assumption), (by with_unfolding_all first | rfl | assumption), bads_ok _ ?_, ?_, rfl⟩
        · exact tnf (by decide) rfl
        · omega
      · have hv1 : decide (16 ≤ v) = false := decide_eq_false hv
        have hv2 : decide (v ≥ 16) = false := decide_eq_false hv
        have hv3 : decide (v < 16) = true := decide_eq_true (by omega)
        k_steps
        rename News _ _ _ _ => N8
        refine PostF.intro (by assumption) N8 ⟨_, _, _, _, _, (by with_unfolding_all first | rfl | assumption), (by with_unfolding_all first | rfl | assumption), (by with_unfolding_all first | rfl | assumption), goods_ok _ ?_, ?_, rfl⟩
        · exact tnf (by decide) rfl
        · omega
    try clear F9 N9
    intro h3 tk3 m3 nw3 F3 N3 hJ3
    obtain ⟨o, c4, tc4, to, tx4, hk3, hk1, hk2, ho, hc4, rfl⟩ := hJ3
    have go := Go.mk
    have hos := ho.2
    have hos4 := hos.1
    rcases ho.1 with ho1 | rfl
    · have hne : (o == Str.ofString "12") = false := one_ne12 ho1
      k_steps
      rename News _ _ _ _ => N9
      refine ⟨_, _, _, _, rfl, by assumption, box_news N9 htl, box_ap hap, ⟨_, _, _, _, (by with_unfolding_all first | rfl | assumption), (by with_unfolding_all first | rfl | assumption), TextT.app hC ho1 hos, by omega, rfl⟩⟩
    · have hne : (bads.getD 5 PySem.Str.empty == Str.ofString "12") = true := by decide +kernel
      by_cases h0 : 0 < x.cps.size
      · have hxe : (x != Str.ofString "") = true := by rw [ne_empty]; exact decide_eq_true h0
        cases hd9 : isDig (x.cps.getD (x.cps.size - 1) 0) with
        | true =>
          k_steps
          rename News _ _ _ _ => N9
          refine ⟨_, _, _, _, rfl, by assumption, box_news N9 htl, box_ap hap, ⟨_, _, _, _, (by with_unfolding_all first | rfl | assumption), (by with_unfolding_all first | rfl | assumption), TextT.app hC (by decide +kernel : stepOk (Str.ofString "-").cps.toList = true) (by decide +kernel), by omega, rfl⟩⟩
        | false =>
          k_steps
          rename News _ _ _ _ => N9
          refine ⟨_, _, _, _, rfl, by assumption, box_news N9 htl, box_ap hap, ⟨_, _, _, _, (by with_unfolding_all first | rfl | assumption), (by with_unfolding_all first | rfl | assumption), TextT.app12 hC (.inr hd9), by omega, rfl⟩⟩
      · have hxe : (x != Str.ofString "") = false := by rw [ne_empty]; exact decide_eq_false h0
        k_steps
        rename News _ _ _ _ => N9
        refine ⟨_, _, _, _, rfl, by assumption, box_news N9 htl, box_ap hap, ⟨_, _, _, _, (by with_unfolding_all first | rfl | assumption), (by with_unfolding_all first | rfl | assumption), TextT.app12 hC (.inl (by omega)), by omega, rfl⟩⟩
  · rintro h' tk' m' news' F' N' ⟨x, c2, tx, tc2, hk1, hk2, hC, hc2, rfl⟩
    have hCs := hC.size
    k_steps
    rename News _ _ _ _ => N9
    obtain ⟨b, mk, hX, hF, hl⟩ := hC.ok.split (by omega)
    have hl2 := hC.lets
    exact hret _ b mk _ c2 _ _ _ hX (by omega) hF (by omega) hc2 (by assumption) N9
end Mine
end
section
open PySem PySem.W PyProof.Rows
set_option maxRecDepth 100000
set_option maxHeartbeats 8000000
namespace Mine
local macro_rules | `(tactic| k_all) => `(tactic| assumption)
local macro_rules | `(tactic| k_room) => `(tactic| ktr_room)
local macro_rules | `(tactic| walk_at "call builtin:list.append") => `(tactic| (k_here; (with_reducible show wpAny _ _ (call (Value.builtin _) [Value.ref _, _]) _ _ _); k_dflt (refine' append_K ?k1 ?k2 ?k3 ?_ ?z; (case k1 => k_asm); (case k2 => k_asm); (case k3 => k_upd); (case z => (have hz9 := size_line; simp only [List.size_toArray]; omega)); k_whole); intro h9 F9 N9; (try k_sweep)))
local macro_rules | `(tactic| walk_at "call type:int") => `(tactic| (k_here; (with_reducible show wpAny _ _ (call (Value.type "int") [Value.str _ _]) _ _ _); k_dflt (refine' KIN.call_text ?a ?b ?_; (case a => assumption); (case b => (simp only [PySem.Str.length, Array.size_extract]; omega)))))
local macro_rules | `(tactic| walk_at "binaryOp Add str str") => `(tactic| (k_here; k_dflt (refine r_add ?a ?b ?_; (case a => (first | omega | ((simp only [Array.size_extract]); omega) | (show 1 ≤ 1000; decide))); (case b => (first | omega | (show 1 ≤ 1000; decide) | ((simp only [Array.size_extract]); omega)))); intro _ _))
local macro_rules | `(tactic| walk_at "newTuple") => `(tactic| (k_here; k_dflt (refine r_newTuple ?a ?b ?_ ?c; (case a => k_asm); (case b => k_asm); (case c => decide); k_whole); intro a9 h9 F9 N9 l9; (try k_lt l9); (try k_sweep)))
local macro_rules | `(tactic| k_steps) => `(tactic| repeat' ((fail_if_success (with_reducible show Halt _)); first | (k_unfold; (try dsimp only)) | (k_end; kc_close) | walk1 | (dsimp only; walk1) | (leave1; walk_say "STEP leave1"; (try dsimp only)) | fail "no step"))
local macro_rules | `(tactic| walk_at "eval Name") => `(tactic| (k_here; k_dflt (refine' nameX_L ?F ?v ?_ ?a ?b; (case F => k_asm); (case a => rfl); (case b => rfl); (case v => first | rfl | assumption); k_whole)))
local macro_rules | `(tactic| walk_at "subscriptTail Name Name str int") => `(tactic| (k_here; k_dflt (refine r_item ?a ?b ?c ?_; (case a => omega); (case b => omega); (case c => omega))))
local macro_rules | `(tactic| walk_at "compareOp In str str") => `(tactic| (k_here; k_dflt (first | with_reducible refine r_in mem_marks ?_ | with_reducible refine r_in mem_marks' ?_ | with_reducible refine r_in mem_pads ?_ | with_reducible refine r_in mem_digs ?_ | with_reducible refine r_in mem_sps ?_ | with_reducible refine r_in mem_lets ?_ | with_reducible refine r_in mem_ub ?_ | with_reducible refine r_in mem_vals ?_)))
local macro_rules | `(tactic| walk_at "compareOp NotIn str str") => `(tactic| (k_here; k_dflt (first | with_reducible refine r_notIn mem_lets ?_ | with_reducible refine r_notIn mem_pads ?_ | with_reducible refine r_notIn mem_vals ?_)))
local macro_rules | `(tactic| walk_at "call builtin:len") => `(tactic| (k_here; (with_reducible show wpAny _ _ (call (Value.builtin "len") [Value.str _ _]) _ _ _); k_dflt (refine r_len ?a ?_; (case a => omega))))
local macro_rules | `(tactic| walk_at "subscriptTail Name UnaryOp str int") => `(tactic| (k_here; k_dflt (refine r_last ?a ?_; (case a => omega))))
local macro_rules | `(tactic| walk_at "subscriptTail Name Slice str ref") => `(tactic| ((with_reducible show wpAny _ _ (subscriptTail _ (Expr.Slice none (some _) none _) _ _) _ _ _); (with_reducible rename Fr _ _ _ _ => F'); (with_reducible rename News _ _ _ _ => N'); k_dflt (refine r_init (s := ⟨_, _, _, _, _⟩) F' N' ?a ?b ?_; (case a => omega); (case b => omega)); intro _ _ _ _ _))

local macro_rules | `(tactic| walk_at "call builtin:len") => `(tactic| (k_here; (with_reducible show wpAny _ _ (call (Value.builtin "len") [Value.ref _]) _ _ _); k_dflt (refine' r_lenSeq ?N ?a ?b ?c ?_; (case N => k_asm); (case a => first | assumption | exact SeqIn.tl (by assumption) | exact SeqIn.tl (SeqIn.tl (by assumption)) | exact SeqIn.tl (SeqIn.tl (SeqIn.tl (by assumption)))); (case b => assumption); (case c => assumption)); intro _ _))
local macro_rules | `(tactic| walk_at "subscriptTail Name Name ref int") => `(tactic| (k_here; k_dflt (refine' r_itemSeq ?N ?a ?b ?c ?d ?e ?_; (case N => k_asm); (case a => first | assumption | exact SeqIn.tl (by assumption) | exact SeqIn.tl (SeqIn.tl (by assumption)) | exact SeqIn.tl (SeqIn.tl (SeqIn.tl (by assumption)))); (case b => assumption); (case c => omega); (case d => omega); (case e => assumption)); intro _))
local macro_rules | `(tactic| walk_at "exec For Tuple Name cons nil") => `(tactic| refine Halt.out ?_)
local macro_rules | `(tactic| walk_at "pyIter ref") => `(tactic| refine Halt.out ?_)
def ParseJ (P : Params) (T : Array Nat) (cc cw : PySem.Str) (tc tw tb to : Tok) (b bo : PySem.Str) (names : Option (List PySem.Str)) (gs : List Spot) (nv : Value) (nw : List (Addr × Obj)) (i : Nat) (m₁ : PySem.Str → Option Value) (news₁ : List (Addr × Obj)) : Prop :=
  ∃ O p o its vs led n tp te, m₁ (Str.ofString "infos") = some (.ref O) ∧ m₁ (Str.ofString "i") = some (.int ((p : Nat) : Int) tp) ∧ m₁ (Str.ofString "endianness") = some (.str (one o) te) ∧ m₁ (Str.ofString "names") = some nv ∧
    m₁ (Str.ofString "text_encoding") = some (.str cc tc) ∧ m₁ (Str.ofString "text_errors") = some (.str cw tw) ∧ m₁ (Str.ofString "fmt") = some (.str b tb) ∧ m₁ (Str.ofString "byte_order") = some (.str bo to) ∧
    due names 0 (rowsOf T 62 gs) = (due names p (rowsOf T o (gs.drop i))).pre its ∧ InfosIn P cc cw led vs its ∧ vs.length = i ∧ news₁ = (O, W.listOf vs.toArray n) :: (led ++ nw) ∧ (∀ p ∈ led ++ nw, p.1 ≠ O) ∧ (∀ q ∈ led, ∀ p ∈ nw, p.1 < q.1) ∧ (∀ p ∈ nw, p.1 < O) ∧ p ≤ i
theorem RaisedS.sub {base G : Heap} {l : List Env} {e t : Addr} {cls : Value} {vs : List Value} {news news' : List (Addr × Obj)} {h : Heap} (R : RaisedS base G l e cls t vs news h) (hs : ∀ q ∈ news', q ∈ news) : RaisedS base G l e cls t vs news' h := by
  obtain ⟨⟨B, hB, hG, hl, hfl, hnew⟩, htup⟩ := R
  exact ⟨⟨B, hB, hG, fun q hq => hl q (hs q hq), hfl, hnew⟩, htup⟩
theorem RaisedSN.sub {base G : Heap} {l : List Env} {e : Addr} {cls : Value} {news news' : List (Addr × Obj)} {h : Heap} (R : RaisedSN base G l e cls news h) (hs : ∀ q ∈ news', q ∈ news) : RaisedSN base G l e cls news' h := by
  obtain ⟨B, a0, hB, hG, hl, hfl⟩ := R
  exact ⟨B, a0, hB, hG, fun q hq => hl q (hs q hq), hfl⟩
theorem len_cps (a : PySem.Str) : a.length = a.cps.size := rfl
theorem str_len_app (a b : PySem.Str) : (a ++ b).length = a.length + b.length := Array.size_append
theorem len_bf : (Str.ofString "bad format '").cps.size ≤ 100 := by decide +kernel
theorem len_bc : (Str.ofString "bad char '").cps.size ≤ 100 := by decide +kernel
theorem len_q : (Str.ofString "'").cps.size ≤ 100 := by decide +kernel
theorem len_inf : (Str.ofString "' in format").cps.size ≤ 100 := by decide +kernel
theorem len_e : (Str.empty).cps.size ≤ 100 := by decide +kernel
structure Out : Prop where
def nmOf (names : Option (List PySem.Str)) (p : Nat) : NameV := match names with
  | none => .int p
  | some ws => .str (ws.getD p PySem.Str.empty)
theorem parse_step {g h : Heap} {L x d O : Addr} {ox od : Obj} {vs : List Value} {k : Nat} {led nw own tl : List (Addr × Obj)} (htl : tl = led ++ nw ++ own) (N : News g L h ((x, ox) :: (d, od) :: (O, W.listOf (vs.toArray.push (Value.ref x)) k) :: tl)) :
    News g L h (((O, W.listOf (vs ++ [Value.ref x]).toArray k) :: (((x, ox) :: (d, od) :: led) ++ nw)) ++ own) := by
  rw [List.push_toArray, htl] at N
  refine News.perm N fun p hp => ?_
  simp only [List.mem_cons, List.mem_append, List.cons_append] at hp ⊢
  rcases hp with h | h | h | (h | h) | h
  · exact .inr (.inr (.inl h))
  · exact .inl h
  · exact .inr (.inl h)
  · exact .inr (.inr (.inr (.inl (.inl h))))
  · exact .inr (.inr (.inr (.inl (.inr h))))
  · exact .inr (.inr (.inr (.inr h)))
theorem parse_ap {x d O R : Addr} {ox od w y : Obj} {led nw own tl : List (Addr × Obj)} (hap : ∀ p ∈ (O, w) :: (led ++ nw), ∀ q ∈ own, q.1 = R ∨ p.1 ≠ q.1) (htl : tl = led ++ nw ++ own) (l : AllLt d tl) (l2 : d < x) :
    ∀ p ∈ (O, y) :: (((x, ox) :: (d, od) :: led) ++ nw), ∀ q ∈ own, q.1 = R ∨ p.1 ≠ q.1 := by
  intro p hp q hq
  have hqd : q.1 < d := allLt_mem l q (by rw [htl]; simp [hq])
  simp only [List.mem_cons, List.mem_append, List.cons_append] at hp
  rcases hp with rfl | rfl | rfl | h
  · exact hap (O, w) (.head _) q hq
  · exact .inr (Nat.ne_of_gt (Nat.lt_trans hqd l2))
  · exact .inr (Nat.ne_of_gt hqd)
  · exact hap p (.tail _ (List.mem_append.mpr h)) q hq
theorem parse_off {x d O : Addr} {ox od : Obj} {led nw : List (Addr × Obj)} (hoff : ∀ p ∈ led ++ nw, p.1 ≠ O) (l : O < d) (l2 : d < x) : ∀ p ∈ ((x, ox) :: (d, od) :: led) ++ nw, p.1 ≠ O := by
  intro p hp
  simp only [List.cons_append, List.mem_cons] at hp
  rcases hp with rfl | rfl | h
  · exact Nat.ne_of_gt (Nat.lt_trans l l2)
  · exact Nat.ne_of_gt l
  · exact hoff p h
theorem parse_fr {x d : Addr} {ox od : Obj} {led nw own tl : List (Addr × Obj)} (hfr : ∀ q ∈ led, ∀ p ∈ nw, p.1 < q.1) (htl : tl = led ++ nw ++ own) (l : AllLt d tl) (l2 : d < x) : ∀ q ∈ (x, ox) :: (d, od) :: led, ∀ p ∈ nw, p.1 < q.1 := by
  intro q hq p hp
  have hpd : p.1 < d := allLt_mem l p (by rw [htl]; simp [hp])
  rcases List.mem_cons.mp hq with rfl | hq
  · exact Nat.lt_trans hpd l2
  rcases List.mem_cons.mp hq with rfl | hq
  · exact hpd
  · exact hfr q hq p hp
theorem loadX_L {M : Model} {A : Around} {E : Value → Shared → Prop} {s : Shared} {h₀ : Heap} {L a : Addr} {m : PySem.Str → Option Value} {cn : PySem.Str} {cs : Scope} {ccd : Value} {cl : List (PySem.Str × Addr)} {x : PySem.Str} {v : Value} {Q : Value → Shared → Prop} (F : Fr h₀ L s.heap m) (hv : m x = some v) (h : Q v s) (hk : cs.kind = .function) (hx : (envX cn cs L a ccd cl).kindOf x = some .local) :
    wpAny M A (loadName (envX cn cs L a ccd cl) x) Q E s := wpAny_loadName_local hk hx F.ns hv h
theorem cps_app (a b : PySem.Str) : (a ++ b).cps.size = a.cps.size + b.cps.size := Array.size_append
theorem one_size (c : Nat) : (one c).cps.size = 1 := rfl
local macro_rules | `(tactic| walk_at "loadName") => `(tactic| (k_here; k_dflt (refine' loadX_L ?F ?v ?_ ?a ?b; (case F => k_asm); (case a => rfl); (case b => rfl); (case v => first | rfl | assumption); k_whole)))
local macro_rules | `(tactic| walk_at "getMethod ref") => `(tactic| (k_here; k_dflt (refine getMethod_findall (Frag.In.keeps (by assumption) (Fr.keep (by assumption)) _ _ (at43 _)) rfl rfl ?_)))
local macro_rules | `(tactic| walk_at "call builtin:re.Pattern.findall") => `(tactic| refine Halt.out ?_)
local macro_rules | `(tactic| walk_at "exec If") => `(tactic| ((fail_if_success (rename Go => gg)); (with_reducible show wpAny _ _ (exec (Stmt.If (Expr.BoolOp BoolOp.And _ _) _ _ _) _) _ _ _); refine Halt.out ?_))
local macro_rules | `(tactic| walk_at "exec For Name Name cons nil") => `(tactic| refine Halt.out ?_)
local macro_rules | `(tactic| walk_at "exec If") => `(tactic| ((fail_if_success (rename Go => gg)); (with_reducible show wpAny _ _ (exec (Stmt.If (Expr.Compare (Expr.Subscript _ _ _) _ _ _) _ _ _) _) _ _ _); refine Halt.out ?_))
local macro_rules | `(tactic| walk_at "exec If") => `(tactic| ((fail_if_success (rename Go => gg)); (with_reducible show wpAny _ _ (exec (Stmt.If (Expr.Compare _ (CmpOp.Is :: _) _ _) _ _ _) _) _ _ _); refine Halt.out ?_))
local macro_rules | `(tactic| walk_at "subscriptTail Name Constant ref int") => `(tactic| (k_here; k_dflt (refine' item_tupleT ?t ?a ?b ?c ?d ?_; (case t => first | assumption | exact News.isTup (by k_asm) (List.Mem.tail _ (by assumption))); (case a => decide); (case b => decide); (case c => rfl); (case d => rfl))))
local macro_rules | `(tactic| walk_at "subscriptTail Name Name ref int") => `(tactic| ((rename Out => oo); refine Halt.out ?_))
local macro_rules | `(tactic| walk_at "compareOp Eq str str") => `(tactic| (k_here; k_dflt (first | with_reducible refine r_eq lit_s ?_ | with_reducible refine r_eq lit_u ?_ | with_reducible refine r_eq lit_f ?_ | with_reducible refine r_eq lit_b ?_ | with_reducible refine r_eq lit_t ?_ | with_reducible refine r_eq lit_r ?_ | with_reducible refine r_eq lit_p ?_ | with_reducible refine r_eq lit_P ?_)))
local macro_rules | `(tactic| walk_at "formatField str") => `(tactic| (k_here; k_dflt (refine PyProof.Rows.formatField_str ?_ ?z; (case z => (have hz9 := size_line; first | (simp only [PySem.Str.length, Array.size_append]; omega) | (show 1 ≤ sizeLine; omega)))); intro _ _))
local macro_rules | `(tactic| kt_le) => `(tactic| size_fits)
local macro_rules | `(tactic| size_fits) => `(tactic| (have hz9 := size_line; have q1 := len_bf; have q2 := len_bc; have q3 := len_q; have q4 := len_inf; have q5 := len_e; (try simp only [len_cps, cps_app, one_size, Array.size_append, List.length_nil]); omega))
local macro_rules | `(tactic| walk_at "call ref") => `(tactic| (k_here; (with_reducible show wpAny _ _ (call (Value.ref 111) _) _ _ _); k_dflt (refine' mk_s _ ?B ?F ?X ?N ?T rfl ?h1 ?h2 ?hd ?hu ?_; (case B => k_asm); (case F => k_asm); (case X => k_asm); (case N => k_asm); (case T => k_asm); (case h1 => omega); (case h2 => omega); (case hd => first | omega | ktr_room); (case hu => first | omega | ktr_units); k_whole); intro x9 d9 _ _ _ _ _ _ _ h9 tk9 F9 N9 l9 l8; (try k_lt l9); (try k_lt2 l8); (try k_sweep)))
local macro_rules | `(tactic| walk_at "call ref") => `(tactic| (k_here; (with_reducible show wpAny _ _ (call (Value.ref 146) _) _ _ _); k_dflt (refine' mk_u _ ?B ?F ?X ?N ?T rfl ?h1 ?h2 ?hd ?hu ?_; (case B => k_asm); (case F => k_asm); (case X => k_asm); (case N => k_asm); (case T => k_asm); (case h1 => omega); (case h2 => omega); (case hd => first | omega | ktr_room); (case hu => first | omega | ktr_units); k_whole); intro x9 d9 _ _ _ _ _ h9 tk9 F9 N9 l9 l8; (try k_lt l9); (try k_lt2 l8); (try k_sweep)))
local macro_rules | `(tactic| walk_at "call ref") => `(tactic| (k_here; (with_reducible show wpAny _ _ (call (Value.ref 172) _) _ _ _); k_dflt (refine' mk_b _ ?B ?F ?X ?N ?T rfl ?h1 ?h2 ?hd ?hu ?_; (case B => k_asm); (case F => k_asm); (case X => k_asm); (case N => k_asm); (case T => k_asm); (case h1 => omega); (case h2 => omega); (case hd => first | omega | ktr_room); (case hu => first | omega | ktr_units); k_whole); intro x9 d9 _ _ _ _ _ h9 tk9 F9 N9 l9 l8; (try k_lt l9); (try k_lt2 l8); (try k_sweep)))
local macro_rules | `(tactic| walk_at "call ref") => `(tactic| (k_here; (with_reducible show wpAny _ _ (call (Value.ref 198) _) _ _ _); k_dflt (refine' mk_f _ ?B ?F ?X ?N ?T rfl ?h1 ?h2 ?hd ?hu ?_; (case B => k_asm); (case F => k_asm); (case X => k_asm); (case N => k_asm); (case T => k_asm); (case h1 => omega); (case h2 => omega); (case hd => first | omega | ktr_room); (case hu => first | omega | ktr_units); k_whole); intro x9 d9 _ _ _ h9 tk9 F9 N9 l9 l8; (try k_lt l9); (try k_lt2 l8); (try k_sweep)))
local macro_rules | `(tactic| walk_at "call ref") => `(tactic| (k_here; (with_reducible show wpAny _ _ (call (Value.ref 224) _) _ _ _); k_dflt (refine' mk_r _ ?B ?F ?X ?N ?T rfl ?h1 ?h2 ?hd ?hu ?_; (case B => k_asm); (case F => k_asm); (case X => k_asm); (case N => k_asm); (case T => k_asm); (case h1 => omega); (case h2 => omega); (case hd => first | omega | ktr_room); (case hu => first | omega | ktr_units); k_whole); intro x9 d9 _ _ _ h9 tk9 F9 N9 l9 l8; (try k_lt l9); (try k_lt2 l8); (try k_sweep)))
local macro_rules | `(tactic| walk_at "call ref") => `(tactic| (k_here; (with_reducible show wpAny _ _ (call (Value.ref 255) _) _ _ _); k_dflt (refine' mk_p _ ?B ?F ?X ?N ?T rfl ?h1 ?h2 ?hd ?hu ?_; (case B => k_asm); (case F => k_asm); (case X => k_asm); (case N => k_asm); (case T => k_asm); (case h1 => omega); (case h2 => omega); (case hd => first | omega | ktr_room); (case hu => first | omega | ktr_units); k_whole); intro x9 d9 _ _ _ h9 tk9 F9 N9 l9 l8; (try k_lt l9); (try k_lt2 l8); (try k_sweep)))
local macro_rules | `(tactic| walk_at "call ref") => `(tactic| (k_here; (with_reducible show wpAny _ _ (call (Value.ref 274) _) _ _ _); k_dflt (refine' mk_P _ ?B ?F ?X ?N ?T rfl ?h1 ?h2 ?hd ?hu ?_; (case B => k_asm); (case F => k_asm); (case X => k_asm); (case N => k_asm); (case T => k_asm); (case h1 => omega); (case h2 => omega); (case hd => first | omega | ktr_room); (case hu => first | omega | ktr_units); k_whole); intro x9 d9 _ _ _ h9 tk9 F9 N9 l9 l8; (try k_lt l9); (try k_lt2 l8); (try k_sweep)))
local macro_rules | `(tactic| walk_at "call ref") => `(tactic| (k_here; (with_reducible show wpAny _ _ (call (Value.ref 309) _) _ _ _); k_dflt (refine' mk_t _ ?B ?F ?X ?N ?T rfl ?h1 ?h2 ?hd ?hu ?_; (case B => k_asm); (case F => k_asm); (case X => k_asm); (case N => k_asm); (case T => k_asm); (case h1 => omega); (case h2 => omega); (case hd => first | omega | ktr_room); (case hu => first | omega | ktr_units); k_whole); intro x9 d9 _ _ _ _ _ h9 tk9 F9 N9 l9 l8; (try k_lt l9); (try k_lt2 l8); (try k_sweep)))
local macro_rules | `(tactic| walk_at "eval ListComp") => `(tactic| refine Halt.out ?_)
local macro_rules | `(tactic| walk_at "truthy str") => `(tactic| (k_here; k_dflt (refine r_truthy ?a ?_; (case a => first | assumption | omega)); intro _))
local macro_rules | `(tactic| walk_at "call builtin:str.join") => `(tactic| (k_here; (with_reducible show wpAny _ _ (call (Value.builtin _) [Value.str _ _, Value.ref _]) _ _ _); k_dflt (refine' join_tuple ?a ?b ?c ?_; (case a => assumption); (case b => exact .cons _ _ (.cons _ _ (.cons _ _ (.cons _ _ .nil)))); (case c => (simp only [List.map_cons, List.map_nil, List.sum_cons, List.sum_nil, List.length_cons, List.length_nil, PySem.Str.length, Array.size_extract]; omega))); intro _ _))

theorem parse_ok (w : World) {dp un : Nat} {gd : Option (List Code)} {cn : PySem.Str} {cs : Scope} {a : Addr} {ccd : Value} {cl : List (PySem.Str × Addr)} {outer : List Env} {A₀ : Around} {base h₀ : Heap} {L : Addr} {m : PySem.Str → Option Value} {s : Shared} {Q E : Value → Shared → Prop} {mean : ExcName → Option Value} {mg mb : PySem.Str → Option Value} {x b cc cw : PySem.Str} {mk : Nat} {tx tc tw : Tok} {nv : Value} {names : Option (List PySem.Str)} {D : DueR} {news : List (Addr × Obj)}
  (B : Below A₀ base outer h₀) (F : Fr h₀ L s.heap m) (X : (Mine.hd.heap_39 w.params).In h₀) (N : News h₀ L s.heap news) (T : Top Mine.hd.view_39 (looseW Mine.hd.view_39 [Str.ofString "_twin_re_1"]) mean mg mb h₀) (hk : cs.kind = .function) (hd : dp + 16 < recursionLimit) (hu : un + 128 < cLine) (hx : Split x b mk) (hxs : x.cps.size ≤ 100) (hF : Fine b.cps) (hnm : NamesIn news nv names) (hD : PRes b names D) (hlist : D = .idx → ∃ a vs n ws, nv = .ref a ∧ names = some ws ∧ StrsAre vs ws ∧ (a, W.listOf vs.toArray n) ∈ news)
  (hret : ∀ r O vs T' t n its h' tk', D = .ok its → InfosIn w.params cc cw T' vs its → (O, W.listOf vs.toArray n) ∈ T' → Fr h₀ L h' m → News h₀ L h' ((r, tupObj [.ref O, .str (one mk) t]) :: (T' ++ news)) → (∀ q ∈ T', ∀ p ∈ news, p.1 < q.1) → Q (.ref r) { s with heap := h', toks := tk' })
  (hE1 : ∀ e t vs g h' tk', D = .err → Fr h₀ L g m → RaisedS base g (envX cn cs L a ccd cl :: outer) e (.ref 53) t vs news h' → g.UpToSlots h' → E (.ref e) { s with heap := h', toks := tk' })
  (hE2 : ∀ e g h' tk', D = .idx → Fr h₀ L g m → RaisedSN base g (envX cn cs L a ccd cl :: outer) e (.type "IndexError") news h' → g.UpToSlots h' → E (.ref e) { s with heap := h', toks := tk' }) :
  wpAny (model PySem.Challenge.rw_eh5007_01.row.prog w) (ktrTop dp un gd cn cs L a ccd cl outer) (call (.ref 316) [.str x tx, nv, .str cc tc, .str cw tw]) Q E s := by
  (w_top off; (have fillIt : PySem.Challenge.rw_eh5007_01 = PySem.Challenge.rw_eh5007_01 ∧ Mine.hd.heap_39 = Mine.hd.heap_39 := by (k_fill; exact ⟨rfl, rfl⟩)); clear fillIt)
  refine wpAny_call ?_
  k_dflt (refine' code_def ?k1 ?k2 ?k3 ?k4 ?k5 ?kA ?kF ?kK ?k6 ?k7 ?k8 ?k9 ?kB ?_ ?c2 ?c3 ?c4 ?c5; (case kA => exact rfl); (case kF => exact rfl); (case kK => assumption); (case k1 => k_asm); (case k2 => k_asm); (case k3 => k_asm); (case k4 => k_asm); (case k5 => k_asm); (case k6 => k_is); (case k7 => k_is); (case k8 => ktr_room); (case k9 => exact BindsTo.of_eq rfl); (case c5 => decide); (case kB => exact locs rfl); (case c2 => exact rfl); (case c3 => exact rfl); (case c4 => exact rfl); k_whole)
  intro gE LE hE FGE FE NE BE XE TE
  (try dsimp only)
  k_fold
  k_steps
  rename Fr _ _ _ _ => F1
  rename News _ _ _ _ => N1
  refine Halt.mk (cutF (g := gE) (L := LE) (fun m' nw => news = nw ∧ ∃ tb to bo, m' (Str.ofString "fmt") = some (.str b tb) ∧ m' (Str.ofString "byte_order") = some (.str bo to) ∧ ((bo = Str.ofString "" ∧ mk = 62) ∨ bo = one mk) ∧ m' (Str.ofString "names") = some nv ∧ m' (Str.ofString "text_encoding") = some (.str cc tc) ∧ m' (Str.ofString "text_errors") = some (.str cw tw)) ?_ ?_)
  · have go := Go.mk
    rcases hx with ⟨h0, rfl, rfl⟩ | ⟨h0, h1, rfl, rfl⟩ | ⟨h0, h1, rfl, rfl⟩
    · have hne : decide (0 < b.cps.size) = false := by simp [h0]
      k_steps
      exact PostF.intro (by assumption) (by assumption) ⟨rfl, _, _, _, rfl, by with_unfolding_all rfl, .inl ⟨rfl, rfl⟩, rfl, rfl, rfl⟩
    · have hne : decide (0 < b.cps.size) = true := by simp [h0]
      k_steps
      exact PostF.intro (by assumption) (by assumption) ⟨rfl, _, _, _, rfl, by with_unfolding_all rfl, .inl ⟨rfl, rfl⟩, rfl, rfl, rfl⟩
    · have hne : decide (0 < x.cps.size) = true := by simp [h0]
      k_steps
      exact PostF.intro (by assumption) (by assumption) ⟨rfl, _, _, _, rfl, by with_unfolding_all rfl, .inr rfl, rfl, rfl, rfl⟩
  clear F1 N1
  intro h1 tk1 m1 nw1 F1 N1 hJ1
  obtain ⟨rfl, tb, to, bo, hm1, hm2, hbo, hm3, hm4, hm5⟩ := hJ1
  have hbs : b.cps.size ≤ 100 := by have := hF.small; omega
  k_steps
  rename Fr _ _ _ _ => F2
  rename News _ _ _ _ => N2
  refine Halt.mk (call_findall F2 XE N2 (by omega) ?_)
  have hnl : ∀ q ∈ news, q.1 < h1.objs.size := fun q hq => Heap.lt_size (N2 q hq).1
  clear F2 N2
  intro gs vs T1 lf hf tkf hfa hgi Ff Nf hz1 hz2 hz3
  have hlfne : ∀ q ∈ T1 ++ news, q.1 ≠ lf := fun q hq => (List.mem_append.mp hq).elim (fun h => Nat.ne_of_lt (hz2 q h)) fun h => Nat.ne_of_lt (Nat.lt_of_lt_of_le (hnl q h) hz3)
  have Nf2 : ∀ p ∈ T1, hf.get? p.1 = some p.2 := fun p hp => (Nf p (.tail _ (List.mem_append_left _ hp))).1
  have hbl : bo.cps.size ≤ 1 := by
    rcases hbo with ⟨rfl, _⟩ | rfl
    · decide +kernel
    · exact Nat.le_refl _
  have hgl := hfa.len (Nat.zero_le _)
  k_steps
  have hvl : vs.length = gs.length := grps_len hgi
  rename Fr _ _ _ _ => F2
  rename News _ _ _ _ => N2
  refine Halt.mk (compL (h₀ := gE) (L := LE) (R := lf) (its := vs) (n := 0) (p := fun _ => true) (G := GJ b.cps hf) F2 N2 rfl (by decide) (by decide) rfl (by decide) rfl (.head _) (by omega) ?_ ?_ (by intro _; rfl) ?_)
  · intro C v s3 m3 E' hv hns hm hn
    k_steps
    exact ⟨_, _, rfl, fun _ _ e => e⟩
  · intro C v s3 m3 E' hv _ hns hm hn
    obtain ⟨aT, g, t1, t2, t3, t4, rfl, hg, hmem⟩ := grps_mem hgi v hv
    have hget := hn _ (.tail _ (List.mem_append_left _ hmem))
    have hT : IsTup s3.heap aT [piece b.cps g.s g.q t1, piece b.cps g.q (g.q + 1) t2, piece b.cps (g.q + 1) (g.q + 1 + g.d) t3, piece b.cps (g.q + 1 + g.d) g.stop t4].toArray := ⟨_, hget, rfl, _, rfl⟩
    k_steps
    refine join_tuple (ys := [⟨b.cps.extract g.s g.q⟩, ⟨b.cps.extract g.q (g.q + 1)⟩, ⟨b.cps.extract (g.q + 1) (g.q + 1 + g.d)⟩, ⟨b.cps.extract (g.q + 1 + g.d) g.stop⟩]) hT (.cons _ _ (.cons _ _ (.cons _ _ (.cons _ _ .nil)))) ?_ ?_
    · have e0 : (Str.ofString "").length = 0 := by decide +kernel
      rw [e0]
      simp only [List.map_cons, List.map_nil, List.sum_cons, List.sum_nil, PySem.Str.length, Array.size_extract]
      omega
    · intro t' k
      refine ⟨fun g' hg' => ?_, ⟨_, _, rfl, fun _ _ e => e⟩⟩
      rw [spot_join]
      refine ⟨t', ?_⟩
      rw [GAt.det hg' ⟨_, _, _, _, _, rfl, Nf2 _ hmem⟩]
  k_steps
  · assumption
  · assumption
  rename Paired _ _ _ => hpair
  rename News _ _ _ _ => N3
  have hfl : vs.filter (fun _ => true) = vs := List.filter_eq_self.mpr (by simp)
  rw [hfl] at hpair
  have hstr := grps_strs Nf2 hgi hpair
  have hsum := spots_sum hfa (Nat.zero_le _)
  have e0 : (Str.ofString "").length = 0 := by decide +kernel
  refine join_list (ys := gs.map (spotS b.cps)) (News.isList N3 (.head _)) hstr (by rw [e0]; omega) ?_
  intro tj kj
  replace N3 := fun p (hp : p ∈ (lf, W.listOf vs.toArray 0) :: (T1 ++ news)) => N3 p (.tail _ hp)
  have hjn := join_ne (b := b) rfl hfa
  clear hpair hfl hstr hsum e0
  rcases hD with ⟨gs0, hLx, hDe⟩ | ⟨hDe, p, gs0, hLx, hpl, hmiss⟩
  · obtain ⟨hgs, hall⟩ := fa_all hLx hfa
    subst hgs
    have hc : (PySem.Txt.join (Str.ofString "") (gs.map (spotS b.cps)) != b) = false := by rw [hjn]; simp [hall]
    k_steps
    rename Fr _ _ _ _ => F4
    refine Halt.mk (For_turns F4 (h₀ := gE) ?_)
    k_steps
    rename News _ _ _ _ => N4
    rename (lf < _ ∧ AllLt _ _) => l1
    refine Halt.mk (forL (h₀ := gE) (ParseJ w.params b.cps cc cw tc tw tb to b bo names gs nv ((lf, W.listOf vs.toArray 0) :: (T1 ++ news))) trivial rfl F4 N4 (.tail _ (.head _)) ⟨_, 0, 62, [], [], [], _, _, _, by with_unfolding_all first | rfl | assumption, by with_unfolding_all first | rfl | assumption, by rw [← e62]; with_unfolding_all rfl, by with_unfolding_all first | rfl | assumption, by with_unfolding_all first | rfl | assumption, by with_unfolding_all first | rfl | assumption, by with_unfolding_all first | rfl | assumption, by with_unfolding_all first | rfl | assumption, ?_, .nil, rfl, rfl, ?_, (fun q hq => by cases hq), ?_, Nat.le_refl _⟩ ?_ ?_)
    · rw [List.drop_zero, DueR.pre_nil]
    · intro p hp
      rcases List.mem_cons.mp hp with rfl | hp
      · exact Nat.ne_of_lt l1.1
      · exact Nat.ne_of_lt (allLt_mem l1.2 p hp)
    · intro p hp
      rcases List.mem_cons.mp hp with rfl | hp
      · exact l1.1
      · exact allLt_mem l1.2 p hp
    · obtain ⟨nw, hnw⟩ : ∃ nw, nw = (lf, W.listOf vs.toArray 0) :: (T1 ++ news) := ⟨_, rfl⟩
      rw [← hnw]
      have hlfm : (lf, W.listOf vs.toArray 0) ∈ nw := by rw [hnw]; exact .head _
      have hT1m : ∀ q ∈ T1, q ∈ nw := fun q hq => by rw [hnw]; simp [hq]
      have hnwm : ∀ q ∈ news, q ∈ nw := fun q hq => by rw [hnw]; simp [hq]
      have hlfd : ∀ q ∈ nw, q.1 = lf → q = (lf, W.listOf vs.toArray 0) := fun q hq e => by
        rw [hnw] at hq
        rcases List.mem_cons.mp hq with h | h
        · exact h
        · exact absurd e (hlfne q h)
      clear F4 N4 l1
      intro i v m2 news2 h2 tk2 own hv hJ hap F2 N2
      obtain ⟨O, p, o, its, ovs, led, n, tp, te, hk1, hk2, hk3, hk4, hk5, hk6, hk7, hk8, hdue, hits, hvl, rfl, hoff, hfr, hfr2, hpi⟩ := hJ
      obtain ⟨aT, g, t1, t2, t3, t4, rfl, hg, hra⟩ := grps_get hgi i v hv
      have hgm := List.mem_of_getElem? hg
      have hH := fa_hit hfa g hgm
      have hlt := hH.lt
      obtain ⟨hnum, hz0, hz9, hd3⟩ := num_ok hF hH
      obtain ⟨tl, htl⟩ : ∃ tl, tl = led ++ nw ++ own := ⟨_, rfl⟩
      have N3 : News gE LE h2 ((O, W.listOf ovs.toArray n) :: tl) := by
        have N4 : News gE LE h2 _ := N2
        rw [htl]; simpa using N4
      have hoffT : ∀ p ∈ tl, p.1 ≠ O := by
        intro x hx
        rw [htl] at hx
        rcases List.mem_append.mp hx with hx | hx
        · exact hoff x hx
        · rcases hap _ (.head _) x hx with e | e
          · rw [e]; exact hoff _ (List.mem_append_right _ hlfm)
          · exact fun z => e z.symm
      have hsub : ∀ p ∈ news, p ∈ tl := fun p hp => by rw [htl]; simp [hnwm p hp]
      obtain ⟨e0, he0⟩ : ∃ e0 : PySem.Str, e0 = ⟨b.cps.extract g.s g.q⟩ := ⟨_, rfl⟩
      obtain ⟨c, hc9⟩ : ∃ c, c = b.cps.getD g.q 0 := ⟨_, rfl⟩
      obtain ⟨z, hz⟩ : ∃ z, z = num b.cps g := ⟨_, rfl⟩
      obtain ⟨o2, ho2⟩ : ∃ o2, o2 = ordOf b.cps g o := ⟨_, rfl⟩
      unfold piece at hra
      rw [extract_one hlt, ← he0, ← hc9] at hra
      have hra3 := show (aT, _) ∈ tl by rw [htl]; exact List.mem_append_left _ (List.mem_append_right _ (hT1m _ hra))
      have hm0 : ((e0 != Str.ofString "") = false ∧ o2 = o) ∨ ((e0 != Str.ofString "") = true ∧ e0 = one o2) := by
        rcases hit_mark hH with ⟨h1, h2⟩ | ⟨h1, h2⟩
        · refine .inl ⟨by rw [he0, h2]; simp, ?_⟩
          rw [ho2]; unfold ordOf; rw [if_pos h1]
        · refine .inr ⟨by rw [he0, h2]; exact one_ne _, ?_⟩
          rw [he0, h2, ho2]; unfold ordOf; rw [if_neg (by omega)]
      have hdrop : gs.drop i = g :: gs.drop (i + 1) := by
        obtain ⟨h1, h2⟩ := List.getElem?_eq_some_iff.mp hg
        rw [List.drop_eq_getElem_cons h1, h2]
      rw [hdrop] at hdue
      have hrw : rowsOf b.cps o (g :: gs.drop (i + 1)) = ⟨c, z, o2⟩ :: rowsOf b.cps o2 (gs.drop (i + 1)) := by rw [hc9, hz, ho2]; rfl
      rw [hrw, due_cons] at hdue
      dsimp only at hdue
      rw [← hz] at hz0 hz9 hnum
      have hvl2 : ovs.length ≤ 100 := by
        have := (List.getElem?_eq_some_iff.mp hg).1
        omega
      have hils : i ≤ 100 := by omega
      have hT : IsTup h2 aT _ := News.isTup N3 (.tail _ hra3)
      clear N2 hdrop hrw ho2
      k_steps
      refine Halt.mk (cutF (g := gE) (L := LE) (fun m' nw' => (O, W.listOf ovs.toArray n) :: tl = nw' ∧ ∃ te, m' (Str.ofString "endianness") = some (.str (one o2) te) ∧ m' (Str.ofString "infos") = some (.ref O) ∧ m' (Str.ofString "i") = some (.int ((p : Nat) : Int) tp) ∧ m' (Str.ofString "names") = some nv ∧ m' (Str.ofString "text_encoding") = some (.str cc tc) ∧ m' (Str.ofString "text_errors") = some (.str cw tw) ∧ m' (Str.ofString "fmt") = some (.str b tb) ∧ m' (Str.ofString "byte_order") = some (.str bo to) ∧ m' (Str.ofString "parsed_info") = some (.ref aT)) ?_ ?_)
      · have go := Go.mk
        rcases hm0 with ⟨hm0, rfl⟩ | ⟨hm0, rfl⟩
        · k_steps
          exact PostF.intro (by assumption) (by assumption) ⟨rfl, _, (by with_unfolding_all first | rfl | assumption), (by with_unfolding_all first | rfl | assumption), (by with_unfolding_all first | rfl | assumption), (by with_unfolding_all first | rfl | assumption), (by with_unfolding_all first | rfl | assumption), (by with_unfolding_all first | rfl | assumption), (by with_unfolding_all first | rfl | assumption), (by with_unfolding_all first | rfl | assumption), (by with_unfolding_all first | rfl | assumption)⟩
        · k_steps
          exact PostF.intro (by assumption) (by assumption) ⟨rfl, _, (by with_unfolding_all first | rfl | assumption), (by with_unfolding_all first | rfl | assumption), (by with_unfolding_all first | rfl | assumption), (by with_unfolding_all first | rfl | assumption), (by with_unfolding_all first | rfl | assumption), (by with_unfolding_all first | rfl | assumption), (by with_unfolding_all first | rfl | assumption), (by with_unfolding_all first | rfl | assumption), (by with_unfolding_all first | rfl | assumption)⟩
      clear hk1 hk2 hk3 hk4 hk5 hk6 hk7 hk8 hT F2 N3
      intro h3 tk3 m3 nw3 F3 N3 hJ3
      obtain ⟨rfl, te3, hk3, hk1, hk2, hk4, hk5, hk6, hk7, hk8, hk9⟩ := hJ3
      by_cases hzz : z = 0
      · have hz1 : (z == 0) = true := beq_iff_eq.mpr hzz
        have hd2 : D = .err := by rw [hDe, hdue, if_pos hzz]; rfl
        have kdX : KtsDicts [] gE := ktsDicts_nil
        k_steps
        rename RaisedS _ _ _ _ _ _ _ _ _ => S9
        exact hE1 _ _ _ _ _ _ hd2 FGE (RaisedS.sub S9 fun q hq => .tail _ (hsub q hq)) (by assumption)
      have hz1 : (z == 0) = false := beq_eq_false_iff_ne.mpr hzz
      rw [if_neg hzz] at hdue
      k_steps
      refine Halt.mk (cutF (g := gE) (L := LE) (fun m' nw' => (O, W.listOf ovs.toArray n) :: tl = nw' ∧ (isPad c = true ∨ ∃ nm, m' (Str.ofString "name") = some nm ∧ NmIs (nmOf names p) nm) ∧ ∃ te t5 t6, m' (Str.ofString "endianness") = some (.str (one o2) te) ∧ m' (Str.ofString "infos") = some (.ref O) ∧ m' (Str.ofString "i") = some (.int ((p : Nat) : Int) tp) ∧ m' (Str.ofString "names") = some nv ∧ m' (Str.ofString "text_encoding") = some (.str cc tc) ∧ m' (Str.ofString "text_errors") = some (.str cw tw) ∧ m' (Str.ofString "fmt") = some (.str b tb) ∧ m' (Str.ofString "byte_order") = some (.str bo to) ∧ m' (Str.ofString "type_") = some (.str (one c) t5) ∧ m' (Str.ofString "size") = some (.int z t6) ∧ (isPad c = false → ∀ ws, names = some ws → p < ws.length)) ?_ ?_)
      · have go := Go.mk
        rcases hnm with ⟨rfl, rfl⟩ | ⟨na, nvs, ws, rfl, rfl, hws, hseq, hwl⟩
        · k_steps
          exact PostF.intro (by assumption) (by assumption) ⟨rfl, .inr ⟨_, (by with_unfolding_all first | rfl | assumption), .int⟩, _, _, _, (by with_unfolding_all first | rfl | assumption), (by with_unfolding_all first | rfl | assumption), (by with_unfolding_all first | rfl | assumption), (by with_unfolding_all first | rfl | assumption), (by with_unfolding_all first | rfl | assumption), (by with_unfolding_all first | rfl | assumption), (by with_unfolding_all first | rfl | assumption), (by with_unfolding_all first | rfl | assumption), (by with_unfolding_all first | rfl | assumption), (by with_unfolding_all first | rfl | assumption), fun _ _ h => by cases h⟩
        · have hseq2 : SeqIn tl na nvs := hseq.mono hsub
          by_cases hpadt : isPad c = true
          rotate_left
          · have hpad : isPad c = false := by simpa using hpadt
            have hpad2 : (!isPad c) = true := by rw [hpad]; rfl
            by_cases hpl : p < ws.length
            · k_steps
              exact PostF.intro (by assumption) (by assumption) ⟨rfl, .inr ⟨_, (by with_unfolding_all first | rfl | assumption), .str⟩, _, _, _, (by with_unfolding_all first | rfl | assumption), (by with_unfolding_all first | rfl | assumption), (by with_unfolding_all first | rfl | assumption), (by with_unfolding_all first | rfl | assumption), (by with_unfolding_all first | rfl | assumption), (by with_unfolding_all first | rfl | assumption), (by with_unfolding_all first | rfl | assumption), (by with_unfolding_all first | rfl | assumption), (by with_unfolding_all first | rfl | assumption), (by with_unfolding_all first | rfl | assumption), fun _ _ h => by cases h; exact hpl⟩
            · rw [if_neg (by rw [hpad]; decide)] at hdue
              dsimp only at hdue
              rw [if_neg hpl] at hdue
              have hd2 : D = .idx := by rw [hDe, hdue]; rfl
              obtain ⟨na2, nvs2, n2, ws2, e1, e2, hws2, hmem2⟩ := hlist hd2
              cases e1; cases e2
              have kdX : KtsDicts [] gE := ktsDicts_nil
              have oo := Out.mk
              k_steps
              rename News _ _ _ _ => N5
              have hl2 := hws2.length
              refine Halt.mk (item_outK rfl (News.isList N5 (.tail _ (hsub _ hmem2))) (.inr (by simp; omega)) (by omega) (by omega) ?_)
              intro h8 tk8 e8 hx8
              k_steps
              rename RaisedSN _ _ _ _ _ _ _ => S9
              exact hE2 _ _ _ _ hd2 FGE (RaisedSN.sub S9 fun q hq => .tail _ (hsub q hq)) (by assumption)
          · have hpad := hpadt
            have hpad2 : (!isPad c) = false := by rw [hpad]; rfl
            k_steps
            exact PostF.intro (by assumption) (by assumption) ⟨rfl, .inl hpad, _, _, _, (by with_unfolding_all first | rfl | assumption), (by with_unfolding_all first | rfl | assumption), (by with_unfolding_all first | rfl | assumption), (by with_unfolding_all first | rfl | assumption), (by with_unfolding_all first | rfl | assumption), (by with_unfolding_all first | rfl | assumption), (by with_unfolding_all first | rfl | assumption), (by with_unfolding_all first | rfl | assumption), (by with_unfolding_all first | rfl | assumption), (by with_unfolding_all first | rfl | assumption), fun h => by rw [hpad] at h; cases h⟩
      clear hk1 hk2 hk3 hk4 hk5 hk6 hk7 hk8 hk9
      intro h4 tk4 m4 nw4 F4 N4 hJ4
      obtain ⟨rfl, hnmv, te4, t5, t6, hk3, hk1, hk2, hk4, hk5, hk6, hk7, hk8, hk9, hk10, hinb⟩ := hJ4
      by_cases hpad : isPad c = true
      · rw [if_pos hpad] at hdue
        rcases (by unfold isPad at hpad; simpa using hpad : c = 112 ∨ c = 80) with rfl | rfl
        · have f115 : ((112 : Nat) == 115) = false := rfl
          have f117 : ((112 : Nat) == 117) = false := rfl
          have f102 : ((112 : Nat) == 102) = false := rfl
          have f98 : ((112 : Nat) == 98) = false := rfl
          have f116 : ((112 : Nat) == 116) = false := rfl
          have f114 : ((112 : Nat) == 114) = false := rfl
          have f112 : ((112 : Nat) == 112) = true := rfl
          have hd2 : due names 0 (rowsOf b.cps 62 gs) = ((due names (p) (rowsOf b.cps o2 (gs.drop (i + 1)))).pre [⟨⟨112, z, o2⟩, .none⟩]).pre its := hdue
          k_steps
          rename News _ _ _ _ => N9
          rename (O < _ ∧ AllLt _ _) => l9
          rename (_ < _) => l8
          refine ⟨_, _, _, _, rfl, by assumption, parse_step htl N9, parse_ap hap htl l9.2 l8, ⟨O, p, o2, its ++ [⟨⟨112, z, o2⟩, .none⟩], _, _, _, _, _, (by with_unfolding_all first | rfl | assumption), (by with_unfolding_all first | rfl | assumption), (by with_unfolding_all first | rfl | assumption), (by with_unfolding_all first | rfl | assumption), (by with_unfolding_all first | rfl | assumption), (by with_unfolding_all first | rfl | assumption), (by with_unfolding_all first | rfl | assumption), (by with_unfolding_all first | rfl | assumption), by rw [hd2, DueR.pre_pre], (hits.mono fun p hp => .tail _ (.tail _ hp)).snoc (i := ⟨⟨112, z, o2⟩, .none⟩) (.head _) (.tail _ (.head _)) .p .none, by simp [hvl], rfl, parse_off hoff l9.1 l8, parse_fr hfr htl l9.2 l8, hfr2, by omega⟩⟩
        · have f115 : ((80 : Nat) == 115) = false := rfl
          have f117 : ((80 : Nat) == 117) = false := rfl
          have f102 : ((80 : Nat) == 102) = false := rfl
          have f98 : ((80 : Nat) == 98) = false := rfl
          have f116 : ((80 : Nat) == 116) = false := rfl
          have f114 : ((80 : Nat) == 114) = false := rfl
          have f112 : ((80 : Nat) == 112) = false := rfl
          have f80 : ((80 : Nat) == 80) = true := rfl
          have hd2 : due names 0 (rowsOf b.cps 62 gs) = ((due names (p) (rowsOf b.cps o2 (gs.drop (i + 1)))).pre [⟨⟨80, z, o2⟩, .none⟩]).pre its := hdue
          k_steps
          rename News _ _ _ _ => N9
          rename (O < _ ∧ AllLt _ _) => l9
          rename (_ < _) => l8
          refine ⟨_, _, _, _, rfl, by assumption, parse_step htl N9, parse_ap hap htl l9.2 l8, ⟨O, p, o2, its ++ [⟨⟨80, z, o2⟩, .none⟩], _, _, _, _, _, (by with_unfolding_all first | rfl | assumption), (by with_unfolding_all first | rfl | assumption), (by with_unfolding_all first | rfl | assumption), (by with_unfolding_all first | rfl | assumption), (by with_unfolding_all first | rfl | assumption), (by with_unfolding_all first | rfl | assumption), (by with_unfolding_all first | rfl | assumption), (by with_unfolding_all first | rfl | assumption), by rw [hd2, DueR.pre_pre], (hits.mono fun p hp => .tail _ (.tail _ hp)).snoc (i := ⟨⟨80, z, o2⟩, .none⟩) (.head _) (.tail _ (.head _)) .P .none, by simp [hvl], rfl, parse_off hoff l9.1 l8, parse_fr hfr htl l9.2 l8, hfr2, by omega⟩⟩
      · rw [if_neg hpad] at hdue
        have hpadf : isPad c = false := by simpa using hpad
        obtain ⟨nm, hk11, hnm9⟩ := hnmv.resolve_left hpad
        replace hdue : due names 0 (rowsOf b.cps 62 gs) = (if isVal c = true then (due names (p + 1) (rowsOf b.cps o2 (gs.drop (i + 1)))).pre [⟨⟨c, z, o2⟩, nmOf names p⟩] else .err : DueR).pre its := by
          rw [hdue]
          cases names with
          | none => rfl
          | some ws => dsimp only; rw [if_pos (hinb hpadf ws rfl)]; rfl
        by_cases hval : isVal c = true
        · rw [if_pos hval] at hdue
          rcases (by unfold isVal at hval; simpa [or_assoc] using hval : c = 117 ∨ c = 115 ∨ c = 102 ∨ c = 98 ∨ c = 116 ∨ c = 114) with rfl | rfl | rfl | rfl | rfl | rfl
          · have f115 : ((117 : Nat) == 115) = false := rfl
            have f117 : ((117 : Nat) == 117) = true := rfl
            have hd2 : due names 0 (rowsOf b.cps 62 gs) = ((due names (p + 1) (rowsOf b.cps o2 (gs.drop (i + 1)))).pre [⟨⟨117, z, o2⟩, nmOf names p⟩]).pre its := hdue
            k_steps
            rename News _ _ _ _ => N9
            rename (O < _ ∧ AllLt _ _) => l9
            rename (_ < _) => l8
            refine ⟨_, _, _, _, rfl, by assumption, parse_step htl N9, parse_ap hap htl l9.2 l8, ⟨O, p + 1, o2, its ++ [⟨⟨117, z, o2⟩, nmOf names p⟩], _, _, _, _, _, (by with_unfolding_all first | rfl | assumption), (by with_unfolding_all first | rfl | assumption), (by with_unfolding_all first | rfl | assumption), (by with_unfolding_all first | rfl | assumption), (by with_unfolding_all first | rfl | assumption), (by with_unfolding_all first | rfl | assumption), (by with_unfolding_all first | rfl | assumption), (by with_unfolding_all first | rfl | assumption), by rw [hd2, DueR.pre_pre], (hits.mono fun p hp => .tail _ (.tail _ hp)).snoc (i := ⟨⟨117, z, o2⟩, nmOf names p⟩) (.head _) (.tail _ (.head _)) .u hnm9, by simp [hvl], rfl, parse_off hoff l9.1 l8, parse_fr hfr htl l9.2 l8, hfr2, by omega⟩⟩
          · have f115 : ((115 : Nat) == 115) = true := rfl
            have hd2 : due names 0 (rowsOf b.cps 62 gs) = ((due names (p + 1) (rowsOf b.cps o2 (gs.drop (i + 1)))).pre [⟨⟨115, z, o2⟩, nmOf names p⟩]).pre its := hdue
            k_steps
            rename News _ _ _ _ => N9
            rename (O < _ ∧ AllLt _ _) => l9
            rename (_ < _) => l8
            refine ⟨_, _, _, _, rfl, by assumption, parse_step htl N9, parse_ap hap htl l9.2 l8, ⟨O, p + 1, o2, its ++ [⟨⟨115, z, o2⟩, nmOf names p⟩], _, _, _, _, _, (by with_unfolding_all first | rfl | assumption), (by with_unfolding_all first | rfl | assumption), (by with_unfolding_all first | rfl | assumption), (by with_unfolding_all first | rfl | assumption), (by with_unfolding_all first | rfl | assumption), (by with_unfolding_all first | rfl | assumption), (by with_unfolding_all first | rfl | assumption), (by with_unfolding_all first | rfl | assumption), by rw [hd2, DueR.pre_pre], (hits.mono fun p hp => .tail _ (.tail _ hp)).snoc (i := ⟨⟨115, z, o2⟩, nmOf names p⟩) (.head _) (.tail _ (.head _)) .s hnm9, by simp [hvl], rfl, parse_off hoff l9.1 l8, parse_fr hfr htl l9.2 l8, hfr2, by omega⟩⟩
          · have f115 : ((102 : Nat) == 115) = false := rfl
            have f117 : ((102 : Nat) == 117) = false := rfl
            have f102 : ((102 : Nat) == 102) = true := rfl
            have hd2 : due names 0 (rowsOf b.cps 62 gs) = ((due names (p + 1) (rowsOf b.cps o2 (gs.drop (i + 1)))).pre [⟨⟨102, z, o2⟩, nmOf names p⟩]).pre its := hdue
            k_steps
            rename News _ _ _ _ => N9
            rename (O < _ ∧ AllLt _ _) => l9
            rename (_ < _) => l8
            refine ⟨_, _, _, _, rfl, by assumption, parse_step htl N9, parse_ap hap htl l9.2 l8, ⟨O, p + 1, o2, its ++ [⟨⟨102, z, o2⟩, nmOf names p⟩], _, _, _, _, _, (by with_unfolding_all first | rfl | assumption), (by with_unfolding_all first | rfl | assumption), (by with_unfolding_all first | rfl | assumption), (by with_unfolding_all first | rfl | assumption), (by with_unfolding_all first | rfl | assumption), (by with_unfolding_all first | rfl | assumption), (by with_unfolding_all first | rfl | assumption), (by with_unfolding_all first | rfl | assumption), by rw [hd2, DueR.pre_pre], (hits.mono fun p hp => .tail _ (.tail _ hp)).snoc (i := ⟨⟨102, z, o2⟩, nmOf names p⟩) (.head _) (.tail _ (.head _)) .f hnm9, by simp [hvl], rfl, parse_off hoff l9.1 l8, parse_fr hfr htl l9.2 l8, hfr2, by omega⟩⟩
          · have f115 : ((98 : Nat) == 115) = false := rfl
            have f117 : ((98 : Nat) == 117) = false := rfl
            have f102 : ((98 : Nat) == 102) = false := rfl
            have f98 : ((98 : Nat) == 98) = true := rfl
            have hd2 : due names 0 (rowsOf b.cps 62 gs) = ((due names (p + 1) (rowsOf b.cps o2 (gs.drop (i + 1)))).pre [⟨⟨98, z, o2⟩, nmOf names p⟩]).pre its := hdue
            k_steps
            rename News _ _ _ _ => N9
            rename (O < _ ∧ AllLt _ _) => l9
            rename (_ < _) => l8
            refine ⟨_, _, _, _, rfl, by assumption, parse_step htl N9, parse_ap hap htl l9.2 l8, ⟨O, p + 1, o2, its ++ [⟨⟨98, z, o2⟩, nmOf names p⟩], _, _, _, _, _, (by with_unfolding_all first | rfl | assumption), (by with_unfolding_all first | rfl | assumption), (by with_unfolding_all first | rfl | assumption), (by with_unfolding_all first | rfl | assumption), (by with_unfolding_all first | rfl | assumption), (by with_unfolding_all first | rfl | assumption), (by with_unfolding_all first | rfl | assumption), (by with_unfolding_all first | rfl | assumption), by rw [hd2, DueR.pre_pre], (hits.mono fun p hp => .tail _ (.tail _ hp)).snoc (i := ⟨⟨98, z, o2⟩, nmOf names p⟩) (.head _) (.tail _ (.head _)) .b hnm9, by simp [hvl], rfl, parse_off hoff l9.1 l8, parse_fr hfr htl l9.2 l8, hfr2, by omega⟩⟩
          · have f115 : ((116 : Nat) == 115) = false := rfl
            have f117 : ((116 : Nat) == 117) = false := rfl
            have f102 : ((116 : Nat) == 102) = false := rfl
            have f98 : ((116 : Nat) == 98) = false := rfl
            have f116 : ((116 : Nat) == 116) = true := rfl
            have hd2 : due names 0 (rowsOf b.cps 62 gs) = ((due names (p + 1) (rowsOf b.cps o2 (gs.drop (i + 1)))).pre [⟨⟨116, z, o2⟩, nmOf names p⟩]).pre its := hdue
            k_steps
            rename News _ _ _ _ => N9
            rename (O < _ ∧ AllLt _ _) => l9
            rename (_ < _) => l8
            refine ⟨_, _, _, _, rfl, by assumption, parse_step htl N9, parse_ap hap htl l9.2 l8, ⟨O, p + 1, o2, its ++ [⟨⟨116, z, o2⟩, nmOf names p⟩], _, _, _, _, _, (by with_unfolding_all first | rfl | assumption), (by with_unfolding_all first | rfl | assumption), (by with_unfolding_all first | rfl | assumption), (by with_unfolding_all first | rfl | assumption), (by with_unfolding_all first | rfl | assumption), (by with_unfolding_all first | rfl | assumption), (by with_unfolding_all first | rfl | assumption), (by with_unfolding_all first | rfl | assumption), by rw [hd2, DueR.pre_pre], (hits.mono fun p hp => .tail _ (.tail _ hp)).snoc (i := ⟨⟨116, z, o2⟩, nmOf names p⟩) (.head _) (.tail _ (.head _)) .t hnm9, by simp [hvl], rfl, parse_off hoff l9.1 l8, parse_fr hfr htl l9.2 l8, hfr2, by omega⟩⟩
          · have f115 : ((114 : Nat) == 115) = false := rfl
            have f117 : ((114 : Nat) == 117) = false := rfl
            have f102 : ((114 : Nat) == 102) = false := rfl
            have f98 : ((114 : Nat) == 98) = false := rfl
            have f116 : ((114 : Nat) == 116) = false := rfl
            have f114 : ((114 : Nat) == 114) = true := rfl
            have hd2 : due names 0 (rowsOf b.cps 62 gs) = ((due names (p + 1) (rowsOf b.cps o2 (gs.drop (i + 1)))).pre [⟨⟨114, z, o2⟩, nmOf names p⟩]).pre its := hdue
            k_steps
            rename News _ _ _ _ => N9
            rename (O < _ ∧ AllLt _ _) => l9
            rename (_ < _) => l8
            refine ⟨_, _, _, _, rfl, by assumption, parse_step htl N9, parse_ap hap htl l9.2 l8, ⟨O, p + 1, o2, its ++ [⟨⟨114, z, o2⟩, nmOf names p⟩], _, _, _, _, _, (by with_unfolding_all first | rfl | assumption), (by with_unfolding_all first | rfl | assumption), (by with_unfolding_all first | rfl | assumption), (by with_unfolding_all first | rfl | assumption), (by with_unfolding_all first | rfl | assumption), (by with_unfolding_all first | rfl | assumption), (by with_unfolding_all first | rfl | assumption), (by with_unfolding_all first | rfl | assumption), by rw [hd2, DueR.pre_pre], (hits.mono fun p hp => .tail _ (.tail _ hp)).snoc (i := ⟨⟨114, z, o2⟩, nmOf names p⟩) (.head _) (.tail _ (.head _)) .r hnm9, by simp [hvl], rfl, parse_off hoff l9.1 l8, parse_fr hfr htl l9.2 l8, hfr2, by omega⟩⟩
        · rw [if_neg hval] at hdue
          have hd2 : D = .err := by rw [hDe, hdue]; rfl
          simp only [isVal, isPad, Bool.or_eq_true, not_or, Bool.not_eq_true] at hval hpad
          obtain ⟨⟨⟨⟨⟨f1, f2⟩, f3⟩, f4⟩, f5⟩, f6⟩ := hval
          obtain ⟨f7, f8⟩ := hpad
          have kdX : KtsDicts [] gE := ktsDicts_nil
          k_steps
          rename RaisedS _ _ _ _ _ _ _ _ _ => S9
          exact hE1 _ _ _ _ _ _ hd2 FGE (RaisedS.sub S9 fun q hq => .tail _ (hsub q hq)) (by assumption)
    · intro h8 tk8 m8 news8 F8 N8 hJ8
      obtain ⟨O, p, o, its, ovs, led, n, tp, te, hk1, hk2, hk3, hk4, hk5, hk6, hk7, hk8, hdue, hits, hvl9, rfl, hoff, hfr, hfr2, hpi⟩ := hJ8
      have hd2 : D = .ok its := by
        rw [hDe, hdue, List.drop_eq_nil_of_le (by omega)]
        simp [rowsOf, due, DueR.pre]
      have hT2 : ∀ q ∈ (O, W.listOf ovs.toArray n) :: (led ++ ((lf, W.listOf vs.toArray 0) :: T1)), ∀ p ∈ news, p.1 < q.1 := by
        intro q hq p hp
        have hpn : p ∈ (lf, W.listOf vs.toArray 0) :: (T1 ++ news) := by simp [hp]
        rcases List.mem_cons.mp hq with rfl | hq
        · exact hfr2 p hpn
        rcases List.mem_append.mp hq with hq | hq
        · exact hfr q hq p hpn
        rcases List.mem_cons.mp hq with rfl | hq
        · exact Nat.lt_of_lt_of_le (hnl p hp) hz3
        · exact Nat.lt_of_lt_of_le (hnl p hp) (hz1 q hq)
      have hsub2 : ∀ q ∈ (O, W.listOf ovs.toArray n) :: (led ++ ((lf, W.listOf vs.toArray 0) :: T1)) ++ news, q ∈ (O, W.listOf ovs.toArray n) :: (led ++ ((lf, W.listOf vs.toArray 0) :: (T1 ++ news))) := by
        intro q hq; simpa using hq
      rcases hbo with ⟨rfl, rfl⟩ | rfl
      · have hb0 : decide (0 < (Str.ofString "").cps.size) = false := by decide +kernel
        k_steps
        rename News _ _ _ _ => N9
        rw [e62] at N9
        exact hret _ _ _ ((O, W.listOf ovs.toArray n) :: (led ++ ((lf, W.listOf vs.toArray 0) :: T1))) _ n its _ _ hd2 (hits.mono fun p hp => by simp [hp]) (.head _) (by assumption) (fun q hq => N9 q (by
          rcases List.mem_cons.mp hq with rfl | hq
          · exact .head _
          · exact .tail _ (hsub2 q hq))) hT2
      · have hb0 : decide (0 < (one mk).cps.size) = true := rfl
        k_steps
        rename News _ _ _ _ => N9
        exact hret _ _ _ ((O, W.listOf ovs.toArray n) :: (led ++ ((lf, W.listOf vs.toArray 0) :: T1))) _ n its _ _ hd2 (hits.mono fun p hp => by simp [hp]) (.head _) (by assumption) (fun q hq => N9 q (by
          rcases List.mem_cons.mp hq with rfl | hq
          · exact .head _
          · exact .tail _ (hsub2 q hq))) hT2
  · have hc : (PySem.Txt.join (Str.ofString "") (gs.map (spotS b.cps)) != b) = true := by rw [hjn]; exact decide_eq_true (fa_fail hLx hpl hmiss hfa)
    have kdX : KtsDicts [] gE := ktsDicts_nil
    k_steps
    rename RaisedS _ _ _ _ _ _ _ _ _ => S9
    exact hE1 _ _ _ _ _ _ hDe FGE (RaisedS.sub S9 fun q hq => by simp [hq]) (by assumption)
end Mine
end
section
open PySem PySem.W PyProof.Rows
set_option maxRecDepth 100000
set_option maxHeartbeats 8000000
namespace Mine
local macro_rules | `(tactic| k_all) => `(tactic| assumption)
local macro_rules | `(tactic| k_room) => `(tactic| ktr_room)
local macro_rules | `(tactic| walk_at "call builtin:list.append") => `(tactic| (k_here; (with_reducible show wpAny _ _ (call (Value.builtin _) [Value.ref _, _]) _ _ _); k_dflt (refine' append_K ?k1 ?k2 ?k3 ?_ ?z; (case k1 => k_asm); (case k2 => k_asm); (case k3 => k_upd); (case z => (have hz9 := size_line; simp only [List.size_toArray]; omega)); k_whole); intro h9 F9 N9; (try k_sweep)))
local macro_rules | `(tactic| walk_at "call type:int") => `(tactic| (k_here; (with_reducible show wpAny _ _ (call (Value.type "int") [Value.str _ _]) _ _ _); k_dflt (refine' KIN.call_text ?a ?b ?_; (case a => assumption); (case b => (simp only [PySem.Str.length, Array.size_extract]; omega)))))
local macro_rules | `(tactic| walk_at "binaryOp Add str str") => `(tactic| (k_here; k_dflt (refine r_add ?a ?b ?_; (case a => (first | omega | ((simp only [Array.size_extract]); omega) | (show 1 ≤ 1000; decide))); (case b => (first | omega | (show 1 ≤ 1000; decide) | ((simp only [Array.size_extract]); omega)))); intro _ _))
local macro_rules | `(tactic| walk_at "newTuple") => `(tactic| (k_here; k_dflt (refine r_newTuple ?a ?b ?_ ?c; (case a => k_asm); (case b => k_asm); (case c => decide); k_whole); intro a9 h9 F9 N9 l9; (try k_lt l9); (try k_sweep)))
local macro_rules | `(tactic| k_steps) => `(tactic| repeat' ((fail_if_success (with_reducible show Halt _)); first | (k_unfold; (try dsimp only)) | (k_end; kc_close) | walk1 | (dsimp only; walk1) | (leave1; walk_say "STEP leave1"; (try dsimp only)) | fail "no step"))
local macro_rules | `(tactic| walk_at "eval Name") => `(tactic| (k_here; k_dflt (refine' nameX_L ?F ?v ?_ ?a ?b; (case F => k_asm); (case a => rfl); (case b => rfl); (case v => first | rfl | assumption); k_whole)))
local macro_rules | `(tactic| walk_at "subscriptTail Name Name str int") => `(tactic| (k_here; k_dflt (refine r_item ?a ?b ?c ?_; (case a => omega); (case b => omega); (case c => omega))))
local macro_rules | `(tactic| walk_at "compareOp In str str") => `(tactic| (k_here; k_dflt (first | with_reducible refine r_in mem_marks ?_ | with_reducible refine r_in mem_marks' ?_ | with_reducible refine r_in mem_pads ?_ | with_reducible refine r_in mem_digs ?_ | with_reducible refine r_in mem_sps ?_ | with_reducible refine r_in mem_lets ?_ | with_reducible refine r_in mem_ub ?_ | with_reducible refine r_in mem_vals ?_)))
local macro_rules | `(tactic| walk_at "compareOp NotIn str str") => `(tactic| (k_here; k_dflt (first | with_reducible refine r_notIn mem_lets ?_ | with_reducible refine r_notIn mem_pads ?_ | with_reducible refine r_notIn mem_vals ?_)))
local macro_rules | `(tactic| walk_at "call builtin:len") => `(tactic| (k_here; (with_reducible show wpAny _ _ (call (Value.builtin "len") [Value.str _ _]) _ _ _); k_dflt (refine r_len ?a ?_; (case a => omega))))
local macro_rules | `(tactic| walk_at "subscriptTail Name UnaryOp str int") => `(tactic| (k_here; k_dflt (refine r_last ?a ?_; (case a => omega))))
local macro_rules | `(tactic| walk_at "subscriptTail Name Slice str ref") => `(tactic| ((with_reducible show wpAny _ _ (subscriptTail _ (Expr.Slice none (some _) none _) _ _) _ _ _); (with_reducible rename Fr _ _ _ _ => F'); (with_reducible rename News _ _ _ _ => N'); k_dflt (refine r_init (s := ⟨_, _, _, _, _⟩) F' N' ?a ?b ?_; (case a => omega); (case b => omega)); intro _ _ _ _ _))

local macro_rules | `(tactic| walk_at "call builtin:len") => `(tactic| (k_here; (with_reducible show wpAny _ _ (call (Value.builtin "len") [Value.ref _]) _ _ _); k_dflt (refine' r_lenSeq ?N ?a ?b ?c ?_; (case N => k_asm); (case a => first | assumption | exact SeqIn.tl (by assumption) | exact SeqIn.tl (SeqIn.tl (by assumption)) | exact SeqIn.tl (SeqIn.tl (SeqIn.tl (by assumption)))); (case b => assumption); (case c => assumption)); intro _ _))
local macro_rules | `(tactic| walk_at "subscriptTail Name Name ref int") => `(tactic| (k_here; k_dflt (refine' r_itemSeq ?N ?a ?b ?c ?d ?e ?_; (case N => k_asm); (case a => first | assumption | exact SeqIn.tl (by assumption) | exact SeqIn.tl (SeqIn.tl (by assumption)) | exact SeqIn.tl (SeqIn.tl (SeqIn.tl (by assumption)))); (case b => assumption); (case c => omega); (case d => omega); (case e => assumption)); intro _))
local macro_rules | `(tactic| walk_at "exec For Tuple Name cons nil") => `(tactic| refine Halt.out ?_)
local macro_rules | `(tactic| walk_at "pyIter ref") => `(tactic| refine Halt.out ?_)

theorem at319 (P : Params) : List.lookup 319 (Mine.hd.heap_39 P) = some (tupObj [.str (Str.ofString "speed") 742, .str (Str.ofString "mode") 743, .str (Str.ofString "tag") 744, .str (Str.ofString "gain") 745, .str (Str.ofString "rate") 746, .str (Str.ofString "mask") 747, .str (Str.ofString "kind") 748, .str (Str.ofString "seat") 749]) := by kernel_rfl
def wordVs : List Value := [.str (Str.ofString "speed") 742, .str (Str.ofString "mode") 743, .str (Str.ofString "tag") 744, .str (Str.ofString "gain") 745, .str (Str.ofString "rate") 746, .str (Str.ofString "mask") 747, .str (Str.ofString "kind") 748, .str (Str.ofString "seat") 749]
theorem words_are : StrsAre wordVs words := by
  unfold wordVs words
  repeat' constructor
theorem strs_take {vs : List Value} {ws : List PySem.Str} (h : StrsAre vs ws) : ∀ n, StrsAre (vs.take n) (ws.take n) := by
  induction h with
  | nil => intro n; simp; exact .nil
  | cons x t _ ih =>
    intro n
    cases n with
    | zero => exact .nil
    | succ n => exact .cons x t (ih n)
section
variable {prog : Program} {w : World} {A : Around} {E : Value → Shared → Prop} {s : Shared}
theorem adjust_to (a n : Nat) (ha : a ≤ n) : Builtin.Slice.sliceAdjust none (some (a : Int)) 1 (n : Int) = (0, (a : Int)) := by
  unfold Builtin.Slice.sliceAdjust
  have h1 : ¬ ((1 : Int) < 0) := by omega
  have h2 : ¬ ((a : Int) < 0) := by omega
  simp only [h1, h2, if_false]
  congr 1
  omega
theorem places_to (a : Nat) : Builtin.Slice.slicePlaces 0 (a : Int) 1 = a := by
  unfold Builtin.Slice.slicePlaces
  have h1 : (1 : Int) > 0 := by omega
  simp only [h1, if_true, Int.ediv_one]
  split <;> omega
theorem sliceApplied_to {sl : Addr} {a n : Nat} {u : Tok} {Q : Int × Int × Nat → Shared → Prop} (hs : s.heap.IsSliceOf sl .none (.int a u) .none) (ha : a ≤ n) (h : Q (0, 1, a) s) :
    wpAny (model prog w) A (Builtin.Slice.sliceApplied (.ref sl) (pure (n : Int))) Q E s := by
  obtain ⟨os, hos, hcs, hds⟩ := id hs
  unfold Builtin.Slice.sliceApplied Builtin.Slice.sliceFields
  refine wpAny_bind (wpAny_bind (wpAny_field hos hds (x := .none) rfl (wpAny_bind (wpAny_field hos hds (x := .int a u) rfl (wpAny_bind (wpAny_field hos hds (x := .none) rfl (wpAny_pure ?_)))))))
  refine wpAny_bind (slicePart_none ?_)
  show wpAny _ _ (if ((1 : Int) == 0) = true then _ else _) _ _ s
  rw [if_neg (by decide)]
  refine wpAny_bind (slicePart_none (wpAny_bind (slicePart_int (wpAny_bind (wpAny_pure ?_)))))
  show wpAny _ _ (match Builtin.Slice.sliceAdjust none (some (a : Int)) 1 (n : Int) with | (lo, hi) => pure (lo, (1 : Int), Builtin.Slice.slicePlaces lo hi 1)) _ _ s
  rw [adjust_to a n ha]
  show wpAny _ _ (pure ((0 : Int), (1 : Int), Builtin.Slice.slicePlaces 0 (a : Int) 1)) _ _ s
  rw [places_to a]
  exact wpAny_pure h
theorem pick_to (xs : Array Value) (a : Nat) (ha : a ≤ xs.size) : ((List.range a).filterMap fun (k : Nat) => xs[((0 : Int) + (k : Int) * 1).toNat]?).toArray = (xs.toList.take a).toArray := by
  have e : (fun (k : Nat) => xs[((0 : Int) + (k : Int) * 1).toNat]?) = fun k => xs.toList[k]? := by
    funext k
    have : ((0 : Int) + (k : Int) * 1).toNat = k := by omega
    rw [this]; simp
  rw [e]
  congr 1
  have : ∀ (l : List Value) n, n ≤ l.length → (List.range n).filterMap (fun i => l[i]?) = l.take n := by
    intro l n
    induction n with
    | zero => intro _; rfl
    | succ n ih =>
      intro h
      rw [List.range_succ, List.filterMap_append, ih (by omega), List.take_add_one]
      congr 1
  exact this _ _ (by simpa using ha)
theorem getItem_tuple_to {t sl : Addr} {items : Array Value} {a : Nat} {u : Tok} {Q : Value → Shared → Prop} (ht : IsTup s.heap t items) (hs : s.heap.IsSliceOf sl .none (.int a u) .none) (ha : a < items.size) (hsz : items.size ≤ 1000)
    (h : Q (.ref s.heap.objs.size) { s with heap := s.heap.push { cls := .type "tuple", data := .seq (items.toList.take a).toArray } }) : wpAny (model prog w) A (getItem (.ref t) (.ref sl)) Q E s := by
  have hdrop : sizeOk (.seq (items.toList.take a).toArray) := by
    show (items.toList.take a).toArray.size ≤ sizeLine
    have := size_line
    rw [List.size_toArray, List.length_take, Array.length_toList]
    omega
  obtain ⟨os, hos, hcs, hds⟩ := id hs
  have hTs : s.TypeIs (.ref sl) "slice" := ⟨os, hos, hcs⟩
  unfold getItem
  try with_reducible refine wpAny_holding ?_
  first | refine wpAny_bind (wpAny_pure ?_) | skip
  refine wpAny_bind (wpAny_sequenceKey ht.typeIs (by decide) ?_)
  refine wpAny_bind (wpAny_callSpecial?_slot (name := Str.ofString "__getitem__") ht.typeIs slot_tuple_getitem
    (wpAny_call_entry slot_tuple_getitem ht.typeIs entry_tuple_getitem ?_ (args_tuple_getitem _ _)))
  show wpAny _ _ (Builtin.Tuple.tupleItemsOf (.ref t) >>= _) _ _ s
  refine wpAny_bind (tupleItemsOf_ ht ?_)
  refine wpAny_bind (wpAny_typeOf hTs ?_)
  rw [if_pos (by decide)]
  refine wpAny_bind (sliceApplied_to hs (Nat.le_of_lt ha) ?_)
  have hno : ¬ (((0 : Int) == 0 && (1 : Int) == 1 && a == items.size) = true) := by
    have : (a == items.size) = false := by rw [beq_eq_false_iff_ne]; omega
    rw [this]; simp
  show wpAny _ _ (if ((0 : Int) == 0 && (1 : Int) == 1 && a == items.size) = true then _ else _) _ _ s
  rw [if_neg hno, pick_to items a (Nat.le_of_lt ha)]
  first
    | exact wpAny_bind (m := Builtin.Tuple.tupleExact _) (wpAny_newObj_type (wpAny_pure ⟨_, rfl, wpAny_pure h⟩) hdrop)
    | exact wpAny_bind (m := Builtin.Tuple.tupleExact _) (wpAny_newObj_type (wpAny_bind (wpAny_pure (wpAny_pure ⟨_, rfl, wpAny_pure h⟩))) hdrop)
    | exact wpAny_bind (wpAny_bind (m := Builtin.Tuple.tupleExact _) (wpAny_newObj_type (wpAny_pure (wpAny_pure ⟨_, rfl, wpAny_pure h⟩)) hdrop))
    | exact wpAny_bind (wpAny_bind (m := Builtin.Tuple.tupleExact _) (wpAny_newObj_type (wpAny_pure ⟨_, rfl, wpAny_pure h⟩) hdrop))
theorem r_wordsTo {h₀ : Heap} {L : Addr} {m : PySem.Str → Option Value} {news : List (Addr × Obj)} {value slice : PySem.Expr} {t : Addr} {items : List Value} {i : Int} {u : Tok} {Q : Value → Shared → Prop}
    (F : Fr h₀ L s.heap m) (N : News h₀ L s.heap news) (ht : IsTup s.heap t items.toArray) (h0 : 0 ≤ i) (ha : i < (items.length : Int)) (hsz : items.length ≤ 1000)
    (h : ∀ D h', Fr h₀ L h' m → News h₀ L h' ((D, tupObj (items.take i.toNat)) :: news) → (∀ p ∈ news, p.1 < D) → Q (.ref D) { s with heap := h' })
    (hs : subscripted slice false (.ref t) (.ref s.heap.objs.size) = operate [.ref s.heap.objs.size, .ref t] (getItem (.ref t) (.ref s.heap.objs.size)) := by with_unfolding_all rfl)
    (hg : ∀ r, letTemporaryGo value (.ref t) r = pure () := by intro _; with_unfolding_all rfl) :
    wpAny (model prog w) A (subscriptTail value slice (.ref t) (.ref s.heap.objs.size)) Q E { s with heap := s.heap.push { cls := .type "slice", data := .fields #[.none, .int i u, .none] } } := by
  obtain ⟨a, rfl⟩ := Int.eq_ofNat_of_zero_le h0
  have ht' : IsTup (s.heap.push { cls := .type "slice", data := .fields #[.none, .int a u, .none] }) t items.toArray := ht.keeps fun _ _ e => Heap.get?_push_of_some _ e
  refine subscriptTail_ops (s := { s with heap := s.heap.push { cls := .type "slice", data := .fields #[.none, .int a u, .none] } }) ht'.typeIs slot_tuple_getitem.lookup
    (getItem_tuple_to ht' (Heap.IsSliceOf.new ..) (by simp; omega) (by simpa using hsz) ?_) hs hg
  have N1 := News.push (F.push { cls := .type "slice", data := .fields #[.none, .int a u, .none] }) (N.grown fun _ _ e => Heap.get?_push_of_some _ e) { cls := .type "tuple", data := .seq (items.toArray.toList.take a).toArray }
  refine h _ _ ((F.push _).push _) N1 fun p hp => ?_
  rw [Heap.size_push]
  exact Nat.lt_succ_of_lt (Heap.lt_size (N p hp).1)
end
/-- which rows hold a value -/
def cntV (rows : List Row) : Nat := (rows.filter fun r => !isPad r.c).length
theorem rows_p {led : List (Addr × Obj)} {vs : List Value} {rs : List Row} (h : RowsIn led vs rs) (inj : ∀ a o o', (a, o) ∈ led → (a, o') ∈ led → o = o') :
    ∃ p : Value → Bool, (∀ v ∈ vs, ∃ (a : Addr) (r : Row) (t1 t2 t3 : Tok), v = .ref a ∧ (a, tupObj [.str (one r.c) t1, .int r.z t2, .str (one r.o) t3]) ∈ led ∧ p v = !isPad r.c) ∧ (vs.filter p).length = cntV rs := by
  classical
  let p : Value → Bool := fun v => decide (∃ a c t rest, v = .ref a ∧ (a, tupObj (.str (one c) t :: rest)) ∈ led ∧ isPad c = false)
  have key : ∀ a (r : Row) t1 rest, (a, tupObj (.str (one r.c) t1 :: rest)) ∈ led → p (.ref a) = !isPad r.c := by
    intro a r t1 rest hm
    show decide _ = _
    rw [Bool.eq_iff_iff]
    simp only [decide_eq_true_eq, Bool.not_eq_true']
    constructor
    · rintro ⟨a', c, t, rest', e, hm', hc⟩
      cases e
      have e := inj a _ _ hm hm'
      have e2 : (.str (one r.c) t1 :: rest : List Value).toArray = (.str (one c) t :: rest' : List Value).toArray := by
        have := congrArg Obj.data e
        simp only [tupObj] at this
        injection this
      have e3 := congrArg Array.toList e2
      simp only [List.cons.injEq, Value.str.injEq] at e3
      have e4 : r.c = c := by
        have := congrArg PySem.Str.cps e3.1.1
        unfold one at this
        simpa using this
      rw [e4]; exact hc
    · intro hc
      exact ⟨a, r.c, t1, rest, rfl, hm, hc⟩
  refine ⟨p, ?_, ?_⟩
  · intro v hv
    obtain ⟨i, hi, rfl⟩ := List.mem_iff_getElem.mp hv
    obtain ⟨a, r, t1, t2, t3, e, _, hm⟩ := h.get i vs[i] (List.getElem?_eq_getElem hi)
    rw [e]
    exact ⟨a, r, t1, t2, t3, rfl, hm, key a r t1 _ hm⟩
  · have : ∀ {vs : List Value} {rs : List Row}, RowsIn led vs rs → (vs.filter p).length = cntV rs := by
      intro vs rs h
      induction h with
      | nil => rfl
      | cons hm _ ih =>
        unfold cntV at ih ⊢
        rw [List.filter_cons, List.filter_cons, key _ _ _ _ hm]
        split
        · simp [ih]
        · exact ih
    exact this h
theorem news_inj {g h : Heap} {L : Addr} {led : List (Addr × Obj)} (N : News g L h led) : ∀ a o o', (a, o) ∈ led → (a, o') ∈ led → o = o' := fun a o o' h1 h2 => Option.some.inj ((N _ h1).1.symm.trans (N _ h2).1)
theorem News.sub {g h : Heap} {L : Addr} {led led' : List (Addr × Obj)} (N : News g L h led) (hs : ∀ p ∈ led', p ∈ led) : News g L h led' := fun p hp => N p (hs p hp)
theorem Paired.len {G : Value → Value → Prop} {xs ys : List Value} (h : Paired G xs ys) : ys.length = xs.length := by
  induction h with
  | nil => rfl
  | cons _ _ ih => simp [ih]
theorem news_swap1 {g h : Heap} {L : Addr} {d b f : Addr × Obj} {rest : List (Addr × Obj)} (N : News g L h (d :: b :: f :: rest)) : News g L h (b :: f :: ([d] ++ rest)) := News.sub N fun p hp => by
  simp only [List.mem_cons, List.mem_append, List.cons_append, List.nil_append] at hp ⊢
  rcases hp with h | h | h | h <;> simp [h]
theorem news_swap2 {g h : Heap} {L : Addr} {d e b f : Addr × Obj} {rest : List (Addr × Obj)} (N : News g L h (d :: e :: b :: f :: rest)) : News g L h (b :: f :: ([d] ++ rest)) := News.sub N fun p hp => by
  simp only [List.mem_cons, List.mem_append, List.cons_append, List.nil_append] at hp ⊢
  rcases hp with h | h | h | h <;> simp [h]
def RowsV (led : List (Addr × Obj)) (rv : Value) (k : Nat) : Prop := (rv = .none ∧ k = 3) ∨ ∃ R rvs rn rows, rv = .ref R ∧ (R, W.listOf rvs.toArray rn) ∈ led ∧ RowsIn led rvs rows ∧ rows.length ≤ 100 ∧ k = cntV rows
def NmRes (led : List (Addr × Obj)) (nv : Value) (names : Option (List PySem.Str)) (k : Nat) : Prop :=
  (nv = .none ∧ names = none) ∨ ∃ a vs ws, nv = .ref a ∧ names = some ws ∧ StrsAre vs ws ∧ ws.length ≤ 8 ∧ ((∃ n, (a, W.listOf vs.toArray n) ∈ led) ∨ ((a, tupObj vs) ∈ led ∧ ws.length = k))
theorem words_len {j : Int} (h0 : 0 ≤ j) (h7 : j ≤ 7) : (words.take j.toNat).length = j.toNat := by
  rw [List.length_take]
  show min _ 8 = _
  omega
theorem nm_tup {D : Addr} {vs : List Value} {j : Int} {k : Nat} (hv : vs = wordVs.take j.toNat) (h0 : 0 ≤ j) (h7 : j ≤ 7) (hk : j = k) : NmRes [(D, tupObj vs)] (.ref D) (some (words.take j.toNat)) k := by
  have hl := words_len h0 h7
  refine .inr ⟨_, _, _, rfl, rfl, hv ▸ strs_take words_are _, by omega, .inr ⟨.head _, by omega⟩⟩
theorem nm_list {D : Addr} {vs : List Value} {j : Int} {k n : Nat} (hv : vs = wordVs.take j.toNat) (h0 : 0 ≤ j) (h7 : j ≤ 7) : NmRes [(D, W.listOf vs.toArray n)] (.ref D) (some (words.take j.toNat)) k := by
  have hl := words_len h0 h7
  refine .inr ⟨_, _, _, rfl, rfl, hv ▸ strs_take words_are _, by omega, .inl ⟨_, .head _⟩⟩
local macro_rules | `(tactic| walk_at "call ref") => `(tactic| (k_here; (with_reducible show wpAny _ _ (call (Value.ref 326) _) _ _ _); (k_dflt (refine' draw_g _ ?B ?F ?X ?N ?U ?hf ?T rfl ?hi ?hns ?hns2 ?hc ?hl ?hd ?hu ?_; (case B => k_asm); (case F => k_asm); (case X => k_asm); (case N => k_asm); (case U => k_updF); (case hf => k_mem); (case T => k_asm); (case hi => assumption); (case hns => assumption); (case hns2 => assumption); (case hc => omega); (case hl => omega); (case hd => first | omega | ktr_room); (case hu => first | omega | ktr_units); k_whole)); intro v9 t9 t8 h9 tk9 g0 g1 F9 N9; (try dsimp only at N9); (try k_sweep)))
local macro_rules | `(tactic| walk_at "call ref") => `(tactic| ((fail_if_success (rename Go => gg)); (with_reducible show wpAny _ _ (call (Value.ref 326) _) _ _ _); refine Halt.out ?_))
local macro_rules | `(tactic| walk_at "exec If") => `(tactic| ((fail_if_success (rename Go => gg)); (with_reducible show wpAny _ _ (exec (Stmt.If (PySem.Expr.Compare _ (CmpOp.GtE :: _) _ _) _ _ _) _) _ _ _); refine Halt.out ?_))
local macro_rules | `(tactic| walk_at "call type:range") => `(tactic| refine Halt.out ?_)
local macro_rules | `(tactic| walk_at "exec For Name Call cons nil") => `(tactic| refine Halt.out ?_)
local macro_rules | `(tactic| walk_at "subscriptTail Name Call ref int") => `(tactic| (k_here; k_dflt (first
  | (refine' r_tab (ws := goods) ?t goods_are goods_size ?a ?b ?c ?_; (case t => exact tupK (by k_asm) (by k_asm) (at317 _)); (case a => omega); (case b => (rw [lenG]; omega)); (case c => omega))
  | (refine' r_tab (ws := mks) ?t ?w mks_size4 ?a ?b ?c ?_; (case t => exact News.isTup (by k_asm) (by k_mem)); (case w => (exact .cons _ _ (.cons _ _ (.cons _ _ (.cons _ _ .nil))))); (case a => omega); (case b => (rw [lenM]; omega)); (case c => omega))
  | (refine' r_tab (ws := sps) ?t ?w sps_size4 ?a ?b ?c ?_; (case t => exact News.isTup (by k_asm) (by k_mem)); (case w => (exact .cons _ _ (.cons _ _ (.cons _ _ (.cons _ _ (.cons _ _ (.cons _ _ .nil))))))); (case a => omega); (case b => (rw [lenS]; omega)); (case c => omega))); intro _ _))
local macro_rules | `(tactic| walk_at "subscriptTail Name BinOp ref int") => `(tactic| (k_here; k_dflt (first
  | (refine' r_tab (ws := goods) ?t goods_are goods_size ?a ?b ?c ?_; (case t => exact tupK (by k_asm) (by k_asm) (at317 _)); (case a => exact fmod_lo _ (by decide)); (case b => exact fmod_hi _ (by decide)); (case c => exact Int.lt_trans (fmod_hi _ (by decide)) (by decide)))
  | (refine' r_tab (ws := bads) ?t bads_are bads_size ?a ?b ?c ?_; (case t => exact tupK (by k_asm) (by k_asm) (at318 _)); (case a => exact fmod_lo _ (by decide)); (case b => exact fmod_hi _ (by decide)); (case c => exact Int.lt_trans (fmod_hi _ (by decide)) (by decide)))); intro _ _))
local macro_rules | `(tactic| walk_at "binaryOp Add str str") => `(tactic| (k_here; k_dflt (refine r_add ?a ?b ?_; (case a => (first | omega | ((simp only [Array.size_append]); omega))); (case b => (first | omega | ((simp only [Array.size_append]); omega)))); intro _ _))
local macro_rules | `(tactic| walk_at "subscriptTail Name Constant ref int") => `(tactic| (k_here; k_dflt (refine' item_tupleT ?t ?a ?b ?c ?d ?_; (case t => first | assumption | exact News.isTup (by k_asm) (List.Mem.tail _ (by assumption))); (case a => decide); (case b => decide); (case c => rfl); (case d => rfl))))
local macro_rules | `(tactic| walk_at "eval ListComp") => `(tactic| refine Halt.out ?_)
local macro_rules | `(tactic| walk_at "exec If") => `(tactic| ((fail_if_success (rename Go => gg)); (with_reducible show wpAny _ _ (exec (Stmt.If (PySem.Expr.Compare _ (CmpOp.IsNot :: _) _ _) _ _ _) _) _ _ _); refine Halt.out ?_))
local macro_rules | `(tactic| walk_at "subscriptTail Name Slice ref ref") => `(tactic| ((with_reducible show wpAny _ _ (subscriptTail _ (PySem.Expr.Slice none (some _) none _) _ _) _ _ _); (with_reducible rename Fr _ _ _ _ => F'); (with_reducible rename News _ _ _ _ => N'); k_dflt (refine' r_wordsTo (s := ⟨_, _, _, _, _⟩) (items := wordVs) F' N' ?t ?a ?b ?c ?_; (case t => exact tupK (by k_asm) F' (at319 _)); (case a => omega); (case b => (show _ < (8 : Int); omega)); (case c => decide)); intro D9 h9 F9 N9 l9; (try k_sweep)))
local macro_rules | `(tactic| walk_at "call type:list") => `(tactic| (k_here; (with_reducible show wpAny _ _ (call (Value.type _) [Value.ref _]) _ _ _); k_dflt (refine' kup_listOfT ?F ?N ?b rfl ?_ ?z; (case F => k_asm); (case N => k_asm); (case b => k_mem); (case z => (rw [List.length_take]; exact Nat.le_trans (Nat.min_le_right _ _) (by decide)))); intro D8 c8 h8 F8 N8 l8; (try k_sweep)))
local macro_rules | `(tactic| walk_at "call type:tuple") => `(tactic| (k_here; (with_reducible show wpAny _ _ (call (Value.type _) [Value.ref _]) _ _ _); k_dflt (refine' call_tuple_tup ?t ?_; (case t => exact News.isTup (by k_asm) (by k_mem)))))
local macro_rules | `(tactic| walk_at "call builtin:len") => `(tactic| (k_here; (with_reducible show wpAny _ _ (call (Value.builtin "len") [Value.ref _]) _ _ _); k_dflt (refine' r_lenL ?N ?a ?b ?c ?_; (case N => k_asm); (case a => k_mem); (case b => assumption); (case c => omega)); intro _ _))

theorem names_ok (w : World) {dp un : Nat} {gd : Option (List Code)} {cn : PySem.Str} {cs : Scope} {a : Addr} {ccd : Value} {cl : List (PySem.Str × Addr)} {outer : List Env} {A₀ : Around} {base h₀ : Heap} {L : Addr} {m : PySem.Str → Option Value} {s : Shared} {Q E : Value → Shared → Prop} {mean : ExcName → Option Value} {mg mb : PySem.Str → Option Value} {box few : Addr} {c : Int} {tc : Tok} {vs : List Value} {ns : List Int} {n1 n2 : Nat} {rest : List (Addr × Obj)} {rv : Value} {k : Nat}
  (B : Below A₀ base outer h₀) (F : Fr h₀ L s.heap m) (X : (Mine.hd.heap_39 w.params).In h₀) (N : News h₀ L s.heap ((box, W.listOf #[.ref few, .int c tc] n1) :: (few, W.listOf vs.toArray n2) :: rest)) (T : Top Mine.hd.view_39 (looseW Mine.hd.view_39 [Str.ofString "_twin_re_1"]) mean mg mb h₀) (hk : cs.kind = .function) (hd : dp + 8 < recursionLimit) (hu : un + 64 < cLine) (hne : few ≠ box) (hrest : ∀ p ∈ rest, p.1 ≠ box) (hi : IntsAre vs ns) (hns : 0 < ns.length) (hns' : ns.length ≤ 63) (hc : 0 ≤ c) (hrv : RowsV rest rv k) (hk7 : k ≤ 7)
  (hret : ∀ nv names T' c' t' h' tk', NmRes T' nv names k → 0 ≤ c' → Fr h₀ L h' m → News h₀ L h' ((box, W.listOf #[.ref few, .int c' t'] n1) :: (few, W.listOf vs.toArray n2) :: (T' ++ rest)) → (∀ q ∈ T', q.1 ≠ box) → Q nv { s with heap := h', toks := tk' }) :
  wpAny (model PySem.Challenge.rw_eh5007_01.row.prog w) (ktrTop dp un gd cn cs L a ccd cl outer) (call (.ref 380) [.ref box, rv]) Q E s := by
  (w_top off; (have fillIt : PySem.Challenge.rw_eh5007_01 = PySem.Challenge.rw_eh5007_01 ∧ Mine.hd.heap_39 = Mine.hd.heap_39 := by (k_fill; exact ⟨rfl, rfl⟩)); clear fillIt)
  refine wpAny_call ?_
  k_dflt (refine' code_def ?k1 ?k2 ?k3 ?k4 ?k5 ?kA ?kF ?kK ?k6 ?k7 ?k8 ?k9 ?kB ?_ ?c2 ?c3 ?c4 ?c5; (case kA => exact rfl); (case kF => exact rfl); (case kK => assumption); (case k1 => k_asm); (case k2 => k_asm); (case k3 => k_asm); (case k4 => k_asm); (case k5 => k_asm); (case k6 => k_is); (case k7 => k_is); (case k8 => ktr_room); (case k9 => exact BindsTo.of_eq rfl); (case c5 => decide); (case kB => exact locs rfl); (case c2 => exact rfl); (case c3 => exact rfl); (case c4 => exact rfl); k_whole)
  intro gE LE hE FGE FE NE BE XE TE
  (try dsimp only)
  k_fold
  k_steps
  refine Halt.mk (cutF (g := gE) (L := LE) (fun m' nw => (box, W.listOf #[.ref few, .int c tc] n1) :: (few, W.listOf vs.toArray n2) :: rest = nw ∧ ∃ tk, m' (Str.ofString "many") = some (.int ((k : Nat) : Int) tk) ∧ m' (Str.ofString "box") = some (.ref box)) ?_ ?_)
  · have go := Go.mk
    rcases hrv with ⟨rfl, rfl⟩ | ⟨R, rvs, rn, rows, rfl, hR, hrows, hrl, rfl⟩
    · k_steps
      exact PostF.intro (by assumption) (by assumption) ⟨rfl, _, by with_unfolding_all first | rfl | assumption, by with_unfolding_all first | rfl | assumption⟩
    · k_steps
      rename Fr _ _ _ _ => F2
      rename News _ _ _ _ => N2
      have hrn := hrows.mono (led' := (box, W.listOf #[.ref few, .int c tc] n1) :: (few, W.listOf vs.toArray n2) :: rest) fun p hp => .tail _ (.tail _ hp)
      obtain ⟨p, hp, hpl⟩ := rows_p hrn (news_inj N2)
      have hrl2 := hrows.len
      refine Halt.mk (compL (h₀ := gE) (L := LE) (R := R) (its := rvs) (n := rn) (p := p) (G := fun _ _ => True) F2 N2 rfl (by decide) (by decide) rfl (by decide) rfl (.tail _ (.tail _ hR)) (by omega) ?_ ?_ (by intro _; rfl) ?_)
      · intro C v s3 m3 E' hv hns hm hn
        obtain ⟨a, r, t1, t2, t3, rfl, hmem, hpv⟩ := hp v hv
        have hT : IsTup s3.heap a [Value.str (one r.c) t1, .int r.z t2, .str (one r.o) t3].toArray := ⟨_, hn _ hmem, rfl, _, rfl⟩
        rw [hpv]
        rw [List.forIn_cons]
        refine wpAny_bind (wpAny_ite ?_)
        rw [if_pos rfl]
        refine wpAny_bind ?_
        k_steps
        refine wpAny_pure ?_
        dsimp only
        rw [List.forIn_nil]
        exact wpAny_pure ⟨rfl, _, _, rfl, fun _ _ e => e⟩
      · intro C v s3 m3 E' hv _ hns hm hn
        k_steps
        all_goals first | trivial | exact ⟨_, _, rfl, fun _ _ e => e⟩
      k_steps
      · assumption
      · assumption
      rename Paired _ _ _ => hpair
      have hyl := (Mine.Paired.len hpair).trans hpl
      have hyk : cntV rows ≤ 100 := by omega
      k_steps
      rename News _ _ _ _ => N8
      refine PostF.intro (by assumption) (dropA N8) ⟨rfl, _, by with_unfolding_all first | rfl | assumption, by with_unfolding_all first | rfl | assumption⟩
  intro h3 tk3 m3 nw3 F3 N3 hJ3
  obtain ⟨rfl, tk4, hk1, hk2⟩ := hJ3
  k_steps
  refine Halt.mk ?_
  (k_dflt (refine' draw_g _ ?B ?F ?X ?N ?U ?hf ?T rfl ?hi ?hns ?hns2 ?hc ?hl ?hd ?hu ?_; (case B => k_asm); (case F => k_asm); (case X => k_asm); (case N => k_asm); (case U => k_updF); (case hf => k_mem); (case T => k_asm); (case hi => assumption); (case hns => assumption); (case hns2 => assumption); (case hc => omega); (case hl => omega); (case hd => first | omega | ktr_room); (case hu => first | omega | ktr_units); k_whole))
  intro v t9 t8 h9 tk9 g0 g1 F9 N9
  try k_sweep
  try clear N3
  have go := Go.mk
  by_cases hv0 : v = 0
  · have e0 : (v == 0) = true := beq_iff_eq.mpr hv0
    k_steps
    rename News _ _ _ _ => N7
    exact hret _ none [] (c + 1) _ _ _ (.inl ⟨rfl, rfl⟩) (by omega) (by assumption) N7 (fun _ h => nomatch h)
  have e0 : (v == 0) = false := beq_eq_false_iff_ne.mpr hv0
  by_cases hv1 : v = 1
  · have e1 : (v == 1) = true := beq_iff_eq.mpr hv1
    k_steps
    rename News _ _ _ _ => N7
    rename (∀ (p : Addr × Obj), p ∈ (_ :: _ : List (Addr × Obj)) → p.1 < _) => l7
    refine hret _ _ _ (c + 1) _ _ _ (nm_tup rfl ?_ ?_ ?_) (by omega) (by assumption) (news_swap1 N7) ?_
    · omega
    · omega
    · omega
    · intro q hq
      rw [List.mem_singleton.mp hq]
      exact Nat.ne_of_gt (l7 _ (.head _))
  have e1 : (v == 1) = false := beq_eq_false_iff_ne.mpr hv1
  by_cases hv2 : v = 2
  · have e2 : (v == 2) = true := beq_iff_eq.mpr hv2
    k_steps
    rename News _ _ _ _ => N7
    rename (∀ (p : Addr × Obj), p ∈ (_ :: _ :: _ :: _ : List (Addr × Obj)) → p.1 < _) => l7
    refine hret _ _ _ (c + 1) _ _ _ (nm_list rfl ?_ ?_) (by omega) (by assumption) (news_swap2 N7) ?_
    · first | omega | (split <;> omega)
    · first | omega | (split <;> omega)
    · intro q hq
      rw [List.mem_singleton.mp hq]
      exact Nat.ne_of_gt (l7 _ (.tail _ (.head _)))
  have e2 : (v == 2) = false := beq_eq_false_iff_ne.mpr hv2
  k_steps
  rename News _ _ _ _ => N7
  rename (∀ (p : Addr × Obj), p ∈ (_ :: _ :: _ :: _ : List (Addr × Obj)) → p.1 < _) => l7
  refine hret _ _ _ (c + 1) _ _ _ (nm_list rfl ?_ ?_) (by omega) (by assumption) (news_swap2 N7) ?_
  · first | omega | (split <;> omega)
  · first | omega | (split <;> omega)
  · intro q hq
    rw [List.mem_singleton.mp hq]
    exact Nat.ne_of_gt (l7 _ (.tail _ (.head _)))
end Mine
end
section
open PySem PySem.W PyProof.Rows
set_option maxRecDepth 100000
set_option maxHeartbeats 8000000
namespace Mine
local macro_rules | `(tactic| k_all) => `(tactic| assumption)
local macro_rules | `(tactic| k_room) => `(tactic| ktr_room)
local macro_rules | `(tactic| walk_at "call builtin:list.append") => `(tactic| (k_here; (with_reducible show wpAny _ _ (call (Value.builtin _) [Value.ref _, _]) _ _ _); k_dflt (refine' append_K ?k1 ?k2 ?k3 ?_ ?z; (case k1 => k_asm); (case k2 => k_asm); (case k3 => k_upd); (case z => (have hz9 := size_line; simp only [List.size_toArray]; omega)); k_whole); intro h9 F9 N9; (try k_sweep)))
local macro_rules | `(tactic| walk_at "call type:int") => `(tactic| (k_here; (with_reducible show wpAny _ _ (call (Value.type "int") [Value.str _ _]) _ _ _); k_dflt (refine' KIN.call_text ?a ?b ?_; (case a => assumption); (case b => (simp only [PySem.Str.length, Array.size_extract]; omega)))))
local macro_rules | `(tactic| walk_at "binaryOp Add str str") => `(tactic| (k_here; k_dflt (refine r_add ?a ?b ?_; (case a => (first | omega | ((simp only [Array.size_extract]); omega) | (show 1 ≤ 1000; decide))); (case b => (first | omega | (show 1 ≤ 1000; decide) | ((simp only [Array.size_extract]); omega)))); intro _ _))
local macro_rules | `(tactic| walk_at "newTuple") => `(tactic| (k_here; k_dflt (refine r_newTuple ?a ?b ?_ ?c; (case a => k_asm); (case b => k_asm); (case c => decide); k_whole); intro a9 h9 F9 N9 l9; (try k_lt l9); (try k_sweep)))
local macro_rules | `(tactic| k_steps) => `(tactic| repeat' ((fail_if_success (with_reducible show Halt _)); first | (k_unfold; (try dsimp only)) | (k_end; kc_close) | walk1 | (dsimp only; walk1) | (leave1; walk_say "STEP leave1"; (try dsimp only)) | fail "no step"))
local macro_rules | `(tactic| walk_at "eval Name") => `(tactic| (k_here; k_dflt (refine' nameX_L ?F ?v ?_ ?a ?b; (case F => k_asm); (case a => rfl); (case b => rfl); (case v => first | rfl | assumption); k_whole)))
local macro_rules | `(tactic| walk_at "subscriptTail Name Name str int") => `(tactic| (k_here; k_dflt (refine r_item ?a ?b ?c ?_; (case a => omega); (case b => omega); (case c => omega))))
local macro_rules | `(tactic| walk_at "compareOp In str str") => `(tactic| (k_here; k_dflt (first | with_reducible refine r_in mem_marks ?_ | with_reducible refine r_in mem_marks' ?_ | with_reducible refine r_in mem_pads ?_ | with_reducible refine r_in mem_digs ?_ | with_reducible refine r_in mem_sps ?_ | with_reducible refine r_in mem_lets ?_ | with_reducible refine r_in mem_ub ?_ | with_reducible refine r_in mem_vals ?_)))
local macro_rules | `(tactic| walk_at "compareOp NotIn str str") => `(tactic| (k_here; k_dflt (first | with_reducible refine r_notIn mem_lets ?_ | with_reducible refine r_notIn mem_pads ?_ | with_reducible refine r_notIn mem_vals ?_)))
local macro_rules | `(tactic| walk_at "call builtin:len") => `(tactic| (k_here; (with_reducible show wpAny _ _ (call (Value.builtin "len") [Value.str _ _]) _ _ _); k_dflt (refine r_len ?a ?_; (case a => omega))))
local macro_rules | `(tactic| walk_at "subscriptTail Name UnaryOp str int") => `(tactic| (k_here; k_dflt (refine r_last ?a ?_; (case a => omega))))
local macro_rules | `(tactic| walk_at "subscriptTail Name Slice str ref") => `(tactic| ((with_reducible show wpAny _ _ (subscriptTail _ (Expr.Slice none (some _) none _) _ _) _ _ _); (with_reducible rename Fr _ _ _ _ => F'); (with_reducible rename News _ _ _ _ => N'); k_dflt (refine r_init (s := ⟨_, _, _, _, _⟩) F' N' ?a ?b ?_; (case a => omega); (case b => omega)); intro _ _ _ _ _))

local macro_rules | `(tactic| walk_at "call builtin:len") => `(tactic| (k_here; (with_reducible show wpAny _ _ (call (Value.builtin "len") [Value.ref _]) _ _ _); k_dflt (refine' r_lenSeq ?N ?a ?b ?c ?_; (case N => k_asm); (case a => first | assumption | exact SeqIn.tl (by assumption) | exact SeqIn.tl (SeqIn.tl (by assumption)) | exact SeqIn.tl (SeqIn.tl (SeqIn.tl (by assumption)))); (case b => assumption); (case c => assumption)); intro _ _))
local macro_rules | `(tactic| walk_at "subscriptTail Name Name ref int") => `(tactic| (k_here; k_dflt (refine' r_itemSeq ?N ?a ?b ?c ?d ?e ?_; (case N => k_asm); (case a => first | assumption | exact SeqIn.tl (by assumption) | exact SeqIn.tl (SeqIn.tl (by assumption)) | exact SeqIn.tl (SeqIn.tl (SeqIn.tl (by assumption)))); (case b => assumption); (case c => omega); (case d => omega); (case e => assumption)); intro _))
local macro_rules | `(tactic| walk_at "exec For Tuple Name cons nil") => `(tactic| refine Halt.out ?_)
local macro_rules | `(tactic| walk_at "pyIter ref") => `(tactic| refine Halt.out ?_)
local macro_rules | `(tactic| walk_at "call ref") => `(tactic| ((with_reducible show wpAny _ _ (call (Value.ref 316) _) _ _ _); refine Halt.out ?_))

theorem answer_ok (w : World) {dp un : Nat} {gd : Option (List Code)} {cn : PySem.Str} {cs : Scope} {a : Addr} {ccd : Value} {A₀ : Around} {base h₀ : Heap} {L : Addr} {m : PySem.Str → Option Value} {s : Shared} {Q E : Value → Shared → Prop} {mean : ExcName → Option Value} {mg mb : PySem.Str → Option Value} {x b cc cw : PySem.Str} {mk : Nat} {tx tc tw : Tok} {nv : Value} {names : Option (List PySem.Str)} {D : DueR} {news : List (Addr × Obj)}
  (B : Below A₀ base [] h₀) (F : Fr h₀ L s.heap m) (X : (Mine.hd.heap_39 w.params).In h₀) (N : News h₀ L s.heap news) (T : Top Mine.hd.view_39 (looseW Mine.hd.view_39 [Str.ofString "_twin_re_1"]) mean mg mb h₀) (hk : cs.kind = .function) (XB : (Mine.hd.heap_39 w.params).In base) (TB : Top Mine.hd.view_39 (looseW Mine.hd.view_39 [Str.ofString "_twin_re_1"]) mean mg mb base) (hd : dp + 32 < recursionLimit) (hu : un + 256 < cLine) (hx : Split x b mk) (hxs : x.cps.size ≤ 100) (hF : Fine b.cps) (hnm : NamesIn news nv names) (hD : PRes b names D) (hlist : D = .idx → ∃ a vs n ws, nv = .ref a ∧ names = some ws ∧ StrsAre vs ws ∧ (a, W.listOf vs.toArray n) ∈ news)
  (hret : ∀ r O vs T' t n its h' tk', D = .ok its → InfosIn w.params cc cw T' vs its → (O, W.listOf vs.toArray n) ∈ T' → Fr h₀ L h' m → News h₀ L h' ((r, tupObj [.ref O, .str (one mk) t]) :: (T' ++ news)) → (∀ q ∈ T', ∀ p ∈ news, p.1 < q.1) → Q (.ref r) { s with heap := h', toks := tk' })
  (hE1 : ∀ t h' tk', D = .err → Fr h₀ L h' m → News h₀ L h' news → Q (.str (Str.ofString "error") t) { s with heap := h', toks := tk' })
  (hE2 : ∀ t h' tk', D = .idx → Fr h₀ L h' m → News h₀ L h' news → Q (.str (Str.ofString "index") t) { s with heap := h', toks := tk' }) :
  wpAny (model PySem.Challenge.rw_eh5007_01.row.prog w) (ktrTop dp un gd cn cs L a ccd [] []) (call (.ref 387) [.str x tx, nv, .str cc tc, .str cw tw]) Q E s := by
  (w_top off; (have fillIt : PySem.Challenge.rw_eh5007_01 = PySem.Challenge.rw_eh5007_01 ∧ Mine.hd.heap_39 = Mine.hd.heap_39 := by (k_fill; exact ⟨rfl, rfl⟩)); clear fillIt)
  refine wpAny_call ?_
  k_dflt (refine' code_defS0 ?k1 ?k2 ?k3 ?k4 ?k5 ?kA ?k6 ?k7 ?k8 ?k9 ?kB ?_ ?cK ?c2 ?c3 ?c4 ?c5; (case kA => exact rfl); (case k2 => k_asm); (case k1 => k_asm); (case k3 => k_asm); (case k4 => k_asm); (case k5 => k_asm); (case k6 => k_is); (case k7 => k_is); (case k8 => ktr_room); (case k9 => exact BindsTo.of_eq rfl); (case kB => exact locs rfl); (case cK => assumption); (case c2 => exact rfl); (case c3 => exact rfl); (case c4 => exact rfl); (case c5 => decide); k_whole)
  intro gE LE hE FGE FE NE BE XE TE DE
  (try dsimp only)
  k_fold
  k_steps
  rename Fr _ _ _ _ => F3
  rename News _ _ _ _ => N3
  refine Halt.mk (parse_ok w BE F3 XE N3 TE rfl (by ktr_room) (by ktr_units) hx hxs hF hnm hD hlist ?_ ?_ ?_)
  · intro r9 O9 vs9 T9 t9 n9 its9 h9 tk9 hD9 hi9 hm9 F9 N9 l9
    clear F3 N3
    k_steps
    exact hret _ _ _ _ _ _ _ _ _ hD9 hi9 hm9 (by assumption) (by assumption) l9
  · intro e9 t9 vs9 g9 h9 tk9 hD9 F9 R9 U9
    clear N3
    k_steps
    exact hE1 _ _ _ hD9 (by assumption) (by assumption)
  · intro e9 g9 h9 tk9 hD9 F9 R9 U9
    clear N3
    k_steps
    exact hE2 _ _ _ hD9 (by assumption) (by assumption)
end Mine
end
section
open PySem PySem.W PyProof.Rows PySem.Sre
set_option maxRecDepth 100000
set_option maxHeartbeats 8000000
namespace Mine
theorem fa_of_lx {T : Array Nat} {p : Nat} {gs : List Spot} (h : Lx T p gs) : ∀ {r : List Spot}, FA T p r → FA T 0 (gs ++ r) := by
  induction h with
  | nil => intro r h; exact h
  | snoc _ H ih =>
    intro r h
    rw [List.append_assoc]
    exact ih (.hit (Nat.le_refl _) (fun t h1 h2 => absurd h2 (Nat.not_lt.mpr h1)) H h)
theorem fa_end (T : Array Nat) : FA T T.size [] := .done fun t ht q d e H => by
  have h1 := H.stop_le
  have h2 := H.lt
  omega
theorem lx_full {T : Array Nat} {gs gs' : List Spot} (h : Lx T T.size gs) (h' : Lx T T.size gs') : gs = gs' := by
  have := fa_of_lx h (fa_end T)
  rw [List.append_nil] at this
  exact (fa_all h' this).1
theorem lx_no {T : Array Nat} {p : Nat} {gs gs' : List Spot} (h : Lx T T.size gs) (h' : Lx T p gs') (hp : p < T.size) (hm : ∀ q d e, ¬ Hit T p q d e) : False := by
  have := fa_of_lx h (fa_end T)
  rw [List.append_nil] at this
  exact fa_fail h' hp hm this (fa_all h this).2
theorem lx_hits {T : Array Nat} {p : Nat} {gs : List Spot} (h : Lx T p gs) : ∀ g ∈ gs, Hit T g.s g.q g.d g.e := by
  induction h with
  | nil => intro g hg; cases hg
  | snoc _ H ih =>
    intro g hg
    rcases List.mem_append.mp hg with hg | hg
    · exact ih g hg
    · rw [List.mem_singleton.mp hg]; exact H
theorem rows_mem {T : Array Nat} : ∀ (gs : List Spot) (o : Nat) (r : Row), r ∈ rowsOf T o gs → ∃ g ∈ gs, r.c = T.getD g.q 0 ∧ r.z = num T g
  | [], _, _, h => nomatch h
  | g :: gs, o, r, h => by
    rcases List.mem_cons.mp h with rfl | h
    · exact ⟨g, .head _, rfl, rfl⟩
    · obtain ⟨g', h1, h2⟩ := rows_mem gs _ r h
      exact ⟨g', .tail _ h1, h2⟩
theorem rows_num {T : Array Nat} (F : Fine T) {p o : Nat} {gs : List Spot} (h : Lx T p gs) : ∀ r ∈ rowsOf T o gs, 0 ≤ r.z ∧ r.z ≤ 999 := by
  intro r hr
  obtain ⟨g, hg, _, hz⟩ := rows_mem gs o r hr
  have := num_ok F (lx_hits h g hg)
  rw [hz]
  exact ⟨this.2.1, this.2.2.1⟩
theorem lx_len2 {T : Array Nat} {p : Nat} {gs : List Spot} (h : Lx T p gs) : 2 * gs.length ≤ p := by
  induction h with
  | nil => exact Nat.le_refl _
  | snoc _ H ih =>
    have := H.stop_le
    rw [List.length_append]
    simp only [List.length_cons, List.length_nil]
    omega
theorem pre_ok {d : DueR} {a its : List Item} (h : d.pre a = .ok its) : ∃ b, d = .ok b ∧ its = a ++ b := by
  cases d with
  | ok l => exact ⟨l, rfl, by simpa [DueR.pre] using h.symm⟩
  | err => cases h
  | idx => cases h
theorem due_its {names : Option (List PySem.Str)} : ∀ (rows : List Row) (p : Nat) (its : List Item), due names p rows = .ok its → its.map Item.row = rows ∧ ∀ i ∈ its, i.row.z ≠ 0
  | [], _, its, h => by
    simp only [due, DueR.ok.injEq] at h
    subst h
    exact ⟨rfl, fun _ h => nomatch h⟩
  | r :: rs, p, its, h => by
    rw [due_cons] at h
    by_cases hz : r.z = 0
    · rw [if_pos hz] at h; cases h
    rw [if_neg hz] at h
    have step : ∀ (nm : NameV) (q : Nat), (due names q rs).pre [⟨r, nm⟩] = .ok its → its.map Item.row = r :: rs ∧ ∀ i ∈ its, i.row.z ≠ 0 := by
      intro nm q h
      obtain ⟨b, hb, rfl⟩ := pre_ok h
      obtain ⟨h1, h2⟩ := due_its rs q b hb
      refine ⟨by simp [h1], ?_⟩
      intro i hi
      rcases List.mem_append.mp hi with hi | hi
      · rw [List.mem_singleton.mp hi]; exact hz
      · exact h2 i hi
    by_cases hp : isPad r.c = true
    · rw [if_pos hp] at h; exact step _ _ h
    rw [if_neg hp] at h
    cases names with
    | none =>
      dsimp only at h
      by_cases hv : isVal r.c = true
      · rw [if_pos hv] at h; exact step _ _ h
      · rw [if_neg hv] at h; cases h
    | some ws =>
      dsimp only at h
      by_cases hl : p < ws.length
      · rw [if_pos hl] at h
        by_cases hv : isVal r.c = true
        · rw [if_pos hv] at h; exact step _ _ h
        · rw [if_neg hv] at h; cases h
      · rw [if_neg hl] at h; cases h
theorem due_good {names : Option (List PySem.Str)} : ∀ (rows : List Row) (p : Nat), (∀ r ∈ rows, r.z ≠ 0 ∧ (isVal r.c = true ∨ isPad r.c = true)) → (∀ ws, names = some ws → p + cntV rows ≤ ws.length) → ∃ its, due names p rows = .ok its
  | [], _, _, _ => ⟨[], rfl⟩
  | r :: rs, p, h, hn => by
    obtain ⟨hz, hc⟩ := h r (.head _)
    have hr := fun x hx => h x (.tail _ hx)
    rw [due_cons, if_neg hz]
    by_cases hp : isPad r.c = true
    · rw [if_pos hp]
      have hcnt : cntV (r :: rs) = cntV rs := by unfold cntV; rw [List.filter_cons, if_neg (by rw [hp]; decide)]
      rw [hcnt] at hn
      obtain ⟨its, e⟩ := due_good rs p hr hn
      rw [e]
      exact ⟨_, rfl⟩
    · rw [if_neg hp]
      have hv := hc.resolve_right hp
      have hcnt : cntV (r :: rs) = cntV rs + 1 := by
        unfold cntV
        rw [List.filter_cons, if_pos (by simpa using hp), List.length_cons]
      rw [hcnt] at hn
      obtain ⟨its, e⟩ := due_good rs (p + 1) hr fun ws hw => by have := hn ws hw; omega
      cases names with
      | none =>
        dsimp only
        rw [if_pos hv, e]
        exact ⟨_, rfl⟩
      | some ws =>
        dsimp only
        have := hn ws rfl
        rw [if_pos (by omega), if_pos hv, e]
        exact ⟨_, rfl⟩
theorem due_noidx {ws : List PySem.Str} : ∀ (rows : List Row) (p : Nat), p + cntV rows ≤ ws.length → due (some ws) p rows ≠ .idx
  | [], _, _ => by intro h; cases h
  | r :: rs, p, hn => by
    rw [due_cons]
    split
    · intro h; cases h
    split
    · rename_i hp
      have hcnt : cntV (r :: rs) = cntV rs := by unfold cntV; rw [List.filter_cons, if_neg (by rw [hp]; decide)]
      rw [hcnt] at hn
      have := due_noidx rs p hn
      cases hd : due (some ws) p rs with
      | ok l => intro h; cases h
      | err => intro h; cases h
      | idx => exact absurd hd this
    · rename_i hp
      have hcnt : cntV (r :: rs) = cntV rs + 1 := by
        unfold cntV
        rw [List.filter_cons, if_pos (by simpa using hp), List.length_cons]
      rw [hcnt] at hn
      dsimp only
      rw [if_pos (by omega)]
      split
      · have := due_noidx (ws := ws) rs (p + 1) (by omega)
        cases hd : due (some ws) (p + 1) rs with
        | ok l => intro h; cases h
        | err => intro h; cases h
        | idx => exact absurd hd this
      · intro h; cases h
theorem cntV_le (rows : List Row) : cntV rows ≤ rows.length := List.length_filter_le _ _
theorem clean_rows {b : PySem.Str} {gs : List Spot} (h : ∀ g ∈ gs, SpotOk b.cps g) (o : Nat) : ∀ r ∈ rowsOf b.cps o gs, r.z ≠ 0 ∧ (isVal r.c = true ∨ isPad r.c = true) := by
  intro r hr
  obtain ⟨g, hg, hc, hz⟩ := rows_mem gs o r hr
  obtain ⟨h1, h2, _⟩ := h g hg
  rw [hc, hz]
  exact ⟨h2, h1⟩
theorem its_good {b : PySem.Str} (F : Fine b.cps) {names : Option (List PySem.Str)} {gs : List Spot} {its : List Item} (hL : Lx b.cps b.cps.size gs) (hd : due names 0 (rowsOf b.cps 62 gs) = .ok its) : its.length ≤ 100 ∧ ∀ i ∈ its, 1 ≤ i.row.z ∧ i.row.z ≤ 999 := by
  obtain ⟨h1, h2⟩ := due_its _ _ _ hd
  have hl := lx_len2 hL
  have hs := F.small
  have e : its.length = gs.length := by
    have := congrArg List.length h1
    rw [List.length_map, rowsOf_len] at this
    exact this
  refine ⟨by omega, fun i hi => ?_⟩
  have hr : i.row ∈ rowsOf b.cps 62 gs := by rw [← h1]; exact List.mem_map_of_mem hi
  have := rows_num F hL i.row hr
  have := h2 i hi
  omega
def codecs : List PySem.Str := [Str.ofString "utf-8", Str.ofString "koi8-r", Str.ofString "x", Str.ofString ""]
def ways : List PySem.Str := [Str.ofString "strict", Str.ofString "ignore", Str.ofString "y"]
theorem lenC : ((codecs.length : Nat) : Int) = 4 := rfl
theorem lenY : ((ways.length : Nat) : Int) = 3 := rfl
end Mine
end
section
open PySem PySem.W PyProof.Rows
set_option maxRecDepth 100000
set_option maxHeartbeats 8000000
namespace Mine
local macro_rules | `(tactic| k_all) => `(tactic| assumption)
local macro_rules | `(tactic| k_room) => `(tactic| ktr_room)

theorem LexOut.mono {b : PySem.Str} {v : Value} {T T' : List (Addr × Obj)} (h : LexOut b v T) (hs : ∀ p ∈ T, p ∈ T') : LexOut b v T' := by
  rcases h with ⟨gs, R, vs, n, h1, h2, h3, h4⟩ | h
  · exact .inl ⟨gs, R, vs, n, h1, h2, hs _ h3, h4.mono hs⟩
  · exact .inr h
def LexK (b : PySem.Str) (led : List (Addr × Obj)) (rv : Value) (k : Nat) : Prop :=
  (∃ gs R vs n, Lx b.cps b.cps.size gs ∧ rv = .ref R ∧ (R, W.listOf vs.toArray n) ∈ led ∧ RowsIn led vs (rowsOf b.cps 62 gs) ∧ (rowsOf b.cps 62 gs).length ≤ 7 ∧ k = cntV (rowsOf b.cps 62 gs)) ∨
  (rv = .none ∧ k = 3 ∧ ∃ p gs, Lx b.cps p gs ∧ p < b.cps.size ∧ ∀ q d e, ¬ Hit b.cps p q d e)
theorem LexK.mono {b : PySem.Str} {v : Value} {k : Nat} {T T' : List (Addr × Obj)} (h : LexK b T v k) (hs : ∀ p ∈ T, p ∈ T') : LexK b T' v k := by
  rcases h with ⟨gs, R, vs, n, h1, h2, h3, h4, h5⟩ | h
  · exact .inl ⟨gs, R, vs, n, h1, h2, hs _ h3, h4.mono hs, h5⟩
  · exact .inr h
theorem lexK_of {b : PySem.Str} {v : Value} {T : List (Addr × Obj)} (h : LexOut b v T) (h7 : nLet b.cps.toList ≤ 7) : ∃ k, k ≤ 7 ∧ LexK b T v k := by
  rcases h with ⟨gs, R, vs, n, h1, h2, h3, h4⟩ | ⟨h1, h2⟩
  · have hl := lx_lets h1
    have e := rowsOf_len b.cps gs 62
    have hk := cntV_le (rowsOf b.cps 62 gs)
    rw [List.take_of_length_le (by rw [Array.length_toList]; exact Nat.le_refl _)] at hl
    exact ⟨_, by omega, .inl ⟨gs, R, vs, n, h1, h2, h3, h4, by omega, rfl⟩⟩
  · exact ⟨3, by decide, .inr ⟨h1, rfl, h2⟩⟩
theorem LexK.rowsV {b : PySem.Str} {v : Value} {k : Nat} {T : List (Addr × Obj)} (h : LexK b T v k) : RowsV T v k := by
  rcases h with ⟨gs, R, vs, n, h1, h2, h3, h4, h5, h6⟩ | ⟨h1, h2, _⟩
  · exact .inr ⟨R, vs, n, _, h2, h3, h4, by omega, h6⟩
  · exact .inl ⟨h1, h2⟩
theorem NmRes.mono {led led' : List (Addr × Obj)} {nv : Value} {names : Option (List PySem.Str)} {k : Nat} (h : NmRes led nv names k) (hs : ∀ p ∈ led, p ∈ led') : NmRes led' nv names k := by
  rcases h with h | ⟨a, vs, ws, h1, h2, h3, h4, h5⟩
  · exact .inl h
  · refine .inr ⟨a, vs, ws, h1, h2, h3, h4, ?_⟩
    rcases h5 with ⟨n, h5⟩ | ⟨h5, h6⟩
    · exact .inl ⟨n, hs _ h5⟩
    · exact .inr ⟨hs _ h5, h6⟩
theorem NmRes.namesIn {led : List (Addr × Obj)} {nv : Value} {names : Option (List PySem.Str)} {k : Nat} (h : NmRes led nv names k) : NamesIn led nv names := by
  rcases h with h | ⟨a, vs, ws, h1, h2, h3, h4, h5⟩
  · exact .inl h
  · refine .inr ⟨a, vs, ws, h1, h2, h3, ?_, by omega⟩
    rcases h5 with ⟨n, h5⟩ | ⟨h5, h6⟩
    · exact .inl ⟨n, h5⟩
    · exact .inr h5
theorem due_none_noidx : ∀ (rows : List Row) (p : Nat), due none p rows ≠ .idx
  | [], _ => by intro h; cases h
  | r :: rs, p => by
    rw [due_cons]
    have h1 := due_none_noidx rs p
    have h2 := due_none_noidx rs (p + 1)
    split
    · intro h; cases h
    split
    · cases hd : due none p rs with
      | idx => exact absurd hd h1
      | ok l => intro h; cases h
      | err => intro h; cases h
    · dsimp only
      split
      · cases hd : due none (p + 1) rs with
        | idx => exact absurd hd h2
        | ok l => intro h; cases h
        | err => intro h; cases h
      · intro h; cases h
/-- what the law's own reading says of a text -/
structure DueK (b : PySem.Str) (names : Option (List PySem.Str)) (k : Nat) (D : DueR) : Prop where
  res : PRes b names D
  idx : D = .idx → ∃ ws, names = some ws ∧ ws.length < k
  good : ∀ its, D = .ok its → its.length ≤ 100 ∧ ∀ i ∈ its, 1 ≤ i.row.z ∧ i.row.z ≤ 999
theorem dueK_of {b : PySem.Str} (F : Fine b.cps) {names : Option (List PySem.Str)} {gs : List Spot} (hL : Lx b.cps b.cps.size gs) : DueK b names (cntV (rowsOf b.cps 62 gs)) (due names 0 (rowsOf b.cps 62 gs)) where
  res := .inl ⟨gs, hL, rfl⟩
  idx := fun h => by
    cases names with
    | none => exact absurd h (due_none_noidx _ _)
    | some ws =>
      refine ⟨ws, rfl, ?_⟩
      rcases Nat.lt_or_ge ws.length (cntV (rowsOf b.cps 62 gs)) with h1 | h1
      · exact h1
      · exact absurd h (due_noidx _ 0 (by omega))
  good := fun its h => its_good F hL h
theorem DueK.list {b : PySem.Str} {names : Option (List PySem.Str)} {k : Nat} {D : DueR} (h : DueK b names k D) {led : List (Addr × Obj)} {nv : Value} (hn : NmRes led nv names k) : D = .idx → ∃ a vs n ws, nv = .ref a ∧ names = some ws ∧ StrsAre vs ws ∧ (a, W.listOf vs.toArray n) ∈ led := by
  intro hd
  obtain ⟨ws, hw, hl⟩ := h.idx hd
  rcases hn with ⟨_, h2⟩ | ⟨a, vs, ws', h1, h2, h3, h4, h5⟩
  · rw [hw] at h2; cases h2
  · rcases h5 with ⟨n, h5⟩ | ⟨h5, h6⟩
    · exact ⟨a, vs, n, ws', h1, h2, h3, h5⟩
    · rw [hw] at h2; cases h2; omega
theorem DueOut.mono {T T' : List (Addr × Obj)} {v : Value} {D : DueR} (h : DueOut T v D) (hs : ∀ p ∈ T, p ∈ T') : DueOut T' v D := by
  cases D with
  | err => exact h
  | idx => exact h
  | ok its =>
    obtain ⟨O, vs, n, h1, h2, h3⟩ := h
    exact ⟨O, vs, n, h1, hs _ h2, h3.mono hs⟩
def GotR (P : Params) (cc cw : PySem.Str) (mk : Nat) (led : List (Addr × Obj)) (v : Value) : DueR → Prop
  | .err => ∃ t, v = .str (Str.ofString "error") t
  | .idx => ∃ t, v = .str (Str.ofString "index") t
  | .ok its => ∃ r O vs n t, v = .ref r ∧ (r, tupObj [.ref O, .str (one mk) t]) ∈ led ∧ (O, W.listOf vs.toArray n) ∈ led ∧ InfosIn P cc cw led vs its
theorem tup_ne {g h : Heap} {L r box : Addr} {led : List (Addr × Obj)} {vs : List Value} {its : Array Value} {n : Nat} (N : News g L h led) (h1 : (r, tupObj vs) ∈ led) (h2 : (box, W.listOf its n) ∈ led) : r ≠ box := by
  rintro rfl
  have e := news_inj N _ _ _ h1 h2
  have := congrArg Obj.cls e
  simp only [tupObj, W.listOf] at this
  exact absurd this (by decide)

theorem due_k (w : World) {dp un : Nat} {gd : Option (List Code)} {cn : PySem.Str} {cs : Scope} {a : Addr} {ccd : Value} {cl : List (PySem.Str × Addr)} {outer : List Env} {A₀ : Around} {base h₀ : Heap} {L : Addr} {m : PySem.Str → Option Value} {s : Shared} {Q E : Value → Shared → Prop} {mean : ExcName → Option Value} {mg mb : PySem.Str → Option Value} {rv nv : Value} {names : Option (List PySem.Str)} {b : PySem.Str} {k : Nat} {led : List (Addr × Obj)}
  (B : Below A₀ base outer h₀) (F : Fr h₀ L s.heap m) (X : (Mine.hd.heap_39 w.params).In h₀) (N : News h₀ L s.heap led) (T : Top Mine.hd.view_39 (looseW Mine.hd.view_39 [Str.ofString "_twin_re_1"]) mean mg mb h₀) (hk : cs.kind = .function) (hd : dp + 8 < recursionLimit) (hu : un + 64 < cLine) (hlk : LexK b led rv k) (hnm : NamesIn led nv names) (hF : Fine b.cps)
  (hret : ∀ v D T' h' tk', DueK b names k D → DueOut T' v D → Fr h₀ L h' m → News h₀ L h' (T' ++ led) → (∀ q ∈ T', ∀ p ∈ led, p.1 < q.1) → Q v { s with heap := h', toks := tk' }) :
  wpAny (model PySem.Challenge.rw_eh5007_01.row.prog w) (ktrTop dp un gd cn cs L a ccd cl outer) (call (.ref 340) [rv, nv]) Q E s := by
  rcases hlk with ⟨gs, R, vs, n, h1, rfl, h3, h4, h5, rfl⟩ | ⟨rfl, rfl, p, gs, h1, h2, h3⟩
  · exact due_ok w B F X N T hk hd hu h3 h4 (by omega) hnm fun v T' h' tk' hdo F' N' hl => hret v _ T' h' tk' (dueK_of hF h1) hdo F' N' hl
  · refine due_none w B F X N T hk hd hu fun t h' tk' F' N' => hret _ .err [] h' tk' ⟨.inr ⟨rfl, p, gs, h1, h2, h3⟩, (fun h => nomatch h), (fun _ h => nomatch h)⟩ ⟨t, rfl⟩ F' N' (fun _ h => nomatch h)
end Mine
end
section
open PySem PySem.W PyProof.Rows
set_option maxRecDepth 100000
set_option maxHeartbeats 8000000
namespace Mine
structure LcHalt : Prop where
local macro_rules | `(tactic| k_all) => `(tactic| assumption)
local macro_rules | `(tactic| k_room) => `(tactic| ktr_room)
local macro_rules | `(tactic| walk_at "call builtin:list.append") => `(tactic| (k_here; (with_reducible show wpAny _ _ (call (Value.builtin _) [Value.ref _, _]) _ _ _); k_dflt (refine' append_K ?k1 ?k2 ?k3 ?_ ?z; (case k1 => k_asm); (case k2 => k_asm); (case k3 => k_upd); (case z => (have hz9 := size_line; simp only [List.size_toArray]; omega)); k_whole); intro h9 F9 N9; (try k_sweep)))
local macro_rules | `(tactic| walk_at "call type:int") => `(tactic| (k_here; (with_reducible show wpAny _ _ (call (Value.type "int") [Value.str _ _]) _ _ _); k_dflt (refine' KIN.call_text ?a ?b ?_; (case a => assumption); (case b => (simp only [PySem.Str.length, Array.size_extract]; omega)))))
local macro_rules | `(tactic| walk_at "binaryOp Add str str") => `(tactic| (k_here; k_dflt (refine r_add ?a ?b ?_; (case a => (first | omega | ((simp only [Array.size_extract]); omega) | (show 1 ≤ 1000; decide))); (case b => (first | omega | (show 1 ≤ 1000; decide) | ((simp only [Array.size_extract]); omega)))); intro _ _))
local macro_rules | `(tactic| walk_at "newTuple") => `(tactic| (k_here; k_dflt (refine r_newTuple ?a ?b ?_ ?c; (case a => k_asm); (case b => k_asm); (case c => decide); k_whole); intro a9 h9 F9 N9 l9; (try k_lt l9); (try k_sweep)))
local macro_rules | `(tactic| k_steps) => `(tactic| repeat' ((fail_if_success (with_reducible show Halt _)); first | (k_unfold; (try dsimp only)) | (k_end; kc_close) | walk1 | (dsimp only; walk1) | (leave1; walk_say "STEP leave1"; (try dsimp only)) | fail "no step"))
local macro_rules | `(tactic| walk_at "eval Name") => `(tactic| (k_here; k_dflt (refine' nameX_L ?F ?v ?_ ?a ?b; (case F => k_asm); (case a => rfl); (case b => rfl); (case v => first | rfl | assumption); k_whole)))
local macro_rules | `(tactic| walk_at "subscriptTail Name Name str int") => `(tactic| (k_here; k_dflt (refine r_item ?a ?b ?c ?_; (case a => omega); (case b => omega); (case c => omega))))
local macro_rules | `(tactic| walk_at "compareOp In str str") => `(tactic| (k_here; k_dflt (first | with_reducible refine r_in mem_marks ?_ | with_reducible refine r_in mem_marks' ?_ | with_reducible refine r_in mem_pads ?_ | with_reducible refine r_in mem_digs ?_ | with_reducible refine r_in mem_sps ?_ | with_reducible refine r_in mem_lets ?_ | with_reducible refine r_in mem_ub ?_ | with_reducible refine r_in mem_vals ?_)))
local macro_rules | `(tactic| walk_at "compareOp NotIn str str") => `(tactic| (k_here; k_dflt (first | with_reducible refine r_notIn mem_lets ?_ | with_reducible refine r_notIn mem_pads ?_ | with_reducible refine r_notIn mem_vals ?_)))
local macro_rules | `(tactic| walk_at "call builtin:len") => `(tactic| (k_here; (with_reducible show wpAny _ _ (call (Value.builtin "len") [Value.str _ _]) _ _ _); k_dflt (refine r_len ?a ?_; (case a => omega))))
local macro_rules | `(tactic| walk_at "subscriptTail Name UnaryOp str int") => `(tactic| (k_here; k_dflt (refine r_last ?a ?_; (case a => omega))))
local macro_rules | `(tactic| walk_at "subscriptTail Name Slice str ref") => `(tactic| ((with_reducible show wpAny _ _ (subscriptTail _ (Expr.Slice none (some _) none _) _ _) _ _ _); (with_reducible rename Fr _ _ _ _ => F'); (with_reducible rename News _ _ _ _ => N'); k_dflt (refine r_init (s := ⟨_, _, _, _, _⟩) F' N' ?a ?b ?_; (case a => omega); (case b => omega)); intro _ _ _ _ _))

local macro_rules | `(tactic| walk_at "call builtin:len") => `(tactic| (k_here; (with_reducible show wpAny _ _ (call (Value.builtin "len") [Value.ref _]) _ _ _); k_dflt (refine' r_lenSeq ?N ?a ?b ?c ?_; (case N => k_asm); (case a => first | assumption | exact SeqIn.tl (by assumption) | exact SeqIn.tl (SeqIn.tl (by assumption)) | exact SeqIn.tl (SeqIn.tl (SeqIn.tl (by assumption)))); (case b => assumption); (case c => assumption)); intro _ _))
local macro_rules | `(tactic| walk_at "subscriptTail Name Name ref int") => `(tactic| (k_here; k_dflt (refine' r_itemSeq ?N ?a ?b ?c ?d ?e ?_; (case N => k_asm); (case a => first | assumption | exact SeqIn.tl (by assumption) | exact SeqIn.tl (SeqIn.tl (by assumption)) | exact SeqIn.tl (SeqIn.tl (SeqIn.tl (by assumption)))); (case b => assumption); (case c => omega); (case d => omega); (case e => assumption)); intro _))
local macro_rules | `(tactic| walk_at "exec For Tuple Name cons nil") => `(tactic| refine Halt.out ?_)
local macro_rules | `(tactic| walk_at "pyIter ref") => `(tactic| refine Halt.out ?_)
local macro_rules | `(tactic| walk_at "subscriptTail Name Constant ref int") => `(tactic| (k_here; k_dflt (refine' item_tupleT ?t ?a ?b ?c ?d ?_; (case t => first | assumption | exact News.isTup (by k_asm) (List.Mem.tail _ (by assumption))); (case a => decide); (case b => decide); (case c => rfl); (case d => rfl))))
local macro_rules | `(tactic| walk_at "subscriptTail Name Slice ref ref") => `(tactic| ((with_reducible show wpAny _ _ (subscriptTail _ (PySem.Expr.Slice none (some _) none _) _ _) _ _ _); (with_reducible rename Fr _ _ _ _ => F'); (with_reducible rename News _ _ _ _ => N'); k_dflt (refine' r_wordsTo (s := ⟨_, _, _, _, _⟩) (items := wordVs) F' N' ?t ?a ?b ?c ?_; (case t => exact tupK (by k_asm) F' (at319 _)); (case a => omega); (case b => (show _ < (8 : Int); omega)); (case c => decide)); intro D9 h9 F9 N9 l9; (try k_sweep)))
local macro_rules | `(tactic| walk_at "call type:list") => `(tactic| (k_here; (with_reducible show wpAny _ _ (call (Value.type _) [Value.ref _]) _ _ _); k_dflt (refine' kup_listOfT ?F ?N ?b rfl ?_ ?z; (case F => k_asm); (case N => k_asm); (case b => k_mem); (case z => (rw [List.length_take]; exact Nat.le_trans (Nat.min_le_right _ _) (by decide)))); intro D8 c8 h8 F8 N8 l8; (try k_sweep)))
local macro_rules | `(tactic| walk_at "call type:tuple") => `(tactic| (k_here; (with_reducible show wpAny _ _ (call (Value.type _) [Value.ref _]) _ _ _); k_dflt (refine' call_tuple_tup ?t ?_; (case t => exact News.isTup (by k_asm) (by k_mem)))))
local macro_rules | `(tactic| walk_at "call builtin:len") => `(tactic| (k_here; (with_reducible show wpAny _ _ (call (Value.builtin "len") [Value.ref _]) _ _ _); k_dflt (refine' r_lenL ?N ?a ?b ?c ?_; (case N => k_asm); (case a => k_mem); (case b => assumption); (case c => omega)); intro _ _))

theorem canon0 {g h : Heap} {L : Addr} {b f : Addr × Obj} {T1 led : List (Addr × Obj)} (N : News g L h (T1 ++ (b :: f :: led))) : News g L h (b :: f :: (T1 ++ led)) := News.sub N fun p hp => by
  simp only [List.mem_cons, List.mem_append] at hp ⊢
  rcases hp with h | h | h | h <;> simp [h]
theorem led_app {box : Addr} {b : Obj} {f : Addr × Obj} {T1 led : List (Addr × Obj)} (h1 : ∀ q ∈ T1, ∀ p ∈ (box, b) :: f :: led, p.1 < q.1) (h2 : ∀ p ∈ led, p.1 ≠ box) : ∀ p ∈ T1 ++ led, p.1 ≠ box := by
  intro p hp
  rcases List.mem_append.mp hp with hp | hp
  · exact Nat.ne_of_gt (h1 p hp _ (.head _))
  · exact h2 p hp
theorem turn_news {g h : Heap} {L : Addr} {b f : Addr × Obj} {led6 led4 own : List (Addr × Obj)} (N : News g L h (b :: f :: led6)) (hs : ∀ p ∈ led4 ++ own, p ∈ led6) : News g L h ((b :: f :: led4) ++ own) := News.sub N fun p hp => by
  simp only [List.mem_cons, List.cons_append] at hp ⊢
  rcases hp with h | h | h
  · exact .inl h
  · exact .inr (.inl h)
  · exact .inr (.inr (hs p h))
theorem eq_pair {prog : Program} {w : World} {A : Around} {E : Value → Shared → Prop} {s : Shared} {Q : Value → Shared → Prop} {a b l k : Addr} {t u : Tok} (h1 : IsTup s.heap a [Value.ref l, .str (one 62) t].toArray) (h2 : IsTup s.heap b [Value.ref k, .str (Str.ofString ">") u].toArray) (h3 : s.heap.IsList l ([] : List Value).toArray) (h4 : s.heap.IsList k ([] : List Value).toArray) (hu : A.units < cLine) (hu2 : A.in1.units < cLine) (h : Q (.bool true) s) :
    wpAny (model prog w) A (compareOp .Eq (.ref a) (.ref b)) Q E s := by
  refine SeqAt.RcAt.tuples (e := fun _ => true) h1 h2 hu (fun j j1 j2 => ?_) prog w E Q h
  have hj : j < 2 := by simpa using j1
  rcases (by omega : j = 0 ∨ j = 1) with rfl | rfl
  · show SeqAt.EqAt _ _ (.ref l) (.ref k) true
    by_cases e : l = k
    · subst e; exact SeqAt.EqAt.same _
    · exact SeqAt.EqAt.of_refs e (SeqAt.RcAt.lists (e := fun _ => true) h3 h4 rfl hu2 (fun j j1 _ => absurd j1 (by simp)))
  · show SeqAt.EqAt _ _ (.str (one 62) t) (.str (Str.ofString ">") u) true
    have := SeqAt.EqAt.str_str (A := A.in1) (s := s) (one 62) t (Str.ofString ">") u
    rw [e62, show (one 62 == one 62) = true by decide] at this
    rw [e62]
    exact this
theorem law_sw {g h : Heap} {L : Addr} {d e c b f : Addr × Obj} {led : List (Addr × Obj)} (N : News g L h (d :: e :: c :: b :: f :: led)) : News g L h (b :: f :: (d :: led)) := News.sub N fun p hp => by
  simp only [List.mem_cons] at hp ⊢
  rcases hp with h | h | h | h <;> simp [h]
section
variable {prog : Program} {w : World} {A : Around} {E : Value → Shared → Prop} {s : Shared} {Q : Value → Shared → Prop}
theorem r_tab2 {value slice : PySem.Expr} {a : Addr} {vs : List Value} {i : Int} {u : Tok} (ws : List PySem.Str) (ht : IsTup s.heap a vs.toArray) (hw : StrsAre vs ws) (h0 : 0 ≤ i) (hi : i < (ws.length : Int)) (hfit : i < 100) (h : ∀ t, Q (.str (ws.getD i.toNat PySem.Str.empty) t) s)
    (hs : subscripted slice false (.ref a) (.int i u) = operate [.ref a, .int i u] (getItem (.ref a) (.int i u)) := by with_unfolding_all rfl) : wpAny (model prog w) A (subscriptTail value slice (.ref a) (.int i u)) Q E s :=
  KTb.item_tup ht hw h0 hi (by omega) (fun t' _ => h t') hs
end
local macro_rules | `(tactic| walk_at "subscriptTail Name Call ref int") => `(tactic| (k_here; k_dflt (first
  | (refine' r_tab2 codecs ?t ?w ?a ?b ?c ?_; (case t => exact News.isTup (by k_asm) (by k_mem)); (case w => (exact .cons _ _ (.cons _ _ (.cons _ _ (.cons _ _ .nil))))); (case a => omega); (case b => (rw [lenC]; omega)); (case c => omega))
  | (refine' r_tab2 ways ?t ?w ?a ?b ?c ?_; (case t => exact News.isTup (by k_asm) (by k_mem)); (case w => (exact .cons _ _ (.cons _ _ (.cons _ _ .nil)))); (case a => omega); (case b => (rw [lenY]; omega)); (case c => omega))); intro _))
local macro_rules | `(tactic| walk_at "subscriptTail") => `(tactic| (k_here; (with_reducible show wpAny _ _ (subscriptTail (PySem.Expr.Tuple _ _ _) _ _ _) _ _ _); k_dflt (refine kba_turn (value' := PySem.Expr.Name (PySem.Str.ofString "_") ⟨0, 0, 0, 0⟩) (fun _ => rfl) ?_)))
local macro_rules | `(tactic| walk_at "exec Assign") => `(tactic| ((fail_if_success (rename Go => gg)); refine Halt.out ?_))
local macro_rules | `(tactic| walk_at "exec If") => `(tactic| ((fail_if_success (rename Go => gg)); refine Halt.out ?_))
local macro_rules | `(tactic| walk_at "call ref") => `(tactic| (k_here; (with_reducible show wpAny _ _ (call (Value.ref 326) _) _ _ _); (k_dflt (refine' draw_g _ ?B ?F ?X ?N ?U ?hf ?T rfl ?hi ?hns ?hns2 ?hc ?hl ?hd ?hu ?_; (case B => k_asm); (case F => k_asm); (case X => k_asm); (case N => k_asm); (case U => k_updF); (case hf => k_mem); (case T => k_asm); (case hi => assumption); (case hns => assumption); (case hns2 => assumption); (case hc => omega); (case hl => omega); (case hd => first | omega | ktr_room); (case hu => first | omega | ktr_units); k_whole)); intro v9 t9 t8 h9 tk9 g0 g1 F9 N9; (try dsimp only at N9); (try k_sweep)))
local macro_rules | `(tactic| walk_at "call ref") => `(tactic| ((with_reducible first | show wpAny _ _ (call (Value.ref 368) _) _ _ _ | show wpAny _ _ (call (Value.ref 333) _) _ _ _ | show wpAny _ _ (call (Value.ref 380) _) _ _ _ | show wpAny _ _ (call (Value.ref 340) _) _ _ _ | show wpAny _ _ (call (Value.ref 316) _) _ _ _ | show wpAny _ _ (call (Value.ref 361) _) _ _ _ | show wpAny _ _ (call (Value.ref 375) _) _ _ _ | show wpAny _ _ (call (Value.ref 387) _) _ _ _); refine Halt.out ?_))
local macro_rules | `(tactic| walk_at "compareOp Eq ref ref") => `(tactic| refine Halt.out ?_)
local macro_rules | `(tactic| walk_at "call type:range") => `(tactic| refine Halt.out ?_)
local macro_rules | `(tactic| walk_at "exec For Name Call cons nil") => `(tactic| refine Halt.out ?_)
local macro_rules | `(tactic| walk_at "eval ListComp") => `(tactic| ((rename LcHalt => gg); refine Halt.out ?_))
local macro_rules | `(tactic| walk_at "call builtin:len") => `(tactic| ((rename LcHalt => gg); refine Halt.out ?_))
local macro_rules | `(tactic| walk_at "call builtin:isinstance") => `(tactic| refine Halt.out ?_)
local macro_rules | `(tactic| k_steps) => `(tactic| repeat' ((fail_if_success (with_reducible show Halt _)); first | (k_unfold; (try dsimp only)) | (k_end; kc_close) | (walk1; all_goals (try dsimp only)) | (dsimp only; walk1) | (leave1; walk_say "STEP leave1"; (try dsimp only)) | fail "no step"))

theorem law_holds : PySem.Challenge.rw_eh5007_01.Holds := Mine.hd (by
  k_go0
  rename World => w
  rename List Int => ns
  rename IntsAre _ _ => hI
  rename (¬ _) => hc63
  rename Below _ _ _ _ => B
  rename Frag.In _ _ => X
  rename Top _ _ _ _ _ _ => T
  rename Fr _ _ _ _ => F
  rename News _ _ _ _ => N
  have hlen : ns.length ≤ 63 := by omega
  rename Shared => s1
  try (rename Ground _ _ _ _ _ _ _ _ => z; clear z)
  try (rename LooseAre _ _ _ => z; clear z)
  try (rename Glob _ _ _ _ _ _ _ _ => z; clear z)
  try (rename Tables _ _ _ _ => z; clear z)
  try (rename TopE _ _ _ _ => z; clear z)
  try (rename TopW _ _ _ => z; clear z)
  try (rename BMod _ _ _ _ _ => z; clear z)
  try (rename Well _ _ _ _ => z; clear z)
  try (rename Reads _ _ _ _ => z; clear z)
  try (rename Dflts _ _ _ => z; clear z)
  try (rename ReadsAllW _ _ _ _ _ _ => z; clear z)
  all_goals try k_fold
  k_steps
  refine Halt.mk (cutF (g := s1.heap) (L := s1.heap.objs.size) (fun m' nw => ∃ few vs2 ns2 n2, m' (Str.ofString "few") = some (.ref few) ∧ nw = [(few, W.listOf (List.toArray vs2) n2)] ∧ IntsAre vs2 ns2 ∧ 0 < ns2.length ∧ ns2.length ≤ 63) ?_ ?_)
  · have go := Go.mk
    have hm40 : ∀ f : Int → Int, (List.map f (List.take 40 ns)).length ≤ 63 := fun f => by rw [List.length_map, List.length_take]; omega
    k_steps
    · rename (0 < List.length _) => hps
      rename IntsAre _ (List.map _ _) => hI8
      rename News _ _ _ _ => N9
      exact PostF.intro (by assumption) (News.sub N9 fun p hp => by rw [List.mem_singleton.mp hp]; exact .head _) ⟨_, _, _, _, (by with_unfolding_all first | rfl | assumption), rfl, hI8, hps, hm40 _⟩
    · rename News _ _ _ _ => N9
      exact PostF.intro (by assumption) (News.sub N9 fun p hp => by rw [List.mem_singleton.mp hp]; exact .head _) ⟨_, [.int 11 _], [11], _, (by with_unfolding_all first | rfl | assumption), rfl, .cons _ _ .nil, by decide, by decide⟩
  try clear F
  try clear N
  intro h3 tk3 m3 nw3 F N hJ3
  try dsimp only
  obtain ⟨few, vs2, ns2, n2, hk_few, rfl, hI2, hp2, hl2⟩ := hJ3
  k_steps
  refine Halt.mk (cutF (g := s1.heap) (L := s1.heap.objs.size) (fun m' nw => ∃ box n1 tc, m' (Str.ofString "few") = some (.ref few) ∧ m' (Str.ofString "box") = some (.ref box) ∧ nw = [(box, W.listOf #[.ref few, .int 0 tc] n1), (few, W.listOf (List.toArray vs2) n2)]) ?_ ?_)
  · have go := Go.mk
    k_steps
    exact PostF.intro (by assumption) (by assumption) ⟨_, _, _, (by with_unfolding_all first | rfl | assumption), (by with_unfolding_all first | rfl | assumption), rfl⟩
  try clear F
  try clear N
  clear hk_few
  intro h3 tk3 m3 nw3 F N hJ3
  try dsimp only
  obtain ⟨box, n1, tc, hk_few, hk_box, rfl⟩ := hJ3
  k_steps
  have hne : few ≠ box := few_ne N (.head _) (.tail _ (.head _)) hI2
  refine Halt.mk (cutF (g := s1.heap) (L := s1.heap.objs.size) (fun m' nw => ∃ x b mk tx c tc, m' (Str.ofString "few") = some (.ref few) ∧ m' (Str.ofString "box") = some (.ref box) ∧ m' (Str.ofString "text") = some (.str x tx) ∧ CleanX x b mk ∧ 0 ≤ c ∧ nw = (box, W.listOf #[.ref few, .int c tc] n1) :: (few, W.listOf vs2.toArray n2) :: []) ?_ ?_)
  · have go := Go.mk
    k_steps
    rename Fr _ _ _ _ => F4
    rename News _ _ _ _ => N4
    refine Halt.mk (clean_ok w B F4 X N4 T rfl (by ktr_room) (by ktr_units) hne (fun p hp => nomatch hp) hI2 hp2 hl2 (Int.le_refl _) ?_)
    intro x b mk t c1 tc1 h5 tk5 hX hc1 F5 N5
    k_steps
    exact PostF.intro (by assumption) (by assumption) ⟨_, b, mk, _, _, _, (by with_unfolding_all first | rfl | assumption), (by with_unfolding_all first | rfl | assumption), (by with_unfolding_all first | rfl | assumption), hX, hc1, rfl⟩
  try clear F
  try clear N
  clear hk_few hk_box
  intro h3 tk3 m3 nw3 F N hJ3
  try dsimp only
  obtain ⟨x, b, mk, tx, c, tc', hk_few, hk_box, hk_text, ⟨hSp, hxs, hFine, gs, hLx, hok, hgl⟩, hc, rfl⟩ := hJ3
  k_steps
  refine Halt.mk (cutF (g := s1.heap) (L := s1.heap.objs.size) (fun m' nw => ∃ R rvs rn tm led, m' (Str.ofString "few") = some (.ref few) ∧ m' (Str.ofString "box") = some (.ref box) ∧ m' (Str.ofString "text") = some (.str x tx) ∧ m' (Str.ofString "rows") = some (.ref R) ∧ m' (Str.ofString "mark") = some (.str (one mk) tm) ∧ (R, W.listOf (List.toArray rvs) rn) ∈ led ∧ RowsIn led rvs (rowsOf b.cps 62 gs) ∧ (∀ p ∈ led, p.1 ≠ box) ∧ nw = (box, W.listOf #[.ref few, .int c tc'] n1) :: (few, W.listOf vs2.toArray n2) :: led) ?_ ?_)
  · have go := Go.mk
    k_steps
    rename Fr _ _ _ _ => F4
    rename News _ _ _ _ => N4
    refine Halt.mk (lex_ok w B F4 X N4 T rfl (by ktr_room) (by ktr_units) hSp hxs hFine ?_)
    intro r v tm T1 h7 tk7 hLO F7 N7 hT1
    rcases hLO with ⟨gs2, R, rvs, rn, hLx2, rfl, hR, hrows⟩ | ⟨rfl, p, gs2, hLx2, hp, hm⟩
    rotate_left
    · exact (lx_no hLx hLx2 hp hm).elim
    obtain rfl := lx_full hLx hLx2
    k_steps
    rename News _ _ _ _ => N9
    exact PostF.intro (by assumption) (canon0 (dropA N9)) ⟨_, _, _, _, _, (by with_unfolding_all first | rfl | assumption), (by with_unfolding_all first | rfl | assumption), (by with_unfolding_all first | rfl | assumption), (by with_unfolding_all first | rfl | assumption), (by with_unfolding_all first | rfl | assumption), List.mem_append_left _ hR, hrows.mono (fun p hp => List.mem_append_left _ hp), led_app hT1 (fun p hp => nomatch hp), rfl⟩
  try clear F
  try clear N
  clear hk_few hk_box hk_text
  intro h3 tk3 m3 nw3 F N hJ3
  try dsimp only
  obtain ⟨R, rvs, rn, tm, led, hk_few, hk_box, hk_text, hk_rows, hk_mark, hR, hrows, hled, rfl⟩ := hJ3
  k_steps
  refine Halt.mk (cutF (g := s1.heap) (L := s1.heap.objs.size) (fun m' nw => ∃ cc tcc c tc, m' (Str.ofString "few") = some (.ref few) ∧ m' (Str.ofString "box") = some (.ref box) ∧ m' (Str.ofString "text") = some (.str x tx) ∧ m' (Str.ofString "rows") = some (.ref R) ∧ m' (Str.ofString "mark") = some (.str (one mk) tm) ∧ m' (Str.ofString "codec") = some (.str cc tcc) ∧ 0 ≤ c ∧ nw = (box, W.listOf #[.ref few, .int c tc] n1) :: (few, W.listOf vs2.toArray n2) :: led) ?_ ?_)
  · have go := Go.mk
    k_steps
    rename News _ _ _ _ => N9
    exact PostF.intro (by assumption) (dropA N9) ⟨_, _, _, _, (by with_unfolding_all first | rfl | assumption), (by with_unfolding_all first | rfl | assumption), (by with_unfolding_all first | rfl | assumption), (by with_unfolding_all first | rfl | assumption), (by with_unfolding_all first | rfl | assumption), (by with_unfolding_all first | rfl | assumption), by omega, rfl⟩
  try clear F
  try clear N
  clear hk_few hk_box hk_text hk_rows hk_mark hc
  intro h3 tk3 m3 nw3 F N hJ3
  try dsimp only
  obtain ⟨cc, tcc, c, tc5, hk_few, hk_box, hk_text, hk_rows, hk_mark, hk_codec, hc5, rfl⟩ := hJ3
  k_steps
  refine Halt.mk (cutF (g := s1.heap) (L := s1.heap.objs.size) (fun m' nw => ∃ cw tcw c tc, m' (Str.ofString "few") = some (.ref few) ∧ m' (Str.ofString "box") = some (.ref box) ∧ m' (Str.ofString "text") = some (.str x tx) ∧ m' (Str.ofString "rows") = some (.ref R) ∧ m' (Str.ofString "mark") = some (.str (one mk) tm) ∧ m' (Str.ofString "codec") = some (.str cc tcc) ∧ m' (Str.ofString "way") = some (.str cw tcw) ∧ 0 ≤ c ∧ nw = (box, W.listOf #[.ref few, .int c tc] n1) :: (few, W.listOf vs2.toArray n2) :: led) ?_ ?_)
  · have go := Go.mk
    k_steps
    rename News _ _ _ _ => N9
    exact PostF.intro (by assumption) (dropA N9) ⟨_, _, _, _, (by with_unfolding_all first | rfl | assumption), (by with_unfolding_all first | rfl | assumption), (by with_unfolding_all first | rfl | assumption), (by with_unfolding_all first | rfl | assumption), (by with_unfolding_all first | rfl | assumption), (by with_unfolding_all first | rfl | assumption), (by with_unfolding_all first | rfl | assumption), by omega, rfl⟩
  try clear F
  try clear N
  clear hk_few hk_box hk_text hk_rows hk_mark hk_codec hc5
  intro h3 tk3 m3 nw3 F N hJ3
  try dsimp only
  obtain ⟨cw, tcw, c, tc6, hk_few, hk_box, hk_text, hk_rows, hk_mark, hk_codec, hk_way, hc, rfl⟩ := hJ3
  k_steps
  have hk5 : cntV (rowsOf b.cps 62 gs) ≤ 5 := by
    have h1 := cntV_le (rowsOf b.cps 62 gs)
    have h2 := rowsOf_len b.cps gs 62
    omega
  obtain ⟨k, hk⟩ : ∃ k, k = cntV (rowsOf b.cps 62 gs) := ⟨_, rfl⟩
  have hrl : (rowsOf b.cps 62 gs).length ≤ 100 := by
    have h2 := rowsOf_len b.cps gs 62
    omega
  refine Halt.mk (cutF (g := s1.heap) (L := s1.heap.objs.size) (fun m' nw => ∃ Dn nvs nn led2, m' (Str.ofString "few") = some (.ref few) ∧ m' (Str.ofString "box") = some (.ref box) ∧ m' (Str.ofString "text") = some (.str x tx) ∧ m' (Str.ofString "rows") = some (.ref R) ∧ m' (Str.ofString "mark") = some (.str (one mk) tm) ∧ m' (Str.ofString "codec") = some (.str cc tcc) ∧ m' (Str.ofString "way") = some (.str cw tcw) ∧ m' (Str.ofString "names") = some (.ref Dn) ∧ (Dn, W.listOf (List.toArray nvs) nn) ∈ led2 ∧ StrsAre nvs (words.take k) ∧ (∀ p ∈ led, p ∈ led2) ∧ (∀ p ∈ led2, p.1 ≠ box) ∧ nw = (box, W.listOf #[.ref few, .int c tc6] n1) :: (few, W.listOf vs2.toArray n2) :: led2) ?_ ?_)
  · have go := Go.mk
    have lch := LcHalt.mk
    k_steps
    rename Fr _ _ _ _ => F2
    rename News _ _ _ _ => N2
    obtain ⟨p, hp, hpl⟩ := rows_p (hrows.mono fun q hq => .tail _ (.tail _ hq)) (news_inj N2)
    have hrl2 := hrows.len
    refine Halt.mk (compL (h₀ := s1.heap) (L := s1.heap.objs.size) (R := R) (its := rvs) (n := rn) (p := p) (G := fun _ _ => True) F2 N2 rfl (by decide) (by decide) rfl (by decide) rfl (.tail _ (.tail _ hR)) (by omega) ?_ ?_ (by intro _; rfl) ?_)
    · intro C v s3 m3 E' hv hns hm hn
      obtain ⟨a, r, t1, t2, t3, rfl, hmem, hpv⟩ := hp v hv
      have hT : IsTup s3.heap a [Value.str (one r.c) t1, .int r.z t2, .str (one r.o) t3].toArray := ⟨_, hn _ hmem, rfl, _, rfl⟩
      rw [hpv]
      rw [List.forIn_cons]
      refine wpAny_bind (wpAny_ite ?_)
      rw [if_pos rfl]
      refine wpAny_bind ?_
      k_steps
      refine wpAny_pure ?_
      dsimp only
      rw [List.forIn_nil]
      exact wpAny_pure ⟨rfl, _, _, rfl, fun _ _ e => e⟩
    · intro C v s3 m3 E' hv _ hns hm hn
      k_steps
      all_goals first | trivial | exact ⟨_, _, rfl, fun _ _ e => e⟩
    k_steps
    · assumption
    · assumption
    rename Paired _ _ _ => hpair
    have hyl := (Mine.Paired.len hpair).trans hpl
    rw [← hk] at hyl hk5
    rename LcHalt => lch
    clear lch
    refine Halt.mk ?_
    k_steps
    rename News _ _ _ _ => N9
    rename (∀ (p : Addr × Obj), p ∈ (_ :: _ :: _ :: _ : List (Addr × Obj)) → p.1 < _) => l7
    refine PostF.intro (by assumption) (law_sw N9) ⟨_, _, _, _, (by with_unfolding_all first | rfl | assumption), (by with_unfolding_all first | rfl | assumption), (by with_unfolding_all first | rfl | assumption), (by with_unfolding_all first | rfl | assumption), (by with_unfolding_all first | rfl | assumption), (by with_unfolding_all first | rfl | assumption), (by with_unfolding_all first | rfl | assumption), (by with_unfolding_all first | rfl | assumption), .head _, strs_take words_are k, fun p hp => .tail _ hp, ?_, rfl⟩
    intro p hp
    rcases List.mem_cons.mp hp with rfl | hp
    · exact Nat.ne_of_gt (l7 _ (.tail _ (.tail _ (.head _))))
    · exact hled p hp
  rw [← hk] at hk5
  try clear F
  try clear N
  clear hk_few hk_box hk_text hk_rows hk_mark hk_codec hk_way
  intro h3 tk3 m3 nw3 F N hJ3
  try dsimp only
  obtain ⟨Dn, nvs, nn, led2, hk_few, hk_box, hk_text, hk_rows, hk_mark, hk_codec, hk_way, hk_names0, hDn, hstr, hsub2, hled2, rfl⟩ := hJ3
  k_steps
  refine Halt.mk (cutF (g := s1.heap) (L := s1.heap.objs.size) (fun m' nw => ∃ nv names c tc, m' (Str.ofString "few") = some (.ref few) ∧ m' (Str.ofString "box") = some (.ref box) ∧ m' (Str.ofString "text") = some (.str x tx) ∧ m' (Str.ofString "rows") = some (.ref R) ∧ m' (Str.ofString "mark") = some (.str (one mk) tm) ∧ m' (Str.ofString "codec") = some (.str cc tcc) ∧ m' (Str.ofString "way") = some (.str cw tcw) ∧ m' (Str.ofString "names") = some (nv) ∧ NamesIn led2 nv names ∧ (∀ ws, names = some ws → ws.length = k) ∧ 0 ≤ c ∧ nw = (box, W.listOf #[.ref few, .int c tc] n1) :: (few, W.listOf vs2.toArray n2) :: led2) ?_ ?_)
  · have go := Go.mk
    have hwl : (words.take k).length = k := by
      rw [List.length_take]
      show min _ 8 = _
      omega
    k_steps
    · exact PostF.intro (by assumption) (by assumption) ⟨.none, none, _, _, (by with_unfolding_all first | rfl | assumption), (by with_unfolding_all first | rfl | assumption), (by with_unfolding_all first | rfl | assumption), (by with_unfolding_all first | rfl | assumption), (by with_unfolding_all first | rfl | assumption), (by with_unfolding_all first | rfl | assumption), (by with_unfolding_all first | rfl | assumption), (by with_unfolding_all first | rfl | assumption), .inl ⟨rfl, rfl⟩, (fun _ h => nomatch h), by omega, rfl⟩
    · exact PostF.intro (by assumption) (by assumption) ⟨_, some (words.take k), _, _, (by with_unfolding_all first | rfl | assumption), (by with_unfolding_all first | rfl | assumption), (by with_unfolding_all first | rfl | assumption), (by with_unfolding_all first | rfl | assumption), (by with_unfolding_all first | rfl | assumption), (by with_unfolding_all first | rfl | assumption), (by with_unfolding_all first | rfl | assumption), (by with_unfolding_all first | rfl | assumption), .inr ⟨Dn, nvs, _, rfl, rfl, hstr, .inl ⟨nn, hDn⟩, by omega⟩, (fun ws h => by cases h; exact hwl), by omega, rfl⟩
  try clear F
  try clear N
  clear hk_few hk_box hk_text hk_rows hk_mark hk_codec hk_way hk_names0
  intro h3 tk3 m3 nw3 F N hJ3
  try dsimp only
  obtain ⟨nv, names, c, tc8, hk_few, hk_box, hk_text, hk_rows, hk_mark, hk_codec, hk_way, hk_names, hnm, hnl, hc8, rfl⟩ := hJ3
  k_steps
  obtain ⟨its, hdk⟩ := due_good (names := names) (rowsOf b.cps 62 gs) 0 (clean_rows hok 62) (fun ws hw => by have := hnl ws hw; omega)
  have hig := its_good hFine hLx hdk
  refine Halt.mk (cutF (g := s1.heap) (L := s1.heap.objs.size) (fun m' nw => ∃ Du dvs dn led3, m' (Str.ofString "few") = some (.ref few) ∧ m' (Str.ofString "box") = some (.ref box) ∧ m' (Str.ofString "text") = some (.str x tx) ∧ m' (Str.ofString "rows") = some (.ref R) ∧ m' (Str.ofString "mark") = some (.str (one mk) tm) ∧ m' (Str.ofString "codec") = some (.str cc tcc) ∧ m' (Str.ofString "way") = some (.str cw tcw) ∧ m' (Str.ofString "names") = some (nv) ∧ m' (Str.ofString "due") = some (.ref Du) ∧ (Du, W.listOf (List.toArray dvs) dn) ∈ led3 ∧ ItemsIn led3 dvs its ∧ NamesIn led3 nv names ∧ (∀ p ∈ led3, p.1 ≠ box) ∧ nw = (box, W.listOf #[.ref few, .int c tc8] n1) :: (few, W.listOf vs2.toArray n2) :: led3) ?_ ?_)
  · have go := Go.mk
    k_steps
    rename Fr _ _ _ _ => F4
    rename News _ _ _ _ => N4
    refine Halt.mk (due_ok w B F4 X N4 T rfl (by ktr_room) (by ktr_units) (.tail _ (.tail _ (hsub2 _ hR))) (hrows.mono fun p hp => .tail _ (.tail _ (hsub2 _ hp))) hrl (hnm.mono fun p hp => .tail _ (.tail _ hp)) ?_)
    intro v T2 h7 tk7 hdo F7 N7 hT2
    rw [hdk] at hdo
    obtain ⟨Du, dvs, dn, rfl, hDm, hIt⟩ := hdo
    k_steps
    rename News _ _ _ _ => N9
    exact PostF.intro (by assumption) (canon0 N9) ⟨_, _, _, _, (by with_unfolding_all first | rfl | assumption), (by with_unfolding_all first | rfl | assumption), (by with_unfolding_all first | rfl | assumption), (by with_unfolding_all first | rfl | assumption), (by with_unfolding_all first | rfl | assumption), (by with_unfolding_all first | rfl | assumption), (by with_unfolding_all first | rfl | assumption), (by with_unfolding_all first | rfl | assumption), (by with_unfolding_all first | rfl | assumption), List.mem_append_left _ hDm, hIt.mono (fun p hp => List.mem_append_left _ hp), hnm.mono (fun p hp => List.mem_append_right _ hp), led_app hT2 hled2, rfl⟩
  try clear F
  try clear N
  clear hk_few hk_box hk_text hk_rows hk_mark hk_codec hk_way hk_names
  intro h3 tk3 m3 nw3 F N hJ3
  try dsimp only
  obtain ⟨Du, dvs, dn, led3, hk_few, hk_box, hk_text, hk_rows, hk_mark, hk_codec, hk_way, hk_names, hk_due, hDm, hIt, hnm3, hled3, rfl⟩ := hJ3
  k_steps
  refine Halt.mk (cutF (g := s1.heap) (L := s1.heap.objs.size) (fun m' nw => ∃ Oi ivs on to led4, m' (Str.ofString "few") = some (.ref few) ∧ m' (Str.ofString "box") = some (.ref box) ∧ m' (Str.ofString "mark") = some (.str (one mk) tm) ∧ m' (Str.ofString "codec") = some (.str cc tcc) ∧ m' (Str.ofString "way") = some (.str cw tcw) ∧ m' (Str.ofString "due") = some (.ref Du) ∧ m' (Str.ofString "infos") = some (.ref Oi) ∧ m' (Str.ofString "order") = some (.str (one mk) to) ∧ InfosIn w.params cc cw led4 ivs its ∧ (Oi, W.listOf (List.toArray ivs) on) ∈ led4 ∧ ItemsIn led4 dvs its ∧ (Du, W.listOf (List.toArray dvs) dn) ∈ led4 ∧ (∀ p ∈ led4, p.1 ≠ box) ∧ nw = (box, W.listOf #[.ref few, .int c tc8] n1) :: (few, W.listOf vs2.toArray n2) :: led4) ?_ ?_)
  · have go := Go.mk
    k_steps
    rename Fr _ _ _ _ => F4
    rename News _ _ _ _ => N4
    refine Halt.mk (parse_ok w B F4 X N4 T rfl (by ktr_room) (by ktr_units) hSp hxs hFine (hnm3.mono fun p hp => .tail _ (.tail _ hp)) (.inl ⟨gs, hLx, hdk.symm⟩) (fun h => nomatch h) ?_ ?_ ?_)
    · intro r9 O9 vs9 T9 t9 n9 its9 h9 tk9 hD9 hi9 hm9 F9 N9 l9
      obtain rfl : its = its9 := DueR.ok.inj hD9
      clear F4 N4
      k_steps
      rename News _ _ _ _ => Nz
      exact PostF.intro (by assumption) (canon0 (dropA Nz)) ⟨_, _, _, _, _, (by with_unfolding_all first | rfl | assumption), (by with_unfolding_all first | rfl | assumption), (by with_unfolding_all first | rfl | assumption), (by with_unfolding_all first | rfl | assumption), (by with_unfolding_all first | rfl | assumption), (by with_unfolding_all first | rfl | assumption), (by with_unfolding_all first | rfl | assumption), (by with_unfolding_all first | rfl | assumption), hi9.mono (fun p hp => List.mem_append_left _ hp), List.mem_append_left _ hm9, hIt.mono (fun p hp => List.mem_append_right _ hp), List.mem_append_right _ hDm, led_app l9 hled3, rfl⟩
    · intro _ _ _ _ _ _ hD9
      cases hD9
    · intro _ _ _ _ hD9
      cases hD9
  try clear F
  try clear N
  clear hk_few hk_box hk_text hk_rows hk_mark hk_codec hk_way hk_names hk_due
  intro h3 tk3 m3 nw3 F N hJ3
  try dsimp only
  obtain ⟨Oi, ivs, on, to, led4, hk_few, hk_box, hk_mark, hk_codec, hk_way, hk_due, hk_infos, hk_order, hi4, hO4, hIt4, hD4, hled4, rfl⟩ := hJ3
  k_steps
  refine Halt.mk (cutF (g := s1.heap) (L := s1.heap.objs.size) (fun m' nw => m' (Str.ofString "few") = some (.ref few) ∧ m' (Str.ofString "box") = some (.ref box) ∧ m' (Str.ofString "codec") = some (.str cc tcc) ∧ m' (Str.ofString "way") = some (.str cw tcw) ∧ nw = (box, W.listOf #[.ref few, .int c tc8] n1) :: (few, W.listOf vs2.toArray n2) :: led4) ?_ ?_)
  · have go := Go.mk
    k_steps
    rename Fr _ _ _ _ => F4
    rename News _ _ _ _ => N4
    refine Halt.mk (kia_one kitx_list (X.keeps F4.keep) (kitAt_N N4 (.tail _ (.tail _ hD4)) rfl) (by kit_is) (by intro q; cases q) ?_)
    intro _
    k_steps
    rename Fr _ _ _ _ => F4
    rename News _ _ _ _ => N4
    refine Halt.mk (all_ok w B F4 X N4 T rfl (by ktr_room) (by ktr_units) (.tail _ (.tail _ hO4)) (.tail _ (.tail _ hD4)) (hi4.mono fun p hp => .tail _ (.tail _ hp)) (hIt4.mono fun p hp => .tail _ (.tail _ hp)) hig.1 hig.2 ?_)
    intro h9 tk9 F9 N9
    k_steps
    exact PostF.intro (by assumption) (by assumption) ⟨(by with_unfolding_all first | rfl | assumption), (by with_unfolding_all first | rfl | assumption), (by with_unfolding_all first | rfl | assumption), (by with_unfolding_all first | rfl | assumption), rfl⟩
  try clear F
  try clear N
  clear hk_few hk_box hk_mark hk_codec hk_way hk_due hk_infos hk_order
  intro h3 tk3 m3 nw3 F N hJ3
  try dsimp only
  obtain ⟨hk_few, hk_box, hk_codec, hk_way, rfl⟩ := hJ3
  k_steps
  refine Halt.mk (For_turns F (h₀ := s1.heap) ?_)
  have go := Go.mk
  have hlv : vs2.length = ns2.length := hI2.length
  k_steps
  rename Fr _ _ _ _ => F5
  rename News _ _ _ _ => N5
  try clear F
  try clear N
  refine Halt.mk (forR (h₀ := s1.heap) (fun i m' nw => ∃ c tc, m' (Str.ofString "few") = some (.ref few) ∧ m' (Str.ofString "box") = some (.ref box) ∧ m' (Str.ofString "codec") = some (.str cc tcc) ∧ m' (Str.ofString "way") = some (.str cw tcw) ∧ 0 ≤ c ∧ nw = (box, W.listOf #[.ref few, .int c tc] n1) :: (few, W.listOf vs2.toArray n2) :: led4) ⟨_, _, rfl⟩ rfl F5 N5 ?_ ?_ ?_ ?_ ?_)
  · have hfd : 0 ≤ Int.fdiv (ns2.length : Int) 3 := Int.fdiv_nonneg (Int.natCast_nonneg _) (by decide)
    split <;> omega
  · split <;> omega
  · exact ⟨_, _, (by with_unfolding_all first | rfl | assumption), (by with_unfolding_all first | rfl | assumption), (by with_unfolding_all first | rfl | assumption), (by with_unfolding_all first | rfl | assumption), hc8, rfl⟩
  · clear F5 N5 go
    rintro i tt m₁ news₁ h₁ tk₁ own hin ⟨c, tc, hk_few, hk_box, hk_codec, hk_way, hc, rfl⟩ hap F N2
    try dsimp only
    obtain ⟨led, hle⟩ : ∃ led, led = led4 ++ own := ⟨_, rfl⟩
    have N : News s1.heap s1.heap.objs.size h₁ ((box, W.listOf #[.ref few, .int c tc] n1) :: (few, W.listOf (List.toArray vs2) n2) :: led) := by rw [hle]; exact N2
    have hled : ∀ p ∈ led, p.1 ≠ box := by
      intro p hp
      rw [hle] at hp
      rcases List.mem_append.mp hp with hp | hp
      · exact hled4 p hp
      · exact fun e => hap _ (.head _) p hp e.symm
    clear N2
    k_steps
    refine Halt.mk (cutF (g := s1.heap) (L := s1.heap.objs.size) (fun m' nw => ∃ x b mk tx c tc, m' (Str.ofString "few") = some (.ref few) ∧ m' (Str.ofString "box") = some (.ref box) ∧ m' (Str.ofString "codec") = some (.str cc tcc) ∧ m' (Str.ofString "way") = some (.str cw tcw) ∧ m' (Str.ofString "text") = some (.str x tx) ∧ Split x b mk ∧ x.cps.size ≤ 100 ∧ Fine b.cps ∧ nLet b.cps.toList ≤ 7 ∧ 0 ≤ c ∧ nw = (box, W.listOf #[.ref few, .int c tc] n1) :: (few, W.listOf vs2.toArray n2) :: led) ?_ ?_)
    · have go := Go.mk
      k_steps
      rename Fr _ _ _ _ => F4
      rename News _ _ _ _ => N4
      refine Halt.mk (text_ok w B F4 X N4 T rfl (by ktr_room) (by ktr_units) hne hled hI2 hp2 hl2 hc ?_)
      intro x b mk t c1 tc1 h5 tk5 hX hxs hF hn7 hc1 F5 N5
      k_steps
      exact PostF.intro (by assumption) (by assumption) ⟨_, b, mk, _, _, _, (by with_unfolding_all first | rfl | assumption), (by with_unfolding_all first | rfl | assumption), (by with_unfolding_all first | rfl | assumption), (by with_unfolding_all first | rfl | assumption), (by with_unfolding_all first | rfl | assumption), hX, hxs, hF, hn7, hc1, rfl⟩
    try clear F
    try clear N
    clear hk_few hk_box hk_codec hk_way hc
    intro h3 tk3 m3 nw3 F N hJ3
    try dsimp only
    obtain ⟨x, b, mk, tx, c, tc1, hk_few, hk_box, hk_codec, hk_way, hk_text, hSp, hxs, hFine, hn7, hc, rfl⟩ := hJ3
    k_steps
    refine Halt.mk (cutF (g := s1.heap) (L := s1.heap.objs.size) (fun m' nw => ∃ rv tm led2, m' (Str.ofString "few") = some (.ref few) ∧ m' (Str.ofString "box") = some (.ref box) ∧ m' (Str.ofString "codec") = some (.str cc tcc) ∧ m' (Str.ofString "way") = some (.str cw tcw) ∧ m' (Str.ofString "text") = some (.str x tx) ∧ m' (Str.ofString "rows") = some (rv) ∧ m' (Str.ofString "mark") = some (.str (one mk) tm) ∧ LexOut b rv led2 ∧ (∀ p ∈ led, p ∈ led2) ∧ (∀ p ∈ led2, p.1 ≠ box) ∧ nw = (box, W.listOf #[.ref few, .int c tc1] n1) :: (few, W.listOf vs2.toArray n2) :: led2) ?_ ?_)
    · have go := Go.mk
      k_steps
      rename Fr _ _ _ _ => F4
      rename News _ _ _ _ => N4
      refine Halt.mk (lex_ok w B F4 X N4 T rfl (by ktr_room) (by ktr_units) hSp hxs hFine ?_)
      intro r v tm T1 h7 tk7 hLO F7 N7 hT1
      clear F4 N4
      k_steps
      rename News _ _ _ _ => N9
      exact PostF.intro (by assumption) (canon0 (dropA N9)) ⟨_, _, _, (by with_unfolding_all first | rfl | assumption), (by with_unfolding_all first | rfl | assumption), (by with_unfolding_all first | rfl | assumption), (by with_unfolding_all first | rfl | assumption), (by with_unfolding_all first | rfl | assumption), (by with_unfolding_all first | rfl | assumption), (by with_unfolding_all first | rfl | assumption), hLO.mono (fun p hp => List.mem_append_left _ hp), (fun p hp => List.mem_append_right _ hp), led_app hT1 hled, rfl⟩
    try clear F
    try clear N
    clear hk_few hk_box hk_codec hk_way hk_text
    intro h3 tk3 m3 nw3 F N hJ3
    try dsimp only
    obtain ⟨rv, tm, led2, hk_few, hk_box, hk_codec, hk_way, hk_text, hk_rowsv, hk_mark, hLO, hs2, hled2, rfl⟩ := hJ3
    k_steps
    obtain ⟨k, hk7, hlk⟩ := lexK_of hLO hn7
    refine Halt.mk (cutF (g := s1.heap) (L := s1.heap.objs.size) (fun m' nw => ∃ nv names led3 c tc, m' (Str.ofString "few") = some (.ref few) ∧ m' (Str.ofString "box") = some (.ref box) ∧ m' (Str.ofString "codec") = some (.str cc tcc) ∧ m' (Str.ofString "way") = some (.str cw tcw) ∧ m' (Str.ofString "text") = some (.str x tx) ∧ m' (Str.ofString "rows") = some (rv) ∧ m' (Str.ofString "mark") = some (.str (one mk) tm) ∧ m' (Str.ofString "names") = some (nv) ∧ NmRes led3 nv names k ∧ (∀ p ∈ led2, p ∈ led3) ∧ (∀ p ∈ led3, p.1 ≠ box) ∧ 0 ≤ c ∧ nw = (box, W.listOf #[.ref few, .int c tc] n1) :: (few, W.listOf vs2.toArray n2) :: led3) ?_ ?_)
    · have go := Go.mk
      k_steps
      rename Fr _ _ _ _ => F4
      rename News _ _ _ _ => N4
      refine Halt.mk (names_ok w B F4 X N4 T rfl (by ktr_room) (by ktr_units) hne hled2 hI2 hp2 hl2 hc hlk.rowsV hk7 ?_)
      intro nv names T3 c3 tc3 h7 tk7 hnm hc3 F7 N7 hT3
      clear F4 N4
      k_steps
      exact PostF.intro (by assumption) (by assumption) ⟨_, names, _, _, _, (by with_unfolding_all first | rfl | assumption), (by with_unfolding_all first | rfl | assumption), (by with_unfolding_all first | rfl | assumption), (by with_unfolding_all first | rfl | assumption), (by with_unfolding_all first | rfl | assumption), (by with_unfolding_all first | rfl | assumption), (by with_unfolding_all first | rfl | assumption), (by with_unfolding_all first | rfl | assumption), hnm.mono (fun p hp => List.mem_append_left _ hp), (fun p hp => List.mem_append_right _ hp), (fun p hp => (List.mem_append.mp hp).elim (hT3 p) (hled2 p)), hc3, rfl⟩
    try clear F
    try clear N
    clear hk_few hk_box hk_codec hk_way hk_text hk_rowsv hk_mark hc
    intro h3 tk3 m3 nw3 F N hJ3
    try dsimp only
    obtain ⟨nv, names, led3, c, tc3, hk_few, hk_box, hk_codec, hk_way, hk_text, hk_rowsv, hk_mark, hk_names, hnm, hs3, hled3, hc, rfl⟩ := hJ3
    k_steps
    refine Halt.mk (cutF (g := s1.heap) (L := s1.heap.objs.size) (fun m' nw => ∃ dv D led4', m' (Str.ofString "few") = some (.ref few) ∧ m' (Str.ofString "box") = some (.ref box) ∧ m' (Str.ofString "codec") = some (.str cc tcc) ∧ m' (Str.ofString "way") = some (.str cw tcw) ∧ m' (Str.ofString "text") = some (.str x tx) ∧ m' (Str.ofString "mark") = some (.str (one mk) tm) ∧ m' (Str.ofString "names") = some (nv) ∧ m' (Str.ofString "due") = some (dv) ∧ DueK b names k D ∧ DueOut led4' dv D ∧ (∀ p ∈ led3, p ∈ led4') ∧ (∀ p ∈ led4', p.1 ≠ box) ∧ nw = (box, W.listOf #[.ref few, .int c tc3] n1) :: (few, W.listOf vs2.toArray n2) :: led4') ?_ ?_)
    · have go := Go.mk
      k_steps
      rename Fr _ _ _ _ => F4
      rename News _ _ _ _ => N4
      refine Halt.mk (due_k w B F4 X N4 T rfl (by ktr_room) (by ktr_units) (hlk.mono fun p hp => .tail _ (.tail _ (hs3 p hp))) (hnm.namesIn.mono fun p hp => .tail _ (.tail _ hp)) hFine ?_)
      intro v D T4 h7 tk7 hDK hdo F7 N7 hT4
      clear F4 N4
      k_steps
      rename News _ _ _ _ => N9
      exact PostF.intro (by assumption) (canon0 N9) ⟨_, D, _, (by with_unfolding_all first | rfl | assumption), (by with_unfolding_all first | rfl | assumption), (by with_unfolding_all first | rfl | assumption), (by with_unfolding_all first | rfl | assumption), (by with_unfolding_all first | rfl | assumption), (by with_unfolding_all first | rfl | assumption), (by with_unfolding_all first | rfl | assumption), (by with_unfolding_all first | rfl | assumption), hDK, hdo.mono (fun p hp => List.mem_append_left _ hp), (fun p hp => List.mem_append_right _ hp), led_app hT4 hled3, rfl⟩
    try clear F
    try clear N
    clear hk_few hk_box hk_codec hk_way hk_text hk_rowsv hk_mark hk_names
    intro h3 tk3 m3 nw3 F N hJ3
    try dsimp only
    obtain ⟨dv, D, led5, hk_few, hk_box, hk_codec, hk_way, hk_text, hk_mark, hk_names, hk_duev, hDK, hdo, hs5, hled5, rfl⟩ := hJ3
    k_steps
    refine Halt.mk (cutF (g := s1.heap) (L := s1.heap.objs.size) (fun m' nw => ∃ gv led6, m' (Str.ofString "few") = some (.ref few) ∧ m' (Str.ofString "box") = some (.ref box) ∧ m' (Str.ofString "codec") = some (.str cc tcc) ∧ m' (Str.ofString "way") = some (.str cw tcw) ∧ m' (Str.ofString "mark") = some (.str (one mk) tm) ∧ m' (Str.ofString "due") = some (dv) ∧ m' (Str.ofString "got") = some (gv) ∧ GotR w.params cc cw mk led6 gv D ∧ (∀ p ∈ led5, p ∈ led6) ∧ (∀ p ∈ led6, p.1 ≠ box) ∧ nw = (box, W.listOf #[.ref few, .int c tc3] n1) :: (few, W.listOf vs2.toArray n2) :: led6) ?_ ?_)
    · have go := Go.mk
      k_steps
      rename Fr _ _ _ _ => F4
      rename News _ _ _ _ => N4
      refine Halt.mk (answer_ok w B F4 X N4 T rfl X T (by ktr_room) (by ktr_units) hSp hxs hFine (hnm.namesIn.mono fun p hp => .tail _ (.tail _ (hs5 p hp))) hDK.res (hDK.list (hnm.mono fun p hp => .tail _ (.tail _ (hs5 p hp)))) ?_ ?_ ?_)
      · intro r O vs' T' t n its h' tk' hD9 hi9 hm9 F9 N9 l9
        have hrb := tup_ne N9 (.head _) (.tail _ (List.mem_append_right _ (.head _)))
        clear F4 N4
        k_steps
        rename News _ _ _ _ => Nz
        refine PostF.intro (by assumption) (canon0 (T1 := (r, tupObj [.ref O, .str (one mk) t]) :: T') Nz) ⟨_, _, (by with_unfolding_all first | rfl | assumption), (by with_unfolding_all first | rfl | assumption), (by with_unfolding_all first | rfl | assumption), (by with_unfolding_all first | rfl | assumption), (by with_unfolding_all first | rfl | assumption), (by with_unfolding_all first | rfl | assumption), (by with_unfolding_all first | rfl | assumption), ?_, (fun p hp => List.mem_append_right _ hp), ?_, rfl⟩
        · rw [hD9]
          exact ⟨r, O, vs', n, t, rfl, .head _, .tail _ (List.mem_append_left _ hm9), hi9.mono fun p hp => .tail _ (List.mem_append_left _ hp)⟩
        · intro p hp
          rcases List.mem_cons.mp hp with rfl | hp
          · exact hrb
          · exact led_app l9 hled5 p hp
      · intro t h' tk' hD9 F9 N9
        clear F4 N4
        k_steps
        exact PostF.intro (by assumption) (by assumption) ⟨_, _, (by with_unfolding_all first | rfl | assumption), (by with_unfolding_all first | rfl | assumption), (by with_unfolding_all first | rfl | assumption), (by with_unfolding_all first | rfl | assumption), (by with_unfolding_all first | rfl | assumption), (by with_unfolding_all first | rfl | assumption), (by with_unfolding_all first | rfl | assumption), (by rw [hD9]; exact ⟨_, rfl⟩), (fun p hp => hp), hled5, rfl⟩
      · intro t h' tk' hD9 F9 N9
        clear F4 N4
        k_steps
        exact PostF.intro (by assumption) (by assumption) ⟨_, _, (by with_unfolding_all first | rfl | assumption), (by with_unfolding_all first | rfl | assumption), (by with_unfolding_all first | rfl | assumption), (by with_unfolding_all first | rfl | assumption), (by with_unfolding_all first | rfl | assumption), (by with_unfolding_all first | rfl | assumption), (by with_unfolding_all first | rfl | assumption), (by rw [hD9]; exact ⟨_, rfl⟩), (fun p hp => hp), hled5, rfl⟩
    try clear F
    try clear N
    clear hk_few hk_box hk_codec hk_way hk_text hk_mark hk_names hk_duev
    intro h3 tk3 m3 nw3 F N hJ3
    try dsimp only
    obtain ⟨gv, led6, hk_few, hk_box, hk_codec, hk_way, hk_mark, hk_duev, hk_got, hgot, hs6, hled6, rfl⟩ := hJ3
    k_steps
    have hdo6 := hdo.mono (T' := led6) hs6
    refine Halt.mk (cutF (g := s1.heap) (L := s1.heap.objs.size) (fun m' nw => m' (Str.ofString "few") = some (.ref few) ∧ m' (Str.ofString "box") = some (.ref box) ∧ m' (Str.ofString "codec") = some (.str cc tcc) ∧ m' (Str.ofString "way") = some (.str cw tcw) ∧ nw = (box, W.listOf #[.ref few, .int c tc3] n1) :: (few, W.listOf vs2.toArray n2) :: led6) ?_ ?_)
    · have go := Go.mk
      rcases D with _ | _ | its
      · obtain ⟨t1, rfl⟩ := hdo6
        obtain ⟨t2, rfl⟩ := hgot
        k_steps
        rename Fr _ _ _ _ => F4
        refine Halt.mk (kia_one kitx_str (X.keeps F4.keep) trivial (by kit_is) (by intro q; cases q) ?_)
        intro _
        k_steps
        exact PostF.intro (by assumption) (by assumption) ⟨(by with_unfolding_all first | rfl | assumption), (by with_unfolding_all first | rfl | assumption), (by with_unfolding_all first | rfl | assumption), (by with_unfolding_all first | rfl | assumption), rfl⟩
      · obtain ⟨t1, rfl⟩ := hdo6
        obtain ⟨t2, rfl⟩ := hgot
        k_steps
        rename Fr _ _ _ _ => F4
        refine Halt.mk (kia_one kitx_str (X.keeps F4.keep) trivial (by kit_is) (by intro q; cases q) ?_)
        intro _
        k_steps
        exact PostF.intro (by assumption) (by assumption) ⟨(by with_unfolding_all first | rfl | assumption), (by with_unfolding_all first | rfl | assumption), (by with_unfolding_all first | rfl | assumption), (by with_unfolding_all first | rfl | assumption), rfl⟩
      · obtain ⟨Du, dvs, dn, rfl, hDm, hIt⟩ := hdo6
        obtain ⟨r, O, ivs, on, to, rfl, hr6, hO6, hi6⟩ := hgot
        have hig := hDK.good its rfl
        k_steps
        rename Fr _ _ _ _ => F4
        rename News _ _ _ _ => N4
        refine Halt.mk (kia_one kitx_list (X.keeps F4.keep) (kitAt_N N4 (.tail _ (.tail _ hDm)) rfl) (by kit_is) (by intro q; cases q) ?_)
        intro _
        k_steps
        rename Fr _ _ _ _ => F4
        rename News _ _ _ _ => N4
        have hTr := News.isTup N4 (.tail _ (.tail _ hr6))
        refine Halt.mk (kia_one kitx_tuple (X.keeps F4.keep) (kitAt_N N4 (.tail _ (.tail _ hr6)) rfl) (by kit_is) (by intro q; cases q) ?_)
        intro _
        k_steps
        rename Fr _ _ _ _ => F4
        rename News _ _ _ _ => N4
        refine Halt.mk (all_ok w B F4 X N4 T rfl (by ktr_room) (by ktr_units) (.tail _ (.tail _ hO6)) (.tail _ (.tail _ hDm)) (hi6.mono fun p hp => .tail _ (.tail _ hp)) (hIt.mono fun p hp => .tail _ (.tail _ hp)) hig.1 hig.2 ?_)
        intro h9 tk9 F9 N9
        k_steps
        exact PostF.intro (by assumption) (by assumption) ⟨(by with_unfolding_all first | rfl | assumption), (by with_unfolding_all first | rfl | assumption), (by with_unfolding_all first | rfl | assumption), (by with_unfolding_all first | rfl | assumption), rfl⟩
    try clear F
    try clear N
    clear hk_few hk_box hk_codec hk_way hk_mark hk_duev hk_got
    intro h3 tk3 m3 nw3 F N hJ3
    try dsimp only
    obtain ⟨hk_few, hk_box, hk_codec, hk_way, rfl⟩ := hJ3
    k_steps
    rename Fr _ _ _ _ => Fz
    rename News _ _ _ _ => Nz
    have hs9 : ∀ p ∈ led4 ++ own, p ∈ led6 := fun p hp => hs6 _ (hs5 _ (hs3 _ (hs2 _ (by rw [hle]; exact hp))))
    refine ⟨_, _, _, _, rfl, by assumption, turn_news Nz hs9, box_ap hap, ⟨_, _, (by with_unfolding_all first | rfl | assumption), (by with_unfolding_all first | rfl | assumption), (by with_unfolding_all first | rfl | assumption), (by with_unfolding_all first | rfl | assumption), hc, rfl⟩⟩
  rintro h' tk' m' news' F N ⟨c, tc, hk_few, hk_box, hk_codec, hk_way, hc, rfl⟩
  try dsimp only
  try clear F5 N5
  k_steps
  rename Fr _ _ _ _ => F4
  rename News _ _ _ _ => N4
  have he0 : (Str.ofString "").cps.size = 0 := by rw [cps_empty]; rfl
  refine Halt.mk (parse_ok w (b := Str.ofString "") (mk := 62) (names := none) (D := .ok []) B F4 X N4 T rfl (by ktr_room) (by ktr_units) (.inl ⟨he0, rfl, rfl⟩) (by omega) (st_fine (j := 0) (by rw [cps_empty]; rfl) (by omega)) (.inl ⟨rfl, rfl⟩) (.inl ⟨[], by rw [he0]; exact .nil, rfl⟩) (fun h => nomatch h) ?_ ?_ ?_)
  rotate_left
  · intro _ _ _ _ _ _ hD9
    cases hD9
  · intro _ _ _ _ hD9
    cases hD9
  intro r O vs' T9 t n its9 h9 tk9 hD9 hi9 hm9 F9 N9 l9
  obtain rfl : its9 = [] := (DueR.ok.inj hD9).symm
  cases hi9
  clear F4 N4
  k_steps
  rename News _ _ _ _ => Nz
  have hT1 := News.isTup Nz (.tail _ (.tail _ (.head _)))
  have hT2 := News.isTup Nz (.head _)
  have hL1 := News.isList Nz (.tail _ (.tail _ (.tail _ (List.mem_append_left _ hm9))))
  have hL2 := News.isList Nz (.tail _ (.head _))
  refine Halt.mk (eq_pair hT1 hT2 hL1 hL2 (by ktr_units) (by first | ktr_units | decide) ?_)
  k_steps
)
end Mine
end
theorem PySem.Challenge.cw_eh5007_01_holds : PySem.Challenge.rw_eh5007_01.Holds := by
  exact Mine.law_holds
