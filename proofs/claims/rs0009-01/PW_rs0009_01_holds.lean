import PyProof.Rows.All
import Wide.All
import OpenK.AllK
import Wide.FinOn
import PySem.Challenge.RW_rs0009_01
set_option Elab.async false
set_option linter.all false

-- Sre1
section
open PySem PySem.Sre
set_option Elab.async false
set_option linter.all false
namespace Mine
/-- the ten signs -/
def al : List Nat := [97, 66, 47, 61, 34, 92, 59, 44, 32, 10]
def Al (t : List Nat) : Prop := ∀ c ∈ t, c ∈ al
def isW (c : Nat) : Bool := c == 32 || c == 10
def isT (c : Nat) : Bool := !(isW c || c == 61 || c == 59 || c == 44)
def isV (c : Nat) : Bool := !(isW c || c == 59 || c == 44)
def isQ (c : Nat) : Bool := !(c == 34 || c == 92)
def isJ (c : Nat) : Bool := isW c || c == 61 || c == 59
def cTwin : Array Nat := #[14, 4, 0, 0, 4294967295, 6, 0, 24, 13, 0, 4294967295, 13, 8, 16, 61, 8, 12, 16, 59, 0, 1, 1]
def cTok : Array Nat := #[14, 4, 0, 1, 4294967295, 6, 0, 24, 9, 0, 4294967295, 13, 4, 8, 12, 0, 1, 17, 0, 24, 19, 1, 4294967295, 13, 14, 21, 9, 0, 671092736, 0, 0, 0, 0, 0, 0, 8, 12, 0, 1, 17, 1, 1]
def cQuo : Array Nat := #[14, 4, 0, 3, 4294967295, 6, 0, 24, 9, 0, 4294967295, 13, 4, 8, 12, 0, 1, 16, 61, 24, 9, 0, 4294967295, 13, 4, 8, 12, 0, 1, 16, 34, 17, 0, 24, 12, 0, 4294967295, 13, 7, 21, 16, 34, 16, 92, 0, 1, 23, 19, 0, 4294967295, 16, 92, 2, 24, 12, 0, 4294967295, 13, 7, 21, 16, 34, 16, 92, 0, 1, 18, 17, 1, 16, 34, 1]
def cVal : Array Nat := #[14, 4, 0, 1, 4294967295, 6, 0, 24, 9, 0, 4294967295, 13, 4, 8, 12, 0, 1, 16, 61, 24, 9, 0, 4294967295, 13, 4, 8, 12, 0, 1, 17, 0, 24, 14, 0, 4294967295, 13, 9, 21, 8, 12, 16, 59, 16, 44, 0, 1, 17, 1, 1]
def cEsc : Array Nat := #[14, 8, 1, 2, 2, 1, 1, 92, 0, 16, 92, 17, 0, 2, 17, 1, 1]
def Acc (C : Array Nat) (i : Nat) (f : Nat → Bool) : Prop := ∀ c ∈ al, ∀ sn, ∃ sn', accepts C i c sn = .ok (f c, sn')
theorem acc_of {C : Array Nat} {i : Nat} {f : Nat → Bool} (h0 : ∀ sn, ∃ sn', accepts C i 97 sn = .ok (f 97, sn')) (h1 : ∀ sn, ∃ sn', accepts C i 66 sn = .ok (f 66, sn'))
    (h2 : ∀ sn, ∃ sn', accepts C i 47 sn = .ok (f 47, sn')) (h3 : ∀ sn, ∃ sn', accepts C i 61 sn = .ok (f 61, sn')) (h4 : ∀ sn, ∃ sn', accepts C i 34 sn = .ok (f 34, sn'))
    (h5 : ∀ sn, ∃ sn', accepts C i 92 sn = .ok (f 92, sn')) (h6 : ∀ sn, ∃ sn', accepts C i 59 sn = .ok (f 59, sn')) (h7 : ∀ sn, ∃ sn', accepts C i 44 sn = .ok (f 44, sn'))
    (h8 : ∀ sn, ∃ sn', accepts C i 32 sn = .ok (f 32, sn')) (h9 : ∀ sn, ∃ sn', accepts C i 10 sn = .ok (f 10, sn')) : Acc C i f := by
  intro c hc
  simp only [al, List.mem_cons, List.not_mem_nil, or_false] at hc
  rcases hc with rfl | rfl | rfl | rfl | rfl | rfl | rfl | rfl | rfl | rfl <;> assumption
theorem acc_tok_w : Acc cTok 11 isW := acc_of (fun _ => ⟨_, rfl⟩) (fun _ => ⟨_, rfl⟩) (fun _ => ⟨_, rfl⟩) (fun _ => ⟨_, rfl⟩) (fun _ => ⟨_, rfl⟩) (fun _ => ⟨_, rfl⟩) (fun _ => ⟨_, rfl⟩) (fun _ => ⟨_, rfl⟩) (fun _ => ⟨_, rfl⟩) (fun _ => ⟨_, rfl⟩)
theorem acc_tok_t : Acc cTok 23 isT := acc_of (fun _ => ⟨_, rfl⟩) (fun _ => ⟨_, rfl⟩) (fun _ => ⟨_, rfl⟩) (fun _ => ⟨_, rfl⟩) (fun _ => ⟨_, rfl⟩) (fun _ => ⟨_, rfl⟩) (fun _ => ⟨_, rfl⟩) (fun _ => ⟨_, rfl⟩) (fun _ => ⟨_, rfl⟩) (fun _ => ⟨_, rfl⟩)
theorem acc_quo_w1 : Acc cQuo 11 isW := acc_of (fun _ => ⟨_, rfl⟩) (fun _ => ⟨_, rfl⟩) (fun _ => ⟨_, rfl⟩) (fun _ => ⟨_, rfl⟩) (fun _ => ⟨_, rfl⟩) (fun _ => ⟨_, rfl⟩) (fun _ => ⟨_, rfl⟩) (fun _ => ⟨_, rfl⟩) (fun _ => ⟨_, rfl⟩) (fun _ => ⟨_, rfl⟩)
theorem acc_quo_w2 : Acc cQuo 23 isW := acc_of (fun _ => ⟨_, rfl⟩) (fun _ => ⟨_, rfl⟩) (fun _ => ⟨_, rfl⟩) (fun _ => ⟨_, rfl⟩) (fun _ => ⟨_, rfl⟩) (fun _ => ⟨_, rfl⟩) (fun _ => ⟨_, rfl⟩) (fun _ => ⟨_, rfl⟩) (fun _ => ⟨_, rfl⟩) (fun _ => ⟨_, rfl⟩)
theorem acc_quo_q1 : Acc cQuo 37 isQ := acc_of (fun _ => ⟨_, rfl⟩) (fun _ => ⟨_, rfl⟩) (fun _ => ⟨_, rfl⟩) (fun _ => ⟨_, rfl⟩) (fun _ => ⟨_, rfl⟩) (fun _ => ⟨_, rfl⟩) (fun _ => ⟨_, rfl⟩) (fun _ => ⟨_, rfl⟩) (fun _ => ⟨_, rfl⟩) (fun _ => ⟨_, rfl⟩)
theorem acc_quo_q2 : Acc cQuo 57 isQ := acc_of (fun _ => ⟨_, rfl⟩) (fun _ => ⟨_, rfl⟩) (fun _ => ⟨_, rfl⟩) (fun _ => ⟨_, rfl⟩) (fun _ => ⟨_, rfl⟩) (fun _ => ⟨_, rfl⟩) (fun _ => ⟨_, rfl⟩) (fun _ => ⟨_, rfl⟩) (fun _ => ⟨_, rfl⟩) (fun _ => ⟨_, rfl⟩)
theorem acc_val_w1 : Acc cVal 11 isW := acc_of (fun _ => ⟨_, rfl⟩) (fun _ => ⟨_, rfl⟩) (fun _ => ⟨_, rfl⟩) (fun _ => ⟨_, rfl⟩) (fun _ => ⟨_, rfl⟩) (fun _ => ⟨_, rfl⟩) (fun _ => ⟨_, rfl⟩) (fun _ => ⟨_, rfl⟩) (fun _ => ⟨_, rfl⟩) (fun _ => ⟨_, rfl⟩)
theorem acc_val_w2 : Acc cVal 23 isW := acc_of (fun _ => ⟨_, rfl⟩) (fun _ => ⟨_, rfl⟩) (fun _ => ⟨_, rfl⟩) (fun _ => ⟨_, rfl⟩) (fun _ => ⟨_, rfl⟩) (fun _ => ⟨_, rfl⟩) (fun _ => ⟨_, rfl⟩) (fun _ => ⟨_, rfl⟩) (fun _ => ⟨_, rfl⟩) (fun _ => ⟨_, rfl⟩)
theorem acc_val_v : Acc cVal 35 isV := acc_of (fun _ => ⟨_, rfl⟩) (fun _ => ⟨_, rfl⟩) (fun _ => ⟨_, rfl⟩) (fun _ => ⟨_, rfl⟩) (fun _ => ⟨_, rfl⟩) (fun _ => ⟨_, rfl⟩) (fun _ => ⟨_, rfl⟩) (fun _ => ⟨_, rfl⟩) (fun _ => ⟨_, rfl⟩) (fun _ => ⟨_, rfl⟩)
theorem acc_twin_j : Acc cTwin 11 isJ := acc_of (fun _ => ⟨_, rfl⟩) (fun _ => ⟨_, rfl⟩) (fun _ => ⟨_, rfl⟩) (fun _ => ⟨_, rfl⟩) (fun _ => ⟨_, rfl⟩) (fun _ => ⟨_, rfl⟩) (fun _ => ⟨_, rfl⟩) (fun _ => ⟨_, rfl⟩) (fun _ => ⟨_, rfl⟩) (fun _ => ⟨_, rfl⟩)
theorem run_acc {C : Array Nat} {i : Nat} {f : Nat → Bool} {t : List Nat} (ha : Acc C i f) (ht : Al t) :
    ∀ (n p k : Nat) (sn : Seen), p + n = t.length → ∃ sn', Sre.run C t.toArray i n p k sn = .ok (k + ((t.drop p).takeWhile f).length, sn') := by
  intro n
  induction n with
  | zero =>
    intro p k sn hp
    refine ⟨sn, ?_⟩
    rw [List.drop_of_length_le (by omega)]
    rfl
  | succ n ih =>
    intro p k sn hp
    have hlt : p < t.length := by omega
    obtain ⟨sn1, h1⟩ := ha t[p] (ht _ (List.getElem_mem hlt)) sn
    have hg : t.toArray.getD p 0 = t[p] := by
      simp [Array.getD, hlt]
    have hd : t.drop p = t[p] :: t.drop (p + 1) := List.drop_eq_getElem_cons hlt
    unfold Sre.run
    rw [hg, h1]
    simp only [bind, Except.bind]
    cases hf : f t[p] with
    | true =>
      obtain ⟨sn2, h2⟩ := ih (p + 1) (k + 1) sn1 (by omega)
      refine ⟨sn2, ?_⟩
      simp only [if_true, h2]
      rw [hd, List.takeWhile_cons, hf]
      simp only [if_true, List.length_cons]
      congr 2
      omega
    | false =>
      refine ⟨sn1, ?_⟩
      rw [hd, List.takeWhile_cons, hf]
      rfl
structure Cf where
  start : Nat := 0
  pc : Nat
  pos : Nat
  handed : Nat := 0
  om : Bool := true
  must : Bool := false
  marks : Array (Option Nat)
  lm : Int := -1
  li : Int := -1
  loops : Array Loop := #[]
  inner : Option Nat := none
  frames : List Sre.Frame := []
  ans : Option Bool := none
def wt : List Sre.Frame → Nat
  | [] => 0
  | f :: r => wt r + 1 + f.kept.marks.size
def toM (C : Array Nat) (t : List Nat) (ls : Nat) (c : Cf) (sn : Seen) : M :=
  { code := C, text := t.toArray, lim := t.length, start := c.start, lastStart := ls, wholeText := false, mustAdvance := c.must, pc := c.pc, pos := c.pos, handed := c.handed,
    outermost := c.om, marks := c.marks, lastmark := c.lm, lastindex := c.li, loops := c.loops, inner := c.inner, frames := c.frames, weight := wt c.frames, answer := c.ans, seen := sn, outcome := none }
def Go (C : Array Nat) (t : List Nat) (ls n : Nat) (x y : Cf) : Prop := ∀ sn, ∃ k, k ≤ n ∧ ∃ sn', M.runFor k (toM C t ls x sn) = toM C t ls y sn'
theorem runFor_some {n : Nat} {m : M} (h : m.outcome.isSome = true) : M.runFor n m = m := by
  cases n with
  | zero => rfl
  | succ n => rw [M.runFor, if_pos h]
theorem runFor_add : ∀ (a b : Nat) (m : M), M.runFor (a + b) m = M.runFor b (M.runFor a m)
  | 0, b, m => by rw [Nat.zero_add]; rfl
  | a + 1, b, m => by
    rw [show a + 1 + b = (a + b) + 1 by omega, M.runFor, M.runFor]
    by_cases h : m.outcome.isSome = true
    · rw [if_pos h, if_pos h, runFor_some h]
    · rw [if_neg h, if_neg h, runFor_add a b]
section
variable {C : Array Nat} {t : List Nat} {ls : Nat}
theorem Go.refl {x : Cf} (n : Nat) : Go C t ls n x x := fun sn => ⟨0, Nat.zero_le _, sn, rfl⟩
theorem Go.trans {a b : Nat} {x y z : Cf} (h : Go C t ls a x y) (g : Go C t ls b y z) : Go C t ls (a + b) x z := fun sn => by
  obtain ⟨k, hk, s1, e1⟩ := h sn
  obtain ⟨j, hj, s2, e2⟩ := g s1
  exact ⟨k + j, by omega, s2, by rw [runFor_add, e1, e2]⟩
theorem Go.le {a b : Nat} {x y : Cf} (h : Go C t ls a x y) (hab : a ≤ b) : Go C t ls b x y := fun sn => by
  obtain ⟨k, hk, r⟩ := h sn
  exact ⟨k, by omega, r⟩
theorem Go.then {a b n : Nat} {x y z : Cf} (h : Go C t ls a x y) (g : Go C t ls b y z) (hn : a + b ≤ n) : Go C t ls n x z := (h.trans g).le hn
theorem Go.one {x y : Cf} (h : ∀ sn, ∃ sn', M.step (toM C t ls x sn) = toM C t ls y sn') : Go C t ls 1 x y := fun sn => by
  obtain ⟨s1, e⟩ := h sn
  exact ⟨1, Nat.le_refl _, s1, e⟩
theorem getD_eq (t : List Nat) (p : Nat) : t.toArray.getD p 0 = t.getD p 0 := by
  by_cases h : p < t.length
  · simp [Array.getD, List.getD, h]
  · simp [Array.getD, List.getD, h]
theorem step_none {m : M} (ho : m.outcome = none) (ha : m.answer = none) (hp : m.pc < m.code.size) : m.step = m.exec := by
  unfold M.step
  rw [ho]
  simp only [Option.isSome_none, Bool.false_eq_true, if_false, ha, if_pos hp]
theorem lt_of_get {t : List Nat} {p c : Nat} (h : t[p]? = some c) : p < t.length := by
  rcases Nat.lt_or_ge p t.length with g | g
  · exact g
  · rw [List.getElem?_eq_none g] at h; cases h
theorem getD_of {t : List Nat} {p c : Nat} (h : t[p]? = some c) : t.getD p 0 = c := by rw [List.getD_eq_getElem?_getD, h]; rfl
/-- one step, sign by sign of the code -/
theorem exec_at {m : M} {k : Nat} {o : Op} (h : m.word 0 = k) (ho : ops[k]? = some o) : ops[m.word 0]? = some o := by rw [h]; exact ho
theorem exec16 {m : M} {b : Bool} (h : m.word 0 = 16) (hl : m.pos < m.lim) (hb : (m.text.getD m.pos 0 == m.word 1) = b) :
    m.exec = if b = true then { m with seen := m.seen.add 16, pc := m.pc + 2, pos := m.pos + 1 } else ({ m with seen := m.seen.add 16 } : M).say false := by
  have h' : m.code.getD m.pc 0 = 16 := h
  have hA : accepts m.code m.pc (m.text.getD m.pos 0) (m.seen.add 16) = .ok (b, m.seen.add 16) := by
    unfold accepts
    rw [show ops[m.code.getD m.pc 0]? = some Op.LITERAL from exec_at (m := m) h rfl, ← hb]; rfl
  have hW : itemWidth m.code m.pc = 2 := by unfold itemWidth; rw [show ops[m.code.getD m.pc 0]? = some Op.LITERAL from exec_at (m := m) h rfl]
  unfold M.exec
  rw [exec_at (o := .LITERAL) h rfl]
  show (if m.pos ≥ m.lim then _ else match accepts m.code m.pc (m.text.getD m.pos 0) (m.seen.add (m.word 0)) with
    | .error why => _
    | .ok (false, seen) => _
    | .ok (true, seen) => _) = _
  rw [if_neg (Nat.not_le.mpr hl), h, hA, hW]
  cases b <;> rfl
theorem exec16_end {m : M} (h : m.word 0 = 16) (hl : m.pos ≥ m.lim) : m.exec = ({ m with seen := m.seen.add 16 } : M).say false := by
  unfold M.exec
  rw [exec_at (o := .LITERAL) h rfl]
  show (if m.pos ≥ m.lim then _ else _) = _
  rw [if_pos hl, h]
theorem exec2 {m : M} {b : Bool} (h : m.word 0 = 2) (hl : m.pos < m.lim) (hb : (m.text.getD m.pos 0 != 10) = b) :
    m.exec = if b = true then { m with seen := m.seen.add 2, pc := m.pc + 1, pos := m.pos + 1 } else ({ m with seen := m.seen.add 2 } : M).say false := by
  have hA : accepts m.code m.pc (m.text.getD m.pos 0) (m.seen.add 2) = .ok (b, m.seen.add 2) := by
    unfold accepts
    rw [show ops[m.code.getD m.pc 0]? = some Op.ANY from exec_at (m := m) h rfl, ← hb]
  have hW : itemWidth m.code m.pc = 1 := by unfold itemWidth; rw [show ops[m.code.getD m.pc 0]? = some Op.ANY from exec_at (m := m) h rfl]
  unfold M.exec
  rw [exec_at (o := .ANY) h rfl]
  show (if m.pos ≥ m.lim then _ else match accepts m.code m.pc (m.text.getD m.pos 0) (m.seen.add (m.word 0)) with
    | .error why => _
    | .ok (false, seen) => _
    | .ok (true, seen) => _) = _
  rw [if_neg (Nat.not_le.mpr hl), h, hA, hW]
  cases b <;> rfl
theorem exec2_end {m : M} (h : m.word 0 = 2) (hl : m.pos ≥ m.lim) : m.exec = ({ m with seen := m.seen.add 2 } : M).say false := by
  unfold M.exec
  rw [exec_at (o := .ANY) h rfl]
  show (if m.pos ≥ m.lim then _ else _) = _
  rw [if_pos hl, h]
theorem exec6 {m : M} (h : m.word 0 = 6) (h1 : m.word 1 = 0) : m.exec = if (m.pos == 0) = true then { m with seen := (m.seen.add 6).add 43, pc := m.pc + 2 } else ({ m with seen := (m.seen.add 6).add 43 } : M).say false := by
  unfold M.exec
  rw [exec_at (o := .AT) h rfl]
  show (match M.isAt { m with seen := m.seen.add (m.word 0) } (m.word 1) with
    | .error why => _
    | .ok yes => if yes = true then ({ m with seen := (m.seen.add (m.word 0)).add (43 + m.word 1), pc := m.pc + 2 } : M) else M.say { m with seen := (m.seen.add (m.word 0)).add (43 + m.word 1) } false) = _
  rw [h, h1]; rfl
theorem exec17 {m : M} {i : Nat} (h : m.word 0 = 17) (h1 : m.word 1 = i) (hl : (i : Int) ≤ m.lastmark + 1) :
    m.exec = { m with seen := m.seen.add 17, marks := m.marks.setIfInBounds i (some m.pos), lastmark := max m.lastmark i, lastindex := if (i % 2 == 1) = true then ((i / 2 + 1 : Nat) : Int) else m.lastindex, pc := m.pc + 2 } := by
  unfold M.exec
  rw [exec_at (o := .MARK) h rfl]
  show M.mark { m with seen := m.seen.add (m.word 0) } (m.word 1) = _
  rw [h, h1]
  show ({ m with seen := m.seen.add 17, marks := (if (i : Int) ≤ m.lastmark + 1 then m.marks else _).setIfInBounds i (some m.pos), lastmark := max m.lastmark i, lastindex := if (i % 2 == 1) = true then ((i / 2 + 1 : Nat) : Int) else m.lastindex, pc := m.pc + 2 } : M) = _
  rw [if_pos hl]
theorem exec1 {m : M} (h : m.word 0 = 1) (hb : ¬ (m.outermost && ((m.wholeText && m.pos != m.lim) || (m.mustAdvance && m.pos == m.start))) = true) : m.exec = ({ m with seen := m.seen.add 1, handed := m.pos } : M).say true := by
  unfold M.exec
  rw [exec_at (o := .SUCCESS) h rfl]
  show (if (m.outermost && ((m.wholeText && m.pos != m.lim) || (m.mustAdvance && m.pos == m.start))) = true then _ else M.say { m with seen := m.seen.add (m.word 0), handed := m.pos } true) = _
  rw [if_neg hb, h]
theorem exec24_short {m : M} (h : m.word 0 = 24) (hr : (m.word 2 : Int) > (m.lim : Int) - (m.pos : Int)) : m.exec = ({ m with seen := m.seen.add 24 } : M).say false := by
  unfold M.exec
  rw [exec_at (o := .REPEAT_ONE) h rfl]
  show (if (m.word 2 : Int) > (m.lim : Int) - (m.pos : Int) then M.say { m with seen := m.seen.add (m.word 0) } false else _) = _
  rw [if_pos hr, h]
theorem exec24 {m : M} {n : Nat} {sn : Seen} (h : m.word 0 = 24) (hr : ¬ (m.word 2 : Int) > (m.lim : Int) - (m.pos : Int))
    (hrun : Sre.run m.code m.text (m.pc + 4) (min (m.word 3) ((m.lim : Int) - (m.pos : Int)).toNat) m.pos 0 ((m.seen.add 24).add (m.word 4)) = .ok (n, sn)) :
    m.exec = if n < m.word 2 then ({ m with seen := sn } : M).say false else M.afterRun { m with seen := sn, pos := m.pos + n } .giveBack n (M.keep { m with seen := sn, pos := m.pos + n } m.inner.isSome) := by
  unfold M.exec
  rw [exec_at (o := .REPEAT_ONE) h rfl]
  show (if (m.word 2 : Int) > (m.lim : Int) - (m.pos : Int) then _ else match Sre.run m.code m.text (m.pc + 4) (min (m.word 3) ((m.lim : Int) - (m.pos : Int)).toNat) m.pos 0 ((m.seen.add (m.word 0)).add (m.word 4)) with
    | .error why => _
    | .ok (n, seen) => if n < m.word 2 then M.say { m with seen := seen } false else M.afterRun { m with seen := seen, pos := m.pos + n } .giveBack n (M.keep { m with seen := seen, pos := m.pos + n } m.inner.isSome)) = _
  rw [if_neg hr, h, hrun]
theorem exec23 {m : M} (h : m.word 0 = 23) : m.exec = M.attempt { m with seen := m.seen.add 23, loops := m.loops.push { pc := m.pc, outer := m.inner }, inner := some m.loops.size }
    { wait := .closeLoop, pc := m.pc, pos := m.pos, outermost := m.outermost, loop := m.loops.size } (m.pc + 1 + m.word 1) m.pos m.outermost := by
  unfold M.exec
  rw [exec_at (o := .REPEAT) h rfl]
  show M.attempt { m with seen := m.seen.add (m.word 0), loops := m.loops.push { pc := m.pc, outer := m.inner }, inner := some m.loops.size } _ _ _ _ = _
  rw [h]; rfl
theorem exec18 {m : M} (h : m.word 0 = 18) : m.exec = M.until_ { m with seen := m.seen.add 18, pc := m.pc + 1 } true := by
  unfold M.exec
  rw [exec_at (o := .MAX_UNTIL) h rfl]
  show M.until_ { m with seen := m.seen.add (m.word 0), pc := m.pc + 1 } true = _
  rw [h]
/-- a literal that stands there -/
theorem go_lit {x : Cf} {c : Nat} (ha : x.ans = none) (hp : x.pc < C.size) (h0 : C.getD x.pc 0 = 16) (h1 : C.getD (x.pc + 1) 0 = c) (hc : t[x.pos]? = some c) :
    Go C t ls 1 x { x with pc := x.pc + 2, pos := x.pos + 1 } := Go.one fun sn => by
  rw [step_none rfl ha hp]
  have hg : (t.toArray.getD x.pos 0 == C.getD (x.pc + 1) 0) = true := by rw [getD_eq, getD_of hc, h1, beq_self_eq_true]
  exact ⟨sn.add 16, exec16 (m := toM C t ls x sn) h0 (lt_of_get hc) hg⟩
theorem go_lit_fail {x : Cf} {c : Nat} (ha : x.ans = none) (hp : x.pc < C.size) (h0 : C.getD x.pc 0 = 16) (h1 : C.getD (x.pc + 1) 0 = c) (hc : t[x.pos]? ≠ some c) :
    Go C t ls 1 x { x with ans := some false } := Go.one fun sn => by
  rw [step_none rfl ha hp]
  refine ⟨sn.add 16, ?_⟩
  by_cases hlt : x.pos ≥ t.length
  · exact exec16_end (m := toM C t ls x sn) h0 hlt
  · have hne : t.getD x.pos 0 ≠ c := by
      intro e; apply hc
      rw [List.getD_eq_getElem?_getD, List.getElem?_eq_getElem (by omega)] at e
      rw [List.getElem?_eq_getElem (by omega)]; exact congrArg some e
    have hb : (t.toArray.getD x.pos 0 == C.getD (x.pc + 1) 0) = false := by rw [getD_eq, h1]; simpa using hne
    exact exec16 (m := toM C t ls x sn) h0 (Nat.lt_of_not_le hlt) hb
theorem go_any {x : Cf} {c : Nat} (ha : x.ans = none) (hp : x.pc < C.size) (h0 : C.getD x.pc 0 = 2) (hc : t[x.pos]? = some c) (hn : c ≠ 10) :
    Go C t ls 1 x { x with pc := x.pc + 1, pos := x.pos + 1 } := Go.one fun sn => by
  rw [step_none rfl ha hp]
  have hg : (t.toArray.getD x.pos 0 != 10) = true := by rw [getD_eq, getD_of hc]; simpa using hn
  exact ⟨sn.add 2, exec2 (m := toM C t ls x sn) h0 (lt_of_get hc) hg⟩
theorem go_any_fail {x : Cf} (ha : x.ans = none) (hp : x.pc < C.size) (h0 : C.getD x.pc 0 = 2) (hc : ∀ c, t[x.pos]? = some c → c = 10) :
    Go C t ls 1 x { x with ans := some false } := Go.one fun sn => by
  rw [step_none rfl ha hp]
  refine ⟨sn.add 2, ?_⟩
  by_cases hlt : x.pos ≥ t.length
  · exact exec2_end (m := toM C t ls x sn) h0 hlt
  · have hne : t.getD x.pos 0 = 10 := by
      rw [List.getD_eq_getElem?_getD, List.getElem?_eq_getElem (by omega)]
      exact hc _ (List.getElem?_eq_getElem (by omega))
    have hb : (t.toArray.getD x.pos 0 != 10) = false := by rw [getD_eq, hne]; rfl
    exact exec2 (m := toM C t ls x sn) h0 (Nat.lt_of_not_le hlt) hb
theorem go_at {x : Cf} (ha : x.ans = none) (hp : x.pc < C.size) (h0 : C.getD x.pc 0 = 6) (h1 : C.getD (x.pc + 1) 0 = 0) (hz : x.pos = 0) :
    Go C t ls 1 x { x with pc := x.pc + 2 } := Go.one fun sn => by
  rw [step_none rfl ha hp]
  refine ⟨(sn.add 6).add 43, (exec6 (m := toM C t ls x sn) h0 h1).trans (if_pos ?_)⟩
  show (x.pos == 0) = true
  rw [hz]; rfl
theorem go_at_fail {x : Cf} (ha : x.ans = none) (hp : x.pc < C.size) (h0 : C.getD x.pc 0 = 6) (h1 : C.getD (x.pc + 1) 0 = 0) (hz : x.pos ≠ 0) :
    Go C t ls 1 x { x with ans := some false } := Go.one fun sn => by
  rw [step_none rfl ha hp]
  refine ⟨(sn.add 6).add 43, (exec6 (m := toM C t ls x sn) h0 h1).trans (if_neg ?_)⟩
  show ¬ (x.pos == 0) = true
  simpa using hz
theorem go_mark0 {x : Cf} {a b : Option Nat} (ha : x.ans = none) (hp : x.pc < C.size) (h0 : C.getD x.pc 0 = 17) (h1 : C.getD (x.pc + 1) 0 = 0) (hm : x.marks = #[a, b]) (hl : -1 ≤ x.lm) :
    Go C t ls 1 x { x with pc := x.pc + 2, marks := #[some x.pos, b], lm := max x.lm 0 } := Go.one fun sn => by
  rw [step_none rfl ha hp]
  refine ⟨sn.add 17, (exec17 (m := toM C t ls x sn) (i := 0) h0 h1 (by show ((0 : Nat) : Int) ≤ x.lm + 1; omega)).trans ?_⟩
  obtain ⟨start, pc, pos, handed, om, must, marks, lm, li, loops, inner, frames, ans⟩ := x
  simp only at ha hm
  subst ha hm
  rfl
theorem go_mark1 {x : Cf} {a b : Option Nat} (ha : x.ans = none) (hp : x.pc < C.size) (h0 : C.getD x.pc 0 = 17) (h1 : C.getD (x.pc + 1) 0 = 1) (hm : x.marks = #[a, b]) (hl : 0 ≤ x.lm) :
    Go C t ls 1 x { x with pc := x.pc + 2, marks := #[a, some x.pos], lm := max x.lm 1, li := 1 } := Go.one fun sn => by
  rw [step_none rfl ha hp]
  refine ⟨sn.add 17, (exec17 (m := toM C t ls x sn) (i := 1) h0 h1 (by show ((1 : Nat) : Int) ≤ x.lm + 1; omega)).trans ?_⟩
  obtain ⟨start, pc, pos, handed, om, must, marks, lm, li, loops, inner, frames, ans⟩ := x
  simp only at ha hm
  subst ha hm
  rfl
theorem go_success {x : Cf} (ha : x.ans = none) (hp : x.pc < C.size) (h0 : C.getD x.pc 0 = 1) (hm : x.must = false ∨ x.pos ≠ x.start) :
    Go C t ls 1 x { x with handed := x.pos, ans := some true } := Go.one fun sn => by
  rw [step_none rfl ha hp]
  refine ⟨sn.add 1, exec1 (m := toM C t ls x sn) h0 ?_⟩
  show ¬ (x.om && ((false && x.pos != t.length) || (x.must && x.pos == x.start))) = true
  rcases hm with h | h <;> simp [h]
def gb (x : Cf) (n : Nat) (wh : Bool) : Sre.Frame :=
  { wait := .giveBack, pc := x.pc, pos := x.pos + n, outermost := x.om, count := n, kept := { lastmark := x.lm, lastindex := x.li, whole := wh, marks := if wh then x.marks.extract 0 (x.lm + 1).toNat else #[] } }
theorem go_rep {x : Cf} {f : Nat → Bool} {sk mn : Nat} (n : Nat) (ha : x.ans = none) (hp : x.pc < C.size) (h0 : C.getD x.pc 0 = 24) (h1 : C.getD (x.pc + 1) 0 = sk) (h2 : C.getD (x.pc + 2) 0 = mn)
    (h3 : C.getD (x.pc + 3) 0 = 4294967295) (hA : Acc C (x.pc + 4) f) (ht : Al t) (hlen : t.length ≤ 4294967295) (hpos : x.pos ≤ t.length) (hn : ((t.drop x.pos).takeWhile f).length = n) (hmn : mn ≤ n)
    (hw : wt (gb x n x.inner.isSome :: x.frames) ≤ 16777216) :
    Go C t ls 1 x { x with pc := x.pc + 1 + sk, pos := x.pos + n, handed := x.pos + n, frames := gb x n x.inner.isSome :: x.frames } := Go.one fun sn => by
  rw [step_none rfl ha hp]
  have hle : n ≤ t.length - x.pos := by
    rw [← hn, ← List.length_drop]; exact (List.takeWhile_prefix f).length_le
  obtain ⟨sn', hr⟩ := run_acc hA ht (t.length - x.pos) x.pos 0 ((sn.add 24).add (C.getD (x.pc + 4) 0)) (by omega)
  rw [hn, Nat.zero_add] at hr
  have hmin : min (C.getD (x.pc + 3) 0) ((t.length : Int) - (x.pos : Int)).toNat = t.length - x.pos := by rw [h3]; omega
  have hw' : ¬ (wt x.frames + 1 + (gb x n x.inner.isSome).kept.marks.size > 16777216) := by
    simp only [wt] at hw; omega
  refine ⟨sn', (exec24 (m := toM C t ls x sn) (n := n) (sn := sn') h0 ?_ ?_).trans ((if_neg ?_).trans ((if_neg hw').trans ?_))⟩
  · show ¬ ((C.getD (x.pc + 2) 0 : Nat) : Int) > _
    rw [h2]; show ¬ (mn : Int) > (t.length : Int) - (x.pos : Int); omega
  · show Sre.run C t.toArray (x.pc + 4) (min (C.getD (x.pc + 3) 0) ((t.length : Int) - (x.pos : Int)).toNat) x.pos 0 ((sn.add 24).add (C.getD (x.pc + 4) 0)) = _
    rw [hmin, hr]
  · show ¬ n < C.getD (x.pc + 2) 0
    omega
  · subst h1
    obtain ⟨start, pc, pos, handed, om, must, marks, lm, li, loops, inner, frames, ans⟩ := x
    simp only at ha
    subst ha
    rfl
theorem go_rep_fail {x : Cf} {f : Nat → Bool} {mn : Nat} (n : Nat) (ha : x.ans = none) (hp : x.pc < C.size) (h0 : C.getD x.pc 0 = 24) (h2 : C.getD (x.pc + 2) 0 = mn)
    (h3 : C.getD (x.pc + 3) 0 = 4294967295) (hA : Acc C (x.pc + 4) f) (ht : Al t) (hlen : t.length ≤ 4294967295) (hpos : x.pos ≤ t.length) (hn : ((t.drop x.pos).takeWhile f).length = n) (hmn : n < mn) :
    Go C t ls 1 x { x with ans := some false } := Go.one fun sn => by
  rw [step_none rfl ha hp]
  by_cases hr0 : ((C.getD (x.pc + 2) 0 : Nat) : Int) > (t.length : Int) - (x.pos : Int)
  · exact ⟨sn.add 24, exec24_short (m := toM C t ls x sn) h0 hr0⟩
  · obtain ⟨sn', hr⟩ := run_acc hA ht (t.length - x.pos) x.pos 0 ((sn.add 24).add (C.getD (x.pc + 4) 0)) (by omega)
    rw [hn, Nat.zero_add] at hr
    have hmin : min (C.getD (x.pc + 3) 0) ((t.length : Int) - (x.pos : Int)).toNat = t.length - x.pos := by rw [h3]; omega
    refine ⟨sn', (exec24 (m := toM C t ls x sn) (n := n) (sn := sn') h0 hr0 ?_).trans (if_pos ?_)⟩
    · show Sre.run C t.toArray (x.pc + 4) (min (C.getD (x.pc + 3) 0) ((t.length : Int) - (x.pos : Int)).toNat) x.pos 0 ((sn.add 24).add (C.getD (x.pc + 4) 0)) = _
      rw [hmin, hr]
    · show n < C.getD (x.pc + 2) 0
      omega
theorem step_some {m : M} {b : Bool} {f : Sre.Frame} {r : List Sre.Frame} (ho : m.outcome = none) (ha : m.answer = some b) (hf : m.frames = f :: r) :
    m.step = M.resume { m with answer := none, frames := r, weight := m.weight - (1 + f.kept.marks.size), pc := f.pc, pos := f.pos, outermost := f.outermost } f b := by
  unfold M.step
  rw [ho, ha, hf]
  simp only [Option.isSome_none, Bool.false_eq_true, if_false]
def backMarks (k : Sre.Kept) (marks : Array (Option Nat)) : Array (Option Nat) := if k.whole then k.marks ++ marks.extract k.marks.size marks.size else marks
theorem wt_sub (f : Sre.Frame) (r : List Sre.Frame) : wt (f :: r) - (1 + f.kept.marks.size) = wt r := by simp only [wt]; omega
/-- nothing more to give back -/
theorem go_gb_out {x : Cf} {f : Sre.Frame} {r : List Sre.Frame} (ha : x.ans = some false) (hf : x.frames = f :: r) (hk : f.wait = .giveBack) (hc : f.count - 1 < C.getD (f.pc + 2) 0) :
    Go C t ls 1 x { x with pc := f.pc, pos := f.pos, om := f.outermost, frames := r, lm := f.kept.lastmark, li := f.kept.lastindex, marks := backMarks f.kept x.marks } := Go.one fun sn => by
  obtain ⟨start, pc, pos, handed, om, must, marks, lm, li, loops, inner, frames, ans⟩ := x
  simp only at ha hf
  subst ha hf
  rw [step_some (b := false) (f := f) (r := r) rfl rfl rfl]
  refine ⟨sn, ?_⟩
  simp only [toM, wt_sub]
  unfold M.resume
  rw [hk]
  show (if false = true then _ else if f.count - 1 < (C.getD (f.pc + 2) 0 : Int) then _ else _) = _
  rw [if_neg Bool.false_ne_true, if_pos hc]
  rfl
def gb1 (f : Sre.Frame) : Sre.Frame := { wait := .giveBack, pc := f.pc, pos := f.pos - 1, outermost := f.outermost, count := f.count - 1, kept := f.kept }
theorem go_gb_more {x : Cf} {f : Sre.Frame} {r : List Sre.Frame} {sk : Nat} (ha : x.ans = some false) (hf : x.frames = f :: r) (hk : f.wait = .giveBack) (hc : ¬ (f.count - 1 < C.getD (f.pc + 2) 0))
    (h1 : C.getD (f.pc + 1) 0 = sk) (hw : wt (f :: r) ≤ 16777216) :
    Go C t ls 1 x { x with ans := none, pc := f.pc + 1 + sk, pos := f.pos - 1, handed := f.pos - 1, om := f.outermost, frames := gb1 f :: r, lm := f.kept.lastmark, li := f.kept.lastindex, marks := backMarks f.kept x.marks } := Go.one fun sn => by
  obtain ⟨start, pc, pos, handed, om, must, marks, lm, li, loops, inner, frames, ans⟩ := x
  simp only at ha hf
  subst ha hf
  rw [step_some (b := false) (f := f) (r := r) rfl rfl rfl]
  refine ⟨sn, ?_⟩
  simp only [toM, wt_sub]
  unfold M.resume
  rw [hk]
  show (if false = true then _ else if f.count - 1 < (C.getD (f.pc + 2) 0 : Int) then _ else _) = _
  rw [if_neg Bool.false_ne_true, if_neg hc]
  show M.afterRun _ _ _ _ = _
  unfold M.afterRun M.attempt
  have hw' : ¬ (wt r + 1 + f.kept.marks.size > 16777216) := by
    simp only [wt] at hw; omega
  show (if wt r + 1 + f.kept.marks.size > 16777216 then _ else _) = _
  rw [if_neg hw']
  subst h1
  rfl
def ns (pc s : Nat) (first : Bool) : Sre.Frame := { wait := .nextStart, pc, pos := s, outermost := first }
theorem attemptAt_eq {m : M} {s : Nat} {first : Bool} (hw : m.weight = 0) :
    m.attemptAt s first = { m with start := s, pos := s, lastmark := -1, lastindex := -1, frames := ns m.pc s first :: m.frames, weight := 0 + 1 + 0, handed := s, outermost := first } := by
  unfold M.attemptAt M.attempt
  rw [if_neg (by simp only [hw]; show ¬ (0 + 1 + (#[] : Array (Option Nat)).size > 16777216); decide)]
  simp only [hw, ns]
  rfl
theorem go_ns_next {x : Cf} {pc s : Nat} {first : Bool} (ha : x.ans = some false) (hf : x.frames = [ns pc s first]) (hs : s < ls) (h0 : C.getD 2 0 ≠ 4) :
    Go C t ls 1 x { x with ans := none, start := s + 1, pc := pc, pos := s + 1, handed := s + 1, om := false, must := false, lm := -1, li := -1, frames := [ns pc (s + 1) false] } := Go.one fun sn => by
  obtain ⟨start, pc', pos, handed, om, must, marks, lm, li, loops, inner, frames, ans⟩ := x
  simp only at ha hf
  subst ha hf
  rw [step_some (b := false) (f := ns pc s first) (r := []) rfl rfl rfl]
  refine ⟨sn, ?_⟩
  simp only [toM, wt_sub]
  unfold M.resume
  show (if false = true then _ else if s < ls then _ else _) = _
  rw [if_neg (by decide), if_pos hs]
  unfold M.attemptFrom
  rw [if_pos (by unfold M.hasFirstSet; simp only [Bool.not_eq_true', Bool.and_eq_false_iff]; right; simp only [beq_eq_false_iff_ne]; exact h0)]
  rw [attemptAt_eq rfl]
  rfl
/-- the end of a search -/
def Ends (C : Array Nat) (t : List Nat) (ls n : Nat) (x : Cf) (P : M → Prop) : Prop := ∀ sn, ∃ k, k ≤ n ∧ (M.runFor k (toM C t ls x sn)).outcome.isSome = true ∧ P (M.runFor k (toM C t ls x sn))
theorem Go.ends {a b n : Nat} {x y : Cf} {P : M → Prop} (h : Go C t ls a x y) (g : Ends C t ls b y P) (hn : a + b ≤ n) : Ends C t ls n x P := fun sn => by
  obtain ⟨k, hk, s1, e1⟩ := h sn
  obtain ⟨j, hj, e2, e3⟩ := g s1
  exact ⟨k + j, by omega, by rw [runFor_add, e1]; exact e2, by rw [runFor_add, e1]; exact e3⟩
def Failed (m : M) : Prop := m.outcome = some .failed
def Matched (st e : Nat) (marks : Array (Option Nat)) (lm li : Int) (m : M) : Prop := m.outcome = some .matched ∧ m.start = st ∧ m.handed = e ∧ m.marks = marks ∧ m.lastmark = lm ∧ m.lastindex = li
theorem ends_fail {x : Cf} (ha : x.ans = some false) (hf : x.frames = []) : Ends C t ls 1 x Failed := fun sn => by
  obtain ⟨start, pc, pos, handed, om, must, marks, lm, li, loops, inner, frames, ans⟩ := x
  simp only at ha hf
  subst ha hf
  exact ⟨1, Nat.le_refl _, rfl, rfl⟩
theorem ends_ns_fail {x : Cf} {pc s : Nat} {first : Bool} (ha : x.ans = some false) (hf : x.frames = [ns pc s first]) (hs : ¬ s < ls) : Ends C t ls 2 x Failed := by
  have g : Go C t ls 1 x { x with pc := pc, pos := s, om := first, frames := [] } := Go.one fun sn => by
    obtain ⟨start, pc', pos, handed, om, must, marks, lm, li, loops, inner, frames, ans⟩ := x
    simp only at ha hf
    subst ha hf
    rw [step_some (b := false) (f := ns pc s first) (r := []) rfl rfl rfl]
    refine ⟨sn, ?_⟩
    simp only [toM, wt_sub]
    unfold M.resume
    show (if false = true then _ else if s < ls then _ else _) = _
    rw [if_neg (by decide), if_neg hs]
    rfl
  exact g.ends (ends_fail ha rfl) (by omega)
def Easy (f : Sre.Frame) : Prop := f.wait = .giveBack ∨ f.wait = .nextStart ∨ f.wait = .closeLoop ∨ f.wait = .maxMore ∨ f.wait = .maxTail
theorem ends_true : ∀ (frames : List Sre.Frame) (x : Cf), x.frames = frames → x.ans = some true → (∀ f ∈ frames, Easy f) → Ends C t ls (frames.length + 1) x (Matched x.start x.handed x.marks x.lm x.li)
  | [], x, hf, ha, _ => fun sn => by
    obtain ⟨start, pc, pos, handed, om, must, marks, lm, li, loops, inner, frames, ans⟩ := x
    simp only at ha hf
    subst ha hf
    exact ⟨1, Nat.le_refl _, rfl, rfl, rfl, rfl, rfl, rfl, rfl⟩
  | f :: r, x, hf, ha, he => by
    have g : ∃ y : Cf, Go C t ls 1 x y ∧ y.frames = r ∧ y.ans = some true ∧ y.start = x.start ∧ y.handed = x.handed ∧ y.marks = x.marks ∧ y.lm = x.lm ∧ y.li = x.li := by
      obtain ⟨start, pc, pos, handed, om, must, marks, lm, li, loops, inner, frames, ans⟩ := x
      simp only at ha hf
      subst ha hf
      rcases he f (.head _) with hk | hk | hk | hk | hk
      · refine ⟨⟨start, f.pc, f.pos, handed, f.outermost, must, marks, lm, li, loops, inner, r, some true⟩, Go.one fun sn => ⟨sn, ?_⟩, rfl, rfl, rfl, rfl, rfl, rfl, rfl⟩
        rw [step_some (b := true) (f := f) (r := r) rfl rfl rfl]
        simp only [toM, wt_sub]
        unfold M.resume
        rw [hk]; rfl
      · refine ⟨⟨start, f.pc, f.pos, handed, f.outermost, must, marks, lm, li, loops, inner, r, some true⟩, Go.one fun sn => ⟨sn, ?_⟩, rfl, rfl, rfl, rfl, rfl, rfl, rfl⟩
        rw [step_some (b := true) (f := f) (r := r) rfl rfl rfl]
        simp only [toM, wt_sub]
        unfold M.resume
        rw [hk]; rfl
      · refine ⟨⟨start, f.pc, f.pos, handed, f.outermost, must, marks, lm, li, loops.pop, (loops.getD f.loop { pc := 0, outer := none }).outer, r, some true⟩, Go.one fun sn => ⟨sn, ?_⟩, rfl, rfl, rfl, rfl, rfl, rfl, rfl⟩
        rw [step_some (b := true) (f := f) (r := r) rfl rfl rfl]
        simp only [toM, wt_sub]
        unfold M.resume
        rw [hk]; rfl
      · refine ⟨⟨start, f.pc, f.pos, handed, f.outermost, must, marks, lm, li, loops.modify f.loop fun l => { l with began := f.began }, inner, r, some true⟩, Go.one fun sn => ⟨sn, ?_⟩, rfl, rfl, rfl, rfl, rfl, rfl, rfl⟩
        rw [step_some (b := true) (f := f) (r := r) rfl rfl rfl]
        simp only [toM, wt_sub]
        unfold M.resume
        rw [hk]; rfl
      · refine ⟨⟨start, f.pc, f.pos, handed, f.outermost, must, marks, lm, li, loops, some f.loop, r, some true⟩, Go.one fun sn => ⟨sn, ?_⟩, rfl, rfl, rfl, rfl, rfl, rfl, rfl⟩
        rw [step_some (b := true) (f := f) (r := r) rfl rfl rfl]
        simp only [toM, wt_sub]
        unfold M.resume
        rw [hk]; rfl
    obtain ⟨y, g1, g2, g3, g4, g5, g6, g7, g8⟩ := g
    have h := ends_true r y g2 g3 fun f hf => he f (.tail _ hf)
    rw [g4, g5, g6, g7, g8] at h
    exact g1.ends h (by simp only [List.length_cons]; omega)
end
end Mine
end

-- Sre2
section
open PySem PySem.Sre
set_option Elab.async false
set_option linter.all false
namespace Mine
section
variable {C : Array Nat} {t : List Nat} {ls : Nat}
/-- an anchored pattern fails at every start behind the first -/
theorem at_loop (h5 : 5 < C.size) (h0 : C.getD 5 0 = 6) (h1 : C.getD 6 0 = 0) (h2 : C.getD 2 0 ≠ 4) : ∀ (d s : Nat) (x : Cf), ls - s = d → s ≠ 0 → x.ans = none → x.pc = 5 → x.pos = s → x.frames = [ns 5 s false] →
    Ends C t ls (2 * d + 3) x Failed := by
  intro d
  induction d with
  | zero =>
    intro s x hd hs ha hp hq hf
    have g : Go C t ls 1 x { x with ans := some false } := go_at_fail ha (by rw [hp]; exact h5) (by rw [hp]; exact h0) (by rw [hp]; exact h1) (by rw [hq]; exact hs)
    exact g.ends (ends_ns_fail (pc := 5) (s := s) (first := false) rfl hf (by omega)) (by omega)
  | succ d ih =>
    intro s x hd hs ha hp hq hf
    have g : Go C t ls 1 x { x with ans := some false } := go_at_fail ha (by rw [hp]; exact h5) (by rw [hp]; exact h0) (by rw [hp]; exact h1) (by rw [hq]; exact hs)
    have g2 := g.trans (go_ns_next (pc := 5) (s := s) (first := false) rfl hf (by omega) h2)
    exact g2.ends (ih (s + 1) _ (by omega) (by omega) rfl rfl rfl rfl) (by omega)
theorem start_fail (h5 : 5 < C.size) (h0 : C.getD 5 0 = 6) (h1 : C.getD 6 0 = 0) (h2 : C.getD 2 0 ≠ 4) {x : Cf} (ha : x.ans = some false) (hf : x.frames = [ns 5 0 true]) : Ends C t ls (2 * ls + 4) x Failed := by
  by_cases hl : 0 < ls
  · have g := go_ns_next (C := C) (t := t) (ls := ls) (x := x) (pc := 5) (s := 0) (first := true) ha hf hl h2
    exact g.ends (at_loop h5 h0 h1 h2 (ls - 1) 1 _ rfl (by omega) rfl rfl rfl rfl) (by omega)
  · exact fun sn => by
      obtain ⟨k, hk, r⟩ := ends_ns_fail (C := C) (t := t) (ls := ls) (x := x) (pc := 5) (s := 0) (first := true) ha hf (by omega) sn
      exact ⟨k, by omega, r⟩
def gbf (p0 b : Nat) (om : Bool) (k : Sre.Kept) (i : Nat) : Sre.Frame := { wait := .giveBack, pc := p0, pos := b + i, outermost := om, count := i, kept := k }
theorem gb1_gbf (p0 b : Nat) (om : Bool) (k : Sre.Kept) (i : Nat) : gb1 (gbf p0 b om k (i + 1)) = gbf p0 b om k i := by
  unfold gb1 gbf
  have e1 : ((i + 1 : Nat) : Int) - 1 = i := by omega
  have e2 : b + (i + 1) - 1 = b + i := by omega
  simp only [e1, e2]
theorem wt_gbf (p0 b : Nat) (om : Bool) (k : Sre.Kept) (i : Nat) (r : List Sre.Frame) : wt (gbf p0 b om k i :: r) = wt r + 1 + k.marks.size := rfl
/-- what has been taken is given back one by one, and nothing behind it goes -/
theorem gb_loop (I : Cf → Prop) {p0 b sk N : Nat} {om : Bool} {k : Sre.Kept} {r : List Sre.Frame}
    (hI : ∀ y : Cf, I y → ∀ pc pos handed om frames ans, I { y with pc := pc, pos := pos, handed := handed, om := om, frames := frames, ans := ans, lm := k.lastmark, li := k.lastindex, marks := backMarks k y.marks })
    (h1 : C.getD (p0 + 1) 0 = sk) (h2 : C.getD (p0 + 2) 0 = 0) (hw : wt r + 1 + k.marks.size ≤ 16777216) : ∀ (j : Nat)
    (_ : ∀ i < j, ∀ y : Cf, y.ans = none → y.pc = p0 + 1 + sk → y.pos = b + i → y.om = om → y.frames = gbf p0 b om k i :: r → I y →
      ∃ z, Go C t ls N y z ∧ z.ans = some false ∧ z.frames = gbf p0 b om k i :: r ∧ I z) (x : Cf), x.ans = some false → x.frames = gbf p0 b om k j :: r → I x →
    ∃ z, Go C t ls ((N + 1) * j + 1) x z ∧ z.ans = some false ∧ z.frames = r ∧ I z := by
  intro j
  induction j with
  | zero =>
    intro _ x ha hf hx
    refine ⟨_, (go_gb_out ha hf rfl (by show ((0 : Nat) : Int) - 1 < ((C.getD (p0 + 2) 0 : Nat) : Int); rw [h2]; decide)).le (by omega), ha, rfl, ?_⟩
    have := hI x hx p0 (b + 0) x.handed om r x.ans
    exact this
  | succ j ih =>
    intro hH x ha hf hx
    have g := go_gb_more (C := C) (t := t) (ls := ls) ha hf rfl (by show ¬ (((j + 1 : Nat) : Int) - 1 < ((C.getD (p0 + 2) 0 : Nat) : Int)); rw [h2]; omega) h1 (by rw [wt_gbf]; exact hw)
    have hy := hI x hx (p0 + 1 + sk) (b + (j + 1) - 1) (b + (j + 1) - 1) om (gb1 (gbf p0 b om k (j + 1)) :: r) none
    obtain ⟨z, g1, z1, z2, z3⟩ := hH j (by omega) _ rfl rfl (by show b + (j + 1) - 1 = b + j; omega) rfl (by show gb1 (gbf p0 b om k (j + 1)) :: r = _; rw [gb1_gbf]) hy
    obtain ⟨z', g2, r1, r2, r3⟩ := ih (fun i hi => hH i (by omega)) z z1 z2 z3
    have e : 1 + N + ((N + 1) * j + 1) ≤ (N + 1) * (j + 1) + 1 := by rw [Nat.mul_succ]; omega
    exact ⟨z', (g.trans g1).then g2 e, r1, r2, r3⟩
/-- how a search begins -/
def begin_ (pos g : Nat) (must : Bool) : Cf := { start := pos, pc := 5, pos := pos, handed := pos, om := true, must := must, marks := Array.replicate (2 * g) none, frames := [ns 5 pos true], ans := none }
end
theorem takeWhile_len_zero {f : Nat → Bool} {t : List Nat} {i : Nat} (h : ∀ c, t[i]? = some c → f c = false) : ((t.drop i).takeWhile f).length = 0 := by
  rcases Nat.lt_or_ge i t.length with hi | hi
  · rw [List.drop_eq_getElem_cons hi, List.takeWhile_cons, h _ (List.getElem?_eq_getElem hi)]; rfl
  · rw [List.drop_of_length_le hi]; rfl
theorem takeWhile_get {f : Nat → Bool} : ∀ {t : List Nat} {i c : Nat}, i < (t.takeWhile f).length → t[i]? = some c → f c = true
  | [], i, c, h, _ => by simp at h
  | a :: t, i, c, h, hc => by
    rw [List.takeWhile_cons] at h
    cases hf : f a with
    | false => rw [hf] at h; simp at h
    | true =>
      rw [hf] at h
      cases i with
      | zero => simp at hc; exact hc ▸ hf
      | succ i =>
        simp only [if_true, List.length_cons] at h
        simp only [List.getElem?_cons_succ] at hc
        exact takeWhile_get (by omega) hc
theorem takeWhile_stop {f : Nat → Bool} : ∀ {t : List Nat} {c : Nat}, t[(t.takeWhile f).length]? = some c → f c = false
  | [], c, h => by simp at h
  | a :: t, c, h => by
    rw [List.takeWhile_cons] at h
    cases hf : f a with
    | false => rw [hf] at h; simp at h; exact h ▸ hf
    | true =>
      rw [hf] at h
      simp only [if_true, List.length_cons, List.getElem?_cons_succ] at h
      exact takeWhile_stop h
theorem takeWhile_le (f : Nat → Bool) (t : List Nat) : (t.takeWhile f).length ≤ t.length := (List.takeWhile_prefix f).length_le
end Mine
end

-- Sre3
section
open PySem PySem.Sre
set_option Elab.async false
set_option linter.all false
namespace Mine
local macro_rules | `(tactic| walk_at "cd") => `(tactic| ((try dsimp only [begin_]); decide))
variable {t : List Nat}
theorem tok_match (ht : Al t) (hlen : t.length ≤ 1000) {n k : Nat} (hn : (t.takeWhile isW).length = n) (hk : ((t.drop n).takeWhile isT).length = k) (h1 : 1 ≤ k) :
    Ends cTok t t.length 20 (begin_ 0 1 false) (Matched 0 (n + k) #[some n, some (n + k)] 1 1) := by
  have hnl : n ≤ t.length := hn ▸ takeWhile_le _ _
  have g1 : Go cTok t t.length 1 (begin_ 0 1 false) _ := go_at rfl (by walk_at "cd") (by walk_at "cd") (by walk_at "cd") rfl
  have g2 := g1.trans (go_rep (sk := 9) (mn := 0) (f := isW) n rfl (by walk_at "cd") (by walk_at "cd") (by walk_at "cd") (by walk_at "cd") (by walk_at "cd") acc_tok_w ht (by omega) (Nat.zero_le _) hn (Nat.zero_le _) (by simp [begin_, wt, gb, ns]))
  have g3 := g2.trans (go_mark0 (a := none) (b := none) rfl (by walk_at "cd") (by walk_at "cd") (by walk_at "cd") rfl (by walk_at "cd"))
  have g4 := g3.trans (go_rep (sk := 19) (mn := 1) (f := isT) k rfl (by walk_at "cd") (by walk_at "cd") (by walk_at "cd") (by walk_at "cd") (by walk_at "cd") acc_tok_t ht (by omega) (by show 0 + n ≤ _; omega) (by show ((t.drop (0 + n)).takeWhile isT).length = k; rw [Nat.zero_add]; exact hk) h1 (by simp [begin_, wt, gb, ns]))
  have g5 := g4.trans (go_mark1 (a := some (0 + n)) (b := none) rfl (by walk_at "cd") (by walk_at "cd") (by walk_at "cd") rfl (by walk_at "cd"))
  have g6 := g5.trans (go_success rfl (by walk_at "cd") (by walk_at "cd") (.inl rfl))
  obtain ⟨y, gy, y1, ⟨fa, fb, y2, ea, eb⟩, y3, y4, y5, y6, y7⟩ : ∃ y : Cf, Go cTok t t.length 6 (begin_ 0 1 false) y ∧ y.ans = some true ∧ (∃ fa fb, y.frames = [fa, fb, ns 5 0 true] ∧ Easy fa ∧ Easy fb) ∧
      y.start = 0 ∧ y.handed = n + k ∧ y.marks = #[some n, some (n + k)] ∧ y.lm = 1 ∧ y.li = 1 :=
    ⟨_, g6, rfl, ⟨_, _, rfl, .inl rfl, .inl rfl⟩, rfl, by show 0 + n + k = n + k; omega, by show #[some (0 + n), some (0 + n + k)] = _; rw [Nat.zero_add], rfl, rfl⟩
  have e := ends_true (C := cTok) (t := t) (ls := t.length) _ y y2 y1 (by
    intro f hf
    simp only [List.mem_cons, List.not_mem_nil, or_false] at hf
    rcases hf with rfl | rfl | rfl
    · exact ea
    · exact eb
    · exact .inr (.inl rfl))
  rw [y3, y4, y5, y6, y7] at e
  exact gy.ends e (by simp)
def Two (y : Cf) : Prop := (∃ a b, y.marks = #[a, b]) ∧ -1 ≤ y.lm
theorem two_back {k : Sre.Kept} (hk : k.whole = false) (hl : -1 ≤ k.lastmark) (y : Cf) (h : Two y) (pc pos handed om frames ans) :
    Two { y with pc := pc, pos := pos, handed := handed, om := om, frames := frames, ans := ans, lm := k.lastmark, li := k.lastindex, marks := backMarks k y.marks } := by
  refine ⟨?_, hl⟩
  show ∃ a b, backMarks k y.marks = #[a, b]
  unfold backMarks
  rw [hk]
  exact h.1
theorem tok_fail (ht : Al t) (hlen : t.length ≤ 1000) {n : Nat} (hn : (t.takeWhile isW).length = n) (hk : ((t.drop n).takeWhile isT).length = 0) :
    Ends cTok t t.length (10 * t.length + 20) (begin_ 0 1 false) Failed := by
  have hnl : n ≤ t.length := hn ▸ takeWhile_le _ _
  have cont : ∀ i ≤ n, ∀ y : Cf, y.ans = none → y.pc = 17 → y.pos = i → Two y → ∃ z, Go cTok t t.length 2 y z ∧ z.ans = some false ∧ z.frames = y.frames ∧ Two z := by
    intro i hi y ya yp yq ⟨⟨a, b, ym⟩, yl⟩
    have g1 : Go cTok t t.length 1 y _ := go_mark0 ya (by rw [yp]; decide) (by rw [yp]; decide) (by rw [yp]; decide) ym yl
    have hz : ((t.drop i).takeWhile isT).length = 0 := by
      rcases Nat.lt_or_ge i n with h | h
      · refine takeWhile_len_zero fun c hc => ?_
        have := takeWhile_get (by rw [hn]; exact h) hc
        simp [isT, this]
      · rw [show i = n by omega]; exact hk
    have g2 := g1.trans (go_rep_fail (mn := 1) (f := isT) 0 ya (by show y.pc + 2 < _; rw [yp]; decide) (by show cTok.getD (y.pc + 2) 0 = _; rw [yp]; decide) (by show cTok.getD (y.pc + 2 + 2) 0 = _; rw [yp]; decide) (by show cTok.getD (y.pc + 2 + 3) 0 = _; rw [yp]; decide)
      (by show Acc cTok (y.pc + 2 + 4) isT; rw [yp]; exact acc_tok_t) ht (by omega) (by show y.pos ≤ _; omega) (by show ((t.drop y.pos).takeWhile isT).length = 0; rw [yq]; exact hz) (by walk_at "cd"))
    exact ⟨_, g2, rfl, rfl, ⟨_, _, rfl⟩, by show -1 ≤ max y.lm 0; omega⟩
  have g1 : Go cTok t t.length 1 (begin_ 0 1 false) _ := go_at rfl (by walk_at "cd") (by walk_at "cd") (by walk_at "cd") rfl
  have g2 := g1.trans (go_rep (sk := 9) (mn := 0) (f := isW) n rfl (by walk_at "cd") (by walk_at "cd") (by walk_at "cd") (by walk_at "cd") (by walk_at "cd") acc_tok_w ht (by omega) (Nat.zero_le _) hn (Nat.zero_le _) (by simp [begin_, wt, gb, ns]))
  obtain ⟨y, gy, y1, y2, y3, y4, y5⟩ : ∃ y : Cf, Go cTok t t.length 2 (begin_ 0 1 false) y ∧ y.ans = none ∧ y.pc = 17 ∧ y.pos = n ∧ y.frames = [gbf 7 0 true { lastmark := -1, lastindex := -1, whole := false, marks := #[] } n, ns 5 0 true] ∧ Two y :=
    ⟨_, g2, rfl, rfl, Nat.zero_add n, rfl, ⟨_, _, rfl⟩, by walk_at "cd"⟩
  obtain ⟨z, g3, z1, z2, z3⟩ := cont n (Nat.le_refl _) y y1 y2 y3 y5
  have g4 := gy.trans g3
  obtain ⟨z', g5, w1, w2, _⟩ := gb_loop (C := cTok) (t := t) (ls := t.length) (N := 2) (p0 := 7) (b := 0) (sk := 9) (om := true) (k := { lastmark := -1, lastindex := -1, whole := false, marks := #[] }) (r := [ns 5 0 true]) Two
    (two_back rfl (by walk_at "cd")) (by walk_at "cd") (by walk_at "cd") (by walk_at "cd") n
    (fun i hi y ya yp yq _ yf yI => by
      obtain ⟨z, a1, a2, a3, a4⟩ := cont i (by omega) y ya (by rw [yp]) (by rw [yq]; omega) yI
      exact ⟨z, a1, a2, a3.trans yf, a4⟩) z z1 (z2.trans y4) z3
  have g6 := g4.trans g5
  refine g6.ends (start_fail (by walk_at "cd") (by walk_at "cd") (by walk_at "cd") (by walk_at "cd") w1 w2) ?_
  omega
end Mine
end

-- Sre4
section
open PySem PySem.Sre
set_option Elab.async false
set_option linter.all false
namespace Mine
local macro_rules | `(tactic| walk_at "cd") => `(tactic| ((try dsimp only [begin_]); decide))
variable {t : List Nat} {ls : Nat} {C : Array Nat}
structure Pre (C : Array Nat) : Prop where
  size : 29 < C.size
  c2 : C.getD 2 0 ≠ 4
  c5 : C.getD 5 0 = 6
  c6 : C.getD 6 0 = 0
  c7 : C.getD 7 0 = 24
  c8 : C.getD 8 0 = 9
  c9 : C.getD 9 0 = 0
  c10 : C.getD 10 0 = 4294967295
  c17 : C.getD 17 0 = 16
  c18 : C.getD 18 0 = 61
  c19 : C.getD 19 0 = 24
  c20 : C.getD 20 0 = 9
  c21 : C.getD 21 0 = 0
  c22 : C.getD 22 0 = 4294967295
  a1 : Acc C 11 isW
  a2 : Acc C 23 isW
theorem pre_quo : Pre cQuo := ⟨by decide, by decide, by decide, by decide, by decide, by decide, by decide, by decide, by decide, by decide, by decide, by decide, by decide, by decide, acc_quo_w1, acc_quo_w2⟩
theorem pre_val : Pre cVal := ⟨by decide, by decide, by decide, by decide, by decide, by decide, by decide, by decide, by decide, by decide, by decide, by decide, by decide, by decide, acc_val_w1, acc_val_w2⟩
def K0 : Sre.Kept := { lastmark := -1, lastindex := -1, whole := false, marks := #[] }
theorem pre_ws (P : Pre C) (ht : Al t) (hlen : t.length ≤ 1000) {n : Nat} (hn : (t.takeWhile isW).length = n) :
    Go C t ls 2 (begin_ 0 1 false) { start := 0, pc := 17, pos := n, handed := n, om := true, must := false, marks := #[none, none], frames := [gbf 7 0 true K0 n, ns 5 0 true] } := by
  have g1 : Go C t ls 1 (begin_ 0 1 false) _ := go_at rfl (Nat.lt_trans (by decide) P.size) P.c5 P.c6 rfl
  have g2 := g1.trans (go_rep (sk := 9) (mn := 0) (f := isW) n rfl (Nat.lt_trans (by walk_at "cd") P.size) P.c7 P.c8 P.c9 P.c10 P.a1 ht (by omega) (Nat.zero_le _) hn (Nat.zero_le _) (by simp [begin_, wt, gb, ns]))
  have e : ({ start := 0, pc := 17, pos := n, handed := n, om := true, must := false, marks := #[none, none], frames := [gbf 7 0 true K0 n, ns 5 0 true] } : Cf) =
      { start := 0, pc := 17, pos := 0 + n, handed := 0 + n, om := true, must := false, marks := #[none, none], frames := [gbf 7 0 true K0 n, ns 5 0 true] } := by rw [Nat.zero_add]
  rw [e]
  exact g2
theorem pre_eq (P : Pre C) (ht : Al t) (hlen : t.length ≤ 1000) {n n2 : Nat} (hn : (t.takeWhile isW).length = n) (hq : t[n]? = some 61) (hn2 : ((t.drop (n + 1)).takeWhile isW).length = n2) :
    Go C t ls 4 (begin_ 0 1 false) { start := 0, pc := 29, pos := n + 1 + n2, handed := n + 1 + n2, om := true, must := false, marks := #[none, none], frames := [gbf 19 (n + 1) true K0 n2, gbf 7 0 true K0 n, ns 5 0 true] } := by
  have hl := lt_of_get hq
  have g2 := (pre_ws (ls := ls) P ht hlen hn).trans (go_lit (c := 61) rfl (Nat.lt_trans (by walk_at "cd") P.size) P.c17 P.c18 hq)
  have g3 := g2.trans (go_rep (sk := 9) (mn := 0) (f := isW) n2 rfl (Nat.lt_trans (by walk_at "cd") P.size) P.c19 P.c20 P.c21 P.c22 P.a2 ht (by omega) hl hn2 (Nat.zero_le _) (by simp [begin_, wt, gb, gbf, ns, K0]))
  exact g3
/-- LITERAL = fails at each blank: back to the start -/
theorem pre_back1 (P : Pre C) (hlen : t.length ≤ 1000) (hls : ls ≤ 1000) {n : Nat} (hn : (t.takeWhile isW).length = n) {x : Cf} (ha : x.ans = some false) (hf : x.frames = [gbf 7 0 true K0 n, ns 5 0 true]) (hx : Two x) :
    Ends C t ls 5000 x Failed := by
  have hnl : n ≤ t.length := hn ▸ takeWhile_le _ _
  obtain ⟨z', g5, w1, w2, _⟩ := gb_loop (C := C) (t := t) (ls := ls) (N := 1) (p0 := 7) (b := 0) (sk := 9) (om := true) (k := K0) (r := [ns 5 0 true]) Two
    (two_back rfl (by walk_at "cd")) P.c8 P.c9 (by decide) n
    (fun i hi y ya yp yq _ yf yI => by
      have hc : t[y.pos]? ≠ some 61 := by
        intro hc
        rw [yq, Nat.zero_add] at hc
        have := takeWhile_get (f := isW) (by rw [hn]; exact hi) hc
        simp [isW] at this
      exact ⟨_, go_lit_fail (c := 61) ya (by rw [yp]; exact Nat.lt_trans (by decide) P.size) (by rw [yp]; exact P.c17) (by rw [yp]; exact P.c18) hc, rfl, yf, yI⟩) x ha hf hx
  exact g5.ends (start_fail (Nat.lt_trans (by decide) P.size) P.c5 P.c6 P.c2 w1 w2) (by omega)
theorem pre_fail (P : Pre C) (ht : Al t) (hlen : t.length ≤ 1000) (hls : ls ≤ 1000) {n : Nat} (hn : (t.takeWhile isW).length = n) (hq : t[n]? ≠ some 61) :
    Ends C t ls 5003 (begin_ 0 1 false) Failed := by
  have g2 := (pre_ws (ls := ls) P ht hlen hn).trans (go_lit_fail (c := 61) rfl (Nat.lt_trans (by walk_at "cd") P.size) P.c17 P.c18 hq)
  exact g2.ends (pre_back1 P hlen hls hn rfl rfl ⟨⟨_, _, rfl⟩, by walk_at "cd"⟩) (by omega)
theorem val_match (ht : Al t) (hlen : t.length ≤ 1000) {n n2 k : Nat} (hn : (t.takeWhile isW).length = n) (hq : t[n]? = some 61) (hn2 : ((t.drop (n + 1)).takeWhile isW).length = n2)
    (hk : ((t.drop (n + 1 + n2)).takeWhile isV).length = k) :
    Ends cVal t t.length 20 (begin_ 0 1 false) (Matched 0 (n + 1 + n2 + k) #[some (n + 1 + n2), some (n + 1 + n2 + k)] 1 1) := by
  have hl := lt_of_get hq
  have hl2 : n + 1 + n2 ≤ t.length := by
    have := takeWhile_le isW (t.drop (n + 1))
    rw [hn2, List.length_drop] at this
    omega
  have g3 := (pre_eq (ls := t.length) pre_val ht hlen hn hq hn2).trans (go_mark0 (a := none) (b := none) rfl (by walk_at "cd") (by walk_at "cd") (by walk_at "cd") rfl (by walk_at "cd"))
  have g4 := g3.trans (go_rep (sk := 14) (mn := 0) (f := isV) k rfl (by walk_at "cd") (by walk_at "cd") (by walk_at "cd") (by walk_at "cd") (by walk_at "cd") acc_val_v ht (by omega) hl2 hk (Nat.zero_le _) (by simp [wt, gb, gbf, ns, K0]))
  have g5 := g4.trans (go_mark1 (a := some (n + 1 + n2)) (b := none) rfl (by walk_at "cd") (by walk_at "cd") (by walk_at "cd") rfl (by walk_at "cd"))
  have g6 := g5.trans (go_success rfl (by walk_at "cd") (by walk_at "cd") (.inl rfl))
  obtain ⟨y, gy, y1, ⟨fa, y2, ea⟩, y3, y4, y5, y6, y7⟩ : ∃ y : Cf, Go cVal t t.length 8 (begin_ 0 1 false) y ∧ y.ans = some true ∧ (∃ fa, y.frames = [fa, gbf 19 (n + 1) true K0 n2, gbf 7 0 true K0 n, ns 5 0 true] ∧ Easy fa) ∧
      y.start = 0 ∧ y.handed = n + 1 + n2 + k ∧ y.marks = #[some (n + 1 + n2), some (n + 1 + n2 + k)] ∧ y.lm = 1 ∧ y.li = 1 :=
    ⟨_, g6, rfl, ⟨_, rfl, .inl rfl⟩, rfl, rfl, rfl, rfl, rfl⟩
  have e := ends_true (C := cVal) (t := t) (ls := t.length) _ y y2 y1 (by
    intro f hf
    simp only [List.mem_cons, List.not_mem_nil, or_false] at hf
    rcases hf with rfl | rfl | rfl | rfl
    · exact ea
    · exact .inl rfl
    · exact .inl rfl
    · exact .inr (.inl rfl))
  rw [y3, y4, y5, y6, y7] at e
  exact gy.ends e (by simp)
end Mine
end

-- Sre5
section
open PySem PySem.Sre
set_option Elab.async false
set_option linter.all false
namespace Mine
local macro_rules | `(tactic| walk_at "cd") => `(tactic| ((try dsimp only [begin_]); decide))
variable {t : List Nat} {ls : Nat} {C : Array Nat}
def clF (pc pos : Nat) (om : Bool) : Sre.Frame := { wait := .closeLoop, pc, pos, outermost := om, loop := 0 }
theorem go_repeat {x : Cf} {sk : Nat} (ha : x.ans = none) (hp : x.pc < C.size) (h0 : C.getD x.pc 0 = 23) (h1 : C.getD (x.pc + 1) 0 = sk) (hlo : x.loops = #[]) (hin : x.inner = none) (hw : wt x.frames + 1 ≤ 16777216) :
    Go C t ls 1 x { x with pc := x.pc + 1 + sk, handed := x.pos, loops := #[{ pc := x.pc, outer := none }], inner := some 0, frames := clF x.pc x.pos x.om :: x.frames } := Go.one fun sn => by
  rw [step_none rfl ha hp]
  refine ⟨sn.add 23, (exec23 (m := toM C t ls x sn) h0).trans ?_⟩
  obtain ⟨start, pc, pos, handed, om, must, marks, lm, li, loops, inner, frames, ans⟩ := x
  simp only at ha hp h0 h1 hlo hin hw
  subst ha hlo hin h1
  unfold M.attempt
  show (if wt frames + 1 + 0 > 16777216 then _ else _) = _
  rw [if_neg (by omega)]
  rfl
def kp (x : Cf) : Sre.Kept := { lastmark := x.lm, lastindex := x.li, whole := true, marks := x.marks.extract 0 (x.lm + 1).toNat }
def mmF (x : Cf) (cn : Int) (bg : Option Nat) : Sre.Frame := { wait := .maxMore, pc := x.pc + 1, pos := x.pos, outermost := x.om, count := cn + 1, kept := kp x, loop := 0, began := bg }
def lp (cn : Int) (bg : Option Nat) : Loop := { pc := 46, count := cn, began := bg, outer := none }
theorem go_until {x : Cf} {cn : Int} {bg : Option Nat} (ha : x.ans = none) (hp : x.pc < C.size) (h0 : C.getD x.pc 0 = 18) (h2 : C.getD 48 0 = 0) (h3 : C.getD 49 0 = 4294967295)
    (hlo : x.loops = #[lp cn bg]) (hin : x.inner = some 0) (hcn : -1 ≤ cn) (hbg : bg ≠ some x.pos) (hw : wt x.frames + 1 + (kp x).marks.size ≤ 16777216) :
    Go C t ls 1 x { x with pc := 50, handed := x.pos, loops := #[lp (cn + 1) (some x.pos)], frames := mmF x cn bg :: x.frames } := Go.one fun sn => by
  rw [step_none rfl ha hp]
  refine ⟨sn.add 18, (exec18 (m := toM C t ls x sn) h0).trans ?_⟩
  obtain ⟨start, pc, pos, handed, om, must, marks, lm, li, loops, inner, frames, ans⟩ := x
  simp only at ha hp h0 hlo hin hbg hw
  subst ha hlo hin
  unfold M.until_
  show (if cn + 1 < ((C.getD 48 0 : Nat) : Int) then _ else if (!true) = true then _ else if ((decide (cn + 1 < ((C.getD 49 0 : Nat) : Int)) || C.getD 49 0 == maxRepeat) && bg != some pos) = true then _ else _) = _
  rw [h2, h3, if_neg (by omega), if_neg (by decide), if_pos (by
    have : (bg != some pos) = true := by simpa using hbg
    rw [this, Bool.and_true]
    simp [maxRepeat])]
  unfold M.round M.attempt
  show (if wt frames + 1 + (marks.extract 0 (lm + 1).toNat).size > 16777216 then _ else _) = _
  rw [if_neg (by simp only [kp] at hw; omega)]
  rfl
def mtF (f : Sre.Frame) (lm li : Int) : Sre.Frame := { wait := .maxTail, pc := f.pc, pos := f.pos, outermost := f.outermost, count := f.count, kept := { lastmark := lm, lastindex := li, whole := false, marks := #[] }, loop := 0 }
theorem go_more_fail {x : Cf} {f : Sre.Frame} {r : List Sre.Frame} {cn : Int} {bg bg' : Option Nat} (ha : x.ans = some false) (hf : x.frames = f :: r) (hk : f.wait = .maxMore) (hl : f.loop = 0) (hc : f.count = cn + 1) (hb : f.began = bg)
    (hlo : x.loops = #[lp (cn + 1) bg']) (hw : wt r + 1 ≤ 16777216) :
    Go C t ls 1 x { x with ans := none, pc := f.pc, pos := f.pos, handed := f.pos, om := f.outermost, loops := #[lp cn bg], inner := none, frames := mtF f f.kept.lastmark f.kept.lastindex :: r, lm := f.kept.lastmark, li := f.kept.lastindex, marks := backMarks f.kept x.marks } := Go.one fun sn => by
  obtain ⟨start, pc, pos, handed, om, must, marks, lm, li, loops, inner, frames, ans⟩ := x
  simp only at ha hf hlo
  subst ha hf hlo hb
  rw [step_some (b := false) (f := f) (r := r) rfl rfl rfl]
  refine ⟨sn, ?_⟩
  simp only [toM, wt_sub]
  unfold M.resume
  rw [hk]
  simp only [hl, hc, Bool.false_eq_true, if_false]
  unfold M.afterLoop M.attempt
  show (if wt r + 1 + 0 > 16777216 then _ else _) = _
  rw [if_neg (by omega)]
  have e : cn + 1 - 1 = cn := by omega
  simp only [M.setLoop, M.putBack, M.frame, M.keep, M.loopAt, mtF, hc, backMarks, lp, toM, e]
  simp [Array.modify, e, wt, lp]
  exact ⟨rfl, rfl⟩
theorem go_tail_fail {x : Cf} {f : Sre.Frame} {r : List Sre.Frame} (ha : x.ans = some false) (hf : x.frames = f :: r) (hk : f.wait = .maxTail) (hl : f.loop = 0) :
    Go C t ls 1 x { x with pc := f.pc, pos := f.pos, om := f.outermost, inner := some 0, frames := r } := Go.one fun sn => by
  obtain ⟨start, pc, pos, handed, om, must, marks, lm, li, loops, inner, frames, ans⟩ := x
  simp only at ha hf
  subst ha hf
  rw [step_some (b := false) (f := f) (r := r) rfl rfl rfl]
  refine ⟨sn, ?_⟩
  simp only [toM, wt_sub]
  unfold M.resume
  rw [hk]
  simp only [hl]
  rfl
theorem go_close_fail {x : Cf} {pc pos : Nat} {om : Bool} {r : List Sre.Frame} {cn : Int} {bg : Option Nat} (ha : x.ans = some false) (hf : x.frames = clF pc pos om :: r) (hlo : x.loops = #[lp cn bg]) :
    Go C t ls 1 x { x with pc := pc, pos := pos, om := om, inner := none, loops := #[], frames := r } := Go.one fun sn => by
  obtain ⟨start, pc', pos', handed, om', must, marks, lm, li, loops, inner, frames, ans⟩ := x
  simp only at ha hf hlo
  subst ha hf hlo
  rw [step_some (b := false) (f := clF pc pos om) (r := r) rfl rfl rfl]
  refine ⟨sn, ?_⟩
  simp only [toM, wt_sub]
  rfl
/-- where a quoted text ends: how many signs stand before the mark that closes it -/
def qc : List Nat → Option Nat
  | [] => none
  | c :: r => if c == 34 then some 0 else if c == 92 then (match r with | [] => none | d :: r' => if d == 10 then none else (qc r').map (· + 2)) else (qc r).map (· + 1)
theorem qc_plain {c : Nat} {r : List Nat} (h : isQ c = true) : qc (c :: r) = (qc r).map (· + 1) := by
  simp only [isQ, Bool.not_eq_true', Bool.or_eq_false_iff] at h
  rw [qc.eq_def]; simp only [h.1, h.2]; rfl
end Mine
end

-- Sre6
section
open PySem PySem.Sre
set_option Elab.async false
set_option linter.all false
namespace Mine
variable {t : List Nat} {ls : Nat}
def IU (lo : Array Loop) (y : Cf) : Prop := y.inner = some 0 ∧ y.loops = lo ∧ (∃ a b, y.marks = #[a, b]) ∧ 0 ≤ y.lm ∧ y.lm ≤ 1
theorem lm_cases {l : Int} (h0 : 0 ≤ l) (h1 : l ≤ 1) : l = 0 ∨ l = 1 := by omega
theorem kp_size {x : Cf} {a b : Option Nat} (hm : x.marks = #[a, b]) (h0 : 0 ≤ x.lm) (h1 : x.lm ≤ 1) : (kp x).marks.size ≤ 2 := by
  unfold kp
  rw [hm]
  rcases lm_cases h0 h1 with h | h <;> rw [h] <;> simp
theorem back_kp {x : Cf} {a b a' b' : Option Nat} (hm : x.marks = #[a, b]) (h0 : 0 ≤ x.lm) (h1 : x.lm ≤ 1) : ∃ b'', backMarks (kp x) #[a', b'] = #[a, b''] := by
  unfold backMarks kp
  rw [hm]
  rcases lm_cases h0 h1 with h | h <;> rw [h] <;> exact ⟨_, rfl⟩
theorem iu_back {lo : Array Loop} {x : Cf} {a b : Option Nat} (hm : x.marks = #[a, b]) (h0 : 0 ≤ x.lm) (h1 : x.lm ≤ 1) (y : Cf) (h : IU lo y) (pc pos handed om frames ans) :
    IU lo { y with pc := pc, pos := pos, handed := handed, om := om, frames := frames, ans := ans, lm := (kp x).lastmark, li := (kp x).lastindex, marks := backMarks (kp x) y.marks } := by
  obtain ⟨y1, y2, ⟨a', b', y3⟩, _, _⟩ := h
  obtain ⟨b'', e⟩ := back_kp (a' := a') (b' := b') hm h0 h1
  exact ⟨y1, y2, ⟨a, b'', by show backMarks (kp x) y.marks = _; rw [y3]; exact e⟩, h0, h1⟩
/-- one round of the loop fails: the tail is tried at the round's start -/
theorem more_tail {x y : Cf} {r : List Sre.Frame} {cn : Int} {bg bg' : Option Nat} (ha : y.ans = some false) (hpc : x.pc = 66) (hf : y.frames = mmF x cn bg :: r) (hlo : y.loops = #[lp (cn + 1) bg'])
    (hxm : ∃ a b, x.marks = #[a, b]) (h0 : 0 ≤ x.lm) (h1 : x.lm ≤ 1) (hym : ∃ a b, y.marks = #[a, b]) (h34 : t[x.pos]? ≠ some 34) (hw : wt r + 1 ≤ 16777216) :
    ∃ z, Go cQuo t ls 4 y z ∧ z.ans = some false ∧ z.frames = r ∧ IU #[lp cn bg] z := by
  obtain ⟨a, b, hxm⟩ := hxm
  obtain ⟨a', b', hym⟩ := hym
  obtain ⟨b'', eb⟩ := back_kp (a' := a') (b' := b') hxm h0 h1
  have g1 : Go cQuo t ls 1 y _ := go_more_fail (cn := cn) (bg := bg) (bg' := bg') ha hf rfl rfl rfl rfl hlo hw
  have g2 := g1.trans (go_mark1 (a := a) (b := b'') rfl (by show x.pc + 1 < _; rw [hpc]; decide) (by show cQuo.getD (x.pc + 1) 0 = _; rw [hpc]; decide) (by show cQuo.getD (x.pc + 1 + 1) 0 = _; rw [hpc]; decide)
    (by show backMarks (kp x) y.marks = _; rw [hym]; exact eb) h0)
  have g3 := g2.trans (go_lit_fail (c := 34) rfl (by show x.pc + 1 + 2 < _; rw [hpc]; decide) (by show cQuo.getD (x.pc + 1 + 2) 0 = _; rw [hpc]; decide) (by show cQuo.getD (x.pc + 1 + 2 + 1) 0 = _; rw [hpc]; decide) h34)
  have g4 := g3.trans (go_tail_fail rfl rfl rfl rfl)
  refine ⟨_, g4, rfl, rfl, rfl, rfl, ⟨_, _, rfl⟩, ?_, ?_⟩
  · show 0 ≤ max x.lm 1; omega
  · show max x.lm 1 ≤ 1; omega
theorem qc_run : ∀ (l : List Nat) (i : Nat), i ≤ (l.takeWhile isQ).length → qc l = (qc (l.drop i)).map (· + i)
  | l, 0, _ => by rw [List.drop_zero]; cases qc l <;> rfl
  | [], i + 1, h => by simp at h
  | c :: l, i + 1, h => by
    rw [List.takeWhile_cons] at h
    cases hc : isQ c with
    | false => rw [hc] at h; simp at h
    | true =>
      rw [hc] at h
      simp only [if_true, List.length_cons] at h
      rw [qc_plain hc, qc_run l i (by omega), List.drop_succ_cons]
      cases qc (l.drop i) with
      | none => rfl
      | some e => simp only [Option.map_some]; congr 1
theorem qc_esc {p d : Nat} (h : t[p]? = some 92) (h' : t[p + 1]? = some d) (hd : d ≠ 10) : qc (t.drop p) = (qc (t.drop (p + 2))).map (· + 2) := by
  have l1 := lt_of_get h
  have l2 := lt_of_get h'
  rw [List.drop_eq_getElem_cons l1, List.drop_eq_getElem_cons l2]
  rw [List.getElem?_eq_getElem l1] at h
  rw [List.getElem?_eq_getElem l2] at h'
  have e1 := Option.some.inj h
  have e2 := Option.some.inj h'
  rw [e1, e2, qc.eq_def]
  have hb : (d == 10) = false := by simpa using hd
  simp only [hb]
  rfl
theorem qc_mark {p : Nat} (h : t[p]? = some 34) : qc (t.drop p) = some 0 := by
  have l1 := lt_of_get h
  rw [List.drop_eq_getElem_cons l1]
  rw [List.getElem?_eq_getElem l1] at h
  rw [Option.some.inj h, qc.eq_def]
  rfl
def bnd (d : Nat) : Nat := 16 * 8 ^ d
theorem bnd_mono {a b : Nat} (h : a ≤ b) : bnd a ≤ bnd b := Nat.mul_le_mul_left _ (Nat.pow_le_pow_right (by decide) h)
/-- no mark closes: the loop fails -/
theorem until_fail (ht : Al t) (hlen : t.length ≤ 16) : ∀ (d p : Nat) (x : Cf) (cn : Int) (bg : Option Nat), t.length - p = d → p ≤ t.length → x.ans = none → x.pc = 66 → x.pos = p → IU #[lp cn bg] x → -1 ≤ cn →
    (∀ b, bg = some b → b < p) → qc (t.drop p) = none → wt x.frames + 8 * (d + 1) ≤ 16777216 → ∃ z, Go cQuo t ls (bnd d) x z ∧ z.ans = some false ∧ z.frames = x.frames ∧ IU #[lp cn bg] z := by
  intro d
  induction d using Nat.strongRecOn with
  | ind d ih =>
    intro p x cn bg hd hp ha hpc hpos hI hcn hbg hq hw
    obtain ⟨i1, i2, ⟨a, b, i3⟩, i4, i5⟩ := id hI
    have hks := kp_size i3 i4 i5
    have h34 : t[x.pos]? ≠ some 34 := by
      rw [hpos]; intro h; rw [qc_mark h] at hq; cases hq
    have g1 : Go cQuo t ls 1 x _ := go_until (cn := cn) (bg := bg) ha (by rw [hpc]; decide) (by rw [hpc]; decide) (by decide) (by decide) i2 i1 hcn (by
      rw [hpos]; intro h; exact absurd (hbg p h) (Nat.lt_irrefl _)) (by omega)
    have hone : 16 ≤ bnd d := by
      have : 8 ^ 0 ≤ 8 ^ d := Nat.pow_le_pow_right (by decide) (Nat.zero_le _)
      unfold bnd; omega
    by_cases h92 : t[x.pos]? = some 92
    · have g2 := g1.trans (go_lit (c := 92) ha (by show 50 < _; decide) (by show cQuo.getD 50 0 = _; decide) (by show cQuo.getD 51 0 = _; decide) h92)
      by_cases hany : ∃ c, t[x.pos + 1]? = some c ∧ c ≠ 10
      · obtain ⟨c, hc, hc10⟩ := hany
        have hl2 := lt_of_get hc
        have g3 := g2.trans (go_any (c := c) ha (by show 52 < _; decide) (by show cQuo.getD 52 0 = _; decide) hc hc10)
        have hl : p + 2 ≤ t.length := by omega
        have hpos2 : x.pos + 1 + 1 = p + 2 := by omega
        obtain ⟨r, hr⟩ : ∃ r, ((t.drop (p + 2)).takeWhile isQ).length = r := ⟨_, rfl⟩
        have hrl : p + 2 + r ≤ t.length := by
          have := takeWhile_le isQ (t.drop (p + 2))
          rw [hr, List.length_drop] at this; omega
        have hqs : ∀ i ≤ r, qc (t.drop (p + 2 + i)) = none := by
          intro i hi
          have e := qc_esc (t := t) (p := p) (by rw [← hpos]; exact h92) (by rw [← hpos]; exact hc) hc10
          rw [hq, qc_run (t.drop (p + 2)) i (by omega), List.drop_drop] at e
          cases hz : qc (t.drop (p + 2 + i)) with
          | none => rfl
          | some v => rw [hz] at e; cases e
        have g4 := g3.trans (go_rep (sk := 12) (mn := 0) (f := isQ) r ha (by show 53 < _; decide) (by show cQuo.getD 53 0 = _; decide) (by show cQuo.getD 54 0 = _; decide) (by show cQuo.getD 55 0 = _; decide) (by show cQuo.getD 56 0 = _; decide)
          acc_quo_q2 ht (by omega) (by show x.pos + 1 + 1 ≤ _; omega) (by show ((t.drop (x.pos + 1 + 1)).takeWhile isQ).length = r; rw [hpos2]; exact hr) (Nat.zero_le _) (by
            show wt x.frames + 1 + (kp x).marks.size + 1 + _ ≤ _
            show wt x.frames + 1 + (kp x).marks.size + 1 + (if x.inner.isSome = true then x.marks.extract 0 (x.lm + 1).toNat else #[]).size ≤ _
            rw [i1]
            show wt x.frames + 1 + (kp x).marks.size + 1 + (kp x).marks.size ≤ _
            omega))
        obtain ⟨y, gy, y1, y2, y3, y4, y5⟩ : ∃ y : Cf, Go cQuo t ls 4 x y ∧ y.ans = none ∧ y.pc = 66 ∧ y.pos = p + 2 + r ∧ y.frames = gbf 53 (p + 2) x.om (kp x) r :: mmF x cn bg :: x.frames ∧ IU #[lp (cn + 1) (some p)] y :=
          ⟨_, g4, ha, rfl, by show x.pos + 1 + 1 + r = _; omega, by
            show gb _ r x.inner.isSome :: mmF x cn bg :: x.frames = _
            rw [i1]
            show ({ wait := .giveBack, pc := 53, pos := x.pos + 1 + 1 + r, outermost := x.om, count := r, kept := kp x } : Sre.Frame) :: _ = _
            rw [hpos2]; rfl, i1, by show #[lp (cn + 1) (some x.pos)] = _; rw [hpos], ⟨a, b, i3⟩, i4, i5⟩
        have hwf : wt (gbf 53 (p + 2) x.om (kp x) r :: mmF x cn bg :: x.frames) = wt x.frames + 1 + (kp x).marks.size + 1 + (kp x).marks.size := rfl
        have rec1 : ∀ i ≤ r, ∀ y : Cf, y.ans = none → y.pc = 66 → y.pos = p + 2 + i → y.frames = gbf 53 (p + 2) x.om (kp x) i :: mmF x cn bg :: x.frames → IU #[lp (cn + 1) (some p)] y →
            ∃ z, Go cQuo t ls (bnd (d - 2)) y z ∧ z.ans = some false ∧ z.frames = y.frames ∧ IU #[lp (cn + 1) (some p)] z := by
          intro i hi y y1 y2 y3 y4 y5
          have hwy : wt y.frames = wt x.frames + 1 + (kp x).marks.size + 1 + (kp x).marks.size := by rw [y4]; rfl
          obtain ⟨z, z1, z2, z3, z4⟩ := ih (t.length - (p + 2 + i)) (by omega) (p + 2 + i) y (cn + 1) (some p) rfl (by omega) y1 y2 y3 y5 (by omega) (by intro b hb; cases hb; omega) (hqs i hi) (by rw [hwy]; omega)
          exact ⟨z, z1.le (bnd_mono (by omega)), z2, z3, z4⟩
        obtain ⟨z, gz, z1, z2, z3⟩ := rec1 r (Nat.le_refl _) y y1 y2 y3 y4 y5
        obtain ⟨v, gv, v1, v2, v3⟩ := gb_loop (C := cQuo) (t := t) (ls := ls) (N := bnd (d - 2)) (p0 := 53) (b := p + 2) (sk := 12) (om := x.om) (k := kp x) (r := mmF x cn bg :: x.frames) (IU #[lp (cn + 1) (some p)])
          (iu_back i3 i4 i5) (by decide) (by decide) (by show wt x.frames + 1 + (kp x).marks.size + 1 + (kp x).marks.size ≤ _; omega) r
          (fun i hi y ya yp yq _ yf yI => by
            obtain ⟨z, a1, a2, a3, a4⟩ := rec1 i (by omega) y ya yp yq yf yI
            exact ⟨z, a1, a2, a3.trans yf, a4⟩) z z1 (z2.trans y4) z3
        obtain ⟨u, gu, u1, u2, u3⟩ := more_tail (t := t) (ls := ls) (x := x) (y := v) (r := x.frames) (cn := cn) (bg := bg) (bg' := some p) v1 hpc v2 v3.2.1 ⟨a, b, i3⟩ i4 i5 v3.2.2.1 h34 (by omega)
        refine ⟨u, ((gy.trans gz).trans gv).then gu ?_, u1, u2, u3⟩
        have hpw : bnd d = 1024 * 8 ^ (d - 2) := by
          have : d = d - 2 + 2 := by omega
          unfold bnd
          rw [this, Nat.pow_add]
          simp only [Nat.add_sub_cancel]
          omega
        have h1 : 1 ≤ 8 ^ (d - 2) := Nat.one_le_pow _ _ (by decide)
        have hr16 : r ≤ 16 := by omega
        have hm : (bnd (d - 2) + 1) * r ≤ (bnd (d - 2) + 1) * 16 := Nat.mul_le_mul_left _ hr16
        rw [hpw]
        unfold bnd at hm ⊢
        generalize 8 ^ (d - 2) = P at *
        omega
      · have g3 := g2.trans (go_any_fail ha (by show 52 < _; decide) (by show cQuo.getD 52 0 = _; decide) (fun c hc => by
          by_cases h : c = 10
          · exact h
          · exact absurd ⟨c, hc, h⟩ hany))
        obtain ⟨y, gy, y1, y2, y3, y4⟩ : ∃ y : Cf, Go cQuo t ls 3 x y ∧ y.ans = some false ∧ y.frames = mmF x cn bg :: x.frames ∧ y.loops = #[lp (cn + 1) (some x.pos)] ∧ ∃ a b, y.marks = #[a, b] :=
          ⟨_, g3.le (by omega), rfl, rfl, rfl, a, b, i3⟩
        obtain ⟨u, gu, u1, u2, u3⟩ := more_tail (t := t) (ls := ls) (x := x) (y := y) (r := x.frames) (cn := cn) (bg := bg) (bg' := some x.pos) y1 hpc y2 y3 ⟨a, b, i3⟩ i4 i5 y4 h34 (by omega)
        exact ⟨u, (gy.trans gu).le (by omega), u1, u2, u3⟩
    · have g2 := g1.trans (go_lit_fail (c := 92) ha (by show 50 < _; decide) (by show cQuo.getD 50 0 = _; decide) (by show cQuo.getD 51 0 = _; decide) h92)
      obtain ⟨y, gy, y1, y2, y3, y4⟩ : ∃ y : Cf, Go cQuo t ls 3 x y ∧ y.ans = some false ∧ y.frames = mmF x cn bg :: x.frames ∧ y.loops = #[lp (cn + 1) (some x.pos)] ∧ ∃ a b, y.marks = #[a, b] :=
        ⟨_, g2.le (by omega), rfl, rfl, rfl, a, b, i3⟩
      obtain ⟨u, gu, u1, u2, u3⟩ := more_tail (t := t) (ls := ls) (x := x) (y := y) (r := x.frames) (cn := cn) (bg := bg) (bg' := some x.pos) y1 hpc y2 y3 ⟨a, b, i3⟩ i4 i5 y4 h34 (by omega)
      exact ⟨u, (gy.trans gu).le (by omega), u1, u2, u3⟩
end Mine
end

-- Sre7
section
open PySem PySem.Sre
set_option Elab.async false
set_option linter.all false
namespace Mine
local macro_rules | `(tactic| walk_at "cd") => `(tactic| ((try dsimp only [begin_]); decide))
variable {t : List Nat} {ls : Nat}
theorem until_match (ht : Al t) (hlen : t.length ≤ 16) : ∀ (d p e q : Nat) (x : Cf) (cn : Int) (bg : Option Nat) (b : Option Nat), t.length - p = d → p ≤ t.length → x.ans = none → x.pc = 66 → x.pos = p → x.inner = some 0 → x.loops = #[lp cn bg] →
    x.marks = #[some q, b] → 0 ≤ x.lm → x.lm ≤ 1 → x.must = false → -1 ≤ cn → (∀ b, bg = some b → b < p) → qc (t.drop p) = some e → (∀ c, t[p]? = some c → isQ c = false) → wt x.frames + 8 * (d + 1) ≤ 16777216 →
    ∃ z G, Go cQuo t ls (8 * (d + 1)) x z ∧ z.ans = some true ∧ z.start = x.start ∧ z.handed = p + e + 1 ∧ z.marks = #[some q, some (p + e)] ∧ z.lm = 1 ∧ z.li = 1 ∧ z.frames = G ++ x.frames ∧ (∀ f ∈ G, Easy f) ∧ G.length ≤ 2 * (d + 1) := by
  intro d
  induction d using Nat.strongRecOn with
  | ind d ih =>
    intro p e q x cn bg b hd hp ha hpc hpos i1 i2 i3 i4 i5 hmu hcn hbg hq hstop hw
    have hks := kp_size i3 i4 i5
    have hlt : p < t.length := by
      rcases Nat.lt_or_ge p t.length with h | h
      · exact h
      · rw [List.drop_of_length_le h, qc.eq_def] at hq; cases hq
    have hc0 := List.getElem?_eq_getElem hlt
    have hcq := hstop _ hc0
    have g1 : Go cQuo t ls 1 x _ := go_until (cn := cn) (bg := bg) ha (by rw [hpc]; decide) (by rw [hpc]; decide) (by decide) (by decide) i2 i1 hcn (by
      rw [hpos]; intro h; exact absurd (hbg p h) (Nat.lt_irrefl _)) (by omega)
    simp only [isQ, Bool.not_eq_false', Bool.or_eq_true, beq_iff_eq] at hcq
    rcases hcq with h34 | h92
    · rw [h34] at hc0
      have he : e = 0 := by rw [qc_mark hc0] at hq; exact (Option.some.inj hq).symm
      subst he
      have g2 := g1.trans (go_lit_fail (c := 92) ha (by show 50 < _; decide) (by show cQuo.getD 50 0 = _; decide) (by show cQuo.getD 51 0 = _; decide) (by show t[x.pos]? ≠ _; rw [hpos, hc0]; simp))
      obtain ⟨b'', eb⟩ := back_kp (a' := some q) (b' := b) i3 i4 i5
      have g3 := g2.trans (go_more_fail (cn := cn) (bg := bg) (bg' := some x.pos) rfl rfl rfl rfl rfl rfl rfl (by omega))
      have g4 := g3.trans (go_mark1 (a := some q) (b := b'') rfl (by show x.pc + 1 < _; rw [hpc]; decide) (by show cQuo.getD (x.pc + 1) 0 = _; rw [hpc]; decide) (by show cQuo.getD (x.pc + 1 + 1) 0 = _; rw [hpc]; decide)
        (by show backMarks (kp x) x.marks = _; rw [i3]; exact eb) i4)
      have g5 := g4.trans (go_lit (c := 34) rfl (by show x.pc + 1 + 2 < _; rw [hpc]; decide) (by show cQuo.getD (x.pc + 1 + 2) 0 = _; rw [hpc]; decide) (by show cQuo.getD (x.pc + 1 + 2 + 1) 0 = _; rw [hpc]; decide) (by show t[x.pos]? = _; rw [hpos]; exact hc0))
      have g6 := g5.trans (go_success rfl (by show x.pc + 1 + 2 + 2 < _; rw [hpc]; decide) (by show cQuo.getD (x.pc + 1 + 2 + 2) 0 = _; rw [hpc]; decide) (.inl hmu))
      refine ⟨_, [_], g6.le (by omega), rfl, rfl, by show x.pos + 1 = _; omega, by show #[some q, some x.pos] = _; rw [hpos, Nat.add_zero], by show max x.lm 1 = 1; omega, rfl, rfl, ?_, by simp only [List.length_cons, List.length_nil]; omega⟩
      intro f hf
      rw [List.mem_singleton] at hf
      subst hf
      exact .inr (.inr (.inr (.inr rfl)))
    · rw [h92] at hc0
      have hc0' : t[x.pos]? = some 92 := by rw [hpos]; exact hc0
      obtain ⟨c, hc, hc10⟩ : ∃ c, t[p + 1]? = some c ∧ c ≠ 10 := by
        rcases Nat.lt_or_ge (p + 1) t.length with h | h
        · refine ⟨t[p + 1], List.getElem?_eq_getElem h, fun h10 => ?_⟩
          rw [List.drop_eq_getElem_cons hlt, List.drop_eq_getElem_cons h, h92, h10, qc.eq_def] at hq
          cases hq
        · rw [List.drop_eq_getElem_cons hlt, List.drop_of_length_le h, h92, qc.eq_def] at hq
          cases hq
      have hl2 := lt_of_get hc
      have g2 := g1.trans (go_lit (c := 92) ha (by show 50 < _; decide) (by show cQuo.getD 50 0 = _; decide) (by show cQuo.getD 51 0 = _; decide) hc0')
      have g3 := g2.trans (go_any (c := c) ha (by show 52 < _; decide) (by show cQuo.getD 52 0 = _; decide) (by show t[x.pos + 1]? = _; rw [hpos]; exact hc) hc10)
      have hpos2 : x.pos + 1 + 1 = p + 2 := by omega
      obtain ⟨r, hr⟩ : ∃ r, ((t.drop (p + 2)).takeWhile isQ).length = r := ⟨_, rfl⟩
      have hrl : p + 2 + r ≤ t.length := by
        have := takeWhile_le isQ (t.drop (p + 2))
        rw [hr, List.length_drop] at this; omega
      have g4 := g3.trans (go_rep (sk := 12) (mn := 0) (f := isQ) r ha (by show 53 < _; decide) (by show cQuo.getD 53 0 = _; decide) (by show cQuo.getD 54 0 = _; decide) (by show cQuo.getD 55 0 = _; decide) (by show cQuo.getD 56 0 = _; decide)
        acc_quo_q2 ht (by omega) (by show x.pos + 1 + 1 ≤ _; omega) (by show ((t.drop (x.pos + 1 + 1)).takeWhile isQ).length = r; rw [hpos2]; exact hr) (Nat.zero_le _) (by
          show wt x.frames + 1 + (kp x).marks.size + 1 + (if x.inner.isSome = true then x.marks.extract 0 (x.lm + 1).toNat else #[]).size ≤ _
          rw [i1]
          show wt x.frames + 1 + (kp x).marks.size + 1 + (kp x).marks.size ≤ _
          omega))
      obtain ⟨e', he', hee⟩ : ∃ e', qc (t.drop (p + 2 + r)) = some e' ∧ e = e' + r + 2 := by
        rw [qc_esc hc0 hc hc10, qc_run (t.drop (p + 2)) r (by omega), List.drop_drop] at hq
        cases hz : qc (t.drop (p + 2 + r)) with
        | none => rw [hz] at hq; cases hq
        | some v => rw [hz] at hq; exact ⟨v, rfl, (Option.some.inj hq).symm⟩
      obtain ⟨y, gy, y1, y2, y3, y4, y5, y6, y7, y8, y9, y10, y11⟩ : ∃ y : Cf, Go cQuo t ls 4 x y ∧ y.ans = none ∧ y.pc = 66 ∧ y.pos = p + 2 + r ∧ y.inner = some 0 ∧ y.loops = #[lp (cn + 1) (some p)] ∧ y.marks = #[some q, b] ∧ y.lm = x.lm ∧ y.must = false ∧ y.start = x.start ∧
          (∃ fa, y.frames = fa :: mmF x cn bg :: x.frames ∧ Easy fa) ∧ wt y.frames = wt x.frames + 1 + (kp x).marks.size + 1 + (kp x).marks.size :=
        ⟨_, g4, ha, rfl, by show x.pos + 1 + 1 + r = _; omega, i1, by show #[lp (cn + 1) (some x.pos)] = _; rw [hpos], i3, rfl, hmu, rfl, ⟨_, rfl, .inl rfl⟩, by
          show wt x.frames + 1 + (kp x).marks.size + 1 + (if x.inner.isSome = true then x.marks.extract 0 (x.lm + 1).toNat else #[]).size = _
          rw [i1]; rfl⟩
      obtain ⟨fa, y10, efa⟩ := y10
      obtain ⟨z, G, gz, z1, z2, z3, z4, z5, z6, z7, z8, z9⟩ := ih (t.length - (p + 2 + r)) (by omega) (p + 2 + r) e' q y (cn + 1) (some p) b rfl (by omega) y1 y2 y3 y4 y5 y6 (by omega) (by omega) y8 (by omega)
        (by intro b hb; cases hb; omega) he' (fun c hc => takeWhile_stop (t := t.drop (p + 2)) (f := isQ) (by rw [hr, List.getElem?_drop]; exact hc)) (by rw [y11]; omega)
      refine ⟨z, G ++ [fa, mmF x cn bg], (gy.trans gz).le (by omega), z1, z2.trans y9, by omega, by rw [z4, show p + 2 + r + e' = p + e by omega], z5, z6, by rw [z7, y10]; simp, ?_, by simp only [List.length_append, List.length_cons, List.length_nil]; omega⟩
      intro f hf
      rcases List.mem_append.mp hf with h | h
      · exact z8 f h
      · simp only [List.mem_cons, List.not_mem_nil, or_false] at h
        rcases h with rfl | rfl
        · exact efa
        · exact .inr (.inr (.inr (.inl rfl)))
/-- the quoted value's pattern, up to the loop -/
theorem quo_open (ht : Al t) (hlen : t.length ≤ 16) {n n2 q r : Nat} (hn : (t.takeWhile isW).length = n) (hq : t[n]? = some 61) (hn2 : ((t.drop (n + 1)).takeWhile isW).length = n2) (hqq : q = n + 1 + n2 + 1) (h34 : t[n + 1 + n2]? = some 34)
    (hr : ((t.drop q).takeWhile isQ).length = r) :
    Go cQuo t ls 8 (begin_ 0 1 false) { start := 0, pc := 66, pos := q + r, handed := q + r, om := true, must := false, marks := #[some q, none], lm := 0, loops := #[lp (-1) none], inner := some 0, frames := [clF 46 (q + r) true, gbf 33 q true { lastmark := 0, lastindex := -1, whole := false, marks := #[] } r, gbf 19 (n + 1) true K0 n2, gbf 7 0 true K0 n, ns 5 0 true] } := by
  subst hqq
  have hl := lt_of_get h34
  have g2 := (pre_eq (ls := ls) pre_quo ht (by omega) hn hq hn2).trans (go_lit (c := 34) rfl (by walk_at "cd") (by walk_at "cd") (by walk_at "cd") h34)
  have g3 := g2.trans (go_mark0 (a := none) (b := none) rfl (by walk_at "cd") (by walk_at "cd") (by walk_at "cd") rfl (by walk_at "cd"))
  have g4 := g3.trans (go_rep (sk := 12) (mn := 0) (f := isQ) r rfl (by walk_at "cd") (by walk_at "cd") (by walk_at "cd") (by walk_at "cd") (by walk_at "cd") acc_quo_q1 ht (by omega) hl hr (Nat.zero_le _) (by simp [wt, gb, gbf, ns, K0]))
  have g5 := g4.trans (go_repeat (sk := 19) rfl (by walk_at "cd") (by walk_at "cd") (by walk_at "cd") rfl rfl (by simp [wt, gb, gbf, ns, K0]))
  exact g5
theorem quo_match (ht : Al t) (hlen : t.length ≤ 16) {n n2 q e : Nat} (hn : (t.takeWhile isW).length = n) (hq : t[n]? = some 61) (hn2 : ((t.drop (n + 1)).takeWhile isW).length = n2) (hqq : q = n + 1 + n2 + 1) (h34 : t[n + 1 + n2]? = some 34)
    (he : qc (t.drop q) = some e) :
    Ends cQuo t ls 1000 (begin_ 0 1 false) (Matched 0 (q + e + 1) #[some q, some (q + e)] 1 1) := by
  obtain ⟨r, hr⟩ : ∃ r, ((t.drop q).takeWhile isQ).length = r := ⟨_, rfl⟩
  have hl := lt_of_get h34
  have hrl : q + r ≤ t.length := by
    have := takeWhile_le isQ (t.drop q)
    rw [hr, List.length_drop] at this; omega
  have g1 := quo_open (ls := ls) ht hlen hn hq hn2 hqq h34 hr
  obtain ⟨e', he', hee⟩ : ∃ e', qc (t.drop (q + r)) = some e' ∧ e = e' + r := by
    rw [qc_run (t.drop q) r (by omega), List.drop_drop] at he
    cases hz : qc (t.drop (q + r)) with
    | none => rw [hz] at he; cases he
    | some v => rw [hz] at he; exact ⟨v, rfl, (Option.some.inj he).symm⟩
  generalize hX : ({ start := 0, pc := 66, pos := q + r, handed := q + r, om := true, must := false, marks := #[some q, none], lm := 0, loops := #[lp (-1) none], inner := some 0, frames := [clF 46 (q + r) true, gbf 33 q true { lastmark := 0, lastindex := -1, whole := false, marks := #[] } r, gbf 19 (n + 1) true K0 n2, gbf 7 0 true K0 n, ns 5 0 true] } : Cf) = X at g1
  have f1 : X.frames = [clF 46 (q + r) true, gbf 33 q true { lastmark := 0, lastindex := -1, whole := false, marks := #[] } r, gbf 19 (n + 1) true K0 n2, gbf 7 0 true K0 n, ns 5 0 true] := by rw [← hX]
  have f2 : X.lm = 0 := by rw [← hX]
  have f3 : X.start = 0 := by rw [← hX]
  obtain ⟨z, G, gz, z1, z2, z3, z4, z5, z6, z7, z8, z9⟩ := until_match (ls := ls) ht hlen (t.length - (q + r)) (q + r) e' q X (-1) none none rfl hrl (by rw [← hX]) (by rw [← hX]) (by rw [← hX]) (by rw [← hX]) (by rw [← hX]) (by rw [← hX]) (by rw [f2]; decide) (by rw [f2]; decide) (by rw [← hX]) (by decide) (by intro b hb; cases hb) he'
    (fun c hc => takeWhile_stop (t := t.drop q) (f := isQ) (by rw [hr, List.getElem?_drop]; exact hc)) (by
      rw [f1]
      simp only [wt, clF, gbf, ns, K0]
      show 0 + 1 + 0 + 1 + 0 + 1 + 0 + 1 + 0 + 1 + 0 + _ ≤ _
      omega)
  have ee := ends_true (C := cQuo) (t := t) (ls := ls) _ z z7 z1 (by
    intro f hf
    rcases List.mem_append.mp hf with h | h
    · exact z8 f h
    · rw [f1] at h
      simp only [List.mem_cons, List.not_mem_nil, or_false] at h
      rcases h with rfl | rfl | rfl | rfl | rfl
      · exact .inr (.inr (.inl rfl))
      · exact .inl rfl
      · exact .inl rfl
      · exact .inl rfl
      · exact .inr (.inl rfl))
  rw [z2, z3, z4, z5, z6, f3] at ee
  have e1 : q + r + e' = q + e := by omega
  rw [e1] at ee
  refine (g1.trans gz).ends ee ?_
  rw [f1]
  simp only [List.length_append, List.length_cons, List.length_nil]
  omega
theorem quo_fail (ht : Al t) (hlen : t.length ≤ 16) (hls : ls ≤ 1000) {n n2 q : Nat} (hn : (t.takeWhile isW).length = n) (hq : t[n]? = some 61) (hn2 : ((t.drop (n + 1)).takeWhile isW).length = n2) (hqq : q = n + 1 + n2 + 1)
    (he : t[n + 1 + n2]? = some 34 → qc (t.drop q) = none) :
    Ends cQuo t ls (2 ^ 60) (begin_ 0 1 false) Failed := by
  have hl0 := lt_of_get hq
  have hn2l : n + 1 + n2 ≤ t.length := by
    have := takeWhile_le isW (t.drop (n + 1))
    rw [hn2, List.length_drop] at this; omega
  -- from the frames of the blanks on
  have back : ∀ x : Cf, x.ans = some false → x.frames = [gbf 19 (n + 1) true K0 n2, gbf 7 0 true K0 n, ns 5 0 true] → Two x → Ends cQuo t ls 6000 x Failed := by
    intro x ha hf hx
    obtain ⟨z', g5, w1, w2, w3⟩ := gb_loop (C := cQuo) (t := t) (ls := ls) (N := 1) (p0 := 19) (b := n + 1) (sk := 9) (om := true) (k := K0) (r := [gbf 7 0 true K0 n, ns 5 0 true]) Two
      (two_back rfl (by walk_at "cd")) (by decide) (by decide) (by simp [wt, gbf, ns, K0]) n2
      (fun i hi y ya yp yq _ yf yI => by
        have hc : t[y.pos]? ≠ some 34 := by
          intro hc
          rw [yq, ← List.getElem?_drop] at hc
          have := takeWhile_get (f := isW) (by rw [hn2]; exact hi) hc
          simp [isW] at this
        exact ⟨_, go_lit_fail (c := 34) ya (by rw [yp]; decide) (by rw [yp]; decide) (by rw [yp]; decide) hc, rfl, yf, yI⟩) x ha hf hx
    exact g5.ends (pre_back1 pre_quo (by omega) hls hn w1 w2 w3) (by omega)
  by_cases h34 : t[n + 1 + n2]? = some 34
  · obtain ⟨r, hr⟩ : ∃ r, ((t.drop q).takeWhile isQ).length = r := ⟨_, rfl⟩
    have hl := lt_of_get h34
    have hrl : q + r ≤ t.length := by
      have := takeWhile_le isQ (t.drop q)
      rw [hr, List.length_drop] at this; omega
    have g1 := quo_open (ls := ls) ht hlen hn hq hn2 hqq h34 hr
    have hqs : ∀ i ≤ r, qc (t.drop (q + i)) = none := by
      intro i hi
      have e := he h34
      rw [qc_run (t.drop q) i (by omega), List.drop_drop] at e
      cases hz : qc (t.drop (q + i)) with
      | none => rfl
      | some v => rw [hz] at e; cases e
    -- the loop, from any place
    have cont : ∀ i ≤ r, ∀ y : Cf, y.ans = none → y.pc = 66 → y.pos = q + i → y.inner = some 0 → y.loops = #[lp (-1) none] → (∃ a b, y.marks = #[a, b]) → 0 ≤ y.lm → y.lm ≤ 1 → ∀ rr, y.frames = clF 46 (q + i) true :: rr → wt rr ≤ 100 →
        ∃ z, Go cQuo t ls (bnd 16 + 1) y z ∧ z.ans = some false ∧ z.frames = rr ∧ z.inner = none ∧ z.loops = #[] ∧ (∃ a b, z.marks = #[a, b]) ∧ 0 ≤ z.lm ∧ z.lm ≤ 1 := by
      intro i hi y ya yp yq yi yl ym y0 y1 rr yf hw
      obtain ⟨z, gz, z1, z2, z3⟩ := until_fail (ls := ls) ht hlen (t.length - (q + i)) (q + i) y (-1) none rfl (by omega) ya yp yq ⟨yi, yl, ym, y0, y1⟩ (by decide) (by intro b hb; cases hb) (hqs i hi) (by
        rw [yf]; simp only [wt, clF]
        show wt rr + 1 + 0 + _ ≤ _
        omega)
      have g2 := go_close_fail (C := cQuo) (t := t) (ls := ls) (x := z) (pc := 46) (pos := q + i) (om := true) (r := rr) (cn := -1) (bg := none) z1 (z2.trans yf) z3.2.1
      exact ⟨_, gz.then g2 (by have := bnd_mono (a := t.length - (q + i)) (b := 16) (by omega); omega), z1, rfl, rfl, rfl, z3.2.2.1, z3.2.2.2.1, z3.2.2.2.2⟩
    generalize hX : ({ start := 0, pc := 66, pos := q + r, handed := q + r, om := true, must := false, marks := #[some q, none], lm := 0, loops := #[lp (-1) none], inner := some 0, frames := [clF 46 (q + r) true, gbf 33 q true { lastmark := 0, lastindex := -1, whole := false, marks := #[] } r, gbf 19 (n + 1) true K0 n2, gbf 7 0 true K0 n, ns 5 0 true] } : Cf) = X at g1
    have f2 : X.lm = 0 := by rw [← hX]
    obtain ⟨z, gz, z1, z2, z3, z4, z5, z6, z7⟩ := cont r (Nat.le_refl _) X (by rw [← hX]) (by rw [← hX]) (by rw [← hX]) (by rw [← hX]) (by rw [← hX]) (by rw [← hX]; exact ⟨_, _, rfl⟩) (by rw [f2]; decide) (by rw [f2]; decide) [gbf 33 q true { lastmark := 0, lastindex := -1, whole := false, marks := #[] } r, gbf 19 (n + 1) true K0 n2, gbf 7 0 true K0 n, ns 5 0 true] (by rw [← hX]) (by simp [wt, gbf, ns, K0])
    obtain ⟨v, gv, v1, v2, v3⟩ := gb_loop (C := cQuo) (t := t) (ls := ls) (N := bnd 16 + 2) (p0 := 33) (b := q) (sk := 12) (om := true) (k := { lastmark := 0, lastindex := -1, whole := false, marks := #[] }) (r := [gbf 19 (n + 1) true K0 n2, gbf 7 0 true K0 n, ns 5 0 true])
      (fun y => y.inner = none ∧ y.loops = #[] ∧ (∃ a b, y.marks = #[a, b]) ∧ 0 ≤ y.lm ∧ y.lm ≤ 1)
      (fun y hy pc pos handed om frames ans => ⟨hy.1, hy.2.1, hy.2.2.1, by show (0 : Int) ≤ 0; decide, by show (0 : Int) ≤ 1; decide⟩) (by decide) (by decide) (by simp [wt, gbf, ns, K0]) r
      (fun i hi y ya yp yq yo yf yI => by
        obtain ⟨j1, j2, j3, j4, j5⟩ := yI
        have g2 : Go cQuo t ls 1 y _ := go_repeat (sk := 19) ya (by rw [yp]; decide) (by rw [yp]; decide) (by rw [yp]; decide) j2 j1 (by rw [yf]; simp [wt, gbf, ns, K0])
        obtain ⟨y', gy', k1, k2, k3, k4, k5, k6, k7, k8, k9⟩ : ∃ y' : Cf, Go cQuo t ls 1 y y' ∧ y'.ans = none ∧ y'.pc = 66 ∧ y'.pos = q + i ∧ y'.inner = some 0 ∧ y'.loops = #[lp (-1) none] ∧ (∃ a b, y'.marks = #[a, b]) ∧ 0 ≤ y'.lm ∧ y'.lm ≤ 1 ∧ y'.frames = clF 46 (q + i) true :: y.frames :=
          ⟨_, g2, ya, by show y.pc + 1 + 19 = 66; rw [yp], yq, rfl, by show #[({ pc := y.pc, outer := none } : Loop)] = _; rw [yp]; rfl, j3, j4, j5, by show clF y.pc y.pos y.om :: y.frames = _; rw [yp, yq, yo]⟩
        obtain ⟨z, gz, z1, z2, z3, z4, z5, z6, z7⟩ := cont i (by omega) y' k1 k2 k3 k4 k5 k6 k7 k8 _ k9 (by rw [yf]; simp [wt, gbf, ns, K0])
        exact ⟨z, (gy'.trans gz).le (by omega), z1, z2.trans yf, z3, z4, z5, z6, z7⟩) z z1 z2 ⟨z3, z4, z5, z6, z7⟩
    refine ((g1.trans gz).trans gv).ends (back v v1 v2 ⟨v3.2.2.1, by omega⟩) ?_
    have h16 : bnd 16 = 16 * 281474976710656 := by decide
    have hr16 : r ≤ 16 := by omega
    have hm : (bnd 16 + 2 + 1) * r ≤ (bnd 16 + 2 + 1) * 16 := Nat.mul_le_mul_left _ hr16
    rw [h16] at hm ⊢
    omega
  · have g2 := (pre_eq (ls := ls) pre_quo ht (by omega) hn hq hn2).trans (go_lit_fail (c := 34) rfl (by walk_at "cd") (by walk_at "cd") (by walk_at "cd") h34)
    exact g2.ends (back _ rfl rfl ⟨⟨_, _, rfl⟩, by walk_at "cd"⟩) (by decide)
end Mine
end

-- Sre8
section
open PySem PySem.Sre
set_option Elab.async false
set_option linter.all false
namespace Mine
variable {t : List Nat} {ls : Nat}
/-- the first backslash that takes a sign -/
def esc : List Nat → Option Nat
  | [] => none
  | c :: r => if c == 92 && (match r with | [] => false | d :: _ => d != 10) then some 0 else (esc r).map (· + 1)
def begin9 (s : Nat) (fb : Bool) (marks : Array (Option Nat)) : Cf := { start := s, pc := 9, pos := s, handed := s, om := fb, must := false, marks := marks, frames := [ns 9 s fb], ans := none }
local macro_rules | `(tactic| walk_at "cd") => `(tactic| ((try dsimp only [begin_, begin9]); decide))
theorem esc_search (hls : ls = t.length) : ∀ (d s : Nat) (fb : Bool) (a b : Option Nat), t.length - s = d → s ≤ t.length →
    (∀ i, esc (t.drop s) = some i → Ends cEsc t ls (5 * d + 10) (begin9 s fb #[a, b]) (Matched (s + i) (s + i + 2) #[some (s + i + 1), some (s + i + 2)] 1 1)) ∧
    (esc (t.drop s) = none → Ends cEsc t ls (5 * d + 10) (begin9 s fb #[a, b]) Failed) := by
  subst hls
  intro d
  induction d with
  | zero =>
    intro s fb a b hd hs
    have hn : t.drop s = [] := List.drop_of_length_le (by omega)
    have g1 : Go cEsc t t.length 1 (begin9 s fb #[a, b]) _ := go_lit_fail (c := 92) rfl (by walk_at "cd") (by walk_at "cd") (by walk_at "cd") (by rw [show (begin9 s fb #[a, b]).pos = s from rfl, List.getElem?_eq_none (by omega)]; simp)
    rw [hn]
    refine ⟨fun i h => by simp [esc] at h, fun _ => g1.ends (ends_ns_fail (pc := 9) (s := s) (first := fb) rfl rfl (by omega)) (by omega)⟩
  | succ d ih =>
    intro s fb a b hd hs
    have hlt : s < t.length := by omega
    have hg := List.getElem?_eq_getElem hlt
    have hdr := List.drop_eq_getElem_cons hlt
    by_cases h92 : t[s] = 92
    · rw [h92] at hg hdr
      have g1 : Go cEsc t t.length 1 (begin9 s fb #[a, b]) _ := go_lit (c := 92) rfl (by walk_at "cd") (by walk_at "cd") (by walk_at "cd") hg
      have g2 := g1.trans (go_mark0 (a := a) (b := b) rfl (by show 11 < _; decide) (by show cEsc.getD 11 0 = _; decide) (by show cEsc.getD 12 0 = _; decide) rfl (by show (-1 : Int) ≤ -1; decide))
      by_cases hany : ∃ c, t[s + 1]? = some c ∧ c ≠ 10
      · obtain ⟨c, hc, hc10⟩ := hany
        have he : esc (t.drop s) = some 0 := by
          have l2 := lt_of_get hc
          rw [hdr, List.drop_eq_getElem_cons l2]
          rw [List.getElem?_eq_getElem l2] at hc
          rw [Option.some.inj hc, esc.eq_def]
          have : (c != 10) = true := by simpa using hc10
          simp only [this]; rfl
        refine ⟨fun i h => ?_, fun h => by rw [he] at h; cases h⟩
        rw [he] at h
        cases h
        have g3 := g2.trans (go_any (c := c) rfl (by show 13 < _; decide) (by show cEsc.getD 13 0 = _; decide) hc hc10)
        have g4 := g3.trans (go_mark1 (a := some (s + 1)) (b := b) rfl (by show 14 < _; decide) (by show cEsc.getD 14 0 = _; decide) (by show cEsc.getD 15 0 = _; decide) rfl (by show (0 : Int) ≤ max (-1) 0; decide))
        have g5 := g4.trans (go_success rfl (by show 16 < _; decide) (by show cEsc.getD 16 0 = _; decide) (.inl rfl))
        obtain ⟨y, gy, y1, y2, y3, y4, y5, y6, y7⟩ : ∃ y : Cf, Go cEsc t t.length 5 (begin9 s fb #[a, b]) y ∧ y.ans = some true ∧ y.frames = [ns 9 s fb] ∧ y.start = s ∧ y.handed = s + 2 ∧ y.marks = #[some (s + 1), some (s + 2)] ∧ y.lm = 1 ∧ y.li = 1 :=
          ⟨_, g5, rfl, rfl, rfl, rfl, rfl, rfl, rfl⟩
        have e := ends_true (C := cEsc) (t := t) (ls := t.length) _ y y2 y1 (by
          intro f hf
          rw [List.mem_singleton] at hf
          subst hf
          exact .inr (.inl rfl))
        rw [y3, y4, y5, y6, y7] at e
        exact gy.ends e (by simp only [List.length_cons, List.length_nil]; omega)
      · have he : esc (t.drop s) = (esc (t.drop (s + 1))).map (· + 1) := by
          rw [hdr]
          generalize hrest : t.drop (s + 1) = rest
          cases rest with
          | nil => simp [esc]
          | cons d' r' =>
            have : d' = 10 := by
              by_cases h : d' = 10
              · exact h
              · exact absurd ⟨d', by have := List.getElem?_drop (xs := t) (i := s + 1) (j := 0); rw [hrest] at this; simpa using this.symm, h⟩ hany
            subst this
            rw [esc.eq_def]; rfl
        have g3 := g2.trans (go_any_fail rfl (by show 13 < _; decide) (by show cEsc.getD 13 0 = _; decide) (fun c hc => by
          by_cases h : c = 10
          · exact h
          · exact absurd ⟨c, hc, h⟩ hany))
        have g4 := g3.trans (go_ns_next (pc := 9) (s := s) (first := fb) rfl rfl (by omega) (by decide))
        have hrec := ih (s + 1) false (some (s + 1)) b (by omega) (by omega)
        have ebeg : Go cEsc t t.length 4 (begin9 s fb #[a, b]) (begin9 (s + 1) false #[some (s + 1), b]) := g4
        rw [he]
        refine ⟨fun i h => ?_, fun h => ?_⟩
        · cases hz : esc (t.drop (s + 1)) with
          | none => rw [hz] at h; cases h
          | some v =>
            rw [hz] at h
            have hi : v + 1 = i := Option.some.inj h
            have := hrec.1 v hz
            rw [show s + 1 + v = s + i by omega] at this
            exact ebeg.ends this (by omega)
        · have hz : esc (t.drop (s + 1)) = none := by
            cases hz : esc (t.drop (s + 1)) with
            | none => rfl
            | some v => rw [hz] at h; cases h
          exact ebeg.ends (hrec.2 hz) (by omega)
    · have he : esc (t.drop s) = (esc (t.drop (s + 1))).map (· + 1) := by
        rw [hdr, esc.eq_def]
        have : (t[s] == 92) = false := by simpa using h92
        simp only [this]; rfl
      have g1 : Go cEsc t t.length 1 (begin9 s fb #[a, b]) _ := go_lit_fail (c := 92) rfl (by walk_at "cd") (by walk_at "cd") (by walk_at "cd") (by rw [show (begin9 s fb #[a, b]).pos = s from rfl, hg]; simpa using h92)
      have g4 := g1.trans (go_ns_next (pc := 9) (s := s) (first := fb) rfl rfl (by omega) (by decide))
      have hrec := ih (s + 1) false a b (by omega) (by omega)
      have ebeg : Go cEsc t t.length 2 (begin9 s fb #[a, b]) (begin9 (s + 1) false #[a, b]) := g4
      rw [he]
      refine ⟨fun i h => ?_, fun h => ?_⟩
      · cases hz : esc (t.drop (s + 1)) with
        | none => rw [hz] at h; cases h
        | some v =>
          rw [hz] at h
          have hi : v + 1 = i := Option.some.inj h
          have := hrec.1 v hz
          rw [show s + 1 + v = s + i by omega] at this
          exact ebeg.ends this (by omega)
      · have hz : esc (t.drop (s + 1)) = none := by
          cases hz : esc (t.drop (s + 1)) with
          | none => rfl
          | some v => rw [hz] at h; cases h
        exact ebeg.ends (hrec.2 hz) (by omega)
theorem twin_match (ht : Al t) (hlen : t.length ≤ 1000) {e : Nat} (he : (t.takeWhile isJ).length = e) : Ends cTwin t ls 20 (begin_ 0 0 false) (Matched 0 e #[] (-1) (-1)) := by
  have g1 : Go cTwin t ls 1 (begin_ 0 0 false) _ := go_at rfl (by decide) (by decide) (by decide) rfl
  have g2 := g1.trans (go_rep (sk := 13) (mn := 0) (f := isJ) e rfl (by walk_at "cd") (by walk_at "cd") (by walk_at "cd") (by walk_at "cd") (by walk_at "cd") acc_twin_j ht (by omega) (Nat.zero_le _) he (Nat.zero_le _) (by simp [begin_, wt, gb, ns]))
  have g3 := g2.trans (go_success rfl (by walk_at "cd") (by walk_at "cd") (.inl rfl))
  obtain ⟨y, gy, y1, ⟨fa, y2, ea⟩, y3, y4, y5, y6, y7⟩ : ∃ y : Cf, Go cTwin t ls 3 (begin_ 0 0 false) y ∧ y.ans = some true ∧ (∃ fa, y.frames = [fa, ns 5 0 true] ∧ Easy fa) ∧
      y.start = 0 ∧ y.handed = e ∧ y.marks = #[] ∧ y.lm = -1 ∧ y.li = -1 :=
    ⟨_, g3, rfl, ⟨_, rfl, .inl rfl⟩, rfl, Nat.zero_add e, rfl, rfl, rfl⟩
  have ee := ends_true (C := cTwin) (t := t) (ls := ls) _ y y2 y1 (by
    intro f hf
    simp only [List.mem_cons, List.not_mem_nil, or_false] at hf
    rcases hf with rfl | rfl
    · exact ea
    · exact .inr (.inl rfl))
  rw [y3, y4, y5, y6, y7] at ee
  exact gy.ends ee (by simp)
theorem twin_over (hls : ls ≤ 1000) {e : Nat} (he : e ≠ 0) (hel : e ≤ ls) : Ends cTwin t ls 3000 (begin_ e 0 false) Failed := by
  have g1 : Go cTwin t ls 1 (begin_ e 0 false) _ := go_at_fail rfl (by walk_at "cd") (by walk_at "cd") (by walk_at "cd") he
  by_cases h : e < ls
  · have g2 := g1.trans (go_ns_next (pc := 5) (s := e) (first := true) rfl rfl h (by decide))
    exact g2.ends (at_loop (by decide) (by decide) (by decide) (by decide) (ls - (e + 1)) (e + 1) _ rfl (by omega) rfl rfl rfl rfl) (by omega)
  · exact g1.ends (ends_ns_fail (pc := 5) (s := e) (first := true) rfl rfl h) (by omega)
/-- a search, from its start -/
def SEnds (C : Array Nat) (t : List Nat) (g pos : Nat) (must : Bool) (P : M → Prop) : Prop :=
  ∃ k, k ≤ 2 ^ 60 ∧ (M.runFor k (forSearch C t.toArray g pos t.length must)).outcome.isSome = true ∧ P (M.runFor k (forSearch C t.toArray g pos t.length must))
theorem sends_of {C : Array Nat} {g pos n : Nat} {must : Bool} {P : M → Prop} {x : Cf} {sn : Seen} (hs : forSearch C t.toArray g pos t.length must = toM C t ls x sn) (h : Ends C t ls n x P) (hn : n ≤ 2 ^ 60) : SEnds C t g pos must P := by
  obtain ⟨k, hk, r1, r2⟩ := h sn
  exact ⟨k, by omega, by rw [hs]; exact r1, by rw [hs]; exact r2⟩
theorem search_short {C : Array Nat} {g pos : Nat} {must : Bool} (h : t.length - pos < (header C).1) : SEnds C t g pos must Failed := by
  have hc : (decide (pos > t.length) || decide (t.length - pos < (header C).1)) = true := by simp [h]
  refine ⟨1, by decide, ?_, ?_⟩
  · unfold forSearch
    simp only
    rw [if_pos hc]; rfl
  · unfold forSearch
    simp only
    rw [if_pos hc]; rfl
end Mine
end

-- Sre9
section
open PySem PySem.Sre
set_option Elab.async false
set_option linter.all false
namespace Mine
variable {t : List Nat}
def pTok (t : List Nat) : Option (List Nat × List Nat) :=
  if (t.dropWhile isW).takeWhile isT = [] then none else some ((t.dropWhile isW).takeWhile isT, (t.dropWhile isW).dropWhile isT)
def pQuo2 : List Nat → Option (List Nat × List Nat)
  | [] => none
  | c :: u => if c = 34 then (qc u).map fun e => (u.take e, u.drop (e + 1)) else none
def pQuo (t : List Nat) : Option (List Nat × List Nat) :=
  match t.dropWhile isW with
  | [] => none
  | c :: r => if c = 61 then pQuo2 (r.dropWhile isW) else none
def pVal (t : List Nat) : Option (List Nat × List Nat) :=
  match t.dropWhile isW with
  | [] => none
  | c :: r => if c = 61 then some ((r.dropWhile isW).takeWhile isV, (r.dropWhile isW).dropWhile isV) else none
theorem dropWhile_drop (f : Nat → Bool) : ∀ t : List Nat, t.dropWhile f = t.drop (t.takeWhile f).length
  | [] => rfl
  | c :: t => by
    rw [List.dropWhile_cons, List.takeWhile_cons]
    cases f c with
    | true => simp only [if_true, List.length_cons, List.drop_succ_cons]; exact dropWhile_drop f t
    | false => rfl
theorem takeWhile_take (f : Nat → Bool) (t : List Nat) : t.takeWhile f = t.take (t.takeWhile f).length := by
  have := List.takeWhile_prefix (l := t) f
  exact (List.prefix_iff_eq_take.mp this)
/-- a search that finds: the group, the rest -/
def Finds (C : Array Nat) (t v rest : List Nat) : Prop :=
  ∃ b e E, SEnds C t 1 0 false (Matched 0 E #[some b, some e] 1 1) ∧ b ≤ e ∧ e ≤ E ∧ E ≤ t.length ∧ (t.drop b).take (e - b) = v ∧ t.drop E = rest
def Misses (C : Array Nat) (t : List Nat) : Prop := SEnds C t 1 0 false Failed
theorem fs_tok (h : 1 ≤ t.length) : ∃ sn, forSearch cTok t.toArray 1 0 t.length false = toM cTok t t.length (begin_ 0 1 false) sn := by
  unfold forSearch
  simp only
  rw [if_neg (by show ¬ ((decide (0 > t.length) || decide (t.length - 0 < 1)) = true); intro h'; simp only [Bool.or_eq_true, decide_eq_true_eq] at h'; omega)]
  exact ⟨_, rfl⟩
theorem fs_val (h : 1 ≤ t.length) : ∃ sn, forSearch cVal t.toArray 1 0 t.length false = toM cVal t t.length (begin_ 0 1 false) sn := by
  unfold forSearch
  simp only
  rw [if_neg (by show ¬ ((decide (0 > t.length) || decide (t.length - 0 < 1)) = true); intro h'; simp only [Bool.or_eq_true, decide_eq_true_eq] at h'; omega)]
  exact ⟨_, rfl⟩
theorem fs_quo (h : 3 ≤ t.length) : ∃ sn, forSearch cQuo t.toArray 1 0 t.length false = toM cQuo t (max 0 (t.length - 2)) (begin_ 0 1 false) sn := by
  unfold forSearch
  simp only
  rw [if_neg (by show ¬ ((decide (0 > t.length) || decide (t.length - 0 < 3)) = true); intro h'; simp only [Bool.or_eq_true, decide_eq_true_eq] at h'; omega)]
  exact ⟨_, rfl⟩
theorem fs_esc {s : Nat} (h : 2 ≤ t.length - s) : ∃ sn, forSearch cEsc t.toArray 1 s t.length false = toM cEsc t t.length (begin9 s true #[none, none]) sn := by
  unfold forSearch
  simp only
  rw [if_neg (by show ¬ ((decide (s > t.length) || decide (t.length - s < 2)) = true); intro h'; simp only [Bool.or_eq_true, decide_eq_true_eq] at h'; omega)]
  exact ⟨_, rfl⟩
theorem fs_twin {s : Nat} (h : s ≤ t.length) : ∃ sn, forSearch cTwin t.toArray 0 s t.length false = toM cTwin t t.length (begin_ s 0 false) sn := by
  unfold forSearch
  simp only
  rw [if_neg (by show ¬ ((decide (s > t.length) || decide (t.length - s < 0)) = true); intro h'; simp only [Bool.or_eq_true, decide_eq_true_eq] at h'; omega)]
  exact ⟨_, rfl⟩
theorem tok_some (ht : Al t) (hlen : t.length ≤ 16) {v r : List Nat} (h : pTok t = some (v, r)) : Finds cTok t v r ∧ 1 ≤ v.length := by
  unfold pTok at h
  split at h
  · cases h
  · rename_i hne
    simp only [Option.some.injEq, Prod.mk.injEq] at h
    obtain ⟨rfl, rfl⟩ := h
    rw [dropWhile_drop isW t] at hne ⊢
    obtain ⟨n, hn⟩ : ∃ n, (t.takeWhile isW).length = n := ⟨_, rfl⟩
    rw [hn] at hne ⊢
    obtain ⟨k, hk⟩ : ∃ k, ((t.drop n).takeWhile isT).length = k := ⟨_, rfl⟩
    have h1 : 1 ≤ k := by
      rcases Nat.eq_zero_or_pos k with h | h
      · rw [h] at hk; exact absurd (List.length_eq_zero_iff.mp hk) hne
      · exact h
    have hnk : n + k ≤ t.length := by
      have := takeWhile_le isT (t.drop n)
      rw [hk, List.length_drop] at this; omega
    obtain ⟨sn, e⟩ := fs_tok (t := t) (by omega)
    refine ⟨⟨n, n + k, n + k, sends_of e (tok_match ht (by omega) hn hk h1) (by decide), by omega, Nat.le_refl _, hnk, ?_, ?_⟩, by rw [hk]; exact h1⟩
    · rw [takeWhile_take isT (t.drop n), hk]; congr 1; omega
    · rw [dropWhile_drop isT, hk, List.drop_drop]
theorem tok_none (ht : Al t) (hlen : t.length ≤ 16) (h : pTok t = none) : Misses cTok t := by
  rcases Nat.eq_zero_or_pos t.length with h0 | h0
  · exact search_short (by rw [h0]; decide)
  · unfold pTok at h
    split at h
    · rename_i he
      rw [dropWhile_drop isW t] at he
      obtain ⟨n, hn⟩ : ∃ n, (t.takeWhile isW).length = n := ⟨_, rfl⟩
      rw [hn] at he
      obtain ⟨sn, e⟩ := fs_tok (t := t) h0
      exact sends_of e (tok_fail ht (by omega) hn (by rw [he]; rfl)) (by omega)
    · cases h
theorem head_drop {n c : Nat} {r : List Nat} (h : t.drop n = c :: r) : t[n]? = some c ∧ r = t.drop (n + 1) ∧ n < t.length := by
  have h1 : t[n]? = some c := by
    have := List.getElem?_drop (xs := t) (i := n) (j := 0)
    rw [h] at this; simpa using this.symm
  refine ⟨h1, ?_, lt_of_get h1⟩
  have := congrArg List.tail h
  rw [List.tail_drop] at this; exact this.symm
theorem no_head {n c : Nat} (h : ∀ r, t.drop n ≠ c :: r) : t[n]? ≠ some c := fun h' => by
  have l := lt_of_get h'
  rw [List.getElem?_eq_getElem l] at h'
  exact h _ (by rw [List.drop_eq_getElem_cons l, Option.some.inj h'])
theorem val_some (ht : Al t) (hlen : t.length ≤ 16) {v r : List Nat} (h : pVal t = some (v, r)) : Finds cVal t v r := by
  unfold pVal at h
  rw [dropWhile_drop isW t] at h
  obtain ⟨n, hn⟩ : ∃ n, (t.takeWhile isW).length = n := ⟨_, rfl⟩
  rw [hn] at h
  cases hd : t.drop n with
  | nil => rw [hd] at h; cases h
  | cons c u =>
    rw [hd] at h
    simp only at h
    split at h
    · rename_i hc
      subst hc
      obtain ⟨g1, g2, g3⟩ := head_drop hd
      subst g2
      simp only [Option.some.injEq, Prod.mk.injEq] at h
      obtain ⟨rfl, rfl⟩ := h
      rw [dropWhile_drop isW (t.drop (n + 1))]
      obtain ⟨n2, hn2⟩ : ∃ n2, ((t.drop (n + 1)).takeWhile isW).length = n2 := ⟨_, rfl⟩
      rw [hn2, List.drop_drop]
      obtain ⟨k, hk⟩ : ∃ k, ((t.drop (n + 1 + n2)).takeWhile isV).length = k := ⟨_, rfl⟩
      have hl2 : n + 1 + n2 + k ≤ t.length := by
        have a1 := takeWhile_le isW (t.drop (n + 1))
        have a2 := takeWhile_le isV (t.drop (n + 1 + n2))
        rw [hn2, List.length_drop] at a1
        rw [hk, List.length_drop] at a2
        omega
      obtain ⟨sn, e⟩ := fs_val (t := t) (by omega)
      refine ⟨n + 1 + n2, n + 1 + n2 + k, n + 1 + n2 + k, sends_of e (val_match ht (by omega) hn g1 hn2 hk) (by decide), by omega, Nat.le_refl _, hl2, ?_, ?_⟩
      · rw [takeWhile_take isV (t.drop (n + 1 + n2)), hk]; congr 1; omega
      · rw [dropWhile_drop isV, hk, List.drop_drop]
    · cases h
theorem val_none (ht : Al t) (hlen : t.length ≤ 16) (h : pVal t = none) : Misses cVal t := by
  rcases Nat.eq_zero_or_pos t.length with h0 | h0
  · exact search_short (by rw [h0]; decide)
  · unfold pVal at h
    rw [dropWhile_drop isW t] at h
    obtain ⟨n, hn⟩ : ∃ n, (t.takeWhile isW).length = n := ⟨_, rfl⟩
    rw [hn] at h
    obtain ⟨sn, e⟩ := fs_val (t := t) h0
    refine sends_of e (pre_fail pre_val ht (by omega) (by omega) hn (no_head fun r hr => ?_)) (by decide)
    rw [hr] at h
    cases h
theorem qc_lt : ∀ (u : List Nat) (e : Nat), qc u = some e → e < u.length
  | [], e, h => by rw [qc.eq_def] at h; cases h
  | c :: r, e, h => by
    rw [qc.eq_def] at h
    simp only at h
    split at h
    · cases h; simp
    · split at h
      · cases r with
        | nil => cases h
        | cons d r' =>
          simp only at h
          split at h
          · cases h
          · cases hz : qc r' with
            | none => rw [hz] at h; cases h
            | some v =>
              rw [hz] at h
              have := qc_lt r' v hz
              have hv : v + 2 = e := Option.some.inj h
              simp only [List.length_cons]; omega
      · cases hz : qc r with
        | none => rw [hz] at h; cases h
        | some v =>
          rw [hz] at h
          have := qc_lt r v hz
          have hv : v + 1 = e := Option.some.inj h
          simp only [List.length_cons]; omega
theorem quo_some (ht : Al t) (hlen : t.length ≤ 16) {v r : List Nat} (h : pQuo t = some (v, r)) : Finds cQuo t v r := by
  unfold pQuo at h
  rw [dropWhile_drop isW t] at h
  obtain ⟨n, hn⟩ : ∃ n, (t.takeWhile isW).length = n := ⟨_, rfl⟩
  rw [hn] at h
  cases hd : t.drop n with
  | nil => rw [hd] at h; cases h
  | cons c u =>
    rw [hd] at h
    simp only at h
    split at h
    · rename_i hc
      subst hc
      obtain ⟨g1, g2, g3⟩ := head_drop hd
      subst g2
      rw [dropWhile_drop isW (t.drop (n + 1))] at h
      obtain ⟨n2, hn2⟩ : ∃ n2, ((t.drop (n + 1)).takeWhile isW).length = n2 := ⟨_, rfl⟩
      rw [hn2, List.drop_drop] at h
      cases hd2 : t.drop (n + 1 + n2) with
      | nil => rw [hd2] at h; cases h
      | cons c2 u2 =>
        rw [hd2] at h
        unfold pQuo2 at h
        simp only at h
        split at h
        · rename_i hc2
          subst hc2
          obtain ⟨k1, k2, k3⟩ := head_drop hd2
          subst k2
          cases hq : qc (t.drop (n + 1 + n2 + 1)) with
          | none => rw [hq] at h; cases h
          | some e =>
            rw [hq] at h
            simp only [Option.map_some, Option.some.injEq, Prod.mk.injEq] at h
            obtain ⟨rfl, rfl⟩ := h
            have hel := qc_lt _ _ hq
            rw [List.length_drop] at hel
            obtain ⟨sn, es⟩ := fs_quo (t := t) (by omega)
            refine ⟨n + 1 + n2 + 1, n + 1 + n2 + 1 + e, n + 1 + n2 + 1 + e + 1, sends_of es (quo_match ht hlen hn g1 hn2 rfl k1 hq) (by decide), by omega, by omega, by omega, ?_, ?_⟩
            · congr 1; omega
            · rw [List.drop_drop]; congr 1
        · cases h
    · cases h
theorem quo_none (ht : Al t) (hlen : t.length ≤ 16) (h : pQuo t = none) : Misses cQuo t := by
  rcases Nat.lt_or_ge t.length 3 with h0 | h0
  · exact search_short (by show t.length - 0 < 3; omega)
  · unfold pQuo at h
    rw [dropWhile_drop isW t] at h
    obtain ⟨n, hn⟩ : ∃ n, (t.takeWhile isW).length = n := ⟨_, rfl⟩
    rw [hn] at h
    obtain ⟨sn, e⟩ := fs_quo (t := t) h0
    by_cases hq : t[n]? = some 61
    · have l := lt_of_get hq
      rw [List.getElem?_eq_getElem l] at hq
      rw [List.drop_eq_getElem_cons l, Option.some.inj hq] at h
      simp only [if_true] at h
      rw [dropWhile_drop isW (t.drop (n + 1))] at h
      obtain ⟨n2, hn2⟩ : ∃ n2, ((t.drop (n + 1)).takeWhile isW).length = n2 := ⟨_, rfl⟩
      rw [hn2, List.drop_drop] at h
      refine sends_of e (quo_fail ht hlen (by omega) hn (by rw [List.getElem?_eq_getElem l]; exact hq) hn2 rfl fun h34 => ?_) (by decide)
      have l2 := lt_of_get h34
      rw [List.getElem?_eq_getElem l2] at h34
      rw [List.drop_eq_getElem_cons l2, Option.some.inj h34] at h
      unfold pQuo2 at h
      simp only [if_true] at h
      cases hz : qc (t.drop (n + 1 + n2 + 1)) with
      | none => rfl
      | some v => rw [hz] at h; cases h
    · exact sends_of e (pre_fail pre_quo ht (by omega) (by omega) hn hq) (by decide)
theorem esc_lt : ∀ (u : List Nat) (e : Nat), esc u = some e → e + 1 < u.length
  | [], e, h => by rw [esc.eq_def] at h; cases h
  | [c], e, h => by simp [esc] at h
  | c :: d :: r, e, h => by
    rw [esc.eq_def] at h
    by_cases hc : (c == 92 && d != 10) = true
    · simp only [hc, if_true] at h
      have he : 0 = e := Option.some.inj h
      simp only [List.length_cons]; omega
    · simp only [hc, Bool.false_eq_true, if_false] at h
      cases hz : esc (d :: r) with
      | none => rw [hz] at h; cases h
      | some v =>
        rw [hz] at h
        have := esc_lt (d :: r) v hz
        have hv : v + 1 = e := Option.some.inj h
        simp only [List.length_cons] at this ⊢; omega
theorem esc_some (hlen : t.length ≤ 1000) {s i : Nat} (hs : s ≤ t.length) (h : esc (t.drop s) = some i) : SEnds cEsc t 1 s false (Matched (s + i) (s + i + 2) #[some (s + i + 1), some (s + i + 2)] 1 1) ∧ s + i + 2 ≤ t.length := by
  have hl := esc_lt _ _ h
  rw [List.length_drop] at hl
  obtain ⟨sn, e⟩ := fs_esc (t := t) (s := s) (by omega)
  exact ⟨sends_of e ((esc_search rfl (t.length - s) s true none none rfl hs).1 i h) (by omega), by omega⟩
theorem esc_none (hlen : t.length ≤ 1000) {s : Nat} (hs : s ≤ t.length) (h : esc (t.drop s) = none) : SEnds cEsc t 1 s false Failed := by
  rcases Nat.lt_or_ge (t.length - s) 2 with h0 | h0
  · exact search_short (by show t.length - s < 2; omega)
  · obtain ⟨sn, e⟩ := fs_esc (t := t) (s := s) h0
    exact sends_of e ((esc_search rfl (t.length - s) s true none none rfl hs).2 h) (by omega)
theorem twin_first (ht : Al t) (hlen : t.length ≤ 1000) {e : Nat} (he : (t.takeWhile isJ).length = e) : SEnds cTwin t 0 0 false (Matched 0 e #[] (-1) (-1)) := by
  obtain ⟨sn, x⟩ := fs_twin (t := t) (s := 0) (Nat.zero_le _)
  exact sends_of x (twin_match ht hlen he) (by decide)
theorem twin_rest (hlen : t.length ≤ 1000) {e : Nat} (he : e ≠ 0) (hel : e ≤ t.length) : SEnds cTwin t 0 e false Failed := by
  obtain ⟨sn, x⟩ := fs_twin (t := t) (s := e) hel
  exact sends_of x (twin_over hlen he hel) (by decide)
end Mine
end

-- Pure1
section
set_option Elab.async false
set_option linter.all false
namespace Mine
abbrev Pr := List Nat × Option (List Nat)
abbrev Ws := List Pr
structure Kp where
  bef : List Ws
  ahd : Ws
  key : List Nat
  ins : List Nat
  tk : Bool
structure Wk where
  lists : List Ws := []
  words : Ws := []
  st : Nat := 0
  name : List Nat := []
  value : List Nat := []
  kept : Option Kp := none
def cls (s : Wk) (c : Nat) : Bool := match s.kept with | none => false | some k => c == 34 && !k.tk
def wk1 (s : Wk) (c : Nat) : Wk := match s.kept with
  | none => s
  | some k =>
    if c == 34 && !k.tk then { s with lists := k.bef, words := k.ahd ++ [(k.key, some k.ins)], st := 0, kept := none }
    else if k.tk && c == 10 then { s with kept := none }
    else if c == 92 && !k.tk then { s with kept := some { k with tk := true } }
    else { s with kept := some { k with ins := k.ins ++ [c], tk := false } }
def pend (s : Wk) : Ws := if s.st > 0 then s.words ++ [(s.name, if s.st < 3 then none else some s.value)] else s.words
def wk2 (s : Wk) (c : Nat) (cl : Bool) : Wk :=
  if s.st == 3 && c == 34 then { s with kept := some ⟨s.lists, s.words, s.name, [], false⟩, value := [c], st := 4 }
  else if (s.st == 3 || s.st == 4) && !isW c && !(c == 59 || c == 44) then { s with value := s.value ++ [c], st := 4 }
  else if s.st == 1 && !isW c && !(c == 61 || c == 59 || c == 44) then { s with name := s.name ++ [c] }
  else if (s.st == 1 || s.st == 2) && c == 61 then { s with value := [], st := 3 }
  else if isW c && decide (s.st < 4) then { s with st := if s.st == 1 then 2 else s.st }
  else if !cl then
    if c == 44 then { s with lists := s.lists ++ [pend s], words := [], st := 0 }
    else if !isW c && !(c == 61 || c == 59) then { s with words := pend s, name := [c], st := 1 }
    else { s with words := pend s, st := 0 }
  else s
def wstep (s : Wk) (c : Nat) : Wk := wk2 (wk1 s c) c (cls s c)
def walk (s : Wk) (t : List Nat) : Wk := t.foldl wstep s
def ne (w : Ws) : Bool := !w.isEmpty
def out (s : Wk) : List Ws := (s.lists ++ [pend s]).filter ne
theorem walk_cons (s : Wk) (c : Nat) (t : List Nat) : walk s (c :: t) = walk (wstep s c) t := rfl
theorem walk_append (s : Wk) (a b : List Nat) : walk s (a ++ b) = walk (walk s a) b := List.foldl_append ..
theorem ws_none {s : Wk} {c : Nat} (h : s.kept = none) : wstep s c = wk2 s c false := by
  unfold wstep wk1 cls; rw [h]
/-- does a mark that no backslash takes come, before a backslash takes a line feed? -/
def ful : Bool → List Nat → Bool
  | _, [] => false
  | tk, c :: r => if tk && c == 10 then false else if c == 34 && !tk then true else ful (c == 92 && !tk) r
def unesc : List Nat → List Nat
  | [] => []
  | c :: r => if c == 92 then (match r with | [] => [92] | d :: r' => if d == 10 then 92 :: 10 :: unesc r' else d :: unesc r') else c :: unesc r
theorem unesc_plain {c : Nat} {r : List Nat} (h : c ≠ 92) : unesc (c :: r) = c :: unesc r := by
  have : (c == 92) = false := by simpa using h
  rw [unesc.eq_def]; simp only [this]; rfl
theorem ful_qc : ∀ t : List Nat, ful false t = (qc t).isSome
  | [] => by rw [qc.eq_def]; rfl
  | [c] => by
    by_cases h : c = 34
    · subst h; rfl
    · have h1 : (c == 34) = false := by simpa using h
      by_cases h9 : c = 92
      · subst h9; rfl
      · have h2 : (c == 92) = false := by simpa using h9
        simp [ful, qc, h1, h2, h, h9]
  | c :: d :: r => by
    rw [qc.eq_def]
    by_cases h : c = 34
    · subst h; rfl
    · have h1 : (c == 34) = false := by simpa using h
      by_cases h9 : c = 92
      · subst h9
        have : ful false (92 :: d :: r) = ful true (d :: r) := by simp [ful]
        rw [this]
        by_cases hd : d = 10
        · subst hd; simp [ful]
        · have h3 : (d == 10) = false := by simpa using hd
          have e : ful true (d :: r) = ful false r := by simp [ful, h3]
          rw [e, ful_qc r]
          simp only [h3]
          cases qc r <;> rfl
      · have h2 : (c == 92) = false := by simpa using h9
        have : ful false (c :: d :: r) = ful false (d :: r) := by
          rw [ful]; simp only [h1, h2, Bool.false_and, Bool.false_eq_true, if_false]
        rw [this, ful_qc (d :: r)]
        simp only [h1, h2, Bool.false_eq_true, if_false]
        cases qc (d :: r) <;> rfl
/-- the same but for what is kept -/
theorem wk2_kept (s : Wk) (k : Option Kp) (c : Nat) (cl : Bool) (h : ¬ (s.st = 3 ∧ c = 34)) : wk2 { s with kept := k } c cl = { wk2 s c cl with kept := k } ∧ (wk2 s c cl).kept = s.kept := by
  have h' : (s.st == 3 && c == 34) = false := by
    rw [Bool.and_eq_false_iff]
    by_cases h3 : s.st = 3
    · right; simp only [beq_eq_false_iff_ne]; exact fun hc => h ⟨h3, hc⟩
    · left; simpa using h3
  unfold wk2
  simp only [h', Bool.false_eq_true, if_false, pend]
  refine ⟨?_, ?_⟩ <;> (repeat' split) <;> rfl
theorem wk2_92 (s : Wk) (cl : Bool) (hcl : cl = false) (h4 : s.st ≤ 4) : (wk2 s 92 cl).st ≠ 3 := by
  subst hcl
  obtain ⟨l, w, st, n, v, k⟩ := s
  simp only at h4
  have : st = 0 ∨ st = 1 ∨ st = 2 ∨ st = 3 ∨ st = 4 := by omega
  rcases this with rfl | rfl | rfl | rfl | rfl <;> simp [wk2, isW]
theorem wk2_st (s : Wk) (c : Nat) (cl : Bool) (h4 : s.st ≤ 4) : (wk2 s c cl).st ≤ 4 := by
  unfold wk2
  (repeat' split) <;> simp_all
theorem wk1_st (s : Wk) (c : Nat) (h4 : s.st ≤ 4) : (wk1 s c).st ≤ 4 := by
  unfold wk1
  (repeat' split) <;> simp_all
theorem wstep_st (s : Wk) (c : Nat) (h4 : s.st ≤ 4) : (wstep s c).st ≤ 4 := wk2_st _ _ _ (wk1_st _ _ h4)
/-- a hope that nothing fulfils changes nothing -/
theorem dead : ∀ (t : List Nat) (s : Wk) (k : Kp), s.st ≤ 4 → s.kept = some k → (k.tk = true → s.st ≠ 3) → ful k.tk t = false → out (walk s t) = out (walk { s with kept := none } t)
  | [], s, k, _, _, _, _ => rfl
  | c :: t, s, k, h4, hk, h3, hf => by
    rw [walk_cons, walk_cons]
    by_cases h10 : (k.tk && c == 10) = true
    · have e : wstep s c = wstep { s with kept := none } c := by
        have hc : cls s c = false := by
          unfold cls; rw [hk]; simp only [Bool.and_eq_true, beq_iff_eq] at h10; simp [h10.1]
        have h1 : wk1 s c = { s with kept := none } := by
          unfold wk1; rw [hk]
          simp only [Bool.and_eq_true, beq_iff_eq] at h10
          simp [h10.1, h10.2]
        rw [ws_none (s := { s with kept := none }) rfl]
        unfold wstep
        rw [h1, hc]
      rw [e]
    · have h10' : (k.tk && c == 10) = false := by simpa using h10
      rw [ful] at hf
      simp only [h10', Bool.false_eq_true, if_false] at hf
      by_cases h34 : (c == 34 && !k.tk) = true
      · rw [h34] at hf; simp at hf
      · have h34' : (c == 34 && !k.tk) = false := by simpa using h34
        simp only [h34', Bool.false_eq_true, if_false] at hf
        have hc : cls s c = false := by unfold cls; rw [hk]; exact h34'
        obtain ⟨k', hk1, hk2⟩ : ∃ k' : Kp, wk1 s c = { s with kept := some k' } ∧ k'.tk = (c == 92 && !k.tk) := by
          unfold wk1; rw [hk]
          simp only [h34', h10', Bool.false_eq_true, if_false]
          by_cases h92 : (c == 92 && !k.tk) = true
          · rw [if_pos h92]; exact ⟨_, rfl, h92.symm⟩
          · rw [if_neg h92]; exact ⟨_, rfl, by have : (c == 92 && !k.tk) = false := by simpa using h92
                                               exact this.symm⟩
        have hno : ¬ (s.st = 3 ∧ c = 34) := by
          rintro ⟨a, b⟩
          subst b
          have : k.tk = true := by simpa using h34'
          exact h3 this a
        have e1 : wstep s c = { wk2 { s with kept := none } c false with kept := some k' } := by
          unfold wstep
          rw [hk1, hc]
          have := (wk2_kept { s with kept := none } (some k') c false hno).1
          exact this
        have e2 : wstep { s with kept := none } c = { wk2 { s with kept := none } c false with kept := none } := by
          rw [ws_none (s := { s with kept := none }) rfl]
          have := (wk2_kept { s with kept := none } none c false hno).1
          exact this
        rw [e1, e2]
        refine dead t _ k' (wk2_st _ _ _ h4) rfl (fun htk => ?_) (by rw [hk2]; exact hf)
        rw [hk2] at htk
        simp only [Bool.and_eq_true, beq_iff_eq] at htk
        rw [htk.1]
        exact wk2_92 _ _ rfl h4
/-- a hope that is fulfilled -/
theorem fulfil : ∀ (t : List Nat) (e : Nat) (s : Wk) (k : Kp), s.st ≤ 4 → s.kept = some k → k.tk = false → qc t = some e →
    ∃ s', s'.st = 0 ∧ s'.lists = k.bef ∧ s'.words = k.ahd ++ [(k.key, some (k.ins ++ unesc (t.take e)))] ∧ s'.kept = none ∧ walk s t = walk s' (t.drop (e + 1))
  | [], e, s, k, _, _, _, h => by rw [qc.eq_def] at h; cases h
  | c :: t, e, s, k, h4, hk, htk, h => by
    by_cases h34 : c = 34
    · subst h34
      have he : 0 = e := by rw [qc.eq_def] at h; exact Option.some.inj h
      subst he
      refine ⟨{ s with lists := k.bef, words := k.ahd ++ [(k.key, some k.ins)], st := 0, kept := none }, rfl, rfl, by simp [unesc], rfl, ?_⟩
      rw [walk_cons]
      have : wstep s 34 = { s with lists := k.bef, words := k.ahd ++ [(k.key, some k.ins)], st := 0, kept := none } := by
        unfold wstep wk1 cls
        rw [hk]
        simp [htk, wk2, isW]
      rw [this]; rfl
    · have hb34 : (c == 34) = false := by simpa using h34
      by_cases h92 : c = 92
      · subst h92
        cases t with
        | nil => rw [qc.eq_def] at h; cases h
        | cons d r =>
          by_cases hd : d = 10
          · subst hd; rw [qc.eq_def] at h; cases h
          · have hbd : (d == 10) = false := by simpa using hd
            rw [qc.eq_def] at h
            have h : (qc r).map (· + 2) = some e := by simpa [hbd] using h
            cases hz : qc r with
            | none => rw [hz] at h; cases h
            | some v =>
              rw [hz] at h
              have hv : v + 2 = e := Option.some.inj h
              subst hv
              have e1 : ∃ s1 : Wk, wstep s 92 = { s1 with kept := some { k with tk := true } } ∧ s1.st ≤ 4 ∧ s1.st ≠ 3 := by
                refine ⟨wk2 { s with kept := none } 92 false, ?_, wk2_st _ _ _ h4, wk2_92 _ _ rfl h4⟩
                have h1 : wk1 s 92 = { s with kept := some { k with tk := true } } := by
                  unfold wk1; rw [hk]; simp [htk]
                have hc : cls s 92 = false := by unfold cls; rw [hk]; rfl
                unfold wstep
                rw [h1, hc]
                exact (wk2_kept { s with kept := none } (some { k with tk := true }) 92 false (by simp)).1
              obtain ⟨s1, q1, q2, q3⟩ := e1
              have e2 : ∃ s2 : Wk, wstep { s1 with kept := some { k with tk := true } } d = { s2 with kept := some { k with ins := k.ins ++ [d], tk := false } } ∧ s2.st ≤ 4 := by
                refine ⟨wk2 { s1 with kept := none } d false, ?_, wk2_st _ _ _ q2⟩
                have h1 : wk1 { s1 with kept := some { k with tk := true } } d = { s1 with kept := some { k with ins := k.ins ++ [d], tk := false } } := by
                  unfold wk1; simp [hbd]
                have hc : cls { s1 with kept := some { k with tk := true } } d = false := by unfold cls; simp
                unfold wstep
                rw [h1, hc]
                exact (wk2_kept { s1 with kept := none } (some { k with ins := k.ins ++ [d], tk := false }) d false (fun x => q3 x.1)).1
              obtain ⟨s2, q4, q5⟩ := e2
              obtain ⟨s', r1, r2, r3, r4, r5⟩ := fulfil r v { s2 with kept := some { k with ins := k.ins ++ [d], tk := false } } { k with ins := k.ins ++ [d], tk := false } q5 rfl rfl hz
              refine ⟨s', r1, r2, ?_, r4, ?_⟩
              · rw [r3]
                simp [unesc, hbd]
              · rw [walk_cons, q1, walk_cons, q4, r5]; rfl
      · have hb92 : (c == 92) = false := by simpa using h92
        rw [qc.eq_def] at h
        have h : (qc t).map (· + 1) = some e := by simpa [hb34, hb92] using h
        cases hz : qc t with
        | none => rw [hz] at h; cases h
        | some v =>
          rw [hz] at h
          have hv : v + 1 = e := Option.some.inj h
          subst hv
          have e1 : ∃ s1 : Wk, wstep s c = { s1 with kept := some { k with ins := k.ins ++ [c] } } ∧ s1.st ≤ 4 := by
            refine ⟨wk2 { s with kept := none } c false, ?_, wk2_st _ _ _ h4⟩
            have h1 : wk1 s c = { s with kept := some { k with ins := k.ins ++ [c] } } := by
              unfold wk1; rw [hk]; simp [htk, hb34, hb92]
            have hc : cls s c = false := by unfold cls; rw [hk]; simp [hb34]
            unfold wstep
            rw [h1, hc]
            exact (wk2_kept { s with kept := none } (some { k with ins := k.ins ++ [c] }) c false (fun x => h34 x.2)).1
          obtain ⟨s1, q1, q2⟩ := e1
          obtain ⟨s', r1, r2, r3, r4, r5⟩ := fulfil t v { s1 with kept := some { k with ins := k.ins ++ [c] } } { k with ins := k.ins ++ [c] } q2 rfl htk hz
          refine ⟨s', r1, r2, ?_, r4, ?_⟩
          · rw [r3, List.take_succ_cons, unesc_plain h92]
            simp
          · rw [walk_cons, q1, r5]; rfl
end Mine
end

-- Pure2
section
set_option Elab.async false
set_option linter.all false
namespace Mine
def flush (ps : Ws) (res : List Ws) : List Ws := if ps = [] then res else res ++ [ps]
def ploop : Nat → List Nat → Ws → List Ws → List Ws
  | 0, _, ps, res => flush ps res
  | n + 1, t, ps, res =>
    if t = [] then flush ps res else
    match pTok t with
    | some (nm, r) =>
      match pQuo r with
      | some (v, r2) => ploop n r2 (ps ++ [(nm, some (unesc v))]) res
      | none =>
        match pVal r with
        | some (v, r2) => ploop n r2 (ps ++ [(nm, some v)]) res
        | none => ploop n r (ps ++ [(nm, none)]) res
    | none =>
      if (t.dropWhile isW).head? = some 44 then ploop n (t.dropWhile isW).tail [] (flush ps res)
      else ploop n (t.dropWhile isJ) ps res
def shw1 (t : List Nat) : List Ws := ploop (t.length + 1) t [] []
theorem flush_eq (ps : Ws) (L : List Ws) : flush ps (L.filter ne) = (L ++ [ps]).filter ne := by
  unfold flush ne
  cases ps <;> simp
theorem isW_cases {c : Nat} (h : isW c = true) : c = 32 ∨ c = 10 := by simpa [isW] using h
/-- blanks in the state between words, behind a key, behind = -/
theorem walk_ws0 : ∀ (t : List Nat) (s : Wk), s.st = 0 → s.kept = none → walk s t = walk s (t.dropWhile isW)
  | [], s, _, _ => rfl
  | c :: t, s, h0, hk => by
    rw [List.dropWhile_cons]
    cases hc : isW c with
    | false => rfl
    | true =>
      simp only [if_true]
      rw [walk_cons, ws_none hk]
      have : wk2 s c false = s := by
        obtain ⟨l, w, st, n, v, k⟩ := s
        simp only at h0
        subst h0
        rcases isW_cases hc with rfl | rfl <;> rfl
      rw [this]
      exact walk_ws0 t s h0 hk
theorem walk_ws3 : ∀ (t : List Nat) (s : Wk), s.st = 3 → s.kept = none → walk s t = walk s (t.dropWhile isW)
  | [], s, _, _ => rfl
  | c :: t, s, h0, hk => by
    rw [List.dropWhile_cons]
    cases hc : isW c with
    | false => rfl
    | true =>
      simp only [if_true]
      rw [walk_cons, ws_none hk]
      have : wk2 s c false = s := by
        obtain ⟨l, w, st, n, v, k⟩ := s
        simp only at h0
        subst h0
        rcases isW_cases hc with rfl | rfl <;> rfl
      rw [this]
      exact walk_ws3 t s h0 hk
theorem walk_ws2 : ∀ (t : List Nat) (s : Wk), s.st = 2 → s.kept = none → walk s t = walk s (t.dropWhile isW)
  | [], s, _, _ => rfl
  | c :: t, s, h0, hk => by
    rw [List.dropWhile_cons]
    cases hc : isW c with
    | false => rfl
    | true =>
      simp only [if_true]
      rw [walk_cons, ws_none hk]
      have : wk2 s c false = s := by
        obtain ⟨l, w, st, n, v, k⟩ := s
        simp only at h0
        subst h0
        rcases isW_cases hc with rfl | rfl <;> rfl
      rw [this]
      exact walk_ws2 t s h0 hk
theorem walk_ws1 (t : List Nat) (s : Wk) (h1 : s.st = 1) (hk : s.kept = none) : t.dropWhile isW = t ∨ walk s t = walk { s with st := 2 } (t.dropWhile isW) := by
  cases t with
  | nil => left; rfl
  | cons c t =>
    rw [List.dropWhile_cons]
    cases hc : isW c with
    | false => left; rfl
    | true =>
      right
      simp only [if_true]
      rw [walk_cons, ws_none hk]
      have : wk2 s c false = { s with st := 2 } := by
        obtain ⟨l, w, st, n, v, k⟩ := s
        simp only at h1
        subst h1
        rcases isW_cases hc with rfl | rfl <;> rfl
      rw [this]
      exact walk_ws2 t _ rfl hk
theorem isT_facts {c : Nat} (h : isT c = true) : isW c = false ∧ (c == 61) = false ∧ (c == 59) = false ∧ (c == 44) = false := by
  simp only [isT, Bool.not_eq_true', Bool.or_eq_false_iff] at h
  exact ⟨h.1.1.1, h.1.1.2, h.1.2, h.2⟩
theorem isV_facts {c : Nat} (h : isV c = true) : isW c = false ∧ (c == 59) = false ∧ (c == 44) = false := by
  simp only [isV, Bool.not_eq_true', Bool.or_eq_false_iff] at h
  exact ⟨h.1.1, h.1.2, h.2⟩
theorem walk_name : ∀ (t : List Nat) (s : Wk), s.st = 1 → s.kept = none → walk s t = walk { s with name := s.name ++ t.takeWhile isT } (t.dropWhile isT)
  | [], s, _, _ => by simp [walk]
  | c :: t, s, h1, hk => by
    rw [List.dropWhile_cons, List.takeWhile_cons]
    cases hc : isT c with
    | false => simp [walk]
    | true =>
      simp only [if_true]
      rw [walk_cons, ws_none hk]
      obtain ⟨f1, f2, f3, f4⟩ := isT_facts hc
      have : wk2 s c false = { s with name := s.name ++ [c] } := by
        unfold wk2
        simp [h1, f1, f2, f3, f4]
      rw [this, walk_name t { s with name := s.name ++ [c] } h1 hk]
      simp
theorem walk_value : ∀ (t : List Nat) (s : Wk), s.st = 4 → s.kept = none → walk s t = walk { s with value := s.value ++ t.takeWhile isV } (t.dropWhile isV)
  | [], s, _, _ => by simp [walk]
  | c :: t, s, h4, hk => by
    rw [List.dropWhile_cons, List.takeWhile_cons]
    cases hc : isV c with
    | false => simp [walk]
    | true =>
      simp only [if_true]
      rw [walk_cons, ws_none hk]
      obtain ⟨f1, f2, f3⟩ := isV_facts hc
      have : wk2 s c false = { s with value := s.value ++ [c] } := by
        unfold wk2
        simp [h4, f1, f2, f3]
      rw [this, walk_value t { s with value := s.value ++ [c] } h4 hk]
      simp
theorem walk_junk : ∀ (t : List Nat) (s : Wk), s.st = 0 → s.kept = none → walk s t = walk s (t.dropWhile isJ)
  | [], s, _, _ => rfl
  | c :: t, s, h0, hk => by
    rw [List.dropWhile_cons]
    cases hc : isJ c with
    | false => rfl
    | true =>
      simp only [if_true]
      rw [walk_cons, ws_none hk]
      have : wk2 s c false = s := by
        obtain ⟨l, w, st, n, v, k⟩ := s
        simp only at h0
        subst h0
        have : c = 32 ∨ c = 10 ∨ c = 61 ∨ c = 59 := by
          simp only [isJ, isW, Bool.or_eq_true, beq_iff_eq] at hc
          omega
        rcases this with rfl | rfl | rfl | rfl <;> rfl
      rw [this]
      exact walk_junk t s h0 hk
/-- where a word ends: the state between words, the word told -/
theorem out_end (s : Wk) (hst : s.st > 0) (hk : s.kept = none) : ∀ t : List Nat, (∀ c r, t = c :: r → wk2 s c false = wk2 { s with words := pend s, st := 0 } c false) →
    out (walk s t) = out (walk { s with words := pend s, st := 0 } t)
  | [], _ => by
    simp only [walk, List.foldl_nil, out]
    simp [pend, hst]
  | c :: r, h => by
    rw [walk_cons, walk_cons, ws_none hk, ws_none (s := { s with words := pend s, st := 0 }) hk, h c r rfl]
theorem wk2_end4 {s : Wk} {c : Nat} (h4 : s.st = 4) (hv : isV c = false) : wk2 s c false = wk2 { s with words := pend s, st := 0 } c false := by
  obtain ⟨l, w, st, n, v, k⟩ := s
  simp only at h4
  subst h4
  have : c = 32 ∨ c = 10 ∨ c = 59 ∨ c = 44 := by
    simp only [isV, isW, Bool.not_eq_false', Bool.or_eq_true, beq_iff_eq] at hv
    omega
  rcases this with rfl | rfl | rfl | rfl <;> rfl
theorem wk2_end3 {s : Wk} {c : Nat} (h3 : s.st = 3) (hw : isW c = false) (hv : isV c = false) : wk2 s c false = wk2 { s with words := pend s, st := 0 } c false := by
  obtain ⟨l, w, st, n, v, k⟩ := s
  simp only at h3
  subst h3
  have : c = 59 ∨ c = 44 := by
    simp only [isW, Bool.or_eq_false_iff, beq_eq_false_iff_ne] at hw
    simp only [isV, isW, Bool.not_eq_false', Bool.or_eq_true, beq_iff_eq] at hv
    omega
  rcases this with rfl | rfl <;> rfl
theorem wk2_end1 {s : Wk} {c : Nat} (h1 : s.st = 1) (hw : isW c = false) (h61 : c ≠ 61) (ht : isT c = false) : wk2 s c false = wk2 { s with words := pend s, st := 0 } c false := by
  obtain ⟨l, w, st, n, v, k⟩ := s
  simp only at h1
  subst h1
  have : c = 59 ∨ c = 44 := by
    simp only [isT, Bool.not_eq_false', Bool.or_eq_true, beq_iff_eq, hw, Bool.false_eq_true, false_or] at ht
    omega
  rcases this with rfl | rfl <;> rfl
theorem wk2_end2 {s : Wk} {c : Nat} (h2 : s.st = 2) (hw : isW c = false) (h61 : c ≠ 61) : wk2 s c false = wk2 { s with words := pend s, st := 0 } c false := by
  obtain ⟨l, w, st, n, v, k⟩ := s
  simp only at h2
  subst h2
  have e : (c == 61) = false := by simpa using h61
  unfold wk2 pend
  simp [hw, e]
theorem dropWhile_head {f : Nat → Bool} : ∀ {t : List Nat} {c : Nat} {r : List Nat}, t.dropWhile f = c :: r → f c = false
  | [], _, _, h => by cases h
  | a :: t, c, r, h => by
    rw [List.dropWhile_cons] at h
    cases hf : f a with
    | true => rw [hf] at h; exact dropWhile_head (by simpa using h)
    | false => rw [hf] at h; simp at h; exact h.1 ▸ hf
theorem dropWhile_len (f : Nat → Bool) (t : List Nat) : (t.dropWhile f).length ≤ t.length := by
  rw [dropWhile_drop, List.length_drop]; omega
/-- the loop of the text tells what the walk tells -/
theorem ploop_walk : ∀ (n : Nat) (t : List Nat) (s : Wk), t.length < n → s.st = 0 → s.kept = none → ploop n t s.words (s.lists.filter ne) = out (walk s t)
  | 0, t, s, h, _, _ => by omega
  | n + 1, t, s, h, h0, hk => by
    unfold ploop
    by_cases ht : t = []
    · subst ht
      rw [if_pos rfl, flush_eq]
      simp [walk, out, pend, h0]
    rw [if_neg ht]
    have htl : 0 < t.length := List.length_pos_iff.mpr ht
    have hw0 := walk_ws0 t s h0 hk
    have hul := dropWhile_len isW t
    generalize hu : t.dropWhile isW = u at hw0 hul
    cases u with
    | nil =>
      have e1 : pTok t = none := by unfold pTok; rw [hu]; rfl
      rw [e1]
      simp only [List.head?_nil, reduceCtorEq, if_false]
      have hj : (t.dropWhile isJ).length < n := by
        have : (t.dropWhile isJ).length < t.length := by
          cases t with
          | nil => exact absurd rfl ht
          | cons c r =>
            have hc : isW c = true := by
              rw [List.dropWhile_cons] at hu
              cases hc : isW c with
              | true => rfl
              | false => rw [hc] at hu; simp at hu
            rw [List.dropWhile_cons, show isJ c = true by simp [isJ, hc]]
            have := dropWhile_len isJ r
            simp only [if_true, List.length_cons]; omega
        omega
      rw [ploop_walk n _ s hj h0 hk, ← walk_junk t s h0 hk]
    | cons c u =>
      have hcw := dropWhile_head hu
      simp only [List.length_cons] at hul
      by_cases hT : isT c = true
      · -- a word
        obtain ⟨f1, f2, f3, f4⟩ := isT_facts hT
        have e1 : pTok t = some (c :: u.takeWhile isT, u.dropWhile isT) := by
          unfold pTok; rw [hu, List.takeWhile_cons, List.dropWhile_cons, hT]; rfl
        rw [e1, hw0, walk_cons, ws_none hk]
        have st1 : wk2 s c false = { s with name := [c], st := 1 } := by
          unfold wk2
          simp [h0, f1, f2, f3, f4, pend]
        rw [st1, walk_name u { s with name := [c], st := 1 } rfl hk]
        have hrl := dropWhile_len isT u
        generalize hr : u.dropWhile isT = r at hrl
        simp only [List.cons_append, List.nil_append]
        generalize hnm : c :: u.takeWhile isT = nm
        have hr1 : ∀ c' r', r = c' :: r' → isT c' = false := fun c' r' e => dropWhile_head (hr.trans e)
        -- to the = or whatever follows
        have key : ∀ s1 : Wk, s1.kept = none → s1.lists = s.lists → s1.words = s.words → s1.name = nm → (s1.st = 1 ∨ s1.st = 2) → (∀ c' r', r.dropWhile isW = c' :: r' → s1.st = 1 → isT c' = false) →
            (match pQuo r with
              | some (v, r2) => ploop n r2 (s.words ++ [(nm, some (unesc v))]) (s.lists.filter ne)
              | none => match pVal r with
                | some (v, r2) => ploop n r2 (s.words ++ [(nm, some v)]) (s.lists.filter ne)
                | none => ploop n r (s.words ++ [(nm, none)]) (s.lists.filter ne)) = out (walk s1 (r.dropWhile isW)) := by
          intro s1 k1 l1 w1 n1 hst hT1
          have hrl1 := dropWhile_len isW r
          have hstp : s1.st > 0 := by omega
          -- no =
          have noeq : (∀ c' r', r.dropWhile isW = c' :: r' → c' ≠ 61) → ploop n r (s.words ++ [(nm, none)]) (s.lists.filter ne) = out (walk s1 (r.dropWhile isW)) := by
            intro h61
            have ep : pend s1 = s.words ++ [(nm, none)] := by
              unfold pend; rw [if_pos hstp, if_pos (by omega), w1, n1]
            rw [out_end s1 hstp k1 (r.dropWhile isW) (fun c' r' e => by
              rcases hst with h | h
              · exact wk2_end1 h (dropWhile_head e) (h61 c' r' e) (hT1 c' r' e h)
              · exact wk2_end2 h (dropWhile_head e) (h61 c' r' e))]
            rw [← walk_ws0 r { s1 with words := pend s1, st := 0 } rfl k1, ← ploop_walk n r { s1 with words := pend s1, st := 0 } (by omega) rfl k1]
            simp only [ep, l1]
          generalize hr1' : r.dropWhile isW = r1 at hrl1
          cases r1 with
          | nil =>
            have q1 : pQuo r = none := by unfold pQuo; rw [hr1']
            have q2 : pVal r = none := by unfold pVal; rw [hr1']
            rw [q1, q2, ← hr1']
            exact noeq (fun c' r' e => by rw [hr1'] at e; cases e)
          | cons d r2 =>
            simp only [List.length_cons] at hrl1
            by_cases h61 : d = 61
            · subst h61
              have q0 : pQuo r = pQuo2 (r2.dropWhile isW) := by unfold pQuo; rw [hr1']; rfl
              have q2 : pVal r = some ((r2.dropWhile isW).takeWhile isV, (r2.dropWhile isW).dropWhile isV) := by unfold pVal; rw [hr1']; rfl
              rw [q0, q2, walk_cons, ws_none k1]
              have st3 : wk2 s1 61 false = { s1 with value := [], st := 3 } := by
                obtain ⟨l, w, st, n', v, k⟩ := s1
                simp only at hst
                rcases hst with rfl | rfl <;> rfl
              rw [st3, walk_ws3 r2 { s1 with value := [], st := 3 } rfl k1]
              have hl3 := dropWhile_len isW r2
              generalize hr3 : r2.dropWhile isW = r3 at hl3
              cases r3 with
              | nil =>
                simp only [pQuo2, List.takeWhile_nil, List.dropWhile_nil]
                have := ploop_walk n [] { s1 with words := s.words ++ [(nm, some [])], st := 0 } (by simp only [List.length_nil]; omega) rfl k1
                simp only [l1] at this
                rw [this]
                simp [walk, out, pend, l1, w1, n1]
              | cons d3 r4 =>
                simp only [List.length_cons] at hl3
                have hd3w := dropWhile_head hr3
                -- the value without marks
                have plain : (d3 = 34 → qc r4 = none) → ploop n ((d3 :: r4).dropWhile isV) (s.words ++ [(nm, some ((d3 :: r4).takeWhile isV))]) (s.lists.filter ne) = out (walk { s1 with value := [], st := 3 } (d3 :: r4)) := by
                  intro hq
                  cases hV : isV d3 with
                  | false =>
                    rw [List.takeWhile_cons, List.dropWhile_cons, hV]
                    simp only [Bool.false_eq_true, if_false]
                    rw [out_end { s1 with value := [], st := 3 } (by show 3 > 0; decide) k1 (d3 :: r4) (fun c' r' e => by
                      cases e
                      exact wk2_end3 rfl hd3w hV)]
                    refine Eq.trans ?_ (ploop_walk n (d3 :: r4) _ (by simp only [List.length_cons]; omega) rfl k1)
                    simp [pend, l1, w1, n1]
                  | true =>
                    rw [List.takeWhile_cons, List.dropWhile_cons, hV]
                    simp only [if_true]
                    obtain ⟨g1, g2, g3⟩ := isV_facts hV
                    have step4 : out (walk { s1 with value := [], st := 3 } (d3 :: r4)) = out (walk { s1 with value := [d3], st := 4 } r4) := by
                      rw [walk_cons, ws_none (s := { s1 with value := [], st := 3 }) k1]
                      by_cases h34 : d3 = 34
                      · have e : wk2 { s1 with value := [], st := 3 } d3 false = { s1 with kept := some ⟨s1.lists, s1.words, s1.name, [], false⟩, value := [d3], st := 4 } := by
                          subst h34; rfl
                        rw [e, dead r4 _ ⟨s1.lists, s1.words, s1.name, [], false⟩ (by show 4 ≤ 4; decide) rfl (by intro x; cases x) (by show ful false r4 = false; rw [ful_qc, hq h34]; rfl)]
                        show out (walk { s1 with kept := none, value := [d3], st := 4 } r4) = _
                        rw [show ({ s1 with kept := none, value := [d3], st := 4 } : Wk) = { s1 with value := [d3], st := 4 } by rw [← k1]]
                      · have e : wk2 { s1 with value := [], st := 3 } d3 false = { s1 with value := [d3], st := 4 } := by
                          have : (d3 == 34) = false := by simpa using h34
                          unfold wk2
                          simp [this, g1, g2, g3]
                        rw [e]
                    rw [step4, walk_value r4 { s1 with value := [d3], st := 4 } rfl k1]
                    rw [out_end { s1 with value := [d3] ++ r4.takeWhile isV, st := 4 } (by show 4 > 0; decide) k1 (r4.dropWhile isV) (fun c' r' e => wk2_end4 rfl (dropWhile_head e))]
                    have := dropWhile_len isV r4
                    refine Eq.trans ?_ (ploop_walk n (r4.dropWhile isV) _ (by omega) rfl k1)
                    simp [pend, l1, w1, n1]
                by_cases h34 : d3 = 34
                · subst h34
                  cases hq : qc r4 with
                  | none =>
                    have q3 : pQuo2 (34 :: r4) = none := by unfold pQuo2; simp only [if_true, hq]; rfl
                    rw [q3]
                    exact plain fun _ => hq
                  | some e =>
                    have q3 : pQuo2 (34 :: r4) = some (r4.take e, r4.drop (e + 1)) := by unfold pQuo2; simp only [if_true, hq]; rfl
                    rw [q3]
                    simp only
                    rw [walk_cons, ws_none (s := { s1 with value := [], st := 3 }) k1]
                    have e' : wk2 { s1 with value := [], st := 3 } 34 false = { s1 with kept := some ⟨s1.lists, s1.words, s1.name, [], false⟩, value := [34], st := 4 } := rfl
                    rw [e']
                    obtain ⟨s', a1, a2, a3, a4, a5⟩ := fulfil r4 e { s1 with kept := some ⟨s1.lists, s1.words, s1.name, [], false⟩, value := [34], st := 4 } ⟨s1.lists, s1.words, s1.name, [], false⟩ (by show 4 ≤ 4; decide) rfl rfl hq
                    rw [a5, ← ploop_walk n (r4.drop (e + 1)) s' (by rw [List.length_drop]; omega) a1 a4, a2, a3]
                    simp [l1, w1, n1]
                · have q3 : pQuo2 (d3 :: r4) = none := by unfold pQuo2; simp only; rw [if_neg h34]
                  rw [q3]
                  exact plain fun x => absurd x h34
            · have q1 : pQuo r = none := by unfold pQuo; rw [hr1']; simp only; rw [if_neg h61]
              have q2 : pVal r = none := by unfold pVal; rw [hr1']; simp only; rw [if_neg h61]
              rw [q1, q2, ← hr1']
              exact noeq (fun c' r' e => by rw [hr1'] at e; cases e; exact h61)
        rcases walk_ws1 r { s with name := nm, st := 1 } rfl hk with e | e
        · have k := key { s with name := nm, st := 1 } hk rfl rfl rfl (.inl rfl) (fun c' r' e' _ => hr1 c' r' (e ▸ e'))
          rw [e] at k
          exact k
        · rw [e]
          exact key { s with name := nm, st := 2 } hk rfl rfl rfl (.inr rfl) (fun _ _ _ x => by cases x)
      · -- no word
        have hT' : isT c = false := by simpa using hT
        have e1 : pTok t = none := by unfold pTok; rw [hu, List.takeWhile_cons, hT']; rfl
        rw [e1]
        simp only
        by_cases h44 : c = 44
        · subst h44
          rw [if_pos (show (44 :: u).head? = some 44 from rfl), hw0, walk_cons, ws_none hk, flush_eq]
          have e2 : wk2 s 44 false = { s with lists := s.lists ++ [s.words], words := [], st := 0 } := by
            obtain ⟨l, w, st, n', v, k⟩ := s
            simp only at h0
            subst h0; rfl
          rw [e2]
          exact ploop_walk n u { s with lists := s.lists ++ [s.words], words := [], st := 0 } (by omega) rfl hk
        · rw [if_neg (by simpa using h44)]
          have hj : (t.dropWhile isJ).length < n := by
            have : (t.dropWhile isJ).length < t.length := by
              cases t with
              | nil => exact absurd rfl ht
              | cons a r =>
                have ha : isJ a = true := by
                  rw [List.dropWhile_cons] at hu
                  cases hc : isW a with
                  | true => simp [isJ, hc]
                  | false =>
                    rw [hc] at hu
                    simp only [Bool.false_eq_true, if_false, List.cons.injEq] at hu
                    rw [hu.1]
                    simp only [isT, hcw, Bool.false_or, Bool.not_eq_false', Bool.or_eq_true, beq_iff_eq] at hT'
                    simp only [isJ, hcw, Bool.false_or, Bool.or_eq_true, beq_iff_eq]
                    omega
                rw [List.dropWhile_cons, ha]
                have := dropWhile_len isJ r
                simp only [if_true, List.length_cons]; omega
            omega
          rw [ploop_walk n _ s hj h0 hk, ← walk_junk t s h0 hk]
theorem shw1_walk (t : List Nat) : shw1 t = out (walk {} t) := ploop_walk (t.length + 1) t {} (by omega) rfl rfl
end Mine
end

-- Pure3
section
set_option Elab.async false
set_option linter.all false
namespace Mine
/-- lists that stand ahead of all -/
def ahead (P : List Ws) (s : Wk) : Wk := { s with lists := P ++ s.lists, kept := s.kept.map fun k => { k with bef := P ++ k.bef } }
theorem pend_ahead (P : List Ws) (s : Wk) : pend (ahead P s) = pend s := rfl
theorem wstep_ahead (P : List Ws) (s : Wk) (c : Nat) : wstep (ahead P s) c = ahead P (wstep s c) := by
  have e1 : wk1 (ahead P s) c = ahead P (wk1 s c) ∧ cls (ahead P s) c = cls s c := by
    obtain ⟨l, w, st, n, v, k⟩ := s
    cases k with
    | none => exact ⟨rfl, rfl⟩
    | some k =>
      refine ⟨?_, rfl⟩
      simp only [wk1, ahead, Option.map_some]
      (repeat' split) <;> rfl
  have e2 : ∀ (s : Wk) (cl : Bool), wk2 (ahead P s) c cl = ahead P (wk2 s c cl) := by
    intro s cl
    obtain ⟨l, w, st, n, v, k⟩ := s
    unfold wk2
    rw [pend_ahead]
    generalize pend ⟨l, w, st, n, v, k⟩ = pd
    simp only [apply_ite (ahead P)]
    refine ite_congr rfl (fun _ => rfl) fun _ => ?_
    refine ite_congr rfl (fun _ => rfl) fun _ => ?_
    refine ite_congr rfl (fun _ => rfl) fun _ => ?_
    refine ite_congr rfl (fun _ => rfl) fun _ => ?_
    refine ite_congr rfl (fun _ => rfl) fun _ => ?_
    refine ite_congr rfl (fun _ => ?_) fun _ => rfl
    refine ite_congr rfl (fun _ => by simp [ahead]) fun _ => ?_
    exact ite_congr rfl (fun _ => rfl) fun _ => rfl
  unfold wstep
  rw [e1.1, e1.2, e2]
theorem walk_ahead (P : List Ws) : ∀ (t : List Nat) (s : Wk), walk (ahead P s) t = ahead P (walk s t)
  | [], _ => rfl
  | c :: t, s => by rw [walk_cons, walk_cons, wstep_ahead, walk_ahead P t]
theorem out_ahead (P : List Ws) (s : Wk) : out (ahead P s) = P.filter ne ++ out s := by
  unfold out
  rw [pend_ahead]
  simp [ahead]
/-- in the state between words the last name and value say nothing -/
theorem walk_name0 : ∀ (t : List Nat) (s : Wk) (n v : List Nat), s.st = 0 → s.kept = none → out (walk s t) = out (walk { s with name := n, value := v } t)
  | [], s, n, v, h0, hk => by simp [walk, out, pend, h0]
  | c :: t, s, n, v, h0, hk => by
    rw [walk_cons, walk_cons, ws_none hk, ws_none (s := { s with name := n, value := v }) hk]
    have e : ∀ (n v : List Nat), wk2 { s with name := n, value := v } c false =
        if isW c = true then { s with name := n, value := v } else if c = 44 then { s with lists := s.lists ++ [s.words], words := [], name := n, value := v } else if c = 61 ∨ c = 59 then { s with name := n, value := v } else { s with name := [c], value := v, st := 1 } := by
      intro n v
      obtain ⟨l, w, st, n', v', k⟩ := s
      simp only at h0
      subst h0
      unfold wk2 pend
      by_cases hw : isW c = true
      · simp [hw]
      · have hw' : isW c = false := by simpa using hw
        by_cases h44 : c = 44
        · subst h44; simp [hw']
        · by_cases h6 : c = 61 ∨ c = 59
          · rcases h6 with rfl | rfl <;> simp [hw']
          · have a1 : c ≠ 61 := fun x => h6 (.inl x)
            have a2 : c ≠ 59 := fun x => h6 (.inr x)
            simp [hw', h44, a1, a2]
    have e0 := e s.name s.value
    rw [show ({ s with name := s.name, value := s.value } : Wk) = s from rfl] at e0
    rw [e0, e n v]
    split
    · exact walk_name0 t s n v h0 hk
    split
    · exact walk_name0 t { s with lists := s.lists ++ [s.words], words := [] } n v h0 hk
    split
    · exact walk_name0 t s n v h0 hk
    · -- a name begins: the value is not looked at before it is set
      exact walk_value1 t { s with name := [c], st := 1 } v (.inl rfl) hk
where
  walk_value1 : ∀ (t : List Nat) (s : Wk) (v : List Nat), s.st = 1 ∨ s.st = 2 → s.kept = none → out (walk s t) = out (walk { s with value := v } t)
  | [], s, v, h1, hk => by
    rcases h1 with h | h <;> simp [walk, out, pend, h]
  | c :: t, s, v, h1, hk => by
    rw [walk_cons, walk_cons, ws_none hk, ws_none (s := { s with value := v }) hk]
    obtain ⟨l, w, st, n', v', k⟩ := s
    simp only at h1 hk
    subst hk
    by_cases hw : isW c = true
    · have e : ∀ v, wk2 ⟨l, w, st, n', v, none⟩ c false = ⟨l, w, 2, n', v, none⟩ := by
        intro v
        rcases isW_cases hw with rfl | rfl <;> rcases h1 with rfl | rfl <;> rfl
      rw [e, e]
      exact walk_value1 t ⟨l, w, 2, n', v', none⟩ v (.inr rfl) rfl
    · have hw' : isW c = false := by simpa using hw
      by_cases h61 : c = 61
      · subst h61
        have e : ∀ v, wk2 ⟨l, w, st, n', v, none⟩ 61 false = ⟨l, w, 3, n', [], none⟩ := by
          intro v
          rcases h1 with rfl | rfl <;> rfl
        rw [e, e]
      · by_cases h44 : c = 44
        · subst h44
          have e : ∀ v, wk2 ⟨l, w, st, n', v, none⟩ 44 false = ⟨l ++ [w ++ [(n', none)]], [], 0, n', v, none⟩ := by
            intro v
            rcases h1 with rfl | rfl <;> rfl
          rw [e, e]
          exact walk_name0 t ⟨l ++ [w ++ [(n', none)]], [], 0, n', v', none⟩ n' v rfl rfl
        · by_cases h59 : c = 59
          · subst h59
            have e : ∀ v, wk2 ⟨l, w, st, n', v, none⟩ 59 false = ⟨l, w ++ [(n', none)], 0, n', v, none⟩ := by
              intro v
              rcases h1 with rfl | rfl <;> rfl
            rw [e, e]
            exact walk_name0 t ⟨l, w ++ [(n', none)], 0, n', v', none⟩ n' v rfl rfl
          · rcases h1 with rfl | rfl
            · have e : ∀ v, wk2 ⟨l, w, 1, n', v, none⟩ c false = ⟨l, w, 1, n' ++ [c], v, none⟩ := by
                intro v
                simp [wk2, hw', h61, h59, h44]
              rw [e, e]
              exact walk_value1 t ⟨l, w, 1, n' ++ [c], v', none⟩ v (.inl rfl) rfl
            · have e : ∀ v, wk2 ⟨l, w, 2, n', v, none⟩ c false = ⟨l, w ++ [(n', none)], 1, [c], v, none⟩ := by
                intro v
                simp [wk2, hw', h61, h59, h44, pend]
              rw [e, e]
              exact walk_value1 t ⟨l, w ++ [(n', none)], 1, [c], v', none⟩ v (.inl rfl) rfl
/-- what two commas do -/
theorem two_commas (s : Wk) : ∃ s' : Wk, s'.st = 0 ∧ s'.words = [] ∧ s'.lists = s.lists ++ [pend s] ++ [[]] ∧
    walk s [44, 44] = { s' with kept := s.kept.map fun k => { k with ins := k.ins ++ [44, 44], tk := false } } := by
  have e2 : ∀ s : Wk, wk2 s 44 false = { s with lists := s.lists ++ [pend s], words := [], st := 0 } := by
    intro s; simp [wk2, isW]
  have e1 : ∀ s : Wk, wstep s 44 = { s with lists := s.lists ++ [pend s], words := [], st := 0, kept := s.kept.map fun k => { k with ins := k.ins ++ [44], tk := false } } := by
    intro s
    obtain ⟨l, w, st, n, v, k⟩ := s
    cases k with
    | none => rw [ws_none rfl, e2]; rfl
    | some k => simp [wstep, wk1, cls, e2, pend]
  refine ⟨{ lists := s.lists ++ [pend s] ++ [[]], words := [], st := 0, name := s.name, value := s.value }, rfl, rfl, rfl, ?_⟩
  rw [walk_cons, walk_cons, e1, e1]
  cases s.kept <;> simp [walk, pend]
/-- what stands at a place of the lists told: behind the lists B and the words A comes p -/
def Ext (B : List Ws) (A : Ws) (p : Pr) (L : List Ws) (W : Ws) : Prop := (L = B ∧ ∃ w, W = A ++ p :: w) ∨ ∃ w1 w2, L = B ++ (A ++ p :: w1) :: w2
theorem Ext.words {B A p L W} (h : Ext B A p L W) (q : Ws) : Ext B A p L (W ++ q) := by
  rcases h with ⟨h1, w, rfl⟩ | h
  · exact .inl ⟨h1, w ++ q, by simp⟩
  · exact .inr h
theorem Ext.comma {B A p L W} (h : Ext B A p L W) (W' : Ws) : Ext B A p (L ++ [W]) W' := by
  rcases h with ⟨rfl, w, rfl⟩ | ⟨w1, w2, rfl⟩
  · exact .inr ⟨w, [], rfl⟩
  · exact .inr ⟨w1, w2 ++ [W], by simp⟩
theorem Ext.pend {B A p} {s : Wk} (h : Ext B A p s.lists s.words) : Ext B A p s.lists (pend s) := by
  unfold Mine.pend
  split
  · exact h.words _
  · exact h
theorem Ext.out {B A p} {s : Wk} (h : Ext B A p s.lists s.words) : ∃ w1 w2, out s = B.filter ne ++ (A ++ p :: w1) :: w2 := by
  have h' := h.pend
  unfold Mine.out
  rcases h' with ⟨h1, w, h2⟩ | ⟨w1, w2, h1⟩
  · refine ⟨w, [], ?_⟩
    rw [h1, h2]
    simp [ne]
  · refine ⟨w1, (w2 ++ [Mine.pend s]).filter ne, ?_⟩
    rw [h1]
    have : ne (A ++ p :: w1) = true := by cases A <;> rfl
    simp only [List.append_assoc, List.cons_append, List.filter_append, List.filter_cons, this, if_true]
theorem Ext.wk2 {B A p} {s : Wk} (h : Ext B A p s.lists s.words) (c : Nat) (cl : Bool) : Ext B A p (wk2 s c cl).lists (wk2 s c cl).words := by
  unfold Mine.wk2
  (repeat' split) <;> first | exact h | exact h.pend.comma _ | exact h.pend
/-- the told place stays, in what is told and in what is kept -/
def Ext2 (B : List Ws) (A : Ws) (p : Pr) (s : Wk) : Prop := Ext B A p s.lists s.words ∧ ∀ k, s.kept = some k → Ext B A p k.bef k.ahd
theorem Ext2.step {B A p} {s : Wk} (h : Ext2 B A p s) (c : Nat) : Ext2 B A p (wstep s c) := by
  have h1 : Ext2 B A p (wk1 s c) := by
    obtain ⟨ha, hb⟩ := h
    unfold wk1
    cases hk : s.kept with
    | none => exact ⟨ha, fun k x => by simp only at x; rw [hk] at x; cases x⟩
    | some k =>
      have hb := hb k hk
      simp only
      (repeat' split)
      · exact ⟨hb.words _, fun k x => by cases x⟩
      · exact ⟨ha, fun k x => by cases x⟩
      · exact ⟨ha, fun k x => by cases x; exact hb⟩
      · exact ⟨ha, fun k x => by cases x; exact hb⟩
  unfold wstep
  refine ⟨h1.1.wk2 _ _, fun k hk => ?_⟩
  by_cases hno : (wk1 s c).st = 3 ∧ c = 34
  · have e : wk2 (wk1 s c) c (cls s c) = { wk1 s c with kept := some ⟨(wk1 s c).lists, (wk1 s c).words, (wk1 s c).name, [], false⟩, value := [c], st := 4 } := by
      unfold Mine.wk2; rw [if_pos (by rw [hno.1]; simp [hno.2])]
    rw [e] at hk
    cases hk
    exact h1.1
  · rw [(wk2_kept (wk1 s c) none c (cls s c) hno).2] at hk
    exact h1.2 k hk
theorem Ext2.walk {B A p} : ∀ (t : List Nat) {s : Wk}, Ext2 B A p s → Ext2 B A p (walk s t)
  | [], s, h => h
  | c :: t, s, h => by rw [walk_cons]; exact Ext2.walk t (h.step c)
/-- a hope: the value that is told meanwhile has no comma -/
def Hope (s : Wk) : Prop := s.st ≤ 4 ∧ (s.st ≥ 3 → 44 ∉ s.value) ∧ ∀ k, s.kept = some k → (k.tk = true → s.st ≠ 3) ∧
  ((s.st = 4 ∧ s.lists = k.bef ∧ s.words = k.ahd ∧ s.name = k.key) ∨ ∃ v, 44 ∉ v ∧ Ext k.bef k.ahd (k.key, some v) s.lists s.words)
theorem wk2_value {s : Wk} {c : Nat} {cl : Bool} (h : s.st ≥ 3 → 44 ∉ s.value) (h4 : s.st ≤ 4) : (wk2 s c cl).st ≥ 3 → 44 ∉ (wk2 s c cl).value := by
  unfold wk2
  split
  · rename_i h3
    simp only [Bool.and_eq_true, beq_iff_eq] at h3
    intro _; rw [h3.2]; simp
  split
  · rename_i h3
    simp only [Bool.and_eq_true, Bool.or_eq_true, beq_iff_eq, Bool.not_eq_true', Bool.or_eq_false_iff, beq_eq_false_iff_ne] at h3
    intro _
    have := h (by omega)
    simp only [List.mem_append, List.mem_singleton, not_or]
    exact ⟨this, fun x => h3.2.2 x.symm⟩
  split
  · exact h
  split
  · intro _; simp
  split
  · intro hst
    split at hst
    · simp at hst
    · exact h hst
  split
  · split
    · intro x; simp at x
    split
    · intro x; simp at x
    · intro x; simp at x
  · exact h
theorem Hope.step {s : Wk} (h : Hope s) (c : Nat) : Hope (wstep s c) := by
  obtain ⟨h4, hv, hk⟩ := h
  have hv1 : (wk1 s c).st ≥ 3 → 44 ∉ (wk1 s c).value := by
    unfold wk1
    cases s.kept with
    | none => exact hv
    | some k =>
      simp only
      split
      · intro x; simp at x
      (repeat' split) <;> exact hv
  refine ⟨wstep_st s c h4, wk2_value hv1 (wk1_st s c h4), fun k hk' => ?_⟩
  cases hs : s.kept with
  | none =>
    -- a new hope
    have e1 : wk1 s c = s := by unfold wk1; rw [hs]
    have e2 : cls s c = false := by unfold cls; rw [hs]
    unfold wstep at hk' ⊢
    rw [e1, e2] at hk' ⊢
    by_cases hno : s.st = 3 ∧ c = 34
    · have e : wk2 s c false = { s with kept := some ⟨s.lists, s.words, s.name, [], false⟩, value := [c], st := 4 } := by
        unfold wk2; rw [if_pos (by simp [hno.1, hno.2])]
      rw [e] at hk' ⊢
      cases hk'
      exact ⟨fun x => (by cases x), .inl ⟨rfl, rfl, rfl, rfl⟩⟩
    · rw [(wk2_kept s none c false hno).2, hs] at hk'
      cases hk'
  | some k0 =>
    obtain ⟨ht3, hcase⟩ := hk k0 hs
    by_cases hcl : (c == 34 && !k0.tk) = true
    · -- it closes
      have e1 : wk1 s c = { s with lists := k0.bef, words := k0.ahd ++ [(k0.key, some k0.ins)], st := 0, kept := none } := by unfold wk1; rw [hs]; simp only [hcl, if_true]
      have e2 : cls s c = true := by unfold cls; rw [hs]; exact hcl
      unfold wstep at hk'
      rw [e1, e2] at hk'
      have := (wk2_kept { s with lists := k0.bef, words := k0.ahd ++ [(k0.key, some k0.ins)], st := 0, kept := none } none c true (by rintro ⟨a, _⟩; cases a)).2
      rw [this] at hk'
      cases hk'
    · have hcl' : (c == 34 && !k0.tk) = false := by simpa using hcl
      have e2 : cls s c = false := by unfold cls; rw [hs]; exact hcl'
      have hno : ¬ (s.st = 3 ∧ c = 34) := by
        rintro ⟨a, rfl⟩
        have : k0.tk = true := by simpa using hcl'
        exact ht3 this a
      obtain ⟨kk, e1, hkk⟩ : ∃ kk, wk1 s c = { s with kept := kk } ∧ ∀ k, kk = some k → k.bef = k0.bef ∧ k.ahd = k0.ahd ∧ k.key = k0.key ∧ (k.tk = true → c = 92) := by
        unfold wk1; rw [hs]
        simp only [hcl', Bool.false_eq_true, if_false]
        split
        · exact ⟨none, rfl, fun k x => by cases x⟩
        split
        · rename_i h92
          exact ⟨_, rfl, fun k x => by cases x; refine ⟨rfl, rfl, rfl, fun _ => ?_⟩; simp only [Bool.and_eq_true, beq_iff_eq] at h92; exact h92.1⟩
        · exact ⟨_, rfl, fun k x => by cases x; exact ⟨rfl, rfl, rfl, fun x => by cases x⟩⟩
      unfold wstep at hk' ⊢
      rw [e1, e2] at hk' ⊢
      rw [(wk2_kept { s with kept := kk } none c false hno).2] at hk'
      obtain ⟨b1, b2, b3, b4⟩ := hkk k hk'
      have ew := (wk2_kept s kk c false hno).1
      rw [ew]
      refine ⟨fun x => ?_, ?_⟩
      · show (wk2 s c false).st ≠ 3
        rw [b4 x]; exact wk2_92 s false rfl h4
      · show ((wk2 s c false).st = 4 ∧ (wk2 s c false).lists = k.bef ∧ (wk2 s c false).words = k.ahd ∧ (wk2 s c false).name = k.key) ∨ ∃ v, 44 ∉ v ∧ Ext k.bef k.ahd (k.key, some v) (wk2 s c false).lists (wk2 s c false).words
        rw [b1, b2, b3]
        rcases hcase with ⟨a1, a2, a3, a4⟩ | ⟨v, a1, a2⟩
        · by_cases hV : isV c = true
          · obtain ⟨g1, g2, g3⟩ := isV_facts hV
            left
            have : wk2 s c false = { s with value := s.value ++ [c] } := by unfold wk2; simp [a1, g1, g2, g3]
            rw [this]
            exact ⟨a1, a2, a3, a4⟩
          · right
            refine ⟨s.value, hv (by omega), ?_⟩
            rw [wk2_end4 a1 (by simpa using hV)]
            refine Ext.wk2 (s := { s with words := pend s, st := 0 }) ?_ c false
            show Ext k0.bef k0.ahd (k0.key, some s.value) s.lists (pend s)
            refine .inl ⟨a2, [], ?_⟩
            unfold pend
            rw [if_pos (by omega), if_neg (by omega), a3, a4]
        · exact .inr ⟨v, a1, a2.wk2 _ _⟩
theorem Hope.walk : ∀ (t : List Nat) {s : Wk}, Hope s → Hope (walk s t)
  | [], s, h => h
  | c :: t, s, h => by rw [walk_cons]; exact Hope.walk t (h.step c)
theorem hope_init : Hope {} := ⟨by decide, fun x => (by cases x), fun k x => (by cases x)⟩
theorem walk_snoc (s : Wk) (a b : List Nat) : walk s (a ++ b) = walk (walk s a) b := walk_append s a b
/-- the text cut in two -/
theorem cut (a b : List Nat) : (shw1 a ++ shw1 b = shw1 (a ++ 44 :: 44 :: b)) ↔ ¬ ((walk {} a).kept.isSome = true ∧ ful false b = true) := by
  rw [shw1_walk, shw1_walk, shw1_walk]
  have hH := Hope.walk a hope_init
  generalize hs : walk {} a = s at hH
  have e1 : walk {} (a ++ 44 :: 44 :: b) = walk (walk s [44, 44]) b := by
    rw [show a ++ 44 :: 44 :: b = a ++ ([44, 44] ++ b) from rfl, walk_append, hs, walk_append]
  obtain ⟨s', t1, t2, t3, t4⟩ := two_commas s
  rw [e1, t4]
  -- as if nothing were kept
  have plain : out (walk { s' with kept := none } b) = out s ++ out (walk {} b) := by
    have h1 := walk_name0 b { s' with kept := none } [] [] t1 rfl
    rw [h1]
    have h2 : ({ s' with kept := none, name := [], value := [] } : Wk) = ahead (s.lists ++ [pend s] ++ [[]]) {} := by
      simp [ahead, t1, t2, t3]
    show out (walk { s' with kept := none, name := [], value := [] } b) = _
    rw [h2, walk_ahead, out_ahead]
    have e3 : (s.lists ++ [pend s] ++ [[]]).filter ne = out s := by
      unfold out
      rw [List.filter_append (s.lists ++ [pend s])]
      simp [ne]
    rw [e3]
  cases hk : s.kept with
  | none =>
    simp only [Option.map_none, Option.isSome_none, Bool.false_eq_true, false_and, not_false_eq_true, iff_true]
    exact plain.symm
  | some k =>
    simp only [Option.map_some, Option.isSome_some, true_and]
    cases hf : ful false b with
    | false =>
      simp only [Bool.false_eq_true, not_false_eq_true, iff_true]
      rw [dead b { s' with kept := some { k with ins := k.ins ++ [44, 44], tk := false } } _ (by show s'.st ≤ 4; omega) rfl (fun x => by cases x) hf]
      exact plain.symm
    | true =>
      simp only [not_true_eq_false, iff_false]
      rw [ful_qc] at hf
      cases hq : qc b with
      | none => rw [hq] at hf; cases hf
      | some e =>
        obtain ⟨s2, a1, a2, a3, a4, a5⟩ := fulfil b e { s' with kept := some { k with ins := k.ins ++ [44, 44], tk := false } } _ (by show s'.st ≤ 4; omega) rfl rfl hq
        rw [a5]
        have x2 : Ext2 k.bef k.ahd (k.key, some (k.ins ++ [44, 44] ++ unesc (b.take e))) s2 := ⟨.inl ⟨a2, [], a3⟩, fun k' x => by rw [a4] at x; cases x⟩
        obtain ⟨w1, w2, o2⟩ := (Ext2.walk (b.drop (e + 1)) x2).1.out
        rw [o2]
        obtain ⟨_, hv, hkk⟩ := hH
        obtain ⟨v, v1, w1', w2', o1⟩ : ∃ v, 44 ∉ v ∧ ∃ w1 w2, out s = k.bef.filter ne ++ (k.ahd ++ (k.key, some v) :: w1) :: w2 := by
          rcases (hkk k hk).2 with ⟨c1, c2, c3, c4⟩ | ⟨v, c1, c2⟩
          · refine ⟨s.value, hv (by omega), [], [], ?_⟩
            unfold out pend
            rw [if_pos (by omega), if_neg (by omega), c2, c3, c4]
            simp [ne]
          · obtain ⟨w1, w2, o⟩ := c2.out
            exact ⟨v, c1, w1, w2, o⟩
        rw [o1]
        intro h
        simp only [List.append_assoc, List.cons_append] at h
        have h' := List.append_cancel_left h
        rw [List.cons.injEq] at h'
        have h'' := List.append_cancel_left h'.1
        rw [List.cons.injEq, Prod.mk.injEq] at h''
        have hvv := Option.some.inj h''.1.2
        apply v1
        rw [hvv]
        simp
end Mine
end

-- Wk1
section
open PySem PyProof.Rows
set_option Elab.async false
set_option linter.all false
set_option maxRecDepth 100000
namespace Mine
theorem pa_pat : PlainAttrs "re.Pattern" :=
  ⟨⟨"object.__getattribute__", by rw [typeLookup_type, builtinLookup_eq_fast]; kernel_rfl, by decide +kernel⟩, by rw [typeLookup_type, builtinLookup_eq_fast]; kernel_rfl⟩
theorem pa_match : PlainAttrs "re.Match" :=
  ⟨⟨"object.__getattribute__", by rw [typeLookup_type, builtinLookup_eq_fast]; kernel_rfl, by decide +kernel⟩, by rw [typeLookup_type, builtinLookup_eq_fast]; kernel_rfl⟩
theorem slot_search : Slot "re.Pattern" "search" "re.Pattern.search" :=
  .of (owner := "re.Pattern") (n := "search") (by rw [typeLookup_type, builtinLookup_eq_fast]; kernel_rfl) (by decide +kernel) (by decide +kernel) (by decide +kernel)
    (by first | exact .inl (by decide +kernel) | exact .inr (by decide +kernel)) (by rw [isSubtype_type]; kernel_rfl)
theorem type_search : typeOf (.builtin "re.Pattern.search") = pure (.type "method_descriptor") := by show builtinType _ = _; rw [builtinType_eq_fast]; kernel_rfl
theorem entry_search : entryFor table "re.Pattern.search" = some Builtin.«re.Pattern.search» := entryFor_of_tree (by kernel_rfl)
theorem slot_sub : Slot "re.Pattern" "sub" "re.Pattern.sub" :=
  .of (owner := "re.Pattern") (n := "sub") (by rw [typeLookup_type, builtinLookup_eq_fast]; kernel_rfl) (by decide +kernel) (by decide +kernel) (by decide +kernel)
    (by first | exact .inl (by decide +kernel) | exact .inr (by decide +kernel)) (by rw [isSubtype_type]; kernel_rfl)
theorem type_sub : typeOf (.builtin "re.Pattern.sub") = pure (.type "method_descriptor") := by show builtinType _ = _; rw [builtinType_eq_fast]; kernel_rfl
theorem entry_sub : entryFor table "re.Pattern.sub" = some Builtin.«re.Pattern.sub» := entryFor_of_tree (by kernel_rfl)
theorem slot_subn : Slot "re.Pattern" "subn" "re.Pattern.subn" :=
  .of (owner := "re.Pattern") (n := "subn") (by rw [typeLookup_type, builtinLookup_eq_fast]; kernel_rfl) (by decide +kernel) (by decide +kernel) (by decide +kernel)
    (by first | exact .inl (by decide +kernel) | exact .inr (by decide +kernel)) (by rw [isSubtype_type]; kernel_rfl)
theorem type_subn : typeOf (.builtin "re.Pattern.subn") = pure (.type "method_descriptor") := by show builtinType _ = _; rw [builtinType_eq_fast]; kernel_rfl
theorem entry_subn : entryFor table "re.Pattern.subn" = some Builtin.«re.Pattern.subn» := entryFor_of_tree (by kernel_rfl)
theorem entry_loop : entryFor table "re.Pattern.sub.loop" = some Builtin.«re.Pattern.sub.loop» := entryFor_of_tree (by kernel_rfl)
theorem slot_group : Slot "re.Match" "group" "re.Match.group" :=
  .of (owner := "re.Match") (n := "group") (by rw [typeLookup_type, builtinLookup_eq_fast]; kernel_rfl) (by decide +kernel) (by decide +kernel) (by decide +kernel)
    (by first | exact .inl (by decide +kernel) | exact .inr (by decide +kernel)) (by rw [isSubtype_type]; kernel_rfl)
theorem type_group : typeOf (.builtin "re.Match.group") = pure (.type "method_descriptor") := by show builtinType _ = _; rw [builtinType_eq_fast]; kernel_rfl
theorem entry_group : entryFor table "re.Match.group" = some Builtin.«re.Match.group» := entryFor_of_tree (by kernel_rfl)
theorem slot_span : Slot "re.Match" "span" "re.Match.span" :=
  .of (owner := "re.Match") (n := "span") (by rw [typeLookup_type, builtinLookup_eq_fast]; kernel_rfl) (by decide +kernel) (by decide +kernel) (by decide +kernel)
    (by first | exact .inl (by decide +kernel) | exact .inr (by decide +kernel)) (by rw [isSubtype_type]; kernel_rfl)
theorem type_span : typeOf (.builtin "re.Match.span") = pure (.type "method_descriptor") := by show builtinType _ = _; rw [builtinType_eq_fast]; kernel_rfl
theorem entry_span : entryFor table "re.Match.span" = some Builtin.«re.Match.span» := entryFor_of_tree (by kernel_rfl)
theorem look_string : typeLookup (.type "re.Match") "string" = pure (some (.builtin "re.Match.string")) := by rw [typeLookup_type, builtinLookup_eq_fast]; kernel_rfl
theorem type_string : typeOf (.builtin "re.Match.string") = pure (.type "member_descriptor") := by show builtinType _ = _; rw [builtinType_eq_fast]; kernel_rfl
theorem owner_pat : Manifest.owners.lookup (String.ofList ['n', 'r', 'e', 't', 't', 'a', 'P', '.', 'e', 'r'].reverse) = some Manifest.sig_re_Pattern := by kernel_rfl
theorem owner_match : Manifest.owners.lookup (String.ofList ['h', 'c', 't', 'a', 'M', '.', 'e', 'r'].reverse) = some Manifest.sig_re_Match := by kernel_rfl
theorem args_search (a b : Value) : argsOk "re.Pattern.search" ⟨[a, b], []⟩ := by
  unfold argsOk; rw [signature?_of (id := "re.Pattern.search") (n := ['h', 'c', 'r', 'a', 'e', 's']) (o := ['n', 'r', 'e', 't', 't', 'a', 'P', '.', 'e', 'r']) (by kernel_rfl) owner_pat]; kernel_rfl
theorem args_sub (a b c : Value) : argsOk "re.Pattern.sub" ⟨[a, b, c], []⟩ := by
  unfold argsOk; rw [signature?_of (id := "re.Pattern.sub") (n := ['b', 'u', 's']) (o := ['n', 'r', 'e', 't', 't', 'a', 'P', '.', 'e', 'r']) (by kernel_rfl) owner_pat]; kernel_rfl
theorem args_subn (a b c : Value) : argsOk "re.Pattern.subn" ⟨[a, b, c], []⟩ := by
  unfold argsOk; rw [signature?_of (id := "re.Pattern.subn") (n := ['n', 'b', 'u', 's']) (o := ['n', 'r', 'e', 't', 't', 'a', 'P', '.', 'e', 'r']) (by kernel_rfl) owner_pat]; kernel_rfl
theorem args_group (a b : Value) : argsOk "re.Match.group" ⟨[a, b], []⟩ := by
  unfold argsOk; rw [signature?_of (id := "re.Match.group") (n := ['p', 'u', 'o', 'r', 'g']) (o := ['h', 'c', 't', 'a', 'M', '.', 'e', 'r']) (by kernel_rfl) owner_match]; kernel_rfl
theorem args_span (a b : Value) : argsOk "re.Match.span" ⟨[a, b], []⟩ := by
  unfold argsOk; rw [signature?_of (id := "re.Match.span") (n := ['n', 'a', 'p', 's']) (o := ['h', 'c', 't', 'a', 'M', '.', 'e', 'r']) (by kernel_rfl) owner_match]; kernel_rfl
end Mine
end

-- Wk2
section
open PySem PyProof.Rows PySem.Builtin PySem.Builtin.Re
set_option Elab.async false
set_option linter.all false
set_option maxRecDepth 100000
namespace Mine
variable {prog : Program} {w : World} {A : Around} {E : Value → Shared → Prop} {s : Shared}
theorem drive_of {Q : Sre.M → Shared → Prop} : ∀ (turns k : Nat) (m : Sre.M), k ≤ 4 * turns → (Sre.M.runFor k m).outcome.isSome = true → 0 < turns → Q (Sre.M.runFor k m) s → wpAny (model prog w) A (reDrive turns m) Q E s
  | 0, k, m, _, _, h0, _ => absurd h0 (Nat.lt_irrefl _)
  | turns + 1, k, m, hk, ho, _, hQ => by
    unfold reDrive
    show wpAny _ _ (if (Sre.M.runFor 4 m).outcome.isSome = true then pure (Sre.M.runFor 4 m) else (do rule "sre.turn"; reDrive turns (Sre.M.runFor 4 m))) Q E s
    by_cases h4 : (Sre.M.runFor 4 m).outcome.isSome = true
    · rw [if_pos h4]
      have e : Sre.M.runFor k m = Sre.M.runFor 4 m := by
        rcases Nat.le_total k 4 with h | h
        · rw [show 4 = k + (4 - k) by omega, runFor_add, runFor_some ho]
        · rw [show k = 4 + (k - 4) by omega, runFor_add, runFor_some h4]
      rw [e] at hQ
      exact wpAny_pure hQ
    · rw [if_neg h4]
      have hk4 : 4 < k := by
        rcases Nat.lt_or_ge 4 k with h | h
        · exact h
        · exfalso; apply h4
          rw [show 4 = k + (4 - k) by omega, runFor_add, runFor_some ho]; exact ho
      refine wpAny_bind (wpAny_rule ?_)
      have e : Sre.M.runFor k m = Sre.M.runFor (k - 4) (Sre.M.runFor 4 m) := by rw [← runFor_add]; congr 1; omega
      rw [e] at ho hQ
      exact drive_of turns (k - 4) _ (by omega) ho (by omega) hQ
theorem rules_of {Q : PUnit → Shared → Prop} (m : Sre.M) (hQ : Q ⟨⟩ s) : wpAny (model prog w) A (forIn (List.range Sre.names.size) PUnit.unit fun i _ => (do
    if m.seen.has i then rule (Sre.names.getD i "")
    pure (ForInStep.yield PUnit.unit) : Sem (ForInStep PUnit))) Q E s := by
  refine wpAny_forIn_list _ (fun _ _ s' => s' = s) Q ?_ ?_ _ _ rfl
  · rintro i rest _ s' rfl
    by_cases h : m.seen.has i = true
    · rw [if_pos h]; exact wpAny_bind (wpAny_rule (wpAny_pure rfl))
    · rw [if_neg h]; exact wpAny_pure rfl
  · rintro _ s' rfl; exact hQ
theorem run_to_end {Q : Option Sre.M → Shared → Prop} {m : Sre.M} (k : Nat) (hk : k ≤ 2 ^ 60) (ho : (Sre.M.runFor k m).outcome.isSome = true)
    (h : match (Sre.M.runFor k m).outcome with | some .matched => Q (some (Sre.M.runFor k m)) s | some .failed => Q none s | _ => False) : wpAny (model prog w) A (reRunToEnd m) Q E s := by
  unfold reRunToEnd
  refine wpAny_bind (drive_of (2 ^ 64) k m (by omega) ho (by decide) ?_)
  refine wpAny_bind (rules_of _ ?_)
  generalize Sre.M.runFor k m = m' at *
  split at h
  · rename_i e; rw [e]; exact wpAny_pure h
  · rename_i e; rw [e]; exact wpAny_pure h
  · exact h.elim
/-- a compiled pattern: its code, its groups -/
def Pat (h : Heap) (P : Addr) (C : Array Nat) (g : Nat) : Prop :=
  ∃ c vs src fl, h.get? P = some { cls := .type "re.Pattern", data := .fields #[src, fl, .int g 0, .none, .none, .ref c, .int 0 0] } ∧ h.get? c = some { cls := .type "tuple", data := .seq vs } ∧ (vs.map reRawOf).map (·.toNat) = C
theorem Pat.keeps {h h' : Heap} {P C g} (x : Pat h P C g) (k : ∀ b o, h.get? b = some o → h'.get? b = some o) : Pat h' P C g :=
  let ⟨c, vs, src, fl, h1, h2, h3⟩ := x; ⟨c, vs, src, fl, k _ _ h1, k _ _ h2, h3⟩
theorem raw_items {a : Addr} {vs : Array Value} {n : Nat} {o : Obj} {Q : Array Int → Shared → Prop} (ho : s.heap.get? a = some o) (hd : o.data = .seq vs n) (h : Q (vs.map reRawOf) s) : wpAny (model prog w) A (reRawItems (.ref a)) Q E s := by
  unfold reRawItems
  exact wpAny_bind (wpAny_seqItems ho hd (wpAny_pure h))
def tgt (P : Addr) (x : Str) (tk : Tok) (C : Array Nat) (g : Nat) : ReTarget := { pattern := .ref P, string := .str x tk, code := C, text := x.cps, kind := 0, groups := g, pos := 0, lim := x.cps.size }
theorem target_of {P : Addr} {C : Array Nat} {g : Nat} {x : Str} {tk : Tok} {Q : ReTarget → Shared → Prop} (id f : String) (hP : Pat s.heap P C g) (hx : x.cps.size ≤ 1000) (h : Q (tgt P x tk C g) s) :
    wpAny (model prog w) A (reTarget id f ⟨[.ref P, .str x tk], []⟩) Q E s := by
  obtain ⟨c, vs, src, fl, h1, h2, h3⟩ := hP
  unfold reTarget
  show wpAny _ _ ((reNamed id f ["string", "pos", "endpos"] 1 [.str x tk] []) >>= _) _ _ _
  have e : reNamed id f ["string", "pos", "endpos"] 1 [.str x tk] [] = pure [some (.str x tk), none, none] := rfl
  rw [e]
  refine wpAny_bind (wpAny_pure ?_)
  refine wpAny_bind (wpAny_pure ?_)
  refine wpAny_bind (wpAny_pure ?_)
  refine wpAny_bind (wpAny_fieldsOf h1 rfl ?_)
  show wpAny _ _ ((pure (x.cps, 0) : Sem (Array Nat × Nat)) >>= _) _ _ _
  refine wpAny_bind (wpAny_pure ?_)
  show wpAny _ _ ((reRawItems (.ref c)) >>= _) _ _ _
  refine wpAny_bind (raw_items h2 rfl ?_)
  refine wpAny_pure ?_
  have e2 : min ((2 ^ 63 - 1 : Int)).toNat x.cps.size = x.cps.size := by
    have : ((2 ^ 63 - 1 : Int)).toNat = 9223372036854775807 := by decide
    rw [this]; omega
  show Q { pattern := .ref P, string := .str x tk, code := (vs.map reRawOf).map (·.toNat), text := x.cps, kind := 0, groups := reRawNat (.int g 0), pos := min (0 : Int).toNat x.cps.size, lim := min ((2 ^ 63 - 1 : Int)).toNat x.cps.size } s
  rw [h3, e2]
  exact h
end Mine
end

-- Wk3
section
open PySem PyProof.Rows PySem.Builtin PySem.Builtin.Re
set_option Elab.async false
set_option linter.all false
set_option maxRecDepth 100000
namespace Mine
variable {prog : Program} {w : World} {A : Around} {E : Value → Shared → Prop} {s : Shared}
def spanO (st e b1 e1 : Nat) : Obj := { cls := .type "tuple", data := .seq #[.int st 0, .int e 0, .int b1 0, .int e1 0] }
def matchO (x : Str) (tk : Tok) (P sp : Addr) : Obj := { cls := .type "re.Match", data := .fields #[.str x tk, .ref P, .int 0 0, .int x.cps.size 0, .int 1 0, .ref sp] }
theorem sizeOk_small {n : Nat} (h : n ≤ 1000) : n ≤ sizeLine := by rw [sizeLine_eq]; omega
theorem new_match {P : Addr} {x : Str} {tk : Tok} {m : Sre.M} {st e b1 e1 : Nat} {Q : Value → Shared → Prop} (hm : Matched st e #[some b1, some e1] 1 1 m) (hle : b1 ≤ e1)
    (h : Q (.ref (s.heap.objs.size + 1)) { s with heap := (s.heap.push (spanO st e b1 e1)).push (matchO x tk P s.heap.objs.size) }) :
    wpAny (model prog w) A (reNewMatch (.ref P) (.str x tk) 1 0 x.cps.size m) Q E s := by
  obtain ⟨_, h1, h2, h3, h4, h5⟩ := hm
  unfold reNewMatch
  simp only [h1, h2, h3, h4, h5]
  refine wpAny_ite ?_
  split
  · rename_i hc
    have hc' : (((decide (((2 * 0 + 1 : Nat) : Int) ≤ 1) && decide (e1 < b1)) || false)) = true := hc
    simp at hc'
    omega
  refine wpAny_bind (wpAny_newObj_type ?_ (by show (4 : Nat) ≤ sizeLine; rw [sizeLine_eq]; decide))
  refine wpAny_newObj_type ?_ (by show (6 : Nat) ≤ sizeLine + 2; rw [sizeLine_eq]; decide)
  have e1 : (s.heap.push (spanO st e b1 e1)).objs.size = s.heap.objs.size + 1 := by simp [Heap.push]
  have := h
  rw [← e1] at this
  exact this
theorem search_found {P : Addr} {C : Array Nat} {x : Str} {tk : Tok} {b e EE : Nat} {Q : Value → Shared → Prop} (hP : Pat s.heap P C 1) (hx : x.cps.size ≤ 1000)
    (hS : SEnds C x.cps.toList 1 0 false (Matched 0 EE #[some b, some e] 1 1)) (hle : b ≤ e)
    (h : Q (.ref (s.heap.objs.size + 1)) { s with heap := (s.heap.push (spanO 0 EE b e)).push (matchO x tk P s.heap.objs.size) }) :
    wpAny (model prog w) A (call (.builtin "re.Pattern.search") [.ref P, .str x tk]) Q E s := by
  have hT : s.TypeIs (.ref P) "re.Pattern" := by
    obtain ⟨c, vs, src, fl, h1, h2, h3⟩ := hP
    exact ⟨_, h1, rfl⟩
  refine wpAny_call_entry slot_search hT entry_search ?_ (args_search _ _)
  unfold Builtin.«re.Pattern.search»
  refine wpAny_bind (target_of (tk := tk) "re.Pattern.search" "search" hP hx ?_)
  unfold reAnswer
  obtain ⟨k, hk, ho, hm⟩ := hS
  have et : x.cps.toList.toArray = x.cps := by simp
  have es : x.cps.toList.length = x.cps.size := by simp
  rw [et, es] at ho hm
  refine wpAny_bind (run_to_end k hk ho ?_)
  have hm1 := hm.1
  simp only [tgt]
  rw [hm1]
  simp only
  refine wpAny_bind (new_match hm hle ?_)
  exact wpAny_pure ⟨_, rfl, h⟩
theorem search_missed {P : Addr} {C : Array Nat} {x : Str} {tk : Tok} {Q : Value → Shared → Prop} (hP : Pat s.heap P C 1) (hx : x.cps.size ≤ 1000)
    (hS : SEnds C x.cps.toList 1 0 false Failed) (h : Q .none s) :
    wpAny (model prog w) A (call (.builtin "re.Pattern.search") [.ref P, .str x tk]) Q E s := by
  have hT : s.TypeIs (.ref P) "re.Pattern" := by
    obtain ⟨c, vs, src, fl, h1, h2, h3⟩ := hP
    exact ⟨_, h1, rfl⟩
  refine wpAny_call_entry slot_search hT entry_search ?_ (args_search _ _)
  unfold Builtin.«re.Pattern.search»
  refine wpAny_bind (target_of (tk := tk) "re.Pattern.search" "search" hP hx ?_)
  unfold reAnswer
  obtain ⟨k, hk, ho, hm⟩ := hS
  have et : x.cps.toList.toArray = x.cps := by simp
  have es : x.cps.toList.length = x.cps.size := by simp
  rw [et, es] at ho hm
  refine wpAny_bind (run_to_end k hk ho ?_)
  have hm1 : _ = some _ := hm
  simp only [tgt]
  rw [hm1]
  simp only
  exact wpAny_pure ⟨_, rfl, h⟩
/-- a match object -/
def IsM (h : Heap) (a : Addr) (x : Str) (EE b e : Nat) : Prop := ∃ tk P sp, h.get? a = some (matchO x tk P sp) ∧ h.get? sp = some (spanO 0 EE b e)
theorem IsM.keeps {h h' : Heap} {a x EE b e} (m : IsM h a x EE b e) (k : ∀ b o, h.get? b = some o → h'.get? b = some o) : IsM h' a x EE b e :=
  let ⟨tk, P, sp, h1, h2⟩ := m; ⟨tk, P, sp, k _ _ h1, k _ _ h2⟩
theorem IsM.type {a x EE b e} (m : IsM s.heap a x EE b e) : s.TypeIs (.ref a) "re.Match" :=
  let ⟨tk, P, sp, h1, h2⟩ := m; ⟨_, h1, rfl⟩
theorem found_of {a x EE b e} {Q : ReFound → Shared → Prop} (m : IsM s.heap a x EE b e)
    (h : ∀ tk P sp, Q { fields := #[.str x tk, .ref P, .int 0 0, .int x.cps.size 0, .int 1 0, .ref sp], spans := #[0, (EE : Int), (b : Int), (e : Int)] } s) : wpAny (model prog w) A (reFound (.ref a)) Q E s := by
  obtain ⟨tk, P, sp, h1, h2⟩ := m
  unfold reFound
  refine wpAny_bind (wpAny_fieldsOf h1 rfl ?_)
  refine wpAny_bind (m := reRawItems (.ref sp)) (raw_items h2 rfl ?_)
  have e1 : (#[Value.int ((0 : Nat) : Int) 0, Value.int (EE : Int) 0, Value.int (b : Int) 0, Value.int (e : Int) 0] : Array Value).map reRawOf = #[0, (EE : Int), (b : Int), (e : Int)] := by simp [reRawOf]
  rw [e1]
  exact wpAny_pure (h tk P sp)
theorem group1 {a x EE b e} {tk1 : Tok} {Q : Value → Shared → Prop} (m : IsM s.heap a x EE b e) (hx : x.cps.size ≤ 1000)
    (h : Q (.str ⟨x.cps.extract b e⟩ s.toks) { s with toks := s.toks + 1 }) :
    wpAny (model prog w) A (call (.builtin "re.Match.group") [.ref a, .int 1 tk1]) Q E s := by
  refine wpAny_call_entry slot_group m.type entry_group ?_ (args_group _ _)
  unfold Builtin.«re.Match.group»
  show wpAny _ _ ((reFound (.ref a)) >>= _) _ _ _
  refine wpAny_bind (found_of m fun tk P sp => ?_)
  simp only
  have e1 : ∀ f : Array Value, reGroupNumber { fields := f, spans := #[0, (EE : Int), (b : Int), (e : Int)] } (.int 1 tk1) = pure 1 := fun f => rfl
  rw [e1]
  refine wpAny_bind (wpAny_pure ?_)
  unfold reGroupText
  simp only
  have e2 : ((#[0, (EE : Int), (b : Int), (e : Int)] : Array Int).getD (2 * 1) (-1) : Int) = b := rfl
  have e3 : ((#[0, (EE : Int), (b : Int), (e : Int)] : Array Int).getD (2 * 1 + 1) (-1) : Int) = e := rfl
  rw [e2, e3]
  have hc : (decide ((b : Int) < 0) || decide ((e : Int) < 0)) = false := by
    rw [decide_eq_false (by omega), decide_eq_false (by omega)]; rfl
  rw [hc]
  simp only [Bool.false_eq_true, if_false]
  refine wpAny_bind (wpAny_bind (m := reTextOf (.str x tk)) (show wpAny _ _ (pure (x.cps, 0) : Sem (Array Nat × Nat)) _ _ _ from wpAny_pure ?_))
  simp only
  unfold reSlice
  simp only [beq_self_eq_true, if_true, Int.toNat_natCast]
  refine wpAny_mkStr ?_ (by
    show (x.cps.extract b e).size ≤ sizeLine
    rw [sizeLine_eq, Array.size_extract]; omega)
  exact wpAny_pure ⟨_, rfl, h⟩
theorem span0 {a x EE b e} {tk1 : Tok} {Q : Value → Shared → Prop} (m : IsM s.heap a x EE b e)
    (h : Q (.ref s.heap.objs.size) { s with toks := s.toks + 2, heap := s.heap.push { cls := .type "tuple", data := .seq #[.int 0 s.toks, .int EE (s.toks + 1)] } }) :
    wpAny (model prog w) A (call (.builtin "re.Match.span") [.ref a, .int 0 tk1]) Q E s := by
  refine wpAny_call_entry slot_span m.type entry_span ?_ (args_span _ _)
  unfold Builtin.«re.Match.span» reOneGroup
  show wpAny _ _ ((do let x ← reFound (.ref a); pure (x, ← reGroupNumber x (.int 0 tk1))) >>= _) _ _ _
  refine wpAny_bind (wpAny_bind (found_of m fun tk P sp => ?_))
  have e1 : ∀ f : Array Value, reGroupNumber { fields := f, spans := #[0, (EE : Int), (b : Int), (e : Int)] } (.int 0 tk1) = pure 0 := fun f => rfl
  rw [e1]
  refine wpAny_bind (wpAny_pure (wpAny_pure ?_))
  simp only
  refine wpAny_bind (wpAny_mkInt ?_)
  refine wpAny_bind (wpAny_mkInt ?_)
  refine wpAny_bind (wpAny_newObj_type ?_ (by show (2 : Nat) ≤ sizeLine; rw [sizeLine_eq]; decide))
  exact wpAny_pure ⟨_, rfl, h⟩
end Mine
end

-- Fw1
section
open PySem PyProof.Rows PySem.W
set_option Elab.async false
set_option linter.all false
set_option maxRecDepth 100000
namespace Mine
/-- all objects of the one stand in the other -/
def Sub (h h' : Heap) : Prop := ∀ b o, h.get? b = some o → h'.get? b = some o
theorem Sub.refl (h : Heap) : Sub h h := fun _ _ e => e
theorem Sub.trans {a b c : Heap} (x : Sub a b) (y : Sub b c) : Sub a c := fun _ _ e => y _ _ (x _ _ e)
theorem Sub.push (h : Heap) (o : Obj) : Sub h (h.push o) := fun _ _ e => Heap.get?_push_of_some o e
theorem sub_none {h h' : Heap} (s : Sub h h') {a : Addr} (e : h'.get? a = none) : h.get? a = none := by
  cases hq : h.get? a with
  | none => rfl
  | some o => rw [s _ _ hq] at e; cases e
open Classical in
noncomputable def rest (h : Heap) (p : Addr → Prop) : Heap := { h with objs := h.objs.mapIdx fun i o => if p i then o else { o with data := .freed } }
theorem rest_get {h : Heap} {p : Addr → Prop} {a : Addr} {o : Obj} : (rest h p).get? a = some o ↔ h.get? a = some o ∧ p a := by
  rw [Heap.get?_some_iff, Heap.get?_some_iff]
  unfold rest
  simp only [Array.getElem?_mapIdx]
  cases hg : h.objs[a]? with
  | none => simp
  | some o' =>
    simp only [Option.map_some]
    by_cases hp : p a
    · simp [hp]
    · simp only [hp, if_false, and_false, iff_false, not_and, Option.some.injEq]
      rintro rfl
      simp [Obj.isFreed]
theorem rest_none {h : Heap} {p : Addr → Prop} {a : Addr} (hp : ¬ p a) : (rest h p).get? a = none := by
  cases hq : (rest h p).get? a with
  | none => rfl
  | some o => exact absurd (rest_get.mp hq).2 hp
def tab : Addr := 65
structure St where
  loc : List (String × Value) := []
  fac : List (Value × PyData) := []
  kob : List (Addr × Obj) := []
  mu : List (Addr × List PyData) := []
def lamQual : Str := "split_header_words.<locals>.<lambda>"
/-- the table of the code beneath split_header_words -/
def TabOK (K h : Heap) : Prop := ∃ ps, h.get? tab = some (tabObj ps) ∧ (ps = #[] ∨ ∃ c, ps = #[rawInt 26, rawInt 49, .ref c] ∧ K.CodeRec (.ref c) lamQual)
def Facs (K : Heap) (l : List (Value × PyData)) : Prop := ∀ p ∈ l, ∃ as, Reads K p.1 p.2 as
def Kobs (K : Heap) (l : List (Addr × Obj)) : Prop := ∀ p ∈ l, K.get? p.1 = some p.2
def Pl (K : Heap) (b : Addr) : Prop := ∃ vs n, K.get? b = some { cls := .type "list", data := .seq vs n }
/-- new over the base, and (where there is a base at all) a plain list -/
def Nw (base K : Heap) (b : Addr) : Prop := base.get? b = none ∧ ((∃ c o, base.get? c = some o) → Pl K b)
theorem Nw.keeps {base K K' : Heap} {b : Addr} (x : Nw base K b) (k : Sub K K') : Nw base K' b := ⟨x.1, fun q => let ⟨vs, n, e⟩ := x.2 q; ⟨vs, n, k _ _ e⟩⟩
theorem Nw.lower {base b' K : Heap} {b : Addr} (x : Nw base K b) (k : Sub b' base) : Nw b' K b := ⟨sub_none k x.1, fun ⟨c, o, q⟩ => x.2 ⟨c, o, k _ _ q⟩⟩
def MutAt (K base h : Heap) (L : Addr) (p : Addr × List PyData) : Prop :=
  K.get? p.1 = none ∧ p.1 ≠ L ∧ p.1 ≠ tab ∧ ∃ vs n as, h.get? p.1 = some { cls := .type "list", data := .seq vs n } ∧ ReadsAll K vs.toList p.2 as ∧ ∀ a ∈ as, Nw base K a
structure Hk (K base : Heap) (hid : Addr → Obj → Prop) (L : Addr) (S : St) (h : Heap) : Prop where
  bk : Sub base K
  kh : Sub K h
  kL : K.get? L = none
  kt : K.get? tab = none
  Lt : L ≠ tab
  loc : ∃ m, h.Ns L m ∧ ∀ p ∈ S.loc, m (Str.ofString p.1) = some p.2
  fac : Facs K S.fac
  kob : Kobs K S.kob
  mu : ∀ p ∈ S.mu, MutAt K base h L p
  nd : (S.mu.map (·.1)).Nodup
  hd : ∀ b o, hid b o → h.get? b = some o ∧ K.get? b = none ∧ b ≠ L ∧ b ≠ tab ∧ b ∉ S.mu.map (·.1)
  tb : TabOK K h
theorem Facs.sub {K K' : Heap} {l} (x : Facs K l) (k : Sub K K') : Facs K' l := fun p hp => let ⟨as, r⟩ := x p hp; ⟨as, Reads.keeps k r⟩
theorem Kobs.sub {K K' : Heap} {l} (x : Kobs K l) (k : Sub K K') : Kobs K' l := fun p hp => k _ _ (x p hp)
/-- the frozen part, with all that is new -/
noncomputable def grow (K h h' : Heap) : Heap := rest h' fun a => (∃ o, K.get? a = some o) ∨ h.get? a = none
section
variable {K base h h' : Heap} {hid : Addr → Obj → Prop} {L : Addr} {S : St}
theorem grow_sub (kh : Sub K h) (e : Sub h h') : Sub K (grow K h h') := fun b o x => rest_get.mpr ⟨e _ _ (kh _ _ x), .inl ⟨o, x⟩⟩
theorem grow_new {a : Addr} {o : Obj} (hn : h.get? a = none) (ho : h'.get? a = some o) : (grow K h h').get? a = some o := rest_get.mpr ⟨ho, .inr hn⟩
theorem grow_none {a : Addr} {o : Obj} (hk : K.get? a = none) (ho : h.get? a = some o) : (grow K h h').get? a = none := rest_none (by
  rintro (⟨o', x⟩ | x)
  · rw [hk] at x; cases x
  · rw [ho] at x; cases x)
theorem TabOK.sub {K' : Heap} (x : TabOK K h) (k : Sub K K') (e : ∀ o, h.get? tab = some o → h'.get? tab = some o) : TabOK K' h' :=
  let ⟨ps, h1, h2⟩ := x; ⟨ps, e _ h1, h2.imp id fun ⟨c, a, b⟩ => ⟨c, a, b.keeps k⟩⟩
/-- nothing changed, things came -/
theorem Hk.grow (H : Hk K base hid L S h) (e : Sub h h') : Hk (grow K h h') base hid L S h' := by
  obtain ⟨bk, kh, kL, kt, Lt, ⟨m, n1, n2⟩, fac, kob, mu, nd, hd, tb⟩ := H
  have ks := grow_sub kh e
  obtain ⟨ps, t1, t2⟩ := id tb
  refine ⟨bk.trans ks, fun b o x => (rest_get.mp x).1, ?_, grow_none kt t1, Lt, ⟨m, n1.keeps e, n2⟩, fac.sub ks, kob.sub ks, fun p hp => ?_, nd, fun b o x => ?_, tb.sub ks (fun o x => e _ _ x)⟩
  · obtain ⟨oL, _, _, hL, _⟩ := n1
    exact grow_none kL hL
  · obtain ⟨m1, m2, m3, vs, n, as, m4, m5, m6⟩ := mu p hp
    exact ⟨grow_none m1 m4, m2, m3, vs, n, as, e _ _ m4, ReadsAll.keeps ks m5, fun a ha => (m6 a ha).keeps ks⟩
  · obtain ⟨q1, q2, q3⟩ := hd b o x
    exact ⟨e _ _ q1, grow_none q2 q1, q3⟩
theorem Hk.weak (H : Hk K base hid L S h) {S' : St} (hl : ∀ p ∈ S'.loc, p ∈ S.loc) (hf : ∀ p ∈ S'.fac, p ∈ S.fac) (hk : ∀ p ∈ S'.kob, p ∈ S.kob) (hm : S'.mu = S.mu) : Hk K base hid L S' h := by
  obtain ⟨bk, kh, kL, kt, Lt, ⟨m, n1, n2⟩, fac, kob, mu, nd, hd, tb⟩ := H
  exact ⟨bk, kh, kL, kt, Lt, ⟨m, n1, fun p hp => n2 p (hl p hp)⟩, fun p hp => fac p (hf p hp), fun p hp => kob p (hk p hp), by rw [hm]; exact mu, by rw [hm]; exact nd, by rw [hm]; exact hd, tb⟩
/-- a fact more -/
theorem Hk.addFac (H : Hk K base hid L S h) {v : Value} {d : PyData} (r : ∃ as, Reads K v d as) : Hk K base hid L { S with fac := (v, d) :: S.fac } h := by
  obtain ⟨bk, kh, kL, kt, Lt, loc, fac, kob, mu, nd, hd, tb⟩ := H
  refine ⟨bk, kh, kL, kt, Lt, loc, fun p hp => ?_, kob, mu, nd, hd, tb⟩
  rcases List.mem_cons.mp hp with rfl | hp
  · exact r
  · exact fac p hp
theorem Hk.addKob (H : Hk K base hid L S h) {a : Addr} {o : Obj} (r : K.get? a = some o) : Hk K base hid L { S with kob := (a, o) :: S.kob } h := by
  obtain ⟨bk, kh, kL, kt, Lt, loc, fac, kob, mu, nd, hd, tb⟩ := H
  refine ⟨bk, kh, kL, kt, Lt, loc, fac, fun p hp => ?_, mu, nd, hd, tb⟩
  rcases List.mem_cons.mp hp with rfl | hp
  · exact r
  · exact kob p hp
/-- the frame's names turned: L alone is another object -/
theorem Hk.frame (H : Hk K base hid L S h) {m' : Str → Option Value} {l' : List (String × Value)} (n' : h'.Ns L m') (sb : Heap.SameBut L h h') (hl : ∀ p ∈ l', m' (Str.ofString p.1) = some p.2) :
    Hk K base hid L { S with loc := l' } h' := by
  obtain ⟨bk, kh, kL, kt, Lt, loc, fac, kob, mu, nd, hd, tb⟩ := H
  have e : ∀ b o, b ≠ L → h.get? b = some o → h'.get? b = some o := fun b o hb x => (sb.2 b hb).trans x
  have kne : ∀ b o, K.get? b = some o → b ≠ L := fun b o x hb => by subst hb; rw [kL] at x; cases x
  refine ⟨bk, fun b o x => e b o (kne b o x) (kh _ _ x), kL, kt, Lt, ⟨m', n', hl⟩, fac, kob, fun p hp => ?_, nd, fun b o x => ?_, tb.sub (Sub.refl K) fun o x => e _ _ (Ne.symm Lt) x⟩
  · obtain ⟨m1, m2, m3, vs, n, as, m4, m5, m6⟩ := mu p hp
    exact ⟨m1, m2, m3, vs, n, as, e _ _ m2 m4, m5, m6⟩
  · obtain ⟨q1, q2, q3, q4⟩ := hd b o x
    exact ⟨e _ _ q3 q1, q2, q3, q4⟩
/-- another base: all that is frozen -/
theorem Hk.rebase (H : Hk K base hid L S h) (hm : S.mu = []) : Hk K K hid L S h := by
  obtain ⟨bk, kh, kL, kt, Lt, loc, fac, kob, mu, nd, hd, tb⟩ := H
  exact ⟨Sub.refl K, kh, kL, kt, Lt, loc, fac, kob, (by rw [hm]; intro p hp; cases hp), nd, hd, tb⟩
theorem Hk.lower (H : Hk K base hid L S h) {b' : Heap} (hs : Sub b' base) : Hk K b' hid L S h := by
  obtain ⟨bk, kh, kL, kt, Lt, loc, fac, kob, mu, nd, hd, tb⟩ := H
  refine ⟨hs.trans bk, kh, kL, kt, Lt, loc, fac, kob, fun p hp => ?_, nd, hd, tb⟩
  obtain ⟨m1, m2, m3, vs, n, as, m4, m5, m6⟩ := mu p hp
  exact ⟨m1, m2, m3, vs, n, as, m4, m5, fun a ha => (m6 a ha).lower hs⟩
end
theorem map_toNat_inj : ∀ {a b : List Char}, a.map Char.toNat = b.map Char.toNat → a = b
  | [], [], _ => rfl
  | [], _ :: _, h => by cases h
  | _ :: _, [], h => by cases h
  | x :: a, y :: b, h => by
    simp only [List.map_cons, List.cons.injEq] at h
    rw [Char.toNat_inj.mp h.1, map_toNat_inj h.2]
theorem ofString_inj {a b : String} (h : Str.ofString a = Str.ofString b) : a = b := by
  rw [Str.ofString_eq_toList, Str.ofString_eq_toList] at h
  have h1 : ((a.toList.map Char.toNat).toArray) = ((b.toList.map Char.toNat).toArray) := congrArg Str.cps h
  have h2 := congrArg Array.toList h1
  exact String.toList_inj.mp (map_toNat_inj h2)
end Mine
end

-- Fw2
section
open PySem PyProof.Rows PySem.W
set_option Elab.async false
set_option linter.all false
set_option maxRecDepth 100000
namespace Mine
def fnAt (i : Nat) : Stmt := PySem.Challenge.pw_rs0009_01.main.body.getD i (.Pass default)
def fArgs : Stmt → Arguments
  | .FunctionDef _ a .. => a
  | _ => default
def fBody : Stmt → List Stmt
  | .FunctionDef _ _ b .. => b
  | _ => []
def fScope : Stmt → Scope
  | .FunctionDef _ _ _ _ _ _ sc .. => sc
  | _ => default
/-- a def of the text, where it stands -/
def FnOk (B : Heap) (a : Addr) (name : Str) (i : Nat) : Prop :=
  ∃ o pm cd doc, B.get? a = some o ∧ o.data = .func (Calls.docDef name (fArgs (fnAt i)) (fBody (fnAt i)) (fScope (fnAt i)) pm cd doc) ∧ B.CodeRec cd name
theorem FnOk.sub {B B' : Heap} {a name i} (x : FnOk B a name i) (k : Sub B B') : FnOk B' a name i :=
  let ⟨o, pm, cd, doc, h1, h2, h3⟩ := x; ⟨o, pm, cd, doc, k _ _ h1, h2, h3.keeps k⟩
abbrev up (s : Shared) (h : Heap) (tk : Nat) : Shared := { s with heap := h, toks := tk }
def lk : List (String × Value) → String → Option Value
  | [], _ => none
  | (y, v) :: r, x => if y = x then some v else lk r x
def put (l : List (String × Value)) (x : String) (v : Value) : List (String × Value) := (x, v) :: l.filter fun p => decide (p.1 ≠ x)
theorem mem_of_lk : ∀ {l : List (String × Value)} {x : String} {v : Value}, lk l x = some v → (x, v) ∈ l
  | [], _, _, h => by cases h
  | (y, u) :: r, x, v, h => by
    rw [lk] at h
    split at h
    · rename_i e; cases h; subst e; exact .head _
    · exact .tail _ (mem_of_lk h)
section
variable {K base h h' : Heap} {hid : Addr → Obj → Prop} {L : Addr} {S : St}
def hidOf (K h : Heap) : Addr → Obj → Prop := fun b o => h.get? b = some o ∧ K.get? b = none ∧ b ≠ tab
theorem Hk.enter (H : Hk K base hid L S h) {L' : Addr} {m : Str → Option Value} {l : List (String × Value)} (F : Fr h L' h' m) (hL : h.get? L' = none) (hl : ∀ p ∈ l, m (Str.ofString p.1) = some p.2) :
    Hk K K (hidOf K h) L' { loc := l, fac := S.fac, kob := S.kob } h' := by
  obtain ⟨bk, kh, kL, kt, Lt, loc, fac, kob, mu, nd, hd, tb⟩ := H
  have e : Sub h h' := F.keep
  obtain ⟨ps, t1, t2⟩ := id tb
  refine ⟨Sub.refl K, kh.trans e, sub_none kh hL, kt, ?_, ⟨m, F.ns, hl⟩, fac, kob, fun p hp => (by cases hp), List.nodup_nil, fun b o ⟨q1, q2, q3⟩ => ⟨e _ _ q1, q2, ?_, q3, (by simp)⟩, tb.sub (Sub.refl K) fun o x => e _ _ x⟩
  · rintro rfl; rw [hL] at t1; cases t1
  · rintro rfl; rw [hL] at q1; cases q1
theorem Hk.back {K' : Heap} {L' : Addr} {S' : St} (H : Hk K base hid L S h) (H' : Hk K' K (hidOf K h) L' S' h') : Hk K' base hid L S h' := by
  obtain ⟨bk, kh, kL, kt, Lt, ⟨m, n1, n2⟩, fac, kob, mu, nd, hd, tb⟩ := H
  obtain ⟨bk', kh', kL', kt', Lt', _, _, _, _, _, hd', tb'⟩ := H'
  obtain ⟨oL, es, ep, hL, r1⟩ := id n1
  have qL := hd' L oL ⟨hL, kL, Lt⟩
  refine ⟨bk.trans bk', kh', qL.2.1, kt', Lt, ⟨m, ⟨oL, es, ep, qL.1, r1⟩, n2⟩, fac.sub bk', kob.sub bk', fun p hp => ?_, nd, fun b o x => ?_, tb'⟩
  · obtain ⟨m1, m2, m3, vs, n, as, m4, m5, m6⟩ := mu p hp
    have q := hd' p.1 _ ⟨m4, m1, m3⟩
    exact ⟨q.2.1, m2, m3, vs, n, as, q.1, ReadsAll.keeps bk' m5, fun a ha => (m6 a ha).keeps bk'⟩
  · obtain ⟨q1, q2, q3, q4, q5⟩ := hd b o x
    have q := hd' b o ⟨q1, q2, q4⟩
    exact ⟨q.1, q.2.1, q3, q4, q5⟩
theorem Hk.ns (H : Hk K base hid L S h) : ∃ m, h.Ns L m ∧ ∀ p ∈ S.loc, m (Str.ofString p.1) = some p.2 := H.loc
end
section
variable {prog : Program} {w : World} {A : Around} {E : Value → Shared → Prop} {s : Shared} {h : Heap} {tk : Nat} {K base : Heap} {hid : Addr → Obj → Prop} {L a : Addr} {S : St} {name : Str} {scope : Scope} {cd : Value}
theorem ldS {x : String} {pos : Pos} {v : Value} {Q : Value → Shared → Prop} (H : Hk K base hid L S h) (hv : lk S.loc x = some v) (hQ : Q v (up s h tk))
    (hk : scope.kind = .function := by rfl) (hl : (envOf name scope L a cd).kindOf (Str.ofString x) = some .local := by rfl)
    (hd : ((Str.ofString x) == ("__debug__" : Str)) = false := by decide) :
    wpAny (model prog w) A (eval (.Name (Str.ofString x) pos) (envOf name scope L a cd)) Q E (up s h tk) := by
  obtain ⟨m, n1, n2⟩ := H.loc
  exact wpAny_Name (wpAny_loadName_local hk hl n1 (n2 _ (mem_of_lk hv)) hQ) hd
theorem stS {x : String} {v : Value} {Q : Unit → Shared → Prop} (H : Hk K base hid L S h) (hQ : ∀ h' tk', Hk K base hid L { S with loc := put S.loc x v } h' → Q () (up s h' tk'))
    (hk : scope.kind = .function := by rfl) (hl : (envOf name scope L a cd).kindOf (Str.ofString x) = some .local := by rfl) :
    wpAny (model prog w) A (storeName (envOf name scope L a cd) (Str.ofString x) v) Q E (up s h tk) := by
  obtain ⟨m, n1, n2⟩ := H.loc
  refine wpAny_storeName_local hl n1 (fun h' n' sb => hQ h' _ (H.frame n' sb fun p hp => ?_)) (by show (scope.kind == .class || (scope.kind == .module && L != mainGlobals)) = false; rw [hk]; rfl)
  rcases List.mem_cons.mp hp with rfl | hp
  · simp
  · rw [List.mem_filter] at hp
    have hne : p.1 ≠ x := by simpa using hp.2
    rw [if_neg fun e => hne (ofString_inj e)]
    exact n2 p hp.1
/-- what the module's names are -/
structure Gnd (mg mb : Str → Option Value) (B : Heap) : Prop where
  g : B.Ns mainGlobals mg
  b : B.Ns builtinsNs mb
  nolimit : B.NoLimit
  fUn : FnOk B 43 "unmatched" 3
  fSh : FnOk B 70 "split_header_words" 8
  fWk : FnOk B 75 "_law_walk" 10
  fFu : FnOk B 82 "_law_fulfils" 11
  nUn : mg (Str.ofString "unmatched") = some (.ref 43)
  nSh : mg (Str.ofString "split_header_words") = some (.ref 70)
  nWk : mg (Str.ofString "_law_walk") = some (.ref 75)
  nFu : mg (Str.ofString "_law_fulfils") = some (.ref 82)
  nTw : mg (Str.ofString "_twin_re_5") = some (.ref 36)
  nTo : mg (Str.ofString "HEADER_TOKEN_RE") = some (.ref 48)
  nQu : mg (Str.ofString "HEADER_QUOTED_VALUE_RE") = some (.ref 53)
  nVa : mg (Str.ofString "HEADER_VALUE_RE") = some (.ref 58)
  nEs : mg (Str.ofString "HEADER_ESCAPE_RE") = some (.ref 63)
  pTw : Pat B 36 cTwin 0
  pTo : Pat B 48 cTok 1
  pQu : Pat B 53 cQuo 1
  pVa : Pat B 58 cVal 1
  pEs : Pat B 63 cEsc 1
  bi : ∀ x ∈ (["isinstance", "str", "len", "range", "AssertionError"] : List String), mg (Str.ofString x) = none ∧ mb (Str.ofString x) = bootBuiltins (Str.ofString x)
  code : CodeHd B 69 65
  bAt : B.BuiltinsAt mg 65
  cSh : ∃ o pm doc, B.get? 70 = some o ∧ o.data = .func (Calls.docDef "split_header_words" (fArgs (fnAt 8)) (fBody (fnAt 8)) (fScope (fnAt 8)) pm (.ref 69) doc)
theorem ldG {mg mb : Str → Option Value} {x : String} {pos : Pos} {v : Value} {Q : Value → Shared → Prop} (G : Gnd mg mb K) (hs : Sub K h) (hv : mg (Str.ofString x) = some v) (hQ : Q v (up s h tk))
    (hk : scope.kind = .function := by rfl) (hl : (envOf name scope L a cd).kindOf (Str.ofString x) = some .globalImplicit := by rfl)
    (hd : ((Str.ofString x) == ("__debug__" : Str)) = false := by decide) :
    wpAny (model prog w) A (eval (.Name (Str.ofString x) pos) (envOf name scope L a cd)) Q E (up s h tk) :=
  Calls.Name_function_global hk hl (Calls.loadGlobal_global (env := envOf name scope L a cd) (G.g.keeps hs) hv hQ) hd
theorem ldB {mg mb : Str → Option Value} {x : String} {pos : Pos} {v : Value} {Q : Value → Shared → Prop} (G : Gnd mg mb K) (hs : Sub K h) (hx : x ∈ (["isinstance", "str", "len", "range", "AssertionError"] : List String))
    (hv : bootBuiltins (Str.ofString x) = some v) (hQ : Q v (up s h tk))
    (hk : scope.kind = .function := by rfl) (hl : (envOf name scope L a cd).kindOf (Str.ofString x) = some .globalImplicit := by rfl)
    (hd : ((Str.ofString x) == ("__debug__" : Str)) = false := by decide) :
    wpAny (model prog w) A (eval (.Name (Str.ofString x) pos) (envOf name scope L a cd)) Q E (up s h tk) :=
  Calls.Name_function_global hk hl (Calls.loadGlobal_builtin (env := envOf name scope L a cd) (G.g.keeps hs) (G.bi x hx).1 (G.b.keeps hs) ((G.bi x hx).2.trans hv) hQ) hd
theorem Gnd.sub {mg mb : Str → Option Value} {B B' : Heap} (G : Gnd mg mb B) (k : Sub B B') : Gnd mg mb B' := by
  obtain ⟨o, pm, doc, c1, c2⟩ := G.cSh
  obtain ⟨bm, ob, a1, a2, a3, a4, a5, a6, a7, a8⟩ := G.bAt
  exact ⟨G.g.keeps k, G.b.keeps k, G.nolimit.keeps k, G.fUn.sub k, G.fSh.sub k, G.fWk.sub k, G.fFu.sub k, G.nUn, G.nSh, G.nWk, G.nFu, G.nTw, G.nTo, G.nQu, G.nVa, G.nEs, G.pTw.keeps k, G.pTo.keeps k, G.pQu.keeps k, G.pVa.keeps k, G.pEs.keeps k, G.bi, G.code.keeps k,
    ⟨bm, ob, a1, a2, a3, a4, k _ _ a5, a6, a7, a8⟩, o, pm, doc, k _ _ c1, c2⟩
end
end Mine
end

-- Fw3
section
open PySem PyProof.Rows PySem.W
set_option Elab.async false
set_option linter.all false
set_option maxRecDepth 100000
namespace Mine
/-- what is being handled, if anything: an exception without a context -/
def Calm (A : Around) (B : Heap) : Prop := A.handled = none ∨ ∃ e o vs, A.handled = some (.ref e) ∧ B.get? e = some o ∧ o.data = .fields vs ∧ vs[2]? = some .none
theorem Calm.sub {A : Around} {B B' : Heap} (c : Calm A B) (k : Sub B B') : Calm A B' := c.imp id fun ⟨e, o, vs, h1, h2, h3, h4⟩ => ⟨e, o, vs, h1, k _ _ h2, h3, h4⟩
variable {prog : Program} {w : World} {A : Around} {E : Value → Shared → Prop} {s : Shared}
theorem entry_unchain : entryFor table "proto.unchain" = some Builtin.«proto.unchain» := entryFor_of_tree (by kernel_rfl)
theorem unchain_none {e a : Addr} {o : Obj} {vs : Array Value} {Q : Value → Shared → Prop} (ho : s.heap.get? e = some o) (hd : o.data = .fields vs) (hv : vs[2]? = some .none) (hQ : Q .none s) :
    wpAny (model prog w) A (runValue (.builtin "proto.unchain" ⟨[.ref a, .ref e, .ref e, .bool false], []⟩)) Q E s := by
  refine wpAny_runValue (codeAny_builtin entry_unchain ?_)
  unfold Builtin.«proto.unchain»
  show wpAny _ _ (field (.ref e) 2 >>= _) _ _ s
  refine wpAny_bind (wpAny_field ho hd hv ?_)
  exact wpAny_pure hQ
/-- a new exception is raised -/
theorem raise_calm {α : Type} {B : Heap} {a : Addr} {o : Obj} {vs : Array Value} {Q : α → Shared → Prop} (hc : Calm A B) (hB : Sub B s.heap) (hn : B.get? a = none) (ho : s.heap.get? a = some o) (hd : o.data = .fields vs) (hz : 2 < vs.size)
    (hE : ∀ h', Heap.SameBut a s.heap h' → (∃ o', h'.get? a = some o' ∧ o'.cls = o.cls) → E (.ref a) { s with heap := h' }) : wpAny (model prog w) A (raiseNew (α := α) (.ref a)) Q E s := by
  unfold raiseNew
  refine wpAny_bind (wpAny_handled ?_)
  rcases hc with hc | ⟨e, oe, ve, h1, h2, h3, h4⟩
  · rw [hc]
    exact wpAny_bind (wpAny_pure (wpAny_throw (hE s.heap (Heap.SameBut.refl ..) ⟨o, ho, rfl⟩)))
  · rw [h1]
    have hne : e ≠ a := by rintro rfl; rw [h2] at hn; cases hn
    simp only
    have hb : ((Value.ref e != Value.ref a) = true) := by simp [bne, hne]
    rw [if_pos hb]
    refine wpAny_bind (wpAny_holding (unchain_none (hB _ _ h2) h3 h4 ?_))
    unfold updateField
    refine wpAny_bind (wpAny_bind (wpAny_load ho ?_))
    rw [hd]
    simp only
    rw [if_pos hz]
    refine wpAny_update ho ?_
    refine wpAny_throw (hE _ (Heap.SameBut.update ..) ⟨_, Heap.get?_update_self _ ho ?_, ?_⟩)
    · obtain ⟨c, d, dt, sl⟩ := o
      simp only at hd; subst hd; rfl
    · obtain ⟨c, d, dt, sl⟩ := o
      simp only at hd; subst hd; rfl
theorem stop_calm {α : Type} {B : Heap} {Q : α → Shared → Prop} (hc : Calm A B) (hB : Sub B s.heap)
    (hE : ∀ h' a, Sub s.heap h' → (∃ o', h'.get? a = some o' ∧ o'.cls = .type "StopIteration") → E (.ref a) { s with heap := h' }) :
    wpAny (model prog w) A (newExc (.type "StopIteration") [] >>= fun e => raiseNew (α := α) e) Q E s := by
  refine wpAny_bind ?_
  simp only [newExc, newTuple]
  refine wpAny_bind (wpAny_newObj_type ?_ (by show (0 : Nat) ≤ sizeLine; exact Nat.zero_le _))
  refine wpAny_bind (m := firstArgMember _ _) (wpAny_of_eq (a := Value.none) (by first | rfl | (simp only [firstArgMember]; rfl)) ?_)
  refine wpAny_newObj_type ?_ (by show (6 : Nat) ≤ sizeLine + 2; rw [sizeLine_eq]; decide)
  have k1 : Sub s.heap (s.heap.push { cls := .type "tuple", data := .seq ([] : List Value).toArray }) := Sub.push _ _
  refine raise_calm hc (hB.trans (k1.trans (Sub.push _ _))) ?_ (Heap.get?_push_size _ rfl) rfl (by show 2 < 6; decide) fun h' sb ho => hE h' _ (fun b o x => ?_) ho
  · refine sub_none (hB.trans k1) ?_
    cases hq : (s.heap.push { cls := .type "tuple", data := .seq ([] : List Value).toArray }).get? (s.heap.push { cls := .type "tuple", data := .seq ([] : List Value).toArray }).objs.size with
    | none => rfl
    | some o => exact absurd (Heap.lt_size hq) (Nat.lt_irrefl _)
  · have y := k1 _ _ x
    exact (sb.2 b (Nat.ne_of_lt (Heap.lt_size y))).trans (Sub.push _ _ _ _ y)
theorem next_tuple_end {B : Heap} {it t : Addr} {i : Nat} {items} {Q : Option Value → Shared → Prop} (hc : Calm A B) (hB : Sub B s.heap) (hit : s.heap.IsTupleIter it t i) (hiB : B.get? it = none) (ht : s.heap.IsTuple t items) (hx : items[i]? = none)
    (hQ : ∀ h', Heap.ExtBut it s.heap h' → Q none { s with heap := h' }) : wpAny (model prog w) A (pyNext (.ref it)) Q E s := by
  obtain ⟨o, ho, hcl, hd⟩ := id hit
  obtain ⟨ol, hol, _, nl, hdl⟩ := ht
  unfold pyNext
  refine wpAny_bind (wpAny_attempt (wpAny_callSpecial?_slot (name := Str.ofString "__next__") hit.typeIs F.slot_tuple_iterator_next
    (wpAny_call_entry F.slot_tuple_iterator_next hit.typeIs F.entry_tuple_iterator_next ?_ (F.args_tuple_iterator_next_1 _))))
  show wpAny _ _ (field (.ref it) 0 >>= _) _ _ s
  refine wpAny_bind (wpAny_field ho hd (x := .ref t) rfl ?_)
  show wpAny _ _ (if (Value.ref t == Value.none) = true then _ else _) _ _ s
  rw [if_neg (show ¬ ((Value.ref t == Value.none) = true) from Bool.false_ne_true)]
  show wpAny _ _ (field (.ref it) 1 >>= _) _ _ s
  refine wpAny_bind (wpAny_field ho hd (x := .int i 0) rfl ?_)
  show wpAny _ _ (seqItems? (.ref t) >>= _) _ _ s
  refine wpAny_bind (wpAny_seqItems hol hdl ?_)
  simp only [Int.toNat_natCast, hx]
  refine wpAny_bind (wpAny_rule (wpAny_bind (wpAny_setField ho hd (by simp) ?_)))
  have eb : Heap.ExtBut it s.heap (s.heap.update it (Obj.mapFields fun vs => vs.setIfInBounds 0 Value.none)) := (Heap.SameBut.update ..).extBut
  refine stop_calm (s := { s with heap := s.heap.update it _ }) (B := B) hc (fun b o x => eb b o (fun e => by subst e; rw [hiB] at x; cases x) (hB _ _ x)) fun h' a k ho' => ?_
  obtain ⟨o', q1, q2⟩ := ho'
  refine wpAny_bind (wpAny_isInstance (T := "StopIteration") (b := true) ⟨_, q1, q2⟩ isSubtype_stop ?_)
  exact wpAny_pure (hQ _ fun b o hb x => k _ _ (eb b o hb x))
end Mine
end

-- Fw4
section
open PySem PyProof.Rows PySem.W
set_option Elab.async false
set_option linter.all false
set_option maxRecDepth 100000
namespace Mine
variable {prog : Program} {w : World} {A : Around} {E : Value → Shared → Prop} {s : Shared}
theorem get_size_none (h : Heap) : h.get? h.objs.size = none := by
  cases hq : h.get? h.objs.size with
  | none => rfl
  | some o => exact absurd (Heap.lt_size hq) (Nat.lt_irrefl _)
theorem unpack_calm {B : Heap} {env : Env} {elts : List Expr} {x1} {pos : Pos} {t : Addr} {items : Array Value} {Q : Unit → Shared → Prop} (hc : Calm A B) (hB : Sub B s.heap) (ht : s.heap.IsTuple t items)
    (hn : (assignEach elts env).length = items.size) (hstar : (assignEach elts env).findIdx? (·.1) = none)
    (hQ : ∀ h', Sub s.heap h' → wpAny (model prog w) A (assignInOrder ((assignEach elts env).map (·.2)) items.toList) Q E { s with heap := h' }) :
    wpAny (model prog w) A (assign (.Tuple elts x1 pos) env (.ref t)) Q E s := by
  have hlt : t ≠ s.heap.objs.size := by obtain ⟨o, ho, _⟩ := ht; exact Nat.ne_of_lt (Heap.lt_size ho)
  rw [arm_assign_Tuple]
  refine wpAny_bind (wpAny_standAt ?_)
  unfold unpack
  rw [hn, hstar]
  refine wpAny_bind (wpAny_holding ?_)
  unfold unpackItems
  refine wpAny_bind ?_
  unfold notIterableAtAll
  refine wpAny_bind (wpAny_specialOf ht.typeIs F.slot_tuple_iter.lookup ?_)
  refine wpAny_pure ?_
  simp only [Bool.false_eq_true, if_false]
  refine wpAny_bind (wpAny_holding (wpAny_pyIter_tuple ht ?_))
  refine wpAny_bind (wpAny_holding (wpAny_draw_tuple hlt items.size 0 _ _ ⟨_, Heap.get?_push_size _ rfl, rfl, rfl⟩ (ht.push _) (by omega) fun h₁ hit₁ hs₁ => ?_))
  have hall : List.take items.size (List.drop 0 items.toList) = items.toList := by
    rw [List.drop_zero]; exact List.take_of_length_le (by simp)
  rw [hall]
  rw [if_neg (by simp)]
  have ht₁ : h₁.IsTuple t items := (ht.push _).extBut hs₁.extBut hlt
  have k1 : Sub s.heap h₁ := fun b o x => hs₁.extBut b o (Nat.ne_of_lt (Heap.lt_size x)) (Heap.get?_push_of_some _ x)
  refine wpAny_bind (wpAny_holding (next_tuple_end hc (hB.trans k1) hit₁ (sub_none hB (get_size_none _)) ht₁ (by simp) fun h₂ he₂ => ?_))
  simp only [Option.isSome_none, Bool.false_eq_true, if_false]
  exact wpAny_pure (hQ h₂ fun b o x => he₂ b o (Nat.ne_of_lt (Heap.lt_size x)) (k1 _ _ x))
theorem next_list_end {B : Heap} {it l : Addr} {i : Nat} {items} {Q : Option Value → Shared → Prop} (hc : Calm A B) (hB : Sub B s.heap) (hit : s.heap.IsListIter it l i) (hiB : B.get? it = none) (hl : s.heap.IsList l items) (hx : items[i]? = none)
    (hQ : ∀ h', Heap.ExtBut it s.heap h' → Q none { s with heap := h' }) : wpAny (model prog w) A (pyNext (.ref it)) Q E s := by
  obtain ⟨o, ho, hcl, hd⟩ := id hit
  obtain ⟨ol, hol, _, nl, hdl⟩ := hl
  unfold pyNext
  refine wpAny_bind (wpAny_attempt (wpAny_callSpecial?_slot (name := Str.ofString "__next__") hit.typeIs slot_listiter_next
    (wpAny_call_entry slot_listiter_next hit.typeIs entry_listiter_next ?_ (args_listiter_next _))))
  show wpAny _ _ (field (.ref it) 0 >>= _) _ _ s
  refine wpAny_bind (wpAny_field ho hd (x := .ref l) rfl ?_)
  show wpAny _ _ (if (Value.ref l == Value.none) = true then _ else _) _ _ s
  rw [if_neg (show ¬ ((Value.ref l == Value.none) = true) from Bool.false_ne_true)]
  show wpAny _ _ (field (.ref it) 1 >>= _) _ _ s
  refine wpAny_bind (wpAny_field ho hd (x := .int i 0) rfl ?_)
  show wpAny _ _ (seqItems? (.ref l) >>= _) _ _ s
  refine wpAny_bind (wpAny_seqItems hol hdl ?_)
  simp only [Int.toNat_natCast, hx]
  refine wpAny_bind (wpAny_rule (wpAny_bind (wpAny_setField ho hd (by simp) ?_)))
  have eb : Heap.ExtBut it s.heap (s.heap.update it (Obj.mapFields fun vs => vs.setIfInBounds 0 Value.none)) := (Heap.SameBut.update ..).extBut
  refine stop_calm (s := { s with heap := s.heap.update it _ }) (B := B) hc (fun b o x => eb b o (fun e => by subst e; rw [hiB] at x; cases x) (hB _ _ x)) fun h' a k ho' => ?_
  obtain ⟨o', q1, q2⟩ := ho'
  refine wpAny_bind (wpAny_isInstance (T := "StopIteration") (b := true) ⟨_, q1, q2⟩ isSubtype_stop ?_)
  exact wpAny_pure (hQ _ fun b o hb x => k _ _ (eb b o hb x))
end Mine
end

-- Fw5
section
open PySem PyProof.Rows PySem.W PySem.Builtin PySem.Builtin.Re
set_option Elab.async false
set_option linter.all false
set_option maxRecDepth 100000
namespace Mine
theorem slot_mb_get : Slot "member_descriptor" "__get__" "member_descriptor.__get__" :=
  .of (owner := "member_descriptor") (n := "__get__") (by rw [typeLookup_type, builtinLookup_eq_fast]; kernel_rfl) (by decide +kernel) (by decide +kernel) (by decide +kernel)
    (by first | exact .inl (by decide +kernel) | exact .inr (by decide +kernel)) (by rw [isSubtype_type]; kernel_rfl)
theorem slot_mb_set : Slot "member_descriptor" "__set__" "member_descriptor.__set__" :=
  .of (owner := "member_descriptor") (n := "__set__") (by rw [typeLookup_type, builtinLookup_eq_fast]; kernel_rfl) (by decide +kernel) (by decide +kernel) (by decide +kernel)
    (by first | exact .inl (by decide +kernel) | exact .inr (by decide +kernel)) (by rw [isSubtype_type]; kernel_rfl)
theorem entry_mb_get : entryFor table "member_descriptor.__get__" = some Builtin.«member_descriptor.__get__» := entryFor_of_tree (by kernel_rfl)
theorem args_mb_get (a b c : Value) : argsOk "member_descriptor.__get__" ⟨[a, b, c], []⟩ := by unfold argsOk; kernel_rfl
theorem slot_match_ga : Slot "re.Match" "__getattribute__" "object.__getattribute__" :=
  .of (owner := "object") (n := "__getattribute__") (by rw [typeLookup_type, builtinLookup_eq_fast]; kernel_rfl) (by decide +kernel) (by decide +kernel) (by decide +kernel)
    (by first | exact .inl (by decide +kernel) | exact .inr (by decide +kernel)) (by rw [isSubtype_type]; kernel_rfl)
theorem entry_obj_ga : entryFor table "object.__getattribute__" = some Builtin.«object.__getattribute__» := entryFor_of_tree (by kernel_rfl)
theorem args_obj_ga (a b : Value) : argsOk "object.__getattribute__" ⟨[a, b], []⟩ := by unfold argsOk; kernel_rfl
theorem entry_m_string : entryFor table "re.Match.string" = some Builtin.«re.Match.string» := entryFor_of_tree (by kernel_rfl)
theorem owner_m_string : (".".intercalate ("re.Match.string".cutAt '.').dropLast) = "re.Match" := by
  have e0 : "re.Match.string".cutAt '.' = ["re", "Match", "string"] := by first | rfl | decide +kernel
  rw [e0]; decide +kernel
theorem sub_m_m : isSubtype (.type "re.Match") (.type "re.Match") = pure true := by rw [isSubtype_type]; kernel_rfl
section
variable {prog : Program} {w : World} {A : Around} {E : Value → Shared → Prop} {h : Heap} {g : Array GenState} {d : Drawn} {t : Nat} {os : OsState} {a P sp : Addr} {x : Str} {tx : Tok}
theorem string_get {R : Result → Shared → Prop} (hx : h.get? a = some (matchO x tx P sp)) (hq : R (.ok (.ret (.str x tx))) ⟨h, g, d, t, os⟩) :
    codeAny (model prog w) A (.call (.builtin "member_descriptor.__get__") ⟨[.builtin "re.Match.string", .ref a, .type "re.Match"], []⟩) R ⟨h, g, d, t, os⟩ := by
  have hT : (⟨h, g, d, t, os⟩ : Shared).TypeIs (.ref a) "re.Match" := ⟨_, hx, rfl⟩
  have hT5 : (⟨h, g, d, t, os⟩ : Shared).TypeIs (.builtin "re.Match.string") "member_descriptor" := type_string
  have f8 : isSubtype (.type "re.Match") (.type (".".intercalate ("re.Match.string".cutAt '.').dropLast)) = pure true := by rw [owner_m_string]; exact sub_m_m
  refine codeAny_call_builtin slot_mb_get.plain entry_mb_get (slot_mb_get.check _ _ _ _ _ _ _ _ hT5 (args_mb_get _ _ _) ?_)
  repeat (any_goals (first | assumption | wp_step))
  refine ⟨Code.quiet_builtin _ (by decide +kernel), codeAny_builtin entry_m_string ?_⟩
  unfold Builtin.«re.Match.string»
  refine wpAny_bind (wpAny_field hx rfl rfl ?_)
  exact wpAny_pure hq
theorem string_entry {tk : Tok} {Q : Fin → Shared → Prop} (hx : h.get? a = some (matchO x tx P sp)) (hq : Q (.done (.ret (.str x tx))) ⟨h, g, d, t, os⟩) :
    wpAny (model prog w) A (Builtin.«object.__getattribute__» ⟨[.ref a, .str "string" tk], []⟩) Q E ⟨h, g, d, t, os⟩ := by
  have hT : (⟨h, g, d, t, os⟩ : Shared).TypeIs (.ref a) "re.Match" := ⟨_, hx, rfl⟩
  have hT5 : (⟨h, g, d, t, os⟩ : Shared).TypeIs (.builtin "re.Match.string") "member_descriptor" := type_string
  have f4 := look_string
  have f5 := type_string
  have f6 := slot_mb_get.lookup
  have f7 := slot_mb_set.lookup
  repeat (any_goals (first | assumption | wp_step))
  refine string_get hx ?_
  repeat (any_goals (first | assumption | wp_step))
theorem string_attr {expr : Bool} {Q : Value → Shared → Prop} (hx : h.get? a = some (matchO x tx P sp)) (hq : Q (.str x tx) ⟨h, g, d, t + 1, os⟩) :
    wpAny (model prog w) A (getAttr (.ref a) "string" expr) Q E ⟨h, g, d, t, os⟩ := by
  have hT : ∀ t', (⟨h, g, d, t', os⟩ : Shared).TypeIs (.ref a) "re.Match" := fun _ => ⟨_, hx, rfl⟩
  have f2 := slot_match_ga.lookup
  have f3 := slot_match_ga.bind (.ref a)
  have hx0 : (expr && onTheHeap (Value.builtin "object.__getattribute__")) = false := by cases expr <;> rfl
  unfold getAttr
  refine wpAny_bind (wpAny_mkText ?_)
  have hT' := hT (t + 1)
  repeat (any_goals (first | assumption | wp_step))
  refine codeAny_call_builtin slot_match_ga.plain entry_obj_ga (slot_match_ga.check _ _ _ _ _ _ _ _ (hT (t + 1)) (args_obj_ga _ _) (string_entry hx ?_))
  repeat (any_goals (first | assumption | wp_step))
end
end Mine
end

-- Fw6
section
open PySem PyProof.Rows PySem.W PySem.Builtin PySem.Builtin.Re
set_option Elab.async false
set_option linter.all false
set_option maxRecDepth 100000
namespace Mine
variable {prog : Program} {w : World} {A : Around} {E : Value → Shared → Prop} {s : Shared} {h : Heap} {tk : Nat} {env : Env}
theorem keptSub {h₀ : Heap} : KeptH (fun h => Sub h₀ h) := fun _ ob k => k.trans (Sub.push _ ob)
section
variable {M : Model}
theorem intU {i : Int} {k pos} {Q : Value → Shared → Prop} (hQ : ∀ t tk', Q (.int i t) (up s h tk')) : wpAny M A (eval (.Constant (.int i) k pos) env) Q E (up s h tk) := wpAny_Constant_int (hQ _ _)
theorem strU {x : Str} {k pos} {Q : Value → Shared → Prop} (hQ : ∀ t tk', Q (.str x t) (up s h tk')) : wpAny M A (eval (.Constant (.str x) k pos) env) Q E (up s h tk) := wpAny_Constant_str (hQ _ _)
theorem boolU {b : Bool} {k pos} {Q : Value → Shared → Prop} (hQ : Q (.bool b) (up s h tk)) : wpAny M A (eval (.Constant (.bool b) k pos) env) Q E (up s h tk) := wpAny_Constant_bool hQ
theorem noneU {k pos} {Q : Value → Shared → Prop} (hQ : Q .none (up s h tk)) : wpAny M A (eval (.Constant .none k pos) env) Q E (up s h tk) := wpAny_Constant_none hQ
end
theorem span0U {a x EE b e} {tk1 : Tok} {Q : Value → Shared → Prop} (m : IsM h a x EE b e)
    (hQ : ∀ t1 t2 T h' tk', Sub h h' → h.get? T = none → h'.get? T = some { cls := .type "tuple", data := .seq #[.int 0 t1, .int EE t2] } → Q (.ref T) (up s h' tk')) :
    wpAny (model prog w) A (call (.builtin "re.Match.span") [.ref a, .int 0 tk1]) Q E (up s h tk) :=
  span0 (s := up s h tk) m (hQ _ _ _ _ _ (Sub.push _ _) (get_size_none h) (Heap.get?_push_size _ rfl))
theorem group1U {a x EE b e} {tk1 : Tok} {Q : Value → Shared → Prop} (m : IsM h a x EE b e) (hx : x.cps.size ≤ 1000)
    (hQ : ∀ t tk', Q (.str ⟨x.cps.extract b e⟩ t) (up s h tk')) : wpAny (model prog w) A (call (.builtin "re.Match.group") [.ref a, .int 1 tk1]) Q E (up s h tk) :=
  group1 (s := up s h tk) m hx (hQ _ _)
theorem stringU {a x EE b e} {expr : Bool} {Q : Value → Shared → Prop} (m : IsM h a x EE b e) (hQ : ∀ t tk', Q (.str x t) (up s h tk')) : wpAny (model prog w) A (getAttr (.ref a) "string" expr) Q E (up s h tk) := by
  obtain ⟨t, P, sp, m1, m2⟩ := m
  exact string_attr m1 (hQ _ _)
theorem tailU_ns {value slice : Expr} {x : Str} {t : Tok} {j : Int} {uj : Tok} {Q : Value → Shared → Prop} (hQ : ∀ h' t' k, Sub h h' → Q (.str (Txt.slice x none (some j)) t') (up s h' k)) (hsz : x.cps.size ≤ 1000)
    (hs : subscripted slice false (.str x t) (.ref h.objs.size) = operate [.ref h.objs.size, .str x t] (getItem (.str x t) (.ref h.objs.size)) := by with_unfolding_all rfl)
    (ht : ∀ r, letTemporaryGo value (.str x t) r = pure () := by intro _; with_unfolding_all rfl) :
    wpAny (model prog w) A (subscriptTail value slice (.str x t) (.ref h.objs.size)) Q E (up s (h.push { cls := .type "slice", data := .fields #[.none, .int j uj, .none] }) tk) :=
  tail_of_ItemOn (SBH.sliceItem_ns (s := up s h tk) keptSub (Sub.refl h) (fun h' t' k sb => hQ h' t' k sb) (sizeOk_small hsz)) hs ht
theorem tailU_sn {value slice : Expr} {x : Str} {t : Tok} {i : Int} {ui : Tok} {Q : Value → Shared → Prop} (hQ : ∀ h' t' k, Sub h h' → Q (.str (Txt.slice x (some i) none) t') (up s h' k)) (hsz : x.cps.size ≤ 1000)
    (hs : subscripted slice false (.str x t) (.ref h.objs.size) = operate [.ref h.objs.size, .str x t] (getItem (.str x t) (.ref h.objs.size)) := by with_unfolding_all rfl)
    (ht : ∀ r, letTemporaryGo value (.str x t) r = pure () := by intro _; with_unfolding_all rfl) :
    wpAny (model prog w) A (subscriptTail value slice (.str x t) (.ref h.objs.size)) Q E (up s (h.push { cls := .type "slice", data := .fields #[.int i ui, .none, .none] }) tk) :=
  tail_of_ItemOn (SBH.sliceItem_sn (s := up s h tk) keptSub (Sub.refl h) (fun h' t' k sb => hQ h' t' k sb) (sizeOk_small hsz)) hs ht
theorem addU {x y : Str} {t u : Tok} {Q : Value → Shared → Prop} (hQ : ∀ t' tk', Q (.str (x ++ y) t') (up s h tk')) (hsz : x.cps.size + y.cps.size ≤ 1000) : wpAny (model prog w) A (binaryOp .Add (.str x t) (.str y u)) Q E (up s h tk) :=
  PyProof.Rows.add_str (s := up s h tk) (fun t' tk' => hQ t' tk') (sizeOk_small hsz)
/-- a text of signs -/
def T (l : List Nat) : Str := ⟨l.toArray⟩
theorem T_size (l : List Nat) : (T l).cps.size = l.length := by simp [T]
theorem T_append (a b : List Nat) : T a ++ T b = T (a ++ b) := by
  show (⟨(T a).cps ++ (T b).cps⟩ : Str) = _
  simp [T]
theorem T_inj {a b : List Nat} (h : T a = T b) : a = b := by
  have := congrArg (fun x => x.cps.toList) h
  simpa [T] using this
theorem T_extract (l : List Nat) (b e : Nat) : (⟨(T l).cps.extract b e⟩ : Str) = T ((l.drop b).take (e - b)) := by
  simp [T, List.take_drop]
theorem pick_range (l : List Nat) (i : Nat) : ∀ n, i + n ≤ l.length → ((List.range n).map (fun (k : Nat) => i + k)).filterMap (fun k => l[k]?) = (l.drop i).take n
  | 0, _ => by simp
  | n + 1, h => by
    rw [List.range_succ, List.map_append, List.filterMap_append, pick_range l i n (by omega), List.take_succ]
    congr 1
    have hl : i + n < l.length := by omega
    simp [List.getElem?_eq_getElem hl]
theorem slice_T {l : List Nat} {lo hi : Option Int} {i n : Nat} (h : Str.strSliceIndices lo hi 1 l.length = (List.range n).map fun (k : Nat) => i + k) (hl : i + n ≤ l.length) : Txt.slice (T l) lo hi = T ((l.drop i).take n) := by
  have hl' : (T l).length = l.length := T_size l
  unfold Txt.slice
  rw [hl', h]
  split
  · rename_i hc
    simp only [List.length_map, List.length_range, Bool.and_eq_true, beq_iff_eq] at hc
    have h0 : i = 0 := by omega
    subst h0
    rw [List.drop_zero, hc.2, List.take_length]
  · have := pick_range l i n hl
    show (⟨_⟩ : Str) = ⟨_⟩
    congr 2
    rw [← this]
    simp [T]
theorem slice_to (l : List Nat) (j : Nat) : Txt.slice (T l) none (some (j : Int)) = T (l.take j) := by
  have e : Str.strSliceIndices none (some (j : Int)) 1 l.length = (List.range (min j l.length)).map fun (k : Nat) => 0 + k := by
    unfold Str.strSliceIndices sliceRange
    simp only [show (1 : Int) > 0 by decide, if_true]
    rw [if_neg (by omega : ¬ (j : Int) < 0)]
    have e1 : max 0 (min (j : Int) (l.length : Int)) = ((min j l.length : Nat) : Int) := by omega
    rw [e1]
    generalize min j l.length = q
    by_cases h0 : (0 : Int) < q
    · rw [if_pos h0]
      have : ((q : Int) - 0 + 1 - 1) / 1 = q := by rw [Int.ediv_one]; omega
      rw [this, Int.toNat_natCast]
      refine List.map_congr_left fun k _ => ?_
      show (0 + 1 * (k : Int)).toNat = 0 + k
      omega
    · rw [if_neg h0]
      have : q = 0 := by omega
      subst this; rfl
  rw [slice_T e (by omega), List.drop_zero]
  congr 1
  rw [List.take_eq_take_iff]
  omega
theorem slice_from (l : List Nat) (i : Nat) : Txt.slice (T l) (some (i : Int)) none = T (l.drop i) := by
  have e : Str.strSliceIndices (some (i : Int)) none 1 l.length = (List.range (l.length - min i l.length)).map fun (k : Nat) => min i l.length + k := by
    unfold Str.strSliceIndices sliceRange
    simp only [show (1 : Int) > 0 by decide, if_true]
    rw [if_neg (by omega : ¬ (i : Int) < 0)]
    have e1 : max 0 (min (i : Int) (l.length : Int)) = ((min i l.length : Nat) : Int) := by omega
    rw [e1]
    have hq : min i l.length ≤ l.length := by omega
    generalize min i l.length = q at hq
    by_cases h0 : (q : Int) < l.length
    · rw [if_pos h0]
      have : ((l.length : Int) - q + 1 - 1) / 1 = ((l.length - q : Nat) : Int) := by rw [Int.ediv_one]; omega
      rw [this, Int.toNat_natCast]
      refine List.map_congr_left fun k _ => ?_
      show ((q : Int) + 1 * (k : Int)).toNat = q + k
      omega
    · rw [if_neg h0]
      have : l.length - q = 0 := by omega
      rw [this]; rfl
  rw [slice_T e (by omega)]
  congr 1
  rcases Nat.le_total i l.length with h | h
  · rw [Nat.min_eq_left h, List.take_of_length_le (by rw [List.length_drop]; exact Nat.le_refl _)]
  · rw [Nat.min_eq_right h, List.drop_of_length_le h, List.drop_length]; simp
theorem unmatched_ok {B : Heap} {a : Addr} {l : List Nat} {EE b e : Nat} {Q : Value → Shared → Prop} (hroom : A.depth < recursionLimit) (hc : Calm A B) (hB : Sub B h) (hf : FnOk h 43 "unmatched" 3) (hlim : h.NoLimit) (hm : IsM h a (T l) EE b e) (hx : l.length ≤ 400)
    (hQ : ∀ h' tk t', Sub h h' → Q (.str (T (l.drop EE)) t') (up s h' tk)) :
    wpAny (model prog w) A (call (.ref 43) [.ref a]) Q E (up s h tk) := by
  obtain ⟨o, pm, cd, doc, h1, h2, h3⟩ := hf
  refine wpAny_call (call_pos_ret hroom h1 h2 hlim h3 rfl (locs (by rfl)) (fun h₁ F => ?_) (by rfl) (by rfl) (by rfl) (by decide +kernel))
  show wpAny _ _ _ _ _ (up s h₁ _)
  generalize (up s h tk).toks + _ = tk1
  refine wpAny_execs_cons ?_
  refine Assign_Tuple ?_
  refine wpAny_Call_method (by rfl) (by rfl) (by rfl) pa_match slot_span type_span ?_
  refine ld F (by rfl) ?_
  have hm1 : IsM h₁ a (T l) EE b e := hm.keeps F.keep
  refine ⟨hm1.type, fun a' ha' => ?_, ?_⟩
  · cases ha'
    obtain ⟨tk, P, sp, m1, m2⟩ := hm1
    exact ⟨_, m1, rfl⟩
  refine callWith_method1 ?_
  refine args_cons ?_
  refine intU fun t0 tk2 => ?_
  refine args_nil ?_
  refine span0U hm1 fun t1 t2 TT h₂ tk3 k₂ hT hT2 => ?_
  refine unpack_calm hc (hB.trans (Sub.trans F.keep k₂)) ⟨_, hT2, rfl, _, rfl⟩ (by rfl) (by rfl) fun h₃ k₃ => ?_
  have F3 : Fr h _ h₃ _ := ⟨F.ns.keeps (k₂.trans k₃), fun b o e => k₃ _ _ (k₂ _ _ (F.keep b o e)), F.above⟩
  refine wpAny_assignInOrder_more ?_
  refine wpAny_assign_Name ?_
  refine st F3 fun h₄ F4 => ?_
  refine wpAny_assignInOrder_more ?_
  refine wpAny_assign_Name ?_
  refine st F4 fun h₅ F5 => ?_
  refine wpAny_pure ?_
  show wpAny _ _ _ _ _ (up s h₅ _)
  have hm5 : IsM h₅ a (T l) EE b e := hm.keeps F5.keep
  refine wpAny_execs_cons ?_
  refine wpAny_Return_some ?_
  refine wpAny_BinOp ?_
  refine Subscript_ ?_
  refine Attribute_Name_ ?_
  refine ld F5 (by rfl) ?_
  refine stringU hm5 fun t6 tk6 => ?_
  refine wpAny_Slice ?_
  refine wpAny_evalPart_none ?_
  refine wpAny_evalPart_some ?_
  refine ld F5 (by rfl) ?_
  refine wpAny_evalPart_none ?_
  refine tailU_ns (fun h₆ t7 tk7 k₆ => ?_) (by rw [T_size]; omega)
  have F6 : Fr h _ h₆ _ := ⟨F5.ns.keeps k₆, fun b o e => k₆ _ _ (F5.keep b o e), F5.above⟩
  have hm6 : IsM h₆ a (T l) EE b e := hm.keeps F6.keep
  refine Subscript_ ?_
  refine Attribute_Name_ ?_
  refine ld F6 (by rfl) ?_
  refine stringU hm6 fun t8 tk8 => ?_
  refine wpAny_Slice ?_
  refine wpAny_evalPart_some ?_
  refine ld F6 (by rfl) ?_
  refine wpAny_evalPart_none ?_
  refine wpAny_evalPart_none ?_
  refine tailU_sn (fun h₇ t9 tk9 k₇ => ?_) (by rw [T_size]; omega)
  have e1 : Txt.slice (T l) none (some 0) = T [] := by
    have := slice_to l 0
    rw [List.take_zero] at this
    exact this
  rw [e1, slice_from l EE]
  refine addU (fun t' tk' => ?_) ?_
  · rw [T_append, List.nil_append]
    exact hQ _ _ _ fun b o e => k₇ _ _ (F6.keep b o e)
  · rw [T_size, T_size, List.length_drop]
    simp only [List.length_nil]; omega
end Mine
end

-- Fw7
section
open PySem PyProof.Rows PySem.W PySem.Builtin PySem.Builtin.Re
set_option Elab.async false
set_option linter.all false
set_option maxRecDepth 100000
namespace Mine
variable {prog : Program} {w : World} {A : Around} {E : Value → Shared → Prop} {s : Shared} {h : Heap} {tk : Nat}
theorem esc_unesc : ∀ u : List Nat, (esc u = none → unesc u = u) ∧ ∀ i, esc u = some i → unesc u = u.take i ++ (u.drop (i + 1)).take 1 ++ unesc (u.drop (i + 2))
  | [] => ⟨fun _ => rfl, fun i h => by simp [esc] at h⟩
  | [c] => by
    refine ⟨fun _ => ?_, fun i h => by simp [esc] at h⟩
    by_cases hc : c = 92
    · subst hc; rfl
    · rw [unesc_plain hc]; rfl
  | c :: d :: r => by
    have ih := esc_unesc (d :: r)
    have ih2 := esc_unesc r
    by_cases hc : c = 92
    · subst hc
      by_cases hd : d = 10
      · subst hd
        have e1 : esc (92 :: 10 :: r) = (esc (10 :: r)).map (· + 1) := by rw [esc.eq_def]; rfl
        have e2 : esc (10 :: r) = (esc r).map (· + 1) := by rw [esc.eq_def]; rfl
        have e3 : unesc (92 :: 10 :: r) = 92 :: 10 :: unesc r := by rw [unesc.eq_def]; rfl
        rw [e1, e2, e3]
        refine ⟨fun h => ?_, fun i h => ?_⟩
        · cases hz : esc r with
          | none => rw [ih2.1 hz]
          | some v => rw [hz] at h; cases h
        · cases hz : esc r with
          | none => rw [hz] at h; cases h
          | some v =>
            rw [hz] at h
            have hi : v + 1 + 1 = i := Option.some.inj h
            subst hi
            rw [ih2.2 v hz]; rfl
      · have hb : (d != 10) = true := by simpa using hd
        have hb' : (d == 10) = false := by simpa using hd
        have e1 : esc (92 :: d :: r) = some 0 := by rw [esc.eq_def]; simp only [hb]; rfl
        have e3 : unesc (92 :: d :: r) = d :: unesc r := by rw [unesc.eq_def]; simp only [hb']; rfl
        rw [e1, e3]
        refine ⟨fun h => (by cases h), fun i h => ?_⟩
        cases h
        rfl
    · have hb : (c == 92) = false := by simpa using hc
      have e1 : esc (c :: d :: r) = (esc (d :: r)).map (· + 1) := by rw [esc.eq_def]; simp only [hb]; rfl
      rw [e1, unesc_plain hc]
      refine ⟨fun h => ?_, fun i h => ?_⟩
      · cases hz : esc (d :: r) with
        | none => rw [ih.1 hz]
        | some v => rw [hz] at h; cases h
      · cases hz : esc (d :: r) with
        | none => rw [hz] at h; cases h
        | some v =>
          rw [hz] at h
          have hi : v + 1 = i := Option.some.inj h
          subst hi
          rw [ih.2 v hz]; rfl
/-- a def of one match: its first group -/
def LamOk (prog : Program) (w : World) (A : Around) (h₁ : Heap) (f : Addr) : Prop := ∀ (s : Shared) (h : Heap) (tk : Nat) (m : Addr) (x : Str) (EE b e : Nat) (st : Nat) (Q : Value → Shared → Prop) (E : Value → Shared → Prop),
  Sub h₁ h → (∃ t P sp, h.get? m = some (matchO x t P sp) ∧ h.get? sp = some (spanO st EE b e)) → x.cps.size ≤ 1000 → b < e → e ≤ x.cps.size → (∀ h' t' tk', Sub h h' → Q (.str ⟨x.cps.extract b e⟩ t') (up s h' tk')) → wpAny (model prog w) A (call (.ref f) [.ref m]) Q E (up s h tk)
theorem whole_of {P : Addr} {C : Array Nat} {g : Nat} {x : Str} {t : Tok} {Q : ReTarget → Shared → Prop} (hP : Pat s.heap P C g) (h : Q (tgt P x t C g) s) :
    wpAny (model prog w) A (reWholeTarget (.ref P) (.str x t)) Q E s := by
  obtain ⟨c, vs, src, fl, h1, h2, h3⟩ := hP
  unfold reWholeTarget
  refine wpAny_bind (wpAny_fieldsOf h1 rfl ?_)
  show wpAny _ _ ((pure (x.cps, 0) : Sem (Array Nat × Nat)) >>= _) _ _ _
  refine wpAny_bind (wpAny_pure ?_)
  show wpAny _ _ ((reRawItems (.ref c)) >>= _) _ _ _
  refine wpAny_bind (raw_items h2 rfl ?_)
  refine wpAny_pure ?_
  show Q { pattern := .ref P, string := .str x t, code := (vs.map reRawOf).map (·.toNat), text := x.cps, kind := 0, groups := reRawNat (.int g 0), pos := 0, lim := x.cps.size } s
  rw [h3]
  exact h
/-- the texts put together -/
def lst (l : List (Str × Tok)) (n : Nat) : Obj := { cls := .type "list", data := .seq (strValues l).toArray n }
theorem push_str {D : Addr} {l : List (Str × Tok)} {n : Nat} {x : Str} {t : Tok} {h₀ : Heap} {Q : Unit → Shared → Prop} (hD : h.get? D = some (lst l n)) (h0 : h₀.get? D = none) (hs : Sub h₀ h) (hl : l.length ≤ 1000)
    (hQ : ∀ h' n', Sub h₀ h' → h'.get? D = some (lst (l ++ [(x, t)]) n') → Q () (up s h' tk)) : wpAny (model prog w) A (updateSeq D (·.push (.str x t))) Q E (up s h tk) := by
  refine wpAny_updateSeq (s := up s h tk) hD rfl ?_ (by show (strValues l).toArray.size ≤ sizeLine; rw [sizeLine_eq]; simp [strValues]; omega) (by show ((strValues l).toArray.push (.str x t)).size ≤ sizeLine + 1; rw [sizeLine_eq]; simp [strValues]; omega)
  refine hQ _ (n + 1) (fun b o e => ?_) ?_
  · have hne : b ≠ D := by rintro rfl; rw [h0] at e; cases e
    show (h.update D _).get? b = some o
    rw [Heap.get?_update_other _ _ (Ne.symm hne)]
    exact hs _ _ e
  · show (h.update D _).get? D = _
    rw [Heap.get?_update_self _ hD rfl]
    simp [lst, Obj.mapSeq, strValues]
theorem sub_fn_call : typeLookup (.type "function") "__call__" = pure (some (.builtin "function.__call__")) := by rw [typeLookup_type, builtinLookup_eq_fast]; kernel_rfl
theorem sub_str_call : typeLookup (.type "str") "__call__" = pure none := by rw [typeLookup_type, builtinLookup_eq_fast]; kernel_rfl
end Mine
end

-- Fw8
section
open PySem PyProof.Rows PySem.W PySem.Builtin PySem.Builtin.Re
set_option Elab.async false
set_option linter.all false
set_option maxRecDepth 100000
namespace Mine
variable {prog : Program} {w : World} {A : Around} {E : Value → Shared → Prop} {s : Shared} {h : Heap} {tk : Nat}
theorem unesc_len : ∀ u : List Nat, (unesc u).length ≤ u.length
  | [] => by simp [unesc]
  | [c] => by
    by_cases hc : c = 92
    · subst hc; simp [unesc]
    · rw [unesc_plain hc]; simp [unesc]
  | c :: d :: r => by
    have i1 := unesc_len (d :: r)
    have i2 := unesc_len r
    by_cases hc : c = 92
    · subst hc
      rw [unesc.eq_def]
      simp only
      split
      · split
        · simp only [List.length_cons]; omega
        · simp only [List.length_cons]; omega
      · rename_i hh; exact absurd rfl hh
    · rw [unesc_plain hc]
      simp only [List.length_cons] at i1 ⊢; omega
theorem plain_loop : plainId "re.Pattern.sub.loop" = true := by decide +kernel
theorem glue_fold : ∀ (texts : List (List Nat)) (acc : Array Nat), (texts.map T).foldl (fun acc p => acc ++ (T []).cps ++ p.cps) acc = acc ++ texts.flatten.toArray
  | [], acc => by simp
  | t :: r, acc => by
    rw [List.map_cons, List.foldl_cons, glue_fold r]
    simp [T]
theorem join_empty (texts : List (List Nat)) : Txt.join (T []) (texts.map T) = T texts.flatten := by
  unfold Txt.join Str.glued
  cases texts with
  | nil => rfl
  | cons t r =>
    simp only [List.map_cons, List.drop_succ_cons, List.drop_zero, List.headD_cons]
    rw [glue_fold r]
    simp [T]
theorem len_fold : ∀ (texts : List (List Nat)) (k : Nat), (texts.map T).foldl (fun a x => a + x.length + (T []).length) k = k + texts.flatten.length
  | [], k => by simp
  | t :: r, k => by
    rw [List.map_cons, List.foldl_cons, len_fold r]
    have e1 : (T t).length = t.length := T_size t
    have e2 : (T []).length = 0 := T_size []
    simp only [e1, e2, List.flatten_cons, List.length_append]; omega
theorem join_ok {texts : List (List Nat)} (h : texts.flatten.length ≤ 1000) : JoinOk (T []) (texts.map T) = true := by
  unfold JoinOk Str.tooLong
  rw [Bool.not_eq_true', decide_eq_false_iff_not]
  have e : (texts.map T).toArray.foldl (fun a x => a + x.length + (T []).length) 0 = 0 + texts.flatten.length := by
    rw [List.foldl_toArray]; exact len_fold texts 0
  rw [e, sizeLine_eq]; omega
theorem next_found {P : Addr} {x : List Nat} {tv : Tok} {C : Array Nat} {g pos st e : Nat} {must : Bool} {marks : Array (Option Nat)} {lm li : Int} {Q : Option Sre.M → Shared → Prop} (hS : SEnds C x g pos must (Matched st e marks lm li))
    (hQ : ∀ m, Matched st e marks lm li m → Q (some m) s) : wpAny (model prog w) A (reNextFound (tgt P (T x) tv C g) pos must) Q E s := by
  obtain ⟨j, hj, ho, hm⟩ := hS
  rw [show x.toArray = (T x).cps from rfl, show x.length = (T x).cps.size from (T_size x).symm] at ho hm
  unfold reNextFound
  refine run_to_end j hj ho ?_
  have hm1 := hm.1
  simp only [tgt]
  rw [hm1]
  exact hQ _ hm
theorem next_none {P : Addr} {x : List Nat} {tv : Tok} {C : Array Nat} {g pos : Nat} {must : Bool} {Q : Option Sre.M → Shared → Prop} (hS : SEnds C x g pos must Failed)
    (hQ : Q none s) : wpAny (model prog w) A (reNextFound (tgt P (T x) tv C g) pos must) Q E s := by
  obtain ⟨j, hj, ho, hm⟩ := hS
  rw [show x.toArray = (T x).cps from rfl, show x.length = (T x).cps.size from (T_size x).symm] at ho hm
  unfold reNextFound
  refine run_to_end j hj ho ?_
  have hm1 : _ = some _ := hm
  simp only [tgt]
  rw [hm1]
  exact hQ
theorem slice_reU {x : List Nat} {b e : Nat} {Q : Value → Shared → Prop} (hx : x.length ≤ 1000) (hQ : ∀ t tk', Q (.str (T ((x.drop b).take (e - b))) t) (up s h tk')) : wpAny (model prog w) A (reSlice (T x).cps 0 b e) Q E (up s h tk) := by
  unfold reSlice
  show wpAny _ _ (mkStr ⟨(T x).cps.extract b e⟩) _ _ _
  rw [T_extract]
  refine wpAny_mkStr (hQ _ _) ?_
  show (T ((x.drop b).take (e - b))).cps.size ≤ sizeLine
  rw [T_size, sizeLine_eq, List.length_take, List.length_drop]; omega
def loopC (f : Value) (way : Int) (P : Addr) (v : List Nat) (tv : Tok) (n d : Int) (D : Addr) (wc : Bool) : Code :=
  .builtin "re.Pattern.sub.loop" ⟨[.ref P, .str (T v) tv, f, rawInt way, rawInt 0, rawInt n, rawInt d, rawInt d, .bool false, .ref D, .bool wc], []⟩
/-- the end: all put together -/
theorem loop_tail {D : Addr} {x : List Nat} {h₀ : Heap} {l : List (Str × Tok)} {m : Nat} {texts : List (List Nat)} {kf : Value → Sem Fin} {Q : Fin → Shared → Prop} (hx : x.length ≤ 1000) (hs : Sub h₀ h) (hD : h.get? D = some (lst l m)) (ht : l.map (·.1) = texts.map T) (hlt : texts.flatten.length ≤ 1000)
    (hQ : ∀ t' tk', wpAny (model prog w) A (kf (.str (T texts.flatten) t')) Q E (up s h tk')) :
    wpAny (model prog w) A (do
      let joiner ← reSlice (T x).cps 0 0 0
      let its ← seqItems? (.ref D)
      if (its.getD #[]).isEmpty = true then (do let text ← pure joiner; kf text)
      else (do let text ← call (.builtin (if ((0 : Nat) == 0) = true then "str.join" else "bytes.join")) [joiner, .ref D]; kf text)) Q E (up s h tk) := by
  refine wpAny_bind (slice_reU hx fun t1 tk1 => ?_)
  have e0 : (x.drop 0).take (0 - 0) = [] := by simp
  rw [e0]
  refine wpAny_bind (wpAny_seqItems (s := up s h tk1) hD rfl ?_)
  cases l with
  | nil =>
    have e1 : texts = [] := by
      cases texts with
      | nil => rfl
      | cons a b => simp at ht
    subst e1
    exact wpAny_bind (wpAny_pure (hQ _ _))
  | cons p r =>
    refine wpAny_bind (SC.join (s := up s h tk1) (l := p :: r) (texts := texts.map T) ⟨_, hD, rfl, _, rfl⟩ ht (join_ok hlt) fun t' k => ?_)
    rw [join_empty]
    exact hQ _ _
theorem esc_loop {f P D : Addr} {v : List Nat} {tv : Tok} {h₀ : Heap} {R : Result → Shared → Prop} (hv : v.length ≤ 500) (hlam : LamOk prog w A.in1 h₀ f) (hP : Pat h₀ P cEsc 1) (h0 : h₀.get? D = none)
    (hR : ∀ h' t' tk', Sub h₀ h' → R (.ok (.ret (.str (T (unesc v)) t'))) (up s h' tk')) :
    ∀ (k : Nat) (d n : Nat) (h : Heap) (tk : Nat) (l : List (Str × Tok)) (m : Nat) (texts : List (List Nat)), v.length - d = k → d ≤ v.length → Sub h₀ h → h.get? D = some (lst l m) → l.length ≤ 2 * d → l.map (·.1) = texts.map T → texts.flatten ++ unesc (v.drop d) = unesc v →
      codeAny (model prog w) A (loopC (.ref f) 1 P v tv n d D false) R (up s h tk) := by
  intro k
  induction k using Nat.strongRecOn with
  | ind k ih =>
    intro d n h tk l m texts hk hd hs hD hl ht hun
    unfold loopC
    refine codeAny_builtin entry_loop ?_
    rw [Around.under_plainId plain_loop]
    unfold Builtin.«re.Pattern.sub.loop»
    show wpAny _ _ (reWholeTarget (.ref P) (.str (T v) tv) >>= _) _ _ _
    refine wpAny_bind (whole_of (s := up s h tk) (hP.keeps hs) ?_)
    show wpAny _ _ ((reNextFound (tgt P (T v) tv cEsc 1) d false) >>= _) _ _ _
    cases he : esc (v.drop d) with
    | none =>
      refine wpAny_bind (next_none (esc_none (t := v) (by omega) hd he) ?_)
      have e := (esc_unesc (v.drop d)).1 he
      rw [e] at hun
      have hlen : (unesc v).length ≤ 1000 := Nat.le_trans (unesc_len v) (by omega)
      show wpAny _ _ (if (d : Int).toNat < (T v).cps.size then _ else _) _ _ _
      rw [Int.toNat_natCast, T_size]
      by_cases hlt : d < v.length
      · rw [if_pos hlt]
        refine wpAny_bind (slice_reU (by omega) fun t1 tk1 => ?_)
        refine wpAny_bind (push_str (h₀ := h₀) hD h0 hs (by omega) fun h2 m2 s2 D2 => ?_)
        have e2 : (v.drop d).take ((tgt P (T v) tv cEsc 1).lim - d) = v.drop d := by
          rw [show (tgt P (T v) tv cEsc 1).lim = v.length from T_size v]; exact List.take_of_length_le (by simp)
        have e3 : (texts ++ [v.drop d]).flatten = unesc v := by simp [hun]
        refine loop_tail (x := v) (texts := texts ++ [v.drop d]) (by omega) s2 D2 ?_ (by rw [e3]; exact hlen) fun t' tk' => ?_
        · simp only [List.map_append, ht, List.map_cons, List.map_nil]
          rw [e2]
        · rw [e3]
          exact wpAny_pure (hR _ _ _ s2)
      · rw [if_neg hlt]
        have e3 : texts.flatten = unesc v := by rw [← hun, List.drop_of_length_le (by omega)]; simp
        refine loop_tail (x := v) (texts := texts) (by omega) hs hD ht (by rw [e3]; exact hlen) fun t' tk' => ?_
        rw [e3]
        exact wpAny_pure (hR _ _ _ hs)
    | some i =>
      obtain ⟨hS, hil⟩ := esc_some (t := v) (by omega) hd he
      refine wpAny_bind (next_found hS fun mm hm => ?_)
      obtain ⟨_, h1, h2, h3, h4, h5⟩ := id hm
      simp only
      rw [h1, h2]
      have e := (esc_unesc (v.drop d)).2 i he
      -- from the match on
      have go : ∀ (h : Heap) (tk : Nat) (l : List (Str × Tok)) (m : Nat) (texts : List (List Nat)), Sub h₀ h → h.get? D = some (lst l m) → l.length ≤ 2 * d + 1 → l.map (·.1) = texts.map T → texts.flatten ++ (v.drop (d + i + 1)).take 1 ++ unesc (v.drop (d + i + 2)) = unesc v →
          wpAny (model prog w) A.in1 (do
            let found ← reNewMatch (.ref P) (.str (T v) tv) 1 0 (T v).cps.size mm
            let item ← holding [found] (call (.ref f) [found])
            if (item != .none) = true then updateSeq D (·.push item)
            again (.builtin "re.Pattern.sub.loop" ⟨[.ref P, .str (T v) tv, .ref f, rawInt 1, rawInt 0, rawInt ((n : Int) + 1), rawInt ((d + i + 2 : Nat) : Int), rawInt ((d + i + 2 : Nat) : Int), .bool ((d + i + 2) == d + i), .ref D, .bool false], []⟩))
            (fun fin s' => match fin with | .done f => R (.ok f) s' | .again c' => c'.quiet = true ∧ codeAny (model prog w) A c' R s') (fun e s' => R (.error e) s') (up s h tk) := by
        intro h tk l m texts hs hD hl ht hun
        refine wpAny_bind (new_match (s := up s h tk) hm (by omega) ?_)
        have k1 : Sub h ((h.push (spanO (d + i) (d + i + 2) (d + i + 1) (d + i + 2))).push (matchO (T v) tv P h.objs.size)) := (Sub.push _ _).trans (Sub.push _ _)
        refine wpAny_bind (wpAny_holding (hlam s _ tk _ (T v) (d + i + 2) (d + i + 1) (d + i + 2) (d + i) _ _ (hs.trans k1) ⟨tv, P, h.objs.size, ?_, ?_⟩ (by rw [T_size]; omega) (by omega) (by rw [T_size]; omega) fun h2 t2 tk2 k2 => ?_))
        · have := Heap.get?_push_size (h.push (spanO (d + i) (d + i + 2) (d + i + 1) (d + i + 2))) (o := matchO (T v) tv P h.objs.size) rfl
          rw [Heap.size_push] at this
          exact this
        · exact Heap.get?_push_of_some _ (Heap.get?_push_size _ rfl)
        · rw [T_extract, show d + i + 2 - (d + i + 1) = 1 by omega]
          rw [if_pos (by rfl)]
          refine wpAny_bind (push_str (x := T ((v.drop (d + i + 1)).take 1)) (t := t2) (h₀ := h₀) (k2 _ _ (k1 _ _ hD)) h0 ((hs.trans k1).trans k2) (by omega) fun h3 m3 s3 D3 => ?_)
          refine wpAny_pure ⟨Code.quiet_builtin _ (by decide +kernel), ?_⟩
          have hb : ((d + i + 2) == d + i) = false := by simp
          rw [hb]
          exact ih (v.length - (d + i + 2)) (by omega) (d + i + 2) (n + 1) h3 tk2 _ m3 (texts ++ [(v.drop (d + i + 1)).take 1]) rfl (by omega) s3 D3 (by simp only [List.length_append, List.length_cons, List.length_nil]; omega) (by simp [ht]) (by simp only [List.flatten_append, List.flatten_cons, List.flatten_nil, List.append_nil]; exact hun)
      by_cases hlt : d < d + i
      · rw [if_pos (by simpa using hlt)]
        refine wpAny_bind (slice_reU (by omega) fun t1 tk1 => ?_)
        refine wpAny_bind (push_str (h₀ := h₀) hD h0 hs (by omega) fun h2 m2 s2 D2 => ?_)
        refine go h2 tk1 _ m2 (texts ++ [(v.drop d).take i]) s2 D2 (by simp only [List.length_append, List.length_cons, List.length_nil]; omega) ?_ ?_
        · simp only [List.map_append, ht, List.map_cons, List.map_nil]
          congr 4
          rw [Int.toNat_natCast]; omega
        · rw [e] at hun
          rw [List.drop_drop, List.drop_drop] at hun
          simp only [List.flatten_append, List.flatten_cons, List.flatten_nil, List.append_nil, List.append_assoc] at hun ⊢
          rw [← hun]
          simp only [Nat.add_assoc]
      · rw [if_neg (by simpa using hlt)]
        have i0 : i = 0 := by omega
        refine go h tk l m texts hs hD (by omega) ht ?_
        rw [e] at hun
        rw [List.drop_drop, List.drop_drop] at hun
        subst i0
        simp only [List.take_zero, List.nil_append, List.append_assoc] at hun ⊢
        exact hun
theorem isi_str_ba : isSubtype (.type "str") (.type "bytearray") = pure false := by rw [isSubtype_type]; kernel_rfl
/-- HEADER_ESCAPE_RE.sub(f, v) -/
theorem sub_ok {f P : Addr} {v : List Nat} {tv : Tok} {Q : Value → Shared → Prop} (hv : v.length ≤ 500) (hP : Pat h P cEsc 1) (hf : ∃ fd, h.get? f = some { cls := .type "function", data := .func fd }) (hlam : LamOk prog w A.in1 h f)
    (hQ : ∀ h' t' tk', Sub h h' → Q (.str (T (unesc v)) t') (up s h' tk')) :
    wpAny (model prog w) A (call (.builtin "re.Pattern.sub") [.ref P, .ref f, .str (T v) tv]) Q E (up s h tk) := by
  have hT : (up s h tk).TypeIs (.ref P) "re.Pattern" := by
    obtain ⟨c, vs, src, fl, h1, h2, h3⟩ := hP
    exact ⟨_, h1, rfl⟩
  obtain ⟨fd, hf⟩ := hf
  refine wpAny_call (codeAny_call_builtin slot_sub.plain entry_sub (slot_sub.check _ _ _ _ _ _ _ _ hT (args_sub _ _ _) ?_))
  unfold Builtin.«re.Pattern.sub» reSubstitute
  show wpAny _ _ ((reNamed "re.Pattern.sub" "sub" ["repl", "string", "count"] 2 [.ref f, .str (T v) tv] []) >>= _) _ _ _
  have e : reNamed "re.Pattern.sub" "sub" ["repl", "string", "count"] 2 [.ref f, .str (T v) tv] [] = pure [some (.ref f), some (.str (T v) tv), none] := rfl
  rw [e]
  refine wpAny_bind (wpAny_pure ?_)
  refine wpAny_bind (wpAny_pure ?_)
  refine wpAny_bind (wpAny_specialOf (T := "function") ⟨_, hf, rfl⟩ sub_fn_call ?_)
  show wpAny _ _ (holding [.ref f] (reWholeTarget (.ref P) (.str (T v) tv)) >>= _) _ _ _
  refine wpAny_bind (wpAny_holding (whole_of (s := up s h tk) hP ?_))
  show wpAny _ _ (reNotHeld "re.Pattern.sub" (.str (T v) tv) >>= _) _ _ _
  refine wpAny_bind ?_
  unfold reNotHeld
  refine wpAny_bind (wpAny_isInstance (T := "str") (typeIs_str _ _ _) isi_str_ba ?_)
  simp only [Bool.false_eq_true, if_false]
  refine wpAny_pure ?_
  refine wpAny_bind (wpAny_newObj_type (T := "list") (data := .seq ([] : List Value).toArray) ?_ (by show (0 : Nat) ≤ sizeLine; exact Nat.zero_le _))
  refine wpAny_pure ⟨Code.quiet_builtin _ (by decide +kernel), ?_⟩
  exact esc_loop (prog := prog) (w := w) (A := A) (s := s) (h₀ := h) hv hlam hP (get_size_none h) (fun h' t' tk' k => hQ h' t' tk' k) (v.length - 0) 0 0 _ tk [] 0 [] rfl (Nat.zero_le _) (Sub.push _ _) (Heap.get?_push_size _ rfl) (Nat.le_refl _) rfl rfl
end Mine
end

-- Fw9
section
open PySem PyProof.Rows PySem.W PySem.Builtin PySem.Builtin.Re
set_option Elab.async false
set_option linter.all false
set_option maxRecDepth 100000
namespace Mine
variable {prog : Program} {w : World} {A : Around} {E : Value → Shared → Prop} {s : Shared} {h : Heap} {tk : Nat}
theorem twin_turn1 {P D : Addr} {x : List Nat} {tv tr : Tok} {e n d : Nat} {h₀ : Heap} {R : Result → Shared → Prop} (ha : Al x) (hx : x.length ≤ 500) (hP : Pat h₀ P cTwin 0) (he : (x.takeWhile isJ).length = e) (hd : d = 0) (h0 : e ≠ 0) (hD0 : h₀.get? D = none) (hs : Sub h₀ h) (hD : h.get? D = some (lst [] 0))
    (hR : ∀ h' m, Sub h₀ h' → h'.get? D = some (lst [(T [], tr)] m) → codeAny (model prog w) A (loopC (.str (T []) tr) 0 P x tv ((n : Int) + 1) e D true) R (up s h' tk)) :
    codeAny (model prog w) A (loopC (.str (T []) tr) 0 P x tv n d D true) R (up s h tk) := by
  unfold loopC
  refine codeAny_builtin entry_loop ?_
  rw [Around.under_plainId plain_loop]
  unfold Builtin.«re.Pattern.sub.loop»
  show wpAny _ _ (reWholeTarget (.ref P) (.str (T x) tv) >>= _) _ _ _
  refine wpAny_bind (whole_of (s := up s h tk) (hP.keeps hs) ?_)
  show wpAny _ _ (reLiteralCannotBeTurned (.str (T []) tr) >>= _) _ _ _
  refine wpAny_bind (show wpAny _ _ (pure ()) _ _ _ from wpAny_pure ?_)
  show wpAny _ _ ((reNextFound (tgt P (T x) tv cTwin 0) d false) >>= _) _ _ _
  have hS : SEnds cTwin x 0 d false (Matched 0 e #[] (-1) (-1)) := by rw [hd]; exact twin_first ha (by omega) he
  refine wpAny_bind (next_found hS fun mm hm => ?_)
  obtain ⟨_, h1, h2, h3, h4, h5⟩ := id hm
  simp only
  rw [h1, h2]
  rw [if_neg (by simp)]
  have hb : (e == 0) = false := by simpa using h0
  rw [hb]
  show wpAny _ _ (pure (Value.str (T []) tr) >>= _) _ _ _
  refine wpAny_bind (wpAny_pure ?_)
  show wpAny _ _ (updateSeq D (·.push (.str (T []) tr)) >>= _) _ _ _
  refine wpAny_bind (push_str (h₀ := h₀) hD hD0 hs (by simp) fun h2 m2 s2 D2 => ?_)
  exact wpAny_pure ⟨Code.quiet_builtin _ (by decide +kernel), hR _ _ s2 D2⟩
theorem twin_turn2 {P D : Addr} {x : List Nat} {tv tr : Tok} {e n m : Nat} {h₀ : Heap} {Q : Value → Shared → Prop} (hx : x.length ≤ 500) (hP : Pat h₀ P cTwin 0) (h0 : e ≠ 0) (hel : e ≤ x.length) (hD0 : h₀.get? D = none) (hs : Sub h₀ h) (hD : h.get? D = some (lst [(T [], tr)] m))
    (hQ : ∀ h' t1 t2 R tk', Sub h₀ h' → h₀.get? R = none → h'.get? R = some { cls := .type "tuple", data := .seq #[.str (T (x.drop e)) t1, .int n t2] } → Q (.ref R) (up s h' tk')) :
    codeAny (model prog w) A (loopC (.str (T []) tr) 0 P x tv n e D true) (fun r s' => match r with | .ok (.ret v) => Q v s' | .ok _ => False | .error e => E e s') (up s h tk) := by
  unfold loopC
  refine codeAny_builtin entry_loop ?_
  rw [Around.under_plainId plain_loop]
  unfold Builtin.«re.Pattern.sub.loop»
  show wpAny _ _ (reWholeTarget (.ref P) (.str (T x) tv) >>= _) _ _ _
  refine wpAny_bind (whole_of (s := up s h tk) (hP.keeps hs) ?_)
  show wpAny _ _ (reLiteralCannotBeTurned (.str (T []) tr) >>= _) _ _ _
  refine wpAny_bind (show wpAny _ _ (pure ()) _ _ _ from wpAny_pure ?_)
  show wpAny _ _ ((reNextFound (tgt P (T x) tv cTwin 0) e false) >>= _) _ _ _
  refine wpAny_bind (next_none (twin_rest (by omega) h0 hel) ?_)
  show wpAny _ _ (if (e : Int).toNat < (T x).cps.size then _ else _) _ _ _
  rw [Int.toNat_natCast, T_size]
  have fin : ∀ (h3 : Heap) (t' : Tok) (tk' : Nat), Sub h₀ h3 → wpAny (model prog w) A.in1 (do
      let r ← holding [Value.str (T (x.drop e)) t'] (do let i ← mkInt n; newTuple [.str (T (x.drop e)) t', i])
      ret r)
      (fun fin s' => match fin with
        | .done f => (match (Except.ok f : Result) with | .ok (.ret v) => Q v s' | .ok _ => False | .error e => E e s')
        | .again c' => c'.quiet = true ∧ codeAny (model prog w) A c' (fun r s' => match r with | .ok (.ret v) => Q v s' | .ok _ => False | .error e => E e s') s')
      (fun e s' => E e s') (up s h3 tk') := by
    intro h3 t' tk' k3
    refine wpAny_bind (wpAny_holding (wpAny_bind (wpAny_mkInt ?_)))
    refine wpAny_newObj_type ?_ (by show (2 : Nat) ≤ sizeLine; rw [sizeLine_eq]; decide)
    refine wpAny_pure ?_
    exact hQ _ t' _ _ _ (k3.trans (Sub.push _ _)) (sub_none k3 (get_size_none h3)) (Heap.get?_push_size _ rfl)
  by_cases hlt : e < x.length
  · rw [if_pos hlt]
    refine wpAny_bind (slice_reU (by omega) fun t1 tk1 => ?_)
    refine wpAny_bind (push_str (h₀ := h₀) hD hD0 hs (by simp) fun h3 m3 s3 D3 => ?_)
    have e2 : (x.drop e).take ((tgt P (T x) tv cTwin 0).lim - e) = x.drop e := by
      rw [show (tgt P (T x) tv cTwin 0).lim = x.length from T_size x]; exact List.take_of_length_le (by simp)
    have e3 : ([[], x.drop e] : List (List Nat)).flatten = x.drop e := by simp
    refine loop_tail (x := x) (texts := [[], x.drop e]) (by omega) s3 D3 ?_ (by rw [e3, List.length_drop]; omega) fun t' tk' => ?_
    · simp only [List.nil_append, List.cons_append, List.map_cons, List.map_nil]
      rw [e2]
    · rw [e3]
      exact fin _ _ _ s3
  · rw [if_neg hlt]
    have e4 : x.drop e = [] := List.drop_of_length_le (by omega)
    refine loop_tail (x := x) (texts := [[]]) (by omega) hs hD rfl (by simp) fun t' tk' => ?_
    have := fin h t' tk' hs
    rw [e4] at this
    exact this
/-- _twin_re_5.subn('', x) -/
theorem subn_ok {P : Addr} {x : List Nat} {tv tr : Tok} {e : Nat} {Q : Value → Shared → Prop} (ha : Al x) (hx : x.length ≤ 500) (hP : Pat h P cTwin 0) (he : (x.takeWhile isJ).length = e) (h0 : e ≠ 0)
    (hQ : ∀ h' t1 t2 R tk', Sub h h' → h.get? R = none → h'.get? R = some { cls := .type "tuple", data := .seq #[.str (T (x.drop e)) t1, .int 1 t2] } → Q (.ref R) (up s h' tk')) :
    wpAny (model prog w) A (call (.builtin "re.Pattern.subn") [.ref P, .str (T []) tr, .str (T x) tv]) Q E (up s h tk) := by
  have hT : (up s h tk).TypeIs (.ref P) "re.Pattern" := by
    obtain ⟨c, vs, src, fl, h1, h2, h3⟩ := hP
    exact ⟨_, h1, rfl⟩
  have hel : e ≤ x.length := he ▸ takeWhile_le _ _
  refine wpAny_call (codeAny_call_builtin slot_subn.plain entry_subn (slot_subn.check _ _ _ _ _ _ _ _ hT (args_subn _ _ _) ?_))
  unfold Builtin.«re.Pattern.subn» reSubstitute
  show wpAny _ _ ((reNamed "re.Pattern.subn" "subn" ["repl", "string", "count"] 2 [.str (T []) tr, .str (T x) tv] []) >>= _) _ _ _
  have en : reNamed "re.Pattern.subn" "subn" ["repl", "string", "count"] 2 [.str (T []) tr, .str (T x) tv] [] = pure [some (.str (T []) tr), some (.str (T x) tv), none] := rfl
  rw [en]
  refine wpAny_bind (wpAny_pure ?_)
  refine wpAny_bind (wpAny_pure ?_)
  refine wpAny_bind (wpAny_specialOf (T := "str") (typeIs_str _ _ _) sub_str_call ?_)
  show wpAny _ _ (asStr? (.str (T []) tr) >>= _) _ _ _
  refine wpAny_bind (show wpAny _ _ (pure (some (T []))) _ _ _ from wpAny_pure ?_)
  have hct : (T []).cps.contains 92 = false := by simp [T]
  simp only [hct]
  refine wpAny_bind (wpAny_pure ?_)
  show wpAny _ _ (holding [.str (T []) tr] (reWholeTarget (.ref P) (.str (T x) tv)) >>= _) _ _ _
  refine wpAny_bind (wpAny_holding (whole_of (s := up s h tk) hP ?_))
  refine wpAny_bind (wpAny_newObj_type (T := "list") (data := .seq ([] : List Value).toArray) ?_ (by show (0 : Nat) ≤ sizeLine; exact Nat.zero_le _))
  refine wpAny_pure ⟨Code.quiet_builtin _ (by decide +kernel), ?_⟩
  have hD : (h.push { cls := .type "list", data := .seq ([] : List Value).toArray }).get? h.objs.size = some (lst [] 0) := Heap.get?_push_size _ rfl
  have k1 : Sub h (h.push { cls := .type "list", data := .seq ([] : List Value).toArray }) := Sub.push _ _
  refine twin_turn1 (n := 0) (d := 0) (h₀ := h) ha hx hP he rfl h0 (get_size_none h) k1 hD fun h' m k D' => ?_
  exact twin_turn2 (n := 1) (h₀ := h) hx hP h0 hel (get_size_none h) k D' hQ
end Mine
end

-- Fx1
section
open PySem PyProof.Rows PySem.W PySem.Builtin PySem.Builtin.Re
set_option Elab.async false
set_option linter.all false
set_option maxRecDepth 100000
namespace Mine
section
variable {K base h h' : Heap} {hid : Addr → Obj → Prop} {L : Addr} {S : St}
def hideOne (hid : Addr → Obj → Prop) (it : Addr) (o : Obj) : Addr → Obj → Prop := fun b x => hid b x ∨ (b = it ∧ x = o)
theorem Hk.hide (H : Hk K base hid L S h) {it : Addr} {o : Obj} (ho : h.get? it = some o) (hk : K.get? it = none) (hL : it ≠ L) (ht : it ≠ tab) (hm : it ∉ S.mu.map (·.1)) : Hk K base (hideOne hid it o) L S h := by
  obtain ⟨bk, kh, kL, kt, Lt, loc, fac, kob, mu, nd, hd, tb⟩ := H
  refine ⟨bk, kh, kL, kt, Lt, loc, fac, kob, mu, nd, fun b x hx => ?_, tb⟩
  rcases hx with hx | ⟨rfl, rfl⟩
  · exact hd b x hx
  · exact ⟨ho, hk, hL, ht, hm⟩
theorem Hk.unhide {it : Addr} {o : Obj} (H : Hk K base (hideOne hid it o) L S h) : Hk K base hid L S h ∧ h.get? it = some o ∧ K.get? it = none ∧ it ≠ L ∧ it ≠ tab ∧ it ∉ S.mu.map (·.1) := by
  obtain ⟨bk, kh, kL, kt, Lt, loc, fac, kob, mu, nd, hd, tb⟩ := H
  exact ⟨⟨bk, kh, kL, kt, Lt, loc, fac, kob, mu, nd, fun b x hx => hd b x (.inl hx), tb⟩, hd it o (.inr ⟨rfl, rfl⟩)⟩
/-- an object that nobody else looks at has turned; things may have come -/
theorem Hk.turn (H : Hk K base hid L S h) {it : Addr} (hk : K.get? it = none) (hL : it ≠ L) (ht : it ≠ tab) (hm : it ∉ S.mu.map (·.1)) (hh : ∀ o, ¬ hid it o) (e : Heap.ExtBut it h h') : Hk K base hid L S h' := by
  obtain ⟨bk, kh, kL, kt, Lt, ⟨m, n1, n2⟩, fac, kob, mu, nd, hd, tb⟩ := H
  refine ⟨bk, fun b o x => e b o (fun q => by subst q; rw [hk] at x; cases x) (kh _ _ x), kL, kt, Lt, ⟨m, n1.extBut e (Ne.symm hL), n2⟩, fac, kob, fun p hp => ?_, nd, fun b o x => ?_, tb.sub (Sub.refl K) fun o x => e _ _ (Ne.symm ht) x⟩
  · obtain ⟨m1, m2, m3, vs, n, as, m4, m5, m6⟩ := mu p hp
    exact ⟨m1, m2, m3, vs, n, as, e _ _ (fun q => hm (by rw [← q]; exact List.mem_map_of_mem hp)) m4, m5, m6⟩
  · obtain ⟨q1, q2, q3⟩ := hd b o x
    exact ⟨e _ _ (fun q => by subst q; exact hh _ x) q1, q2, q3⟩
/-- things came, and stay outside what is frozen -/
theorem Hk.mono (H : Hk K base hid L S h) (e : Sub h h') : Hk K base hid L S h' := by
  obtain ⟨bk, kh, kL, kt, Lt, ⟨m, n1, n2⟩, fac, kob, mu, nd, hd, tb⟩ := H
  refine ⟨bk, kh.trans e, kL, kt, Lt, ⟨m, n1.keeps e, n2⟩, fac, kob, fun p hp => ?_, nd, fun b o x => ?_, tb.sub (Sub.refl K) fun o x => e _ _ x⟩
  · obtain ⟨m1, m2, m3, vs, n, as, m4, m5, m6⟩ := mu p hp
    exact ⟨m1, m2, m3, vs, n, as, e _ _ m4, m5, m6⟩
  · obtain ⟨q1, q2, q3⟩ := hd b o x
    exact ⟨e _ _ q1, q2, q3⟩
theorem Hk.out (H : Hk K base hid L S h) {a : Addr} (hn : h.get? a = none) : K.get? a = none ∧ a ≠ L ∧ a ≠ tab ∧ a ∉ S.mu.map (·.1) ∧ ∀ o, ¬ hid a o := by
  obtain ⟨bk, kh, kL, kt, Lt, ⟨m, n1, n2⟩, fac, kob, mu, nd, hd, ⟨ps, t1, t2⟩⟩ := H
  refine ⟨sub_none kh hn, ?_, ?_, ?_, fun o x => ?_⟩
  · rintro rfl; obtain ⟨o, _, _, q, _⟩ := n1; rw [hn] at q; cases q
  · rintro rfl; rw [hn] at t1; cases t1
  · intro q
    obtain ⟨p, hp, rfl⟩ := List.mem_map.mp q
    obtain ⟨m1, m2, m3, vs, n, as, m4, _⟩ := mu p hp
    rw [hn] at m4; cases m4
  · have := (hd a o x).1; rw [hn] at this; cases this
/-- a new list that will turn -/
theorem Hk.newMut (H : Hk K base hid L S h) {a : Addr} {vs : Array Value} {n : Nat} {ds : List PyData} (e : Sub h h') (hn : h.get? a = none) (ho : h'.get? a = some { cls := .type "list", data := .seq vs n })
    (hr : ∃ as, ReadsAll K vs.toList ds as ∧ ∀ b ∈ as, Nw base K b) : Hk K base hid L { S with mu := (a, ds) :: S.mu } h' := by
  obtain ⟨o1, o2, o3, o4, o5⟩ := H.out hn
  obtain ⟨bk, kh, kL, kt, Lt, loc, fac, kob, mu, nd, hd, tb⟩ := H.mono e
  obtain ⟨as, r1, r2⟩ := hr
  refine ⟨bk, kh, kL, kt, Lt, loc, fac, kob, fun p hp => ?_, List.nodup_cons.mpr ⟨o4, nd⟩, fun b o x => ?_, tb⟩
  · rcases List.mem_cons.mp hp with rfl | hp
    · exact ⟨o1, o2, o3, vs, n, as, ho, r1, r2⟩
    · exact mu p hp
  · obtain ⟨q1, q2, q3, q4, q5⟩ := hd b o x
    refine ⟨q1, q2, q3, q4, fun hb => ?_⟩
    rcases List.mem_cons.mp hb with rfl | hb
    · exact o5 _ x
    · exact q5 hb
theorem ReadsAll_snoc {K : Heap} : ∀ {vs : List Value} {ds : List PyData} {as : List Addr} {v : Value} {d : PyData} {bs : List Addr}, ReadsAll K vs ds as → Reads K v d bs → ReadsAll K (vs ++ [v]) (ds ++ [d]) (as ++ bs)
  | _, _, _, v, d, bs, .nil, r => by
    have := ReadsAll.cons r (ReadsAll.nil (h := K))
    simpa using this
  | _, _, _, v, d, bs, .cons q p, r => by
    have := ReadsAll.cons q (ReadsAll_snoc p r)
    simpa using this
/-- one more item in the first of the lists -/
theorem Hk.append (H : Hk K base hid L S h) {a : Addr} {ds : List PyData} {r : List (Addr × List PyData)} (hS : S.mu = (a, ds) :: r) {v : Value} {d : PyData} (hr : ∃ as, Reads K v d as ∧ ∀ b ∈ as, Nw base K b)
    {items : Array Value} (hi : h.PlainList a items) (hi' : h'.PlainList a (items.push v)) (sb : Heap.SameBut a h h') : Hk K base hid L { S with mu := (a, ds ++ [d]) :: r } h' := by
  obtain ⟨bk, kh, kL, kt, Lt, ⟨m, n1, n2⟩, fac, kob, mu, nd, hd, tb⟩ := H
  rw [hS] at mu nd hd
  obtain ⟨m1, m2, m3, vs, n, as, m4, m5, m6⟩ := mu (a, ds) (.head _)
  obtain ⟨bs, r1, r2⟩ := hr
  have e : ∀ b o, b ≠ a → h.get? b = some o → h'.get? b = some o := fun b o hb x => (sb.2 b hb).trans x
  have hne : ∀ p ∈ r, p.1 ≠ a := fun p hp q => (List.nodup_cons.mp nd).1 (List.mem_map.mpr ⟨p, hp, q⟩)
  refine ⟨bk, fun b o x => e b o (fun q => by subst q; rw [m1] at x; cases x) (kh _ _ x), kL, kt, Lt, ⟨m, n1.sameBut sb (Ne.symm m2), n2⟩, fac, kob, fun p hp => ?_, nd, fun b o x => ?_, tb.sub (Sub.refl K) fun o x => e _ _ (Ne.symm m3) x⟩
  · rcases List.mem_cons.mp hp with rfl | hp
    · obtain ⟨n', q⟩ := hi'
      obtain ⟨n0, q0⟩ := hi
      rw [q0] at m4
      have ev : items = vs := by injection (Option.some.inj m4) with _ _ e2 _; injection e2
      subst ev
      exact ⟨m1, m2, m3, _, n', as ++ bs, q, by rw [Array.toList_push]; exact ReadsAll_snoc m5 r1, fun b hb => (List.mem_append.mp hb).elim (m6 b) (r2 b)⟩
    · obtain ⟨p1, p2, p3, vs', n', as', p4, p5, p6⟩ := mu p (.tail _ hp)
      exact ⟨p1, p2, p3, vs', n', as', e _ _ (hne p hp) p4, p5, p6⟩
  · obtain ⟨q1, q2, q3, q4, q5⟩ := hd b o x
    exact ⟨e _ _ (fun q => by subst q; exact q5 (.head _)) q1, q2, q3, q4, q5⟩
theorem Hk.swap (H : Hk K base hid L S h) {p q : Addr × List PyData} {r : List (Addr × List PyData)} (hS : S.mu = p :: q :: r) : Hk K base hid L { S with mu := q :: p :: r } h := by
  obtain ⟨bk, kh, kL, kt, Lt, loc, fac, kob, mu, nd, hd, tb⟩ := H
  rw [hS] at mu nd hd
  have pm : ∀ x, x ∈ q :: p :: r ↔ x ∈ p :: q :: r := fun x => by simp only [List.mem_cons]; exact ⟨fun h => by rcases h with h | h | h <;> simp [h], fun h => by rcases h with h | h | h <;> simp [h]⟩
  refine ⟨bk, kh, kL, kt, Lt, loc, fac, kob, fun x hx => mu x ((pm x).mp hx), ?_, fun b o x => ?_, tb⟩
  · have : (List.map (·.1) (q :: p :: r)).Perm (List.map (·.1) (p :: q :: r)) := List.Perm.swap _ _ _
    exact this.nodup_iff.mpr nd
  · obtain ⟨q1, q2, q3, q4, q5⟩ := hd b o x
    refine ⟨q1, q2, q3, q4, fun hb => q5 ?_⟩
    simp only [List.map_cons, List.mem_cons] at hb ⊢
    rcases hb with h | h | h <;> simp [h]
/-- the first of the lists is frozen -/
theorem Hk.freeze (H : Hk K base hid L S h) {a : Addr} {ds : List PyData} {r : List (Addr × List PyData)} (hS : S.mu = (a, ds) :: r) :
    ∃ K', Sub K K' ∧ (∃ as, Reads K' (.ref a) (.list ds) as ∧ ∀ b ∈ as, Nw base K' b) ∧ Hk K' base hid L { S with mu := r } h := by
  obtain ⟨bk, kh, kL, kt, Lt, loc, fac, kob, mu, nd, hd, tb⟩ := H
  rw [hS] at mu nd hd
  obtain ⟨m1, m2, m3, vs, n, as, m4, m5, m6⟩ := mu (a, ds) (.head _)
  have hsub : Sub K (rest h fun b => (∃ o, K.get? b = some o) ∨ b = a) := fun b o x => rest_get.mpr ⟨kh _ _ x, .inl ⟨o, x⟩⟩
  have out : ∀ b, K.get? b = none → b ≠ a → (rest h fun b => (∃ o, K.get? b = some o) ∨ b = a).get? b = none := fun b h1 h2 => rest_none (by
    rintro (⟨o, x⟩ | x)
    · rw [h1] at x; cases x
    · exact h2 x)
  have hne : ∀ p ∈ r, p.1 ≠ a := fun p hp q => (List.nodup_cons.mp nd).1 (List.mem_map.mpr ⟨p, hp, q⟩)
  refine ⟨_, hsub, ⟨a :: as, Reads.list (rest_get.mpr ⟨m4, .inr rfl⟩) rfl rfl (ReadsAll.keeps hsub m5), fun b hb => ?_⟩, ?_⟩
  · rcases List.mem_cons.mp hb with rfl | hb
    · exact ⟨sub_none bk m1, fun _ => ⟨vs, n, rest_get.mpr ⟨m4, .inr rfl⟩⟩⟩
    · exact (m6 b hb).keeps hsub
  · refine ⟨bk.trans hsub, fun b o x => (rest_get.mp x).1, out L kL (Ne.symm m2), out tab kt (Ne.symm m3), Lt, loc, fac.sub hsub, kob.sub hsub, fun p hp => ?_, (List.nodup_cons.mp nd).2, fun b o x => ?_, tb.sub hsub fun o x => x⟩
    · obtain ⟨p1, p2, p3, vs', n', as', p4, p5, p6⟩ := mu p (.tail _ hp)
      exact ⟨out _ p1 (hne p hp), p2, p3, vs', n', as', p4, ReadsAll.keeps hsub p5, fun a ha => (p6 a ha).keeps hsub⟩
    · obtain ⟨q1, q2, q3, q4, q5⟩ := hd b o x
      exact ⟨q1, out b q2 (fun q => q5 (by rw [q]; exact .head _)), q3, q4, fun hb => q5 (.tail _ hb)⟩
theorem Hk.plain (H : Hk K base hid L S h) {a : Addr} {ds : List PyData} (hS : (a, ds) ∈ S.mu) : ∃ items, h.PlainList a items ∧ items.size = ds.length := by
  obtain ⟨m1, m2, m3, vs, n, as, m4, m5, m6⟩ := H.mu _ hS
  refine ⟨vs, ⟨n, m4⟩, ?_⟩
  have : ∀ {vs : List Value} {ds : List PyData} {as : List Addr}, ReadsAll K vs ds as → vs.length = ds.length := by
    intro vs ds as r
    induction vs generalizing ds as with
    | nil => cases r; rfl
    | cons v vs ih => cases r with | cons q p => simp [ih p]
  simpa using this m5
end
end Mine
end

-- Fx2
section
open PySem PyProof.Rows PySem.W PySem.Builtin PySem.Builtin.Re
set_option Elab.async false
set_option linter.all false
set_option maxRecDepth 100000
namespace Mine
theorem space_al : ∀ c ∈ al, Unicode.isSpace c = isW c := by decide +kernel
theorem comma_T : Str.ofString "," = T [44] := by decide +kernel
theorem empty_T : Str.ofString "" = T [] := by decide +kernel
theorem takeWhile_congr_al {f g : Nat → Bool} (hfg : ∀ c ∈ al, f c = g c) : ∀ {t : List Nat}, Al t → t.takeWhile f = t.takeWhile g
  | [], _ => rfl
  | c :: t, ht => by
    rw [List.takeWhile_cons, List.takeWhile_cons, hfg c (ht c (.head _)), takeWhile_congr_al hfg fun c hc => ht c (.tail _ hc)]
theorem lstrip_T {t : List Nat} (ht : Al t) : Txt.lstrip (T t) = T (t.dropWhile isW) := by
  unfold Txt.lstrip Txt.stripBy
  have e1 : stripLo Unicode.isSpace true (T t) = (t.takeWhile isW).length := by
    unfold stripLo
    simp only [if_true]
    rw [show (T t).cps.toList = t by simp [T], takeWhile_congr_al space_al ht]
  have e2 : ∀ lo, stripHi Unicode.isSpace false (T t) lo = t.length := fun lo => by
    unfold stripHi
    simp only [Bool.false_eq_true, if_false]
    exact T_size t
  unfold stripSame PySem.stripped
  rw [e1, e2]
  have e3 : (T t).length = t.length := T_size t
  rw [e3]
  split
  · rename_i hc
    simp only [Bool.and_eq_true, beq_iff_eq] at hc
    rw [dropWhile_drop, hc.1, List.drop_zero]
  · have := StrLaws.strSub_toList (T t) (t.takeWhile isW).length t.length
    rw [show (T t).cps.toList = t by simp [T], List.take_of_length_le (by simp)] at this
    rw [dropWhile_drop]
    have h2 : (Str.strSub (T t) (t.takeWhile isW).length t.length).cps = ((t.drop (t.takeWhile isW).length)).toArray := by
      rw [← this]
    show (⟨(Str.strSub (T t) (t.takeWhile isW).length t.length).cps⟩ : Str) = _
    rw [h2]; rfl
theorem rstrip_T {t : List Nat} (ht : Al t) (hv : ∀ c ∈ t, isW c = false) : Txt.rstrip (T t) = T t := by
  unfold Txt.rstrip Txt.stripBy
  have e1 : stripLo Unicode.isSpace false (T t) = 0 := rfl
  have e2 : stripHi Unicode.isSpace true (T t) 0 = t.length := by
    unfold stripHi
    simp only [if_true, List.drop_zero]
    rw [show (T t).cps.toList = t by simp [T]]
    have e3 : (T t).length = t.length := T_size t
    have : (t.reverse.takeWhile Unicode.isSpace) = [] := by
      cases hr : t.reverse with
      | nil => rfl
      | cons c r =>
        have hc : c ∈ t := by rw [← List.mem_reverse, hr]; exact .head _
        rw [List.takeWhile_cons, space_al c (ht c hc), hv c hc]; rfl
    rw [this, e3]; rfl
  unfold stripSame
  rw [e1, e2]
  have e3 : (T t).length = t.length := T_size t
  rw [e3]
  simp
theorem starts_T (u : List Nat) : Txt.startswith (T u) (T [44]) = decide (u.head? = some 44) := by
  unfold Txt.startswith
  rw [StrLaws.subAt_eq]
  have e1 : (T [44]).length = 1 := T_size [44]
  have e2 : (T u).length = u.length := T_size u
  rw [e1, e2]
  cases u with
  | nil => rfl
  | cons c r =>
    simp [T]
    by_cases h : c = 44 <;> simp [h]
section
variable {prog : Program} {w : World} {A : Around} {E : Value → Shared → Prop} {s : Shared} {h : Heap} {tk : Nat} {env : Env}
theorem truthU_str {x : List Nat} {t : Tok} {Q : Bool → Shared → Prop} (hx : x.length ≤ 1000) (hQ : ∀ tk', Q (!x.isEmpty) (up s h tk')) : wpAny (model prog w) A (truthy (.str (T x) t)) Q E (up s h tk) := by
  have e : (T x).length = x.length := T_size x
  refine PySem.P.truthy_str (s := up s h tk) (by rw [e]; omega) ?_
  have e2 : (((T x).length : Int) != 0) = !x.isEmpty := by
    rw [e]
    cases x with
    | nil => rfl
    | cons c r => simp only [List.length_cons, List.isEmpty_cons, Bool.not_false, bne_iff_ne]; omega
  rw [e2]
  exact hQ _
theorem no_bool_m : typeLookup (.type "re.Match") "__bool__" = pure none := by rw [typeLookup_type, builtinLookup_eq_fast]; kernel_rfl
theorem no_len_m : typeLookup (.type "re.Match") "__len__" = pure none := by rw [typeLookup_type, builtinLookup_eq_fast]; kernel_rfl
theorem truthU_match {a x EE b e} {Q : Bool → Shared → Prop} (m : IsM h a x EE b e) (hQ : Q true (up s h tk)) : wpAny (model prog w) A (truthy (.ref a)) Q E (up s h tk) := by
  have hT : (up s h tk).TypeIs (.ref a) "re.Match" := m.type (s := up s h tk)
  unfold truthy
  show wpAny _ _ ((callSpecial? (.ref a) "__bool__") >>= _) _ _ _
  refine wpAny_bind ?_
  unfold callSpecial?
  refine wpAny_bind (wpAny_specialOf hT no_bool_m (wpAny_pure ?_))
  show wpAny _ _ ((specialOf (.ref a) "__len__") >>= _) _ _ _
  exact wpAny_bind (wpAny_specialOf hT no_len_m (wpAny_pure hQ))
theorem truthU_none {Q : Bool → Shared → Prop} (hQ : Q false (up s h tk)) : wpAny (model prog w) A (truthy .none) Q E (up s h tk) := wpAny_pure hQ
theorem truthU_list {a : Addr} {items : Array Value} {Q : Bool → Shared → Prop} (hl : h.PlainList a items) (hx : items.size ≤ 1000) (hQ : ∀ tk', Q (!items.isEmpty) (up s h tk')) : wpAny (model prog w) A (truthy (.ref a)) Q E (up s h tk) :=
  wpAny_truthy_list (s := up s h tk) hl.isList (by omega) (hQ _)
/-- what is new -/
noncomputable def news (h h' : Heap) : Heap := rest h' fun a => h.get? a = none
theorem news_grow (K h h' : Heap) : Sub (news h h') (grow K h h') := fun b o x => let ⟨q1, q2⟩ := rest_get.mp x; rest_get.mpr ⟨q1, .inr q2⟩
theorem news_sub (h h' : Heap) : Sub (news h h') h' := fun b o x => (rest_get.mp x).1
theorem searchU_some {P : Addr} {C : Array Nat} {t v r : List Nat} {tt : Tok} {Q : Value → Shared → Prop} (hP : Pat h P C 1) (hx : t.length ≤ 1000) (hf : Finds C t v r)
    (hQ : ∀ m h' EE b e, Sub h h' → IsM (news h h') m (T t) EE b e → (t.drop b).take (e - b) = v → t.drop EE = r → EE ≤ t.length → Q (.ref m) (up s h' tk)) :
    wpAny (model prog w) A (call (.builtin "re.Pattern.search") [.ref P, .str (T t) tt]) Q E (up s h tk) := by
  obtain ⟨b, e, EE, hS, h1, h2, h3, h4, h5⟩ := hf
  refine search_found (s := up s h tk) (C := C) (b := b) (e := e) (EE := EE) hP (by rw [T_size]; exact hx) (by simpa [T] using hS) h1 ?_
  have hz : (h.push (spanO 0 EE b e)).objs.size = h.objs.size + 1 := by simp [Heap.push]
  refine hQ _ _ EE b e ((Sub.push _ _).trans (Sub.push _ _)) ⟨tt, P, h.objs.size, rest_get.mpr ⟨?_, Heap.get?_none_of_le (Nat.le_succ _)⟩, rest_get.mpr ⟨?_, get_size_none h⟩⟩ h4 h5 h3
  · have := Heap.get?_push_size (h.push (spanO 0 EE b e)) (o := matchO (T t) tt P h.objs.size) rfl
    rw [hz] at this
    exact this
  · exact Heap.get?_push_of_some _ (Heap.get?_push_size _ rfl)
theorem searchU_none {P : Addr} {C : Array Nat} {t : List Nat} {tt : Tok} {Q : Value → Shared → Prop} (hP : Pat h P C 1) (hx : t.length ≤ 1000) (hf : Misses C t) (hQ : Q .none (up s h tk)) :
    wpAny (model prog w) A (call (.builtin "re.Pattern.search") [.ref P, .str (T t) tt]) Q E (up s h tk) :=
  search_missed (s := up s h tk) hP (by rw [T_size]; exact hx) (by simpa [T, Misses] using hf) hQ
/-- a method of a pattern, of a match -/
theorem patM {o : Expr} {name : Str} {apos pos : Pos} {args : List Expr} {id : String} {P : Addr} {C : Array Nat} {g : Nat} {Q : Value → Shared → Prop}
    (slot : Slot "re.Pattern" name id) (hty : typeOf (.builtin id) = pure (.type "method_descriptor")) (hP : Pat h P C g)
    (hbase : attributeBase o name env (eval o env) = eval o env)
    (hfew : ((backTo pos (starEach args env)).all (fun x => !x.1) && (backToKw pos (keywordEach [] env)).all (fun x => x.1.isSome)
      && decide (args.length + ([] : List Keyword).length + (if ([] : List Keyword).isEmpty then 0 else 1) < 30)) = true)
    (hline : (apos.endLine == pos.line) = true)
    (ho : ∀ Q', Q' (.ref P) (up s h tk) → wpAny (model prog w) A (eval o env) Q' E (up s h tk))
    (hQ : wpAny (model prog w) A (callWith pos (.builtin id) [.ref P] (backTo pos (starEach args env)) []) Q E (up s h tk)) :
    wpAny (model prog w) A (eval (.Call (.Attribute o name apos) args [] pos) env) Q E (up s h tk) := by
  refine wpAny_Call_method hbase hfew hline pa_pat slot hty (ho _ ?_)
  obtain ⟨c, vs, src, fl, h1, h2, h3⟩ := hP
  exact ⟨⟨_, h1, rfl⟩, fun a e => by cases e; exact ⟨_, h1, rfl⟩, hQ⟩
theorem matchM {o : Expr} {name : Str} {apos pos : Pos} {args : List Expr} {id : String} {a : Addr} {x : Str} {EE b e : Nat} {Q : Value → Shared → Prop}
    (slot : Slot "re.Match" name id) (hty : typeOf (.builtin id) = pure (.type "method_descriptor")) (m : IsM h a x EE b e)
    (hbase : attributeBase o name env (eval o env) = eval o env)
    (hfew : ((backTo pos (starEach args env)).all (fun x => !x.1) && (backToKw pos (keywordEach [] env)).all (fun x => x.1.isSome)
      && decide (args.length + ([] : List Keyword).length + (if ([] : List Keyword).isEmpty then 0 else 1) < 30)) = true)
    (hline : (apos.endLine == pos.line) = true)
    (ho : ∀ Q', Q' (.ref a) (up s h tk) → wpAny (model prog w) A (eval o env) Q' E (up s h tk))
    (hQ : wpAny (model prog w) A (callWith pos (.builtin id) [.ref a] (backTo pos (starEach args env)) []) Q E (up s h tk)) :
    wpAny (model prog w) A (eval (.Call (.Attribute o name apos) args [] pos) env) Q E (up s h tk) := by
  refine wpAny_Call_method hbase hfew hline pa_match slot hty (ho _ ?_)
  obtain ⟨tk, P, sp, m1, m2⟩ := m
  exact ⟨⟨_, m1, rfl⟩, fun a e => by cases e; exact ⟨_, m1, rfl⟩, hQ⟩
end
end Mine
end

-- Fx3
section
open PySem PyProof.Rows PySem.W PySem.Builtin PySem.Builtin.Re
set_option Elab.async false
set_option linter.all false
set_option maxRecDepth 100000
namespace Mine
section
variable {K base h h' : Heap} {hid : Addr → Obj → Prop} {L : Addr} {S : St}
/-- the table of code turned, things came -/
theorem Hk.growTab (H : Hk K base hid L S h) (e : Heap.ExtBut tab h h') (t : TabOK (Mine.grow K h h') h') : Hk (Mine.grow K h h') base hid L S h' ∧ Sub K (Mine.grow K h h') := by
  obtain ⟨bk, kh, kL, kt, Lt, ⟨m, n1, n2⟩, fac, kob, mu, nd, hd, tb⟩ := H
  have ks : Sub K (Mine.grow K h h') := fun b o x => rest_get.mpr ⟨e _ _ (fun q => by subst q; rw [kt] at x; cases x) (kh _ _ x), .inl ⟨o, x⟩⟩
  obtain ⟨ps, t1, t2⟩ := id tb
  refine ⟨⟨bk.trans ks, fun b o x => (rest_get.mp x).1, ?_, grow_none kt t1, Lt, ⟨m, n1.extBut e Lt, n2⟩, fac.sub ks, kob.sub ks, fun p hp => ?_, nd, fun b o x => ?_, t⟩, ks⟩
  · obtain ⟨oL, _, _, hL, _⟩ := n1
    exact grow_none kL hL
  · obtain ⟨m1, m2, m3, vs, n, as, m4, m5, m6⟩ := mu p hp
    exact ⟨grow_none m1 m4, m2, m3, vs, n, as, e _ _ m3 m4, ReadsAll.keeps ks m5, fun a ha => (m6 a ha).keeps ks⟩
  · obtain ⟨q1, q2, q3, q4, q5⟩ := hd b o x
    exact ⟨e _ _ q4 q1, grow_none q2 q1, q3, q4, q5⟩
end
section
variable {prog : Program} {w : World} {A : Around} {E : Value → Shared → Prop} {s : Shared} {h : Heap} {tk : Nat} {K base : Heap} {hid : Addr → Obj → Prop} {L a : Addr} {S : St} {scope : Scope} {mg mb : Str → Option Value}
/-- the lambda of split_header_words -/
theorem lamU {params : Arguments} {body : Expr} {sc : Scope} {pos : Pos} {Q : Value → Shared → Prop} (H : Hk K base hid L S h) (G : Gnd mg mb K) (hpos : pos.line = 26 ∧ pos.col = 49)
    (hdef : defaultsOf params (envOf "split_header_words" scope L a (.ref 69)) = ([], [])) (hcl : closureFor sc (envOf "split_header_words" scope L a (.ref 69)) = pure [])
    (hQ : ∀ K' h' tk' f c' pm ctv, Sub K K' → Hk K' base hid L S h' → K'.get? f = some (kla_obj "<lambda>" lamQual params body sc [] pm c' ctv) → K'.CodeRec (.ref c') lamQual → Q (.ref f) (up s h' tk')) :
    wpAny (model prog w) A (eval (.Lambda params body sc pos) (envOf "split_header_words" scope L a (.ref 69))) Q E (up s h tk) := by
  have Gh := G.sub H.kh
  have hq : ((envOf "split_header_words" scope L a (.ref 69)).qual ++ "<lambda>") = lamQual := by
    show ((("split_header_words" : Str) ++ (".<locals>." : Str)) ++ ("<lambda>" : Str)) = lamQual
    decide +kernel
  refine kla_eval hdef ?_
  rw [hq]
  obtain ⟨ps, t1, t2⟩ := H.tb
  rcases t2 with rfl | ⟨c, rfl, hc⟩
  · refine kla_makeFunction (s := up s h tk) (c := 69) (P := 65) (mg := mg) hcl rfl Gh.g rfl Gh.code t1 trivial rfl (by decide) Gh.bAt fun c' ctv h' tk' hx hge hlt hrec htb => ?_
    have hx2 : Heap.ExtBut tab h (h'.push (kla_obj "<lambda>" lamQual params body sc [] ((mg "__name__").getD .none) c' ctv)) := fun b o hb x => Heap.get?_push_of_some _ (hx b o hb x)
    have hnew : h.get? c' = none := Heap.get?_none_of_le hge
    obtain ⟨c2, oc, vs, t, e2, hoc, hd, hv⟩ := hrec
    cases e2
    have hk : (Mine.grow K h (h'.push (kla_obj "<lambda>" lamQual params body sc [] ((mg "__name__").getD .none) c' ctv))).get? c' = some oc := grow_new hnew (Heap.get?_push_of_some _ hoc)
    have hrec' : (Mine.grow K h (h'.push (kla_obj "<lambda>" lamQual params body sc [] ((mg "__name__").getD .none) c' ctv))).CodeRec (.ref c') lamQual := ⟨c', oc, vs, t, rfl, hk, hd, hv⟩
    obtain ⟨H', ks⟩ := H.growTab hx2 ⟨#[rawInt 26, rawInt 49, .ref c'], Heap.get?_push_of_some _ (by
      have := htb
      rw [hpos.1, hpos.2] at this
      exact this), .inr ⟨c', rfl, hrec'⟩⟩
    refine hQ _ _ _ _ c' _ ctv ks H' (grow_new (Heap.get?_none_of_le (Nat.le_trans hge (Nat.le_of_lt hlt))) (Heap.get?_push_size _ rfl)) hrec'
  · refine kla_makeFunctionHit (s := up s h tk) (c := 69) (P := 65) (mg := mg) (cv := .ref c) hcl rfl Gh.g rfl Gh.code t1 trivial (by
      show codeAmong pos [rawInt 26, rawInt 49, .ref c] = _
      show (if ((26 : Int) == pos.line && (49 : Int) == pos.col) = true then some (Value.ref c) else _) = _
      rw [hpos.1, hpos.2]
      rfl) Gh.bAt fun ctv h' tk' hk hsz => ?_
    have k2 : Sub h (h'.push { cls := .type "function", data := .func (kla_fn "<lambda>" lamQual params body sc [] ((mg "__name__").getD .none) (.ref c) ctv) }) := fun b o x => Heap.get?_push_of_some _ (hk b o x)
    have H' := H.grow k2
    have ks := grow_sub H.kh k2
    exact hQ _ _ _ _ c _ ctv ks H' (grow_new (Heap.get?_none_of_le hsz) (Heap.get?_push_size _ rfl)) (hc.keeps ks)
end
end Mine
end

-- Fx5
section
open PySem PyProof.Rows PySem.W PySem.Builtin PySem.Builtin.Re
set_option Elab.async false
set_option linter.all false
set_option maxRecDepth 100000
namespace Mine
def forBody : Stmt → List Stmt
  | .For _ _ b _ _ => b
  | _ => []
def whBody : Stmt → List Stmt
  | .While _ b _ _ => b
  | _ => []
def ifBody : Stmt → List Stmt
  | .If _ b _ _ => b
  | _ => []
def shwFor : Stmt := (fBody (fnAt 8)).getD 2 (.Pass default)
def shwWhile : Stmt := (forBody shwFor).getD 2 (.Pass default)
def appStmt : Stmt := (ifBody ((whBody shwWhile).getD 1 (.Pass default))).getD 4 (.Pass default)
def valD : Option (List Nat) → PyData
  | some v => .str (T v)
  | none => .none
def prD (p : Pr) : PyData := .tuple [.str (T p.1), valD p.2]
def wsD (ws : Ws) : PyData := .list (ws.map prD)
def Sl (hv ar ap : Addr) (t : List Nat) (tt : Tok) (ps : Ws) (res : List Ws) : St :=
  { loc := [("header_values", .ref hv), ("result", .ref ar), ("text", .str (T t) tt), ("pairs", .ref ap)], mu := [(ap, ps.map prD), (ar, res.map wsD)] }
variable {prog : Program} {w : World} {A : Around} {E : Value → Shared → Prop} {s : Shared} {h : Heap} {tk : Nat} {K base : Heap} {hid : Addr → Obj → Prop} {L : Addr} {mg mb : Str → Option Value}
abbrev shwEnv (L : Addr) : Env := envOf "split_header_words" (fScope (fnAt 8)) L 70 (.ref 69)
def IsV (vv : Value) (ov : Option (List Nat)) : Prop := (vv = .none ∧ ov = none) ∨ ∃ v tv, vv = .str (T v) tv ∧ ov = some v
theorem Hk.slim {S : St} (H : Hk K base hid L S h) {l : List (String × Value)} (hl : ∀ p ∈ l, p ∈ S.loc) : Hk K base hid L { loc := l, mu := S.mu } h := H.weak (S' := { loc := l, mu := S.mu }) hl (fun p hp => (by cases hp)) (fun p hp => (by cases hp)) rfl
theorem execs_one {M : Model} {env : Env} {st : Stmt} {Q : Flow → Shared → Prop} {s0 : Shared} (h : wpAny M A (exec st env) Q E s0) : wpAny M A (execs [st] env) Q E s0 :=
  wpAny_execs_cons (wpAny_mono h (fun f s' q => by cases f <;> first | exact wpAny_execs_nil q | exact q) fun _ _ x => x)
theorem append_pair {S : St} {hv ar ap : Addr} {nm r : List Nat} {tn tr : Tok} {vv : Value} {ov : Option (List Nat)} {ps : Ws} {res : List Ws} (H : Hk K base hid L S h) (hmu : S.mu = [(ap, ps.map prD), (ar, res.map wsD)])
    (l1 : lk S.loc "pairs" = some (.ref ap)) (l2 : lk S.loc "name" = some (.str (T nm) tn)) (l3 : lk S.loc "value" = some vv) (l4 : lk S.loc "header_values" = some (.ref hv)) (l5 : lk S.loc "result" = some (.ref ar)) (l6 : lk S.loc "text" = some (.str (T r) tr))
    (hvv : IsV vv ov) (hps : ps.length ≤ 1000) :
    wpAny (model prog w) A (exec appStmt (shwEnv L)) (fun f s' => f = .next ∧ ∃ K' h' tk', s' = up s h' tk' ∧ Sub K K' ∧ Hk K' base hid L (Sl hv ar ap r tr (ps ++ [(nm, ov)]) res) h') E (up s h tk) := by
  obtain ⟨items, hpl, hsz⟩ := H.plain (a := ap) (ds := ps.map prD) (by rw [hmu]; exact .head _)
  refine wpAny_Expr_any ?_
  refine wpAny_Call_append (by rfl) (by rfl) (by rfl) (by rfl) ?_
  refine ldS H l1 ?_
  refine ⟨ap, items, rfl, ?_, ?_⟩
  · obtain ⟨n, e⟩ := hpl
    exact ⟨_, n, e, rfl, rfl, rfl⟩
  refine Tuple_ ?_
  refine args_cons ?_
  refine ldS H l2 ?_
  refine args_cons ?_
  refine ldS H l3 ?_
  refine args_nil ?_
  refine wpAny_newObj_type (s := up s h tk) ?_ (by show (2 : Nat) ≤ sizeLine; rw [sizeLine_eq]; decide)
  show wpAny _ _ _ _ _ (up s (h.push { cls := .type "tuple", data := .seq #[.str (T nm) tn, vv] }) tk)
  have k1 : Sub h (h.push { cls := .type "tuple", data := .seq #[.str (T nm) tn, vv] }) := Sub.push _ _
  have H1 := H.grow k1
  have ks := grow_sub H.kh k1
  have hT : (Mine.grow K h (h.push { cls := .type "tuple", data := .seq #[.str (T nm) tn, vv] })).get? h.objs.size = some { cls := .type "tuple", data := .seq #[.str (T nm) tn, vv] } := grow_new (get_size_none h) (Heap.get?_push_size _ rfl)
  generalize Mine.grow K h (h.push { cls := .type "tuple", data := .seq #[.str (T nm) tn, vv] }) = K1 at H1 ks hT
  have hrd : ∃ as, Reads K1 (.ref h.objs.size) (prD (nm, ov)) as ∧ ∀ b ∈ as, Nw base K1 b := by
    refine ⟨[], ?_, fun b hb => (by cases hb)⟩
    unfold prD
    have q : ∃ as, ReadsAll K1 [.str (T nm) tn, vv] [.str (T nm), valD ov] as ∧ as = [] := by
      rcases hvv with ⟨rfl, rfl⟩ | ⟨v, tv, rfl, rfl⟩
      · exact ⟨_, ReadsAll.cons (Reads.str _ _) (ReadsAll.cons Reads.none ReadsAll.nil), rfl⟩
      · exact ⟨_, ReadsAll.cons (Reads.str _ _) (ReadsAll.cons (Reads.str _ _) ReadsAll.nil), rfl⟩
    obtain ⟨as, q1, rfl⟩ := q
    exact Reads.tuple hT rfl rfl q1
  obtain ⟨n, ei⟩ := hpl
  refine wpAny_list_append_plain (s := up s (h.push { cls := .type "tuple", data := .seq #[.str (T nm) tn, vv] }) tk) ⟨n, k1 _ _ ei⟩ (fun h2 p2 sb => ?_) (by rw [hsz, sizeLine_eq, List.length_map]; omega)
  have H2 := H1.append hmu hrd ⟨n, k1 _ _ ei⟩ p2 sb
  refine ⟨rfl, K1, h2, tk, rfl, ks, ?_⟩
  have H3 := H2.slim (l := [("header_values", .ref hv), ("result", .ref ar), ("text", .str (T r) tr), ("pairs", .ref ap)]) (by
    intro p hp
    simp only [List.mem_cons, List.not_mem_nil, or_false] at hp
    rcases hp with rfl | rfl | rfl | rfl
    · exact mem_of_lk l4
    · exact mem_of_lk l5
    · exact mem_of_lk l6
    · exact mem_of_lk l1)
  have em : (ps ++ [(nm, ov)]).map prD = ps.map prD ++ [prD (nm, ov)] := by simp
  unfold Sl
  rw [em]
  exact H3
end Mine
end

-- Fx6a
section
open PySem PyProof.Rows PySem.W PySem.Builtin PySem.Builtin.Re
set_option Elab.async false
set_option linter.all false
set_option maxRecDepth 100000
namespace Mine
variable {prog : Program} {w : World} {A : Around} {E : Value → Shared → Prop} {s : Shared} {h : Heap} {tk : Nat} {K base : Heap} {hid : Addr → Obj → Prop} {L : Addr} {mg mb : Str → Option Value}
theorem pTok_len {t nm r : List Nat} (h : pTok t = some (nm, r)) : nm.length + r.length ≤ t.length := by
  unfold pTok at h
  split at h
  · cases h
  · simp only [Option.some.injEq, Prod.mk.injEq] at h
    obtain ⟨rfl, rfl⟩ := h
    have a1 := congrArg List.length (List.takeWhile_append_dropWhile (p := isT) (l := t.dropWhile isW))
    rw [List.length_append] at a1
    have a2 := dropWhile_len isW t
    omega
theorem al_drop {t : List Nat} (ht : Al t) (n : Nat) : Al (t.drop n) := fun c hc => ht c (List.mem_of_mem_drop hc)
theorem takeWhile_all {f : Nat → Bool} : ∀ {l : List Nat} {c : Nat}, c ∈ l.takeWhile f → f c = true
  | [], _, h => by cases h
  | a :: l, c, h => by
    rw [List.takeWhile_cons] at h
    split at h
    · rename_i ha
      rcases List.mem_cons.1 h with rfl | h
      · exact ha
      · exact takeWhile_all h
    · cases h
theorem pVal_v {t v r : List Nat} (h : pVal t = some (v, r)) : ∀ c ∈ v, isW c = false := by
  unfold pVal at h
  split at h
  · cases h
  · split at h
    · simp only [Option.some.injEq, Prod.mk.injEq] at h
      obtain ⟨rfl, rfl⟩ := h
      intro c hc
      have := takeWhile_all hc
      exact (isV_facts this).1
    · cases h
theorem strM {o : Expr} {name : Str} {apos pos : Pos} {args : List Expr} {id : String} {env : Env} {Q : Value → Shared → Prop}
    (slot : Slot "str" name id) (hty : typeOf (.builtin id) = pure (.type "method_descriptor"))
    (hbase : attributeBase o name env (eval o env) = eval o env)
    (hfew : ((backTo pos (starEach args env)).all (fun x => !x.1) && (backToKw pos (keywordEach [] env)).all (fun x => x.1.isSome)
      && decide (args.length + ([] : List Keyword).length + (if ([] : List Keyword).isEmpty then 0 else 1) < 30)) = true)
    (hline : (apos.endLine == pos.line) = true)
    (ho : wpAny (model prog w) A (eval o env) (fun v s₁ => ∃ x t, v = .str x t ∧ wpAny (model prog w) A (callWith pos (.builtin id) [.str x t] (backTo pos (starEach args env)) []) Q E s₁) E (up s h tk)) :
    wpAny (model prog w) A (eval (.Call (.Attribute o name apos) args [] pos) env) Q E (up s h tk) := by
  refine wpAny_Call_method hbase hfew hline F.plainAttrs_str slot hty (wpAny_mono ho ?_ fun _ _ x => x)
  rintro v s₁ ⟨x, t, rfl, hq⟩
  exact ⟨typeIs_str _ _ _, fun a e => (by cases e), hq⟩
theorem group1st {a P sp : Addr} {x : Str} {tm tk1 : Tok} {st EE b e : Nat} {Q : Value → Shared → Prop} (m1 : h.get? a = some (matchO x tm P sp)) (m2 : h.get? sp = some (spanO st EE b e)) (hx : x.cps.size ≤ 1000)
    (hQ : ∀ t tk', Q (.str ⟨x.cps.extract b e⟩ t) (up s h tk')) : wpAny (model prog w) A (call (.builtin "re.Match.group") [.ref a, .int 1 tk1]) Q E (up s h tk) := by
  refine wpAny_call_entry slot_group ⟨_, m1, rfl⟩ entry_group ?_ (args_group _ _)
  unfold Builtin.«re.Match.group»
  show wpAny _ _ ((reFound (.ref a)) >>= _) _ _ _
  unfold reFound
  refine wpAny_bind (wpAny_bind (wpAny_fieldsOf (s := up s h tk) m1 rfl ?_))
  refine wpAny_bind (m := reRawItems (.ref sp)) (raw_items (s := up s h tk) m2 rfl ?_)
  have e1 : (#[Value.int (st : Int) 0, Value.int (EE : Int) 0, Value.int (b : Int) 0, Value.int (e : Int) 0] : Array Value).map reRawOf = #[(st : Int), (EE : Int), (b : Int), (e : Int)] := by simp [reRawOf]
  rw [e1]
  refine wpAny_pure ?_
  simp only
  have e1 : ∀ f : Array Value, reGroupNumber { fields := f, spans := #[(st : Int), (EE : Int), (b : Int), (e : Int)] } (.int 1 tk1) = pure 1 := fun f => rfl
  rw [e1]
  refine wpAny_bind (wpAny_pure ?_)
  unfold reGroupText
  simp only
  have e2 : ((#[(st : Int), (EE : Int), (b : Int), (e : Int)] : Array Int).getD (2 * 1) (-1) : Int) = b := rfl
  have e3 : ((#[(st : Int), (EE : Int), (b : Int), (e : Int)] : Array Int).getD (2 * 1 + 1) (-1) : Int) = e := rfl
  rw [e2, e3]
  have hc : (decide ((b : Int) < 0) || decide ((e : Int) < 0)) = false := by
    rw [decide_eq_false (by omega), decide_eq_false (by omega)]; rfl
  rw [hc]
  simp only [Bool.false_eq_true, if_false]
  refine wpAny_bind (wpAny_bind (m := reTextOf (.str x tm)) (show wpAny _ _ (pure (x.cps, 0) : Sem (Array Nat × Nat)) _ _ _ from wpAny_pure ?_))
  simp only
  unfold reSlice
  simp only [beq_self_eq_true, if_true, Int.toNat_natCast]
  refine wpAny_mkStr ?_ (by
    show (x.cps.extract b e).size ≤ sizeLine
    rw [sizeLine_eq, Array.size_extract]; omega)
  exact wpAny_pure ⟨_, rfl, hQ _ _⟩
/-- what a turn leaves -/
def TurnQ (s : Shared) (K base : Heap) (hid : Addr → Obj → Prop) (L hv ar : Addr) (t : List Nat) (ps : Ws) (res : List Ws) (s' : Shared) : Prop :=
  ∃ K' h' tk' ap' t' tt' ps' res', s' = up s h' tk' ∧ Sub K K' ∧ Hk K' base hid L (Sl hv ar ap' t' tt' ps' res') h' ∧ Al t' ∧ t'.length < t.length ∧ ps'.length ≤ ps.length + 1 ∧ res'.length ≤ res.length + 1 ∧ ∀ n, ploop (n + 1) t ps res = ploop n t' ps' res'
end Mine
end

-- Fx6n
section
open PySem PyProof.Rows PySem.W PySem.Builtin PySem.Builtin.Re
set_option Elab.async false
set_option linter.all false
set_option maxRecDepth 100000
namespace Mine
variable {prog : Program} {w : World} {A : Around} {E : Value → Shared → Prop} {s : Shared} {h : Heap} {tk : Nat} {K base : Heap} {hid : Addr → Obj → Prop} {L : Addr} {mg mb : Str → Option Value}
def ifElse : Stmt → List Stmt
  | .If _ _ b _ => b
  | _ => []
def tailIf : Stmt := (ifElse ((whBody shwWhile).getD 1 (.Pass default))).getD 0 (.Pass default)
theorem dropWhile_al {t : List Nat} (f : Nat → Bool) (ht : Al t) : Al (t.dropWhile f) := by
  rw [dropWhile_drop]; exact al_drop ht _
theorem comma_turn {hv ar ap : Addr} {t : List Nat} {tt : Tok} {ps : Ws} {res : List Ws} (H : Hk K base hid L { Sl hv ar ap t tt ps res with loc := put (Sl hv ar ap t tt ps res).loc "m" .none } h) (ht : Al t) (hlen : t.length ≤ 16) (hne : t ≠ []) (hps : ps.length ≤ 100) (hres : res.length ≤ 100)
    (hp : pTok t = none) (hcm : (t.dropWhile isW).head? = some 44) :
    wpAny (model prog w) A (execs (ifBody tailIf) (shwEnv L)) (fun f s' => f = .next ∧ TurnQ s K base hid L hv ar t ps res s') E (up s h tk) := by
  refine wpAny_execs_cons ?_
  refine wpAny_Assign_Name ?_
  refine Subscript_ ?_
  refine strM F.slot_str_lstrip F.type_str_lstrip (by rfl) (by rfl) (by rfl) ?_
  refine ldS H (by rfl) ⟨_, _, rfl, ?_⟩
  refine callWith_method0 ?_
  refine SC.lstrip (s := up s h tk) (fun t1 tk1 => ?_) (sizeOk_small (by show (T t).cps.size ≤ 1000; rw [T_size]; omega))
  rw [lstrip_T ht]
  show wpAny _ _ _ _ _ (up s h tk1)
  refine wpAny_Slice ?_
  refine wpAny_evalPart_some ?_
  refine intU fun t2 tk2 => ?_
  refine wpAny_evalPart_none ?_
  refine wpAny_evalPart_none ?_
  have hdl := dropWhile_len isW t
  refine tailU_sn (fun h1 t3 tk3 k1 => ?_) (by rw [T_size]; omega)
  have e1 := slice_from (t.dropWhile isW) 1
  rw [show ((1 : Nat) : Int) = 1 from rfl] at e1
  rw [e1]
  have H1 := H.mono k1
  refine stS H1 fun h2 tk4 H2 => ?_
  -- if pairs
  refine wpAny_execs_cons ?_
  refine wpAny_If ?_
  refine isTrue_plain ?_
  refine ldS H2 (by rfl) ?_
  obtain ⟨items, hpl, hsz⟩ := H2.plain (a := ap) (ds := ps.map prD) (.head _)
  refine truthU_list hpl (by rw [hsz, List.length_map]; omega) fun tk5 => ?_
  have ee : items.isEmpty = ps.isEmpty := by
    rw [Bool.eq_iff_iff, Array.isEmpty_iff_size_eq_zero, hsz, List.length_map, List.isEmpty_iff_length_eq_zero]
  rw [ee]
  obtain ⟨K3, ks3, ⟨as, r1, r2⟩, H3⟩ := H2.freeze (a := ap) (ds := ps.map prD) rfl
  have step : ∀ (h' : Heap) (tk' : Nat), Hk K3 base hid L { Sl hv ar ap t tt ps res with loc := put (put (Sl hv ar ap t tt ps res).loc "m" .none) "text" (.str (T ((t.dropWhile isW).drop 1)) t3), mu := [(ar, (flush ps res).map wsD)] } h' →
      wpAny (model prog w) A (execs ((ifBody tailIf).drop 2) (shwEnv L)) (fun f s' => f = .next ∧ TurnQ s K base hid L hv ar t ps res s') E (up s h' tk') := by
    intro h' tk' H4
    refine wpAny_execs_cons ?_
    refine wpAny_Assign_Name ?_
    refine List_ ?_
    refine args_nil ?_
    refine wpAny_newObj_type (s := up s h' tk') ?_ (by show (0 : Nat) ≤ sizeLine; rw [sizeLine_eq]; decide)
    show wpAny _ _ _ _ _ (up s (h'.push { cls := .type "list", data := .seq #[] }) tk')
    have H5 := H4.newMut (a := h'.objs.size) (vs := #[]) (n := 0) (ds := []) (Sub.push _ _) (get_size_none h') (Heap.get?_push_size _ rfl) ⟨[], ReadsAll.nil, fun b hb => (by cases hb)⟩
    refine stS H5 fun h6 tk6 H6 => ?_
    refine wpAny_execs_nil ⟨rfl, K3, h6, tk6, h'.objs.size, (t.dropWhile isW).drop 1, t3, [], flush ps res, rfl, ks3, ?_, al_drop (dropWhile_al _ ht) _, ?_, by simp, ?_, fun n => ?_⟩
    · exact H6.slim (l := (Sl hv ar h'.objs.size ((t.dropWhile isW).drop 1) t3 [] (flush ps res)).loc) (by
        intro p hp
        simp only [Sl, List.mem_cons, List.not_mem_nil, or_false] at hp
        rcases hp with rfl | rfl | rfl | rfl <;> simp [Sl, put])
    · rw [List.length_drop]
      cases hd : t.dropWhile isW with
      | nil => rw [hd] at hcm; cases hcm
      | cons c r => rw [hd] at hdl; simp only [List.length_cons] at hdl ⊢; omega
    · unfold flush; split <;> simp
    · rw [ploop, if_neg hne, hp]
      simp only [hcm, if_true, List.drop_one]
  cases hpe : ps.isEmpty with
  | true =>
    simp only [Bool.not_true, Bool.false_eq_true, if_false]
    refine wpAny_execs_nil ?_
    simp only
    have : ps = [] := List.isEmpty_iff.mp hpe
    refine step _ _ ?_
    have ef : flush ps res = res := by unfold flush; rw [if_pos this]
    rw [ef]
    exact H3
  | false =>
    simp only [Bool.not_false, if_true]
    have : ps ≠ [] := fun e => by rw [e] at hpe; cases hpe
    have ef : flush ps res = res ++ [ps] := by unfold flush; rw [if_neg this]
    refine wpAny_execs_cons ?_
    obtain ⟨items2, hpl2, hsz2⟩ := H3.plain (a := ar) (ds := res.map wsD) (.head _)
    refine wpAny_Expr_any ?_
    refine wpAny_Call_append (by rfl) (by rfl) (by rfl) (by rfl) ?_
    refine ldS H3 (by rfl) ?_
    refine ⟨ar, items2, rfl, ?_, ?_⟩
    · obtain ⟨n, e⟩ := hpl2
      exact ⟨_, n, e, rfl, rfl, rfl⟩
    refine ldS H3 (by rfl) ?_
    refine wpAny_list_append_plain (s := up s h2 tk5) hpl2 (fun h7 p7 sb => ?_) (by rw [hsz2, sizeLine_eq, List.length_map]; omega)
    have H7 := H3.append rfl ⟨as, r1, r2⟩ hpl2 p7 sb
    simp only
    refine wpAny_execs_nil ?_
    simp only
    refine step h7 tk5 ?_
    rw [ef, List.map_append]
    exact H7
theorem junk_pos {t : List Nat} (hne : t ≠ []) (hp : pTok t = none) (hcm : ¬ (t.dropWhile isW).head? = some 44) : (t.takeWhile isJ).length ≠ 0 := by
  cases t with
  | nil => exact absurd rfl hne
  | cons a r =>
    have ha : isJ a = true := by
      cases hc : isW a with
      | true => simp [isJ, hc]
      | false =>
        rw [List.dropWhile_cons, hc] at hcm
        simp only [Bool.false_eq_true, if_false, List.head?_cons, Option.some.injEq] at hcm
        unfold pTok at hp
        rw [List.dropWhile_cons, hc] at hp
        simp only [Bool.false_eq_true, if_false, List.takeWhile_cons] at hp
        cases ht : isT a with
        | true => rw [ht] at hp; simp at hp
        | false =>
          simp only [isT, isJ, hc] at ht ⊢
          simp at ht ⊢
          omega
    rw [List.takeWhile_cons, ha]; simp
theorem junk_turn {hv ar ap : Addr} {t : List Nat} {tt : Tok} {ps : Ws} {res : List Ws} (hc : Calm A K) (G : Gnd mg mb K) (H : Hk K base hid L { Sl hv ar ap t tt ps res with loc := put (Sl hv ar ap t tt ps res).loc "m" .none } h) (ht : Al t) (hlen : t.length ≤ 16) (hne : t ≠ []) (hps : ps.length ≤ 100) (hres : res.length ≤ 100)
    (hp : pTok t = none) (hcm : ¬ (t.dropWhile isW).head? = some 44) :
    wpAny (model prog w) A (execs (ifElse tailIf) (shwEnv L)) (fun f s' => f = .next ∧ TurnQ s K base hid L hv ar t ps res s') E (up s h tk) := by
  refine wpAny_execs_cons ?_
  refine Assign_Tuple ?_
  refine patM slot_subn type_subn ((G.pTw).keeps H.kh) (by rfl) (by rfl) (by rfl) (fun Q' hQ' => ldG G H.kh G.nTw hQ') ?_
  refine callWith_method1 ?_
  refine args_cons ?_
  refine strU fun t1 tk1 => ?_
  refine args_cons ?_
  refine ldS H (by rfl) ?_
  refine args_nil ?_
  rw [empty_T]
  refine subn_ok ht (by omega) ((G.pTw).keeps H.kh) rfl (junk_pos hne hp hcm) fun h1 t2 t3 R tk2 k1 hR hR' => ?_
  have H1 := H.mono k1
  refine unpack_calm hc H1.kh ⟨_, hR', rfl, _, rfl⟩ (by rfl) (by rfl) fun h2 k2 => ?_
  have H2 := H1.mono k2
  refine wpAny_assignInOrder_more ?_
  refine wpAny_assign_Name ?_
  refine stS H2 fun h3 tk3 H3 => ?_
  refine wpAny_assignInOrder_more ?_
  refine wpAny_assign_Name ?_
  refine stS H3 fun h4 tk4 H4 => ?_
  refine wpAny_pure ?_
  show wpAny _ _ _ _ _ (up s h4 _)
  refine wpAny_execs_cons ?_
  refine wpAny_Assert_holds ?_
  refine wpAny_isTrue_Compare1 ?_
  refine ldS H4 (by rfl) ?_
  refine intU fun t5 tk5 => ?_
  refine PyProof.Rows.gt_int ?_
  refine wpAny_truthy_bool ⟨rfl, ?_⟩
  refine wpAny_execs_cons ?_
  refine wpAny_Assign_Name ?_
  refine ldS H4 (by rfl) ?_
  refine stS H4 fun h6 tk6 H6 => ?_
  have ed : t.drop (t.takeWhile isJ).length = t.dropWhile isJ := (dropWhile_drop _ _).symm
  refine wpAny_execs_nil ⟨rfl, K, h6, tk6, ap, t.dropWhile isJ, t2, ps, res, rfl, Sub.refl K, ?_, dropWhile_al _ ht, ?_, by omega, by omega, fun n => ?_⟩
  · rw [← ed]
    exact H6.slim (l := (Sl hv ar ap (t.drop (t.takeWhile isJ).length) t2 ps res).loc) (by
      intro p hp
      simp only [Sl, List.mem_cons, List.not_mem_nil, or_false] at hp
      rcases hp with rfl | rfl | rfl | rfl <;> simp [Sl, put])
  · rw [← ed, List.length_drop]
    have := junk_pos hne hp hcm
    have : t.length ≠ 0 := fun e => hne (List.length_eq_zero_iff.mp e)
    omega
  · rw [ploop, if_neg hne, hp]
    simp only [hcm, if_false]
theorem tail_turn {hv ar ap : Addr} {t : List Nat} {tt : Tok} {ps : Ws} {res : List Ws} (hc : Calm A K) (G : Gnd mg mb K) (H : Hk K base hid L { Sl hv ar ap t tt ps res with loc := put (Sl hv ar ap t tt ps res).loc "m" .none } h) (ht : Al t) (hlen : t.length ≤ 16) (hne : t ≠ []) (hps : ps.length ≤ 100) (hres : res.length ≤ 100)
    (hp : pTok t = none) :
    wpAny (model prog w) A (exec tailIf (shwEnv L)) (fun f s' => f = .next ∧ TurnQ s K base hid L hv ar t ps res s') E (up s h tk) := by
  refine wpAny_If ?_
  refine isTrue_plain ?_
  refine strM F.slot_str_startswith F.type_str_startswith (by rfl) (by rfl) (by rfl) ?_
  refine strM F.slot_str_lstrip F.type_str_lstrip (by rfl) (by rfl) (by rfl) ?_
  refine ldS H (by rfl) ⟨_, _, rfl, ?_⟩
  refine callWith_method0 ?_
  refine SC.lstrip (s := up s h tk) (fun t1 tk1 => ?_) (sizeOk_small (by show (T t).cps.size ≤ 1000; rw [T_size]; omega))
  rw [lstrip_T ht]
  refine ⟨_, _, rfl, ?_⟩
  show wpAny _ _ _ _ _ (up s h tk1)
  refine callWith_method1 ?_
  refine args_cons ?_
  refine strU fun t2 tk2 => ?_
  refine args_nil ?_
  rw [comma_T]
  refine SC.startswith ?_
  rw [starts_T]
  refine wpAny_truthy_bool ?_
  by_cases hcm : (t.dropWhile isW).head? = some 44
  · rw [decide_eq_true hcm]
    simp only [if_true]
    exact comma_turn H ht hlen hne hps hres hp hcm
  · rw [decide_eq_false hcm]
    simp only [Bool.false_eq_true, if_false]
    exact junk_turn hc G H ht hlen hne hps hres hp hcm
end Mine
end

-- Fx6
section
open PySem PyProof.Rows PySem.W PySem.Builtin PySem.Builtin.Re
set_option Elab.async false
set_option linter.all false
set_option maxRecDepth 100000
namespace Mine
variable {prog : Program} {w : World} {A : Around} {E : Value → Shared → Prop} {s : Shared} {h : Heap} {tk : Nat} {K base : Heap} {hid : Addr → Obj → Prop} {L : Addr} {mg mb : Str → Option Value}
theorem turn_ok {hv ar ap : Addr} {t : List Nat} {tt : Tok} {ps : Ws} {res : List Ws} (hroom : A.depth + 10 < recursionLimit) (hc : Calm A K) (G : Gnd mg mb K) (H : Hk K base hid L (Sl hv ar ap t tt ps res) h) (ht : Al t) (hlen : t.length ≤ 16) (hne : t ≠ []) (hps : ps.length ≤ 100) (hres : res.length ≤ 100) :
    wpAny (model prog w) A (execs (whBody shwWhile) (shwEnv L)) (fun f s' => f = .next ∧ TurnQ s K base hid L hv ar t ps res s') E (up s h tk) := by
  refine wpAny_execs_cons ?_
  refine wpAny_Assign_Name ?_
  refine patM slot_search type_search ((G.pTo).keeps H.kh) (by rfl) (by rfl) (by rfl) (fun Q' hQ' => ldG G H.kh G.nTo hQ') ?_
  refine callWith_method1 ?_
  refine args_cons ?_
  refine ldS H (by rfl) ?_
  refine args_nil ?_
  cases hp : pTok t with
  | some q =>
    obtain ⟨nm, r⟩ := q
    obtain ⟨hfind, hnm⟩ := tok_some ht hlen hp
    refine searchU_some ((G.pTo).keeps H.kh) (by omega) hfind fun m h1 EE b e k1 hM e1 e2 hEE => ?_
    have H1 := H.grow k1
    have ks1 := grow_sub H.kh k1
    have M1 := hM.keeps (news_grow K h h1)
    have G1 := G.sub ks1
    have hc1 := hc.sub ks1
    generalize Mine.grow K h h1 = K1 at H1 ks1 M1 G1 hc1
    refine stS H1 fun h2 tk2 H2 => ?_
    refine execs_one ?_
    refine wpAny_If ?_
    refine isTrue_plain ?_
    refine ldS H2 (by rfl) ?_
    refine truthU_match (M1.keeps H2.kh) ?_
    simp only [if_true]
    -- text = unmatched(m)
    refine wpAny_execs_cons ?_
    refine wpAny_Assign_Name ?_
    refine Call_ ?_
    refine ldG G1 H2.kh G1.nUn ?_
    obtain ⟨oU, pmU, cdU, docU, u1, u2, u3⟩ := id G1.fUn
    refine callWith_def u2 ?_
    refine args_cons ?_
    refine ldS H2 (by rfl) ?_
    refine args_nil ⟨H2.kh _ _ u1, ?_⟩
    refine unmatched_ok (by omega) hc1 H2.kh (G1.fUn.sub H2.kh) (G1.nolimit.keeps H2.kh) (M1.keeps H2.kh) (by omega) fun h3 tk3 t3 k3 => ?_
    rw [e2]
    have H3 := H2.mono k3
    refine stS H3 fun h4 tk4 H4 => ?_
    -- name = m.group(1)
    refine wpAny_execs_cons ?_
    refine wpAny_Assign_Name ?_
    refine matchM slot_group type_group (M1.keeps H4.kh) (by rfl) (by rfl) (by rfl) (fun Q' hQ' => ldS H4 (by rfl) hQ') ?_
    refine callWith_method1 ?_
    refine args_cons ?_
    refine intU fun t5 tk5 => ?_
    refine args_nil ?_
    refine group1U (M1.keeps H4.kh) (by rw [T_size]; omega) fun t6 tk6 => ?_
    rw [T_extract, e1]
    refine stS H4 fun h7 tk7 H7 => ?_
    -- m = HEADER_QUOTED_VALUE_RE.search(text)
    refine wpAny_execs_cons ?_
    refine wpAny_Assign_Name ?_
    refine patM slot_search type_search ((G1.pQu).keeps H7.kh) (by rfl) (by rfl) (by rfl) (fun Q' hQ' => ldG G1 H7.kh G1.nQu hQ') ?_
    refine callWith_method1 ?_
    refine args_cons ?_
    refine ldS H7 (by rfl) ?_
    refine args_nil ?_
    have hrl : r.length ≤ 16 := by rw [← e2, List.length_drop]; omega
    have hrlt : r.length < t.length := by
      have := pTok_len hp
      omega
    have hra : Al r := fun c hc => ht c (by rw [← e2] at hc; exact List.mem_of_mem_drop hc)
    cases hq : pQuo r with
    | some q =>
      obtain ⟨v, r2⟩ := q
      refine searchU_some ((G1.pQu).keeps H7.kh) (by omega) (quo_some hra hrl hq) fun m2 h8 EE2 b2 e2' k8 hM2 e3 e4 hEE2 => ?_
      have H8 := H7.grow k8
      have ks8 := grow_sub H7.kh k8
      have M8 := hM2.keeps (news_grow K1 h7 h8)
      have G8 := G1.sub ks8
      have hc8 := hc1.sub ks8
      generalize Mine.grow K1 h7 h8 = K8 at H8 ks8 M8 G8 hc8
      refine stS H8 fun h9 tk9 H9 => ?_
      refine wpAny_execs_cons ?_
      refine wpAny_If ?_
      refine isTrue_plain ?_
      refine ldS H9 (by rfl) ?_
      refine truthU_match (M8.keeps H9.kh) ?_
      simp only [if_true]
      refine wpAny_execs_cons ?_
      refine wpAny_Assign_Name ?_
      refine Call_ ?_
      refine ldG G8 H9.kh G8.nUn ?_
      obtain ⟨oV, pmV, cdV, docV, v1, v2, v3⟩ := id G8.fUn
      refine callWith_def v2 ?_
      refine args_cons ?_
      refine ldS H9 (by rfl) ?_
      refine args_nil ⟨H9.kh _ _ v1, ?_⟩
      refine unmatched_ok (by omega) hc8 H9.kh (G8.fUn.sub H9.kh) (G8.nolimit.keeps H9.kh) (M8.keeps H9.kh) (by omega) fun h10 tk10 t10 k10 => ?_
      rw [e4]
      have H10 := H9.mono k10
      refine stS H10 fun h11 tk11 H11 => ?_
      refine wpAny_execs_cons ?_
      refine wpAny_Assign_Name ?_
      refine matchM slot_group type_group (M8.keeps H11.kh) (by rfl) (by rfl) (by rfl) (fun Q' hQ' => ldS H11 (by rfl) hQ') ?_
      refine callWith_method1 ?_
      refine args_cons ?_
      refine intU fun t12 tk12 => ?_
      refine args_nil ?_
      refine group1U (M8.keeps H11.kh) (by rw [T_size]; omega) fun t13 tk13 => ?_
      rw [T_extract, e3]
      refine stS H11 fun h14 tk14 H14 => ?_
      -- value = HEADER_ESCAPE_RE.sub(lambda.., value)
      refine wpAny_execs_cons ?_
      refine wpAny_Assign_Name ?_
      refine patM slot_sub type_sub ((G8.pEs).keeps H14.kh) (by rfl) (by rfl) (by rfl) (fun Q' hQ' => ldG G8 H14.kh G8.nEs hQ') ?_
      refine callWith_method1 ?_
      refine args_cons ?_
      refine lamU H14 G8 ⟨rfl, rfl⟩ (by rfl) (by rfl) fun K15 h15 tk15 f c' pm ctv ks15 H15 hf hrec => ?_
      refine args_cons ?_
      refine ldS H15 (by rfl) ?_
      refine args_nil ?_
      have hvl : v.length ≤ 16 := by rw [← e3, List.length_take, List.length_drop]; omega
      refine sub_ok (by omega) ((G8.pEs).keeps (ks15.trans H15.kh)) ⟨_, H15.kh _ _ hf⟩ ?_ fun h16 t16 tk16 k16 => ?_
      · -- the lambda
        intro s' h' tk' m' x' EE' b' e' st' Q' E' hs' hm' hx' hbe' hex' hQ'
        have k15 := H15.kh.trans hs'
        refine wpAny_call (kla_callFunE (by show A.depth < _; omega) (k15 _ _ hf) rfl (by rfl) (by rfl) rfl (hrec.keeps k15) ?_)
        refine wpAny_of_eq (a := [(Str.ofString "_m", Value.ref m')]) (by rfl) ?_
        refine wpAny_newFunctionEnv (by show ∀ x ∈ [(Str.ofString "_m", NameKind.local)], x.2 ≠ .cell; decide) (locs (by rfl)) (fun h₁ hns hsb => ⟨((G8.nolimit.keeps (ks15.trans k15)).fresh _ hsb), ?_⟩) (by rfl)
        refine kla_codeExpr ?_
        have kh1 : Sub h' h₁ := fun b o x => hsb.extBut b o (Nat.ne_of_lt (Heap.lt_size x)) (Heap.get?_push_of_some _ x)
        have F : Fr h' h'.objs.size h₁ _ := ⟨hns, kh1, Nat.le_refl _⟩
        show wpAny _ _ _ _ _ (up s' h₁ _)
        generalize (up s' h' tk').toks + _ = tka
        obtain ⟨tq, Pq, sq, mq1, mq2⟩ := hm'
        refine wpAny_BinOp ?_
        refine strU fun t20 tk20 => ?_
        refine wpAny_Or2 ?_
        refine wpAny_Call_method (by rfl) (by rfl) (by rfl) pa_match slot_group type_group ?_
        refine wpAny_Name (wpAny_loadName_local (by rfl) (by rfl) hns (by rfl) ?_)
        refine ⟨⟨_, kh1 _ _ mq1, rfl⟩, fun a' ha' => (by cases ha'; exact ⟨_, kh1 _ _ mq1, rfl⟩), ?_⟩
        refine callWith_method1 ?_
        refine args_cons ?_
        refine intU fun t21 tk21 => ?_
        refine args_nil ?_
        refine group1st (kh1 _ _ mq1) (kh1 _ _ mq2) hx' fun t22 tk22 => ?_
        have hsz : (x'.cps.extract b' e').size = e' - b' := by rw [Array.size_extract]; omega
        refine PySem.P.truthy_str (by show ¬ (((x'.cps.extract b' e').size : Nat) : Int) ≥ 2 ^ 63; rw [hsz]; omega) ?_
        have e5 : ((((⟨x'.cps.extract b' e'⟩ : Str).length : Nat) : Int) != 0) = true := by
          show ((((x'.cps.extract b' e').size : Nat) : Int) != 0) = true
          rw [hsz, bne_iff_ne]; omega
        rw [e5, if_pos rfl]
        rw [empty_T]
        refine addU (h := h₁) (fun t23 tk23 => ?_) (by rw [T_size, List.length_nil]; show 0 + (x'.cps.extract b' e').size ≤ 1000; omega)
        have e6 : T [] ++ (⟨x'.cps.extract b' e'⟩ : Str) = ⟨x'.cps.extract b' e'⟩ := by
          show (⟨(T []).cps ++ x'.cps.extract b' e'⟩ : Str) = _
          simp [T]
        rw [e6]
        exact hQ' _ _ _ kh1
      have H16 := H15.mono k16
      refine stS H16 fun h17 tk17 H17 => ?_
      refine wpAny_execs_nil ?_
      simp only
      refine wpAny_execs_cons ?_
      refine wpAny_mono (append_pair H17 rfl (by rfl) (by rfl) (by rfl) (by rfl) (by rfl) (by rfl) (.inr ⟨_, _, rfl, rfl⟩) (by omega)) ?_ (fun _ _ x => x)
      rintro fl s' ⟨rfl, K18, h18, tk18, rfl, ks18, H18⟩
      refine wpAny_execs_nil ?_
      simp only
      refine ⟨trivial, K18, h18, tk18, ap, r2, _, _, res, rfl, ((ks1.trans ks8).trans ks15).trans ks18, H18, ?_, ?_, by simp, by omega, fun n => ?_⟩
      · rw [← e4]; exact al_drop hra _
      · rw [← e4, List.length_drop]; omega
      · rw [ploop, if_neg hne, hp]
        simp only [hq]
    | none =>
      refine searchU_none ((G1.pQu).keeps H7.kh) (by omega) (quo_none hra hrl hq) ?_
      refine stS H7 fun h8 tk8 H8 => ?_
      refine wpAny_execs_cons ?_
      refine wpAny_If ?_
      refine isTrue_plain ?_
      refine ldS H8 (by rfl) ?_
      refine truthU_none ?_
      simp only [Bool.false_eq_true, if_false]
      -- m = HEADER_VALUE_RE.search(text)
      refine wpAny_execs_cons ?_
      refine wpAny_Assign_Name ?_
      refine patM slot_search type_search ((G1.pVa).keeps H8.kh) (by rfl) (by rfl) (by rfl) (fun Q' hQ' => ldG G1 H8.kh G1.nVa hQ') ?_
      refine callWith_method1 ?_
      refine args_cons ?_
      refine ldS H8 (by rfl) ?_
      refine args_nil ?_
      cases hv' : pVal r with
      | some q =>
        obtain ⟨v, r2⟩ := q
        refine searchU_some ((G1.pVa).keeps H8.kh) (by omega) (val_some hra hrl hv') fun m2 h9 EE2 b2 e2' k9 hM2 e3 e4 hEE2 => ?_
        have H9 := H8.grow k9
        have ks9 := grow_sub H8.kh k9
        have M9 := hM2.keeps (news_grow K1 h8 h9)
        have G9 := G1.sub ks9
        have hc9 := hc1.sub ks9
        generalize Mine.grow K1 h8 h9 = K9 at H9 ks9 M9 G9 hc9
        refine stS H9 fun h10 tk10 H10 => ?_
        refine wpAny_execs_cons ?_
        refine wpAny_If ?_
        refine isTrue_plain ?_
        refine ldS H10 (by rfl) ?_
        refine truthU_match (M9.keeps H10.kh) ?_
        simp only [if_true]
        refine wpAny_execs_cons ?_
        refine wpAny_Assign_Name ?_
        refine Call_ ?_
        refine ldG G9 H10.kh G9.nUn ?_
        obtain ⟨oV, pmV, cdV, docV, v1, v2, v3⟩ := id G9.fUn
        refine callWith_def v2 ?_
        refine args_cons ?_
        refine ldS H10 (by rfl) ?_
        refine args_nil ⟨H10.kh _ _ v1, ?_⟩
        refine unmatched_ok (by omega) hc9 H10.kh (G9.fUn.sub H10.kh) (G9.nolimit.keeps H10.kh) (M9.keeps H10.kh) (by omega) fun h11 tk11 t11 k11 => ?_
        rw [e4]
        have H11 := H10.mono k11
        refine stS H11 fun h12 tk12 H12 => ?_
        refine wpAny_execs_cons ?_
        refine wpAny_Assign_Name ?_
        refine matchM slot_group type_group (M9.keeps H12.kh) (by rfl) (by rfl) (by rfl) (fun Q' hQ' => ldS H12 (by rfl) hQ') ?_
        refine callWith_method1 ?_
        refine args_cons ?_
        refine intU fun t13 tk13 => ?_
        refine args_nil ?_
        refine group1U (M9.keeps H12.kh) (by rw [T_size]; omega) fun t14 tk14 => ?_
        rw [T_extract, e3]
        refine stS H12 fun h15 tk15 H15 => ?_
        -- value = value.rstrip()
        refine wpAny_execs_cons ?_
        refine wpAny_Assign_Name ?_
        refine strM F.slot_str_rstrip F.type_str_rstrip (by rfl) (by rfl) (by rfl) ?_
        refine ldS H15 (by rfl) ⟨_, _, rfl, ?_⟩
        refine callWith_method0 ?_
        have hva : Al v := by rw [← e3]; exact fun c hc => hra c (List.mem_of_mem_drop (List.mem_of_mem_take hc))
        have hvl : v.length ≤ 16 := by rw [← e3, List.length_take, List.length_drop]; omega
        refine SC.rstrip (s := up s h15 tk15) (fun t16 tk16 => ?_) (sizeOk_small (by show (T v).cps.size ≤ 1000; rw [T_size]; omega))
        rw [rstrip_T hva (pVal_v hv')]
        show wpAny _ _ _ _ _ (up s h15 tk16)
        refine stS H15 fun h17 tk17 H17 => ?_
        refine wpAny_execs_nil ?_
        simp only
        refine wpAny_execs_nil ?_
        simp only
        refine wpAny_execs_cons ?_
        refine wpAny_mono (append_pair H17 rfl (by rfl) (by rfl) (by rfl) (by rfl) (by rfl) (by rfl) (.inr ⟨_, _, rfl, rfl⟩) (by omega)) ?_ (fun _ _ x => x)
        rintro fl s' ⟨rfl, K18, h18, tk18, rfl, ks18, H18⟩
        refine wpAny_execs_nil ?_
        simp only
        refine ⟨trivial, K18, h18, tk18, ap, r2, _, _, res, rfl, (ks1.trans ks9).trans ks18, H18, ?_, ?_, by simp, by omega, fun n => ?_⟩
        · rw [← e4]; exact al_drop hra _
        · rw [← e4, List.length_drop]; omega
        · rw [ploop, if_neg hne, hp]
          simp only [hq, hv']
      | none =>
        refine searchU_none ((G1.pVa).keeps H8.kh) (by omega) (val_none hra hrl hv') ?_
        refine stS H8 fun h9 tk9 H9 => ?_
        refine wpAny_execs_cons ?_
        refine wpAny_If ?_
        refine isTrue_plain ?_
        refine ldS H9 (by rfl) ?_
        refine truthU_none ?_
        simp only [Bool.false_eq_true, if_false]
        refine wpAny_execs_cons ?_
        refine wpAny_Assign_Name ?_
        refine noneU ?_
        refine stS H9 fun h17 tk17 H17 => ?_
        refine wpAny_execs_nil ?_
        simp only
        refine wpAny_execs_nil ?_
        simp only
        refine wpAny_execs_cons ?_
        refine wpAny_mono (append_pair H17 rfl (by rfl) (by rfl) (by rfl) (by rfl) (by rfl) (by rfl) (.inl ⟨rfl, rfl⟩) (by omega)) ?_ (fun _ _ x => x)
        rintro fl s' ⟨rfl, K18, h18, tk18, rfl, ks18, H18⟩
        refine wpAny_execs_nil ?_
        simp only
        refine ⟨trivial, K18, h18, tk18, ap, r, _, _, res, rfl, ks1.trans ks18, H18, hra, hrlt, by simp, by omega, fun n => ?_⟩
        rw [ploop, if_neg hne, hp]
        simp only [hq, hv']
  | none =>
    refine searchU_none ((G.pTo).keeps H.kh) (by omega) (tok_none ht hlen hp) ?_
    refine stS H fun h1 tk1 H1 => ?_
    refine execs_one ?_
    refine wpAny_If ?_
    refine isTrue_plain ?_
    refine ldS H1 (by rfl) ?_
    refine truthU_none ?_
    simp only [Bool.false_eq_true, if_false]
    refine execs_one ?_
    refine wpAny_mono (tail_turn hc G H1 ht hlen hne hps hres hp) ?_ (fun _ _ x => x)
    rintro fl s' ⟨rfl, q⟩
    exact ⟨rfl, q⟩
end Mine
end

-- Fx7
section
open PySem PyProof.Rows PySem.W PySem.Builtin PySem.Builtin.Re
set_option Elab.async false
set_option linter.all false
set_option maxRecDepth 100000
namespace Mine
variable {prog : Program} {w : World} {A : Around} {E : Value → Shared → Prop} {s : Shared} {h : Heap} {tk : Nat} {K base : Heap} {hid : Addr → Obj → Prop} {L : Addr} {mg mb : Str → Option Value}
theorem flush_app (ps : Ws) (R res : List Ws) : flush ps (R ++ res) = R ++ flush ps res := by
  unfold flush; split <;> simp
theorem ploop_app (R : List Ws) : ∀ (n : Nat) (t : List Nat) (ps : Ws) (res : List Ws), ploop n t ps (R ++ res) = R ++ ploop n t ps res
  | 0, _, _, _ => flush_app _ _ _
  | n + 1, t, ps, res => by
    rw [ploop, ploop]
    split
    · exact flush_app _ _ _
    · split
      · split
        · exact ploop_app R n _ _ _
        · split
          · exact ploop_app R n _ _ _
          · exact ploop_app R n _ _ _
      · split
        · rw [flush_app]; exact ploop_app R n _ _ _
        · exact ploop_app R n _ _ _
def WhQ (s : Shared) (K base : Heap) (hid : Addr → Obj → Prop) (L hv ar : Addr) (b : Nat) (V : List Ws) (s' : Shared) : Prop :=
  ∃ K' h' tk' ap' tt' ps' res', s' = up s h' tk' ∧ Sub K K' ∧ Hk K' base hid L (Sl hv ar ap' [] tt' ps' res') h' ∧ ps'.length ≤ b ∧ res'.length ≤ b ∧ flush ps' res' = V
theorem while_ok {hv ar ap : Addr} {t : List Nat} {tt : Tok} {ps : Ws} {res : List Ws} (hroom : A.depth + 10 < recursionLimit) (hc : Calm A K) (G : Gnd mg mb K) (H : Hk K base hid L (Sl hv ar ap t tt ps res) h) (ht : Al t) (hlen : t.length ≤ 16) {b : Nat} (hb : b ≤ 100) (hps : ps.length + t.length ≤ b) (hres : res.length + t.length ≤ b) :
    wpAny (model prog w) A (exec shwWhile (shwEnv L)) (fun f s' => f = .next ∧ WhQ s K base hid L hv ar b (ploop (t.length + 1) t ps res) s') E (up s h tk) := by
  refine wpAny_While ?_
  obtain ⟨I, hI⟩ : ∃ I : Nat → Shared → Prop, I = (fun m s' => ∃ K' h' tk' ap' t' tt' ps' res' n, s' = up s h' tk' ∧ Sub K K' ∧ Hk K' base hid L (Sl hv ar ap' t' tt' ps' res') h' ∧ Al t' ∧ t'.length = m ∧ t'.length ≤ 16 ∧ ps'.length + t'.length ≤ b ∧ res'.length + t'.length ≤ b ∧ t'.length < n ∧ ploop n t' ps' res' = ploop (t.length + 1) t ps res) := ⟨_, rfl⟩
  refine codeAny_whileLoop I ?_ t.length (by rw [hI]; exact ⟨K, h, tk, ap, t, tt, ps, res, t.length + 1, rfl, Sub.refl K, H, ht, rfl, hlen, hps, hres, Nat.lt_succ_self _, rfl⟩)
  intro m s' hm
  rw [hI] at hm
  obtain ⟨K', h', tk', ap', t', tt', ps', res', n, rfl, ks, H', ht', rfl, hl', hp', hr', hn, hV⟩ := hm
  refine isTrue_plain ?_
  refine ldS H' (by rfl) ?_
  refine truthU_str (by omega) fun tk1 => ?_
  obtain ⟨k, rfl⟩ : ∃ k, n = k + 1 := ⟨n - 1, by omega⟩
  cases t' with
  | nil =>
    simp only [List.isEmpty_nil, Bool.not_true, Bool.false_eq_true, if_false]
    refine wpAny_execs_nil ⟨rfl, K', h', tk1, ap', tt', ps', res', rfl, ks, H', by omega, by omega, ?_⟩
    rw [← hV, ploop, if_pos rfl]
  | cons c r =>
    simp only [List.isEmpty_cons, Bool.not_false, if_true]
    refine wpAny_mono (turn_ok hroom (hc.sub ks) (G.sub ks) H' ht' hl' (by simp) (by omega) (by omega)) ?_ (fun _ _ x => x)
    rintro fl s' ⟨rfl, K2, h2, tk2, ap2, t2, tt2, ps2, res2, rfl, ks2, H2, ht2, hl2, hp2, hr2, hV2⟩
    refine ⟨t2.length, hl2, ?_⟩
    rw [hI]
    exact ⟨K2, h2, tk2, ap2, t2, tt2, ps2, res2, k, rfl, ks.trans ks2, H2, ht2, rfl, by omega, by omega, by omega, by omega, by rw [← hV, hV2]⟩
def S0 (hv ar : Addr) (res : List Ws) : St := { loc := [("header_values", .ref hv), ("result", .ref ar)], mu := [(ar, res.map wsD)] }
def S1 (hv ar : Addr) (t : List Nat) (tt : Tok) (res : List Ws) : St := { loc := [("text", .str (T t) tt), ("header_values", .ref hv), ("result", .ref ar)], mu := [(ar, res.map wsD)] }
theorem forBody_ok {hv ar : Addr} {t : List Nat} {tt : Tok} {res : List Ws} (hroom : A.depth + 10 < recursionLimit) (hc : Calm A K) (G : Gnd mg mb K) (H : Hk K base hid L (S1 hv ar t tt res) h) (ht : Al t) (hlen : t.length ≤ 16) (hres : res.length ≤ 70) :
    wpAny (model prog w) A (execs (forBody shwFor) (shwEnv L)) (fun f s' => f = .next ∧ ∃ K' h' tk', s' = up s h' tk' ∧ Sub K K' ∧ Hk K' base hid L (S0 hv ar (res ++ shw1 t)) h' ∧ (res ++ shw1 t).length ≤ res.length + 17) E (up s h tk) := by
  refine wpAny_execs_cons ?_
  refine wpAny_Assign_Name ?_
  refine ldS H (by rfl) ?_
  refine stS H fun h1 tk1 H1 => ?_
  refine wpAny_execs_cons ?_
  refine wpAny_Assign_Name ?_
  refine List_ ?_
  refine args_nil ?_
  refine wpAny_newObj_type (s := up s h1 tk1) ?_ (by show (0 : Nat) ≤ sizeLine; rw [sizeLine_eq]; decide)
  show wpAny _ _ _ _ _ (up s (h1.push { cls := .type "list", data := .seq #[] }) tk1)
  have H2 := H1.newMut (a := h1.objs.size) (vs := #[]) (n := 0) (ds := []) (Sub.push _ _) (get_size_none h1) (Heap.get?_push_size _ rfl) ⟨[], ReadsAll.nil, fun b hb => (by cases hb)⟩
  refine stS H2 fun h3 tk3 H3 => ?_
  have H4 : Hk K base hid L (Sl hv ar h1.objs.size t tt [] res) h3 := H3.slim (l := (Sl hv ar h1.objs.size t tt [] res).loc) (by
    intro p hp
    simp only [Sl, List.mem_cons, List.not_mem_nil, or_false] at hp
    rcases hp with rfl | rfl | rfl | rfl <;> simp [S1, put])
  refine wpAny_execs_cons ?_
  refine wpAny_mono (while_ok hroom hc G H4 ht hlen (b := res.length + 16) (by omega) (by simp; omega) (by omega)) ?_ (fun _ _ x => x)
  rintro fl s' ⟨rfl, K5, h5, tk5, ap, t5, ps, r5, rfl, ks5, H5, hp5, hr5, hV⟩
  have hV2 : res ++ shw1 t = flush ps r5 := by
    rw [hV]
    have := ploop_app res (t.length + 1) t [] []
    rw [List.append_nil] at this
    exact this.symm
  rw [hV2]
  simp only
  refine wpAny_execs_cons ?_
  refine wpAny_If ?_
  refine isTrue_plain ?_
  refine ldS H5 (by rfl) ?_
  obtain ⟨items, hpl, hsz⟩ := H5.plain (a := ap) (ds := ps.map prD) (.head _)
  refine truthU_list hpl (by rw [hsz, List.length_map]; omega) fun tk6 => ?_
  have ee : items.isEmpty = ps.isEmpty := by
    rw [Bool.eq_iff_iff, Array.isEmpty_iff_size_eq_zero, hsz, List.length_map, List.isEmpty_iff_length_eq_zero]
  rw [ee]
  obtain ⟨K7, ks7, ⟨as, r1, r2⟩, H7⟩ := H5.freeze (a := ap) (ds := ps.map prD) rfl
  have hsub : ∀ p ∈ (S0 hv ar (flush ps r5)).loc, p ∈ (Sl hv ar ap [] t5 ps r5).loc := by
    intro p hp
    simp only [S0, List.mem_cons, List.not_mem_nil, or_false] at hp
    rcases hp with rfl | rfl <;> simp [Sl]
  cases hpe : ps.isEmpty with
  | true =>
    simp only [Bool.not_true, Bool.false_eq_true, if_false]
    refine wpAny_execs_nil ?_
    simp only
    have : ps = [] := List.isEmpty_iff.mp hpe
    have ef : flush ps r5 = r5 := by unfold flush; rw [if_pos this]
    rw [ef] at hsub ⊢
    exact wpAny_execs_nil ⟨rfl, K7, h5, tk6, rfl, ks5.trans ks7, H7.slim (l := (S0 hv ar r5).loc) hsub, by omega⟩
  | false =>
    simp only [Bool.not_false, if_true]
    have : ps ≠ [] := fun e => by rw [e] at hpe; cases hpe
    have ef : flush ps r5 = r5 ++ [ps] := by unfold flush; rw [if_neg this]
    refine wpAny_execs_cons ?_
    obtain ⟨items2, hpl2, hsz2⟩ := H7.plain (a := ar) (ds := r5.map wsD) (.head _)
    refine wpAny_Expr_any ?_
    refine wpAny_Call_append (by rfl) (by rfl) (by rfl) (by rfl) ?_
    refine ldS H7 (by rfl) ?_
    refine ⟨ar, items2, rfl, ?_, ?_⟩
    · obtain ⟨n, e⟩ := hpl2
      exact ⟨_, n, e, rfl, rfl, rfl⟩
    refine ldS H7 (by rfl) ?_
    refine wpAny_list_append_plain (s := up s h5 tk6) hpl2 (fun h8 p8 sb => ?_) (by rw [hsz2, sizeLine_eq, List.length_map]; omega)
    have H8 := H7.append rfl ⟨as, r1, r2⟩ hpl2 p8 sb
    simp only
    refine wpAny_execs_nil ?_
    simp only
    refine wpAny_execs_nil ⟨rfl, K7, h8, tk6, rfl, ks5.trans ks7, ?_, ?_⟩
    · have := H8.slim (l := (S0 hv ar (flush ps r5)).loc) hsub
      have em : (flush ps r5).map wsD = r5.map wsD ++ [wsD ps] := by rw [ef]; simp
      show Hk _ _ _ _ { loc := (S0 hv ar (flush ps r5)).loc, mu := [(ar, (flush ps r5).map wsD)] } _
      rw [em]
      exact this
    · rw [ef, List.length_append, List.length_singleton]; omega
end Mine
end

-- Fx8
section
open PySem PyProof.Rows PySem.W PySem.Builtin PySem.Builtin.Re
set_option Elab.async false
set_option linter.all false
set_option maxRecDepth 100000
namespace Mine
variable {prog : Program} {w : World} {A : Around} {E : Value → Shared → Prop} {s : Shared} {h : Heap} {tk : Nat} {K base : Heap} {hid : Addr → Obj → Prop} {L : Addr} {mg mb : Str → Option Value}
/-- a list of texts, frozen -/
def Txts (K : Heap) (hv : Addr) (ts : List (List Nat)) : Prop :=
  ∃ vs n, K.get? hv = some { cls := .type "list", data := .seq vs n } ∧ vs.size = ts.length ∧ ∀ (i : Nat) (t : List Nat), ts[i]? = some t → ∃ tt, vs[i]? = some (Value.str (T t) tt)
theorem Txts.sub {K K' : Heap} {hv ts} (x : Txts K hv ts) (k : Sub K K') : Txts K' hv ts := let ⟨vs, n, h1, h2⟩ := x; ⟨vs, n, k _ _ h1, h2⟩
def upto (ts : List (List Nat)) (i : Nat) : List Ws := ((ts.take i).map shw1).flatten
theorem upto_succ {ts : List (List Nat)} {i : Nat} {t : List Nat} (h : ts[i]? = some t) : upto ts (i + 1) = upto ts i ++ shw1 t := by
  unfold upto
  rw [List.take_add_one, h]
  simp
theorem for_ok {hv ar : Addr} {ts : List (List Nat)} (hroom : A.depth + 10 < recursionLimit) (hc : Calm A K) (G : Gnd mg mb K) (H : Hk K base hid L (S0 hv ar []) h) (hT : Txts K hv ts) (ht : ∀ t ∈ ts, Al t ∧ t.length ≤ 16) (hl : ts.length ≤ 3) :
    wpAny (model prog w) A (exec shwFor (shwEnv L)) (fun f s' => f = .next ∧ ∃ K' h' tk', s' = up s h' tk' ∧ Sub K K' ∧ Hk K' base hid L (S0 hv ar ((ts.map shw1).flatten)) h') E (up s h tk) := by
  obtain ⟨vs, n0, hv1, hv2, hv3⟩ := hT
  refine wpAny_For ?_
  refine ldS H (by rfl) ?_
  refine wpAny_pyIter_list (s := up s h tk) (l := hv) (items := vs) ⟨_, H.kh _ _ hv1, rfl, _, rfl⟩ ?_
  show codeAny _ _ _ _ (up s (h.push { cls := .type "list_iterator", data := .fields #[.ref hv, .int 0 0] }) tk)
  obtain ⟨o1, o2, o3, o4, o5⟩ := H.out (get_size_none h)
  have H0 := H.mono (Sub.push h { cls := .type "list_iterator", data := .fields #[.ref hv, .int 0 0] })
  have hit0 : (h.push { cls := .type "list_iterator", data := .fields #[.ref hv, .int 0 0] }).IsListIter h.objs.size hv 0 := ⟨_, Heap.get?_push_size _ rfl, rfl, rfl⟩
  show codeAny _ _ (.forLoop _ (.ref h.objs.size) _ _ _) _ _
  generalize h.objs.size = it at *
  generalize h.push { cls := .type "list_iterator", data := .fields #[.ref hv, .int 0 0] } = h0 at *
  obtain ⟨I, hI⟩ : ∃ I : Nat → Shared → Prop, I = (fun m s' => ∃ K' h' tk' i, s' = up s h' tk' ∧ Sub K K' ∧ Hk K' base hid L (S0 hv ar (upto ts i)) h' ∧ h'.IsListIter it hv i ∧ K'.get? it = none ∧ i + m = ts.length ∧ (upto ts i).length ≤ 17 * i) := ⟨_, rfl⟩
  refine codeAny_forLoop I ?_ ts.length (by rw [hI]; exact ⟨K, h0, tk, 0, rfl, Sub.refl K, H0, hit0, o1, by omega, by simp [upto]⟩)
  intro m s' hm
  rw [hI] at hm
  obtain ⟨K', h', tk', i, rfl, ks, H', hit, hK, him, hul⟩ := hm
  have hne : it ≠ hv := by rintro rfl; rw [ks _ _ hv1] at hK; cases hK
  have hls : h'.IsList hv vs := ⟨_, H'.kh _ _ (ks _ _ hv1), rfl, _, rfl⟩
  have ho4 : it ∉ (S0 hv ar (upto ts i)).mu.map (·.1) := o4
  cases hx : ts[i]? with
  | none =>
    have hil : ts.length ≤ i := List.getElem?_eq_none_iff.mp hx
    refine next_list_end (s := up s h' tk') (hc.sub ks) H'.kh hit hK hls (Array.getElem?_eq_none_iff.mpr (by omega)) fun h2 e2 => ?_
    simp only
    refine wpAny_execs_nil ⟨rfl, K', h2, tk', rfl, ks, ?_⟩
    have : upto ts i = (ts.map shw1).flatten := by unfold upto; rw [List.take_of_length_le hil]
    rw [← this]
    exact H'.turn hK o2 o3 ho4 o5 e2
  | some t =>
    have hil : i < ts.length := by
      rcases Nat.lt_or_ge i ts.length with h | h
      · exact h
      · rw [List.getElem?_eq_none_iff.mpr h] at hx; cases hx
    obtain ⟨tt, hx2⟩ := hv3 i t hx
    refine wpAny_pyNext_list_item (s := up s h' tk') hit hls hx2 fun h2 hit2 sb => ?_
    show wpAny _ _ _ _ _ (up s h2 tk')
    have H2 := H'.turn hK o2 o3 ho4 o5 sb.extBut
    refine wpAny_assign_Name ?_
    obtain ⟨o, io1, io2, io3⟩ := id hit2
    have Hh := H2.hide io1 hK o2 o3 ho4
    refine stS Hh fun h3 tk3 H3 => ?_
    have H4 : Hk K' base (hideOne hid it o) L (S1 hv ar t tt (upto ts i)) h3 := H3.slim (l := (S1 hv ar t tt (upto ts i)).loc) (by
      intro p hp
      simp only [S1, List.mem_cons, List.not_mem_nil, or_false] at hp
      rcases hp with rfl | rfl | rfl <;> simp [S0, put])
    have hmem : t ∈ ts := List.mem_of_getElem? hx
    refine wpAny_mono (forBody_ok hroom (hc.sub ks) (G.sub ks) H4 (ht t hmem).1 (ht t hmem).2 (by omega)) ?_ (fun _ _ x => x)
    rintro fl s' ⟨rfl, K5, h5, tk5, rfl, ks5, H5, hl5⟩
    obtain ⟨H6, q1, q2, _⟩ := H5.unhide
    refine ⟨m - 1, by omega, ?_⟩
    rw [hI]
    refine ⟨K5, h5, tk5, i + 1, rfl, ks.trans ks5, ?_, ⟨o, q1, io2, io3⟩, q2, by omega, ?_⟩
    · rw [upto_succ hx]; exact H6
    · rw [upto_succ hx]; omega
theorem fdef_cd {name name' : Str} {p p' : Arguments} {b b' : List Stmt} {sc sc' : Scope} {pm pm' cd cd' doc doc' : Value} (h : (Data.func (Calls.docDef name p b sc pm cd doc)) = .func (Calls.docDef name' p' b' sc' pm' cd' doc')) : cd = cd' := by
  injection h with h
  exact congrArg FuncData.code h
theorem Gnd.crec (G : Gnd mg mb K) : K.CodeRec (.ref 69) "split_header_words" := by
  obtain ⟨o, pm, doc, c1, c2⟩ := G.cSh
  obtain ⟨o', pm', cd', doc', f1, f2, f3⟩ := G.fSh
  have e : o = o' := Option.some.inj (c1.symm.trans f1)
  have e2 : Value.ref 69 = cd' := fdef_cd (c2.symm.trans ((congrArg Obj.data e).trans f2))
  rw [e2]
  exact f3
theorem boot_isi : bootBuiltins (Str.ofString "isinstance") = some (.builtin "isinstance") := by kernel_rfl
theorem boot_str : bootBuiltins (Str.ofString "str") = some (.type "str") := by kernel_rfl
set_option maxHeartbeats 4000000 in
theorem shw_ok {S : St} {hv : Addr} {ts : List (List Nat)} {Q : Value → Shared → Prop} (hroom : A.depth + 20 < recursionLimit) (hc : Calm A K) (G : Gnd mg mb K) (H : Hk K base hid L S h) (hT : Txts K hv ts) (ht : ∀ t ∈ ts, Al t ∧ t.length ≤ 16) (hl : ts.length ≤ 3)
    (hQ : ∀ r K' h' tk', Sub K K' → Hk K' base hid L S h' → (∃ as, Reads K' (.ref r) (.list (((ts.map shw1).flatten).map wsD)) as ∧ ∀ a ∈ as, K.get? a = none ∧ Pl K' a) → Q (.ref r) (up s h' tk')) :
    wpAny (model prog w) A (call (.ref 70) [.ref hv]) Q E (up s h tk) := by
  obtain ⟨o, pm, doc, c1, c2⟩ := G.cSh
  have c3 := G.crec
  refine wpAny_call (call_pos_ret (s := up s h tk) (by omega) (H.kh _ _ c1) c2 (G.nolimit.keeps H.kh) (c3.keeps H.kh) rfl (locs (by rfl)) (fun h₁ F => ?_) (by rfl) (by rfl) (by rfl) (by decide +kernel))
  show wpAny _ _ _ _ _ (up s h₁ _)
  generalize (up s h tk).toks + _ = tk1
  have H1 := H.enter F (get_size_none h) (l := [("header_values", .ref hv)]) (by
    intro p hp
    simp only [List.mem_cons, List.not_mem_nil, or_false] at hp
    subst hp
    rfl)
  show wpAny _ _ (execs _ (shwEnv h.objs.size)) _ _ _
  generalize h.objs.size = L1 at H1 ⊢
  have hroom1 : (A.deeper (shwEnv L1)).depth + 10 < recursionLimit := by show A.depth + 1 + 10 < _; omega
  have hc1 : Calm (A.deeper (shwEnv L1)) K := hc
  refine wpAny_execs_cons ?_
  refine wpAny_Assert_holds ?_
  refine wpAny_isTrue_Not ?_
  refine isTrue_plain ?_
  refine Call_ ?_
  refine ldB G H1.kh (by simp) boot_isi ?_
  refine PyProof.Rows.callWith_builtin1 ?_
  refine args_cons ?_
  refine ldS H1 (by rfl) ?_
  refine args_cons ?_
  refine ldB G H1.kh (by simp) boot_str ?_
  refine args_nil ?_
  obtain ⟨vs, n0, hv1, hv2⟩ := id hT
  refine IsiPair.list_str (s := up s h₁ tk1) (H1.kh _ _ hv1) rfl ?_
  refine wpAny_truthy_bool ⟨rfl, ?_⟩
  show wpAny _ _ _ _ _ (up s h₁ (tk1 + 1))
  -- result = []
  refine wpAny_execs_cons ?_
  refine wpAny_Assign_Name ?_
  refine List_ ?_
  refine args_nil ?_
  refine wpAny_newObj_type (s := up s h₁ (tk1 + 1)) ?_ (by show (0 : Nat) ≤ sizeLine; rw [sizeLine_eq]; decide)
  show wpAny _ _ _ _ _ (up s (h₁.push { cls := .type "list", data := .seq #[] }) (tk1 + 1))
  have H2 := H1.newMut (a := h₁.objs.size) (vs := #[]) (n := 0) (ds := []) (Sub.push _ _) (get_size_none h₁) (Heap.get?_push_size _ rfl) ⟨[], ReadsAll.nil, fun b hb => (by cases hb)⟩
  refine stS H2 fun h3 tk3 H3 => ?_
  have H4 : Hk K K (hidOf K h) L1 (S0 hv h₁.objs.size []) h3 := H3.slim (l := (S0 hv h₁.objs.size []).loc) (by
    intro p hp
    simp only [S0, List.mem_cons, List.not_mem_nil, or_false] at hp
    rcases hp with rfl | rfl <;> simp [put])
  refine wpAny_execs_cons ?_
  refine wpAny_mono (for_ok hroom1 hc1 G H4 hT ht hl) ?_ (fun _ _ x => x)
  rintro fl s' ⟨rfl, K5, h5, tk5, rfl, ks5, H5⟩
  simp only
  refine wpAny_execs_cons ?_
  refine wpAny_Return_some ?_
  refine ldS H5 (by rfl) ?_
  obtain ⟨K6, ks6, hr6, H6⟩ := H5.freeze (a := h₁.objs.size) rfl
  exact hQ _ K6 h5 tk5 (ks5.trans ks6) (H.back H6) (let ⟨as, r, q⟩ := hr6; ⟨as, r, fun a ha => ⟨(q a ha).1, (q a ha).2 ⟨70, o, c1⟩⟩⟩)
end Mine
end

-- Fy1
section
open PySem PyProof.Rows PySem.W PySem.Builtin PySem.Builtin.Re
set_option Elab.async false
set_option linter.all false
set_option maxRecDepth 100000
namespace Mine
variable {prog : Program} {w : World} {A : Around} {E : Value → Shared → Prop} {s : Shared} {h : Heap} {tk : Nat} {K base : Heap} {hid : Addr → Obj → Prop} {L : Addr} {mg mb : Str → Option Value} {env : Env}
theorem al_ascii : ∀ c ∈ al, c < 128 := by decide +kernel
theorem T_ascii {t : List Nat} (ht : Al t) : (T t).cps.all (· < 128) = true := by
  rw [Array.all_eq_true]
  intro i hi
  simp only [decide_eq_true_eq]
  refine al_ascii _ (ht _ ?_)
  simp [T]
theorem T_get (t : List Nat) (i : Nat) : (T t).cps[i]? = t[i]? := by simp [T]
theorem T_one (c : Nat) : (⟨#[c]⟩ : Str) = T [c] := rfl
theorem T_beq (a b : List Nat) : (T a == T b) = (a == b) := by
  rw [Bool.eq_iff_iff, beq_iff_eq, beq_iff_eq]
  exact ⟨fun e => by have := congrArg (fun x : Str => x.cps.toList) e; simpa [T] using this, fun e => by rw [e]⟩
theorem nl_T : Str.ofString "\n" = T [10] := by decide +kernel
theorem mark_T : Str.ofString "\"" = T [34] := by decide +kernel
theorem back_T : Str.ofString "\\" = T [92] := by decide +kernel
/-- a comparison of a sign with a text of one sign -/
theorem eqU {a b : List Nat} {t u : Tok} {Q : Value → Shared → Prop} (hQ : Q (.bool (a == b)) (up s h tk)) : wpAny (model prog w) A (compareOp .Eq (.str (T a) t) (.str (T b) u)) Q E (up s h tk) :=
  PyProof.Rows.eq_str (by rw [T_beq]; exact hQ)
theorem one_beq (c d : Nat) : (([c] : List Nat) == [d]) = (c == d) := by
  rw [Bool.eq_iff_iff, beq_iff_eq, beq_iff_eq]; simp
/-- two truths -/
theorem and2 {x y : Expr} {pos : Pos} {whole : Sem Value} {p q : Bool} {Q : Bool → Shared → Prop}
    (hx : ∀ Q' : Bool → Shared → Prop, (∀ tk', Q' p (up s h tk')) → wpAny (model prog w) A (isTrue x env (eval x env)) Q' E (up s h tk))
    (hy : ∀ tk', p = true → ∀ Q' : Bool → Shared → Prop, (∀ tk', Q' q (up s h tk')) → wpAny (model prog w) A (isTrue y env (eval y env)) Q' E (up s h tk'))
    (hQ : ∀ tk', Q (p && q) (up s h tk')) : wpAny (model prog w) A (isTrue (.BoolOp .And [x, y] pos) env whole) Q E (up s h tk) := by
  refine wpAny_isTrue_BoolOp (wpAny_allTrue_And_cons (hx _ fun tk1 => ?_))
  cases p with
  | false => exact hQ _
  | true =>
    simp only [if_true]
    refine wpAny_allTrue_And_cons (hy tk1 rfl _ fun tk2 => ?_)
    cases q with
    | false => exact hQ _
    | true => exact wpAny_allTrue_And_nil (hQ _)
theorem andV {x y : Expr} {pos : Pos} {p q : Bool} {Q : Value → Shared → Prop}
    (hx : ∀ Q' : Value → Shared → Prop, (∀ tk', Q' (.bool p) (up s h tk')) → wpAny (model prog w) A (eval x env) Q' E (up s h tk))
    (hy : ∀ tk' (Q' : Value → Shared → Prop), (∀ tk', Q' (.bool q) (up s h tk')) → wpAny (model prog w) A (eval y env) Q' E (up s h tk'))
    (hQ : ∀ tk', Q (.bool (p && q)) (up s h tk')) : wpAny (model prog w) A (eval (.BoolOp .And [x, y] pos) env) Q E (up s h tk) := by
  refine wpAny_And2 (hx _ fun tk1 => wpAny_truthy_bool ?_)
  cases p with
  | false => exact hQ _
  | true =>
    simp only [if_true]
    exact hy _ _ fun tk2 => hQ _
theorem isU {e : Expr} {whole : Sem Value} {b : Bool} (hw : ∀ Q' : Value → Shared → Prop, (∀ tk', Q' (.bool b) (up s h tk')) → wpAny (model prog w) A whole Q' E (up s h tk)) (Q : Bool → Shared → Prop) (hQ : ∀ tk', Q b (up s h tk'))
    (he : isTrue e env whole = (do let v ← whole; standAt e.pos; holding [v] (truthy v)) := by rfl) : wpAny (model prog w) A (isTrue e env whole) Q E (up s h tk) :=
  isTrue_plain (hw _ fun tk' => wpAny_truthy_bool (hQ tk')) he
theorem notU {x : Expr} {pos : Pos} {whole : Sem Value} {b : Bool} (hx : ∀ Q' : Bool → Shared → Prop, (∀ tk', Q' b (up s h tk')) → wpAny (model prog w) A (isTrue x env (eval x env)) Q' E (up s h tk)) (Q : Bool → Shared → Prop) (hQ : ∀ tk', Q (!b) (up s h tk')) :
    wpAny (model prog w) A (isTrue (.UnaryOp .Not x pos) env whole) Q E (up s h tk) := wpAny_isTrue_Not (hx _ hQ)
theorem cmpU {l r : Expr} {op : CmpOp} {pos : Pos} {whole : Sem Value} {b : Bool} (hv : ∀ Q' : Value → Shared → Prop, (∀ tk', Q' (.bool b) (up s h tk')) → wpAny (model prog w) A (eval l env) (fun a s₁ => wpAny (model prog w) A (eval r env) (fun b s₂ => wpAny (model prog w) A (compareOp op a b) Q' E s₂) E s₁) E (up s h tk))
    (Q : Bool → Shared → Prop) (hQ : ∀ tk', Q b (up s h tk')) (hm : behindInMarks op r = false := by with_unfolding_all rfl) : wpAny (model prog w) A (isTrue (.Compare l [op] [r] pos) env whole) Q E (up s h tk) :=
  wpAny_isTrue_Compare1 (hv _ fun tk' => wpAny_truthy_bool (hQ tk')) hm
abbrev fuEnv (L : Addr) (cd : Value) : Env := envOf "_law_fulfils" (fScope (fnAt 11)) L 82 cd
theorem ful_ok {S : St} {t : List Nat} {tt : Tok} {Q : Value → Shared → Prop} (hroom : A.depth + 20 < recursionLimit) (hh : A.handled = none) (G : Gnd mg mb K) (H : Hk K base hid L S h) (ht : Al t) 
    (hQ : ∀ h' tk', Hk K base hid L S h' → Q (.bool (ful false t)) (up s h' tk')) :
    wpAny (model prog w) A (call (.ref 82) [.str (T t) tt]) Q E (up s h tk) := by
  obtain ⟨o, pm, cd, doc, c1, c2, c3⟩ := G.fFu
  refine wpAny_call (call_pos_ret (s := up s h tk) (by omega) (H.kh _ _ c1) c2 (G.nolimit.keeps H.kh) (c3.keeps H.kh) rfl (locs (by rfl)) (fun h₁ F => ?_) (by rfl) (by rfl) (by rfl) (by decide +kernel))
  show wpAny _ _ _ _ _ (up s h₁ _)
  generalize (up s h tk).toks + _ = tk1
  have H1 := H.enter F (get_size_none h) (l := [("text", .str (T t) tt)]) (by
    intro p hp
    simp only [List.mem_cons, List.not_mem_nil, or_false] at hp
    subst hp
    rfl)
  show wpAny _ _ (execs _ (fuEnv h.objs.size cd)) _ _ _
  generalize h.objs.size = L1 at H1 ⊢
  have hh1 : (A.deeper (fuEnv L1 cd)).handled = none := hh
  refine wpAny_execs_cons ?_
  refine wpAny_Assign_Name ?_
  refine boolU ?_
  refine stS H1 fun h2 tk2 H2 => ?_
  refine wpAny_execs_cons ?_
  refine wpAny_For ?_
  refine ldS H2 (by rfl) ?_
  refine wpAny_pyIter_ascii (s := up s h2 tk2) (T_ascii ht) ?_
  show codeAny _ _ _ _ (up s (h2.push { cls := .type "str_ascii_iterator", data := .fields #[.str (T t) tt, .int 0 0] }) tk2)
  obtain ⟨o1, o2, o3, o4, o5⟩ := H2.out (get_size_none h2)
  have H3 := H2.mono (Sub.push h2 { cls := .type "str_ascii_iterator", data := .fields #[.str (T t) tt, .int 0 0] })
  have hit0 : (h2.push { cls := .type "str_ascii_iterator", data := .fields #[.str (T t) tt, .int 0 0] }).IsStrIter h2.objs.size "str_ascii_iterator" (T t) tt 0 := ⟨_, Heap.get?_push_size _ rfl, rfl, rfl⟩
  show codeAny _ _ (.forLoop _ (.ref h2.objs.size) _ _ _) _ _
  generalize h2.objs.size = it at o1 o2 o3 o4 o5 hit0 ⊢
  generalize h2.push { cls := .type "str_ascii_iterator", data := .fields #[.str (T t) tt, .int 0 0] } = h3 at H3 hit0 ⊢
  obtain ⟨I, hI⟩ : ∃ I : Nat → Shared → Prop, I = (fun m s' => ∃ h' tk' i b, s' = up s h' tk' ∧ Hk K K (hidOf K h) L1 { loc := [("taken", .bool b), ("text", .str (T t) tt)], fac := S.fac, kob := S.kob } h' ∧ h'.IsStrIter it "str_ascii_iterator" (T t) tt i ∧ i + m = t.length ∧ ful false t = ful b (t.drop i)) := ⟨_, rfl⟩
  refine codeAny_forLoop I ?_ t.length (by rw [hI]; exact ⟨h3, tk2, 0, false, rfl, H3, hit0, by omega, rfl⟩)
  intro m s' hm
  rw [hI] at hm
  obtain ⟨h', tk', i, b, rfl, H', hit, him, hf⟩ := hm
  cases hx : t[i]? with
  | none =>
    have hil : t.length ≤ i := List.getElem?_eq_none_iff.mp hx
    refine wpAny_pyNext_ascii_end (s := up s h' tk') hh1 hit (by rw [T_get]; exact hx) fun h4 e4 => ?_
    simp only
    refine wpAny_execs_nil ?_
    simp only
    have H4 := H'.turn o1 o2 o3 o4 o5 e4
    show wpAny _ _ _ _ _ (up s h4 tk')
    refine wpAny_execs_cons ?_
    refine wpAny_Return_some ?_
    refine boolU ?_
    have : ful false t = false := by rw [hf, List.drop_of_length_le hil, ful]
    rw [← this]
    exact hQ _ _ (H.back H4)
  | some c =>
    have hil : i < t.length := by
      rcases Nat.lt_or_ge i t.length with h | h
      · exact h
      · rw [List.getElem?_eq_none_iff.mpr h] at hx; cases hx
    have hd : t.drop i = c :: t.drop (i + 1) := by
      rw [List.drop_eq_getElem_cons hil]
      rw [List.getElem?_eq_getElem hil] at hx
      cases hx; rfl
    rw [hd, ful] at hf
    refine wpAny_pyNext_ascii_item (s := up s h' tk') hit (by rw [T_get]; exact hx) fun h4 hit4 sb => ?_
    show wpAny _ _ _ _ _ (up s h4 (tk' + 1))
    have H4 := H'.turn o1 o2 o3 o4 o5 sb.extBut
    refine wpAny_assign_Name ?_
    rw [T_one]
    obtain ⟨oi, io1, io2, io3⟩ := id hit4
    have Hh := H4.hide io1 o1 o2 o3 o4
    refine stS Hh fun h5 tk5 H5 => ?_
    refine wpAny_execs_cons ?_
    refine wpAny_If ?_
    refine and2 (p := b) (q := c == 10) (fun Q' hQ' => isU (fun Q'' h'' => ldS H5 (by rfl) (h'' _)) Q' hQ') (fun tk6 _ Q' hQ' => cmpU (fun Q'' h'' => ldS H5 (by rfl) (strU fun t6 tk7 => by rw [nl_T]; exact eqU (by rw [one_beq]; exact h'' _))) Q' hQ') fun tk6 => ?_
    have Hu : ∀ {h6 : Heap} {l : List (String × Value)}, Hk K K (hideOne (hidOf K h) it oi) L1 { loc := l, fac := S.fac, kob := S.kob } h6 → Hk K K (hidOf K h) L1 { loc := l, fac := S.fac, kob := S.kob } h6 := fun x => x.unhide.1
    cases hb1 : (b && c == 10) with
    | true =>
      rw [hb1] at hf
      simp only [if_true] at hf ⊢
      refine wpAny_execs_cons ?_
      refine wpAny_Return_some ?_
      refine boolU ?_
      show Q _ _
      rw [← hf]
      exact hQ _ _ (H.back (Hu H5))
    | false =>
      rw [hb1] at hf
      simp only [Bool.false_eq_true, if_false] at hf ⊢
      refine wpAny_execs_nil ?_
      simp only
      refine wpAny_execs_cons ?_
      refine wpAny_If ?_
      refine and2 (p := c == 34) (q := !b) (fun Q' hQ' => cmpU (fun Q'' h'' => ldS H5 (by rfl) (strU fun t6 tk7 => by rw [mark_T]; exact eqU (by rw [one_beq]; exact h'' _))) Q' hQ') (fun tk6 _ Q' hQ' => notU (fun Q'' h'' => isU (fun Q3 h3 => ldS H5 (by rfl) (h3 _)) Q'' h'') Q' hQ') fun tk7 => ?_
      cases hb2 : (c == 34 && !b) with
      | true =>
        rw [hb2] at hf
        simp only [if_true] at hf ⊢
        refine wpAny_execs_cons ?_
        refine wpAny_Return_some ?_
        refine boolU ?_
        show Q _ _
        rw [← hf]
        exact hQ _ _ (H.back (Hu H5))
      | false =>
        rw [hb2] at hf
        simp only [Bool.false_eq_true, if_false] at hf ⊢
        refine wpAny_execs_nil ?_
        simp only
        refine wpAny_execs_cons ?_
        refine wpAny_Assign_Name ?_
        refine andV (p := c == 92) (q := !b) (fun Q' hQ' => wpAny_Compare1 (ldS H5 (by rfl) (strU fun t8 tk8 => by rw [back_T]; exact eqU (by rw [one_beq]; exact hQ' _)))) (fun tk9 Q' hQ' => wpAny_UnaryOp (ldS H5 (by rfl) (not_value (wpAny_truthy_bool (hQ' _))))) fun tk9 => ?_
        refine stS H5 fun h9 tk10 H9 => ?_
        refine wpAny_execs_nil ⟨m - 1, by omega, ?_⟩
        rw [hI]
        obtain ⟨H10, q1, _⟩ := H9.unhide
        refine ⟨h9, tk10, i + 1, (c == 92 && !b), rfl, H10.weak (S' := { loc := [("taken", .bool (c == 92 && !b)), ("text", .str (T t) tt)], fac := S.fac, kob := S.kob }) ?_ (fun p hp => hp) (fun p hp => hp) rfl, ⟨oi, q1, io2, io3⟩, by omega, hf⟩
        intro p hp
        simp only [List.mem_cons, List.not_mem_nil, or_false] at hp
        rcases hp with rfl | rfl <;> simp [put]
end Mine
end

-- Fy2
section
open PySem PyProof.Rows PySem.W PySem.Builtin PySem.Builtin.Re
set_option Elab.async false
set_option linter.all false
set_option maxRecDepth 100000
namespace Mine
variable {prog : Program} {w : World} {A : Around} {E : Value → Shared → Prop} {s : Shared} {h : Heap} {tk : Nat} {K base : Heap} {hid : Addr → Obj → Prop} {L : Addr} {mg mb : Str → Option Value} {env : Env}
theorem Hk.back' {K' b' h' : Heap} {L' : Addr} {S S' : St} (H : Hk K base hid L S h) (H' : Hk K' b' (hidOf K h) L' S' h') (bk' : Sub K K') : Hk K' base hid L S h' := by
  obtain ⟨bk, kh, kL, kt, Lt, ⟨m, n1, n2⟩, fac, kob, mu, nd, hd, tb⟩ := H
  obtain ⟨_, kh', kL', kt', Lt', _, _, _, _, _, hd', tb'⟩ := H'
  obtain ⟨oL, es, ep, hL, r1⟩ := id n1
  have qL := hd' L oL ⟨hL, kL, Lt⟩
  refine ⟨bk.trans bk', kh', qL.2.1, kt', Lt, ⟨m, ⟨oL, es, ep, qL.1, r1⟩, n2⟩, fac.sub bk', kob.sub bk', fun p hp => ?_, nd, fun b o x => ?_, tb'⟩
  · obtain ⟨m1, m2, m3, vs, n, as, m4, m5, m6⟩ := mu p hp
    have q := hd' p.1 _ ⟨m4, m1, m3⟩
    exact ⟨q.2.1, m2, m3, vs, n, as, q.1, ReadsAll.keeps bk' m5, fun a ha => (m6 a ha).keeps bk'⟩
  · obtain ⟨q1, q2, q3, q4, q5⟩ := hd b o x
    have q := hd' b o ⟨q1, q2, q4⟩
    exact ⟨q.1, q.2.1, q3, q4, q5⟩
def nil : Heap := {}
theorem nil_get (a : Addr) : nil.get? a = none := by
  cases hq : nil.get? a with
  | none => rfl
  | some o => exact absurd (Heap.lt_size hq) (Nat.not_lt_zero _)
theorem nil_nw (K : Heap) (b : Addr) : Nw nil K b := ⟨nil_get b, fun ⟨c, o, e⟩ => by rw [nil_get] at e; cases e⟩
theorem nil_sub (K : Heap) : Sub nil K := fun b o x => by rw [nil_get] at x; cases x
def RdL (K : Heap) (v : Value) (ls : List Ws) : Prop := ∃ as, Reads K v (.list (ls.map wsD)) as
def RdW (K : Heap) (v : Value) (ws : Ws) : Prop := ∃ as, Reads K v (wsD ws) as
def RdK (K : Heap) (v : Value) : Option Kp → Prop
  | none => v = .none
  | some k => ∃ a vb va t1 t2, v = .ref a ∧ K.get? a = some { cls := .type "tuple", data := .seq #[vb, va, .str (T k.key) t1, .str (T k.ins) t2, .bool k.tk] } ∧ RdL K vb k.bef ∧ RdW K va k.ahd
theorem RdL.sub {K K' : Heap} {v ls} (x : RdL K v ls) (k : Sub K K') : RdL K' v ls := let ⟨as, r⟩ := x; ⟨as, Reads.keeps k r⟩
theorem RdW.sub {K K' : Heap} {v ls} (x : RdW K v ls) (k : Sub K K') : RdW K' v ls := let ⟨as, r⟩ := x; ⟨as, Reads.keeps k r⟩
theorem RdK.sub {K K' : Heap} {v o} (x : RdK K v o) (k : Sub K K') : RdK K' v o := by
  cases o with
  | none => exact x
  | some o =>
    obtain ⟨a, vb, va, t1, t2, h1, h2, h3, h4⟩ := x
    exact ⟨a, vb, va, t1, t2, h1, k _ _ h2, h3.sub k, h4.sub k⟩
/-- a tuple is made and taken apart -/
theorem tup_un {S : St} {vs : List Value} {n : Nat} {Q : List Value → Shared → Prop} (hc : Calm A K) (hh : A.handled = none) (H : Hk K base hid L S h) (hn : n = vs.length) (hz : vs.length ≤ 10) (hQ : ∀ h', Hk K base hid L S h' → Q vs (up s h' tk)) :
    wpAny (model prog w) A (newTuple vs) (fun v s₁ => wpAny (model prog w) A (unpackItems v n none) Q E s₁) E (up s h tk) := by
  refine wpAny_newObj_type (s := up s h tk) ?_ (by show vs.toArray.size ≤ sizeLine; rw [sizeLine_eq, List.size_toArray]; omega)
  show wpAny _ _ _ _ _ (up s (h.push { cls := .type "tuple", data := .seq vs.toArray }) tk)
  have H1 := H.mono (Sub.push h { cls := .type "tuple", data := .seq vs.toArray })
  have q := unpackItems_tuple (prog := prog) (w := w) (E := E) (Q := Q) (s := up s (h.push { cls := .type "tuple", data := .seq vs.toArray }) tk) (t := h.objs.size) (items := vs.toArray) hh ⟨_, Heap.get?_push_size _ rfl, rfl, _, rfl⟩ (fun h' e => by
    have e2 : Sub (h.push { cls := .type "tuple", data := .seq vs.toArray }) h' := fun b o x => e b o (Nat.ne_of_lt (Heap.lt_size x)) x
    have := hQ h' (H1.mono e2)
    simpa using this)
  have e : vs.toArray.size = n := by rw [hn, List.size_toArray]
  rw [e] at q
  exact q
end Mine
end

-- Fy3
section
open PySem PyProof.Rows PySem.W PySem.Builtin PySem.Builtin.Re
set_option Elab.async false
set_option linter.all false
set_option maxRecDepth 100000
namespace Mine
variable {prog : Program} {w : World} {A : Around} {E : Value → Shared → Prop} {s : Shared} {h : Heap} {tk : Nat} {K base : Heap} {hid : Addr → Obj → Prop} {L : Addr} {mg mb : Str → Option Value} {env : Env}
theorem in_W : ∀ c ∈ al, (!(Builtin.Str.occurrences (Str.ofString " \n") (T [c]) 0 (Str.ofString " \n").length 1).isEmpty) = isW c := by decide +kernel
theorem in_2 : ∀ c ∈ al, (!(Builtin.Str.occurrences (Str.ofString ";,") (T [c]) 0 (Str.ofString ";,").length 1).isEmpty) = (c == 59 || c == 44) := by decide +kernel
theorem in_3 : ∀ c ∈ al, (!(Builtin.Str.occurrences (Str.ofString "=;,") (T [c]) 0 (Str.ofString "=;,").length 1).isEmpty) = (c == 61 || c == 59 || c == 44) := by decide +kernel
theorem in_4 : ∀ c ∈ al, (!(Builtin.Str.occurrences (Str.ofString "=;") (T [c]) 0 (Str.ofString "=;").length 1).isEmpty) = (c == 61 || c == 59) := by decide +kernel
def wkFor : Stmt := (fBody (fnAt 10)).getD 2 (.Pass default)
def wkSt (i : Nat) : Stmt := (forBody wkFor).getD i (.Pass default)
abbrev wkEnv (L : Addr) (cd : Value) : Env := envOf "_law_walk" (fScope (fnAt 10)) L 75 cd
structure Wl where
  vl : Value
  vw : Value
  vk : Value
  t1 : Tok
  t2 : Tok
  t3 : Tok
def Lw (x : Wl) (σ : Wk) (tv : Value) (a b : Addr) : List (String × Value) :=
  [("text", tv), ("lists", x.vl), ("words", x.vw), ("state", .int σ.st x.t1), ("name", .str (T σ.name) x.t2), ("value", .str (T σ.value) x.t3), ("kept", x.vk), ("told", .ref a), ("hopes", .ref b)]
def Lc (x : Wl) (σ : Wk) (tv : Value) (a b : Addr) (c : Nat) (tc : Tok) (cl : Bool) : List (String × Value) :=
  ("sign", .str (T [c]) tc) :: ("white", .bool (isW c)) :: ("closes", .bool cl) :: Lw x σ tv a b
structure Wi (K : Heap) (x : Wl) (σ : Wk) : Prop where
  l : RdL K x.vl σ.lists
  w : RdW K x.vw σ.words
  k : RdK K x.vk σ.kept
theorem Wi.sub {K K' : Heap} {x σ} (q : Wi K x σ) (k : Sub K K') : Wi K' x σ := ⟨q.l.sub k, q.w.sub k, q.k.sub k⟩
/-- what a piece of the turn leaves -/
def StepQ (s : Shared) (K base : Heap) (hid : Addr → Obj → Prop) (L : Addr) (mu : List (Addr × List PyData)) (σ : Wk) (tv : Value) (a b : Addr) (c : Nat) (tc : Tok) (cl : Bool) (s' : Shared) : Prop :=
  ∃ K' h' tk' x, s' = up s h' tk' ∧ Sub K K' ∧ Hk K' base hid L { loc := Lc x σ tv a b c tc cl, mu := mu } h' ∧ Wi K' x σ
end Mine
end

-- Fz1
section
open PySem PyProof.Rows PySem.W PySem.Builtin PySem.Builtin.Re
set_option Elab.async false
set_option linter.all false
set_option maxRecDepth 100000
namespace Mine
section
variable {prog : Program} {w : World} {A : Around} {E : Value → Shared → Prop} {s : Shared} {h : Heap} {tk : Nat} {K base : Heap} {hid : Addr → Obj → Prop} {L : Addr} {S : St} {mg mb : Str → Option Value} {env : Env}
/-- names of any frame -/
theorem ldE {x : String} {pos : Pos} {v : Value} {Q : Value → Shared → Prop} (H : Hk K base hid L S h) (hv : lk S.loc x = some v) (hQ : Q v (up s h tk))
    (hL : env.locals = L := by rfl) (hk : env.scope.kind = .function := by rfl) (hl : env.kindOf (Str.ofString x) = some .local := by rfl)
    (hd : ((Str.ofString x) == ("__debug__" : Str)) = false := by decide) :
    wpAny (model prog w) A (eval (.Name (Str.ofString x) pos) env) Q E (up s h tk) := by
  obtain ⟨m, n1, n2⟩ := H.loc
  subst hL
  exact wpAny_Name (wpAny_loadName_local hk hl n1 (n2 _ (mem_of_lk hv)) hQ) hd
theorem stE {x : String} {v : Value} {Q : Unit → Shared → Prop} (H : Hk K base hid L S h) (hQ : ∀ h' tk', Hk K base hid L { S with loc := put S.loc x v } h' → Q () (up s h' tk'))
    (hL : env.locals = L := by rfl) (hk : env.scope.kind = .function := by rfl) (hl : env.kindOf (Str.ofString x) = some .local := by rfl) :
    wpAny (model prog w) A (storeName env (Str.ofString x) v) Q E (up s h tk) := by
  obtain ⟨m, n1, n2⟩ := H.loc
  subst hL
  refine wpAny_storeName_local hl n1 (fun h' n' sb => hQ h' _ (H.frame n' sb fun p hp => ?_)) (by rw [hk]; rfl)
  rcases List.mem_cons.mp hp with rfl | hp
  · simp
  · rw [List.mem_filter] at hp
    have hne : p.1 ≠ x := by simpa using hp.2
    rw [if_neg fun e => hne (ofString_inj e)]
    exact n2 p hp.1
theorem ldGE {x : String} {pos : Pos} {v : Value} {Q : Value → Shared → Prop} (G : Gnd mg mb K) (hs : Sub K h) (hv : mg (Str.ofString x) = some v) (hQ : Q v (up s h tk))
    (hg : env.globals = mainGlobals := by rfl) (hk : env.scope.kind = .function := by rfl) (hl : env.kindOf (Str.ofString x) = some .globalImplicit := by rfl)
    (hd : ((Str.ofString x) == ("__debug__" : Str)) = false := by decide) :
    wpAny (model prog w) A (eval (.Name (Str.ofString x) pos) env) Q E (up s h tk) :=
  Calls.Name_function_global hk hl (Calls.loadGlobal_global (env := env) (by rw [hg]; exact G.g.keeps hs) hv hQ) hd
theorem ldBE {x : String} {pos : Pos} {v : Value} {Q : Value → Shared → Prop} (G : Gnd mg mb K) (hs : Sub K h) (hx : x ∈ (["isinstance", "str", "len", "range", "AssertionError"] : List String))
    (hv : bootBuiltins (Str.ofString x) = some v) (hQ : Q v (up s h tk))
    (hg : env.globals = mainGlobals := by rfl) (hb : env.builtins = builtinsNs := by rfl) (hk : env.scope.kind = .function := by rfl) (hl : env.kindOf (Str.ofString x) = some .globalImplicit := by rfl)
    (hd : ((Str.ofString x) == ("__debug__" : Str)) = false := by decide) :
    wpAny (model prog w) A (eval (.Name (Str.ofString x) pos) env) Q E (up s h tk) :=
  Calls.Name_function_global hk hl (Calls.loadGlobal_builtin (env := env) (by rw [hg]; exact G.g.keeps hs) (G.bi x hx).1 (by rw [hb]; exact G.b.keeps hs) ((G.bi x hx).2.trans hv) hQ) hd
/-- a new list, a new tuple -/
theorem newL0 {vs : List Value} {Q : Value → Shared → Prop} (H : Hk K base hid L S h) (hz : vs.length ≤ 1000)
    (hQ : ∀ K' h' a, Sub K K' → Sub h h' → Hk K' base hid L S h' → h.get? a = none → K'.get? a = some { cls := .type "list", data := .seq vs.toArray } → Q (.ref a) (up s h' tk)) : wpAny (model prog w) A (newList vs) Q E (up s h tk) := by
  refine wpAny_newObj_type (s := up s h tk) ?_ (by show vs.toArray.size ≤ sizeLine; rw [sizeLine_eq, List.size_toArray]; omega)
  have k1 : Sub h (h.push { cls := .type "list", data := .seq vs.toArray }) := Sub.push _ _
  exact hQ _ _ _ (grow_sub H.kh k1) k1 (H.grow k1) (get_size_none h) (grow_new (get_size_none h) (Heap.get?_push_size _ rfl))
theorem newT0 {vs : List Value} {Q : Value → Shared → Prop} (H : Hk K base hid L S h) (hz : vs.length ≤ 1000)
    (hQ : ∀ K' h' a, Sub K K' → Sub h h' → Hk K' base hid L S h' → h.get? a = none → K'.get? a = some { cls := .type "tuple", data := .seq vs.toArray } → Q (.ref a) (up s h' tk)) : wpAny (model prog w) A (newTuple vs) Q E (up s h tk) := by
  refine wpAny_newObj_type (s := up s h tk) ?_ (by show vs.toArray.size ≤ sizeLine; rw [sizeLine_eq, List.size_toArray]; omega)
  have k1 : Sub h (h.push { cls := .type "tuple", data := .seq vs.toArray }) := Sub.push _ _
  exact hQ _ _ _ (grow_sub H.kh k1) k1 (H.grow k1) (get_size_none h) (grow_new (get_size_none h) (Heap.get?_push_size _ rfl))
def Rd (K : Heap) (v : Value) (d : PyData) : Prop := ∃ as, Reads K v d as
theorem Rd.sub {K K' : Heap} {v d} (x : Rd K v d) (k : Sub K K') : Rd K' v d := let ⟨as, r⟩ := x; ⟨as, Reads.keeps k r⟩
theorem newL {vs : List Value} {ds : List PyData} {Q : Value → Shared → Prop} (H : Hk K base hid L S h) (r : ∃ as, ReadsAll K vs ds as) (hz : vs.length ≤ 1000)
    (hQ : ∀ K' h' a, Sub K K' → Sub h h' → Hk K' base hid L S h' → Rd K' (.ref a) (.list ds) → Q (.ref a) (up s h' tk)) : wpAny (model prog w) A (newList vs) Q E (up s h tk) :=
  newL0 H hz fun K' h' a k1 k2 H' _ g => by
    obtain ⟨as, r⟩ := r
    exact hQ K' h' a k1 k2 H' ⟨_, Reads.list g rfl rfl (ReadsAll.keeps k1 r)⟩
theorem newT {vs : List Value} {ds : List PyData} {Q : Value → Shared → Prop} (H : Hk K base hid L S h) (r : ∃ as, ReadsAll K vs ds as) (hz : vs.length ≤ 1000)
    (hQ : ∀ K' h' a, Sub K K' → Sub h h' → Hk K' base hid L S h' → Rd K' (.ref a) (.tuple ds) → Q (.ref a) (up s h' tk)) : wpAny (model prog w) A (newTuple vs) Q E (up s h tk) :=
  newT0 H hz fun K' h' a k1 k2 H' _ g => by
    obtain ⟨as, r⟩ := r
    exact hQ K' h' a k1 k2 H' ⟨_, Reads.tuple g rfl rfl (ReadsAll.keeps k1 r)⟩
theorem ReadsAll_app {K : Heap} : ∀ {vs ws : List Value} {xs ys : List PyData} {as bs : List Addr}, ReadsAll K vs xs as → ReadsAll K ws ys bs → ReadsAll K (vs ++ ws) (xs ++ ys) (as ++ bs)
  | _, _, _, _, _, _, .nil, r => r
  | _, _, _, _, _, _, .cons q p, r => by
    have := ReadsAll.cons q (ReadsAll_app p r)
    simpa using this
theorem ReadsAll_len {K : Heap} {vs : List Value} {ds : List PyData} {as : List Addr} (r : ReadsAll K vs ds as) : vs.length = ds.length := by
  induction vs generalizing ds as with
  | nil => cases r; rfl
  | cons v vs ih => cases r with | cons q p => simp [ih p]
/-- two lists put together -/
theorem addL {x y : Value} {xs ys : List PyData} {Q : Value → Shared → Prop} (H : Hk K base hid L S h) (rx : Rd K x (.list xs)) (ry : Rd K y (.list ys)) (hz : xs.length + ys.length ≤ 1000)
    (hQ : ∀ K' h' a, Sub K K' → Sub h h' → Hk K' base hid L S h' → Rd K' (.ref a) (.list (xs ++ ys)) → Q (.ref a) (up s h' tk)) : wpAny (model prog w) A (binaryOp .Add x y) Q E (up s h tk) := by
  obtain ⟨as, rx⟩ := rx
  obtain ⟨bs, ry⟩ := ry
  cases rx with
  | @list a o vs n _ as2 h1 h2 h3 h4 =>
    cases ry with
    | @list b o' ws n' _ bs2 g1 g2 g3 g4 =>
      obtain ⟨cls, dd, data, sl⟩ := o
      obtain ⟨cls', dd', data', sl'⟩ := o'
      simp only at h2 h3 g2 g3
      subst h2 h3 g2 g3
      have l1 := ReadsAll_len h4
      have l2 := ReadsAll_len g4
      refine concat_meets (s := up s h tk) ⟨_, H.kh _ _ h1, rfl⟩ ⟨_, H.kh _ _ g1, rfl⟩ noFill_list_add seq_list_add PySem.F.slot_list_add PySem.F.entry_list_add (PySem.F.args_list_add_2 _ _)
        (list_addW a b vs ws n n' dd dd' sl sl' (by rw [sizeLine_eq]; simp only [Array.length_toList] at l1 l2; omega)) ⟨H.kh _ _ h1, H.kh _ _ g1, ?_⟩
      have k1 : Sub h (h.push { cls := Value.type "list", data := Data.seq (vs ++ ws) }) := Sub.push _ _
      refine hQ _ _ _ (grow_sub H.kh k1) k1 (H.grow k1) ⟨_, Reads.list (grow_new (get_size_none h) (Heap.get?_push_size _ rfl)) rfl rfl (ReadsAll.keeps (grow_sub H.kh k1) (by rw [Array.toList_append]; exact ReadsAll_app h4 g4))⟩
end
section
/-- a test that comes out so, whatever comes -/
abbrev TT (prog : Program) (w : World) (A : Around) (E : Value → Shared → Prop) (s : Shared) (env : Env) (K base : Heap) (hid : Addr → Obj → Prop) (L : Addr) (S : St) (x : Expr) (p : Bool) : Prop :=
  ∀ (h : Heap) (tk : Nat) (Q : Bool → Shared → Prop), Hk K base hid L S h → (∀ h' tk', Hk K base hid L S h' → Q p (up s h' tk')) → wpAny (model prog w) A (isTrue x env (eval x env)) Q E (up s h tk)
variable {prog : Program} {w : World} {A : Around} {E : Value → Shared → Prop} {s : Shared} {K base : Heap} {hid : Addr → Obj → Prop} {L : Addr} {S : St} {env : Env}
theorem TT.and2 {x y : Expr} {pos : Pos} {p q : Bool} (hx : TT prog w A E s env K base hid L S x p) (hy : TT prog w A E s env K base hid L S y q) : TT prog w A E s env K base hid L S (.BoolOp .And [x, y] pos) (p && q) := by
  intro h tk Q H hQ
  refine wpAny_isTrue_BoolOp (wpAny_allTrue_And_cons (hx _ _ _ H fun h1 tk1 H1 => ?_))
  cases p with
  | false => exact hQ _ _ H1
  | true =>
    simp only [if_true]
    refine wpAny_allTrue_And_cons (hy _ _ _ H1 fun h2 tk2 H2 => ?_)
    cases q with
    | false => exact hQ _ _ H2
    | true => exact wpAny_allTrue_And_nil (hQ _ _ H2)
theorem TT.and3 {x y z : Expr} {pos : Pos} {p q r : Bool} (hx : TT prog w A E s env K base hid L S x p) (hy : TT prog w A E s env K base hid L S y q) (hz : TT prog w A E s env K base hid L S z r) : TT prog w A E s env K base hid L S (.BoolOp .And [x, y, z] pos) (p && q && r) := by
  intro h tk Q H hQ
  refine wpAny_isTrue_BoolOp (wpAny_allTrue_And_cons (hx _ _ _ H fun h1 tk1 H1 => ?_))
  cases p with
  | false => exact hQ _ _ H1
  | true =>
    simp only [if_true]
    refine wpAny_allTrue_And_cons (hy _ _ _ H1 fun h2 tk2 H2 => ?_)
    cases q with
    | false => exact hQ _ _ H2
    | true =>
      simp only [if_true]
      refine wpAny_allTrue_And_cons (hz _ _ _ H2 fun h3 tk3 H3 => ?_)
      cases r with
      | false => exact hQ _ _ H3
      | true => exact wpAny_allTrue_And_nil (hQ _ _ H3)
theorem TT.not {x : Expr} {pos : Pos} {p : Bool} (hx : TT prog w A E s env K base hid L S x p) : TT prog w A E s env K base hid L S (.UnaryOp .Not x pos) (!p) := fun h tk Q H hQ => wpAny_isTrue_Not (hx _ _ _ H hQ)
theorem TT.name {x : String} {pos : Pos} {b : Bool} (hv : lk S.loc x = some (.bool b)) (hL : env.locals = L := by rfl) (hk : env.scope.kind = .function := by rfl) (hl : env.kindOf (Str.ofString x) = some .local := by rfl)
    (hd : ((Str.ofString x) == ("__debug__" : Str)) = false := by decide) : TT prog w A E s env K base hid L S (.Name (Str.ofString x) pos) b := fun h tk Q H hQ =>
  isTrue_plain (ldE H hv (wpAny_truthy_bool (hQ _ _ H)) hL hk hl hd)
theorem TT.eqI {x : String} {pos p1 p2 : Pos} {k : Nat} {i j : Int} {t : Tok} (hv : lk S.loc x = some (.int i t)) (hL : env.locals = L := by rfl) (hk : env.scope.kind = .function := by rfl) (hl : env.kindOf (Str.ofString x) = some .local := by rfl)
    (hd : ((Str.ofString x) == ("__debug__" : Str)) = false := by decide) : TT prog w A E s env K base hid L S (.Compare (.Name (Str.ofString x) p1) [.Eq] [.Constant (.int j) k p2] pos) (i == j) := fun h tk Q H hQ =>
  wpAny_isTrue_Compare1 (ldE H hv (intU fun t2 tk2 => PyProof.Rows.eq_int (wpAny_truthy_bool (hQ _ _ H))) hL hk hl hd)
theorem TT.ltI {x : String} {pos p1 p2 : Pos} {k : Nat} {i j : Int} {t : Tok} (hv : lk S.loc x = some (.int i t)) (hL : env.locals = L := by rfl) (hk : env.scope.kind = .function := by rfl) (hl : env.kindOf (Str.ofString x) = some .local := by rfl)
    (hd : ((Str.ofString x) == ("__debug__" : Str)) = false := by decide) : TT prog w A E s env K base hid L S (.Compare (.Name (Str.ofString x) p1) [.Lt] [.Constant (.int j) k p2] pos) (decide (i < j)) := fun h tk Q H hQ =>
  wpAny_isTrue_Compare1 (ldE H hv (intU fun t2 tk2 => PyProof.Rows.lt_int (wpAny_truthy_bool (hQ _ _ H))) hL hk hl hd)
theorem TT.gtI {x : String} {pos p1 p2 : Pos} {k : Nat} {i j : Int} {t : Tok} (hv : lk S.loc x = some (.int i t)) (hL : env.locals = L := by rfl) (hk : env.scope.kind = .function := by rfl) (hl : env.kindOf (Str.ofString x) = some .local := by rfl)
    (hd : ((Str.ofString x) == ("__debug__" : Str)) = false := by decide) : TT prog w A E s env K base hid L S (.Compare (.Name (Str.ofString x) p1) [.Gt] [.Constant (.int j) k p2] pos) (decide (j < i)) := fun h tk Q H hQ =>
  wpAny_isTrue_Compare1 (ldE H hv (intU fun t2 tk2 => PyProof.Rows.gt_int (wpAny_truthy_bool (hQ _ _ H))) hL hk hl hd)
theorem TT.eqS {x : String} {pos p1 p2 : Pos} {k : Nat} {c d : Nat} {y : Str} {t : Tok} (hv : lk S.loc x = some (.str (T [c]) t)) (hy : y = T [d]) (hL : env.locals = L := by rfl) (hk : env.scope.kind = .function := by rfl) (hl : env.kindOf (Str.ofString x) = some .local := by rfl)
    (hd : ((Str.ofString x) == ("__debug__" : Str)) = false := by decide) : TT prog w A E s env K base hid L S (.Compare (.Name (Str.ofString x) p1) [.Eq] [.Constant (.str y) k p2] pos) (c == d) := fun h tk Q H hQ =>
  wpAny_isTrue_Compare1 (ldE H hv (strU fun t2 tk2 => by rw [hy]; exact eqU (by rw [one_beq]; exact wpAny_truthy_bool (hQ _ _ H))) hL hk hl hd)
theorem TT.notInS {x : String} {pos p1 p2 : Pos} {k : Nat} {c : Nat} {b : Bool} {y : Str} {t : Tok} (hv : lk S.loc x = some (.str (T [c]) t)) (hy : (!(Builtin.Str.occurrences y (T [c]) 0 y.length 1).isEmpty) = b) (hL : env.locals = L := by rfl) (hk : env.scope.kind = .function := by rfl) (hl : env.kindOf (Str.ofString x) = some .local := by rfl)
    (hd : ((Str.ofString x) == ("__debug__" : Str)) = false := by decide) : TT prog w A E s env K base hid L S (.Compare (.Name (Str.ofString x) p1) [.NotIn] [.Constant (.str y) k p2] pos) (!b) := fun h tk Q H hQ =>
  wpAny_isTrue_Compare1 (ldE H hv (strU fun t2 tk2 => P.notIn_str (by rw [hy]; exact wpAny_truthy_bool (hQ _ _ H))) hL hk hl hd)
theorem TT.in2 {x : String} {pos p1 p2 p3 p4 : Pos} {k k' : Nat} {i j j' : Int} {t : Tok} (hv : lk S.loc x = some (.int i t)) (hL : env.locals = L := by rfl) (hk : env.scope.kind = .function := by rfl) (hl : env.kindOf (Str.ofString x) = some .local := by rfl)
    (hd : ((Str.ofString x) == ("__debug__" : Str)) = false := by decide) : TT prog w A E s env K base hid L S (.Compare (.Name (Str.ofString x) p1) [.In] [.List [.Constant (.int j) k p2, .Constant (.int j') k' p3] p4] pos) (j == i || j' == i) := fun h tk Q H hQ => by
  refine wpAny_isTrue_Compare1 (ldE H hv ?_ hL hk hl hd)
  refine List_ (args_cons (intU fun t2 tk2 => args_cons (intU fun t3 tk3 => args_nil ?_)))
  refine newL0 H (by simp) fun K' h' a k1 k2 H' _ g => ?_
  refine in_list_ints (s := up s h' _) (vs := [.int j t2, .int j' t3]) (ns := [j, j']) ⟨_, H'.kh _ _ g, rfl, _, rfl⟩ (.cons _ _ (.cons _ _ .nil)) ?_
  simp only [List.any_cons, List.any_nil, Bool.or_false]
  exact wpAny_truthy_bool (hQ _ _ (H.mono k2))
theorem TT.notNone {x : String} {pos p1 p2 : Pos} {k : Nat} {v : Value} (hv : lk S.loc x = some v) (hL : env.locals = L := by rfl) (hk : env.scope.kind = .function := by rfl) (hl : env.kindOf (Str.ofString x) = some .local := by rfl)
    (hd : ((Str.ofString x) == ("__debug__" : Str)) = false := by decide) : TT prog w A E s env K base hid L S (.Compare (.Name (Str.ofString x) p1) [.IsNot] [.Constant .none k p2] pos) (!(v == .none)) := fun h tk Q H hQ =>
  wpAny_isTrue_Compare1 (ldE H hv (noneU (isNot_none (wpAny_truthy_bool (hQ _ _ H)))) hL hk hl hd)
end
end Mine
end

-- Fz2
section
open PySem PyProof.Rows PySem.W PySem.Builtin PySem.Builtin.Re
set_option Elab.async false
set_option linter.all false
set_option maxRecDepth 100000
namespace Mine
variable {prog : Program} {w : World} {A : Around} {E : Value → Shared → Prop} {s : Shared} {h : Heap} {tk : Nat} {K base : Heap} {hid : Addr → Obj → Prop} {L : Addr} {mg mb : Str → Option Value} {env : Env}
structure Bd (n : Nat) (σ : Wk) : Prop where
  l : σ.lists.length ≤ n
  w : σ.words.length ≤ n
  nm : σ.name.length ≤ n
  v : σ.value.length ≤ n
  k : ∀ k, σ.kept = some k → k.bef.length ≤ n ∧ k.ahd.length ≤ n ∧ k.ins.length ≤ n
theorem Hk.slimK {S : St} (H : Hk K base hid L S h) {l : List (String × Value)} (hl : ∀ p ∈ l, lk S.loc p.1 = some p.2) : Hk K base hid L { loc := l, mu := S.mu } h := H.slim fun p hp => mem_of_lk (hl p hp)
theorem Hk.slimR {S : St} (H : Hk K base hid L S h) {l : List (String × Value)} (hl : l.map (fun p => lk S.loc p.1) = l.map fun p => some p.2) : Hk K base hid L { loc := l, mu := S.mu } h :=
  H.slimK fun p hp => List.map_inj_left.mp hl p hp
theorem ifT {S : St} {test : Expr} {body orelse : List Stmt} {pos : Pos} {p : Bool} {Q : Flow → Shared → Prop} (H : Hk K base hid L S h) (t : TT prog w A E s env K base hid L S test p)
    (hQ : ∀ h' tk', Hk K base hid L S h' → (if p = true then wpAny (model prog w) A (execs body env) Q E (up s h' tk') else wpAny (model prog w) A (execs orelse env) Q E (up s h' tk'))) :
    wpAny (model prog w) A (exec (.If test body orelse pos) env) Q E (up s h tk) := wpAny_If (t _ _ _ H hQ)
set_option maxHeartbeats 4000000 in
theorem kept_ok {cd : Value} {x : Wl} {σ : Wk} {tv : Value} {a b : Addr} {c : Nat} {tc : Tok} {mu : List (Addr × List PyData)} (hh : A.handled = none) (hca : c ∈ al) (H : Hk K nil hid L { loc := Lc x σ tv a b c tc false, mu := mu } h) (W : Wi K x σ) {n : Nat} (B : Bd n σ) (hn : n ≤ 400) :
    wpAny (model prog w) A (exec (wkSt 1) (wkEnv L cd)) (fun f s' => f = .next ∧ StepQ s K nil hid L mu (wk1 σ c) tv a b c tc (cls σ c) s') E (up s h tk) := by
  refine ifT H (TT.notNone (x := "kept") (v := x.vk) (by rfl)) fun h1 tk1 H1 => ?_
  cases hk : σ.kept with
  | none =>
    have hvk : x.vk = .none := by have := W.k; rw [hk] at this; exact this
    rw [hvk]
    rw [show (!(Value.none == Value.none)) = false from rfl]
    simp only [Bool.false_eq_true, if_false]
    have e1 : wk1 σ c = σ := by unfold wk1; rw [hk]
    have e2 : cls σ c = false := by unfold cls; rw [hk]
    refine wpAny_execs_nil ⟨rfl, K, h1, _, x, rfl, Sub.refl K, ?_, ?_⟩
    · rw [e1, e2]; exact H1
    · rw [e1]; exact W
  | some k =>
    obtain ⟨ka, vb, va, t1, t2, hvk, hka, hb, ha⟩ : RdK K x.vk (some k) := hk ▸ W.k
    obtain ⟨b1, b2, b3⟩ := B.k k hk
    have hc : Calm A K := .inl hh
    rw [hvk]
    rw [show (!(Value.ref ka == Value.none)) = true from rfl]
    simp only [if_true]
    refine wpAny_execs_cons ?_
    refine Assign_Tuple ?_
    refine ldE H1 (by rfl) ?_
    rw [hvk]
    refine unpack_calm (s := up s h1 _) hc H1.kh ⟨_, H1.kh _ _ hka, rfl, _, rfl⟩ (by rfl) (by rfl) fun h2 k2 => ?_
    have H2 := H1.mono k2
    show wpAny _ _ _ _ _ (up s h2 _)
    refine wpAny_assignInOrder_more (wpAny_assign_Name (stE H2 fun h3 tk3 H3 => ?_))
    refine wpAny_assignInOrder_more (wpAny_assign_Name (stE H3 fun h4 tk4 H4 => ?_))
    refine wpAny_assignInOrder_more (wpAny_assign_Name (stE H4 fun h5 tk5 H5 => ?_))
    refine wpAny_assignInOrder_more (wpAny_assign_Name (stE H5 fun h6 tk6 H6 => ?_))
    refine wpAny_assignInOrder_more (wpAny_assign_Name (stE H6 fun h7 tk7 H7 => ?_))
    refine wpAny_pure ?_
    show wpAny _ _ _ _ _ (up s h7 _)
    refine wpAny_execs_cons ?_
    refine wpAny_Assign_Name ?_
    refine andV (p := c == 34) (q := !k.tk) (fun Q' hQ' => wpAny_Compare1 (ldE H7 (by rfl) (strU fun t8 tk8 => by rw [mark_T]; exact eqU (by rw [one_beq]; exact hQ' _)))) (fun tk9 Q' hQ' => wpAny_UnaryOp (ldE H7 (by rfl) (not_value (wpAny_truthy_bool (hQ' _))))) fun tk9 => ?_
    refine stE H7 fun h10 tk10 H10 => ?_
    have ecl : cls σ c = (c == 34 && !k.tk) := by unfold cls; rw [hk]
    have ew : wk1 σ c = if c == 34 && !k.tk then { σ with lists := k.bef, words := k.ahd ++ [(k.key, some k.ins)], st := 0, kept := none }
      else if k.tk && c == 10 then { σ with kept := none }
      else if c == 92 && !k.tk then { σ with kept := some { k with tk := true } }
      else { σ with kept := some { k with ins := k.ins ++ [c], tk := false } } := by unfold wk1; rw [hk]
    obtain ⟨σ', hσ⟩ : ∃ σ', wk1 σ c = σ' := ⟨_, rfl⟩
    rw [ecl, hσ]
    rw [hσ] at ew
    refine execs_one ?_
    refine ifT H10 (TT.name (b := c == 34 && !k.tk) (by rfl)) fun h11 tk11 H11 => ?_
    cases hcl : (c == 34 && !k.tk) with
    | true =>
      obtain rfl : σ' = { σ with lists := k.bef, words := k.ahd ++ [(k.key, some k.ins)], st := 0, kept := none } := by rw [ew]; simp only [hcl, if_true, Bool.false_eq_true, if_false]
      rw [hcl] at H11
      simp only [if_true]
      refine execs_one ?_
      refine Assign_Tuple ?_
      refine Tuple_ (args_cons (ldE H11 (by rfl) (args_cons ?_)))
      refine wpAny_BinOp (ldE H11 (by rfl) ?_)
      refine List_ (args_cons (Tuple_ (args_cons (ldE H11 (by rfl) (args_cons (ldE H11 (by rfl) (args_nil ?_)))))))
      refine newT (ds := [.str (T k.key), .str (T k.ins)]) H11 ⟨_, ReadsAll.cons (Reads.str _ _) (ReadsAll.cons (Reads.str _ _) ReadsAll.nil)⟩ (by simp) fun K12 h12 a12 s12 _ H12 r12 => ?_
      refine args_nil ?_
      obtain ⟨as12, r12⟩ := r12
      refine newL (ds := [prD (k.key, some k.ins)]) H12 ⟨_, ReadsAll.cons r12 ReadsAll.nil⟩ (by simp) fun K13 h13 a13 s13 _ H13 r13 => ?_
      refine addL (xs := k.ahd.map prD) H13 ((ha.sub s12).sub s13) r13 (by simp; omega) fun K14 h14 a14 s14 _ H14 r14 => ?_
      refine args_cons (intU fun t15 tk15 => args_cons (noneU (args_nil ?_)))
      refine newT0 H14 (by simp) fun K16 h16 a16 s16 _ H16 _ g16 => ?_
      refine unpack_calm (s := up s h16 _) (.inl hh) H16.kh ⟨_, H16.kh _ _ g16, rfl, _, rfl⟩ (by rfl) (by rfl) fun h17 k17 => ?_
      have H17 := H16.mono k17
      show wpAny _ _ _ _ _ (up s h17 _)
      refine wpAny_assignInOrder_more (wpAny_assign_Name (stE H17 fun h18 tk18 H18 => ?_))
      refine wpAny_assignInOrder_more (wpAny_assign_Name (stE H18 fun h19 tk19 H19 => ?_))
      refine wpAny_assignInOrder_more (wpAny_assign_Name (stE H19 fun h20 tk20 H20 => ?_))
      refine wpAny_assignInOrder_more (wpAny_assign_Name (stE H20 fun h21 tk21 H21 => ?_))
      refine wpAny_pure ?_
      have sk : Sub K K16 := s12.trans (s13.trans (s14.trans s16))
      refine ⟨rfl, K16, h21, tk21, ⟨vb, .ref a14, .none, t15, x.t2, x.t3⟩, rfl, sk, ?_, ?_⟩
      · exact H21.slimR (l := Lc ⟨vb, .ref a14, .none, t15, x.t2, x.t3⟩ { σ with lists := k.bef, words := k.ahd ++ [(k.key, some k.ins)], st := 0, kept := none } tv a b c tc true) (by kernel_rfl)
      · refine ⟨hb.sub sk, ?_, rfl⟩
        have := r14.sub s16
        rw [show k.ahd.map prD ++ [prD (k.key, some k.ins)] = (k.ahd ++ [(k.key, some k.ins)]).map prD by simp] at this
        exact this
    | false =>
      rw [hcl] at H11
      simp only [Bool.false_eq_true, if_false]
      refine execs_one ?_
      refine ifT H11 (TT.and2 (TT.name (b := k.tk) (by rfl)) (TT.eqS (c := c) (d := 10) (by rfl) nl_T)) fun h12 tk12 H12 => ?_
      cases hc2 : (k.tk && c == 10) with
      | true =>
        obtain rfl : σ' = { σ with kept := none } := by rw [ew]; simp only [hcl, hc2, if_true, Bool.false_eq_true, if_false]
        simp only [if_true]
        refine execs_one ?_
        refine wpAny_Assign_Name (noneU (stE H12 fun h13 tk13 H13 => ?_))
        refine ⟨rfl, K, h13, tk13, ⟨x.vl, x.vw, .none, x.t1, x.t2, x.t3⟩, rfl, Sub.refl K, ?_, ⟨W.l, W.w, rfl⟩⟩
        exact H13.slimR (l := Lc ⟨x.vl, x.vw, .none, x.t1, x.t2, x.t3⟩ { σ with kept := none } tv a b c tc false) (by kernel_rfl)
      | false =>
        simp only [Bool.false_eq_true, if_false]
        refine execs_one ?_
        refine ifT H12 (TT.and2 (TT.eqS (c := c) (d := 92) (by rfl) back_T) (TT.not (TT.name (b := k.tk) (by rfl)))) fun h13 tk13 H13 => ?_
        cases hc3 : (c == 92 && !k.tk) with
        | true =>
          obtain rfl : σ' = { σ with kept := some { k with tk := true } } := by rw [ew]; simp only [hcl, hc2, hc3, if_true, Bool.false_eq_true, if_false]
          simp only [if_true]
          refine execs_one ?_
          refine wpAny_Assign_Name ?_
          refine Tuple_ (args_cons (ldE H13 (by rfl) (args_cons (ldE H13 (by rfl) (args_cons (ldE H13 (by rfl) (args_cons (ldE H13 (by rfl) (args_cons (boolU (args_nil ?_))))))))))) 
          refine newT0 H13 (by simp) fun K16 h16 a16 s16 _ H16 _ g16 => ?_
          refine stE H16 fun h17 tk17 H17 => ?_
          refine ⟨rfl, K16, h17, tk17, ⟨x.vl, x.vw, .ref a16, x.t1, x.t2, x.t3⟩, rfl, s16, ?_, ⟨W.l.sub s16, W.w.sub s16, a16, vb, va, t1, t2, rfl, g16, hb.sub s16, ha.sub s16⟩⟩
          exact H17.slimR (l := Lc ⟨x.vl, x.vw, .ref a16, x.t1, x.t2, x.t3⟩ { σ with kept := some { k with tk := true } } tv a b c tc false) (by kernel_rfl)
        | false =>
          obtain rfl : σ' = { σ with kept := some { k with ins := k.ins ++ [c], tk := false } } := by rw [ew]; simp only [hcl, hc2, hc3, if_true, Bool.false_eq_true, if_false]
          simp only [Bool.false_eq_true, if_false]
          refine execs_one ?_
          refine wpAny_Assign_Name ?_
          refine Tuple_ (args_cons (ldE H13 (by rfl) (args_cons (ldE H13 (by rfl) (args_cons (ldE H13 (by rfl) (args_cons ?_)))))))
          refine wpAny_BinOp (ldE H13 (by rfl) (ldE H13 (by rfl) ?_))
          refine addU (fun t14 tk14 => ?_) (by rw [T_size, T_size]; simp; omega)
          rw [T_append]
          refine args_cons (boolU (args_nil ?_))
          refine newT0 H13 (by simp) fun K16 h16 a16 s16 _ H16 _ g16 => ?_
          refine stE H16 fun h17 tk17 H17 => ?_
          refine ⟨rfl, K16, h17, tk17, ⟨x.vl, x.vw, .ref a16, x.t1, x.t2, x.t3⟩, rfl, s16, ?_, ⟨W.l.sub s16, W.w.sub s16, a16, vb, va, t1, t14, rfl, g16, hb.sub s16, ha.sub s16⟩⟩
          exact H17.slimR (l := Lc ⟨x.vl, x.vw, .ref a16, x.t1, x.t2, x.t3⟩ { σ with kept := some { k with ins := k.ins ++ [c], tk := false } } tv a b c tc false) (by kernel_rfl)
end Mine
end

-- Fz3
section
open PySem PyProof.Rows PySem.W PySem.Builtin PySem.Builtin.Re
set_option Elab.async false
set_option linter.all false
set_option maxRecDepth 100000
namespace Mine
section
variable {prog : Program} {w : World} {A : Around} {E : Value → Shared → Prop} {s : Shared} {K base : Heap} {hid : Addr → Obj → Prop} {L : Addr} {S : St} {env : Env}
theorem beqN (i j : Nat) : ((i : Int) == (j : Int)) = (i == j) := by
  rw [Bool.eq_iff_iff, beq_iff_eq, beq_iff_eq]; omega
theorem TT.eqN {x : String} {pos p1 p2 : Pos} {k : Nat} {i j : Nat} {t : Tok} (hv : lk S.loc x = some (.int i t)) (hL : env.locals = L := by rfl) (hk : env.scope.kind = .function := by rfl) (hl : env.kindOf (Str.ofString x) = some .local := by rfl)
    (hd : ((Str.ofString x) == ("__debug__" : Str)) = false := by decide) : TT prog w A E s env K base hid L S (.Compare (.Name (Str.ofString x) p1) [.Eq] [.Constant (.int (j : Int)) k p2] pos) (i == j) := by
  rw [← beqN]; exact TT.eqI hv hL hk hl hd
theorem TT.ltN {x : String} {pos p1 p2 : Pos} {k : Nat} {i j : Nat} {t : Tok} (hv : lk S.loc x = some (.int i t)) (hL : env.locals = L := by rfl) (hk : env.scope.kind = .function := by rfl) (hl : env.kindOf (Str.ofString x) = some .local := by rfl)
    (hd : ((Str.ofString x) == ("__debug__" : Str)) = false := by decide) : TT prog w A E s env K base hid L S (.Compare (.Name (Str.ofString x) p1) [.Lt] [.Constant (.int (j : Int)) k p2] pos) (decide (i < j)) := by
  have e : decide ((i : Int) < (j : Int)) = decide (i < j) := by rw [decide_eq_decide]; omega
  rw [← e]; exact TT.ltI hv hL hk hl hd
theorem TT.gtN {x : String} {pos p1 p2 : Pos} {k : Nat} {i j : Nat} {t : Tok} (hv : lk S.loc x = some (.int i t)) (hL : env.locals = L := by rfl) (hk : env.scope.kind = .function := by rfl) (hl : env.kindOf (Str.ofString x) = some .local := by rfl)
    (hd : ((Str.ofString x) == ("__debug__" : Str)) = false := by decide) : TT prog w A E s env K base hid L S (.Compare (.Name (Str.ofString x) p1) [.Gt] [.Constant (.int (j : Int)) k p2] pos) (decide (i > j)) := by
  have e : decide ((j : Int) < (i : Int)) = decide (i > j) := by rw [decide_eq_decide]; omega
  rw [← e]; exact TT.gtI hv hL hk hl hd
theorem TT.in2N {x : String} {pos p1 p2 p3 p4 : Pos} {k k' : Nat} {i j j' : Nat} {t : Tok} (hv : lk S.loc x = some (.int i t)) (hL : env.locals = L := by rfl) (hk : env.scope.kind = .function := by rfl) (hl : env.kindOf (Str.ofString x) = some .local := by rfl)
    (hd : ((Str.ofString x) == ("__debug__" : Str)) = false := by decide) : TT prog w A E s env K base hid L S (.Compare (.Name (Str.ofString x) p1) [.In] [.List [.Constant (.int (j : Int)) k p2, .Constant (.int (j' : Int)) k' p3] p4] pos) (i == j || i == j') := by
  have e : (((j : Int) == (i : Int)) || ((j' : Int) == (i : Int))) = (i == j || i == j') := by rw [beqN, beqN, Bool.beq_comm (a := j), Bool.beq_comm (a := j')]
  rw [← e]; exact TT.in2 hv hL hk hl hd
end
variable {prog : Program} {w : World} {A : Around} {E : Value → Shared → Prop} {s : Shared} {h : Heap} {tk : Nat} {K base : Heap} {hid : Addr → Obj → Prop} {L : Addr} {mg mb : Str → Option Value} {env : Env}
def lastP (σ : Wk) : Pr := (σ.name, if σ.st < 3 then none else some σ.value)
/-- words + [(name, None if state < 3 else value)] -/
theorem pendU {S : St} {cd : Value} {σ : Wk} {vw : Value} {t1 t2 t3 : Tok} {p1 p2 p3 p4 p5 p6 p7 p8 p9 p10 p11 : Pos} {k1 k2 k3 : Nat} {Q : Value → Shared → Prop} (H : Hk K base hid L S h)
    (l1 : lk S.loc "words" = some vw) (l2 : lk S.loc "name" = some (.str (T σ.name) t1)) (l3 : lk S.loc "state" = some (.int σ.st t2)) (l4 : lk S.loc "value" = some (.str (T σ.value) t3)) (hw : RdW K vw σ.words) (hz : σ.words.length ≤ 500)
    (hQ : ∀ K' h' a tk', Sub K K' → Hk K' base hid L S h' → RdW K' (.ref a) (σ.words ++ [lastP σ]) → Q (.ref a) (up s h' tk')) :
    wpAny (model prog w) A (eval (.BinOp (.Name (Str.ofString "words") p1) .Add (.List [.Tuple [.Name (Str.ofString "name") p2, .IfExp (.Compare (.Name (Str.ofString "state") p3) [.Lt] [.Constant (.int 3) k1 p4] p5) (.Constant .none k2 p6) (.Name (Str.ofString "value") p7) p8] k3 p9] p10) p11) (wkEnv L cd)) Q E (up s h tk) := by
  refine wpAny_BinOp (ldE H l1 ?_)
  refine List_ (args_cons (Tuple_ (args_cons (ldE H l2 (args_cons ?_)))))
  have fin : ∀ (h1 : Heap) (tk1 : Nat) (vv : Value), Hk K base hid L S h1 → IsV vv (lastP σ).2 → wpAny (model prog w) A (newTuple [.str (T σ.name) t1, vv]) (fun v s₁ => wpAny (model prog w) A (spliced (backTo p10 (starEach [] (wkEnv L cd)))) (fun vs s₂ => wpAny (model prog w) A (newList (v :: vs)) (fun b s₂ => wpAny (model prog w) A (binaryOp .Add vw b) Q E s₂) E s₂) E s₁) E (up s h1 tk1) := by
    intro h1 tk1 vv H1 hv
    refine newT (ds := [.str (T σ.name), valD (lastP σ).2]) H1 ?_ (by simp) fun K2 h2 a2 s2 _ H2 r2 => ?_
    · rcases hv with ⟨rfl, e⟩ | ⟨v, tv, rfl, e⟩
      · rw [e]; exact ⟨_, ReadsAll.cons (Reads.str _ _) (ReadsAll.cons Reads.none ReadsAll.nil)⟩
      · rw [e]; exact ⟨_, ReadsAll.cons (Reads.str _ _) (ReadsAll.cons (Reads.str _ _) ReadsAll.nil)⟩
    refine args_nil ?_
    obtain ⟨as2, r2⟩ := r2
    refine newL (ds := [prD (lastP σ)]) H2 ⟨_, ReadsAll.cons r2 ReadsAll.nil⟩ (by simp) fun K3 h3 a3 s3 _ H3 r3 => ?_
    refine addL (xs := σ.words.map prD) H3 ((hw.sub s2).sub s3) r3 (by simp; omega) fun K4 h4 a4 s4 _ H4 r4 => ?_
    refine hQ K4 h4 a4 _ (s2.trans (s3.trans s4)) H4 ?_
    rw [show σ.words.map prD ++ [prD (lastP σ)] = (σ.words ++ [lastP σ]).map prD by simp] at r4
    exact r4
  refine IfExp_ (TT.ltN (j := 3) l3 rfl rfl rfl (by decide) _ _ _ H fun h1 tk1 H1 => ?_)
  by_cases hs : σ.st < 3
  · rw [decide_eq_true hs]
    simp only [if_true]
    refine noneU (args_nil (fin _ _ _ H1 (.inl ⟨rfl, ?_⟩)))
    simp [lastP, hs]
  · rw [decide_eq_false hs]
    simp only [Bool.false_eq_true, if_false]
    refine ldE H1 l4 (args_nil (fin _ _ _ H1 (.inr ⟨_, _, rfl, ?_⟩)))
    simp [lastP, hs]
end Mine
end

-- Fz4
section
open PySem PyProof.Rows PySem.W PySem.Builtin PySem.Builtin.Re
set_option Elab.async false
set_option linter.all false
set_option maxRecDepth 100000
namespace Mine
variable {prog : Program} {w : World} {A : Around} {E : Value → Shared → Prop} {s : Shared} {h : Heap} {tk : Nat} {K base : Heap} {hid : Addr → Obj → Prop} {L : Addr} {mg mb : Str → Option Value} {env : Env}
theorem eq_T : Str.ofString "=" = T [61] := by decide +kernel
/-- the branch that closes a word -/
def ifE0 (x : Stmt) : Stmt := (ifElse x).getD 0 (.Pass default)
def closeIf : Stmt := ifE0 (ifE0 (ifE0 (ifE0 (ifE0 (wkSt 2)))))
set_option maxHeartbeats 4000000 in
theorem close_ok {cd : Value} {x : Wl} {σ : Wk} {tv : Value} {a b : Addr} {c : Nat} {tc : Tok} {mu : List (Addr × List PyData)} (hh : A.handled = none) (hca : c ∈ al) (H : Hk K nil hid L { loc := Lc x σ tv a b c tc false, mu := mu } h) (W : Wi K x σ) {n : Nat} (B : Bd n σ) (hn : n ≤ 400) :
    wpAny (model prog w) A (execs (ifBody closeIf) (wkEnv L cd)) (fun f s' => f = .next ∧ StepQ s K nil hid L mu (if c == 44 then { σ with lists := σ.lists ++ [pend σ], words := [], st := 0 }
    else if !isW c && !(c == 61 || c == 59) then { σ with words := pend σ, name := [c], st := 1 }
    else { σ with words := pend σ, st := 0 }) tv a b c tc false s') E (up s h tk) := by
  obtain ⟨σ', hσ⟩ : ∃ σ', (if c == 44 then { σ with lists := σ.lists ++ [pend σ], words := [], st := 0 }
    else if !isW c && !(c == 61 || c == 59) then { σ with words := pend σ, name := [c], st := 1 }
    else { σ with words := pend σ, st := 0 }) = σ' := ⟨_, rfl⟩
  rw [hσ]
  -- behind the first two lines
  have step : ∀ (K1 h1 : Heap) (tk1 : Nat) (vw : Value) (t1 : Tok), Sub K K1 → Hk K1 nil hid L { loc := Lc ⟨x.vl, vw, x.vk, t1, x.t2, x.t3⟩ { σ with words := pend σ, st := 0 } tv a b c tc false, mu := mu } h1 → RdW K1 vw (pend σ) →
      wpAny (model prog w) A (execs ((ifBody closeIf).drop 2) (wkEnv L cd)) (fun f s' => f = .next ∧ StepQ s K nil hid L mu σ' tv a b c tc false s') E (up s h1 tk1) := by
    intro K1 h1 tk1 vw t1 s1 H1 hw
    refine execs_one ?_
    refine ifT H1 (TT.eqS (c := c) (d := 44) (by rfl) comma_T) fun h2 tk2 H2 => ?_
    cases hc1 : (c == 44) with
    | true =>
      obtain rfl : σ' = { σ with lists := σ.lists ++ [pend σ], words := [], st := 0 } := by rw [← hσ]; simp only [hc1, if_true, Bool.false_eq_true, if_false]
      simp only [if_true]
      refine execs_one ?_
      refine Assign_Tuple_swapped (names := [Str.ofString "lists", Str.ofString "words"]) ?_
      refine Tuple_ (args_cons ?_)
      refine wpAny_BinOp (ldE H2 (by rfl) ?_)
      refine List_ (args_cons (ldE H2 (by rfl) (args_nil ?_)))
      obtain ⟨asw, rw⟩ := id hw
      refine newL (ds := [wsD (pend σ)]) H2 ⟨_, ReadsAll.cons rw ReadsAll.nil⟩ (by simp) fun K3 h3 a3 s3 _ H3 r3 => ?_
      refine addL (xs := σ.lists.map wsD) H3 ((W.l.sub s1).sub s3) r3 (by have := B.l; simp; omega) fun K4 h4 a4 s4 _ H4 r4 => ?_
      refine args_cons (List_ (args_nil (newL (ds := []) H4 ⟨_, ReadsAll.nil⟩ (by simp) fun K5 h5 a5 s5 _ H5 r5 => ?_)))
      refine args_nil ?_
      refine tup_un (.inl hh) hh H5 (by rfl) (by simp) fun h6 H6 => ?_
      refine wpAny_assignInOrder_more (bindName_ (stE H6 fun h7 tk7 H7 => ?_))
      refine wpAny_assignInOrder_more (bindName_ (stE H7 fun h8 tk8 H8 => ?_))
      refine wpAny_pure ?_
      have sk : Sub K K5 := s1.trans (s3.trans (s4.trans s5))
      refine ⟨rfl, K5, h8, tk8, ⟨.ref a4, .ref a5, x.vk, t1, x.t2, x.t3⟩, rfl, sk, ?_, ?_⟩
      · exact H8.slimR (l := Lc ⟨.ref a4, .ref a5, x.vk, t1, x.t2, x.t3⟩ { σ with lists := σ.lists ++ [pend σ], words := [], st := 0 } tv a b c tc false) (by kernel_rfl)
      · refine ⟨?_, r5, W.k.sub sk⟩
        have := r4.sub s5
        rw [show σ.lists.map wsD ++ [wsD (pend σ)] = (σ.lists ++ [pend σ]).map wsD by simp] at this
        exact this
    | false =>
      simp only [Bool.false_eq_true, if_false]
      refine execs_one ?_
      refine ifT H2 (TT.and2 (TT.not (TT.name (b := isW c) (by rfl))) (TT.notInS (c := c) (by rfl) (in_4 c hca))) fun h3 tk3 H3 => ?_
      cases hc2 : (!isW c && !(c == 61 || c == 59)) with
      | true =>
        obtain rfl : σ' = { σ with words := pend σ, name := [c], st := 1 } := by rw [← hσ]; simp only [hc1, hc2, if_true, Bool.false_eq_true, if_false]
        simp only [if_true]
        refine execs_one ?_
        refine Assign_Tuple_swapped (names := [Str.ofString "name", Str.ofString "state"]) ?_
        refine Tuple_ (args_cons (ldE H3 (by rfl) (args_cons (intU fun t4 tk4 => args_nil ?_))))
        refine tup_un (.inl hh) hh H3 (by rfl) (by simp) fun h6 H6 => ?_
        refine wpAny_assignInOrder_more (bindName_ (stE H6 fun h7 tk7 H7 => ?_))
        refine wpAny_assignInOrder_more (bindName_ (stE H7 fun h8 tk8 H8 => ?_))
        refine wpAny_pure ?_
        refine ⟨rfl, K1, h8, tk8, ⟨x.vl, vw, x.vk, t4, tc, x.t3⟩, rfl, s1, ?_, ⟨W.l.sub s1, hw, W.k.sub s1⟩⟩
        exact H8.slimR (l := Lc ⟨x.vl, vw, x.vk, t4, tc, x.t3⟩ { σ with words := pend σ, name := [c], st := 1 } tv a b c tc false) (by kernel_rfl)
      | false =>
        obtain rfl : σ' = { σ with words := pend σ, st := 0 } := by rw [← hσ]; simp only [hc1, hc2, if_true, Bool.false_eq_true, if_false]
        simp only [Bool.false_eq_true, if_false]
        exact wpAny_execs_nil ⟨rfl, K1, h3, tk3, ⟨x.vl, vw, x.vk, t1, x.t2, x.t3⟩, rfl, s1, H3, ⟨W.l.sub s1, hw, W.k.sub s1⟩⟩
  have step0 : ∀ (K1 h1 : Heap) (tk1 : Nat) (vw : Value), Sub K K1 → Hk K1 nil hid L { loc := Lc ⟨x.vl, vw, x.vk, x.t1, x.t2, x.t3⟩ { σ with words := pend σ } tv a b c tc false, mu := mu } h1 → RdW K1 vw (pend σ) →
      wpAny (model prog w) A (execs ((ifBody closeIf).drop 1) (wkEnv L cd)) (fun f s' => f = .next ∧ StepQ s K nil hid L mu σ' tv a b c tc false s') E (up s h1 tk1) := by
    intro K1 h1 tk1 vw s1 H1 hw
    refine wpAny_execs_cons ?_
    refine wpAny_Assign_Name (intU fun t2 tk2 => stE H1 fun h3 tk3 H3 => ?_)
    refine step K1 h3 tk3 vw t2 s1 ?_ hw
    exact H3.slimR (l := Lc ⟨x.vl, vw, x.vk, t2, x.t2, x.t3⟩ { σ with words := pend σ, st := 0 } tv a b c tc false) (by kernel_rfl)
  refine wpAny_execs_cons ?_
  refine ifT H (TT.gtN (j := 0) (by rfl)) fun h1 tk1 H1 => ?_
  by_cases hst : σ.st > 0
  · rw [decide_eq_true hst]
    simp only [if_true]
    refine wpAny_execs_cons ?_
    refine wpAny_Assign_Name ?_
    refine pendU (σ := σ) H1 (by rfl) (by rfl) (by rfl) (by rfl) W.w (by have := B.w; omega) fun K2 h2 a2 tk2 s2 H2 r2 => ?_
    have ep : σ.words ++ [lastP σ] = pend σ := by unfold pend lastP; rw [if_pos hst]
    rw [ep] at r2
    refine stE H2 fun h3 tk3 H3 => ?_
    refine wpAny_execs_nil (step0 K2 h3 tk3 (.ref a2) s2 ?_ r2)
    exact H3.slimR (l := Lc ⟨x.vl, .ref a2, x.vk, x.t1, x.t2, x.t3⟩ { σ with words := pend σ } tv a b c tc false) (by kernel_rfl)
  · rw [decide_eq_false hst]
    simp only [Bool.false_eq_true, if_false]
    have ep : pend σ = σ.words := by unfold pend; rw [if_neg hst]
    refine wpAny_execs_nil (step0 K h1 tk1 x.vw (Sub.refl K) ?_ (by rw [ep]; exact W.w))
    exact H1
end Mine
end

-- Fz5
section
open PySem PyProof.Rows PySem.W PySem.Builtin PySem.Builtin.Re
set_option Elab.async false
set_option linter.all false
set_option maxRecDepth 100000
namespace Mine
variable {prog : Program} {w : World} {A : Around} {E : Value → Shared → Prop} {s : Shared} {h : Heap} {tk : Nat} {K base : Heap} {hid : Addr → Obj → Prop} {L : Addr} {mg mb : Str → Option Value} {env : Env}
set_option maxHeartbeats 4000000 in
theorem chain_ok {cd : Value} {x : Wl} {σ : Wk} {tv : Value} {a b : Addr} {c : Nat} {tc : Tok} {cl : Bool} {mu : List (Addr × List PyData)} (hh : A.handled = none) (hca : c ∈ al) (H : Hk K nil hid L { loc := Lc x σ tv a b c tc cl, mu := mu } h) (W : Wi K x σ) {n : Nat} (B : Bd n σ) (hn : n ≤ 400) :
    wpAny (model prog w) A (exec (wkSt 2) (wkEnv L cd)) (fun f s' => f = .next ∧ StepQ s K nil hid L mu (wk2 σ c cl) tv a b c tc cl s') E (up s h tk) := by
  obtain ⟨σ', hσ⟩ : ∃ σ', wk2 σ c cl = σ' := ⟨_, rfl⟩
  rw [hσ]
  refine ifT H (TT.and2 (TT.eqN (i := σ.st) (j := 3) (by rfl)) (TT.eqS (c := c) (d := 34) (by rfl) mark_T)) fun h1 tk1 H1 => ?_
  cases hc1 : (σ.st == 3 && c == 34) with
  | true =>
    obtain rfl : σ' = { σ with kept := some ⟨σ.lists, σ.words, σ.name, [], false⟩, value := [c], st := 4 } := by rw [← hσ]; unfold wk2; simp only [hc1, if_true, Bool.false_eq_true, if_false]
    simp only [if_true]
    refine execs_one ?_
    refine Assign_Tuple_swapped (names := [Str.ofString "kept", Str.ofString "value", Str.ofString "state"]) ?_
    refine Tuple_ (args_cons (Tuple_ (args_cons (ldE H1 (by rfl) (args_cons (ldE H1 (by rfl) (args_cons (ldE H1 (by rfl) (args_cons (strU fun t2 tk2 => args_cons (boolU (args_nil ?_))))))))))))
    rw [empty_T]
    refine newT0 H1 (by simp) fun K2 h2 a2 s2 _ H2 _ g2 => ?_
    refine args_cons (ldE H2 (by rfl) (args_cons (intU fun t3 tk3 => args_nil ?_)))
    refine tup_un (.inl hh) hh H2 (by rfl) (by simp) fun h6 H6 => ?_
    refine wpAny_assignInOrder_more (bindName_ (stE H6 fun h7 tk7 H7 => ?_))
    refine wpAny_assignInOrder_more (bindName_ (stE H7 fun h8 tk8 H8 => ?_))
    refine wpAny_assignInOrder_more (bindName_ (stE H8 fun h9 tk9 H9 => ?_))
    refine wpAny_pure ?_
    refine ⟨rfl, K2, h9, tk9, ⟨x.vl, x.vw, .ref a2, t3, x.t2, tc⟩, rfl, s2, ?_, ⟨W.l.sub s2, W.w.sub s2, a2, x.vl, x.vw, x.t2, t2, rfl, g2, W.l.sub s2, W.w.sub s2⟩⟩
    exact H9.slimR (l := Lc ⟨x.vl, x.vw, .ref a2, t3, x.t2, tc⟩ { σ with kept := some ⟨σ.lists, σ.words, σ.name, [], false⟩, value := [c], st := 4 } tv a b c tc cl) (by kernel_rfl)
  | false =>
  simp only [Bool.false_eq_true, if_false]
  refine execs_one ?_
  refine ifT H1 (TT.and3 (TT.in2N (i := σ.st) (j := 3) (j' := 4) (by rfl)) (TT.not (TT.name (b := isW c) (by rfl))) (TT.notInS (c := c) (by rfl) (in_2 c hca))) fun h2 tk2 H2 => ?_
  cases hc2 : ((σ.st == 3 || σ.st == 4) && !isW c && !(c == 59 || c == 44)) with
  | true =>
    obtain rfl : σ' = { σ with value := σ.value ++ [c], st := 4 } := by rw [← hσ]; unfold wk2; simp only [hc1, hc2, if_true, Bool.false_eq_true, if_false]
    simp only [if_true]
    refine execs_one ?_
    refine Assign_Tuple_swapped (names := [Str.ofString "value", Str.ofString "state"]) ?_
    refine Tuple_ (args_cons ?_)
    refine wpAny_BinOp (ldE H2 (by rfl) (ldE H2 (by rfl) ?_))
    refine addU (fun t3 tk3 => ?_) (by have := B.v; rw [T_size, T_size]; simp; omega)
    rw [T_append]
    refine args_cons (intU fun t4 tk4 => args_nil ?_)
    refine tup_un (.inl hh) hh H2 (by rfl) (by simp) fun h6 H6 => ?_
    refine wpAny_assignInOrder_more (bindName_ (stE H6 fun h7 tk7 H7 => ?_))
    refine wpAny_assignInOrder_more (bindName_ (stE H7 fun h8 tk8 H8 => ?_))
    refine wpAny_pure ?_
    refine ⟨rfl, K, h8, tk8, ⟨x.vl, x.vw, x.vk, t4, x.t2, t3⟩, rfl, Sub.refl K, ?_, ⟨W.l, W.w, W.k⟩⟩
    exact H8.slimR (l := Lc ⟨x.vl, x.vw, x.vk, t4, x.t2, t3⟩ { σ with value := σ.value ++ [c], st := 4 } tv a b c tc cl) (by kernel_rfl)
  | false =>
  simp only [Bool.false_eq_true, if_false]
  refine execs_one ?_
  refine ifT H2 (TT.and3 (TT.eqN (i := σ.st) (j := 1) (by rfl)) (TT.not (TT.name (b := isW c) (by rfl))) (TT.notInS (c := c) (by rfl) (in_3 c hca))) fun h3 tk3 H3 => ?_
  cases hc3 : (σ.st == 1 && !isW c && !(c == 61 || c == 59 || c == 44)) with
  | true =>
    obtain rfl : σ' = { σ with name := σ.name ++ [c] } := by rw [← hσ]; unfold wk2; simp only [hc1, hc2, hc3, if_true, Bool.false_eq_true, if_false]
    simp only [if_true]
    refine execs_one ?_
    refine wpAny_Assign_Name ?_
    refine wpAny_BinOp (ldE H3 (by rfl) (ldE H3 (by rfl) ?_))
    refine addU (fun t4 tk4 => ?_) (by have := B.nm; rw [T_size, T_size]; simp; omega)
    rw [T_append]
    refine stE H3 fun h8 tk8 H8 => ?_
    refine ⟨rfl, K, h8, tk8, ⟨x.vl, x.vw, x.vk, x.t1, t4, x.t3⟩, rfl, Sub.refl K, ?_, ⟨W.l, W.w, W.k⟩⟩
    exact H8.slimR (l := Lc ⟨x.vl, x.vw, x.vk, x.t1, t4, x.t3⟩ { σ with name := σ.name ++ [c] } tv a b c tc cl) (by kernel_rfl)
  | false =>
  simp only [Bool.false_eq_true, if_false]
  refine execs_one ?_
  refine ifT H3 (TT.and2 (TT.in2N (i := σ.st) (j := 1) (j' := 2) (by rfl)) (TT.eqS (c := c) (d := 61) (by rfl) eq_T)) fun h4 tk4 H4 => ?_
  cases hc4 : ((σ.st == 1 || σ.st == 2) && c == 61) with
  | true =>
    obtain rfl : σ' = { σ with value := [], st := 3 } := by rw [← hσ]; unfold wk2; simp only [hc1, hc2, hc3, hc4, if_true, Bool.false_eq_true, if_false]
    simp only [if_true]
    refine execs_one ?_
    refine Assign_Tuple ?_
    refine Tuple_ (args_cons (strU fun t5 tk5 => args_cons (intU fun t6 tk6 => args_nil ?_)))
    rw [empty_T]
    refine newT0 H4 (by simp) fun K5 h5 a5 s5 _ H5 _ g5 => ?_
    refine unpack_calm (s := up s h5 _) (.inl hh) H5.kh ⟨_, H5.kh _ _ g5, rfl, _, rfl⟩ (by rfl) (by rfl) fun h6 k6 => ?_
    have H6 := H5.mono k6
    show wpAny _ _ _ _ _ (up s h6 _)
    refine wpAny_assignInOrder_more (wpAny_assign_Name (stE H6 fun h7 tk7 H7 => ?_))
    refine wpAny_assignInOrder_more (wpAny_assign_Name (stE H7 fun h8 tk8 H8 => ?_))
    refine wpAny_pure ?_
    refine ⟨rfl, K5, h8, tk8, ⟨x.vl, x.vw, x.vk, t6, x.t2, t5⟩, rfl, s5, ?_, ⟨W.l.sub s5, W.w.sub s5, W.k.sub s5⟩⟩
    exact H8.slimR (l := Lc ⟨x.vl, x.vw, x.vk, t6, x.t2, t5⟩ { σ with value := [], st := 3 } tv a b c tc cl) (by kernel_rfl)
  | false =>
  simp only [Bool.false_eq_true, if_false]
  refine execs_one ?_
  refine ifT H4 (TT.and2 (TT.name (b := isW c) (by rfl)) (TT.ltN (i := σ.st) (j := 4) (by rfl))) fun h5 tk5 H5 => ?_
  cases hc5 : (isW c && decide (σ.st < 4)) with
  | true =>
    have e5 : σ' = { σ with st := if σ.st == 1 then 2 else σ.st } := by rw [← hσ]; unfold wk2; simp only [hc1, hc2, hc3, hc4, hc5, if_true, Bool.false_eq_true, if_false]
    simp only [if_true]
    refine execs_one ?_
    refine wpAny_Assign_Name ?_
    refine IfExp_ ((TT.eqN (i := σ.st) (j := 1) (by rfl) rfl rfl rfl (by decide)) _ _ _ H5 fun h6 tk6 H6 => ?_)
    cases hs1 : (σ.st == 1) with
    | true =>
      rw [hs1] at e5
      subst e5
      simp only [if_true]
      refine intU fun t7 tk7 => stE H6 fun h8 tk8 H8 => ?_
      exact ⟨trivial, K, h8, tk8, ⟨x.vl, x.vw, x.vk, t7, x.t2, x.t3⟩, rfl, Sub.refl K, H8.slimR (l := Lc ⟨x.vl, x.vw, x.vk, t7, x.t2, x.t3⟩ { σ with st := 2 } tv a b c tc cl) (by kernel_rfl), ⟨W.l, W.w, W.k⟩⟩
    | false =>
      rw [hs1] at e5
      subst e5
      simp only [Bool.false_eq_true, if_false]
      refine ldE H6 (by rfl) (stE H6 fun h8 tk8 H8 => ?_)
      exact ⟨trivial, K, h8, tk8, ⟨x.vl, x.vw, x.vk, x.t1, x.t2, x.t3⟩, rfl, Sub.refl K, H8.slimR (l := Lc ⟨x.vl, x.vw, x.vk, x.t1, x.t2, x.t3⟩ { σ with st := σ.st } tv a b c tc cl) (by kernel_rfl), ⟨W.l, W.w, W.k⟩⟩
  | false =>
  simp only [Bool.false_eq_true, if_false]
  refine execs_one ?_
  refine ifT H5 (TT.not (TT.name (b := cl) (by rfl))) fun h6 tk6 H6 => ?_
  cases cl with
  | true =>
    obtain rfl : σ' = σ := by rw [← hσ]; unfold wk2; simp only [hc1, hc2, hc3, hc4, hc5, Bool.not_true, if_true, Bool.false_eq_true, if_false]
    simp only [Bool.not_true, Bool.false_eq_true, if_false]
    exact wpAny_execs_nil ⟨rfl, K, h6, tk6, x, rfl, Sub.refl K, H6, W⟩
  | false =>
    obtain rfl : σ' = (if c == 44 then { σ with lists := σ.lists ++ [pend σ], words := [], st := 0 } else if !isW c && !(c == 61 || c == 59) then { σ with words := pend σ, name := [c], st := 1 } else { σ with words := pend σ, st := 0 }) := by rw [← hσ]; unfold wk2; simp only [hc1, hc2, hc3, hc4, hc5, Bool.not_false, if_true, Bool.false_eq_true, if_false]
    simp only [Bool.not_false, if_true]
    refine wpAny_mono (close_ok hh hca H6 W B hn) (fun f s₂ h₂ => ?_) (fun _ _ x => x)
    obtain ⟨rfl, h₂⟩ := h₂
    exact ⟨rfl, h₂⟩
end Mine
end

-- Fz6
section
open PySem PyProof.Rows PySem.W PySem.Builtin PySem.Builtin.Re
set_option Elab.async false
set_option linter.all false
set_option maxRecDepth 100000
namespace Mine
def AlP (p : Pr) : Prop := Al p.1 ∧ ∀ v, p.2 = some v → Al v
def AlWs (ws : Ws) : Prop := ∀ p ∈ ws, AlP p
def AlLs (ls : List Ws) : Prop := ∀ ws ∈ ls, AlWs ws
structure Ok (σ : Wk) : Prop where
  l : AlLs σ.lists
  w : AlWs σ.words
  nm : Al σ.name
  v : Al σ.value
  k : ∀ k, σ.kept = some k → AlLs k.bef ∧ AlWs k.ahd ∧ Al k.key ∧ Al k.ins
theorem Al.snoc {t : List Nat} (h : Al t) {c : Nat} (hc : c ∈ al) : Al (t ++ [c]) := fun d hd => by
  rcases List.mem_append.mp hd with hd | hd
  · exact h d hd
  · rw [List.mem_singleton.mp hd]; exact hc
theorem Al.nil : Al [] := fun d hd => by cases hd
theorem Al.one {c : Nat} (hc : c ∈ al) : Al [c] := Al.snoc Al.nil hc
theorem AlWs.snoc {ws : Ws} (h : AlWs ws) {p : Pr} (hp : AlP p) : AlWs (ws ++ [p]) := fun d hd => by
  rcases List.mem_append.mp hd with hd | hd
  · exact h d hd
  · rw [List.mem_singleton.mp hd]; exact hp
theorem AlLs.snoc {ls : List Ws} (h : AlLs ls) {p : Ws} (hp : AlWs p) : AlLs (ls ++ [p]) := fun d hd => by
  rcases List.mem_append.mp hd with hd | hd
  · exact h d hd
  · rw [List.mem_singleton.mp hd]; exact hp
theorem AlWs.nil : AlWs [] := fun d hd => by cases hd
theorem AlLs.nil : AlLs [] := fun d hd => by cases hd
theorem Ok.pend {σ : Wk} (o : Ok σ) : AlWs (pend σ) := by
  unfold Mine.pend
  split
  · refine o.w.snoc ⟨o.nm, fun v hv => ?_⟩
    simp only at hv
    split at hv
    · cases hv
    · cases hv; exact o.v
  · exact o.w
theorem Ok.wk1 {σ : Wk} (o : Ok σ) {c : Nat} (hc : c ∈ al) : Ok (wk1 σ c) := by
  unfold Mine.wk1
  cases hk : σ.kept with
  | none => exact o
  | some k =>
    obtain ⟨k1, k2, k3, k4⟩ := o.k k hk
    simp only
    split
    · exact ⟨k1, k2.snoc ⟨k3, fun v hv => by cases hv; exact k4⟩, o.nm, o.v, fun k hk => by cases hk⟩
    · split
      · exact ⟨o.l, o.w, o.nm, o.v, fun k hk => by cases hk⟩
      · split
        · exact ⟨o.l, o.w, o.nm, o.v, fun k hk => by cases hk; exact ⟨k1, k2, k3, k4⟩⟩
        · exact ⟨o.l, o.w, o.nm, o.v, fun k hk => by cases hk; exact ⟨k1, k2, k3, k4.snoc hc⟩⟩
theorem Ok.wk2 {σ : Wk} (o : Ok σ) {c : Nat} (hc : c ∈ al) (cl : Bool) : Ok (wk2 σ c cl) := by
  unfold Mine.wk2
  have hp := o.pend
  split
  · exact ⟨o.l, o.w, o.nm, Al.one hc, fun k hk => by cases hk; exact ⟨o.l, o.w, o.nm, Al.nil⟩⟩
  split
  · exact ⟨o.l, o.w, o.nm, o.v.snoc hc, o.k⟩
  split
  · exact ⟨o.l, o.w, o.nm.snoc hc, o.v, o.k⟩
  split
  · exact ⟨o.l, o.w, o.nm, Al.nil, o.k⟩
  split
  · exact ⟨o.l, o.w, o.nm, o.v, o.k⟩
  split
  · split
    · exact ⟨o.l.snoc hp, AlWs.nil, o.nm, o.v, o.k⟩
    split
    · exact ⟨o.l, hp, Al.one hc, o.v, o.k⟩
    · exact ⟨o.l, hp, o.nm, o.v, o.k⟩
  · exact o
theorem Ok.step {σ : Wk} (o : Ok σ) {c : Nat} (hc : c ∈ al) : Ok (wstep σ c) := (o.wk1 hc).wk2 hc _
theorem Ok.walk : ∀ {t : List Nat} {σ : Wk}, Ok σ → Al t → Ok (walk σ t)
  | [], _, o, _ => o
  | c :: t, σ, o, ht => by rw [walk_cons]; exact Ok.walk (o.step (ht c (.head _))) fun d hd => ht d (.tail _ hd)
theorem Ok.init : Ok {} := ⟨AlLs.nil, AlWs.nil, Al.nil, Al.nil, fun k hk => by cases hk⟩
theorem Ok.out {σ : Wk} (o : Ok σ) : AlLs (out σ) := fun ws hw => by
  unfold Mine.out at hw
  exact (o.l.snoc o.pend) ws (List.mem_filter.mp hw).1
theorem Bd.pend {n : Nat} {σ : Wk} (o : Bd n σ) : (pend σ).length ≤ n + 1 := by
  have := o.w
  unfold Mine.pend
  split
  · simp only [List.length_append, List.length_singleton]; omega
  · omega
theorem Bd.wk1 {n : Nat} {σ : Wk} (o : Bd n σ) (c : Nat) : Bd (n + 1) (wk1 σ c) := by
  have o' : Bd (n + 1) σ := ⟨by have := o.l; omega, by have := o.w; omega, by have := o.nm; omega, by have := o.v; omega, fun k hk => by have := o.k k hk; omega⟩
  unfold Mine.wk1
  cases hk : σ.kept with
  | none => exact o'
  | some k =>
    obtain ⟨k1, k2, k3⟩ := o.k k hk
    simp only
    split
    · exact ⟨by simp only; omega, by simp only [List.length_append, List.length_singleton]; omega, o'.nm, o'.v, fun k hk => by cases hk⟩
    · split
      · exact ⟨o'.l, o'.w, o'.nm, o'.v, fun k hk => by cases hk⟩
      · split
        · exact ⟨o'.l, o'.w, o'.nm, o'.v, fun k hk => by cases hk; simp only; omega⟩
        · exact ⟨o'.l, o'.w, o'.nm, o'.v, fun k hk => by cases hk; simp only [List.length_append, List.length_singleton]; omega⟩
theorem Bd.wk2 {n : Nat} {σ : Wk} (o : Bd n σ) (c : Nat) (cl : Bool) : Bd (n + 1) (wk2 σ c cl) := by
  have o' : Bd (n + 1) σ := ⟨by have := o.l; omega, by have := o.w; omega, by have := o.nm; omega, by have := o.v; omega, fun k hk => by have := o.k k hk; omega⟩
  unfold Mine.wk2
  have hp := o.pend
  have h1 := o.l
  have h2 := o.w
  have h3 := o.nm
  have h4 := o.v
  split
  · exact ⟨o'.l, o'.w, o'.nm, by simp, fun k hk => by cases hk; simp only [List.length_nil]; omega⟩
  split
  · exact ⟨o'.l, o'.w, o'.nm, by simp only [List.length_append, List.length_singleton]; omega, o'.k⟩
  split
  · exact ⟨o'.l, o'.w, by simp only [List.length_append, List.length_singleton]; omega, o'.v, o'.k⟩
  split
  · exact ⟨o'.l, o'.w, o'.nm, by simp, o'.k⟩
  split
  · exact ⟨o'.l, o'.w, o'.nm, o'.v, o'.k⟩
  split
  · split
    · exact ⟨by simp only [List.length_append, List.length_singleton]; omega, by simp, o'.nm, o'.v, o'.k⟩
    split
    · exact ⟨o'.l, hp, by simp, o'.v, o'.k⟩
    · exact ⟨o'.l, hp, o'.nm, o'.v, o'.k⟩
  · exact o'
theorem Bd.step {n : Nat} {σ : Wk} (o : Bd n σ) (c : Nat) : Bd (n + 2) (wstep σ c) := (o.wk1 c).wk2 c _
theorem Bd.init : Bd 0 {} := ⟨by simp, by simp, by simp, by simp, fun k hk => by cases hk⟩
/-- the data can be laid, and are not deep -/
theorem al_cp : ∀ c ∈ al, c < 0x110000 := by decide +kernel
theorem strOk_T {t : List Nat} (ht : Al t) : PyData.strOk (T t) = true := by
  unfold PyData.strOk
  rw [Array.all_eq_true]
  intro i hi
  simp only [decide_eq_true_eq]
  refine al_cp _ (ht _ ?_)
  simp [T]
theorem lay_pr {p : Pr} (h : AlP p) : (prD p).canLay0 = true := by
  obtain ⟨a, b⟩ := p
  obtain ⟨h1, h2⟩ := h
  have e1 : PyData.strOk (T a) = true := strOk_T h1
  cases b with
  | none => simp [prD, valD, PyData.canLay0, PyData.canLayAll0, e1]
  | some v =>
    have e2 : PyData.strOk (T v) = true := strOk_T (h2 v rfl)
    simp [prD, valD, PyData.canLay0, PyData.canLayAll0, e1, e2]
theorem layAll_of : ∀ {xs : List PyData}, (∀ x ∈ xs, x.canLay0 = true) → PyData.canLayAll0 xs = true
  | [], _ => by simp [PyData.canLayAll0]
  | x :: xs, h => by
    rw [PyData.canLayAll0, h x (.head _), layAll_of fun y hy => h y (.tail _ hy)]; rfl
theorem lay_ws {ws : Ws} (h : AlWs ws) : (wsD ws).canLay0 = true := by
  unfold wsD
  rw [PyData.canLay0]
  exact layAll_of fun x hx => by obtain ⟨p, hp, rfl⟩ := List.mem_map.mp hx; exact lay_pr (h p hp)
theorem lay_ls {ls : List Ws} (h : AlLs ls) : (PyData.list (ls.map wsD)).canLay0 = true := by
  rw [PyData.canLay0]
  exact layAll_of fun x hx => by obtain ⟨p, hp, rfl⟩ := List.mem_map.mp hx; exact lay_ws (h p hp)
theorem depthAll_le {n : Nat} : ∀ {xs : List PyData}, (∀ x ∈ xs, x.depth ≤ n) → PyData.depthAll xs ≤ n
  | [], _ => by simp [PyData.depthAll]
  | x :: xs, h => by
    rw [PyData.depthAll]
    exact Nat.max_le.mpr ⟨h x (.head _), depthAll_le fun y hy => h y (.tail _ hy)⟩
theorem dep_pr (p : Pr) : (prD p).depth ≤ 1 := by
  obtain ⟨a, b⟩ := p
  cases b <;> simp [prD, valD, PyData.depth, PyData.depthAll]
theorem dep_ws (ws : Ws) : (wsD ws).depth ≤ 2 := by
  unfold wsD
  rw [PyData.depth]
  have := depthAll_le (n := 1) (xs := ws.map prD) fun x hx => by obtain ⟨p, hp, rfl⟩ := List.mem_map.mp hx; exact dep_pr p
  omega
theorem dep_ls (ls : List Ws) : (PyData.list (ls.map wsD)).depth ≤ 3 := by
  rw [PyData.depth]
  have := depthAll_le (n := 2) (xs := ls.map wsD) fun x hx => by obtain ⟨p, hp, rfl⟩ := List.mem_map.mp hx; exact dep_ws p
  omega
/-- equal data, equal words -/
theorem eqv_pr (p q : Pr) : PyData.eqv (prD p) (prD q) = decide (p = q) := by
  obtain ⟨a, b⟩ := p
  obtain ⟨c, d⟩ := q
  have e0 : (T a == T c) = decide (a = c) := by rw [T_beq]; by_cases h : a = c <;> simp [h]
  cases b with
  | none =>
    cases d with
    | none => simp [prD, valD, PyData.eqv, PyData.eqvAll, e0]
    | some y => simp [prD, valD, PyData.eqv, PyData.eqvAll]
  | some x =>
    cases d with
    | none => simp [prD, valD, PyData.eqv, PyData.eqvAll]
    | some y =>
      have e1 : (T x == T y) = decide (x = y) := by rw [T_beq]; by_cases h : x = y <;> simp [h]
      simp only [prD, valD, PyData.eqv, PyData.eqvAll, e0, e1, Bool.and_true]
      by_cases h1 : a = c <;> by_cases h2 : x = y <;> simp [h1, h2]
theorem eqvAll_map {α : Type} [DecidableEq α] {f : α → PyData} (hf : ∀ a b, PyData.eqv (f a) (f b) = decide (a = b)) : ∀ (xs ys : List α), PyData.eqvAll (xs.map f) (ys.map f) = decide (xs = ys)
  | [], [] => by simp [PyData.eqvAll]
  | [], _ :: _ => by simp [PyData.eqvAll]
  | _ :: _, [] => by simp [PyData.eqvAll]
  | x :: xs, y :: ys => by
    simp only [List.map_cons, PyData.eqvAll, hf, eqvAll_map hf xs ys]
    by_cases h1 : x = y <;> by_cases h2 : xs = ys <;> simp [h1, h2]
theorem eqv_ws (a b : Ws) : PyData.eqv (wsD a) (wsD b) = decide (a = b) := by
  unfold wsD; rw [PyData.eqv]; exact eqvAll_map eqv_pr a b
theorem eqv_ls (a b : List Ws) : PyData.eqv (.list (a.map wsD)) (.list (b.map wsD)) = decide (a = b) := by
  rw [PyData.eqv]; exact eqvAll_map eqv_ws a b
end Mine
end

-- Fz7
section
open PySem PyProof.Rows PySem.W PySem.Builtin PySem.Builtin.Re
set_option Elab.async false
set_option linter.all false
set_option maxRecDepth 100000
namespace Mine
variable {prog : Program} {w : World} {A : Around} {E : Value → Shared → Prop} {s : Shared} {h : Heap} {tk : Nat} {K base : Heap} {hid : Addr → Obj → Prop} {L : Addr} {mg mb : Str → Option Value} {env : Env}
def neP (K : Heap) : Value → Bool
  | .ref a => match K.get? a with
    | some o => match o.data with
      | .seq vs _ => vs.size != 0
      | _ => false
    | none => false
  | _ => false
theorem neP_of {v : Value} {ws : Ws} (r : RdW K v ws) : neP K v = ne ws := by
  obtain ⟨as, r⟩ := r
  unfold wsD at r
  cases r with
  | @list a o vs n _ as2 h1 h2 h3 h4 =>
    have hl := ReadsAll_len h4
    simp only [Array.length_toList, List.length_map] at hl
    simp only [neP, h1, h3]
    unfold ne
    cases ws with
    | nil => simp at hl; simp [hl]
    | cons p q => simp at hl; simp [hl]
theorem filt : ∀ {vs : List Value} {wss : List Ws} {as : List Addr}, ReadsAll K vs (wss.map wsD) as → ∃ as', ReadsAll K (vs.filter (neP K)) ((wss.filter ne).map wsD) as'
  | vs, [], as, r => by cases r; exact ⟨_, ReadsAll.nil⟩
  | vs, ws :: wss, as, r => by
    rw [List.map_cons] at r
    cases r with
    | @cons v vs' _ _ as1 as2 q p =>
      obtain ⟨as', r'⟩ := filt p
      rw [List.filter_cons, List.filter_cons, neP_of ⟨_, q⟩]
      cases ne ws with
      | true => exact ⟨_, ReadsAll.cons q r'⟩
      | false => exact ⟨_, r'⟩
theorem reads_at : ∀ {vs : List Value} {wss : List Ws} {as : List Addr}, ReadsAll K vs (wss.map wsD) as → ∀ {i : Nat} {v : Value}, vs[i]? = some v → ∃ ws ∈ wss, RdW K v ws
  | vs, [], as, r, i, v, e => by cases r; simp at e
  | vs, ws :: wss, as, r, i, v, e => by
    rw [List.map_cons] at r
    cases r with
    | @cons v' vs' _ _ as1 as2 q p =>
      cases i with
      | zero => simp at e; subst e; exact ⟨ws, .head _, _, q⟩
      | succ i =>
        simp at e
        obtain ⟨w', h1, h2⟩ := reads_at p e
        exact ⟨w', .tail _ h1, h2⟩
theorem Paired_eq : ∀ {a b : List Value}, Paired (fun v y => y = v) a b → b = a
  | _, _, .nil => rfl
  | _, _, .cons e p => by rw [e, Paired_eq p]
theorem addRaw {S : St} {ax bx : Addr} {vs ws : Array Value} {n n' : Nat} {dd dd'} {sl sl'} {Q : Value → Shared → Prop} (H : Hk K base hid L S h) (h1 : h.get? ax = some { cls := .type "list", dict := dd, data := .seq vs n, slots := sl }) (g1 : h.get? bx = some { cls := .type "list", dict := dd', data := .seq ws n', slots := sl' }) (hz : vs.size + ws.size ≤ 1000)
    (hQ : ∀ K' h' a, Sub K K' → Sub h h' → Hk K' base hid L S h' → K'.get? a = some { cls := .type "list", data := .seq (vs ++ ws) } → Q (.ref a) (up s h' tk)) : wpAny (model prog w) A (binaryOp .Add (.ref ax) (.ref bx)) Q E (up s h tk) := by
  refine concat_meets (s := up s h tk) ⟨_, h1, rfl⟩ ⟨_, g1, rfl⟩ noFill_list_add seq_list_add PySem.F.slot_list_add PySem.F.entry_list_add (PySem.F.args_list_add_2 _ _)
    (list_addW ax bx vs ws n n' dd dd' sl sl' (by rw [sizeLine_eq]; omega)) ⟨h1, g1, ?_⟩
  have k1 : Sub h (h.push { cls := Value.type "list", data := Data.seq (vs ++ ws) }) := Sub.push _ _
  exact hQ _ _ _ (grow_sub H.kh k1) k1 (H.grow k1) (grow_new (get_size_none h) (Heap.get?_push_size _ rfl))
def callArg0 : Stmt → Expr
  | .Expr (.Call _ (x :: _) _ _) _ => x
  | _ => default
def compE : Expr := callArg0 (wkSt 4)
set_option maxHeartbeats 4000000 in
theorem comp_ok {S : St} {cd : Value} {vl vlast : Value} {σ : Wk} {Q : Value → Shared → Prop} (hu : A.units + 20 < cLine) (hh : A.handled = none) (H : Hk K nil hid L S h) (l1 : lk S.loc "lists" = some vl) (l2 : lk S.loc "last" = some vlast)
    (hl : RdL K vl σ.lists) (hw : RdW K vlast (pend σ)) (ok : Ok σ) (hz : σ.lists.length ≤ 500)
    (hQ : ∀ K' h' a tk', Sub K K' → Hk K' nil hid L S h' → RdL K' (.ref a) (out σ) → Q (.ref a) (up s h' tk')) :
    wpAny (model prog w) A (eval compE (wkEnv L cd)) Q E (up s h tk) := by
  obtain ⟨asl, rl⟩ := id hl
  obtain ⟨asw, rw'⟩ := id hw
  cases rl with
  | @list ax o vs n _ as2 h1 h2 h3 h4 =>
  obtain ⟨cls, dd, data, sl⟩ := o
  simp only at h2 h3
  subst h2 h3
  have hra : ReadsAll K (vs.toList ++ [vlast]) ((σ.lists ++ [pend σ]).map wsD) (as2 ++ asw) := by
    rw [List.map_append, List.map_singleton]; exact ReadsAll_snoc h4 rw'
  have hlen := ReadsAll_len h4
  simp only [Array.length_toList, List.length_map] at hlen
  refine wpAny_ListComp_free (cl := []) (neP K) (fun v y => y = v) (closureFor_none (by decide)) (by decide) (by rfl) (by decide) (by rfl) ?_
  refine wpAny_BinOp (ldE H l1 ?_)
  refine List_ (args_cons (ldE H l2 (args_nil ?_)))
  refine newL0 H (by simp) fun K1 h1' b s1 s1h H1 _ g1 => ?_
  refine addRaw H1 (H1.kh _ _ (s1 _ _ h1)) (H1.kh _ _ g1) (by simp; omega) fun K2 h2 a s2 s2h H2 g2 => ?_
  have gl := H2.kh _ _ g2
  refine wpAny_pyIter_list (s := up s h2 _) (l := a) (items := vs ++ [vlast].toArray) ⟨_, gl, rfl, _, rfl⟩ ?_
  have ei : (vs ++ [vlast].toArray).toList = vs.toList ++ [vlast] := by simp
  have kI := Sub.push h2 { cls := .type "list_iterator", data := .fields #[.ref a, .int 0 0] }
  have hI : (h2.push { cls := .type "list_iterator", data := .fields #[.ref a, .int 0 0] }).get? h2.objs.size = some { cls := .type "list_iterator", data := .fields #[.ref a, .int 0 0] } := Heap.get?_push_size _ rfl
  have hIn := get_size_none h2
  have hne : a ≠ h2.objs.size := Nat.ne_of_lt (Heap.lt_size gl)
  refine ⟨h2.objs.size, _, _, _, _, _, rfl, Walks.list hh h2.objs.size a hne (vs ++ [vlast].toArray), ?_, ⟨⟨_, hI, rfl, rfl⟩, ⟨_, kI _ _ gl, rfl, _, rfl⟩⟩, ?_, ?_, ?_⟩
  · rw [sizeLine_eq]; simp; omega
  · intro b hb
    simp only [List.mem_cons, List.not_mem_nil, or_false] at hb
    rcases hb with rfl | rfl
    · exact Heap.lt_size hI
    · exact Heap.lt_size (kI _ _ gl)
  · have hK : ∀ {h3 : Heap}, (∀ b o, b ∉ [h2.objs.size] → (h2.push { cls := .type "list_iterator", data := .fields #[.ref a, .int 0 0] }).get? b = some o → h3.get? b = some o) → Sub K h3 := fun hk b o x =>
      hk b o (by simp only [List.mem_singleton]; exact Nat.ne_of_lt (Heap.lt_size (H2.kh _ _ (s2 _ _ (s1 _ _ x))))) (kI _ _ (H2.kh _ _ (s2 _ _ (s1 _ _ x))))
    refine ⟨?_, ?_⟩
    · intro C i v s₃ m₃ E' hC hP hns hm hkeep htk
      have sK := hK hkeep
      have hP' : (vs.toList ++ [vlast])[i]? = some v := by rw [← ei, Array.getElem?_toList]; exact hP
      obtain ⟨ws, hws, rws⟩ := reads_at hra hP'
      have hAl : AlWs ws := by
        rcases List.mem_append.mp hws with hws | hws
        · exact ok.l ws hws
        · rw [List.mem_singleton.mp hws]; exact ok.pend
      refine wpAny_tests_one ?_
      refine wpAny_isTrue_Compare1 ?_
      refine wpAny_Name (wpAny_loadName_local (by rfl) (by rfl) hns hm ?_) (by decide)
      refine List_ (args_nil ?_)
      refine wpAny_newObj_type ?_ (by show (0 : Nat) ≤ sizeLine; exact Nat.zero_le _)
      obtain ⟨aws, rws'⟩ := id rws
      refine SeqAt.compareNe_reads (da := wsD ws) (db := .list []) (Reads.keeps (sK.trans (Sub.push _ _)) rws') (Reads.list (Heap.get?_push_size _ rfl) rfl rfl ReadsAll.nil) (lay_ws hAl) (by simp [PyData.canLay0, PyData.canLayAll0]) ?_ ?_
      · have := dep_ws ws; omega
      · refine wpAny_truthy_bool ⟨?_, ⟨_, _, rfl, fun b o e => Sub.push _ _ _ _ e⟩⟩
        rw [neP_of rws]
        cases ws with
        | nil => rfl
        | cons p q => rfl
    · intro C i v s₃ m₃ E' hC hP hp hns hm hkeep htk
      refine wpAny_Name (wpAny_loadName_local (by rfl) (by rfl) hns hm ?_) (by decide)
      exact ⟨rfl, ⟨_, _, rfl, fun b o e => e⟩⟩
  · intro D h' tk' ys us hD hl' hpl hlen' hP hF hk
    have hus : us = vs.toList ++ [vlast] := by
      rw [← ei]
      apply List.ext_getElem?
      intro j
      cases hj : us[j]? with
      | some v => have := hP j v hj; rw [Array.getElem?_toList]; exact this.symm
      | none =>
        have := List.getElem?_eq_none_iff.mp hj
        rw [Array.getElem?_toList, Array.getElem?_eq_none_iff.mpr (by omega)]
    have hys := Paired_eq hF
    rw [hus] at hys
    obtain ⟨as', rf⟩ := filt hra
    rw [← hys] at rf
    obtain ⟨n', hn'⟩ := hpl
    have sh : Sub h2 h' := fun b o x => hk b o (by simp only [List.mem_singleton]; exact Nat.ne_of_lt (Heap.lt_size x)) (kI _ _ x)
    have hD2 : h2.get? D = none := sub_none kI hD
    refine hQ (grow K2 h2 h') h' D tk' (s1.trans (s2.trans (grow_sub H2.kh sh))) (H2.grow sh) ⟨_, Reads.list (grow_new hD2 hn') rfl rfl (ReadsAll.keeps (s1.trans (s2.trans (grow_sub H2.kh sh))) rf)⟩
end Mine
end

-- Fz8
section
open PySem PyProof.Rows PySem.W PySem.Builtin PySem.Builtin.Re
set_option Elab.async false
set_option linter.all false
set_option maxRecDepth 100000
namespace Mine
variable {prog : Program} {w : World} {A : Around} {E : Value → Shared → Prop} {s : Shared} {h : Heap} {tk : Nat} {K base : Heap} {hid : Addr → Obj → Prop} {L : Addr} {mg mb : Str → Option Value} {env : Env}
def lsD (ls : List Ws) : PyData := .list (ls.map wsD)
def muW (a b : Addr) (td : List (List Ws)) (hp : List Bool) : List (Addr × List PyData) := [(a, td.map lsD), (b, hp.map .bool)]
theorem wc_ok {cd : Value} {x : Wl} {σ : Wk} {tv : Value} {a b : Addr} {c : Nat} {tc : Tok} {mu : List (Addr × List PyData)} (hh : A.handled = none) (hca : c ∈ al) (H : Hk K nil hid L { loc := ("sign", .str (T [c]) tc) :: Lw x σ tv a b, mu := mu } h) :
    wpAny (model prog w) A (exec (wkSt 0) (wkEnv L cd)) (fun f s' => f = .next ∧ ∃ h' tk', s' = up s h' tk' ∧ Hk K nil hid L { loc := Lc x σ tv a b c tc false, mu := mu } h') E (up s h tk) := by
  refine Assign_Tuple_swapped (names := [Str.ofString "white", Str.ofString "closes"]) ?_
  refine Tuple_ (args_cons ?_)
  refine wpAny_Compare1 (ldE H (by rfl) (strU fun t1 tk1 => P.in_str ?_))
  rw [in_W c hca]
  refine args_cons (boolU (args_nil ?_))
  refine tup_un (.inl hh) hh H (by rfl) (by simp) fun h6 H6 => ?_
  refine wpAny_assignInOrder_more (bindName_ (stE H6 fun h7 tk7 H7 => ?_))
  refine wpAny_assignInOrder_more (bindName_ (stE H7 fun h8 tk8 H8 => ?_))
  refine wpAny_pure ⟨rfl, h8, tk8, rfl, ?_⟩
  exact H8.slimR (l := Lc x σ tv a b c tc false) (by kernel_rfl)
def Ll (x : Wl) (σ : Wk) (tv : Value) (a b : Addr) (vl : Value) : List (String × Value) := ("last", vl) :: Lw x σ tv a b
theorem last_ok {cd : Value} {x : Wl} {σ : Wk} {tv : Value} {a b : Addr} {c : Nat} {tc : Tok} {cl : Bool} {mu : List (Addr × List PyData)} (H : Hk K nil hid L { loc := Lc x σ tv a b c tc cl, mu := mu } h) (W : Wi K x σ) {n : Nat} (B : Bd n σ) (hn : n ≤ 400) :
    wpAny (model prog w) A (exec (wkSt 3) (wkEnv L cd)) (fun f s' => f = .next ∧ ∃ K' h' tk' vl, s' = up s h' tk' ∧ Sub K K' ∧ Hk K' nil hid L { loc := Ll x σ tv a b vl, mu := mu } h' ∧ RdW K' vl (pend σ)) E (up s h tk) := by
  refine wpAny_Assign_Name ?_
  refine IfExp_ ((TT.gtN (i := σ.st) (j := 0) (by rfl) rfl rfl rfl (by decide)) _ _ _ H fun h1 tk1 H1 => ?_)
  by_cases hst : σ.st > 0
  · rw [decide_eq_true hst]
    simp only [if_true]
    refine pendU (σ := σ) H1 (by rfl) (by rfl) (by rfl) (by rfl) W.w (by have := B.w; omega) fun K2 h2 a2 tk2 s2 H2 r2 => ?_
    have ep : σ.words ++ [lastP σ] = pend σ := by unfold pend lastP; rw [if_pos hst]
    rw [ep] at r2
    refine stE H2 fun h3 tk3 H3 => ?_
    refine ⟨trivial, K2, h3, tk3, .ref a2, rfl, s2, ?_, r2⟩
    exact H3.slimR (l := Ll x σ tv a b (.ref a2)) (by kernel_rfl)
  · rw [decide_eq_false hst]
    simp only [Bool.false_eq_true, if_false]
    have ep : pend σ = σ.words := by unfold pend; rw [if_neg hst]
    refine ldE H1 (by rfl) ?_
    refine stE H1 fun h3 tk3 H3 => ?_
    refine ⟨trivial, K, h3, tk3, x.vw, rfl, Sub.refl K, ?_, by rw [ep]; exact W.w⟩
    exact H3.slimR (l := Ll x σ tv a b x.vw) (by kernel_rfl)
theorem told_ok {cd : Value} {x : Wl} {σ : Wk} {tv : Value} {a b : Addr} {vl : Value} {td : List (List Ws)} {hp : List Bool} (hu : A.units + 20 < cLine) (hh : A.handled = none) (H : Hk K nil hid L { loc := Ll x σ tv a b vl, mu := muW a b td hp } h) (W : Wi K x σ) (hw : RdW K vl (pend σ)) {n : Nat} (B : Bd n σ) (hn : n ≤ 400) (ok : Ok σ) (hz : td.length ≤ 500) :
    wpAny (model prog w) A (exec (wkSt 4) (wkEnv L cd)) (fun f s' => f = .next ∧ ∃ K' h' tk', s' = up s h' tk' ∧ Sub K K' ∧ Hk K' nil hid L { loc := Lw x σ tv a b, mu := muW a b (td ++ [out σ]) hp } h') E (up s h tk) := by
  refine wpAny_Expr_any ?_
  refine wpAny_Call_append (by rfl) (by rfl) (by rfl) (by rfl) ?_
  refine ldE H (by rfl) ?_
  obtain ⟨items, ⟨n1, e1⟩, hsz⟩ := H.plain (a := a) (ds := td.map lsD) (.head _)
  refine ⟨a, items, rfl, ⟨_, n1, e1, rfl, rfl, rfl⟩, ?_⟩
  refine comp_ok (σ := σ) hu hh H (by rfl) (by rfl) W.l hw ok (by have := B.l; omega) fun K2 h2 d tk2 s2 H2 r2 => ?_
  obtain ⟨items2, hpl2, hsz2⟩ := H2.plain (a := a) (ds := td.map lsD) (.head _)
  refine wpAny_list_append_plain (s := up s h2 tk2) hpl2 (fun h3 p3 sb => ?_) (by rw [hsz2, sizeLine_eq, List.length_map]; omega)
  obtain ⟨as, r2⟩ := r2
  have H3 := H2.append rfl ⟨as, r2, fun _ _ => nil_nw _ _⟩ hpl2 p3 sb
  refine ⟨rfl, K2, h3, tk2, rfl, s2, ?_⟩
  have em : muW a b (td ++ [out σ]) hp = [(a, td.map lsD ++ [.list ((out σ).map wsD)]), (b, hp.map .bool)] := by simp [muW, lsD]
  rw [em]
  exact H3.slimR (l := Lw x σ tv a b) (by kernel_rfl)
theorem RdK_isSome {v : Value} {o : Option Kp} (r : RdK K v o) : (!(v == .none)) = o.isSome := by
  cases o with
  | none => rw [show v = .none from r]; rfl
  | some k => obtain ⟨a, vb, va, t1, t2, rfl, _⟩ := r; rfl
theorem hopes_ok {cd : Value} {x : Wl} {σ : Wk} {tv : Value} {a b : Addr} {td : List (List Ws)} {hp : List Bool} (H : Hk K nil hid L { loc := Lw x σ tv a b, mu := muW a b td hp } h) (W : Wi K x σ) (hz : hp.length ≤ 500) :
    wpAny (model prog w) A (exec (wkSt 5) (wkEnv L cd)) (fun f s' => f = .next ∧ ∃ h' tk', s' = up s h' tk' ∧ Hk K nil hid L { loc := Lw x σ tv a b, mu := muW a b td (hp ++ [σ.kept.isSome]) } h') E (up s h tk) := by
  refine wpAny_Expr_any ?_
  refine wpAny_Call_append (by rfl) (by rfl) (by rfl) (by rfl) ?_
  refine ldE H (by rfl) ?_
  obtain ⟨items, ⟨n1, e1⟩, hsz⟩ := H.plain (a := b) (ds := hp.map .bool) (.tail _ (.head _))
  refine ⟨b, items, rfl, ⟨_, n1, e1, rfl, rfl, rfl⟩, ?_⟩
  refine wpAny_Compare1 (ldE H (by rfl) (noneU (isNot_none ?_)))
  rw [RdK_isSome W.k]
  refine wpAny_list_append_plain (s := up s h _) ⟨n1, e1⟩ (fun h3 p3 sb => ?_) (by rw [hsz, sizeLine_eq, List.length_map]; omega)
  have H2 := H.swap (p := (a, td.map lsD)) (q := (b, hp.map .bool)) (r := []) rfl
  have H3 := H2.append (a := b) (ds := hp.map .bool) (v := .bool σ.kept.isSome) (d := .bool σ.kept.isSome) rfl ⟨[], Reads.bool _, fun _ _ => nil_nw _ _⟩ ⟨n1, e1⟩ p3 sb
  have H4 := H3.swap (p := (b, hp.map .bool ++ [.bool σ.kept.isSome])) (q := (a, td.map lsD)) (r := []) rfl
  refine ⟨rfl, h3, _, rfl, ?_⟩
  have em : muW a b td (hp ++ [σ.kept.isSome]) = [(a, td.map lsD), (b, hp.map .bool ++ [.bool σ.kept.isSome])] := by simp [muW]
  rw [em]
  exact H4
set_option maxHeartbeats 4000000 in
theorem turn_wk {cd : Value} {x : Wl} {σ : Wk} {tv : Value} {a b : Addr} {c : Nat} {tc : Tok} {td : List (List Ws)} {hp : List Bool} (hu : A.units + 20 < cLine) (hh : A.handled = none) (hca : c ∈ al)
    (H : Hk K nil hid L { loc := ("sign", .str (T [c]) tc) :: Lw x σ tv a b, mu := muW a b td hp } h) (W : Wi K x σ) {n : Nat} (B : Bd n σ) (hn : n ≤ 300) (ok : Ok σ) (hz : td.length ≤ 500) (hz2 : hp.length ≤ 500) :
    wpAny (model prog w) A (execs (forBody wkFor) (wkEnv L cd)) (fun f s' => f = .next ∧ ∃ K' h' tk' x', s' = up s h' tk' ∧ Sub K K' ∧ Hk K' nil hid L { loc := Lw x' (wstep σ c) tv a b, mu := muW a b (td ++ [out (wstep σ c)]) (hp ++ [(wstep σ c).kept.isSome]) } h' ∧ Wi K' x' (wstep σ c)) E (up s h tk) := by
  refine wpAny_execs_cons ?_
  refine wpAny_mono (wc_ok hh hca H) ?_ (fun _ _ x => x)
  rintro f _ ⟨rfl, h1, tk1, rfl, H1⟩
  simp only
  refine wpAny_execs_cons ?_
  refine wpAny_mono (kept_ok hh hca H1 W B (by omega)) ?_ (fun _ _ x => x)
  rintro f _ ⟨rfl, K2, h2, tk2, x2, rfl, s2, H2, W2⟩
  simp only
  refine wpAny_execs_cons ?_
  refine wpAny_mono (chain_ok hh hca H2 W2 (B.wk1 c) (by omega)) ?_ (fun _ _ x => x)
  rintro f _ ⟨rfl, K3, h3, tk3, x3, rfl, s3, H3, W3⟩
  simp only
  refine wpAny_execs_cons ?_
  have B3 : Bd (n + 2) (wstep σ c) := B.step c
  have ok3 : Ok (wstep σ c) := ok.step hca
  have H3' : Hk K3 nil hid L { loc := Lc x3 (wstep σ c) tv a b c tc (cls σ c), mu := muW a b td hp } h3 := H3
  have W3' : Wi K3 x3 (wstep σ c) := W3
  refine wpAny_mono (last_ok H3' W3' B3 (by omega)) ?_ (fun _ _ x => x)
  rintro f _ ⟨rfl, K4, h4, tk4, vl, rfl, s4, H4, r4⟩
  simp only
  refine wpAny_execs_cons ?_
  refine wpAny_mono (told_ok hu hh H4 (W3'.sub s4) r4 B3 (by omega) ok3 hz) ?_ (fun _ _ x => x)
  rintro f _ ⟨rfl, K5, h5, tk5, rfl, s5, H5⟩
  simp only
  refine wpAny_execs_cons ?_
  refine wpAny_mono (hopes_ok H5 ((W3'.sub s4).sub s5) hz2) ?_ (fun _ _ x => x)
  rintro f _ ⟨rfl, h6, tk6, rfl, H6⟩
  simp only
  exact wpAny_execs_nil ⟨rfl, K5, h6, tk6, x3, rfl, s2.trans (s3.trans (s4.trans s5)), H6, (W3'.sub s4).sub s5⟩
end Mine
end

-- Fz9
section
open PySem PyProof.Rows PySem.W PySem.Builtin PySem.Builtin.Re
set_option Elab.async false
set_option linter.all false
set_option maxRecDepth 100000
namespace Mine
variable {prog : Program} {w : World} {A : Around} {E : Value → Shared → Prop} {s : Shared} {h : Heap} {tk : Nat} {K base : Heap} {hid : Addr → Obj → Prop} {L : Addr} {mg mb : Str → Option Value} {env : Env}
theorem newM {S : St} {vs : List Value} {ds : List PyData} {Q : Value → Shared → Prop} (H : Hk K base hid L S h) (r : ∃ as, ReadsAll K vs ds as ∧ ∀ b ∈ as, Nw base K b) (hz : vs.length ≤ 1000)
    (hQ : ∀ h' a, Sub h h' → h.get? a = none → Hk K base hid L { S with mu := (a, ds) :: S.mu } h' → Q (.ref a) (up s h' tk)) : wpAny (model prog w) A (newList vs) Q E (up s h tk) := by
  refine wpAny_newObj_type (s := up s h tk) ?_ (by show vs.toArray.size ≤ sizeLine; rw [sizeLine_eq, List.size_toArray]; omega)
  exact hQ _ _ (Sub.push _ _) (get_size_none h) (H.newMut (vs := vs.toArray) (n := 0) (Sub.push _ _) (get_size_none h) (Heap.get?_push_size _ rfl) (by simpa using r))
def wkAt (t : List Nat) (i : Nat) : Wk := walk {} (t.take i)
def tds (t : List Nat) (i : Nat) : List (List Ws) := (List.range (i + 1)).map fun j => out (wkAt t j)
def hps (t : List Nat) (i : Nat) : List Bool := (List.range (i + 1)).map fun j => (wkAt t j).kept.isSome
theorem wkAt_succ {t : List Nat} {i c : Nat} (h : t[i]? = some c) : wkAt t (i + 1) = wstep (wkAt t i) c := by
  unfold wkAt
  rw [List.take_add_one, h, Option.toList_some, walk_append]
  rfl
theorem tds_succ (t : List Nat) (i : Nat) : tds t (i + 1) = tds t i ++ [out (wkAt t (i + 1))] := by
  unfold tds; rw [List.range_succ (n := i + 1), List.map_append]; rfl
theorem hps_succ (t : List Nat) (i : Nat) : hps t (i + 1) = hps t i ++ [(wkAt t (i + 1)).kept.isSome] := by
  unfold hps; rw [List.range_succ (n := i + 1), List.map_append]; rfl
theorem Bd.at (t : List Nat) : ∀ i, i ≤ t.length → Bd (2 * i) (wkAt t i)
  | 0, _ => by unfold wkAt; rw [List.take_zero]; exact Bd.init
  | i + 1, h => by
    have : t[i]? = some t[i] := List.getElem?_eq_getElem (by omega)
    rw [wkAt_succ this]
    exact (Bd.at t i (by omega)).step _
theorem Ok.at {t : List Nat} (ht : Al t) (i : Nat) : Ok (wkAt t i) := Ok.walk Ok.init fun c hc => ht c (List.mem_of_mem_take hc)
def WkR (K : Heap) (r : Addr) (t : List Nat) : Prop :=
  ∃ a b, K.get? r = some { cls := .type "tuple", data := .seq #[.ref a, .ref b] } ∧ Rd K (.ref a) (.list ((tds t t.length).map lsD)) ∧ Rd K (.ref b) (.list ((hps t t.length).map .bool))
set_option maxHeartbeats 4000000 in
theorem walk_ok {S : St} {t : List Nat} {tt : Tok} {Q : Value → Shared → Prop} (hroom : A.depth + 20 < recursionLimit) (hu : A.units + 30 < cLine) (hh : A.handled = none) (G : Gnd mg mb K) (H : Hk K base hid L S h) (ht : Al t) (hlen : t.length ≤ 40)
    (hQ : ∀ r K' h' tk', Sub K K' → Hk K' base hid L S h' → WkR K' r t → Q (.ref r) (up s h' tk')) :
    wpAny (model prog w) A (call (.ref 75) [.str (T t) tt]) Q E (up s h tk) := by
  obtain ⟨o, pm, cd, doc, c1, c2, c3⟩ := G.fWk
  refine wpAny_call (call_pos_ret (s := up s h tk) (by omega) (H.kh _ _ c1) c2 (G.nolimit.keeps H.kh) (c3.keeps H.kh) rfl (locs (by rfl)) (fun h₁ F => ?_) (by rfl) (by rfl) (by rfl) (by decide +kernel))
  show wpAny _ _ _ _ _ (up s h₁ _)
  generalize (up s h tk).toks + _ = tk1
  have H1 := (H.enter F (get_size_none h) (l := [("text", .str (T t) tt)]) (by
    intro p hp
    simp only [List.mem_cons, List.not_mem_nil, or_false] at hp
    subst hp
    rfl)).lower (nil_sub K)
  show wpAny _ _ (execs _ (wkEnv h.objs.size cd)) _ _ _
  generalize h.objs.size = L1 at H1 ⊢
  have hh1 : (A.deeper (wkEnv L1 cd)).handled = none := hh
  have hu1 : (A.deeper (wkEnv L1 cd)).units + 20 < cLine := by show A.units + 3 + 20 < _; omega
  generalize A.deeper (wkEnv L1 cd) = A1 at hh1 hu1 ⊢
  -- the names at the start
  refine wpAny_execs_cons ?_
  refine Assign_Tuple ?_
  refine Tuple_ (args_cons (List_ (args_nil ?_)))
  refine newL (ds := []) H1 ⟨_, ReadsAll.nil⟩ (by simp) fun K2 h2 a2 s2 _ H2 r2 => ?_
  refine args_cons (List_ (args_nil ?_))
  refine newL (ds := []) H2 ⟨_, ReadsAll.nil⟩ (by simp) fun K3 h3 a3 s3 _ H3 r3 => ?_
  refine args_cons (intU fun t1 tk4 => args_cons (strU fun t2 tk5 => args_cons (strU fun t3 tk6 => args_cons (noneU (args_nil ?_)))))
  rw [empty_T]
  refine newT0 H3 (by simp) fun K4 h4 a4 s4 _ H4 _ g4 => ?_
  refine unpack_calm (s := up s h4 _) (.inl hh1) H4.kh ⟨_, H4.kh _ _ g4, rfl, _, rfl⟩ (by rfl) (by rfl) fun h5 k5 => ?_
  have H5 := H4.mono k5
  show wpAny _ _ _ _ _ (up s h5 _)
  refine wpAny_assignInOrder_more (wpAny_assign_Name (stE H5 fun h6 tk6 H6 => ?_))
  refine wpAny_assignInOrder_more (wpAny_assign_Name (stE H6 fun h7 tk7 H7 => ?_))
  refine wpAny_assignInOrder_more (wpAny_assign_Name (stE H7 fun h8 tk8 H8 => ?_))
  refine wpAny_assignInOrder_more (wpAny_assign_Name (stE H8 fun h9 tk9 H9 => ?_))
  refine wpAny_assignInOrder_more (wpAny_assign_Name (stE H9 fun h10 tk10 H10 => ?_))
  refine wpAny_assignInOrder_more (wpAny_assign_Name (stE H10 fun h11 tk11 H11 => ?_))
  refine wpAny_pure ?_
  show wpAny _ _ _ _ _ (up s h11 _)
  -- told, hopes
  refine wpAny_execs_cons ?_
  refine Assign_Tuple_swapped (names := [Str.ofString "told", Str.ofString "hopes"]) ?_
  refine Tuple_ (args_cons (List_ (args_cons (List_ (args_nil ?_)))))
  refine newL (ds := []) H11 ⟨_, ReadsAll.nil⟩ (by simp) fun K12 h12 a12 s12 _ H12 r12 => ?_
  refine args_nil ?_
  obtain ⟨as12, r12⟩ := r12
  refine newM (ds := [lsD []]) H12 ⟨_, ReadsAll.cons r12 ReadsAll.nil, fun _ _ => nil_nw _ _⟩ (by simp) fun h13 a13 _ _ H13 => ?_
  refine args_cons (List_ (args_cons (boolU (args_nil ?_))))
  refine newM (ds := [.bool false]) H13 ⟨_, ReadsAll.cons (Reads.bool _) ReadsAll.nil, fun _ _ => nil_nw _ _⟩ (by simp) fun h14 a14 _ _ H14 => ?_
  refine args_nil ?_
  refine tup_un (.inl hh1) hh1 H14 (by rfl) (by simp) fun h15 H15 => ?_
  refine wpAny_assignInOrder_more (bindName_ (stE H15 fun h16 tk16 H16 => ?_))
  refine wpAny_assignInOrder_more (bindName_ (stE H16 fun h17 tk17 H17 => ?_))
  refine wpAny_pure ?_
  have H18 := H17.swap (p := (a14, [.bool false])) (q := (a13, [lsD []])) (r := []) rfl
  have H19 : Hk K12 nil (hidOf K h) L1 { loc := Lw ⟨.ref a2, .ref a3, .none, t1, t2, t3⟩ (wkAt t 0) (.str (T t) tt) a13 a14, mu := muW a13 a14 (tds t 0) (hps t 0) } h17 := by
    have := H18.slimR (l := Lw ⟨.ref a2, .ref a3, .none, t1, t2, t3⟩ {} (.str (T t) tt) a13 a14) (by kernel_rfl)
    exact this
  have sk : Sub K K12 := s2.trans (s3.trans (s4.trans s12))
  have W19 : Wi K12 ⟨.ref a2, .ref a3, .none, t1, t2, t3⟩ (wkAt t 0) := ⟨r2.sub (s3.trans (s4.trans s12)), r3.sub (s4.trans s12), rfl⟩
  clear H18 H17 H16 H15 H14 H13 H12 H11 H10 H9 H8 H7 H6 H5 H4 H3 H2 H1
  generalize (⟨.ref a2, .ref a3, .none, t1, t2, t3⟩ : Wl) = x0 at H19 W19
  -- the loop
  refine wpAny_execs_cons ?_
  refine wpAny_For ?_
  refine ldE H19 (by rfl) ?_
  refine wpAny_pyIter_ascii (s := up s h17 tk17) (T_ascii ht) ?_
  show codeAny _ _ _ _ (up s (h17.push { cls := .type "str_ascii_iterator", data := .fields #[.str (T t) tt, .int 0 0] }) tk17)
  obtain ⟨o1, o2, o3, o4, o5⟩ := H19.out (get_size_none h17)
  have H20 := H19.mono (Sub.push h17 { cls := .type "str_ascii_iterator", data := .fields #[.str (T t) tt, .int 0 0] })
  have hit0 : (h17.push { cls := .type "str_ascii_iterator", data := .fields #[.str (T t) tt, .int 0 0] }).IsStrIter h17.objs.size "str_ascii_iterator" (T t) tt 0 := ⟨_, Heap.get?_push_size _ rfl, rfl, rfl⟩
  show codeAny _ _ (.forLoop _ (.ref h17.objs.size) _ _ _) _ _
  generalize h17.objs.size = it at o1 o2 o3 o4 o5 hit0 ⊢
  generalize h17.push { cls := .type "str_ascii_iterator", data := .fields #[.str (T t) tt, .int 0 0] } = h20 at H20 hit0 ⊢
  obtain ⟨I, hI⟩ : ∃ I : Nat → Shared → Prop, I = (fun m s' => ∃ K' h' tk' i x, s' = up s h' tk' ∧ Sub K K' ∧ Hk K' nil (hidOf K h) L1 { loc := Lw x (wkAt t i) (.str (T t) tt) a13 a14, mu := muW a13 a14 (tds t i) (hps t i) } h' ∧ Wi K' x (wkAt t i) ∧ h'.IsStrIter it "str_ascii_iterator" (T t) tt i ∧ K'.get? it = none ∧ i + m = t.length) := ⟨_, rfl⟩
  refine codeAny_forLoop I ?_ t.length (by rw [hI]; exact ⟨K12, h20, tk17, 0, x0, rfl, sk, H20, W19, hit0, o1, by omega⟩)
  intro m s' hm
  rw [hI] at hm
  obtain ⟨K', h', tk', i, x, rfl, ks, H', W', hit, hK, him⟩ := hm
  have ho4 : it ∉ (muW a13 a14 (tds t i) (hps t i)).map (·.1) := o4
  cases hx : t[i]? with
  | none =>
    have hil : t.length ≤ i := List.getElem?_eq_none_iff.mp hx
    have ei : i = t.length := by omega
    subst ei
    refine wpAny_pyNext_ascii_end (s := up s h' tk') hh1 hit (by rw [T_get]; exact hx) fun h4 e4 => ?_
    simp only
    refine wpAny_execs_nil ?_
    simp only
    have H4 := H'.turn hK o2 o3 ho4 o5 e4
    show wpAny _ _ _ _ _ (up s h4 tk')
    refine wpAny_execs_cons ?_
    refine wpAny_Return_some ?_
    obtain ⟨Ka, sa, ⟨asa, ra, _⟩, Ha⟩ := H4.freeze (a := a13) rfl
    obtain ⟨Kb, sb, ⟨asb, rb, _⟩, Hb⟩ := Ha.freeze (a := a14) rfl
    refine Tuple_ (args_cons (ldE Hb (by rfl) (args_cons (ldE Hb (by rfl) (args_nil ?_)))))
    refine newT0 Hb (by simp) fun K6 h6 r s6 _ H6 _ g6 => ?_
    exact hQ r K6 h6 _ (ks.trans (sa.trans (sb.trans s6))) (H.back' H6 (ks.trans (sa.trans (sb.trans s6)))) ⟨a13, a14, g6, ⟨_, Reads.keeps (sb.trans s6) ra⟩, ⟨_, Reads.keeps s6 rb⟩⟩
  | some c =>
    have hil : i < t.length := by
      rcases Nat.lt_or_ge i t.length with h | h
      · exact h
      · rw [List.getElem?_eq_none_iff.mpr h] at hx; cases hx
    have hca : c ∈ al := ht c (List.mem_of_getElem? hx)
    refine wpAny_pyNext_ascii_item (s := up s h' tk') hit (by rw [T_get]; exact hx) fun h4 hit4 sb => ?_
    show wpAny _ _ _ _ _ (up s h4 (tk' + 1))
    have H4 := H'.turn hK o2 o3 ho4 o5 sb.extBut
    refine wpAny_assign_Name ?_
    rw [T_one]
    obtain ⟨oi, io1, io2, io3⟩ := id hit4
    have Hh := H4.hide io1 hK o2 o3 ho4
    refine stE Hh fun h5 tk5 H5 => ?_
    have H6 : Hk K' nil (hideOne (hidOf K h) it oi) L1 { loc := ("sign", .str (T [c]) tk') :: Lw x (wkAt t i) (.str (T t) tt) a13 a14, mu := muW a13 a14 (tds t i) (hps t i) } h5 := H5
    refine wpAny_mono (turn_wk hu1 hh1 hca H6 W' (Bd.at t i (by omega)) (by omega) (Ok.at ht i) (by simp [tds]; omega) (by simp [hps]; omega)) ?_ (fun _ _ x => x)
    rintro fl s' ⟨rfl, K7, h7, tk7, x7, rfl, s7, H7, W7⟩
    obtain ⟨H8, q1, q2, _⟩ := H7.unhide
    refine ⟨m - 1, by omega, ?_⟩
    rw [hI]
    refine ⟨K7, h7, tk7, i + 1, x7, rfl, ks.trans s7, ?_, ?_, ⟨oi, q1, io2, io3⟩, q2, by omega⟩
    · rw [tds_succ, hps_succ, wkAt_succ hx]; exact H8
    · rw [wkAt_succ hx]; exact W7
end Mine
end

-- Ga1
section
open PySem PyProof.Rows PySem.W PySem.Builtin PySem.Builtin.Re
set_option Elab.async false
set_option linter.all false
set_option maxRecDepth 100000
namespace Mine
/-- an exception on its way, with one line of a traceback; it has no context -/
def Ex (h : Heap) (e T : Addr) (fl : Value) : Prop :=
  ∃ oe vs oT ts, h.get? e = some oe ∧ oe.cls = .type "AssertionError" ∧ oe.data = .fields vs ∧ vs[1]? = some (.ref T) ∧ vs[2]? = some .none ∧ T ≠ e ∧ h.get? T = some oT ∧ oT.data = .fields ts ∧ ts[3]? = some fl
/-- all that stood stands, but for the frame's own marks -/
def Kp0 (h0 : Heap) (L : Addr) (h : Heap) : Prop := (∀ b o, b ≠ L → h0.get? b = some o → h.get? b = some o) ∧ h0.UpToSlots h ∧ ∃ o, h0.get? L = some o ∧ ∀ vs, o.data ≠ .fields vs
theorem Kp0.there {h0 h : Heap} {L : Addr} (k : Kp0 h0 L h) {b : Addr} {o : Obj} (x : h0.get? b = some o) : ∃ o', h.get? b = some o' := by
  by_cases hb : b = L
  · subst hb
    obtain ⟨o1, q1, q2⟩ := k.2.2
    obtain ⟨sl, y⟩ := k.2.1 _ _ q1 q2
    exact ⟨_, y⟩
  · exact ⟨o, k.1 b o hb x⟩
theorem Kp0.fresh {h0 h : Heap} {L : Addr} (k : Kp0 h0 L h) {b : Addr} (x : h.get? b = none) : h0.get? b = none := by
  cases hq : h0.get? b with
  | none => rfl
  | some o => obtain ⟨o', y⟩ := k.there hq; rw [x] at y; cases y
section
variable {M : Model} {A : Around} {E : Value → Shared → Prop} {s : Shared} {h0 : Heap} {L L0 e T : Addr} {env : Env} {outer l : List Env}
theorem funs_up {h h' : Heap} (u : h.UpToSlots h') (hl : h.FunFrames nil l) : h'.FunFrames nil l := hl.of_keeps fun b o hb hnf => let ⟨sl, x⟩ := u b o hb hnf; ⟨_, x, rfl⟩
theorem entry_env {oe : Obj} {vs : Array Value} {head : Value} {hadNext : Bool} {Q : Unit → Shared → Prop} (hfr : A.frames = some (env :: outer)) (hl : s.heap.FunFrames nil (env :: outer)) (hf : env.frame = some L)
    (hfs : ∀ b ∈ (env :: outer).filterMap (·.frame), b = L0 ∨ h0.get? b = none) (k : Kp0 h0 L0 s.heap)
    (he : s.heap.get? e = some oe) (hc : oe.cls = .type "AssertionError") (hd : oe.data = .fields vs) (hz : 1 < vs.size) (h2 : vs[2]? = some .none) (hen : h0.get? e = none)
    (hQ : ∀ h' T, Kp0 h0 L0 h' → h0.get? T = none → Ex h' e T (rawInt L) → h'.FunFrames nil (env :: outer) → Q () { s with heap := h' }) :
    wpAny M A (do let a ← frameOf env; let pl ← entryPlaceOf L hadNext; let b ← EntryCells.newEntry head a .none (rawInt L) .none pl; setField (.ref e) 1 b) Q E s := by
  have hene : e ∉ (env :: outer).filterMap (·.frame) := fun hm => by
    obtain ⟨_, o, ho, hnf⟩ := hl.mem hm
    rw [he] at ho; injection ho with ho; subst ho; exact hnf vs hd
  refine wpAny_bind (wpAny_frameOf_fun hfr hl hf fun h₁ hs₁ => ?_)
  refine wpAny_bind (wpAny_entryPlaceOf fun pl hpl => ?_)
  unfold EntryCells.newEntry newFields
  refine wpAny_bind (wpAny_newObj_type ?_ (hpl.sizeOk5 _ _ _ _ _))
  have he₁ : h₁.get? e = some oe := (hs₁.2.1 e hene).trans he
  have he₂ := Heap.get?_push_of_some (h := h₁) { cls := .type "traceback", dict := none, data := .fields ([head, .ref L, .none, rawInt L, .none] ++ (if pl.isEmpty then List.replicate 6 Value.none else pl)).toArray } he₁
  have hT₂ := Heap.get?_push_size (o := { cls := .type "traceback", dict := none, data := .fields ([head, .ref L, .none, rawInt L, .none] ++ (if pl.isEmpty then List.replicate 6 Value.none else pl)).toArray }) h₁ rfl
  have hTe : h₁.objs.size ≠ e := Nat.ne_of_gt (Heap.lt_size he₁)
  have hd₃ := Obj.data_mapFields hd (·.setIfInBounds 1 (Value.ref h₁.objs.size))
  have hsz : ∀ b o, s.heap.get? b = some o → b ≠ h₁.objs.size := fun b o x => by rw [hs₁.1]; exact Nat.ne_of_lt (Heap.lt_size x)
  refine wpAny_setField he₂ hd hz (hQ _ h₁.objs.size ?_ ?_ ?_ ?_)
  · refine ⟨fun b o hb x => ?_, k.2.1.trans fun b o x hnf => ?_, k.2.2⟩
    · have hbe : b ≠ e := by rintro rfl; rw [hen] at x; cases x
      have hbf : b ∉ (env :: outer).filterMap (·.frame) := fun hm => by
        rcases hfs b hm with rfl | q
        · exact hb rfl
        · rw [q] at x; cases x
      rw [Heap.get?_update_other _ _ (Ne.symm hbe)]
      exact Heap.get?_push_of_some _ ((hs₁.2.1 b hbf).trans (k.1 b o hb x))
    · have hbe : b ≠ e := by rintro rfl; rw [he] at x; cases x; exact hnf vs hd
      obtain ⟨sl, y⟩ := hs₁.2.2 b o x
      exact ⟨sl, by rw [Heap.get?_update_other _ _ (Ne.symm hbe)]; exact Heap.get?_push_of_some _ y⟩
  · rw [hs₁.1]; exact k.fresh (get_size_none _)
  · refine ⟨_, _, _, _, Heap.get?_update_self _ he₂ (Obj.isFreed_of_fields hd₃), (Obj.cls_mapFields _ _).trans hc, hd₃, by simp [hz], by rw [Array.getElem?_setIfInBounds_ne (by decide)]; exact h2, hTe, (Heap.get?_update_other _ _ (Ne.symm hTe)).trans hT₂, rfl, ?_⟩
    first | (simp; done) | (rcases hpl with rfl | ⟨_, _, _, _, _, _, _, rfl⟩ <;> simp)
  · refine funs_up (h := s.heap) (fun b o x hnf => ?_) hl
    have hbe : b ≠ e := by rintro rfl; rw [he] at x; cases x; exact hnf vs hd
    obtain ⟨sl, y⟩ := hs₁.2.2 b o x
    exact ⟨sl, by rw [Heap.get?_update_other _ _ (Ne.symm hbe)]; exact Heap.get?_push_of_some _ y⟩
theorem note1 {oe : Obj} {vs : Array Value} {Q : Unit → Shared → Prop} (hfr : A.frames = some (env :: outer)) (hl : s.heap.FunFrames nil (env :: outer)) (hf : env.frame = some L)
    (hfs : ∀ b ∈ (env :: outer).filterMap (·.frame), b = L0 ∨ h0.get? b = none) (k : Kp0 h0 L0 s.heap)
    (he : s.heap.get? e = some oe) (hc : oe.cls = .type "AssertionError") (hd : oe.data = .fields vs) (h1 : vs[1]? = some .none) (h2 : vs[2]? = some .none) (hen : h0.get? e = none)
    (hQ : ∀ h' T, Kp0 h0 L0 h' → h0.get? T = none → Ex h' e T (rawInt L) → h'.FunFrames nil (env :: outer) → Q () { s with heap := h' }) : wpAny M A (noteFrame (.ref e) env) Q E s := by
  unfold noteFrame
  simp only [hf]
  refine wpAny_bind (wpAny_field he hd h1 ?_)
  rw [if_neg (by decide)]
  exact entry_env hfr hl hf hfs k he hc hd (Array.getElem?_eq_some_iff.mp h1).1 h2 hen hQ
theorem Kp0.turn {h h' : Heap} {T : Addr} (k : Kp0 h0 L0 h) (hT : h0.get? T = none) (hnf : ∃ o vs, h.get? T = some o ∧ o.data = .fields vs) (other : ∀ b, b ≠ T → h'.get? b = h.get? b) : Kp0 h0 L0 h' := by
  obtain ⟨oT, ts, t1, t2⟩ := hnf
  refine ⟨fun b o hb x => (other b fun q => by subst q; rw [hT] at x; cases x).trans (k.1 b o hb x), k.2.1.trans fun b o x hnf => ⟨o.slots, (other b fun q => ?_).trans x⟩, k.2.2⟩
  subst q; rw [t1] at x; cases x; exact hnf ts t2
theorem note2 {Q : Unit → Shared → Prop} (hfr : A.frames = some (env :: outer)) (hl : s.heap.FunFrames nil (env :: outer)) (hf : env.frame = some L)
    (hfs : ∀ b ∈ (env :: outer).filterMap (·.frame), b = L0 ∨ h0.get? b = none) (k : Kp0 h0 L0 s.heap) (x : Ex s.heap e T .none) (hT0 : h0.get? T = none) (hen : h0.get? e = none)
    (hQ : ∀ h' T, Kp0 h0 L0 h' → h0.get? T = none → Ex h' e T (rawInt L) → h'.FunFrames nil (env :: outer) → Q () { s with heap := h' }) : wpAny M A (noteFrame (.ref e) env) Q E s := by
  obtain ⟨oe, vs, oT, ts, he, hc, hd, h1, h2, hTe, hT, hdT, h3⟩ := x
  unfold noteFrame
  simp only [hf]
  refine wpAny_bind (wpAny_field he hd h1 ?_)
  rw [if_pos (show (Value.ref T != Value.none) = true from by simp)]
  refine wpAny_bind (wpAny_field hT hdT h3 ?_)
  rw [if_neg (show ¬ ((Value.none == rawInt L) = true) from by simp [rawInt])]
  refine wpAny_bind (wpAny_setField hT hdT (Array.getElem?_eq_some_iff.mp h3).1 ?_)
  have other : ∀ b, b ≠ T → (s.heap.update T (Obj.mapFields (·.setIfInBounds 3 Value.none))).get? b = s.heap.get? b := fun b hb => Heap.get?_update_other _ _ (Ne.symm hb)
  refine entry_env hfr (funs_up (h := s.heap) (fun b o x hnf => ⟨o.slots, (other b fun q => ?_).trans x⟩) hl) hf hfs (k.turn hT0 ⟨oT, ts, hT, hdT⟩ other) ((other e (Ne.symm hTe)).trans he) hc hd (Array.getElem?_eq_some_iff.mp h1).1 h2 hen hQ
  subst q; rw [hT] at x; cases x; exact hnf ts hdT
theorem flight {Q : Unit → Shared → Prop} {fl : Value} (hl : s.heap.FunFrames nil l) (k : Kp0 h0 L0 s.heap) (x : Ex s.heap e T fl) (hT0 : h0.get? T = none)
    (hQ : ∀ h', Kp0 h0 L0 h' → Ex h' e T .none → h'.FunFrames nil l → Q () { s with heap := h' }) : wpAny M A (setFlight (.ref e) none) Q E s := by
  obtain ⟨oe, vs, oT, ts, he, hc, hd, h1, h2, hTe, hT, hdT, h3⟩ := x
  have other : ∀ b, b ≠ T → (s.heap.update T (Obj.mapFields (·.setIfInBounds 3 Value.none))).get? b = s.heap.get? b := fun b hb => Heap.get?_update_other _ _ (Ne.symm hb)
  have hz : 3 < ts.size := (Array.getElem?_eq_some_iff.mp h3).1
  refine wpAny_setFlight_none he hd h1 hT hdT hz (hQ _ (k.turn hT0 ⟨oT, ts, hT, hdT⟩ other) ?_ (funs_up (h := s.heap) (fun b o x hnf => ⟨o.slots, (other b fun q => ?_).trans x⟩) hl))
  · exact ⟨oe, vs, _, _, (other e (Ne.symm hTe)).trans he, hc, hd, h1, h2, hTe, Heap.get?_update_self _ hT (Obj.isFreed_of_fields (Obj.data_mapFields hdT _)), Obj.data_mapFields hdT _, by simp [hz]⟩
  · subst q; rw [hT] at x; cases x; exact hnf ts hdT
end
end Mine
end

-- Ga2
section
open PySem PyProof.Rows PySem.W PySem.Builtin PySem.Builtin.Re
set_option Elab.async false
set_option linter.all false
set_option maxRecDepth 100000
namespace Mine
variable {prog : Program} {w : World} {A : Around} {E : Value → Shared → Prop} {s : Shared} {h h' : Heap} {tk : Nat} {K base : Heap} {hid : Addr → Obj → Prop} {L : Addr} {mg mb : Str → Option Value} {env : Env} {S : St}
theorem Hk.raised (H : Hk K base hid L S h) (k : Kp0 h L h') : Hk K base hid L S h' := by
  obtain ⟨bk, kh, kL, kt, Lt, ⟨m, n1, n2⟩, fac, kob, mu, nd, hd, tb⟩ := H
  have e := k.1
  have kne : ∀ b o, K.get? b = some o → b ≠ L := fun b o x hb => by subst hb; rw [kL] at x; cases x
  refine ⟨bk, fun b o x => e b o (kne b o x) (kh _ _ x), kL, kt, Lt, ⟨m, k.2.1.ns n1, n2⟩, fac, kob, fun p hp => ?_, nd, fun b o x => ?_, tb.sub (Sub.refl K) fun o x => e _ _ (Ne.symm Lt) x⟩
  · obtain ⟨m1, m2, m3, vs, n, as, m4, m5, m6⟩ := mu p hp
    exact ⟨m1, m2, m3, vs, n, as, e _ _ m2 m4, m5, m6⟩
  · obtain ⟨q1, q2, q3, q4⟩ := hd b o x
    exact ⟨e _ _ q3 q1, q2, q3, q4⟩
theorem Hk.addObj (H : Hk K base hid L S h) {e : Addr} {o : Obj} (he : h.get? e = some o) (hL : e ≠ L) (ht : e ≠ tab) (hm : e ∉ S.mu.map (·.1)) (hh : ∀ o, ¬ hid e o) : ∃ K', Sub K K' ∧ K'.get? e = some o ∧ Hk K' base hid L S h := by
  obtain ⟨bk, kh, kL, kt, Lt, loc, fac, kob, mu, nd, hd, tb⟩ := H
  have hsub : Sub K (rest h fun b => (∃ o, K.get? b = some o) ∨ b = e) := fun b o x => rest_get.mpr ⟨kh _ _ x, .inl ⟨o, x⟩⟩
  have out : ∀ b, K.get? b = none → b ≠ e → (rest h fun b => (∃ o, K.get? b = some o) ∨ b = e).get? b = none := fun b h1 h2 => rest_none (by
    rintro (⟨o, x⟩ | x)
    · rw [h1] at x; cases x
    · exact h2 x)
  refine ⟨_, hsub, rest_get.mpr ⟨he, .inr rfl⟩, bk.trans hsub, fun b o x => (rest_get.mp x).1, out L kL (Ne.symm hL), out tab kt (Ne.symm ht), Lt, loc, fac.sub hsub, kob.sub hsub, fun p hp => ?_, nd, fun b o x => ?_, tb.sub hsub fun o x => x⟩
  · obtain ⟨p1, p2, p3, vs', n', as', p4, p5, p6⟩ := mu p hp
    exact ⟨out _ p1 (fun q => hm (by rw [← q]; exact List.mem_map_of_mem hp)), p2, p3, vs', n', as', p4, ReadsAll.keeps hsub p5, fun a ha => (p6 a ha).keeps hsub⟩
  · obtain ⟨q1, q2, q3, q4, q5⟩ := hd b o x
    exact ⟨q1, out b q2 (fun q => by subst q; exact hh _ x), q3, q4, q5⟩
set_option maxHeartbeats 4000000 in
theorem shw_str {lenv : Env} {x : Str} {t : Tok} {Q : Value → Shared → Prop} (hroom : A.depth + 20 < recursionLimit) (hh : A.handled = none) (hfr : A.frames = some [lenv]) (hf : lenv.frame = some L) (hkd : lenv.scope.kind ≠ .module) (G : Gnd mg mb K) (H : Hk K base hid L S h)
    (hE : ∀ e T h' tk', h.get? e = none → h.get? T = none → Kp0 h L h' → Ex h' e T .none → h'.FunFrames nil [lenv] → E (.ref e) (up s h' tk')) :
    wpAny (model prog w) A (call (.ref 70) [.str x t]) Q E (up s h tk) := by
  obtain ⟨o, pm, doc, c1, c2⟩ := G.cSh
  have c3 := G.crec
  refine wpAny_call (call_pos (s := up s h tk) (by omega) (H.kh _ _ c1) c2 (G.nolimit.keeps H.kh) (c3.keeps H.kh) rfl (locs (by rfl)) (fun h₁ F => ?_) (by rfl) (by rfl) (by rfl) (by decide +kernel))
  show wpAny _ _ _ _ _ (up s h₁ _)
  generalize (up s h tk).toks + _ = tk1
  have hL1 : h.get? h.objs.size = none := get_size_none h
  have H1 := H.enter F hL1 (l := [("header_values", .str x t)]) (by
    intro p hp
    simp only [List.mem_cons, List.not_mem_nil, or_false] at hp
    subst hp
    rfl)
  have kF : Sub h h₁ := F.keep
  show wpAny _ _ (execs _ (shwEnv h.objs.size)) _ (fun e s' => wpAny _ (A.deeper (shwEnv h.objs.size)) (leaving (shwEnv h.objs.size) e) _ _ s') _
  clear F
  generalize h.objs.size = L1 at H1 hL1 ⊢
  have hh1 : (A.deeper (shwEnv L1)).handled = none := hh
  have hfr1 : (A.deeper (shwEnv L1)).frames = some [shwEnv L1, lenv] := Around.frames_deeper hfr
  refine wpAny_execs_cons ?_
  refine wpAny_Assert_new hh1 ?_
  refine wpAny_isTrue_Not ?_
  refine isTrue_plain ?_
  refine Call_ ?_
  refine ldB G H1.kh (by simp) boot_isi ?_
  refine PyProof.Rows.callWith_builtin1 ?_
  refine args_cons ?_
  refine ldS H1 (by rfl) ?_
  refine args_cons ?_
  refine ldB G H1.kh (by simp) boot_str ?_
  refine args_nil ?_
  refine IsiPair.str_str (s := up s h₁ tk1) ?_
  refine wpAny_truthy_bool ?_
  simp only [Bool.not_true, Bool.false_eq_true, if_false]
  intro h2 e hx
  obtain ⟨ob, tp, he, hcls, hd⟩ := hx.there
  have k2 : Sub h h2 := kF.trans hx.keeps
  obtain ⟨m, n1, n2⟩ := H.loc
  obtain ⟨m', n1', n2'⟩ := H1.loc
  have hen : h.get? e = none := sub_none kF hx.new
  have kp : Kp0 h L h2 := ⟨fun b o _ x => k2 _ _ x, Heap.UpToSlots.of_keeps k2, by obtain ⟨o, es, ep, q1, q2, q3⟩ := n1; exact ⟨o, q1, fun vs q => by rw [q2] at q; cases q⟩⟩
  have fl : h2.FunFrames nil [shwEnv L1, lenv] := Heap.FunFrames.cons (L := L1) (by rw [show (shwEnv L1).scope.kind = .function from rfl]; decide) rfl (n1'.keeps hx.keeps) (nil_get _) (Heap.FunFrames.cons hkd hf (n1.keeps k2) (nil_get _) trivial)
  have hfs : ∀ b ∈ [shwEnv L1, lenv].filterMap (·.frame), b = L ∨ h.get? b = none := by
    intro b hb
    simp only [List.filterMap_cons, hf, List.filterMap_nil] at hb
    rcases List.mem_cons.mp hb with rfl | hb
    · exact .inr hL1
    · rw [List.mem_singleton.mp hb]; exact .inl rfl
  unfold leaving
  refine wpAny_bind (note1 (s := up s h2 tk1) (h0 := h) (L0 := L) hfr1 fl rfl hfs kp he hcls hd rfl rfl hen fun h3 T kp3 hT3 x3 fl3 => ?_)
  refine flight (s := up s h3 tk1) (h0 := h) (L0 := L) (l := [lenv]) fl3.2.2 kp3 x3 hT3 fun h4 kp4 x4 fl4 => ?_
  exact hE e T h4 tk1 hen hT3 kp4 x4 fl4
end Mine
end

-- Ga3
section
open PySem PyProof.Rows PySem.W PySem.Builtin PySem.Builtin.Re
set_option Elab.async false
set_option linter.all false
set_option maxRecDepth 100000
namespace Mine
variable {prog : Program} {w : World} {A : Around} {E : Value → Shared → Prop} {s : Shared} {h h' : Heap} {tk : Nat} {K base : Heap} {hid : Addr → Obj → Prop} {L : Addr} {mg mb : Str → Option Value} {env : Env} {S : St}
abbrev lwEnv (L a : Addr) (cd : Value) : Env := envOfC "law" (fScope (fnAt 12)) L a cd
def lwSt (i : Nat) : Stmt := (fBody (fnAt 12)).getD i (.Pass default)
def lwB (i : Nat) : Stmt := (forBody (lwSt 4)).getD i (.Pass default)
/-- the reading of lists of words -/
theorem rd_cat {ts : List (List Nat)} : (((ts.map shw1).flatten).map wsD) = (((ts.map shw1).flatten).map wsD) := rfl
/-- split_header_words(arg) -/
theorem shwE {arg : Expr} {p pos : Pos} {fa : Addr} {cd : Value} {ts : List (List Nat)} {Q : Value → Shared → Prop} (hroom : A.depth + 20 < recursionLimit) (hc : Calm A K) (G : Gnd mg mb K) (H : Hk K base hid L S h)
    (harg : ∀ Q' : Value → Shared → Prop, (∀ hv K' h' tk', Sub K K' → Hk K' base hid L S h' → Txts K' hv ts → Q' (.ref hv) (up s h' tk')) → wpAny (model prog w) A (eval arg (lwEnv L fa cd)) Q' E (up s h tk))
    (ht : ∀ t ∈ ts, Al t ∧ t.length ≤ 16) (hl : ts.length ≤ 3)
    (hQ : ∀ r Kp K' h' tk', Sub K Kp → Sub Kp K' → Hk K' base hid L S h' → (∃ as, Reads K' (.ref r) (.list (((ts.map shw1).flatten).map wsD)) as ∧ ∀ a ∈ as, Kp.get? a = none ∧ Pl K' a) → Q (.ref r) (up s h' tk'))
    (he : starEach [arg] (lwEnv L fa cd) = (false, eval arg (lwEnv L fa cd)) :: starEach [] (lwEnv L fa cd) := by rfl) :
    wpAny (model prog w) A (eval (.Call (.Name (Str.ofString "split_header_words") p) [arg] [] pos) (lwEnv L fa cd)) Q E (up s h tk) := by
  refine Call_ ?_
  refine ldGE G H.kh G.nSh ?_
  obtain ⟨o, pm, doc, c1, c2⟩ := id G.cSh
  refine callWith_def c2 ?_ he
  refine args_cons (he := he) (harg _ fun hv K1 h1 tk1 s1 H1 T1 => ?_)
  refine args_nil ⟨H1.kh _ _ (s1 _ _ c1), ?_⟩
  exact shw_ok hroom (hc.sub s1) (G.sub s1) H1 T1 ht hl fun r K2 h2 tk2 s2 H2 r2 => hQ r K1 K2 h2 tk2 s1 s2 H2 r2
theorem txts3 {K : Heap} {a : Addr} {x y z : List Nat} {t1 t2 t3 : Tok} (g : K.get? a = some { cls := .type "list", data := .seq #[.str (T x) t1, .str (T y) t2, .str (T z) t3] }) : Txts K a [x, y, z] := by
  refine ⟨_, _, g, rfl, fun i t e => ?_⟩
  match i, e with
  | 0, e => cases e; exact ⟨_, rfl⟩
  | 1, e => cases e; exact ⟨_, rfl⟩
  | 2, e => cases e; exact ⟨_, rfl⟩
  | i + 3, e => simp at e
theorem txts1 {K : Heap} {a : Addr} {x : List Nat} {t1 : Tok} (g : K.get? a = some { cls := .type "list", data := .seq #[.str (T x) t1] }) : Txts K a [x] := by
  refine ⟨_, _, g, rfl, fun i t e => ?_⟩
  match i, e with
  | 0, e => cases e; exact ⟨_, rfl⟩
  | i + 1, e => simp at e
theorem txts_rd3 {K : Heap} {a : Addr} {x y z : List Nat} (t : Txts K a [x, y, z]) : Rd K (.ref a) (.list [.str (T x), .str (T y), .str (T z)]) := by
  obtain ⟨vs, n, g, hz, hi⟩ := t
  obtain ⟨t1, e1⟩ := hi 0 x rfl
  obtain ⟨t2, e2⟩ := hi 1 y rfl
  obtain ⟨t3, e3⟩ := hi 2 z rfl
  have e : vs.toList = [.str (T x) t1, .str (T y) t2, .str (T z) t3] := by
    apply List.ext_getElem?
    intro i
    rw [Array.getElem?_toList]
    match i with
    | 0 => exact e1
    | 1 => exact e2
    | 2 => exact e3
    | i + 3 => rw [Array.getElem?_eq_none_iff.mpr (by rw [hz]; simp)]; rfl
  exact ⟨_, Reads.list g rfl rfl (by rw [e]; exact ReadsAll.cons (Reads.str _ _) (ReadsAll.cons (Reads.str _ _) (ReadsAll.cons (Reads.str _ _) ReadsAll.nil)))⟩
theorem readsAll_at {K : Heap} : ∀ {vs : List Value} {ds : List PyData} {as : List Addr}, ReadsAll K vs ds as → ∀ {i : Nat} {d : PyData}, ds[i]? = some d → ∃ v, vs[i]? = some v ∧ Rd K v d
  | _, [], _, r, i, d, e => by simp at e
  | vs, d0 :: ds, as, r, i, d, e => by
    cases r with
    | @cons v' vs' _ _ as1 as2 q p =>
      cases i with
      | zero => simp at e; subst e; exact ⟨_, rfl, _, q⟩
      | succ i => simp at e; exact readsAll_at p e
/-- an item of a list -/
theorem itemU {value slice : Expr} {r : Addr} {ds : List PyData} {i : Nat} {ti : Tok} {d : PyData} {Q : Value → Shared → Prop} (hs0 : Sub K h) (rd : Rd K (.ref r) (.list ds)) (hi : i ≤ 1000) (hd : ds[i]? = some d)
    (hQ : ∀ v, Rd K v d → Q v (up s h tk))
    (hs : subscripted slice false (.ref r) (.int i ti) = operate [.ref r, .int i ti] (getItem (.ref r) (.int i ti)) := by with_unfolding_all rfl) :
    wpAny (model prog w) A (subscriptTail value slice (.ref r) (.int i ti)) Q E (up s h tk) := by
  obtain ⟨as, rd⟩ := rd
  cases rd with
  | @list a o vs n _ as2 h1 h2 h3 h4 =>
    obtain ⟨v, hv, hr⟩ := readsAll_at h4 hd
    have hl : (up s h tk).heap.IsList r vs := ⟨o, hs0 _ _ h1, h2, n, h3⟩
    refine tail_any (s := up s h tk) hl.typeIs slot_list_getitem.lookup (wpAny_getItem_list hl (Int.natCast_nonneg i) (by omega) (x := v) ?_ (hQ v hr)) hs
    rw [Int.toNat_natCast, ← Array.getElem?_toList]; exact hv
theorem itemLast {value slice : Expr} {r : Addr} {ds : List PyData} {ti : Tok} {d : PyData} {Q : Value → Shared → Prop} (hs0 : Sub K h) (rd : Rd K (.ref r) (.list ds)) (hd : ds.getLast? = some d)
    (hQ : ∀ v, Rd K v d → Q v (up s h tk))
    (hs : subscripted slice false (.ref r) (.int (-1) ti) = operate [.ref r, .int (-1) ti] (getItem (.ref r) (.int (-1) ti)) := by with_unfolding_all rfl) :
    wpAny (model prog w) A (subscriptTail value slice (.ref r) (.int (-1) ti)) Q E (up s h tk) := by
  obtain ⟨as, rd⟩ := rd
  cases rd with
  | @list a o vs n _ as2 h1 h2 h3 h4 =>
    have hz := ReadsAll_len h4
    rw [List.getLast?_eq_getElem?] at hd
    have hpos : 0 < ds.length := by
      rcases Nat.lt_or_ge 0 ds.length with q | q
      · exact q
      · have : ds = [] := List.length_eq_zero_iff.mp (by omega)
        subst this; simp at hd
    obtain ⟨v, hv, hr⟩ := readsAll_at h4 hd
    have hl : (up s h tk).heap.IsList r vs := ⟨o, hs0 _ _ h1, h2, n, h3⟩
    simp only [Array.length_toList] at hz
    refine tail_any (s := up s h tk) hl.typeIs slot_list_getitem.lookup (wpAny_getItem_list_neg hl (by omega) (by omega) (by omega) (x := v) ?_ (hQ v hr)) hs
    rw [← Array.getElem?_toList]
    rw [show ((-1 : Int) + (vs.size : Int)).toNat = ds.length - 1 by omega]; exact hv
theorem rd_bool {v : Value} {b : Bool} (r : Rd K v (.bool b)) : v = .bool b := by obtain ⟨as, r⟩ := r; cases r; rfl
theorem lay_str {t : List Nat} (ht : Al t) : (PyData.str (T t)).canLay0 = true := by simp [PyData.canLay0, strOk_T ht]
end Mine
end

-- Ga4
section
open PySem PyProof.Rows PySem.W PySem.Builtin PySem.Builtin.Re
set_option Elab.async false
set_option linter.all false
set_option maxRecDepth 100000
namespace Mine
variable {prog : Program} {w : World} {A : Around} {E : Value → Shared → Prop} {s : Shared} {h h' : Heap} {tk : Nat} {K base : Heap} {hid : Addr → Obj → Prop} {L : Addr} {mg mb : Str → Option Value} {env : Env}
def Lt0 (t : List Nat) (tt : Tok) (rt rh : Addr) : List (String × Value) := [("text", .str (T t) tt), ("told", .ref rt), ("hopes", .ref rh)]
def Lt1 (t : List Nat) (tt : Tok) (rt rh : Addr) (i : Nat) (tp : Tok) : List (String × Value) := ("place", .int i tp) :: Lt0 t tt rt rh
def Lt2 (t : List Nat) (tt : Tok) (rt rh : Addr) (i : Nat) (tp t1 t2 : Tok) : List (String × Value) := ("first", .str (T (t.take i)) t1) :: ("second", .str (T (t.drop i)) t2) :: Lt1 t tt rt rh i tp
def Lt3 (t : List Nat) (tt : Tok) (rt rh : Addr) (i : Nat) (tp t1 t2 : Tok) (hv : Addr) : List (String × Value) := ("texts", .ref hv) :: Lt2 t tt rt rh i tp t1 t2
def Lt4 (t : List Nat) (tt : Tok) (rt rh : Addr) (i : Nat) (tp t1 t2 : Tok) (hv r q : Addr) : List (String × Value) := ("apart", .ref r) :: ("one", .ref q) :: Lt3 t tt rt rh i tp t1 t2 hv
theorem b0_ok {t : List Nat} {tt tp : Tok} {rt rh fa : Addr} {cd : Value} {i : Nat} (hh : A.handled = none) (H : Hk K nil hid L { loc := Lt1 t tt rt rh i tp } h) (hlen : t.length ≤ 100) :
    wpAny (model prog w) A (exec (lwB 0) (lwEnv L fa cd)) (fun f s' => f = .next ∧ ∃ h' tk' t1 t2, s' = up s h' tk' ∧ Hk K nil hid L { loc := Lt2 t tt rt rh i tp t1 t2 } h') E (up s h tk) := by
  refine Assign_Tuple_swapped (names := [Str.ofString "first", Str.ofString "second"]) ?_
  refine Tuple_ (args_cons ?_)
  refine Subscript_ (ldE H (by rfl) ?_)
  refine wpAny_Slice (wpAny_evalPart_none (wpAny_evalPart_some (ldE H (by rfl) (wpAny_evalPart_none ?_))))
  refine tailU_ns (fun h1 t1 tk1 k1 => ?_) (by rw [T_size]; omega)
  rw [slice_to]
  have H1 := H.mono k1
  refine args_cons ?_
  refine Subscript_ (ldE H1 (by rfl) ?_)
  refine wpAny_Slice (wpAny_evalPart_some (ldE H1 (by rfl) (wpAny_evalPart_none (wpAny_evalPart_none ?_))))
  refine tailU_sn (fun h2 t2 tk2 k2 => ?_) (by rw [T_size]; omega)
  rw [slice_from]
  have H2 := H1.mono k2
  refine args_nil ?_
  refine tup_un (.inl hh) hh H2 (by rfl) (by simp) fun h6 H6 => ?_
  refine wpAny_assignInOrder_more (bindName_ (stE H6 fun h7 tk7 H7 => ?_))
  refine wpAny_assignInOrder_more (bindName_ (stE H7 fun h8 tk8 H8 => ?_))
  refine wpAny_pure ⟨rfl, h8, tk8, t1, t2, rfl, ?_⟩
  exact H8.slimR (l := Lt2 t tt rt rh i tp t1 t2) (by kernel_rfl)
theorem textsE {t : List Nat} {t1 t2 : Tok} {fa : Addr} {cd : Value} {i : Nat} {S : St} {p1 p2 p3 p4 : Pos} {k : Nat} {Q : Value → Shared → Prop} (H : Hk K base hid L S h)
    (l1 : lk S.loc "first" = some (.str (T (t.take i)) t1)) (l2 : lk S.loc "second" = some (.str (T (t.drop i)) t2))
    (hQ : ∀ K' h' tk' hv, Sub K K' → Hk K' base hid L S h' → Txts K' hv [t.take i, [], t.drop i] → Q (.ref hv) (up s h' tk')) :
    wpAny (model prog w) A (eval (.List [.Name (Str.ofString "first") p1, .Constant (.str (Str.ofString "")) k p2, .Name (Str.ofString "second") p3] p4) (lwEnv L fa cd)) Q E (up s h tk) := by
  refine List_ (args_cons (ldE H l1 (args_cons (strU fun t3 tk3 => args_cons (ldE H l2 (args_nil ?_))))))
  rw [empty_T]
  exact newL0 H (by simp) fun K' h' a k1 _ H' _ g => hQ K' h' _ a k1 H' (txts3 g)
theorem b1_ok {t : List Nat} {tt tp t1 t2 : Tok} {rt rh fa : Addr} {cd : Value} {i : Nat} (H : Hk K nil hid L { loc := Lt2 t tt rt rh i tp t1 t2 } h) :
    wpAny (model prog w) A (exec (lwB 1) (lwEnv L fa cd)) (fun f s' => f = .next ∧ ∃ K' h' tk' hv, s' = up s h' tk' ∧ Sub K K' ∧ Hk K' nil hid L { loc := Lt3 t tt rt rh i tp t1 t2 hv } h' ∧ Txts K' hv [t.take i, [], t.drop i]) E (up s h tk) := by
  refine wpAny_Assign_Name ?_
  refine textsE (t := t) (i := i) (t1 := t1) (t2 := t2) H (by rfl) (by rfl) fun K1 h1 tk1 hv s1 H1 T1 => ?_
  refine stE H1 fun h2 tk2 H2 => ?_
  refine ⟨rfl, K1, h2, tk2, hv, rfl, s1, ?_, T1⟩
  exact H2.slimR (l := Lt3 t tt rt rh i tp t1 t2 hv) (by kernel_rfl)
def LsR (K Kp : Heap) (r : Addr) (ts : List (List Nat)) : Prop := ∃ as, Reads K (.ref r) (.list (((ts.map shw1).flatten).map wsD)) as ∧ ∀ a ∈ as, Kp.get? a = none ∧ Pl K a
theorem LsR.sub {K K' Kp : Heap} {r ts} (x : LsR K Kp r ts) (k : Sub K K') : LsR K' Kp r ts := let ⟨as, r, q⟩ := x; ⟨as, Reads.keeps k r, fun a ha => ⟨(q a ha).1, let ⟨vs, n, e⟩ := (q a ha).2; ⟨vs, n, k _ _ e⟩⟩⟩
theorem commas_T : Str.ofString ",," = T [44, 44] := by decide +kernel
theorem ts_ok3 {t : List Nat} (ht : Al t) (hlen : t.length ≤ 12) (i : Nat) : ∀ u ∈ [t.take i, [], t.drop i], Al u ∧ u.length ≤ 16 := by
  intro u hu
  simp only [List.mem_cons, List.not_mem_nil, or_false] at hu
  rcases hu with rfl | rfl | rfl
  · exact ⟨fun c hc => ht c (List.mem_of_mem_take hc), by rw [List.length_take]; omega⟩
  · exact ⟨Al.nil, by simp⟩
  · exact ⟨fun c hc => ht c (List.mem_of_mem_drop hc), by rw [List.length_drop]; omega⟩
theorem ts_ok1 {t : List Nat} (ht : Al t) (hlen : t.length ≤ 12) (i : Nat) : ∀ u ∈ [t.take i ++ 44 :: 44 :: t.drop i], Al u ∧ u.length ≤ 16 := by
  intro u hu
  rw [List.mem_singleton.mp hu]
  refine ⟨fun c hc => ?_, ?_⟩
  · rcases List.mem_append.mp hc with hc | hc
    · exact ht c (List.mem_of_mem_take hc)
    · rcases List.mem_cons.mp hc with rfl | hc
      · decide
      · rcases List.mem_cons.mp hc with rfl | hc
        · decide
        · exact ht c (List.mem_of_mem_drop hc)
  · rw [List.length_append, List.length_cons, List.length_cons, List.length_take, List.length_drop]; omega
set_option maxHeartbeats 4000000 in
theorem b2_ok {t : List Nat} {tt tp t1 t2 : Tok} {rt rh fa hv : Addr} {cd : Value} {i : Nat} (hroom : A.depth + 20 < recursionLimit) (hh : A.handled = none) (G : Gnd mg mb K) (ht : Al t) (hlen : t.length ≤ 12)
    (H : Hk K nil hid L { loc := Lt3 t tt rt rh i tp t1 t2 hv } h) (X : Txts K hv [t.take i, [], t.drop i]) :
    wpAny (model prog w) A (exec (lwB 2) (lwEnv L fa cd)) (fun f s' => f = .next ∧ ∃ Kp K' h' tk' r q, s' = up s h' tk' ∧ Sub K Kp ∧ Sub Kp K' ∧ Hk K' nil hid L { loc := Lt4 t tt rt rh i tp t1 t2 hv r q } h' ∧ LsR K' Kp r [t.take i, [], t.drop i] ∧ LsR K' Kp q [t.take i ++ 44 :: 44 :: t.drop i]) E (up s h tk) := by
  refine Assign_Tuple_swapped (names := [Str.ofString "apart", Str.ofString "one"]) ?_
  refine Tuple_ (args_cons ?_)
  refine shwE (ts := [t.take i, [], t.drop i]) hroom (.inl hh) G H (fun Q' hQ' => ldE H (by rfl) (hQ' hv K h _ (Sub.refl K) H X)) (ts_ok3 ht hlen i) (by simp) fun r Kp1 K1 h1 tk1 sa sb H1 r1 => ?_
  refine args_cons ?_
  refine shwE (ts := [t.take i ++ 44 :: 44 :: t.drop i]) hroom (.inl hh) (G.sub (sa.trans sb)) H1 (fun Q' hQ' => ?_) (ts_ok1 ht hlen i) (by simp) fun q Kp2 K2 h2 tk2 sc sd H2 q2 => ?_
  · refine List_ (args_cons ?_)
    refine wpAny_BinOp (wpAny_BinOp (ldE H1 (by rfl) (strU fun t3 tk3 => ?_)))
    rw [commas_T]
    refine addU (fun t4 tk4 => ?_) (by rw [T_size, T_size, List.length_take]; simp only [List.length_cons, List.length_nil]; omega)
    rw [T_append]
    refine ldE H1 (by rfl) ?_
    refine addU (fun t5 tk5 => ?_) (by rw [T_size, T_size, List.length_append, List.length_take, List.length_drop]; simp only [List.length_cons, List.length_nil]; omega)
    rw [T_append]
    refine args_nil ?_
    refine newL0 H1 (by simp) fun K3 h3 a3 s3 _ H3 _ g3 => ?_
    refine hQ' a3 K3 h3 _ s3 H3 ?_
    have e : t.take i ++ [44, 44] ++ t.drop i = t.take i ++ 44 :: 44 :: t.drop i := by simp
    rw [e] at g3
    exact txts1 g3
  refine args_nil ?_
  refine tup_un (.inl hh) hh H2 (by rfl) (by simp) fun h6 H6 => ?_
  refine wpAny_assignInOrder_more (bindName_ (stE H6 fun h7 tk7 H7 => ?_))
  refine wpAny_assignInOrder_more (bindName_ (stE H7 fun h8 tk8 H8 => ?_))
  refine wpAny_pure ⟨rfl, Kp1, K2, h8, tk8, r, q, rfl, sa, sb.trans (sc.trans sd), ?_, LsR.sub r1 (sc.trans sd), ?_⟩
  · exact H8.slimR (l := Lt4 t tt rt rh i tp t1 t2 hv r q) (by kernel_rfl)
  · obtain ⟨as, q2, q3⟩ := q2
    exact ⟨as, q2, fun a ha => ⟨sub_none (sb.trans sc) (q3 a ha).1, (q3 a ha).2⟩⟩
theorem dec_and {P : Prop} [Decidable P] {x y : Bool} (h : P ↔ ¬ (x = true ∧ y = true)) : (decide P == (x && y)) = false := by
  by_cases hp : P
  · rw [decide_eq_true hp]
    have := h.mp hp
    cases x <;> cases y <;> simp_all
  · rw [decide_eq_false hp]
    cases x <;> cases y <;> simp_all
/-- what is told by then -/
theorem tds_get {t : List Nat} {n i : Nat} (hi : i ≤ n) : ((tds t n).map lsD)[i]? = some (lsD (out (wkAt t i))) := by
  unfold tds
  rw [List.map_map, List.getElem?_map, List.getElem?_range (by omega)]; rfl
theorem hps_get {t : List Nat} {n i : Nat} (hi : i ≤ n) : ((hps t n).map PyData.bool)[i]? = some (.bool (wkAt t i).kept.isSome) := by
  unfold hps
  rw [List.map_map, List.getElem?_map, List.getElem?_range (by omega)]; rfl
theorem shw1_nil : shw1 [] = [] := by rfl
theorem al_shw {t : List Nat} (ht : Al t) : AlLs (shw1 t) := by rw [shw1_walk]; exact (Ok.walk Ok.init ht).out
theorem flat3 (a b : List Nat) : (([a, [], b] : List (List Nat)).map shw1).flatten = shw1 a ++ shw1 b := by
  simp [shw1_nil]
theorem flat1 (a : List Nat) : (([a] : List (List Nat)).map shw1).flatten = shw1 a := by simp
set_option maxHeartbeats 4000000 in
theorem b3_ok {t : List Nat} {tt tp t1 t2 : Tok} {rt rh fa hv r q : Addr} {cd : Value} {i : Nat} (hroom : A.depth + 20 < recursionLimit) (hu : A.units + 40 < cLine) (hh : A.handled = none) (G : Gnd mg mb K) (ht : Al t) (hlen : t.length ≤ 12) (hi : i ≤ t.length)
    (H : Hk K nil hid L { loc := Lt4 t tt rt rh i tp t1 t2 hv r q } h) (X : Txts K hv [t.take i, [], t.drop i]) (rT : Rd K (.ref rt) (.list ((tds t t.length).map lsD))) :
    wpAny (model prog w) A (exec (lwB 3) (lwEnv L fa cd)) (fun f s' => f = .next ∧ ∃ K' h' tk', s' = up s h' tk' ∧ Sub K K' ∧ Hk K' nil hid L { loc := Lt4 t tt rt rh i tp t1 t2 hv r q } h') E (up s h tk) := by
  have h3 := ts_ok3 ht hlen i
  have hA1 : Al (t.take i) := (h3 _ (.head _)).1
  have hA2 : Al (t.drop i) := (h3 (t.drop i) (by simp)).1
  refine wpAny_If (wpAny_isTrue_BoolOp (wpAny_allTrue_Or_cons ?_))
  refine wpAny_isTrue_Compare1 ?_
  refine shwE (ts := [t.take i]) hroom (.inl hh) G H (fun Q' hQ' => ?_) (fun u hu => h3 u (by rw [List.mem_singleton.mp hu]; exact .head _)) (by simp) fun r1 Kp1 K1 h1 tk1 sa sb H1 q1 => ?_
  · refine List_ (args_cons (ldE H (by rfl) (args_nil ?_)))
    exact newL0 H (by simp) fun K3 h3 a3 s3 _ H3 _ g3 => hQ' a3 K3 h3 _ s3 H3 (txts1 g3)
  refine Subscript_ (ldE H1 (by rfl) (ldE H1 (by rfl) ?_))
  refine itemU (K := K1) (i := i) H1.kh (rT.sub (sa.trans sb)) (by omega) (tds_get hi) fun v rv => ?_
  obtain ⟨as1, q1, _⟩ := q1
  obtain ⟨asv, rv⟩ := rv
  rw [flat1] at q1
  refine SeqAt.compareNe_reads (s := up s h1 tk1) (Reads.keeps H1.kh q1) (Reads.keeps H1.kh rv) (lay_ls (al_shw hA1)) (lay_ls (Ok.at ht i).out) (by have := dep_ls (shw1 (t.take i)); omega) ?_
  rw [show lsD (out (wkAt t i)) = .list ((out (wkAt t i)).map wsD) from rfl, eqv_ls]
  have e1 : shw1 (t.take i) = out (wkAt t i) := shw1_walk _
  rw [decide_eq_true e1]
  refine wpAny_truthy_bool ?_
  simp only [Bool.not_true, Bool.false_eq_true, if_false]
  refine wpAny_allTrue_Or_cons ?_
  refine wpAny_isTrue_Compare1 (ldE H1 (by rfl) ?_)
  refine textsE (t := t) (i := i) (t1 := t1) (t2 := t2) H1 (by rfl) (by rfl) fun K2 h2 tk2 hw s2 H2 T2 => ?_
  obtain ⟨as2, r2⟩ := txts_rd3 (X.sub (sa.trans (sb.trans s2)))
  obtain ⟨as3, r3⟩ := txts_rd3 T2
  refine SeqAt.compareNe_reads (s := up s h2 tk2) (Reads.keeps H2.kh r2) (Reads.keeps H2.kh r3) (by simp [PyData.canLay0, PyData.canLayAll0, strOk_T hA1, strOk_T hA2, strOk_T Al.nil]) (by simp [PyData.canLay0, PyData.canLayAll0, strOk_T hA1, strOk_T hA2, strOk_T Al.nil]) (by simp [PyData.depth, PyData.depthAll]; omega) ?_
  rw [show PyData.eqv (.list [.str (T (t.take i)), .str (T []), .str (T (t.drop i))]) (.list [.str (T (t.take i)), .str (T []), .str (T (t.drop i))]) = true by simp [PyData.eqv, PyData.eqvAll]]
  refine wpAny_truthy_bool ?_
  simp only [Bool.not_true, Bool.false_eq_true, if_false]
  refine wpAny_allTrue_Or_nil ?_
  simp only [Bool.false_eq_true, if_false]
  exact wpAny_execs_nil ⟨rfl, K2, h2, tk2, rfl, sa.trans (sb.trans s2), H2⟩
set_option maxHeartbeats 4000000 in
theorem b4_ok {t : List Nat} {tt tp t1 t2 : Tok} {rt rh fa hv r q : Addr} {cd : Value} {i : Nat} (hroom : A.depth + 20 < recursionLimit) (hu : A.units + 40 < cLine) (hh : A.handled = none) (G : Gnd mg mb K) (ht : Al t) (hlen : t.length ≤ 12) (hi : i ≤ t.length) {Kp : Heap}
    (H : Hk K nil hid L { loc := Lt4 t tt rt rh i tp t1 t2 hv r q } h) (ra : LsR K Kp r [t.take i, [], t.drop i]) (ro : LsR K Kp q [t.take i ++ 44 :: 44 :: t.drop i]) (rH : Rd K (.ref rh) (.list ((hps t t.length).map .bool))) :
    wpAny (model prog w) A (exec (lwB 4) (lwEnv L fa cd)) (fun f s' => f = .next ∧ ∃ h' tk', s' = up s h' tk' ∧ Hk K nil hid L { loc := Lt4 t tt rt rh i tp t1 t2 hv r q } h') E (up s h tk) := by
  have h3 := ts_ok3 ht hlen i
  have hA1 : Al (t.take i) := (h3 _ (.head _)).1
  have hA2 : Al (t.drop i) := (h3 (t.drop i) (by simp)).1
  have hA3 := (ts_ok1 ht hlen i _ (.head _)).1
  refine wpAny_If (wpAny_isTrue_Compare1 ?_)
  refine wpAny_Compare1 (ldE H (by rfl) (ldE H (by rfl) ?_))
  obtain ⟨as1, q1, _⟩ := ra
  obtain ⟨as2, q2, _⟩ := ro
  rw [flat3] at q1
  rw [flat1] at q2
  have la : AlLs (shw1 (t.take i) ++ shw1 (t.drop i)) := fun ws hw => (List.mem_append.mp hw).elim (al_shw hA1 ws) (al_shw hA2 ws)
  refine SeqAt.compareEq_reads (s := up s h _) (Reads.keeps H.kh q1) (Reads.keeps H.kh q2) (lay_ls la) (lay_ls (al_shw hA3)) (by have := dep_ls (shw1 (t.take i) ++ shw1 (t.drop i)); omega) ?_
  rw [eqv_ls]
  have hcut := cut (t.take i) (t.drop i)
  have fin : ∀ (h4 : Heap) (tk4 : Nat) (b : Bool), Hk K nil hid L { loc := Lt4 t tt rt rh i tp t1 t2 hv r q } h4 → b = ((wkAt t i).kept.isSome && ful false (t.drop i)) →
      wpAny (model prog w) A (compareOp .Eq (.bool (decide (shw1 (t.take i) ++ shw1 (t.drop i) = shw1 (t.take i ++ 44 :: 44 :: t.drop i)))) (.bool b)) (fun v s₁ => wpAny (model prog w) A (truthy v) (fun c s₂ => if c = true then wpAny (model prog w) A (execs (ifBody (lwB 4)) (lwEnv L fa cd)) (fun f s' => f = .next ∧ ∃ h' tk', s' = up s h' tk' ∧ Hk K nil hid L { loc := Lt4 t tt rt rh i tp t1 t2 hv r q } h') E s₂ else wpAny (model prog w) A (execs [] (lwEnv L fa cd)) (fun f s' => f = .next ∧ ∃ h' tk', s' = up s h' tk' ∧ Hk K nil hid L { loc := Lt4 t tt rt rh i tp t1 t2 hv r q } h') E s₂) E s₁) E (up s h4 tk4) := by
    intro h4 tk4 b H4 hb
    refine PyProof.Rows.eq_bool ?_
    have e : (decide (shw1 (t.take i) ++ shw1 (t.drop i) = shw1 (t.take i ++ 44 :: 44 :: t.drop i)) == b) = false := by
      rw [hb]
      exact dec_and hcut
    rw [e]
    refine wpAny_truthy_bool ?_
    simp only [Bool.false_eq_true, if_false]
    exact wpAny_execs_nil ⟨rfl, h4, tk4, rfl, H4⟩
  refine wpAny_And2 ?_
  refine Subscript_ (ldE H (by rfl) (ldE H (by rfl) ?_))
  refine itemU (K := K) (i := i) H.kh rH (by omega) (hps_get hi) fun v rv => ?_
  rw [rd_bool rv]
  refine wpAny_truthy_bool ?_
  cases hk : (wkAt t i).kept.isSome with
  | false =>
    simp only [Bool.false_eq_true, if_false]
    exact fin h _ false H (by rw [hk]; rfl)
  | true =>
    simp only [if_true]
    refine Call_ ?_
    refine ldGE G H.kh G.nFu ?_
    obtain ⟨o, pm, cdu, doc, c1, c2, c3⟩ := id G.fFu
    refine callWith_def c2 ?_
    refine args_cons (ldE H (by rfl) (args_nil ⟨H.kh _ _ c1, ?_⟩))
    refine ful_ok hroom hh G H hA2 fun h5 tk5 H5 => ?_
    exact fin h5 tk5 _ H5 (by rw [hk]; rfl)
end Mine
end

-- Ga5
section
open PySem PyProof.Rows PySem.W PySem.Builtin PySem.Builtin.Re
set_option Elab.async false
set_option linter.all false
set_option maxRecDepth 100000
namespace Mine
variable {prog : Program} {w : World} {A : Around} {E : Value → Shared → Prop} {s : Shared} {h h' : Heap} {tk : Nat} {K base : Heap} {hid : Addr → Obj → Prop} {L : Addr} {mg mb : Str → Option Value} {env : Env}
def Lz (t : List Nat) (tt : Tok) (rt rh hv r : Addr) : List (String × Value) := ("texts", .ref hv) :: ("apart", .ref r) :: Lt0 t tt rt rh
theorem bl_len : bootBuiltins (Str.ofString "len") = some (.builtin "len") := by kernel_rfl
set_option maxHeartbeats 4000000 in
theorem body_ok {t : List Nat} {tt tp : Tok} {rt rh fa : Addr} {cd : Value} {i : Nat} (hroom : A.depth + 20 < recursionLimit) (hu : A.units + 40 < cLine) (hh : A.handled = none) (G : Gnd mg mb K) (ht : Al t) (hlen : t.length ≤ 12) (hi : i ≤ t.length)
    (H : Hk K nil hid L { loc := Lt1 t tt rt rh i tp } h) (rT : Rd K (.ref rt) (.list ((tds t t.length).map lsD))) (rH : Rd K (.ref rh) (.list ((hps t t.length).map .bool))) :
    wpAny (model prog w) A (execs (forBody (lwSt 4)) (lwEnv L fa cd)) (fun f s' => f = .next ∧ ∃ Kp K' h' tk' hv r, s' = up s h' tk' ∧ Sub K Kp ∧ Sub Kp K' ∧ Hk K' nil hid L { loc := Lz t tt rt rh hv r } h' ∧ Txts Kp hv [t.take i, [], t.drop i] ∧ LsR K' Kp r [t.take i, [], t.drop i]) E (up s h tk) := by
  refine wpAny_execs_cons ?_
  refine wpAny_mono (b0_ok hh H (by omega)) ?_ (fun _ _ x => x)
  rintro f _ ⟨rfl, h1, tk1, t1, t2, rfl, H1⟩
  simp only
  refine wpAny_execs_cons ?_
  refine wpAny_mono (b1_ok H1) ?_ (fun _ _ x => x)
  rintro f _ ⟨rfl, K2, h2, tk2, hv, rfl, s2, H2, T2⟩
  simp only
  refine wpAny_execs_cons ?_
  refine wpAny_mono (b2_ok hroom hh (G.sub s2) ht hlen H2 T2) ?_ (fun _ _ x => x)
  rintro f _ ⟨rfl, Kp, K3, h3, tk3, r, q, rfl, s3, s4, H3, r3, q3⟩
  simp only
  refine wpAny_execs_cons ?_
  have s23 := s2.trans (s3.trans s4)
  refine wpAny_mono (b3_ok hroom hu hh (G.sub s23) ht hlen hi H3 (T2.sub (s3.trans s4)) (rT.sub s23)) ?_ (fun _ _ x => x)
  rintro f _ ⟨rfl, K5, h5, tk5, rfl, s5, H5⟩
  simp only
  refine wpAny_execs_cons ?_
  refine wpAny_mono (b4_ok hroom hu hh (G.sub (s23.trans s5)) ht hlen hi H5 (r3.sub s5) (q3.sub s5) (rH.sub (s23.trans s5))) ?_ (fun _ _ x => x)
  rintro f _ ⟨rfl, h6, tk6, rfl, H6⟩
  simp only
  refine wpAny_execs_nil ⟨rfl, Kp, K5, h6, tk6, hv, r, rfl, s2.trans s3, s4.trans s5, ?_, T2.sub s3, r3.sub s5⟩
  exact H6.slimR (l := Lz t tt rt rh hv r) (by kernel_rfl)
theorem rSize (n : Nat) : Builtin.Range.rangeSize 0 ((n : Int) + 1) 1 = ((n + 1 : Nat) : Int) := by
  unfold Builtin.Range.rangeSize
  simp only [show (1 : Int) > 0 by decide, if_true]
  rw [if_pos (by omega), Int.ediv_one]; omega
theorem rSmall (n : Nat) (h : n ≤ 1000) : Builtin.Range.small 0 ((n : Int) + 1) 1 = true := by
  unfold Builtin.Range.small
  rw [rSize]
  unfold Builtin.Range.rangeFitsLong
  simp
  omega
set_option maxHeartbeats 4000000 in
theorem lfor_ok {t : List Nat} {tt : Tok} {rt rh fa : Addr} {cd : Value} (hroom : A.depth + 20 < recursionLimit) (hu : A.units + 40 < cLine) (hh : A.handled = none) (G : Gnd mg mb K) (ht : Al t) (hlen : t.length ≤ 12)
    (H : Hk K nil hid L { loc := Lt0 t tt rt rh } h) (rT : Rd K (.ref rt) (.list ((tds t t.length).map lsD))) (rH : Rd K (.ref rh) (.list ((hps t t.length).map .bool))) :
    wpAny (model prog w) A (exec (lwSt 4) (lwEnv L fa cd)) (fun f s' => f = .next ∧ ∃ Kp K' h' tk' hv r, s' = up s h' tk' ∧ Sub K Kp ∧ Sub Kp K' ∧ Hk K' nil hid L { loc := Lz t tt rt rh hv r } h' ∧ Txts Kp hv [t, [], []] ∧ LsR K' Kp r [t, [], []]) E (up s h tk) := by
  refine wpAny_For ?_
  refine Call_ ?_
  refine ldBE G H.kh (by simp) boot_range ?_
  refine PyProof.Rows.callWith_type1 ?_
  refine args_cons (wpAny_BinOp ?_)
  refine Call_ ?_
  refine ldBE G H.kh (by simp) bl_len ?_
  refine PyProof.Rows.callWith_builtin1 ?_
  refine args_cons (ldE H (by rfl) (args_nil ?_))
  have elen : (T t).length = t.length := T_size t
  refine PySem.P.len_str (s := up s h tk) (by rw [elen]; omega) ?_
  rw [elen]
  show wpAny _ _ _ _ _ (up s h (tk + 1 + 1))
  refine intU fun t1 tk1 => ?_
  refine add_int (s := up s h tk1) ?_
  show wpAny _ _ _ _ _ (up s h (tk1 + 1))
  refine args_nil ?_
  refine call_range_1 (s := up s h (tk1 + 1)) ?_
  show wpAny _ _ (pyIter (.ref h.objs.size)) _ _ (up s (h.push { cls := .type "range", data := .fields #[.int 0 (tk1 + 1), .int ((t.length : Int) + 1) tk1, .int 1 (tk1 + 1 + 1)] }) (tk1 + 1 + 1 + 1))
  have H1 := H.mono (Sub.push h { cls := .type "range", data := .fields #[.int 0 (tk1 + 1), .int ((t.length : Int) + 1) tk1, .int 1 (tk1 + 1 + 1)] })
  have hr : IsRange (h.push { cls := .type "range", data := .fields #[.int 0 (tk1 + 1), .int ((t.length : Int) + 1) tk1, .int 1 (tk1 + 1 + 1)] }) h.objs.size 0 ((t.length : Int) + 1) 1 (tk1 + 1) tk1 (tk1 + 1 + 1) := Heap.get?_push_size _ rfl
  generalize h.push { cls := .type "range", data := .fields #[.int 0 (tk1 + 1), .int ((t.length : Int) + 1) tk1, .int 1 (tk1 + 1 + 1)] } = h1 at H1 hr ⊢
  generalize tk1 + 1 + 1 + 1 = tk2
  refine wpAny_pyIter_range (s := up s h1 tk2) hr (rSmall _ (by omega)) ?_
  rw [rSize]
  show codeAny _ _ (.forLoop _ (.ref h1.objs.size) _ _ _) _ (up s (h1.push { cls := .type "range_iterator", data := .fields #[rawInt 0, rawInt ((t.length + 1 : Nat) : Int), rawInt 1] }) tk2)
  obtain ⟨o1, o2, o3, o4, o5⟩ := H1.out (get_size_none h1)
  have H2 := H1.mono (Sub.push h1 { cls := .type "range_iterator", data := .fields #[rawInt 0, rawInt ((t.length + 1 : Nat) : Int), rawInt 1] })
  have hit0 : IsRangeIter (h1.push { cls := .type "range_iterator", data := .fields #[rawInt 0, rawInt ((t.length + 1 : Nat) : Int), rawInt 1] }) h1.objs.size (0 + ((0 : Nat) : Int) * 1) (((t.length + 1 : Nat) : Int) - ((0 : Nat) : Int)) 1 := Heap.get?_push_size _ rfl
  generalize h1.objs.size = it at o1 o2 o3 o4 o5 hit0 ⊢
  generalize h1.push { cls := .type "range_iterator", data := .fields #[rawInt 0, rawInt ((t.length + 1 : Nat) : Int), rawInt 1] } = h2 at H2 hit0 ⊢
  have W := Walks.range (prog := prog) (w := w) hh it 0 1 (t.length + 1)
  obtain ⟨I, hI⟩ : ∃ I : Nat → Shared → Prop, I = (fun m s' => ∃ K' h' tk' i, s' = up s h' tk' ∧ Sub K K' ∧ i + m = t.length + 1 ∧ IsRangeIter h' it (0 + (i : Int) * 1) (((t.length + 1 : Nat) : Int) - (i : Int)) 1 ∧ K'.get? it = none ∧ Hk K' nil hid L { loc := Lt0 t tt rt rh } h' ∧
    (i = 0 ∨ ∃ j Kp hv r, i = j + 1 ∧ Sub K Kp ∧ Sub Kp K' ∧ Hk K' nil hid L { loc := Lz t tt rt rh hv r } h' ∧ Txts Kp hv [t.take j, [], t.drop j] ∧ LsR K' Kp r [t.take j, [], t.drop j])) := ⟨_, rfl⟩
  refine codeAny_forLoop I ?_ (t.length + 1) (by rw [hI]; exact ⟨K, h2, tk2, 0, rfl, Sub.refl K, by omega, hit0, o1, H2, .inl rfl⟩)
  intro m s' hm
  rw [hI] at hm
  obtain ⟨K', h', tk', i, rfl, ks, him, hit, hK, H', hcase⟩ := hm
  by_cases hil : i < t.length + 1
  · refine W.item i (up s h' tk') _ _ hil hit fun v h3 tk3 ⟨tv, hv⟩ hit3 hk => ?_
    subst hv
    have e1 : (0 + (i : Int) * 1) = ((i : Nat) : Int) := by omega
    rw [e1]
    have H3 := H'.turn hK o2 o3 o4 o5 (fun b o hb x => hk b o (by simpa using hb) x)
    show wpAny _ _ _ _ _ (up s h3 tk3)
    refine wpAny_assign_Name ?_
    have Hh := H3.hide hit3 hK o2 o3 o4
    refine stE Hh fun h5 tk5 H5 => ?_
    have H6 := H5.slimR (l := Lt1 t tt rt rh i tv) (by kernel_rfl)
    refine wpAny_mono (body_ok hroom hu hh (G.sub ks) ht hlen (by omega) H6 (rT.sub ks) (rH.sub ks)) ?_ (fun _ _ x => x)
    rintro fl s' ⟨rfl, Kp, K7, h7, tk7, hw, r, rfl, s7, s8, H7, T7, R7⟩
    obtain ⟨H8, q1, q2, _⟩ := H7.unhide
    refine ⟨m - 1, by omega, ?_⟩
    rw [hI]
    refine ⟨K7, h7, tk7, i + 1, rfl, ks.trans (s7.trans s8), by omega, q1, q2, ?_, .inr ⟨i, Kp, hw, r, rfl, ks.trans s7, s8, H8, T7, R7⟩⟩
    exact H8.slimR (l := Lt0 t tt rt rh) (by kernel_rfl)
  · have ei : i = t.length + 1 := by omega
    subst ei
    refine W.done (up s h' tk') _ _ hit fun h3 tk3 hk => ?_
    simp only
    refine wpAny_execs_nil ?_
    rcases hcase with h0 | ⟨j, Kp, hv, r, hj, sa, sb, Hz, T0, R0⟩
    · omega
    · have ej : j = t.length := by omega
      subst ej
      rw [List.take_length, List.drop_length] at T0 R0
      have H3 := Hz.turn hK o2 o3 o4 o5 (fun b o hb x => hk b o (by simpa using hb) x)
      exact ⟨rfl, Kp, K', h3, tk3, hv, r, rfl, sa, sb, H3, T0, R0⟩
end Mine
end

-- Ga6
section
open PySem PyProof.Rows PySem.W PySem.Builtin PySem.Builtin.Re
set_option Elab.async false
set_option linter.all false
set_option maxRecDepth 100000
namespace Mine
/-- no list of words is long -/
structure Bw (n : Nat) (σ : Wk) : Prop where
  l : ∀ ws ∈ σ.lists, ws.length ≤ n
  w : σ.words.length ≤ n
  k : ∀ k, σ.kept = some k → (∀ ws ∈ k.bef, ws.length ≤ n) ∧ k.ahd.length ≤ n
theorem Bw.up {n : Nat} {σ : Wk} (o : Bw n σ) : Bw (n + 1) σ := ⟨fun ws hw => by have := o.l ws hw; omega, by have := o.w; omega, fun k hk => ⟨fun ws hw => by have := (o.k k hk).1 ws hw; omega, by have := (o.k k hk).2; omega⟩⟩
theorem Bw.pend {n : Nat} {σ : Wk} (o : Bw n σ) : (pend σ).length ≤ n + 1 := by
  have := o.w
  unfold Mine.pend
  split
  · simp only [List.length_append, List.length_singleton]; omega
  · omega
theorem Bw.wk1 {n : Nat} {σ : Wk} (o : Bw n σ) (c : Nat) : Bw (n + 1) (wk1 σ c) := by
  unfold Mine.wk1
  cases hk : σ.kept with
  | none => exact o.up
  | some k =>
    obtain ⟨k1, k2⟩ := o.up.k k hk
    have k2' := (o.k k hk).2
    simp only
    split
    · exact ⟨k1, by simp only [List.length_append, List.length_singleton]; omega, fun k hk => by cases hk⟩
    · split
      · exact ⟨o.up.l, o.up.w, fun k hk => by cases hk⟩
      · split
        · exact ⟨o.up.l, o.up.w, fun k hk => by cases hk; exact ⟨k1, k2⟩⟩
        · exact ⟨o.up.l, o.up.w, fun k hk => by cases hk; exact ⟨k1, k2⟩⟩
theorem Bw.wk2 {n : Nat} {σ : Wk} (o : Bw n σ) (c : Nat) (cl : Bool) : Bw (n + 1) (wk2 σ c cl) := by
  have hp := o.pend
  have u := o.up
  unfold Mine.wk2
  split
  · exact ⟨u.l, u.w, fun k hk => by cases hk; exact ⟨u.l, u.w⟩⟩
  split
  · exact ⟨u.l, u.w, u.k⟩
  split
  · exact ⟨u.l, u.w, u.k⟩
  split
  · exact ⟨u.l, u.w, u.k⟩
  split
  · exact ⟨u.l, u.w, u.k⟩
  split
  · split
    · refine ⟨fun ws hw => ?_, by simp, u.k⟩
      rcases List.mem_append.mp hw with hw | hw
      · exact u.l ws hw
      · rw [List.mem_singleton.mp hw]; exact hp
    split
    · exact ⟨u.l, hp, u.k⟩
    · exact ⟨u.l, hp, u.k⟩
  · exact u
theorem Bw.step {n : Nat} {σ : Wk} (o : Bw n σ) (c : Nat) : Bw (n + 2) (wstep σ c) := (o.wk1 c).wk2 c _
theorem Bw.walk : ∀ (t : List Nat) {n : Nat} {σ : Wk}, Bw n σ → Bw (n + 2 * t.length) (walk σ t)
  | [], n, σ, o => o
  | c :: t, n, σ, o => by
    rw [walk_cons]
    have := Bw.walk t (o.step c)
    rw [List.length_cons, show n + 2 * (t.length + 1) = n + 2 + 2 * t.length by omega]
    exact this
theorem Bw.init : Bw 0 {} := ⟨fun ws hw => (by cases hw), by simp, fun k hk => (by cases hk)⟩
theorem shw_word_len {t : List Nat} {ws : Ws} (h : ws ∈ shw1 t) : ws.length ≤ 2 * t.length + 1 := by
  rw [shw1_walk] at h
  have o : Bw (0 + 2 * t.length) (Mine.walk {} t) := Bw.walk t Bw.init
  unfold out at h
  rcases List.mem_append.mp (List.mem_filter.mp h).1 with h | h
  · have := o.l ws h; omega
  · rw [List.mem_singleton.mp h]; have := o.pend; omega
theorem shw_len {t : List Nat} : (shw1 t).length ≤ 2 * t.length + 1 := by
  rw [shw1_walk]
  have := Bd.at t t.length (Nat.le_refl _)
  unfold wkAt at this
  rw [List.take_length] at this
  unfold out
  refine Nat.le_trans (List.length_filter_le _ _) ?_
  rw [List.length_append, List.length_singleton]
  have := this.l
  omega
variable {prog : Program} {w : World} {A : Around} {E : Value → Shared → Prop} {s : Shared} {h h' : Heap} {tk : Nat} {K base : Heap} {hid : Addr → Obj → Prop} {L : Addr} {mg mb : Str → Option Value} {env : Env}
theorem CodeRec_rest {K : Heap} {c : Value} {nm : Str} {as : List Addr} (x : K.CodeRec c nm) (pl : ∀ a ∈ as, Pl K a) : (rest K fun b => b ∉ as).CodeRec c nm := by
  obtain ⟨c, o, vs, t, e, g, hd, r⟩ := x
  refine ⟨c, o, vs, t, e, rest_get.mpr ⟨g, fun ha => ?_⟩, hd, r⟩
  obtain ⟨us, n, q⟩ := pl c ha
  rw [g] at q; cases q; cases hd
/-- the lists `as` are no longer frozen -/
theorem Hk.thaw {l : List (String × Value)} {Kp : Heap} {as : List Addr} (H : Hk K nil hid L { loc := l } h) (kp : Sub Kp K) (hn : ∀ a ∈ as, Kp.get? a = none ∧ Pl K a) :
    ∃ K', Sub Kp K' ∧ Hk K' nil hid L { loc := l } h ∧ ∀ a ∈ as, K'.get? a = none ∧ a ≠ L ∧ a ≠ tab ∧ (∀ o, ¬ hid a o) := by
  obtain ⟨bk, kh, kL, kt, Lt, loc, fac, kob, mu, nd, hd, tb⟩ := H
  have sb : Sub (rest K fun b => b ∉ as) K := fun b o x => (rest_get.mp x).1
  refine ⟨rest K fun b => b ∉ as, fun b o x => rest_get.mpr ⟨kp _ _ x, fun hb => ?_⟩, ⟨nil_sub _, sb.trans kh, sub_none sb kL, sub_none sb kt, Lt, loc, fun p hp => (by cases hp), fun p hp => (by cases hp), fun p hp => (by cases hp), nd, fun b o x => ?_, ?_⟩, fun a ha => ⟨rest_none fun q => q ha, ?_, ?_, fun o x => ?_⟩⟩
  · rw [(hn b hb).1] at x; cases x
  · obtain ⟨q1, q2, q3, q4, q5⟩ := hd b o x
    exact ⟨q1, sub_none sb q2, q3, q4, q5⟩
  · obtain ⟨ps, t1, t2⟩ := tb
    exact ⟨ps, t1, t2.imp id fun ⟨c, e, q⟩ => ⟨c, e, CodeRec_rest q fun a ha => (hn a ha).2⟩⟩
  · rintro rfl; obtain ⟨vs, n, e⟩ := (hn a ha).2; rw [kL] at e; cases e
  · rintro rfl; obtain ⟨vs, n, e⟩ := (hn _ ha).2; rw [kt] at e; cases e
  · have := (hd a o x).2.1; obtain ⟨vs, n, e⟩ := (hn a ha).2; rw [this] at e; cases e
def hideP (hid P : Addr → Obj → Prop) : Addr → Obj → Prop := fun b o => hid b o ∨ P b o
theorem Hk.hideP {S : St} {P : Addr → Obj → Prop} (H : Hk K base hid L S h) (hP : ∀ b o, P b o → h.get? b = some o ∧ K.get? b = none ∧ b ≠ L ∧ b ≠ tab ∧ b ∉ S.mu.map (·.1)) : Hk K base (hideP hid P) L S h := by
  obtain ⟨bk, kh, kL, kt, Lt, loc, fac, kob, mu, nd, hd, tb⟩ := H
  exact ⟨bk, kh, kL, kt, Lt, loc, fac, kob, mu, nd, fun b o x => x.elim (hd b o) (hP b o), tb⟩
theorem Hk.unhideP {S : St} {P : Addr → Obj → Prop} (H : Hk K base (Mine.hideP hid P) L S h) : Hk K base hid L S h ∧ ∀ b o, P b o → h.get? b = some o := by
  obtain ⟨bk, kh, kL, kt, Lt, loc, fac, kob, mu, nd, hd, tb⟩ := H
  exact ⟨⟨bk, kh, kL, kt, Lt, loc, fac, kob, mu, nd, fun b o x => hd b o (.inl x), tb⟩, fun b o x => (hd b o (.inr x)).1⟩
theorem ls_struct {r : Addr} {wss : List Ws} {as : List Addr} (rd : Reads K (.ref r) (.list (wss.map wsD)) as) (pl : ∀ a ∈ as, Pl K a) :
    r ∈ as ∧ ∃ vs n, K.get? r = some { cls := .type "list", data := .seq vs n } ∧ vs.size = wss.length ∧ ∀ (i : Nat) (v : Value), vs[i]? = some v → ∃ a ws us m, v = .ref a ∧ a ∈ as ∧ a ≠ r ∧ ws ∈ wss ∧ K.get? a = some { cls := .type "list", data := .seq us m } ∧ us.size = ws.length := by
  cases rd with
  | @list a o vs n _ as2 h1 h2 h3 h4 =>
    refine ⟨.head _, vs, n, ?_, by have := ReadsAll_len h4; simpa using this, fun i v hv => ?_⟩
    · obtain ⟨vs', n', e⟩ := pl r (.head _)
      rw [h1] at e; cases e
      cases h3; exact h1
    · have all : ∀ {vl : List Value} {wss : List Ws} {bs : List Addr}, ReadsAll K vl (wss.map wsD) bs → (∀ b ∈ bs, Pl K b) → ∀ {i : Nat}, vl[i]? = some v → ∃ a ws us m, v = .ref a ∧ a ∈ bs ∧ ws ∈ wss ∧ K.get? a = some { cls := .type "list", data := .seq us m } ∧ us.size = ws.length ∧ ∃ cs, ReadsAll K us.toList (ws.map prD) cs := by
        intro vl wss
        induction wss generalizing vl with
        | nil => intro bs q pb i e; cases q; simp at e
        | cons ws wss ih =>
          intro bs q pb i e
          rw [List.map_cons] at q
          cases q with
          | @cons v' vs' _ _ b1 b2 q p =>
            cases i with
            | zero =>
              simp at e; subst e
              unfold wsD at q
              cases q with
              | @list a' o' us m _ cs g1 g2 g3 g4 =>
                obtain ⟨us', m', e⟩ := pb a' (List.mem_append_left _ (.head _))
                rw [g1] at e; cases e
                cases g3
                exact ⟨a', ws, us, m, rfl, List.mem_append_left _ (.head _), .head _, g1, by have := ReadsAll_len g4; simpa using this, cs, g4⟩
            | succ i =>
              simp at e
              obtain ⟨a, ws', us, m, e1, e2, e3, e4⟩ := ih p (fun b hb => pb b (List.mem_append_right _ hb)) e
              exact ⟨a, ws', us, m, e1, List.mem_append_right _ e2, .tail _ e3, e4⟩
      rw [← Array.getElem?_toList] at hv
      obtain ⟨a, ws, us, m, rfl, e2, e3, e4, e5, cs, e6⟩ := all h4 (fun b hb => pl b (.tail _ hb)) hv
      refine ⟨a, ws, us, m, rfl, .tail _ e2, ?_, e3, e4, e5⟩
      intro har
      rw [har] at e4 hv
      have ho : o = _ := Option.some.inj (h1.symm.trans e4)
      have huv : vs = us := by rw [ho] at h3; injection h3 with h3; exact h3.symm
      rw [← huv] at e6
      -- the items of r would be tuples
      have hz := ReadsAll_len e6
      have hlt : i < vs.toList.length := by
        rcases Nat.lt_or_ge i vs.toList.length with q | q
        · exact q
        · rw [List.getElem?_eq_none_iff.mpr q] at hv; cases hv
      obtain ⟨d, hd⟩ : ∃ d, (ws.map prD)[i]? = some d := ⟨_, List.getElem?_eq_getElem (by omega)⟩
      obtain ⟨v', hv', ⟨bs, rv⟩⟩ := readsAll_at e6 hd
      rw [hv] at hv'; cases hv'
      rw [List.getElem?_map] at hd
      obtain ⟨p, hp, rfl⟩ := Option.map_eq_some_iff.mp hd
      unfold prD at rv
      cases rv with
      | tuple g1 g2 g3 g4 =>
        have := Option.some.inj (g1.symm.trans e4)
        rw [this] at g2
        injection g2 with g2
        exact absurd g2 (by decide)
end Mine
end

-- Ga7
section
open PySem PyProof.Rows PySem.W PySem.Builtin PySem.Builtin.Re
set_option Elab.async false
set_option linter.all false
set_option maxRecDepth 100000
namespace Mine
variable {prog : Program} {w : World} {A : Around} {E : Value → Shared → Prop} {s : Shared} {h h' : Heap} {tk : Nat} {K base : Heap} {hid : Addr → Obj → Prop} {L : Addr} {mg mb : Str → Option Value} {env : Env}
def PlAt (h : Heap) (a : Addr) (b : Nat) : Prop := ∃ us m, h.get? a = some { cls := .type "list", data := .seq us m } ∧ us.size ≤ b
set_option maxHeartbeats 4000000 in
theorem lwords_ok {t : List Nat} {tt : Tok} {rt rh hv r fa : Addr} {cd : Value} {Kp : Heap} (hh : A.handled = none) (H : Hk K nil hid L { loc := Lz t tt rt rh hv r } h) (kp : Sub Kp K) (R : LsR K Kp r [t, [], []]) (hlen : t.length ≤ 12) :
    wpAny (model prog w) A (exec (lwSt 5) (lwEnv L fa cd)) (fun f s' => f = .next ∧ ∃ K' h' tk', s' = up s h' tk' ∧ Sub Kp K' ∧ Hk K' nil hid L { loc := Lz t tt rt rh hv r } h' ∧ (K'.get? r = none ∧ r ≠ L ∧ r ≠ tab ∧ (∀ o, ¬ hid r o)) ∧ PlAt h' r 100) E (up s h tk) := by
  obtain ⟨as, rd, pl⟩ := R
  have ef : (([t, [], []] : List (List Nat)).map shw1).flatten = shw1 t := by simp [shw1_nil]
  rw [ef] at rd
  obtain ⟨hr, vs, n, hvs, hsz, hit⟩ := ls_struct rd fun a ha => (pl a ha).2
  obtain ⟨K1, k1, H1, fr⟩ := H.thaw kp pl
  have hgr := H.kh _ _ hvs
  have hsz2 : vs.size ≤ 25 := by have := shw_len (t := t); omega
  have pl0 : ∀ a ∈ as, a ≠ r → (∃ i : Nat, vs[i]? = some (Value.ref a)) → PlAt h a 25 := by
    rintro a ha hne ⟨i, e1⟩
    obtain ⟨a', ws, us, m, e2, e3, e4, e5, e6, e7⟩ := hit i _ e1
    cases e2
    exact ⟨us, m, H.kh _ _ e6, by have := shw_word_len e5; omega⟩
  refine wpAny_For ?_
  refine ldE H1 (by rfl) ?_
  refine wpAny_pyIter_list (s := up s h tk) (l := r) (items := vs) ⟨_, hgr, rfl, _, rfl⟩ ?_
  show codeAny _ _ _ _ (up s (h.push { cls := .type "list_iterator", data := .fields #[.ref r, .int 0 0] }) tk)
  obtain ⟨o1, o2, o3, o4, o5⟩ := H1.out (get_size_none h)
  have ks := Sub.push h { cls := .type "list_iterator", data := .fields #[.ref r, .int 0 0] }
  have H2 := H1.mono ks
  have hit0 : (h.push { cls := .type "list_iterator", data := .fields #[.ref r, .int 0 0] }).IsListIter h.objs.size r 0 := ⟨_, Heap.get?_push_size _ rfl, rfl, rfl⟩
  have hItr : h.objs.size ≠ r := fun e => by rw [← e, get_size_none] at hgr; cases hgr
  have hIta : ∀ a ∈ as, h.objs.size ≠ a := fun a ha e => by
    obtain ⟨us, m, q⟩ := (pl a ha).2
    have := H.kh _ _ q
    rw [← e, get_size_none] at this; cases this
  show codeAny _ _ (.forLoop _ (.ref h.objs.size) _ _ _) _ _
  generalize h.objs.size = it at *
  have hgr2 := ks _ _ hgr
  have pl2 : ∀ a ∈ as, a ≠ r → (∃ i : Nat, vs[i]? = some (Value.ref a)) → PlAt (h.push { cls := .type "list_iterator", data := .fields #[.ref r, .int 0 0] }) a 25 := fun a ha hne q => by
    obtain ⟨us, m, e1, e2⟩ := pl0 a ha hne q; exact ⟨us, m, ks _ _ e1, e2⟩
  generalize h.push { cls := .type "list_iterator", data := .fields #[.ref r, .int 0 0] } = h2 at *
  obtain ⟨I, hI⟩ : ∃ I : Nat → Shared → Prop, I = (fun m s' => ∃ h' tk' i, s' = up s h' tk' ∧ Hk K1 nil hid L { loc := Lz t tt rt rh hv r } h' ∧ h'.get? r = some { cls := .type "list", data := .seq vs n } ∧ (∀ a ∈ as, a ≠ r → (∃ i : Nat, vs[i]? = some (Value.ref a)) → PlAt h' a (25 + i)) ∧ h'.IsListIter it r i ∧ i + m = vs.size) := ⟨_, rfl⟩
  refine codeAny_forLoop I ?_ vs.size (by rw [hI]; exact ⟨h2, tk, 0, rfl, H2, hgr2, pl2, hit0, by omega⟩)
  intro m s' hm
  rw [hI] at hm
  obtain ⟨h', tk', i, rfl, H', hg', pl', hit', him⟩ := hm
  have hls : h'.IsList r vs := ⟨_, hg', rfl, _, rfl⟩
  cases hx : vs[i]? with
  | none =>
    refine next_list_end (s := up s h' tk') (B := K1) (.inl hh) H'.kh hit' o1 hls hx fun h3 e3 => ?_
    simp only
    refine wpAny_execs_nil ⟨rfl, K1, h3, tk', rfl, k1, H'.turn o1 o2 o3 o4 o5 e3, fr r hr, vs, n, e3 _ _ (Ne.symm hItr) hg', by omega⟩
  | some v =>
    obtain ⟨a, ws, us0, m0, rfl, ha, har, hws, _, _⟩ := hit i v hx
    have hil : i < vs.size := by
      rcases Nat.lt_or_ge i vs.size with q | q
      · exact q
      · rw [Array.getElem?_eq_none_iff.mpr q] at hx; cases hx
    refine wpAny_pyNext_list_item (s := up s h' tk') hit' hls hx fun h3 hit3 sb => ?_
    show wpAny _ _ _ _ _ (up s h3 tk')
    have H3 := H'.turn o1 o2 o3 o4 o5 sb.extBut
    have hg3 : h3.get? r = _ := sb.extBut _ _ (Ne.symm hItr) hg'
    have pl3 : ∀ a ∈ as, a ≠ r → (∃ i : Nat, vs[i]? = some (Value.ref a)) → PlAt h3 a (25 + i) := fun a ha hne q => by
      obtain ⟨us, m, e1, e2⟩ := pl' a ha hne q; exact ⟨us, m, sb.extBut _ _ (Ne.symm (hIta a ha)) e1, e2⟩
    refine wpAny_assign_Name ?_
    obtain ⟨oi, io1, io2, io3⟩ := id hit3
    have Hh := H3.hideP (P := fun b o => (b = it ∧ o = oi) ∨ (b ∈ as ∧ h3.get? b = some o)) (by
      rintro b o (⟨rfl, rfl⟩ | ⟨hb, q⟩)
      · exact ⟨io1, o1, o2, o3, o4⟩
      · obtain ⟨f1, f2, f3, f4⟩ := fr b hb
        exact ⟨q, f1, f2, f3, by simp⟩)
    refine stE Hh fun h4 tk4 H4' => ?_
    obtain ⟨H4, q4⟩ := H4'.unhideP
    have keep : ∀ b o, b ∈ as → h3.get? b = some o → h4.get? b = some o := fun b o hb q => q4 b o (.inr ⟨hb, q⟩)
    have hit4 : h4.IsListIter it r i.succ := ⟨oi, q4 _ _ (.inl ⟨rfl, rfl⟩), io2, io3⟩
    refine wpAny_execs_cons ?_
    refine wpAny_Expr_any ?_
    refine wpAny_Call_append (by rfl) (by rfl) (by rfl) (by rfl) ?_
    refine ldE H4 (by rfl) ?_
    obtain ⟨us, m1, e1, e2⟩ := pl3 a ha har ⟨i, hx⟩
    have e4 := keep _ _ ha e1
    refine ⟨a, us, rfl, ⟨_, m1, e4, rfl, rfl, rfl⟩, ?_⟩
    refine ldE H4 (by rfl) ?_
    refine wpAny_list_append_plain (s := up s h4 tk4) ⟨m1, e4⟩ (fun h5 p5 sb5 => ?_) (by rw [sizeLine_eq]; omega)
    obtain ⟨f1, f2, f3, f4⟩ := fr a ha
    have H5 := H4.turn f1 f2 f3 (by simp) f4 sb5.extBut
    simp only
    refine wpAny_execs_nil ⟨m - 1, by omega, ?_⟩
    rw [hI]
    refine ⟨h5, tk4, i + 1, rfl, ?_, sb5.extBut _ _ (Ne.symm har) (keep _ _ hr hg3), fun b hb hbr hq => ?_, hit4.extBut sb5.extBut (hIta a ha), by omega⟩
    · exact H5.slimR (l := Lz t tt rt rh hv r) (by kernel_rfl)
    · by_cases hba : b = a
      · subst hba
        obtain ⟨n5, q5⟩ := p5
        exact ⟨_, n5, q5, by rw [Array.size_push]; omega⟩
      · obtain ⟨us', m', q1, q2⟩ := pl3 b hb hbr hq
        exact ⟨us', m', sb5.extBut _ _ hba (keep _ _ hb q1), by omega⟩
theorem lapp_ok {t : List Nat} {tt : Tok} {rt rh hv r fa : Addr} {cd : Value} (H : Hk K nil hid L { loc := Lz t tt rt rh hv r } h) (fr : K.get? r = none ∧ r ≠ L ∧ r ≠ tab ∧ (∀ o, ¬ hid r o)) (pl : PlAt h r 100) :
    wpAny (model prog w) A (exec (lwSt 6) (lwEnv L fa cd)) (fun f s' => f = .next ∧ ∃ h' tk', s' = up s h' tk' ∧ Hk K nil hid L { loc := Lz t tt rt rh hv r } h') E (up s h tk) := by
  refine wpAny_Expr_any ?_
  refine wpAny_Call_append (by rfl) (by rfl) (by rfl) (by rfl) ?_
  refine ldE H (by rfl) ?_
  obtain ⟨us, m1, e1, e2⟩ := pl
  refine ⟨r, us, rfl, ⟨_, m1, e1, rfl, rfl, rfl⟩, ?_⟩
  refine ldE H (by rfl) ?_
  refine wpAny_list_append_plain (s := up s h tk) ⟨m1, e1⟩ (fun h5 p5 sb5 => ?_) (by rw [sizeLine_eq]; omega)
  obtain ⟨f1, f2, f3, f4⟩ := fr
  exact ⟨rfl, h5, tk, rfl, H.turn f1 f2 f3 (by simp) f4 sb5.extBut⟩
end Mine
end

-- Ga8
section
open PySem PyProof.Rows PySem.W PySem.Builtin PySem.Builtin.Re
set_option Elab.async false
set_option linter.all false
set_option maxRecDepth 100000
namespace Mine
variable {prog : Program} {w : World} {A : Around} {E : Value → Shared → Prop} {s : Shared} {h h' : Heap} {tk : Nat} {K base : Heap} {hid : Addr → Obj → Prop} {L : Addr} {mg mb : Str → Option Value} {env : Env}
theorem bl_ae : bootBuiltins (Str.ofString "AssertionError") = some (.type "AssertionError") := by kernel_rfl
theorem ae_exc : isSubtype (.type "AssertionError") (.type "BaseException") = pure true := isSubtype_of_subB (by decide +kernel)
theorem ae_nt : isSubtype (.type ((Manifest.find? "AssertionError").elim "type" fun y => y.metatype)) (.type "tuple") = pure false := isSubtype_of_subB (by decide +kernel)
theorem ae_self : isSubtype (.type "AssertionError") (.type "AssertionError") = pure true := isSubtype_of_subB (by decide +kernel)
theorem tds_last (t : List Nat) : ((tds t t.length).map lsD).getLast? = some (lsD (shw1 t)) := by
  rw [List.getLast?_eq_getElem?]
  have e : ((tds t t.length).map lsD).length - 1 = t.length := by simp [tds]
  rw [e, tds_get (Nat.le_refl _)]
  unfold wkAt
  rw [List.take_length, ← shw1_walk]
set_option maxHeartbeats 4000000 in
theorem try_ok {t : List Nat} {tt : Tok} {rt rh hv r fa : Addr} {cd : Value} (hroom : A.depth + 20 < recursionLimit) (hu : A.units + 40 < cLine) (hh : A.handled = none) (hfr : A.frames = some [lwEnv L fa cd]) (G : Gnd mg mb K) (ht : Al t) (hlen : t.length ≤ 12)
    (H : Hk K nil hid L { loc := Lz t tt rt rh hv r } h) (X : Txts K hv [t, [], []]) (rT : Rd K (.ref rt) (.list ((tds t t.length).map lsD))) :
    wpAny (model prog w) A (exec (lwSt 7) (lwEnv L fa cd)) (fun f s' => f = .ret (.bool true) ∧ ∃ K' h' tk', s' = up s h' tk' ∧ Sub K K' ∧ Hk K' nil hid L { loc := Lz t tt rt rh hv r } h') E (up s h tk) := by
  refine wpAny_Try_except ?_
  refine wpAny_execs_cons ?_
  refine wpAny_Expr_any ?_
  refine Call_ ?_
  refine ldGE G H.kh G.nSh ?_
  obtain ⟨o, pm, doc, c1, c2⟩ := id G.cSh
  refine callWith_def c2 ?_
  refine args_cons (ldE H (by rfl) (args_nil ⟨H.kh _ _ c1, ?_⟩))
  have hkd : (lwEnv L fa cd).scope.kind ≠ .module := by rw [show (lwEnv L fa cd).scope.kind = .function from rfl]; decide
  have hfs : ∀ b ∈ [lwEnv L fa cd].filterMap (·.frame), b = L ∨ h.get? b = none := fun b hb => .inl (List.mem_singleton.mp hb)
  refine shw_str hroom hh hfr rfl hkd G H fun e T h2 tk2 hen hT kp x fl => ?_
  refine note2 (s := up s h2 tk2) (h0 := h) (L0 := L) hfr fl rfl hfs kp x hT hen fun h3 T3 kp3 hT3 x3 fl3 => ?_
  refine flight (s := up s h3 tk2) (h0 := h) (L0 := L) fl3 kp3 x3 hT3 fun h4 kp4 x4 fl4 => ?_
  show wpAny _ _ _ _ _ (up s h4 tk2)
  refine wpAny_handleBy_builtin (X := "AssertionError") (T := "AssertionError") (b := true) ae_exc ae_nt ae_self ?_
  have H4 := H.raised kp4
  refine ldBE G H4.kh (by simp) bl_ae ?_
  refine ⟨rfl, ?_, ?_⟩
  · obtain ⟨oe, vs, oT, ts, he, hc, _⟩ := x4; exact ⟨oe, he, hc⟩
  simp only [if_true]
  refine flight (s := up s h4 tk2) (h0 := h) (L0 := L) fl4 kp4 x4 hT3 fun h5 kp5 x5 fl5 => ?_
  show wpAny _ _ _ _ _ (up s h5 tk2)
  have H5 := H.raised kp5
  obtain ⟨oe, vs, oT, ts, he, hc, hd, he1, he2, _⟩ := x5
  obtain ⟨f1, f2, f3, f4, f5⟩ := H.out hen
  obtain ⟨K6, s6, g6, H6⟩ := H5.addObj he f2 f3 f4 f5
  have hc6 : Calm (A.mark (some (.ref e))) K6 := .inr ⟨e, oe, vs, rfl, g6, hd, he2⟩
  refine wpAny_execs_cons ?_
  refine wpAny_Return_some ?_
  refine wpAny_Compare1 ?_
  refine shwE (ts := [t, [], []]) (A := A.mark (some (.ref e))) hroom hc6 (G.sub s6) H6 (fun Q' hQ' => ldE H6 (by rfl) (hQ' hv K6 h5 _ (Sub.refl K6) H6 (X.sub s6))) (fun u hu => ?_) (by simp) fun q Kp K7 h7 tk7 sa sb H7 q7 => ?_
  · simp only [List.mem_cons, List.not_mem_nil, or_false] at hu
    rcases hu with rfl | rfl | rfl
    · exact ⟨ht, by omega⟩
    · exact ⟨Al.nil, by simp⟩
    · exact ⟨Al.nil, by simp⟩
  obtain ⟨as7, q7, _⟩ := q7
  have ef : (([t, [], []] : List (List Nat)).map shw1).flatten = shw1 t := by simp [shw1_nil]
  rw [ef] at q7
  have s67 : Sub K K7 := s6.trans (sa.trans sb)
  refine Subscript_ (ldE H7 (by rfl) (wpAny_UnaryOp (intU fun t8 tk8 => PySem.P.neg_int (s := up s h7 tk8) ?_)))
  show wpAny _ _ _ _ _ (up s h7 (tk8 + 1))
  refine itemLast (K := K7) H7.kh (rT.sub s67) (tds_last t) fun v rv => ?_
  obtain ⟨asv, rv⟩ := rv
  refine SeqAt.compareEq_reads (s := up s h7 (tk8 + 1)) (Reads.keeps H7.kh q7) (Reads.keeps H7.kh rv) (lay_ls (al_shw ht)) (lay_ls (al_shw ht)) (by have := dep_ls (shw1 t); show A.units + _ < _; omega) ?_
  rw [show lsD (shw1 t) = .list ((shw1 t).map wsD) from rfl, eqv_ls, decide_eq_true rfl]
  exact ⟨rfl, K7, h7, tk8 + 1, rfl, s67, H7⟩
end Mine
end

-- Ga9
section
open PySem PyProof.Rows PySem.W PySem.Builtin PySem.Builtin.Re
set_option Elab.async false
set_option linter.all false
set_option maxRecDepth 100000
namespace Mine
variable {prog : Program} {w : World} {A : Around} {E : Value → Shared → Prop} {s : Shared} {h h' : Heap} {tk : Nat} {K base : Heap} {hid : Addr → Obj → Prop} {L : Addr} {mg mb : Str → Option Value} {env : Env}
def menuL : List Nat := [97, 66, 47, 61, 34, 92, 59, 44, 32, 10, 61, 34]
def ownL : List Nat := [47, 61, 34, 66, 44, 97, 61, 34, 92, 34]
theorem menu_T : Str.ofString "aB/=\"\\;, \n=\"" = T menuL := by decide +kernel
theorem own_T : Str.ofString "/=\"B,a=\"\\\"" = T ownL := by decide +kernel
def menuAt (z : Int) : Nat := menuL.getD (z.fmod 12).toNat 0
def textOf (ns : List Int) : List Nat := (ns.take 12).map menuAt ++ ownL.drop ns.length
theorem menu_al : ∀ k, k < 12 → menuL.getD k 0 ∈ al := by decide +kernel
theorem own_al : ∀ c ∈ ownL, c ∈ al := by decide +kernel
theorem fmod_lt (z : Int) : 0 ≤ z.fmod 12 ∧ z.fmod 12 < 12 := ⟨Int.fmod_nonneg_of_pos _ (by decide), Int.fmod_lt_of_pos _ (by decide)⟩
theorem menuAt_al (z : Int) : menuAt z ∈ al := menu_al _ (by have := fmod_lt z; omega)
theorem textOf_al (ns : List Int) : Al (textOf ns) := fun c hc => by
  rcases List.mem_append.mp hc with hc | hc
  · obtain ⟨z, _, rfl⟩ := List.mem_map.mp hc; exact menuAt_al z
  · exact own_al c (List.mem_of_mem_drop hc)
theorem textOf_len (ns : List Int) : (textOf ns).length ≤ 12 := by
  unfold textOf
  rw [List.length_append, List.length_map, List.length_take, List.length_drop]
  have : ownL.length = 10 := rfl
  omega
theorem item_menu : ∀ k, k < 12 → Txt.item (T menuL) ((k : Nat) : Int) = T [menuL.getD k 0] := by decide +kernel
/-- the first items of a list -/
theorem sliceLU {value slice : Expr} {S : St} {l : Addr} {items : Array Value} {b : Nat} {ub : Tok} {Q : Value → Shared → Prop} (H : Hk K base hid L S h) (hl : h.IsList l items) (hz : items.size ≤ 1000)
    (hQ : ∀ K' h' a, Sub K K' → Hk K' base hid L S h' → K'.get? a = some { cls := .type "list", data := .seq (items.toList.take b).toArray } → Q (.ref a) (up s h' tk))
    (hs : subscripted slice false (.ref l) (.ref h.objs.size) = operate [.ref h.objs.size, .ref l] (getItem (.ref l) (.ref h.objs.size)) := by with_unfolding_all rfl)
    (ht : ∀ r, letTemporaryGo value (.ref l) r = pure () := by intro _; with_unfolding_all rfl) :
    wpAny (model prog w) A (subscriptTail value slice (.ref l) (.ref h.objs.size)) Q E (up s (h.push { cls := .type "slice", data := .fields #[.none, .int b ub, .none] }) tk) := by
  have k1 := Sub.push h { cls := .type "slice", data := .fields #[.none, .int b ub, .none] }
  refine subscriptTail_ops (Heap.IsList.typeIs (s := up s (h.push { cls := .type "slice", data := .fields #[.none, .int b ub, .none] }) tk) (hl.push _)) list_getitem_lookup
    (wpAny_getItem_list_slice (s := up s (h.push { cls := .type "slice", data := .fields #[.none, .int b ub, .none] }) tk) (hl.push _) (Heap.IsSliceOf.new ..) .none (.int (b : Int) ub) .none (by simp) ?_ (by rw [sizeLine_eq]; omega)) hs ht
  rw [slicePick_upto']
  have k2 := Sub.push (h.push { cls := .type "slice", data := .fields #[.none, .int b ub, .none] }) { cls := .type "list", data := .seq (items.toList.take b).toArray }
  exact hQ (grow K h ((h.push { cls := .type "slice", data := .fields #[.none, .int b ub, .none] }).push { cls := .type "list", data := .seq (items.toList.take b).toArray })) _ _ (grow_sub H.kh (k1.trans k2)) (H.grow (k1.trans k2))
    (grow_new (sub_none k1 (get_size_none _)) (Heap.get?_push_size _ rfl))
theorem n0_ok {sc fa : Addr} {cd : Value} {vs : List Value} (H : Hk K nil hid L { loc := [("script", .ref sc)] } h) (hl : K.IsList sc vs.toArray) (hz : vs.length ≤ 1000) :
    wpAny (model prog w) A (exec (lwSt 0) (lwEnv L fa cd)) (fun f s' => f = .next ∧ ∃ K' h' tk' a, s' = up s h' tk' ∧ Sub K K' ∧ Hk K' nil hid L { loc := [("numbers", .ref a)] } h' ∧ K'.get? a = some { cls := .type "list", data := .seq (vs.take 60).toArray }) E (up s h tk) := by
  refine wpAny_Assign_Name ?_
  refine Subscript_ (ldE H (by rfl) ?_)
  refine wpAny_Slice (wpAny_evalPart_none (wpAny_evalPart_some (intU fun t1 tk1 => wpAny_evalPart_none ?_)))
  obtain ⟨o, ho, hc, n, hd⟩ := hl
  refine sliceLU (b := 60) H ⟨o, H.kh _ _ ho, hc, n, hd⟩ (by simpa using hz) fun K1 h1 a s1 H1 g1 => ?_
  refine stE H1 fun h2 tk2 H2 => ?_
  refine ⟨rfl, K1, h2, tk2, a, rfl, s1, ?_, g1⟩
  exact H2.slimR (l := [("numbers", .ref a)]) (by kernel_rfl)
def noHid : Addr → Obj → Prop := fun _ _ => False
set_option maxHeartbeats 4000000 in
theorem n1_ok {na fa : Addr} {cd : Value} {oc : Obj} (hh : A.handled = none) (H : Hk K nil (hideOne noHid (L + 1) oc) L { loc := [("numbers", .ref na)] } h) (hoc : oc.data = .cell none) :
    wpAny (model prog w) A (exec (lwSt 1) (lwEnv L fa cd)) (fun f s' => f = .next ∧ ∃ K' h' tk' t1 t2, s' = up s h' tk' ∧ Sub K K' ∧ Hk K' nil noHid L { loc := [("numbers", .ref na), ("own", .str (T ownL) t2)] } h' ∧ K'.IsCell (L + 1) (some (.str (T menuL) t1))) E (up s h tk) := by
  refine Assign_Tuple ?_
  refine Tuple_ (args_cons (strU fun t1 tk1 => args_cons (strU fun t2 tk2 => args_nil ?_)))
  rw [menu_T, own_T]
  refine newT0 H (by simp) fun K1 h1 a1 s1 _ H1 _ g1 => ?_
  refine unpack_calm (s := up s h1 _) (.inl hh) H1.kh ⟨_, H1.kh _ _ g1, rfl, _, rfl⟩ (by rfl) (by rfl) fun h2 k2 => ?_
  have H2 := H1.mono k2
  show wpAny _ _ _ _ _ (up s h2 _)
  obtain ⟨H3, q1, q2, q3, q4, q5⟩ := H2.unhide
  refine wpAny_assignInOrder_more (wpAny_assign_Name (wpAny_storeName_cell (s := up s h2 tk2) (c := L + 1) (by rfl) (by rfl) (by rfl) ⟨oc, q1, hoc⟩ fun h4 ic sb => ?_))
  show wpAny _ _ _ _ _ (up s h4 tk2)
  have H4 := H3.turn q2 q3 q4 q5 (fun o x => x) sb.extBut
  obtain ⟨o4, g4, d4⟩ := ic
  obtain ⟨K5, s5, g5, H5⟩ := H4.addObj g4 q3 q4 q5 (fun o x => x)
  refine wpAny_assignInOrder_more (wpAny_assign_Name (stE H5 fun h6 tk6 H6 => ?_))
  refine wpAny_pure ⟨rfl, K5, h6, tk6, t1, t2, rfl, s1.trans s5, ?_, o4, g5, d4⟩
  exact H6.slimR (l := [("numbers", .ref na), ("own", .str (T ownL) t2)]) (by kernel_rfl)
def SgF (v y : Value) : Prop := ∃ z tz ty, v = .int z tz ∧ y = .str (T [menuAt z]) ty
theorem sg_all : ∀ {us : List Value} {zs : List Int}, IntsAre us zs → ∀ {ys : List Value}, Paired SgF us ys → ∃ l : List (Str × Tok), ys = strValues l ∧ l.map (·.1) = zs.map fun z => T [menuAt z]
  | _, _, .nil, _, .nil => ⟨[], rfl, rfl⟩
  | _, _, .cons n t r, _, .cons f p => by
    obtain ⟨z, tz, ty, e, rfl⟩ := f
    cases e
    obtain ⟨l, e1, e2⟩ := sg_all r p
    exact ⟨(T [menuAt n], ty) :: l, by rw [e1]; rfl, by simp [e2]⟩
theorem join_T : ∀ xs : List Nat, Txt.join (T []) (xs.map fun c => T [c]) = T xs := by
  intro xs
  show Builtin.Str.glued _ _ = _
  rw [StrLaws.glued_eq_join]
  induction xs with
  | nil => rfl
  | cons c r ih =>
    cases r with
    | nil => rfl
    | cons d r =>
      show T [c] ++ T [] ++ Str.join (T []) ((d :: r).map fun c => T [c]) = _
      rw [ih, T_append, T_append]; rfl
theorem joinOk_T (xs : List Nat) (h : xs.length ≤ 100) : JoinOk (T []) (xs.map fun c => T [c]) = true := by
  unfold JoinOk
  rw [Bool.not_eq_true', StrLaws.joinTotal]
  have e1 : (T []).length = 0 := T_size []
  have e2 : ((xs.map fun c => T [c]).map (·.length)).sum = xs.length := by
    clear h
    induction xs with
    | nil => rfl
    | cons c r ih =>
      have e : (T [c]).length = 1 := T_size [c]
      simp only [List.map_cons, List.sum_cons, List.length_cons, ih, e]; omega
  rw [e1, e2]
  unfold Builtin.Str.tooLong
  rw [decide_eq_false_iff_not, sizeLine_eq]; omega
def lcE : Expr := match lwSt 2 with
  | .Assign _ (.BinOp (.Call _ (x :: _) _ _) _ _ _) _ => x
  | _ => default
set_option maxHeartbeats 4000000 in
theorem lc_ok {S : St} {na fa : Addr} {cd : Value} {t1 : Tok} {vs : List Value} {ns : List Int} {Q : Value → Shared → Prop} (hh : A.handled = none) (H : Hk K nil noHid L S h) (l1 : lk S.loc "numbers" = some (.ref na)) (hc : K.IsCell (L + 1) (some (.str (T menuL) t1)))
    (hna : K.get? na = some { cls := .type "list", data := .seq vs.toArray }) (hi : IntsAre vs ns) (hz : vs.length ≤ 1000)
    (hQ : ∀ K' h' a tk' l, Sub K K' → Hk K' nil noHid L S h' → h'.IsList a (strValues l).toArray → l.map (·.1) = (ns.take 12).map (fun z => T [menuAt z]) → Q (.ref a) (up s h' tk')) :
    wpAny (model prog w) A (eval lcE (lwEnv L fa cd)) Q E (up s h tk) := by
  refine wpAny_ListComp_free (cl := [(Str.ofString "menu", L + 1)]) (fun _ => true) SgF (by rfl) (by decide) (by rfl) (by decide) (by rfl) ?_
  refine Subscript_ (ldE H l1 ?_)
  refine wpAny_Slice (wpAny_evalPart_none (wpAny_evalPart_some (intU fun t2 tk2 => wpAny_evalPart_none ?_)))
  refine sliceLU (b := 12) H ⟨_, H.kh _ _ hna, rfl, _, rfl⟩ (by simpa using hz) fun K2 h2 a s2 H2 g2 => ?_
  have gl := H2.kh _ _ g2
  have hi12 := hi.take 12
  refine wpAny_pyIter_list (s := up s h2 _) (l := a) (items := (vs.take 12).toArray) ⟨_, gl, rfl, _, rfl⟩ ?_
  have kI := Sub.push h2 { cls := .type "list_iterator", data := .fields #[.ref a, .int 0 0] }
  have hI : (h2.push { cls := .type "list_iterator", data := .fields #[.ref a, .int 0 0] }).get? h2.objs.size = some { cls := .type "list_iterator", data := .fields #[.ref a, .int 0 0] } := Heap.get?_push_size _ rfl
  have hne : a ≠ h2.objs.size := Nat.ne_of_lt (Heap.lt_size gl)
  refine ⟨h2.objs.size, _, _, _, _, _, rfl, Walks.list hh h2.objs.size a hne (vs.take 12).toArray, ?_, ⟨⟨_, hI, rfl, rfl⟩, ⟨_, kI _ _ gl, rfl, _, rfl⟩⟩, ?_, ?_, ?_⟩
  · rw [sizeLine_eq, List.size_toArray, List.length_take]; omega
  · intro b hb
    simp only [List.mem_cons, List.not_mem_nil, or_false] at hb
    rcases hb with rfl | rfl
    · exact Heap.lt_size hI
    · exact Heap.lt_size (kI _ _ gl)
  · refine ⟨?_, ?_⟩
    · intro C i v s₃ m₃ E' hC hP hns hm hkeep htk
      exact wpAny_tests_nil ⟨rfl, _, _, rfl, fun b o e => e⟩
    · intro C i v s₃ m₃ E' hC hP hp hns hm hkeep htk
      have sK : Sub K s₃.heap := fun b o x => hkeep b o (by simp only [List.mem_singleton]; exact Nat.ne_of_lt (Heap.lt_size (H2.kh _ _ (s2 _ _ x)))) (kI _ _ (H2.kh _ _ (s2 _ _ x)))
      obtain ⟨z, tz, rfl⟩ : ∃ z tz, v = .int z tz := by
        have hP' : (vs.take 12)[i]? = some v := by rw [← List.getElem?_toArray]; exact hP
        have all : ∀ {us : List Value} {zs : List Int}, IntsAre us zs → ∀ {i : Nat}, us[i]? = some v → ∃ z tz, v = .int z tz := by
          intro us zs q
          induction q with
          | nil => intro i e; simp at e
          | cons n t r ih =>
            intro i e
            cases i with
            | zero => simp at e; exact ⟨n, t, e.symm⟩
            | succ i => simp at e; exact ih e
        exact all hi12 hP'
      refine Subscript_ (wpAny_Name (wpAny_loadName_cell (c := L + 1) (by rfl) (by rfl) (by rfl) (hc.keeps sK) ?_) (by decide))
      refine wpAny_BinOp (wpAny_Name (wpAny_loadName_local (by rfl) (by rfl) hns hm ?_) (by decide))
      refine wpAny_Constant_int ?_
      refine mod_int' (by decide) ?_
      obtain ⟨f1, f2⟩ := fmod_lt z
      have ek : z.fmod 12 = (((z.fmod 12).toNat : Nat) : Int) := by omega
      have elen : (T menuL).length = 12 := T_size menuL
      refine item_str (x := T menuL) (i := z.fmod 12) ?_ (by rw [elen]; omega) (by rw [elen]; omega) (fun _ => ?_)
      · unfold fitsSsize
        rw [decide_eq_false (by omega), decide_eq_false (by omega)]; rfl
      · have eit : Txt.item (T menuL) (z.fmod 12) = T [menuAt z] := by
          have := item_menu (z.fmod 12).toNat (by omega)
          rw [← ek] at this
          exact this
        exact ⟨⟨z, tz, _, rfl, congrArg (fun q => Value.str q _) eit⟩, _, _, rfl, fun b o e => e⟩
  · intro D h' tk' ys us hD hl' hpl hlen' hP hF hk
    have hus : us = vs.take 12 := by
      apply List.ext_getElem?
      intro j
      cases hj : us[j]? with
      | some v => have := hP j v hj; rw [List.getElem?_toArray] at this; exact this.symm
      | none =>
        have := List.getElem?_eq_none_iff.mp hj
        have e : (vs.take 12).toArray.size = (vs.take 12).length := by simp
        rw [List.getElem?_eq_none_iff.mpr (by omega)]
    rw [List.filter_eq_self.mpr (fun _ _ => rfl), hus] at hF
    obtain ⟨l, e1, e2⟩ := sg_all hi12 hF
    have sh : Sub h2 h' := fun b o x => hk b o (by simp only [List.mem_singleton]; exact Nat.ne_of_lt (Heap.lt_size x)) (kI _ _ x)
    have e3 : ys = (strValues l).toArray := by rw [← e1]
    exact hQ K2 h' D tk' l s2 (H2.mono sh) (by rw [← e3]; exact hl') e2
theorem pm_join : typeOf (.builtin "str.join") = pure (.type "method_descriptor") := PySem.F.type_str_join
set_option maxHeartbeats 4000000 in
theorem n2_ok {na fa : Addr} {cd : Value} {t1 t2 : Tok} {vs : List Value} {ns : List Int} (hh : A.handled = none) (G : Gnd mg mb K) (H : Hk K nil noHid L { loc := [("numbers", .ref na), ("own", .str (T ownL) t2)] } h) (hc : K.IsCell (L + 1) (some (.str (T menuL) t1)))
    (hna : K.get? na = some { cls := .type "list", data := .seq vs.toArray }) (hi : IntsAre vs ns) (hz : vs.length ≤ 1000) :
    wpAny (model prog w) A (exec (lwSt 2) (lwEnv L fa cd)) (fun f s' => f = .next ∧ ∃ K' h' tk' tt, s' = up s h' tk' ∧ Sub K K' ∧ Hk K' nil noHid L { loc := [("text", .str (T (textOf ns)) tt)] } h') E (up s h tk) := by
  have hlen := hi.length
  refine wpAny_Assign_Name ?_
  refine wpAny_BinOp ?_
  refine strM PySem.F.slot_str_join pm_join (by rfl) (by rfl) (by rfl) ?_
  refine strU fun t3 tk3 => ⟨_, t3, rfl, ?_⟩
  rw [empty_T]
  refine callWith_method1 ?_
  refine args_cons ?_
  refine lc_ok (t1 := t1) (ns := ns) hh H (by rfl) hc hna hi hz fun K1 h1 a tk4 l s1 H1 hl el => ?_
  refine args_nil ?_
  have exs : l.map (·.1) = ((ns.take 12).map menuAt).map fun c => T [c] := by rw [el, List.map_map]; rfl
  have hok : JoinOk (T []) (l.map (·.1)) = true := by rw [exs]; exact joinOk_T _ (by rw [List.length_map, List.length_take]; omega)
  have hok' : Builtin.Str.tooLong ((l.map (·.1)).toArray.foldl (· + ·.length + (T []).length) 0) = false := by unfold JoinOk at hok; rw [Bool.not_eq_true'] at hok; exact hok
  refine call_meets (s := up s h1 tk4) PySem.F.slot_str_join (typeIs_str _ _ _) PySem.F.entry_str_join (PySem.F.args_str_join_2 _ _) (meets_str_join_list (T []) t3 a l hok') ⟨hl, post_join l ⟨joinFit_length hok', fun t5 k5 => ?_⟩⟩
  rw [exs, join_T]
  show wpAny _ _ _ _ _ (up s h1 k5)
  refine Subscript_ (ldE H1 (by rfl) ?_)
  refine wpAny_Slice (wpAny_evalPart_some ?_)
  refine Call_ ?_
  refine ldBE (G.sub s1) H1.kh (by simp) bl_len ?_
  refine PyProof.Rows.callWith_builtin1 ?_
  refine args_cons (ldE H1 (by rfl) (args_nil ?_))
  refine len_list (s := up s h1 k5) ⟨_, H1.kh _ _ (s1 _ _ hna), rfl, _, rfl⟩ (by rw [List.size_toArray]; omega) ?_
  rw [List.size_toArray, hlen]
  show wpAny _ _ _ _ _ (up s h1 (k5 + 1 + 1))
  refine wpAny_evalPart_none (wpAny_evalPart_none ?_)
  refine tailU_sn (fun h2 t6 tk6 k6 => ?_) (by rw [T_size]; decide)
  rw [slice_from]
  have H2 := H1.mono k6
  refine addU (fun t7 tk7 => ?_) (by rw [T_size, T_size, List.length_map, List.length_take, List.length_drop]; have : ownL.length = 10 := rfl; omega)
  rw [T_append]
  refine stE H2 fun h8 tk8 H8 => ?_
  refine ⟨rfl, K1, h8, tk8, t7, rfl, s1, ?_⟩
  exact H8.slimR (l := [("text", .str (T (textOf ns)) t7)]) (by kernel_rfl)
end Mine
end

-- Gb1
section
open PySem PyProof.Rows PySem.W PySem.Builtin PySem.Builtin.Re
set_option Elab.async false
set_option linter.all false
set_option maxRecDepth 100000
namespace Mine
variable {prog : Program} {w : World} {A : Around} {E : Value → Shared → Prop} {s : Shared} {h h' : Heap} {tk : Nat} {K base : Heap} {hid : Addr → Obj → Prop} {L : Addr} {mg mb : Str → Option Value} {env : Env}
set_option maxHeartbeats 4000000 in
theorem n3_ok {t : List Nat} {tt : Tok} {fa : Addr} {cd : Value} (hroom : A.depth + 20 < recursionLimit) (hu : A.units + 40 < cLine) (hh : A.handled = none) (G : Gnd mg mb K) (ht : Al t) (hlen : t.length ≤ 12) (H : Hk K nil hid L { loc := [("text", .str (T t) tt)] } h) :
    wpAny (model prog w) A (exec (lwSt 3) (lwEnv L fa cd)) (fun f s' => f = .next ∧ ∃ K' h' tk' rt rh, s' = up s h' tk' ∧ Sub K K' ∧ Hk K' nil hid L { loc := Lt0 t tt rt rh } h' ∧ Rd K' (.ref rt) (.list ((tds t t.length).map lsD)) ∧ Rd K' (.ref rh) (.list ((hps t t.length).map .bool))) E (up s h tk) := by
  refine Assign_Tuple ?_
  refine Call_ ?_
  refine ldGE G H.kh G.nWk ?_
  obtain ⟨o, pm, cdw, doc, c1, c2, c3⟩ := id G.fWk
  refine callWith_def c2 ?_
  refine args_cons (ldE H (by rfl) (args_nil ⟨H.kh _ _ c1, ?_⟩))
  refine walk_ok hroom (by omega) hh G H ht (by omega) fun r K1 h1 tk1 s1 H1 R1 => ?_
  obtain ⟨a, b, g1, ra, rb⟩ := R1
  refine unpack_calm (s := up s h1 tk1) (.inl hh) H1.kh ⟨_, H1.kh _ _ g1, rfl, _, rfl⟩ (by rfl) (by rfl) fun h2 k2 => ?_
  have H2 := H1.mono k2
  show wpAny _ _ _ _ _ (up s h2 _)
  refine wpAny_assignInOrder_more (wpAny_assign_Name (stE H2 fun h3 tk3 H3 => ?_))
  refine wpAny_assignInOrder_more (wpAny_assign_Name (stE H3 fun h4 tk4 H4 => ?_))
  refine wpAny_pure ⟨rfl, K1, h4, tk4, a, b, rfl, s1, ?_, ra, rb⟩
  exact H4.slimR (l := Lt0 t tt a b) (by kernel_rfl)
set_option maxHeartbeats 4000000 in
theorem law_ok {sc fa : Addr} {cd : Value} {oc : Obj} {vs : List Value} {ns : List Int} (hroom : A.depth + 20 < recursionLimit) (hu : A.units + 40 < cLine) (hh : A.handled = none) (hfr : A.frames = some [lwEnv L fa cd]) (G : Gnd mg mb K)
    (H : Hk K nil (hideOne noHid (L + 1) oc) L { loc := [("script", .ref sc)] } h) (hoc : oc.data = .cell none) (hl : K.IsList sc vs.toArray) (hi : IntsAre vs ns) (hz : ns.length ≤ 1000) :
    wpAny (model prog w) A (execs (fBody (fnAt 12)) (lwEnv L fa cd)) (fun f s' => f = .ret (.bool true) ∧ ∃ K' h' tk' l, s' = up s h' tk' ∧ Sub K K' ∧ Hk K' nil noHid L { loc := l } h') E (up s h tk) := by
  have hz' : vs.length ≤ 1000 := by have := hi.length; omega
  refine wpAny_execs_cons ?_
  refine wpAny_mono (n0_ok H hl hz') ?_ (fun _ _ x => x)
  rintro f _ ⟨rfl, K1, h1, tk1, na, rfl, s1, H1, g1⟩
  simp only
  refine wpAny_execs_cons ?_
  refine wpAny_mono (n1_ok hh H1 hoc) ?_ (fun _ _ x => x)
  rintro f _ ⟨rfl, K2, h2, tk2, t1, t2, rfl, s2, H2, ic⟩
  simp only
  refine wpAny_execs_cons ?_
  have hi60 := hi.take 60
  refine wpAny_mono (n2_ok hh (G.sub (s1.trans s2)) H2 ic (s2 _ _ g1) hi60 (by rw [List.length_take]; omega)) ?_ (fun _ _ x => x)
  rintro f _ ⟨rfl, K3, h3, tk3, tt, rfl, s3, H3⟩
  simp only
  have ht := textOf_al (ns.take 60)
  have hlen := textOf_len (ns.take 60)
  generalize textOf (ns.take 60) = t at H3 ht hlen
  have k3 := s1.trans (s2.trans s3)
  refine wpAny_execs_cons ?_
  refine wpAny_mono (n3_ok hroom hu hh (G.sub k3) ht hlen H3) ?_ (fun _ _ x => x)
  rintro f _ ⟨rfl, K4, h4, tk4, rt, rh, rfl, s4, H4, rT, rH⟩
  simp only
  have k4 := k3.trans s4
  refine wpAny_execs_cons ?_
  refine wpAny_mono (lfor_ok hroom hu hh (G.sub k4) ht hlen H4 rT rH) ?_ (fun _ _ x => x)
  rintro f _ ⟨rfl, Kp, K5, h5, tk5, hv, r, rfl, s5, s6, H5, X5, R5⟩
  simp only
  have kp := k4.trans s5
  refine wpAny_execs_cons ?_
  refine wpAny_mono (lwords_ok hh H5 s6 R5 hlen) ?_ (fun _ _ x => x)
  rintro f _ ⟨rfl, K6, h6, tk6, rfl, s7, H6, fr, pl⟩
  simp only
  refine wpAny_execs_cons ?_
  refine wpAny_mono (lapp_ok H6 fr pl) ?_ (fun _ _ x => x)
  rintro f _ ⟨rfl, h7, tk7, rfl, H7⟩
  simp only
  refine wpAny_execs_cons ?_
  refine wpAny_mono (try_ok hroom hu hh hfr (G.sub (kp.trans s7)) ht hlen H7 (X5.sub s7) (rT.sub (s5.trans s7))) ?_ (fun _ _ x => x)
  rintro f _ ⟨rfl, K8, h8, tk8, rfl, s8, H8⟩
  simp only
  exact ⟨trivial, K8, h8, tk8, _, rfl, kp.trans (s7.trans s8), H8⟩
end Mine
end

-- Gc1
section
open PySem PyProof.Rows PySem.W PySem.Builtin PySem.Builtin.Re
set_option Elab.async false
set_option linter.all false
set_option maxRecDepth 100000
namespace Mine
/-- the written part of the heap holds a def, a pattern -/
def FnIn (K : Frag) (a c : Addr) (name : Str) (i : Nat) : Prop := ∃ o oc pm doc vs t, K.lookup a = some o ∧ o.data = .func (Calls.docDef name (fArgs (fnAt i)) (fBody (fnAt i)) (fScope (fnAt i)) pm (.ref c) doc) ∧ K.lookup c = some oc ∧ oc.data = .fields vs ∧ vs[1]? = some (.str name t)
def PatIn (K : Frag) (a : Addr) (C : Array Nat) (g : Nat) : Prop := ∃ c vs src fl, K.lookup a = some { cls := .type "re.Pattern", data := .fields #[src, fl, .int g 0, .none, .none, .ref c, .int 0 0] } ∧ K.lookup c = some { cls := .type "tuple", data := .seq vs } ∧ (vs.map reRawOf).map (·.toNat) = C
theorem fn_ok {K : Frag} {h : Heap} {a c : Addr} {name : Str} {i : Nat} (X : K.In h) (q : FnIn K a c name i) : FnOk h a name i := by
  obtain ⟨o, oc, pm, doc, vs, t, h1, h2, h3, h4, h5⟩ := q
  exact ⟨o, pm, .ref c, doc, X _ _ h1, h2, c, oc, vs, t, rfl, X _ _ h3, h4, h5⟩
theorem pat_ok {K : Frag} {h : Heap} {a : Addr} {C : Array Nat} {g : Nat} (X : K.In h) (q : PatIn K a C g) : Pat h a C g := by
  obtain ⟨c, vs, src, fl, h1, h2, h3⟩ := q
  exact ⟨c, vs, src, fl, X _ _ h1, X _ _ h2, h3⟩
structure FragOk (K : Frag) : Prop where
  f1 : FnIn K 43 42 "unmatched" 3
  f2 : FnIn K 70 69 "split_header_words" 8
  f3 : FnIn K 75 74 "_law_walk" 10
  f4 : FnIn K 82 81 "_law_fulfils" 11
  n1 : nsIn K mainGlobals (Str.ofString "unmatched") = some (some (.ref 43))
  n2 : nsIn K mainGlobals (Str.ofString "split_header_words") = some (some (.ref 70))
  n3 : nsIn K mainGlobals (Str.ofString "_law_walk") = some (some (.ref 75))
  n4 : nsIn K mainGlobals (Str.ofString "_law_fulfils") = some (some (.ref 82))
  n5 : nsIn K mainGlobals (Str.ofString "_twin_re_5") = some (some (.ref 36))
  n6 : nsIn K mainGlobals (Str.ofString "HEADER_TOKEN_RE") = some (some (.ref 48))
  n7 : nsIn K mainGlobals (Str.ofString "HEADER_QUOTED_VALUE_RE") = some (some (.ref 53))
  n8 : nsIn K mainGlobals (Str.ofString "HEADER_VALUE_RE") = some (some (.ref 58))
  n9 : nsIn K mainGlobals (Str.ofString "HEADER_ESCAPE_RE") = some (some (.ref 63))
  nb : nsIn K mainGlobals (Str.ofString "__builtins__") = some (some (.ref 4))
  b1 : nsIn K mainGlobals (Str.ofString "isinstance") = some none
  b2 : nsIn K mainGlobals (Str.ofString "str") = some none
  b3 : nsIn K mainGlobals (Str.ofString "len") = some none
  b4 : nsIn K mainGlobals (Str.ofString "range") = some none
  b5 : nsIn K mainGlobals (Str.ofString "AssertionError") = some none
  p1 : PatIn K 36 cTwin 0
  p2 : PatIn K 48 cTok 1
  p3 : PatIn K 53 cQuo 1
  p4 : PatIn K 58 cVal 1
  p5 : PatIn K 63 cEsc 1
theorem gnd {K : Frag} {h : Heap} {mg mb : Str → Option Value} {p : Program} {loose : List Str} {mean : ExcName → Option Value} (k : FragOk K) (X : K.In h) (Tp : Top p loose mean mg mb h) (C : CodeHd h 69 65) : Gnd mg mb h where
  g := Tp.g
  b := Tp.b
  nolimit := Tp.nolimit
  fUn := fn_ok X k.f1
  fSh := fn_ok X k.f2
  fWk := fn_ok X k.f3
  fFu := fn_ok X k.f4
  nUn := mg_of X Tp.g k.n1
  nSh := mg_of X Tp.g k.n2
  nWk := mg_of X Tp.g k.n3
  nFu := mg_of X Tp.g k.n4
  nTw := mg_of X Tp.g k.n5
  nTo := mg_of X Tp.g k.n6
  nQu := mg_of X Tp.g k.n7
  nVa := mg_of X Tp.g k.n8
  nEs := mg_of X Tp.g k.n9
  pTw := pat_ok X k.p1
  pTo := pat_ok X k.p2
  pQu := pat_ok X k.p3
  pVa := pat_ok X k.p4
  pEs := pat_ok X k.p5
  bi := fun x hx => by
    simp only [List.mem_cons, List.not_mem_nil, or_false] at hx
    rcases hx with rfl | rfl | rfl | rfl | rfl
    · exact ⟨mg_none_of X Tp.g k.b1, Tp.builtins _ (by decide +kernel)⟩
    · exact ⟨mg_none_of X Tp.g k.b2, Tp.builtins _ (by decide +kernel)⟩
    · exact ⟨mg_none_of X Tp.g k.b3, Tp.builtins _ (by decide +kernel)⟩
    · exact ⟨mg_none_of X Tp.g k.b4, Tp.builtins _ (by decide +kernel)⟩
    · exact ⟨mg_none_of X Tp.g k.b5, Tp.builtins _ (by decide +kernel)⟩
  code := C
  bAt := by
    obtain ⟨bm, ob, a1, a2, a3, a4, a5, a6⟩ := Tp.bmain
    have e : mg (Str.ofString "__builtins__") = some (.ref 4) := mg_of X Tp.g k.nb
    have e4 : bm = 4 := by
      have a1' : mg (Str.ofString "__builtins__") = some (.ref bm) := a1
      rw [e] at a1'; cases a1'; rfl
    subst e4
    exact ⟨4, ob, a1, a2, by decide, by decide, a3, a4, a5, a6⟩
  cSh := by
    obtain ⟨o, oc, pm, doc, vs, t, h1, h2, _⟩ := k.f2
    exact ⟨o, pm, doc, X _ _ h1, h2⟩
end Mine
end

-- Gd1
section
open PySem PyProof.Rows PySem.W PySem.Builtin PySem.Builtin.Re
set_option Elab.async false
set_option linter.all false
set_option maxRecDepth 100000
namespace Mine
theorem law_end {prog : Program} {w : World} {E : Value → Shared → Prop} {K : Frag} {s₁ : Shared} {g h₁ : Heap} {tk₁ : Nat} {L fa sc : Addr} {cd : Value} {oc : Obj} {vs : List Value} {ns : List Int} {m mg mb : Str → Option Value} {p : Program} {loose : List Str} {mean mean' : ExcName → Option Value} {c : ClaimW} {cl : Str → Option Addr} {args : List WData}
    (X' : K.In g) (T' : Top p loose mean' mg mb g) (C : CodeHd g 69 65) (F' : Fr g L h₁ m) (N' : News g L h₁ [(L + 1, oc), (65, tabObj #[])]) (hm : m (Str.ofString "script") = some (.ref sc)) (hoc : oc.data = .cell none)
    (hl : g.IsList sc vs.toArray) (hi : IntsAre vs ns) (hz : ¬ ((63 : Nat) : Int) < ns.length) (hg : s₁.gens = #[]) (hr : ∀ cls, c.raises args cls = false) (hp : c.post args (.bool true) args = true) (kok : FragOk K) :
    wpAny (model prog w) (callerA.deeper (lwEnv L fa cd)) (execs (fBody (fnAt 12)) (lwEnv L fa cd))
      (fun f s' => GoodW c cl mean args { heap := g, gens := s₁.gens, drawn := s₁.drawn, toks := s₁.toks, os := s₁.os } (Except.ok (.ret (match f with | .ret v => v | _ => .none))) s' ∧ GrownAll [(69, 65)] s'.heap) E (up s₁ h₁ tk₁) := by
  obtain ⟨c1, c2, c3⟩ := N' _ (.head _)
  obtain ⟨t1, t2, t3⟩ := N' _ (.tail _ (.head _))
  have hL : g.get? L = none := by
    cases hq : g.get? L with
    | none => rfl
    | some o => exact absurd (Nat.lt_of_lt_of_le (Heap.lt_size hq) F'.above) (Nat.lt_irrefl _)
  have G : Gnd mg mb g := gnd kok X' T' C
  have hc : L + 1 ≠ tab := by
    intro e
    have e' : L + 1 = 65 := e
    simp only at c1 t1
    rw [e'] at c1
    rw [c1] at t1
    cases t1
    cases hoc
  have H : Hk g nil (hideOne noHid (L + 1) oc) L { loc := [("script", .ref sc)] } h₁ :=
    { bk := nil_sub _, kh := F'.keep, kL := hL, kt := t3, Lt := Ne.symm t2, loc := ⟨m, F'.ns, fun p hp => by rw [List.mem_singleton.mp hp]; exact hm⟩,
      fac := fun p hp => (by cases hp), kob := fun p hp => (by cases hp), mu := fun p hp => (by cases hp), nd := List.nodup_nil,
      hd := fun b o hb => by
        rcases hb with hb | ⟨rfl, rfl⟩
        · exact hb.elim
        · exact ⟨c1, c3, by omega, hc, by simp⟩
      tb := ⟨#[], t1, .inl rfl⟩ }
  refine wpAny_mono (law_ok (A := callerA.deeper (lwEnv L fa cd)) (by show 1 + claimMargin + 1 + 20 < recursionLimit; decide) (by show 4 + 3 + 40 < cLine; decide) rfl rfl G H hoc hl hi (by omega)) ?_ (fun _ _ x => x)
  rintro f s' ⟨rfl, K', h', tk', l, rfl, sK, H'⟩
  obtain ⟨m', n1, _⟩ := H'.loc
  obtain ⟨ps, tb, _⟩ := H'.tb
  refine ⟨goodW_bool (s₁ := { heap := g, gens := s₁.gens, drawn := s₁.drawn, toks := s₁.toks, os := s₁.os }) (L := L) (m := m') ⟨n1, fun b o x => H'.kh _ _ (sK _ _ x), F'.above⟩ hg hr hp, ⟨ps, tb⟩, trivial⟩
theorem post_ok (xs : List Int) : PySem.Challenge.rw_rs0009_01.row.toRowW.claim.post [ofPy (PyData.list (List.map PyData.int xs))] (WData.bool true) [ofPy (PyData.list (List.map PyData.int xs))] = true := by kc_post
end Mine
end

open PySem PySem.W PyProof.Rows
set_option maxHeartbeats 8000000 in
set_option maxRecDepth 100000 in
theorem PySem.Challenge.cw_rs0009_01_holds : PySem.Challenge.rw_rs0009_01.Holds := by
  (w_on; o_law; k_head; (case hw => w_witness2); w_strict (k_go0; exact Mine.law_end (by assumption) (by assumption) (by assumption) (by assumption) (by assumption) (by rfl) (by assumption) (by assumption) (by assumption) (by assumption) (by assumption) (fun _ => rfl) (Mine.post_ok _) (Mine.FragOk.mk ⟨_, _, _, _, _, _, by rfl, by rfl, by rfl, by rfl, by rfl⟩ ⟨_, _, _, _, _, _, by rfl, by rfl, by rfl, by rfl, by rfl⟩ ⟨_, _, _, _, _, _, by rfl, by rfl, by rfl, by rfl, by rfl⟩ ⟨_, _, _, _, _, _, by rfl, by rfl, by rfl, by rfl, by rfl⟩ (by kernel_rfl) (by kernel_rfl) (by kernel_rfl) (by kernel_rfl) (by kernel_rfl) (by kernel_rfl) (by kernel_rfl) (by kernel_rfl) (by kernel_rfl) (by kernel_rfl) (by kernel_rfl) (by kernel_rfl) (by kernel_rfl) (by kernel_rfl) (by kernel_rfl) ⟨_, _, _, _, by rfl, by rfl, by decide +kernel⟩ ⟨_, _, _, _, by rfl, by rfl, by decide +kernel⟩ ⟨_, _, _, _, by rfl, by rfl, by decide +kernel⟩ ⟨_, _, _, _, by rfl, by rfl, by decide +kernel⟩ ⟨_, _, _, _, by rfl, by rfl, by decide +kernel⟩)))
