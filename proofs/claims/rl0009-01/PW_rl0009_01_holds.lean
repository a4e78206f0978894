import PyProof.Rows.All
import Wide.All
import OpenK.AllK
import Wide.FinOn
import Lean
import PySem.Challenge.RW_rl0009_01
set_option Elab.async false
section
open PySem PySem.W PyProof.Rows
set_option Elab.async false
set_option maxRecDepth 100000
set_option maxHeartbeats 8000000
namespace Mine
open_top hd for PySem.Challenge.rw_rl0009_01
end Mine
end
section
set_option Elab.async false
set_option maxRecDepth 100000
namespace Mine
open PySem PySem.Sre

abbrev lst (items : Array PySem.Value) (k : Nat) : PySem.Obj := { cls := .type "list", data := .seq items k }
theorem runFor_done {m : M} (h : m.outcome.isSome = true) : ∀ n, M.runFor n m = m
  | 0 => rfl
  | n + 1 => by unfold M.runFor; rw [if_pos h]
theorem runFor_add : ∀ (a b : Nat) (m : M), M.runFor (a + b) m = M.runFor b (M.runFor a m)
  | 0, b, m => by rw [Nat.zero_add]; rfl
  | a + 1, b, m => by
    by_cases h : m.outcome.isSome = true
    · rw [runFor_done h, runFor_done h, runFor_done h]
    · rw [Nat.succ_add]
      show (if m.outcome.isSome = true then m else M.runFor (a + b) m.step) = M.runFor b (if m.outcome.isSome = true then m else M.runFor a m.step)
      rw [if_neg h, if_neg h, runFor_add a b]
theorem runFor_one {m : M} (h : m.outcome = none) : M.runFor 1 m = m.step := by
  unfold M.runFor
  rw [h]; rfl

def code1 : Array Nat := #[14, 4, 0, 1, 1, 6, 1, 16, 46, 1]
def m1 (text : Array Nat) (lim p : Nat) (b : Bool) (seen : Seen) : M :=
  { code := code1, text, lim, start := p, lastStart := lim, wholeText := false, mustAdvance := false, pc := 5, pos := p, handed := p, outermost := b, marks := #[],
    frames := [{ wait := .nextStart, pc := 5, pos := p, outermost := b }], weight := 1, seen }
theorem m1_at (text : Array Nat) (lim p : Nat) (b : Bool) (seen : Seen) : (m1 text lim p b seen).step =
    if (p == 0 || text.getD (p - 1) 0 == 10) = true then { m1 text lim p b seen with pc := 7, seen := (seen.add 6).add 44 } else { m1 text lim p b seen with answer := some false, seen := (seen.add 6).add 44 } := rfl
theorem lit_step {m : M} {c : Nat} (h1 : m.outcome = none) (h2 : m.answer = none) (h3 : m.pc < m.code.size) (h4 : m.code.getD m.pc 0 = 16) (h5 : m.code.getD (m.pc + 1) 0 = c) : m.step =
    if m.pos ≥ m.lim then { m with answer := some false, seen := m.seen.add 16 } else
    if m.text.getD m.pos 0 = c then { m with pc := m.pc + 2, pos := m.pos + 1, seen := m.seen.add 16 } else { m with answer := some false, seen := m.seen.add 16 } := by
  have hw : m.word 0 = 16 := h4
  have ho : ops[(16 : Nat)]? = some .LITERAL := rfl
  unfold M.step
  rw [h1, h2]
  simp only [Option.isSome_none, Bool.false_eq_true, if_false, if_pos h3]
  unfold M.exec
  rw [hw, ho]
  simp only [M.say]
  by_cases hl : m.pos ≥ m.lim
  · rw [if_pos hl, if_pos hl, h1]
  · rw [if_neg hl, if_neg hl]
    unfold accepts itemWidth
    rw [h4, ho, h5]
    simp only []
    by_cases hc : m.text.getD m.pos 0 = c
    · have hb : (m.text.getD m.pos 0 == c) = true := beq_iff_eq.mpr hc
      rw [hb, if_pos hc]
      simp only [h1, h2]
    · have hb : (m.text.getD m.pos 0 == c) = false := beq_eq_false_iff_ne.mpr hc
      rw [hb, if_neg hc]
      simp only [h1]
theorem m1_lit (text : Array Nat) (lim p : Nat) (b : Bool) (seen : Seen) : ({ m1 text lim p b seen with pc := 7 } : M).step =
    if p ≥ lim then { m1 text lim p b seen with pc := 7, answer := some false, seen := seen.add 16 } else
    if text.getD p 0 = 46 then { m1 text lim p b seen with pc := 9, pos := p + 1, seen := seen.add 16 } else { m1 text lim p b seen with pc := 7, answer := some false, seen := seen.add 16 } :=
  lit_step rfl rfl (show 7 < code1.size by decide) rfl rfl
theorem m1_ok (text : Array Nat) (lim p : Nat) (b : Bool) (seen : Seen) : ({ m1 text lim p b seen with pc := 9, pos := p + 1 } : M).step =
    { m1 text lim p b seen with pc := 9, pos := p + 1, handed := p + 1, answer := some true, seen := seen.add 1 } := by cases b <;> rfl
theorem m1_up (text : Array Nat) (lim p : Nat) (b : Bool) (seen : Seen) (pc pos : Nat) : ({ m1 text lim p b seen with pc, pos, answer := some false } : M).step =
    if p < lim then m1 text lim (p + 1) false seen else { m1 text lim p b seen with pc := 5, answer := some false, frames := [], weight := 0 } := rfl
theorem m1_out (text : Array Nat) (lim p : Nat) (b : Bool) (seen : Seen) (pc pos handed : Nat) : ({ m1 text lim p b seen with pc, pos, handed, answer := some true } : M).step =
    { m1 text lim p b seen with handed, answer := some true, frames := [], weight := 0 } := rfl

def hit1 (text : Array Nat) (lim q : Nat) : Prop := (q = 0 ∨ text.getD (q - 1) 0 = 10) ∧ q < lim ∧ text.getD q 0 = 46
theorem run1 {m m' : M} (h : m.outcome = none) (e : m.step = m') : M.runFor 1 m = m' := (runFor_one h).trans e
theorem runs {m m' m'' : M} {a b : Nat} (h1 : M.runFor a m = m') (h2 : M.runFor b m' = m'') : M.runFor (a + b) m = m'' := by rw [runFor_add, h1, h2]
/-- an attempt that fails ahead of the end goes on one place further -/
theorem m1_next {text : Array Nat} {lim p : Nat} (b : Bool) (seen : Seen) (hp : p < lim) (hn : ¬ hit1 text lim p) :
    ∃ k seen', k ≤ 3 ∧ M.runFor k (m1 text lim p b seen) = m1 text lim (p + 1) false seen' := by
  by_cases hb : (p == 0 || text.getD (p - 1) 0 == 10) = true
  · have hc : text.getD p 0 ≠ 46 := fun e => hn ⟨by simpa using hb, hp, e⟩
    exact ⟨1 + (1 + 1), ((seen.add 6).add 44).add 16, Nat.le_refl _, runs (run1 rfl ((m1_at text lim p b seen).trans (if_pos hb)))
      (runs (run1 rfl ((m1_lit text lim p b ((seen.add 6).add 44)).trans ((if_neg (by omega)).trans (if_neg hc)))) (run1 rfl ((m1_up text lim p b (((seen.add 6).add 44).add 16) 7 p).trans (if_pos hp))))⟩
  · exact ⟨1 + 1, (seen.add 6).add 44, by omega, runs (run1 rfl ((m1_at text lim p b seen).trans (if_neg hb))) (run1 rfl ((m1_up text lim p b ((seen.add 6).add 44) 5 p).trans (if_pos hp)))⟩
theorem m1_hit {text : Array Nat} {lim p : Nat} (b : Bool) (seen : Seen) (hn : hit1 text lim p) :
    ∃ k, k ≤ 5 ∧ (M.runFor k (m1 text lim p b seen)).outcome = some .matched ∧ (M.runFor k (m1 text lim p b seen)).start = p ∧ (M.runFor k (m1 text lim p b seen)).handed = p + 1 := by
  obtain ⟨hb, hl, hc⟩ := hn
  have hb' : (p == 0 || text.getD (p - 1) 0 == 10) = true := by simpa using hb
  have e := runs (run1 rfl ((m1_at text lim p b seen).trans (if_pos hb'))) (runs (run1 rfl ((m1_lit text lim p b ((seen.add 6).add 44)).trans ((if_neg (by omega)).trans (if_pos hc))))
    (runs (run1 rfl (m1_ok text lim p b (((seen.add 6).add 44).add 16))) (runs (run1 rfl (m1_out text lim p b ((((seen.add 6).add 44).add 16).add 1) 9 (p + 1) (p + 1))) (run1 rfl rfl))))
  refine ⟨1 + (1 + (1 + (1 + 1))), Nat.le_refl _, ?_⟩
  rw [e]
  exact ⟨rfl, rfl, rfl⟩
theorem m1_end {text : Array Nat} {lim : Nat} (b : Bool) (seen : Seen) : ∃ k, k ≤ 4 ∧ (M.runFor k (m1 text lim lim b seen)).outcome = some .failed := by
  by_cases hb : (lim == 0 || text.getD (lim - 1) 0 == 10) = true
  · have e := runs (run1 rfl ((m1_at text lim lim b seen).trans (if_pos hb))) (runs (run1 rfl ((m1_lit text lim lim b ((seen.add 6).add 44)).trans (if_pos (Nat.le_refl _))))
      (runs (run1 rfl ((m1_up text lim lim b (((seen.add 6).add 44).add 16) 7 lim).trans (if_neg (Nat.lt_irrefl _)))) (run1 rfl rfl)))
    refine ⟨1 + (1 + (1 + 1)), Nat.le_refl _, ?_⟩
    rw [e]
    rfl
  · have e := runs (run1 rfl ((m1_at text lim lim b seen).trans (if_neg hb))) (runs (run1 rfl ((m1_up text lim lim b ((seen.add 6).add 44) 5 lim).trans (if_neg (Nat.lt_irrefl _)))) (run1 rfl rfl))
    refine ⟨1 + (1 + 1), by omega, ?_⟩
    rw [e]
    rfl
/-- the search's answer: what the machine ends with -/
def Finds (m : M) (k : Nat) (r : Option (Nat × Nat)) : Prop := match r with
  | some (a, b) => (M.runFor k m).outcome = some .matched ∧ (M.runFor k m).start = a ∧ (M.runFor k m).handed = b
  | none => (M.runFor k m).outcome = some .failed
theorem Finds.after {m m' : M} {a k : Nat} {r : Option (Nat × Nat)} (e : M.runFor a m = m') (h : Finds m' k r) : Finds m (a + k) r := by
  unfold Finds at *
  rw [runFor_add, e]
  exact h
theorem m1_search (text : Array Nat) (lim : Nat) : ∀ (d p : Nat) (b : Bool) (seen : Seen), p + d = lim →
    (∀ q, p ≤ q → hit1 text lim q → (∀ r, p ≤ r → r < q → ¬ hit1 text lim r) → ∃ k, k ≤ 3 * d + 5 ∧ Finds (m1 text lim p b seen) k (some (q, q + 1))) ∧
    ((∀ q, p ≤ q → ¬ hit1 text lim q) → ∃ k, k ≤ 3 * d + 5 ∧ Finds (m1 text lim p b seen) k none) := by
  intro d
  induction d with
  | zero =>
    intro p b seen hd
    have : p = lim := by omega
    subst this
    refine ⟨fun q hq hh _ => ?_, fun _ => ?_⟩
    · exact absurd hh.2.1 (by omega)
    · obtain ⟨k, hk, h⟩ := m1_end (text := text) (lim := p) b seen
      exact ⟨k, by omega, h⟩
  | succ d ih =>
    intro p b seen hd
    by_cases hp : hit1 text lim p
    · refine ⟨fun q hq hh hm => ?_, fun hm => absurd hp (hm p (Nat.le_refl _))⟩
      have : q = p := by
        by_cases hqp : p < q
        · exact absurd hp (hm p (Nat.le_refl _) hqp)
        · omega
      subst this
      obtain ⟨k, hk, h⟩ := m1_hit b seen hp
      exact ⟨k, by omega, h⟩
    · obtain ⟨k, seen', hk, e⟩ := m1_next b seen (by omega : p < lim) hp
      obtain ⟨i1, i2⟩ := ih (p + 1) false seen' (by omega)
      refine ⟨fun q hq hh hm => ?_, fun hm => ?_⟩
      · have hqp : p ≠ q := fun e => hp (e ▸ hh)
        obtain ⟨k', hk', h⟩ := i1 q (by omega) hh (fun r h1 h2 => hm r (by omega) h2)
        exact ⟨k + k', by omega, h.after e⟩
      · obtain ⟨k', hk', h⟩ := i2 fun q hq => hm q (by omega)
        exact ⟨k + k', by omega, h.after e⟩
theorem search1_some {text : Array Nat} {p q : Nat} (hq : p ≤ q) (hh : hit1 text text.size q) (hm : ∀ r, p ≤ r → r < q → ¬ hit1 text text.size r) :
    ∃ k, k ≤ 3 * text.size + 5 ∧ Finds (forSearch code1 text 0 p text.size false) k (some (q, q + 1)) := by
  have hp : p < text.size := Nat.lt_of_le_of_lt hq hh.2.1
  have e : forSearch code1 text 0 p text.size false = m1 text text.size p true (({} : Seen).add 14) := by
    unfold forSearch
    rw [if_neg]
    · rfl
    · show ¬ (decide (p > text.size) || decide (text.size - p < 1)) = true
      simp; omega
  rw [e]
  obtain ⟨k, hk, h⟩ := (m1_search text text.size (text.size - p) p true _ (by omega)).1 q hq hh hm
  exact ⟨k, by omega, h⟩
theorem search1_none {text : Array Nat} {p : Nat} (hp : p ≤ text.size) (hm : ∀ q, p ≤ q → ¬ hit1 text text.size q) :
    ∃ k, k ≤ 3 * text.size + 5 ∧ Finds (forSearch code1 text 0 p text.size false) k none := by
  by_cases hlt : p < text.size
  · have e : forSearch code1 text 0 p text.size false = m1 text text.size p true (({} : Seen).add 14) := by
      unfold forSearch
      rw [if_neg]
      · rfl
      · show ¬ (decide (p > text.size) || decide (text.size - p < 1)) = true
        simp; omega
    rw [e]
    obtain ⟨k, hk, h⟩ := (m1_search text text.size (text.size - p) p true _ (by omega)).2 hm
    exact ⟨k, by omega, h⟩
  · refine ⟨1, by omega, ?_⟩
    unfold Finds
    unfold forSearch
    rw [if_pos]
    · rfl
    · show (decide (p > text.size) || decide (text.size - p < 1)) = true
      simp; omega
end Mine
end
section
set_option Elab.async false
set_option maxRecDepth 100000
namespace Mine
open PySem PySem.Sre

def code2 : Array Nat := #[14, 9, 4, 1, 2, 16, 10, 16, 13, 0, 7, 7, 16, 13, 16, 10, 15, 18, 5, 16, 10, 15, 13, 11, 16, 13, 5, 5, 0, 16, 10, 1, 15, 2, 0, 1]
def m2 (text : Array Nat) (lim q : Nat) (seen : Seen) (fr : List Sre.Frame) (wt pc pos handed : Nat) (ob : Bool) (ans : Option Bool) : M :=
  { code := code2, text, lim, start := q, lastStart := lim, pc, pos, handed, outermost := ob, marks := #[], frames := fr, weight := wt, answer := ans, seen }
def f0 (q : Nat) (b : Bool) : Sre.Frame := { wait := .nextStart, pc := 10, pos := q, outermost := b }
def fb (q : Nat) (b : Bool) (alt : Nat) : Sre.Frame := { wait := .nextBranch, pc := alt, pos := q, outermost := b }
def fn (q : Nat) (b : Bool) : Sre.Frame := { wait := .lookNot, pc := 26, pos := q, outermost := b }
section
variable {text : Array Nat} {lim q : Nat} {seen : Seen} {fr : List Sre.Frame} {wt pc pos handed : Nat} {ob : Bool} {c : Nat}
theorem m2_lit (h3 : pc < code2.size) (h4 : code2.getD pc 0 = 16) (h5 : code2.getD (pc + 1) 0 = c) (hl : pos < lim) (hc : text.getD pos 0 = c) :
    M.runFor 1 (m2 text lim q seen fr wt pc pos handed ob none) = m2 text lim q (seen.add 16) fr wt (pc + 2) (pos + 1) handed ob none :=
  run1 rfl ((lit_step (m := m2 text lim q seen fr wt pc pos handed ob none) rfl rfl h3 h4 h5).trans ((if_neg (Nat.not_le.mpr hl)).trans (if_pos hc)))
theorem m2_lit_no (h3 : pc < code2.size) (h4 : code2.getD pc 0 = 16) (h5 : code2.getD (pc + 1) 0 = c) (hn : ¬ (pos < lim ∧ text.getD pos 0 = c)) :
    M.runFor 1 (m2 text lim q seen fr wt pc pos handed ob none) = m2 text lim q (seen.add 16) fr wt pc pos handed ob (some false) := by
  by_cases hl : pos < lim
  · exact run1 rfl ((lit_step (m := m2 text lim q seen fr wt pc pos handed ob none) rfl rfl h3 h4 h5).trans ((if_neg (Nat.not_le.mpr hl)).trans (if_neg fun e => hn ⟨hl, e⟩)))
  · exact run1 rfl ((lit_step (m := m2 text lim q seen fr wt pc pos handed ob none) rfl rfl h3 h4 h5).trans (if_pos (Nat.not_lt.mp hl)))
theorem m2_branch (b : Bool) : M.runFor 1 (m2 text lim q seen [f0 q b] 1 10 q q b none) = m2 text lim q (seen.add 7) [fb q b 11, f0 q b] 2 12 q q b none := run1 rfl rfl
theorem m2_alt2 (b : Bool) : M.runFor 1 (m2 text lim q seen [fb q b 11, f0 q b] 2 pc pos handed ob (some false)) = m2 text lim q seen [fb q b 18, f0 q b] 2 19 q q b none := run1 rfl rfl
theorem m2_alt3 (b : Bool) : M.runFor 1 (m2 text lim q seen [fb q b 18, f0 q b] 2 pc pos handed ob (some false)) = m2 text lim q seen [fb q b 23, f0 q b] 2 24 q q b none := run1 rfl rfl
theorem m2_jump1 : M.runFor 1 (m2 text lim q seen fr wt 16 pos handed ob none) = m2 text lim q (seen.add 15) fr wt 35 pos handed ob none := run1 rfl rfl
theorem m2_jump2 : M.runFor 1 (m2 text lim q seen fr wt 21 pos handed ob none) = m2 text lim q (seen.add 15) fr wt 35 pos handed ob none := run1 rfl rfl
theorem m2_jump3 : M.runFor 1 (m2 text lim q seen fr wt 32 pos handed ob none) = m2 text lim q (seen.add 15) fr wt 35 pos handed ob none := run1 rfl rfl
theorem m2_ok : M.runFor 1 (m2 text lim q seen fr wt 35 pos handed ob none) = m2 text lim q (seen.add 1) fr wt 35 pos pos ob (some true) := run1 rfl (by cases ob <;> rfl)
theorem m2_out (b : Bool) (a : Nat) : M.runFor (1 + (1 + 1)) (m2 text lim q seen [fb q b a, f0 q b] 2 pc pos handed ob (some true)) = { m2 text lim q seen [] 0 10 q handed b (some true) with outcome := some .matched } :=
  runs (m' := m2 text lim q seen [f0 q b] 1 a q handed b (some true)) (run1 rfl rfl) (runs (m' := m2 text lim q seen [] 0 10 q handed b (some true)) (run1 rfl rfl) (run1 rfl rfl))
theorem m2_not (b : Bool) : M.runFor 1 (m2 text lim q seen [fb q b 23, f0 q b] 2 26 (q + 1) handed b none) = m2 text lim q (seen.add 5) [fn (q + 1) b, fb q b 23, f0 q b] 3 29 (q + 1) (q + 1) false none := run1 rfl rfl
theorem m2_notNo (b : Bool) : M.runFor 1 (m2 text lim q seen [fn (q + 1) b, fb q b 23, f0 q b] 3 pc pos handed ob (some false)) = m2 text lim q seen [fb q b 23, f0 q b] 2 32 (q + 1) handed b none := run1 rfl rfl
end
theorem m2_fin {text : Array Nat} {lim q : Nat} {seen : Seen} {b : Bool} {m : M} {k e : Nat} (h : M.runFor k m = { m2 text lim q seen [] 0 10 q e b (some true) with outcome := some .matched }) : Finds m k (some (q, e)) := by
  unfold Finds
  rw [h]
  exact ⟨rfl, rfl, rfl⟩
/-- how far a line's end at q goes -/
def end2 (text : Array Nat) (lim q : Nat) : Nat := if text.getD q 0 = 13 ∧ q + 1 < lim ∧ text.getD (q + 1) 0 = 10 then q + 2 else q + 1
def hit2 (text : Array Nat) (lim q : Nat) : Prop := q < lim ∧ (text.getD q 0 = 10 ∨ text.getD q 0 = 13)
theorem m2_hit {text : Array Nat} {lim q : Nat} (b : Bool) (seen : Seen) (hh : hit2 text lim q) : ∃ k, k ≤ 20 ∧ Finds (m2 text lim q seen [f0 q b] 1 10 q q b none) k (some (q, end2 text lim q)) := by
  obtain ⟨hl, hc⟩ := hh
  rcases hc with hc | hc
  · have he : end2 text lim q = q + 1 := if_neg fun h => by rw [hc] at h; exact absurd h.1 (by decide)
    rw [he]
    have hn : ¬ (q < lim ∧ text.getD q 0 = 13) := fun h => by rw [hc] at h; exact absurd h.2 (by decide)
    exact ⟨_, by decide, m2_fin (runs (m2_branch b) (runs (m2_lit_no (c := 13) (by decide) rfl rfl hn) (runs (m2_alt2 b) (runs (m2_lit (c := 10) (by decide) rfl rfl hl hc) (runs m2_jump2 (runs m2_ok (m2_out b 18)))))))⟩
  · by_cases hn : q + 1 < lim ∧ text.getD (q + 1) 0 = 10
    · have he : end2 text lim q = q + 2 := if_pos ⟨hc, hn⟩
      rw [he]
      exact ⟨_, by decide, m2_fin (runs (m2_branch b) (runs (m2_lit (c := 13) (by decide) rfl rfl hl hc) (runs (m2_lit (c := 10) (by decide) rfl rfl hn.1 hn.2) (runs m2_jump1 (runs m2_ok (m2_out b 11))))))⟩
    · have he : end2 text lim q = q + 1 := if_neg fun h => hn h.2
      rw [he]
      have hn' : ¬ (q < lim ∧ text.getD q 0 = 10) := fun h => by rw [hc] at h; exact absurd h.2 (by decide)
      exact ⟨_, by decide, m2_fin (runs (m2_branch b) (runs (m2_lit (c := 13) (by decide) rfl rfl hl hc) (runs (m2_lit_no (c := 10) (by decide) rfl rfl hn) (runs (m2_alt2 b) (runs (m2_lit_no (c := 10) (by decide) rfl rfl hn') (runs (m2_alt3 b)
        (runs (m2_lit (c := 13) (by decide) rfl rfl hl hc) (runs (m2_not b) (runs (m2_lit_no (c := 10) (by decide) rfl rfl hn) (runs (m2_notNo b) (runs m2_jump3 (runs m2_ok (m2_out b 23)))))))))))))⟩
theorem inSet2 (c : Nat) (seen : Seen) : inSet code2 c 36 5 true seen = if (c == 10) = true then .ok (true, seen.add 16) else if (c == 13) = true then .ok (true, (seen.add 16).add 16) else .ok (false, ((seen.add 16).add 16).add 0) := rfl
theorem admitted2 {m : M} (hcode : m.code = code2) : ∀ (fuel p : Nat) (seen : Seen), m.lim < p + fuel →
    (∀ q, p ≤ q → hit2 m.text m.lim q → (∀ r, p ≤ r → r < q → ¬ hit2 m.text m.lim r) → ∃ seen', M.admitted m fuel p seen = .ok (some q, seen')) ∧
    ((∀ q, p ≤ q → ¬ hit2 m.text m.lim q) → ∃ seen', M.admitted m fuel p seen = .ok (none, seen')) := by
  intro fuel
  induction fuel with
  | zero => intro p seen h; exact ⟨fun q hq hh _ => absurd hh.1 (by omega), fun _ => ⟨_, rfl⟩⟩
  | succ fuel ih =>
    intro p seen h
    unfold M.admitted
    by_cases hp : p ≥ m.lim
    · rw [if_pos hp]
      exact ⟨fun q hq hh _ => absurd hh.1 (by omega), fun _ => ⟨_, rfl⟩⟩
    · rw [if_neg hp, hcode]
      rw [show code2.size = 36 from rfl, inSet2]
      by_cases h10 : (m.text.getD p 0 == 10) = true
      · rw [if_pos h10]
        have hh : hit2 m.text m.lim p := ⟨by omega, .inl (beq_iff_eq.mp h10)⟩
        refine ⟨fun q hq hh' hm => ?_, fun hm => absurd hh (hm p (Nat.le_refl _))⟩
        have : q = p := by
          by_cases hqp : p < q
          · exact absurd hh (hm p (Nat.le_refl _) hqp)
          · omega
        subst this
        exact ⟨_, rfl⟩
      · rw [if_neg h10]
        by_cases h13 : (m.text.getD p 0 == 13) = true
        · rw [if_pos h13]
          have hh : hit2 m.text m.lim p := ⟨by omega, .inr (beq_iff_eq.mp h13)⟩
          refine ⟨fun q hq hh' hm => ?_, fun hm => absurd hh (hm p (Nat.le_refl _))⟩
          have : q = p := by
            by_cases hqp : p < q
            · exact absurd hh (hm p (Nat.le_refl _) hqp)
            · omega
          subst this
          exact ⟨_, rfl⟩
        · rw [if_neg h13]
          obtain ⟨i1, i2⟩ := ih (p + 1) (((seen.add 16).add 16).add 0) (by omega)
          have hn : ¬ hit2 m.text m.lim p := fun hh => hh.2.elim (fun e => h10 (beq_iff_eq.mpr e)) fun e => h13 (beq_iff_eq.mpr e)
          refine ⟨fun q hq hh hm => ?_, fun hm => ?_⟩
          · have hqp : p ≠ q := fun e => hn (e ▸ hh)
            exact i1 q (by omega) hh fun r h1 h2 => hm r (by omega) h2
          · exact i2 fun q hq => hm q (by omega)
theorem search2_some {text : Array Nat} {p q : Nat} (hq : p ≤ q) (hh : hit2 text text.size q) (hm : ∀ r, p ≤ r → r < q → ¬ hit2 text text.size r) :
    ∃ k, k ≤ 3 * text.size + 25 ∧ Finds (forSearch code2 text 0 p text.size false) k (some (q, end2 text text.size q)) := by
  have hp : p < text.size := Nat.lt_of_le_of_lt hq hh.1
  have e : ∃ seen, forSearch code2 text 0 p text.size false = m2 text text.size q seen [f0 q true] 1 10 q q true none := by
    unfold forSearch
    rw [if_neg (by show ¬ (decide (p > text.size) || decide (text.size - p < 1)) = true; simp; omega)]
    obtain ⟨seen', ha⟩ := (admitted2 (m := { m2 text text.size p (({} : Seen).add 14) [] 0 10 p p true none with lastStart := text.size }) rfl (text.size + 1 - p) p (({} : Seen).add 14) (by show text.size < _; omega)).1 q hq hh hm
    refine ⟨seen', ?_⟩
    show M.attemptFrom { m2 text text.size p (({} : Seen).add 14) [] 0 10 p p true none with lastStart := text.size } p true = _
    unfold M.attemptFrom
    rw [if_neg (by show ¬ (!true) = true; decide)]
    show (match M.admitted { m2 text text.size p (({} : Seen).add 14) [] 0 10 p p true none with lastStart := text.size } (text.size + 1 - p) p (({} : Seen).add 14) with | .ok (some s, seen) => _ | .ok (none, seen) => _ | .error why => _) = _
    rw [ha]
    rfl
  obtain ⟨seen, e⟩ := e
  rw [e]
  obtain ⟨k, hk, h⟩ := m2_hit true seen hh
  exact ⟨k, by omega, h⟩
theorem search2_none {text : Array Nat} {p : Nat} (hp : p ≤ text.size) (hm : ∀ q, p ≤ q → ¬ hit2 text text.size q) :
    ∃ k, k ≤ 3 * text.size + 25 ∧ Finds (forSearch code2 text 0 p text.size false) k none := by
  refine ⟨1, by omega, ?_⟩
  unfold Finds
  by_cases hlt : p < text.size
  · unfold forSearch
    rw [if_neg (by show ¬ (decide (p > text.size) || decide (text.size - p < 1)) = true; simp; omega)]
    obtain ⟨seen', ha⟩ := (admitted2 (m := { m2 text text.size p (({} : Seen).add 14) [] 0 10 p p true none with lastStart := text.size }) rfl (text.size + 1 - p) p (({} : Seen).add 14) (by show text.size < _; omega)).2 hm
    show (M.runFor 1 (M.attemptFrom { m2 text text.size p (({} : Seen).add 14) [] 0 10 p p true none with lastStart := text.size } p true)).outcome = _
    unfold M.attemptFrom
    rw [if_neg (by show ¬ (!true) = true; decide)]
    show (M.runFor 1 (match M.admitted { m2 text text.size p (({} : Seen).add 14) [] 0 10 p p true none with lastStart := text.size } (text.size + 1 - p) p (({} : Seen).add 14) with | .ok (some s, seen) => _ | .ok (none, seen) => _ | .error why => _)).outcome = _
    rw [ha]
    rfl
  · unfold forSearch
    rw [if_pos (by show (decide (p > text.size) || decide (text.size - p < 1)) = true; simp; omega)]
    rfl
end Mine
end
section
set_option Elab.async false
set_option maxRecDepth 100000
namespace Mine
open PySem PySem.Builtin.Re
section
variable {M : Model} {A : Around} {E : Value → Shared → Prop} {s : Shared}
theorem reDrive_wp {Q : Sre.M → Shared → Prop} : ∀ (turns n : Nat) (m : Sre.M), n ≤ 4 * turns → 0 < turns → (Sre.M.runFor n m).outcome.isSome = true → Q (Sre.M.runFor n m) s → wpAny M A (reDrive turns m) Q E s := by
  intro turns
  induction turns with
  | zero => intro n m _ h; exact absurd h (by omega)
  | succ turns ih =>
    intro n m hn _ ho hq
    show wpAny M A (if (Sre.M.runFor 4 m).outcome.isSome = true then pure (Sre.M.runFor 4 m) else do rule "sre.turn"; reDrive turns (Sre.M.runFor 4 m)) Q E s
    by_cases h4 : (Sre.M.runFor 4 m).outcome.isSome = true
    · rw [if_pos h4]
      have e : Sre.M.runFor n m = Sre.M.runFor 4 m := by
        by_cases hl : n ≤ 4
        · have : (4 : Nat) = n + (4 - n) := by omega
          rw [this, runFor_add, runFor_done ho]
        · have : n = 4 + (n - 4) := by omega
          rw [this, runFor_add, runFor_done h4]
      exact wpAny_pure (e ▸ hq)
    · rw [if_neg h4]
      have hgt : 4 < n := by
        refine Nat.lt_of_not_le fun hl => h4 ?_
        have : (4 : Nat) = n + (4 - n) := by omega
        rw [this, runFor_add, runFor_done ho]; exact ho
      have e : Sre.M.runFor n m = Sre.M.runFor (n - 4) (Sre.M.runFor 4 m) := by
        rw [← runFor_add]; congr 1; omega
      refine wpAny_bind (wpAny_rule (ih (n - 4) _ (by omega) (by omega) (e ▸ ho) (e ▸ hq)))
theorem rules_wp (b : Nat → Bool) (f : Nat → String) {Q : PUnit → Shared → Prop} (h : Q ⟨⟩ s) : ∀ (l : List Nat), wpAny M A (forIn l PUnit.unit (fun i _ => do
    if b i = true then rule (f i)
    pure (ForInStep.yield PUnit.unit)) : Sem PUnit) Q E s := by
  intro l
  induction l with
  | nil => exact wpAny_pure h
  | cons i l ih =>
    rw [List.forIn_cons]
    refine wpAny_bind ?_
    by_cases hb : b i = true
    · simp only [if_pos hb]
      exact wpAny_bind (wpAny_rule (wpAny_pure ih))
    · simp only [if_neg hb]
      exact wpAny_pure ih
theorem run_some {m : Sre.M} {k a b : Nat} {Q : Option Sre.M → Shared → Prop} (hf : Finds m k (some (a, b))) (hk : k ≤ 4 * 2 ^ 64) (h : ∀ mf : Sre.M, mf.start = a → mf.handed = b → Q (some mf) s) : wpAny M A (reRunToEnd m) Q E s := by
  obtain ⟨h1, h2, h3⟩ := hf
  unfold reRunToEnd
  refine wpAny_bind (reDrive_wp (2 ^ 64) k m hk (by decide) (by rw [h1]; rfl) ?_)
  refine wpAny_bind (rules_wp (fun i => (Sre.M.runFor k m).seen.has i) (fun i => Sre.names.getD i "") ?_ _)
  rw [h1]
  exact wpAny_pure (h _ h2 h3)
theorem run_none {m : Sre.M} {k : Nat} {Q : Option Sre.M → Shared → Prop} (hf : Finds m k none) (hk : k ≤ 4 * 2 ^ 64) (h : Q none s) : wpAny M A (reRunToEnd m) Q E s := by
  have h1 : (Sre.M.runFor k m).outcome = some .failed := hf
  unfold reRunToEnd
  refine wpAny_bind (reDrive_wp (2 ^ 64) k m hk (by decide) (by rw [h1]; rfl) ?_)
  refine wpAny_bind (rules_wp (fun i => (Sre.M.runFor k m).seen.has i) (fun i => Sre.names.getD i "") ?_ _)
  rw [h1]
  exact wpAny_pure h
end
end Mine
end
section
set_option Elab.async false
set_option maxRecDepth 100000
namespace Mine
open PySem
theorem plainAttrs_pat : PlainAttrs "re.Pattern" :=
  ⟨⟨"object.__getattribute__", by rw [typeLookup_type, builtinLookup_eq_fast]; kernel_rfl, by decide +kernel⟩, by rw [typeLookup_type, builtinLookup_eq_fast]; kernel_rfl⟩
theorem slot_sub : Slot "re.Pattern" "sub" "re.Pattern.sub" :=
  .of (owner := "re.Pattern") (n := "sub") (by rw [typeLookup_type, builtinLookup_eq_fast]; kernel_rfl) (by decide +kernel) (by decide +kernel) (by decide +kernel)
    (by first | exact .inl (by decide +kernel) | exact .inr (by decide +kernel)) (by rw [isSubtype_type]; kernel_rfl)
theorem type_sub : typeOf (.builtin "re.Pattern.sub") = pure (.type "method_descriptor") := by show builtinType _ = _; rw [builtinType_eq_fast]; kernel_rfl
theorem entry_sub : entryFor table "re.Pattern.sub" = some Builtin.«re.Pattern.sub» := entryFor_of_tree (by kernel_rfl)
theorem entry_loop : entryFor table "re.Pattern.sub.loop" = some Builtin.«re.Pattern.sub.loop» := entryFor_of_tree (by kernel_rfl)
theorem str_no_call : typeLookup (.type "str") "__call__" = pure none := by rw [typeLookup_type, builtinLookup_eq_fast]; kernel_rfl
theorem owner_pat : Manifest.owners.lookup (String.ofList ['n', 'r', 'e', 't', 't', 'a', 'P', '.', 'e', 'r'].reverse) = some Manifest.sig_re_Pattern := by kernel_rfl
theorem args_sub (a b c : Value) : argsOk "re.Pattern.sub" ⟨[a, b, c], []⟩ := by
  unfold argsOk; rw [signature?_of (id := "re.Pattern.sub") (n := ['b', 'u', 's']) (o := ['n', 'r', 'e', 't', 't', 'a', 'P', '.', 'e', 'r']) (by kernel_rfl) owner_pat]; kernel_rfl
end Mine
end
section
set_option Elab.async false
set_option maxRecDepth 100000
namespace Mine
open PySem PySem.Builtin.Re PyProof.Rows

structure IsPat (h : Heap) (a ct : Addr) (code : Array Nat) : Prop where
  pat : ∃ x y u v, h.get? a = some { cls := .type "re.Pattern", data := .fields #[.str x u, .int y v, .int 0 0, .none, .none, .ref ct, .int 0 0] }
  tup : ∃ n, h.get? ct = some { cls := .type "tuple", data := .seq (code.map fun (c : Nat) => Value.int (c : Int) 0) n }
theorem IsPat.keeps {h h' : Heap} {a ct : Addr} {code : Array Nat} (P : IsPat h a ct code) (k1 : ∀ o, h.get? a = some o → h'.get? a = some o) (k2 : ∀ o, h.get? ct = some o → h'.get? ct = some o) : IsPat h' a ct code :=
  ⟨let ⟨x, y, u, v, e⟩ := P.pat; ⟨x, y, u, v, k1 _ e⟩, let ⟨n, e⟩ := P.tup; ⟨n, k2 _ e⟩⟩
section
variable {M : Model} {A : Around} {E : Value → Shared → Prop} {s : Shared} {a ct : Addr} {code : Array Nat} {x : Str} {t : Tok}
def target (a : Addr) (x : Str) (t : Tok) (code : Array Nat) : ReTarget := { pattern := .ref a, string := .str x t, code, text := x.cps, kind := 0, groups := 0, pos := 0, lim := x.cps.size }
theorem whole_wp {Q : ReTarget → Shared → Prop} (P : IsPat s.heap a ct code) (h : Q (target a x t code) s) : wpAny M A (reWholeTarget (.ref a) (.str x t)) Q E s := by
  obtain ⟨x', y', u', v', e1⟩ := P.pat
  obtain ⟨n, e2⟩ := P.tup
  unfold reWholeTarget
  refine wpAny_bind (wpAny_bind (wpAny_load e1 (wpAny_pure ?_)))
  refine wpAny_bind (wpAny_bind (wpAny_pure (wpAny_pure ?_)))
  show wpAny M A (do
    reNoCollectionInside (.str x t) 0
    let __do_lift ← reRawItems (.ref ct)
    pure _) Q E s
  refine wpAny_bind (wpAny_pure ?_)
  refine wpAny_bind (wpAny_bind (wpAny_bind (wpAny_load e2 (wpAny_pure (wpAny_pure ?_)))))
  refine wpAny_pure ?_
  have e : ((code.map fun (c : Nat) => Value.int (c : Int) 0).map reRawOf).map (·.toNat) = code := by
    apply Array.ext
    · simp
    · intro i h1 h2
      simp [reRawOf]
  show Q { pattern := .ref a, string := .str x t, code := ((code.map fun (c : Nat) => Value.int (c : Int) 0).map reRawOf).map (·.toNat), text := x.cps, kind := 0, groups := 0, pos := 0, lim := x.cps.size } s
  rw [e]
  exact h
end
section
variable {prog : Program} {w : World} {A : Around} {s : Shared} {a ct : Addr} {code : Array Nat} {x y : Str} {t u : Tok} {R : Result → Shared → Prop}
abbrev loopArgs (a : Addr) (x y : Str) (t u : Tok) (n p : Int) (l : Addr) : Args := ⟨[.ref a, .str x t, .str y u, .int 0 0, .int 0 0, .int n 0, .int p 0, .int p 0, .bool false, .ref l, .bool false], []⟩
def glueL (ys : List Str) : List Nat := (ys.map (·.cps.toList)).flatten
theorem foldl_glue (sep : Str) (hsep : sep.cps = #[]) : ∀ (ys : List Str) (acc : Array Nat), (ys.foldl (fun acc p => acc ++ sep.cps ++ p.cps) acc).toList = acc.toList ++ glueL ys
  | [], acc => by simp [glueL]
  | y :: ys, acc => by
    rw [List.foldl_cons, foldl_glue sep hsep ys, hsep]
    simp [glueL]
theorem join_glue {sep : Str} (hsep : sep.cps = #[]) (ys : List Str) : Txt.join sep ys = ⟨(glueL ys).toArray⟩ := by
  have : (Txt.join sep ys).cps.toList = glueL ys := by
    show ((ys.drop 1).foldl (fun acc p => acc ++ sep.cps ++ p.cps) (ys.headD Str.empty).cps).toList = _
    rw [foldl_glue sep hsep]
    cases ys with
    | nil => rfl
    | cons y ys => simp [glueL]
  cases hj : Txt.join sep ys with
  | mk c =>
    rw [hj] at this
    rw [← this]
theorem glueL_snoc (ys : List Str) (y : Str) : glueL (ys ++ [y]) = glueL ys ++ y.cps.toList := by simp [glueL]
theorem strsAre_snoc {vs : List Value} {ys : List Str} (h : StrsAre vs ys) (y : Str) (t : Tok) : StrsAre (vs ++ [.str y t]) (ys ++ [y]) := by
  induction h with
  | nil => exact .cons y t .nil
  | cons z tz _ ih => exact .cons z tz ih
theorem strsAre_length {vs : List Value} {ys : List Str} (h : StrsAre vs ys) : vs.length = ys.length := by
  induction h with
  | nil => rfl
  | cons z tz _ ih => simp [ih]

theorem push_wp {M : Model} {E : Value → Shared → Prop} {l : Addr} {items : Array Value} {k : Nat} {v : Value} {Q : Unit → Shared → Prop} (hl : s.heap.get? l = some (lst items k)) (hz : items.size ≤ 10000)
    (h : ∀ h', h'.get? l = some (lst (items.push v) (k + 1)) → (∀ b o, b ≠ l → s.heap.get? b = some o → h'.get? b = some o) → Q () { s with heap := h' }) : wpAny M A (updateSeq l (·.push v)) Q E s := by
  refine wpAny_updateSeq hl rfl (h _ ?_ ?_) (Nat.le_trans hz (by decide)) (by simp only [Array.size_push]; exact Nat.le_trans (Nat.succ_le_succ hz) (by decide))
  · have := Heap.get?_update_self (Obj.mapSeq (·.push v)) hl rfl
    rw [this]
    exact congrArg some (mapSeq_push items k v none #[])
  · intro b o hb e
    rw [Heap.get?_update_ne _ _ _ _ hb]; exact e
theorem slice_wp {M : Model} {E : Value → Shared → Prop} {text : Array Nat} {b e : Nat} {Q : Value → Shared → Prop} (hz : text.size ≤ 1000) (h : ∀ t tk, Q (.str ⟨text.extract b e⟩ t) { s with toks := tk }) : wpAny M A (reSlice text 0 b e) Q E s := by
  unfold reSlice
  rw [if_pos (by decide)]
  refine wpAny_mkStr (h _ _) ?_
  show (text.extract b e).size ≤ sizeLine
  rw [Array.size_extract]
  exact Nat.le_trans (by omega) (show 1000 ≤ sizeLine by decide)
theorem tail_wp {M : Model} {E : Value → Shared → Prop} {l : Addr} {items : Array Value} {k : Nat} {ys : List Str} {text : Array Nat} {Q : PySem.Fin → Shared → Prop} (hM : M = model prog w) (hl : s.heap.get? l = some (lst items k)) (hi : StrsAre items.toList ys)
    (hx : text.size ≤ 1000) (hys : (ys.map (·.length)).sum ≤ 16777216) (h : ∀ t tk, Q (.done (.ret (.str ⟨(glueL ys).toArray⟩ t))) { s with toks := tk }) :
    wpAny M A (do
      let joiner ← reSlice text 0 0 0
      let its ← seqItems? (.ref l)
      if (its.getD #[]).isEmpty = true then ret joiner else do
        let v ← call (.builtin "str.join") [joiner, .ref l]
        ret v) Q E s := by
  subst hM
  refine wpAny_bind (slice_wp hx fun tj tkj => ?_)
  refine wpAny_bind (wpAny_bind (wpAny_load hl (wpAny_pure ?_)))
  show wpAny _ _ (if items.isEmpty = true then ret _ else _) _ _ _
  by_cases he : items.isEmpty = true
  · rw [if_pos he]
    have e0 : items = #[] := Array.isEmpty_iff.mp he
    subst e0
    cases hi
    refine wpAny_pure ?_
    have e1 : text.extract 0 0 = (glueL []).toArray := by simp [glueL]
    rw [e1]
    exact h _ _
  · rw [if_neg he]
    refine wpAny_bind (join_list (s := { s with toks := tkj }) (items := items) ⟨_, hl, rfl, _, rfl⟩ hi (by rw [show (⟨text.extract 0 0⟩ : Str).length = 0 by simp [Str.length], Nat.mul_zero]; exact hys) fun t' k' => ?_)
    refine wpAny_pure ?_
    rw [join_glue (by simp)]
    exact h _ _
theorem loop_wp {l : Addr} (hla : l ≠ a) (hlc : l ≠ ct) (srch : Nat → Option (Nat × Nat)) (res : Nat → List Nat)
    (hs : ∀ p, p ≤ x.cps.size → ∃ k, k ≤ 4 * 2 ^ 64 ∧ Finds (Sre.forSearch code x.cps 0 p x.cps.size false) k (srch p))
    (hb : ∀ p b e, p ≤ x.cps.size → srch p = some (b, e) → p ≤ b ∧ b < e ∧ e ≤ x.cps.size)
    (rn : ∀ p, p ≤ x.cps.size → srch p = none → res p = (x.cps.extract p x.cps.size).toList)
    (rs : ∀ p b e, p ≤ x.cps.size → srch p = some (b, e) → res p = (x.cps.extract p b).toList ++ y.cps.toList ++ res e)
    (hx : x.cps.size ≤ 1000) (hy : y.cps.size ≤ 8) :
    ∀ (d p n : Nat) (s : Shared) (ys : List Str) (items : Array Value) (k : Nat), p + d = x.cps.size → IsPat s.heap a ct code → s.heap.get? l = some (lst items k) → StrsAre items.toList ys → ys.length ≤ 2 * p → (ys.map (·.length)).sum ≤ 9 * p →
      (∀ h' tk t, (∀ b o, b ≠ l → s.heap.get? b = some o → h'.get? b = some o) → R (.ok (.ret (.str ⟨(glueL ys ++ res p).toArray⟩ t))) { s with heap := h', toks := tk }) →
      codeAny (model prog w) A (.builtin "re.Pattern.sub.loop" (loopArgs a x y t u n p l)) R s := by
  intro d
  induction d using Nat.strongRecOn with
  | ind d ih =>
    intro p n s ys items k hd P hl hi hyl hys hR
    have hisz : items.size = ys.length := by rw [← strsAre_length hi]; simp
    refine codeAny_builtin entry_loop ?_
    unfold Builtin.«re.Pattern.sub.loop»
    show wpAny _ _ (do
      let t ← reWholeTarget (.ref a) (.str x t)
      _) _ _ _
    refine wpAny_bind (whole_wp P ?_)
    refine wpAny_bind (wpAny_bind (wpAny_pure (wpAny_pure ?_)))
    refine wpAny_bind ?_
    rw [if_neg (by simp)]
    obtain ⟨kk, hkk, hf⟩ := hs p (by omega)
    cases hsr : srch p with
    | none =>
      rw [hsr] at hf
      refine run_none hf hkk ?_
      have hrn := rn p (by omega) hsr
      by_cases hlt : p < x.cps.size
      · show wpAny _ _ (if ((p : Int).toNat < x.cps.size) then _ else _) _ _ _
        rw [if_pos (by omega)]
        refine wpAny_bind (slice_wp hx fun t1 tk1 => ?_)
        refine wpAny_bind (push_wp (s := { s with toks := tk1 }) hl (by omega) fun h' hl' hk' => ?_)
        refine tail_wp (s := { s with heap := h', toks := tk1 }) (ys := ys ++ [⟨x.cps.extract p x.cps.size⟩]) (text := x.cps) rfl hl' ?_ hx ?_ fun t2 tk2 => ?_
        · rw [Array.toList_push]; exact strsAre_snoc hi _ _
        · simp only [List.map_append, List.map_cons, List.map_nil, List.sum_append, List.sum_cons, List.sum_nil, Str.length, Array.size_extract] at hys ⊢
          omega
        · have := hR h' tk2 t2 hk'
          rw [hrn] at this
          rw [glueL_snoc]
          exact this
      · show wpAny _ _ (if ((p : Int).toNat < x.cps.size) then _ else _) _ _ _
        rw [if_neg (by omega)]
        refine tail_wp (ys := ys) (text := x.cps) rfl hl hi hx (by omega) fun t2 tk2 => ?_
        have := hR s.heap tk2 t2 fun _ _ _ e => e
        rw [hrn, show (x.cps.extract p x.cps.size).toList = [] by simp; omega, List.append_nil] at this
        exact this
    | some be =>
      obtain ⟨b, e⟩ := be
      rw [hsr] at hf
      refine run_some hf hkk fun mf h1 h2 => ?_
      obtain ⟨b1, b2, b3⟩ := hb p b e (by omega) hsr
      have hrs := rs p b e (by omega) hsr
      have hmust : (mf.handed == mf.start) = false := by rw [h1, h2]; exact beq_eq_false_iff_ne.mpr (by omega)
      have step : ∀ (s' : Shared) (ys' : List Str) (items' : Array Value) (k' : Nat), IsPat s'.heap a ct code → s'.heap.get? l = some (lst items' k') → StrsAre items'.toList ys' → ys'.length ≤ 2 * p + 1 → (ys'.map (·.length)).sum ≤ 8 * p + b →
          (∀ h' tk t, (∀ b o, b ≠ l → s'.heap.get? b = some o → h'.get? b = some o) → R (.ok (.ret (.str ⟨(glueL ys' ++ (y.cps.toList ++ res e)).toArray⟩ t))) { s' with heap := h', toks := tk }) →
          wpAny (model prog w) (A.under (.builtin "re.Pattern.sub.loop" (loopArgs a x y t u n p l))) (do
            updateSeq l (·.push (Value.str y u))
            again (.builtin "re.Pattern.sub.loop" ⟨[.ref a, .str x t, .str y u, rawInt 0, rawInt 0, rawInt ((n : Int) + 1), rawInt mf.handed, rawInt mf.handed, .bool (mf.handed == mf.start), .ref l, .bool false], []⟩))
            (fun fin s' => match fin with | .done f => R (.ok f) s' | .again c' => c'.quiet = true ∧ codeAny (model prog w) A c' R s') (fun e s' => R (.error e) s') s' := by
        intro s' ys' items' k' P' hl' hi' hyl' hys' hR'
        have hisz' : items'.size = ys'.length := by rw [← strsAre_length hi']; simp
        refine wpAny_bind (push_wp hl' (by omega) fun h'' hl'' hk'' => ?_)
        refine wpAny_pure ⟨Code.quiet_builtin _ (by decide +kernel), ?_⟩
        rw [hmust, h2]
        refine ih (x.cps.size - e) (by omega) e (n + 1) { s' with heap := h'' } (ys' ++ [y]) _ _ (by omega) (P'.keeps (fun o => hk'' a o (Ne.symm hla)) (fun o => hk'' ct o (Ne.symm hlc))) hl'' ?_ ?_ ?_ fun h3 tk3 t3 hk3 => ?_
        · rw [Array.toList_push]; exact strsAre_snoc hi' _ _
        · simp only [List.length_append, List.length_cons, List.length_nil]; omega
        · simp only [List.map_append, List.map_cons, List.map_nil, List.sum_append, List.sum_cons, List.sum_nil, Str.length] at hys' ⊢
          omega
        · have := hR' h3 tk3 t3 fun b' o' hb' e' => hk3 b' o' hb' (hk'' b' o' hb' e')
          rw [glueL_snoc, List.append_assoc]
          exact this
      by_cases hlt : p < b
      · show wpAny _ _ (if ((p : Int).toNat < mf.start) then _ else _) _ _ _
        rw [if_pos (by omega)]
        refine wpAny_bind (slice_wp hx fun t1 tk1 => ?_)
        refine wpAny_bind (push_wp (s := { s with toks := tk1 }) hl (by omega) fun h' hl' hk' => ?_)
        refine step { s with heap := h', toks := tk1 } (ys ++ [⟨x.cps.extract p mf.start⟩]) _ _ (P.keeps (fun o => hk' a o (Ne.symm hla)) (fun o => hk' ct o (Ne.symm hlc))) hl' ?_ ?_ ?_ fun h3 tk3 t3 hk3 => ?_
        · rw [Array.toList_push]; exact strsAre_snoc hi _ _
        · simp only [List.length_append, List.length_cons, List.length_nil]; omega
        · simp only [List.map_append, List.map_cons, List.map_nil, List.sum_append, List.sum_cons, List.sum_nil, Str.length, Array.size_extract] at hys ⊢
          omega
        · have := hR h3 tk3 t3 fun b' o' hb' e' => hk3 b' o' hb' (hk' b' o' hb' e')
          rw [hrs] at this
          rw [glueL_snoc, h1]
          simpa only [List.append_assoc] using this
      · show wpAny _ _ (if ((p : Int).toNat < mf.start) then _ else _) _ _ _
        rw [if_neg (by omega)]
        refine step s ys items k P hl hi (by omega) (by omega) fun h3 tk3 t3 hk3 => ?_
        have := hR h3 tk3 t3 hk3
        rw [hrs, show (x.cps.extract p b).toList = [] by simp; omega, List.nil_append] at this
        exact this
end
end Mine
end
section
set_option Elab.async false
set_option maxRecDepth 100000
namespace Mine
open PySem PySem.Builtin.Re PyProof.Rows
theorem named_sub (r v : Value) : reNamed "re.Pattern.sub" "sub" ["repl", "string", "count"] 2 [r, v] [] = pure [some r, some v, none] := rfl
section
variable {prog : Program} {w : World} {A : Around} {E : Value → Shared → Prop} {s : Shared} {a ct : Addr} {code : Array Nat} {x y : Str} {t u : Tok} {Q : Value → Shared → Prop}
theorem sub_call (P : IsPat s.heap a ct code) (srch : Nat → Option (Nat × Nat)) (res : Nat → List Nat)
    (hs : ∀ p, p ≤ x.cps.size → ∃ k, k ≤ 4 * 2 ^ 64 ∧ Finds (Sre.forSearch code x.cps 0 p x.cps.size false) k (srch p))
    (hb : ∀ p b e, p ≤ x.cps.size → srch p = some (b, e) → p ≤ b ∧ b < e ∧ e ≤ x.cps.size)
    (rn : ∀ p, p ≤ x.cps.size → srch p = none → res p = (x.cps.extract p x.cps.size).toList)
    (rs : ∀ p b e, p ≤ x.cps.size → srch p = some (b, e) → res p = (x.cps.extract p b).toList ++ y.cps.toList ++ res e)
    (hx : x.cps.size ≤ 1000) (hy : y.cps.size ≤ 8) (hy2 : y.cps.contains 92 = false)
    (hQ : ∀ h' tk t', (∀ b o, s.heap.get? b = some o → h'.get? b = some o) → Q (.str ⟨(res 0).toArray⟩ t') { s with heap := h', toks := tk }) :
    wpAny (model prog w) A (call (.builtin "re.Pattern.sub") [.ref a, .str y u, .str x t]) Q E s := by
  obtain ⟨x', y', u', v', e1⟩ := P.pat
  obtain ⟨nt, e2⟩ := P.tup
  refine wpAny_call (codeAny_call_builtin slot_sub.plain entry_sub (slot_sub.check _ _ _ _ _ _ _ _ (show s.TypeIs (.ref a) "re.Pattern" from ⟨_, e1, rfl⟩) (args_sub _ _ _) ?_))
  unfold Builtin.«re.Pattern.sub» reSubstitute
  show wpAny _ _ (do
    let named ← reNamed "re.Pattern.sub" "sub" ["repl", "string", "count"] 2 [.str y u, .str x t] []
    _) _ _ _
  rw [named_sub]
  refine wpAny_bind (wpAny_pure ?_)
  refine wpAny_bind (wpAny_pure ?_)
  refine wpAny_bind (wpAny_specialOf (typeIs_str _ _ _) str_no_call ?_)
  have hlit : (!y.cps.contains 92) = true := by rw [hy2]; rfl
  refine wpAny_bind (wpAny_pure ?_)
  refine wpAny_bind (wpAny_pure ?_)
  rw [hlit]
  refine wpAny_bind (wpAny_pure ?_)
  refine wpAny_bind (wpAny_holding (whole_wp P ?_))
  refine wpAny_bind (wpAny_newList ?_ (by decide))
  refine wpAny_pure ⟨Code.quiet_builtin _ (by decide +kernel), ?_⟩
  have lt1 := Heap.lt_size e1
  have lt2 := Heap.lt_size e2
  refine loop_wp (l := s.heap.objs.size) (Nat.ne_of_gt lt1) (Nat.ne_of_gt lt2) srch res hs hb rn rs hx hy x.cps.size 0 0 _ [] #[] 0 (by omega) (P.keeps (fun o e => Heap.get?_push_of_some _ e) (fun o e => Heap.get?_push_of_some _ e)) (Heap.get?_push_size _ rfl) .nil (Nat.le_refl _) (Nat.le_refl _) fun h' tk t' hk => ?_
  have := hQ h' tk t' fun b o e => hk b o (Nat.ne_of_lt (Heap.lt_size e)) (Heap.get?_push_of_some _ e)
  simpa only [glueL, List.map_nil, List.flatten_nil, List.nil_append] using this
end
end Mine
end
section
set_option Elab.async false
set_option maxRecDepth 100000
namespace Mine
open PySem PyProof.Rows

def nlF : List Nat → List Nat
  | [] => []
  | [c] => if c = 10 ∨ c = 13 then [13, 10] else [c]
  | c :: d :: r => if c = 13 ∧ d = 10 then 13 :: 10 :: nlF r else if c = 10 ∨ c = 13 then 13 :: 10 :: nlF (d :: r) else c :: nlF (d :: r)
theorem nlF_other {c : Nat} {r : List Nat} (h1 : c ≠ 10) (h2 : c ≠ 13) : nlF (c :: r) = c :: nlF r := by
  cases r with
  | nil => simp [nlF, h1, h2]
  | cons d r => simp [nlF, h1, h2]
theorem nlF_10 {r : List Nat} : nlF (10 :: r) = 13 :: 10 :: nlF r := by
  cases r with
  | nil => simp [nlF]
  | cons d r => simp [nlF]
theorem nlF_1310 {r : List Nat} : nlF (13 :: 10 :: r) = 13 :: 10 :: nlF r := by simp [nlF]
theorem nlF_13 {r : List Nat} (h : ∀ d r', r = d :: r' → d ≠ 10) : nlF (13 :: r) = 13 :: 10 :: nlF r := by
  cases r with
  | nil => simp [nlF]
  | cons d r => simp [nlF, h d r rfl]
def dotF : Bool → List Nat → List Nat
  | _, [] => []
  | b, c :: r => (if b = true ∧ c = 46 then [46, 46] else [c]) ++ dotF (c == 10) r

def first (P : Nat → Bool) : (fuel p : Nat) → Option Nat
  | 0, _ => none
  | f + 1, p => if P p = true then some p else first P f (p + 1)
theorem first_some {P : Nat → Bool} : ∀ {f p q : Nat}, first P f p = some q → p ≤ q ∧ q < p + f ∧ P q = true ∧ ∀ r, p ≤ r → r < q → ¬ P r = true
  | 0, _, _, h => nomatch h
  | f + 1, p, q, h => by
    unfold first at h
    by_cases hp : P p = true
    · rw [if_pos hp] at h
      cases h
      exact ⟨Nat.le_refl _, by omega, hp, fun r h1 h2 => absurd h2 (by omega)⟩
    · rw [if_neg hp] at h
      obtain ⟨a, b, c, d⟩ := first_some h
      refine ⟨by omega, by omega, c, fun r h1 h2 => ?_⟩
      by_cases hr : r = p
      · rw [hr]; exact hp
      · exact d r (by omega) h2
theorem first_none {P : Nat → Bool} : ∀ {f p : Nat}, first P f p = none → ∀ r, p ≤ r → r < p + f → ¬ P r = true
  | 0, _, _, r, h1, h2 => absurd h2 (by omega)
  | f + 1, p, h, r, h1, h2 => by
    unfold first at h
    by_cases hp : P p = true
    · rw [if_pos hp] at h; cases h
    · rw [if_neg hp] at h
      by_cases hr : r = p
      · rw [hr]; exact hp
      · exact first_none h r (by omega) (by omega)
section
variable (T : Array Nat)
theorem ext_cons {p q : Nat} (hpq : p < q) (hq : q ≤ T.size) : (T.extract p q).toList = T.getD p 0 :: (T.extract (p + 1) q).toList := by
  have hp : p < T.toList.length := by rw [Array.length_toList]; omega
  simp only [Array.toList_extract, List.extract_eq_take_drop, Array.getD_eq_getD_getElem?]
  rw [List.drop_eq_getElem_cons hp, show q - p = (q - (p + 1)) + 1 by omega, List.take_succ_cons]
  congr 1
  simp at hp
  simp [hp]
theorem drop_cons {p : Nat} (hp : p < T.size) : T.toList.drop p = T.getD p 0 :: T.toList.drop (p + 1) := by
  have hp' : p < T.toList.length := by rw [Array.length_toList]; omega
  rw [List.drop_eq_getElem_cons hp', Array.getD_eq_getD_getElem?]
  simp [hp]
theorem ext_nil (p : Nat) : (T.extract p p).toList = [] := by simp
theorem ext_all (p : Nat) : (T.extract p T.size).toList = T.toList.drop p := by
  simp only [Array.toList_extract, List.extract_eq_take_drop]
  rw [List.take_of_length_le]
  simp
/-- the line ends -/
def srch2 (p : Nat) : Option (Nat × Nat) := (first (fun q => T.getD q 0 == 10 || T.getD q 0 == 13) (T.size - p) p).map fun q => (q, end2 T T.size q)
def res2 (p : Nat) : List Nat := nlF (T.toList.drop p)
theorem res2_skip : ∀ (d p : Nat), p + d ≤ T.size → (∀ r, p ≤ r → r < p + d → T.getD r 0 ≠ 10 ∧ T.getD r 0 ≠ 13) → res2 T p = (T.extract p (p + d)).toList ++ res2 T (p + d)
  | 0, p, _, _ => by rw [Nat.add_zero, ext_nil, List.nil_append]
  | d + 1, p, hp, h => by
    rw [ext_cons T (by omega) hp, show p + (d + 1) = (p + 1) + d by omega, List.cons_append, ← res2_skip d (p + 1) (by omega) (fun r h1 h2 => h r (by omega) (by omega))]
    unfold res2
    rw [drop_cons T (by omega), nlF_other (h p (by omega) (by omega)).1 (h p (by omega) (by omega)).2]
theorem srch2_ok (p : Nat) (hp : p ≤ T.size) : ∃ k, k ≤ 3 * T.size + 25 ∧ Finds (Sre.forSearch code2 T 0 p T.size false) k (srch2 T p) := by
  unfold srch2
  have hb : ∀ r, hit2 T T.size r ↔ r < T.size ∧ (T.getD r 0 == 10 || T.getD r 0 == 13) = true := fun r => by unfold hit2; rw [Bool.or_eq_true, beq_iff_eq, beq_iff_eq]
  cases hf : first (fun q => T.getD q 0 == 10 || T.getD q 0 == 13) (T.size - p) p with
  | none =>
    have hn := first_none hf
    refine search2_none hp fun q hq hh => ?_
    exact hn q hq (by have := hh.1; omega) ((hb q).mp hh).2
  | some q =>
    obtain ⟨h1, h2, h3, h4⟩ := first_some hf
    exact search2_some h1 ((hb q).mpr ⟨by omega, h3⟩) fun r hr1 hr2 hh => h4 r hr1 hr2 ((hb r).mp hh).2
theorem srch2_lt (p b e : Nat) (_hp : p ≤ T.size) (h : srch2 T p = some (b, e)) : p ≤ b ∧ b < e ∧ e ≤ T.size := by
  unfold srch2 at h
  cases hf : first (fun q => T.getD q 0 == 10 || T.getD q 0 == 13) (T.size - p) p with
  | none => rw [hf] at h; cases h
  | some q =>
    rw [hf] at h
    cases h
    obtain ⟨h1, h2, h3, h4⟩ := first_some hf
    unfold end2
    split
    · rename_i hc; exact ⟨h1, by omega, by have := hc.2.1; omega⟩
    · exact ⟨h1, by omega, by omega⟩
theorem res2_none (p : Nat) (hp : p ≤ T.size) (h : srch2 T p = none) : res2 T p = (T.extract p T.size).toList := by
  unfold srch2 at h
  cases hf : first (fun q => T.getD q 0 == 10 || T.getD q 0 == 13) (T.size - p) p with
  | some q => rw [hf] at h; cases h
  | none =>
    have hn := first_none hf
    have := res2_skip T (T.size - p) p (by omega) fun r h1 h2 => by
      have := hn r h1 h2
      simp only [Bool.or_eq_true, beq_iff_eq] at this
      exact ⟨fun e => this (.inl e), fun e => this (.inr e)⟩
    rw [this, show p + (T.size - p) = T.size by omega]
    unfold res2
    rw [← Array.length_toList, List.drop_length]
    simp [nlF]
theorem res2_some (p b e : Nat) (hp : p ≤ T.size) (h : srch2 T p = some (b, e)) : res2 T p = (T.extract p b).toList ++ [13, 10] ++ res2 T e := by
  unfold srch2 at h
  cases hf : first (fun q => T.getD q 0 == 10 || T.getD q 0 == 13) (T.size - p) p with
  | none => rw [hf] at h; cases h
  | some q =>
    rw [hf] at h
    cases h
    obtain ⟨h1, h2, h3, h4⟩ := first_some hf
    have := res2_skip T (b - p) p (by omega) fun r h1 h2 => by
      have := h4 r h1 (by omega)
      simp only [Bool.or_eq_true, beq_iff_eq] at this
      exact ⟨fun e => this (.inl e), fun e => this (.inr e)⟩
    rw [this, show p + (b - p) = b by omega, List.append_assoc]
    congr 1
    have hq : b < T.size := by omega
    unfold res2 end2
    rw [drop_cons T hq]
    simp only [Bool.or_eq_true, beq_iff_eq] at h3
    by_cases hc : T.getD b 0 = 13 ∧ b + 1 < T.size ∧ T.getD (b + 1) 0 = 10
    · rw [if_pos hc, hc.1, drop_cons T hc.2.1, hc.2.2, nlF_1310]; rfl
    · rw [if_neg hc]
      rcases h3 with h3 | h3
      · rw [h3, nlF_10]; rfl
      · rw [h3, nlF_13]
        · rfl
        · intro d r' he hd
          refine hc ⟨h3, ?_⟩
          have hlt : b + 1 < T.size := by
            refine Nat.lt_of_not_le fun hl => ?_
            rw [List.drop_eq_nil_of_le (by rw [Array.length_toList]; exact hl)] at he
            cases he
          rw [drop_cons T hlt] at he
          exact ⟨hlt, by rw [← hd]; exact (List.cons.inj he).1⟩
/-- the dots at a line's start -/
def bol (q : Nat) : Bool := q == 0 || T.getD (q - 1) 0 == 10
def srch1 (p : Nat) : Option (Nat × Nat) := (first (fun q => bol T q && T.getD q 0 == 46) (T.size - p) p).map fun q => (q, q + 1)
def res1 (p : Nat) : List Nat := dotF (bol T p) (T.toList.drop p)
theorem bol_succ (p : Nat) : bol T (p + 1) = (T.getD p 0 == 10) := by simp [bol]
theorem res1_skip : ∀ (d p : Nat), p + d ≤ T.size → (∀ r, p ≤ r → r < p + d → ¬ (bol T r = true ∧ T.getD r 0 = 46)) → res1 T p = (T.extract p (p + d)).toList ++ res1 T (p + d)
  | 0, p, _, _ => by rw [Nat.add_zero, ext_nil, List.nil_append]
  | d + 1, p, hp, h => by
    rw [ext_cons T (by omega) hp, show p + (d + 1) = (p + 1) + d by omega, List.cons_append, ← res1_skip d (p + 1) (by omega) (fun r h1 h2 => h r (by omega) (by omega))]
    unfold res1
    rw [drop_cons T (by omega), dotF, if_neg (h p (by omega) (by omega)), bol_succ]; rfl
theorem hit1_iff (r : Nat) : hit1 T T.size r ↔ r < T.size ∧ (bol T r && T.getD r 0 == 46) = true := by
  unfold hit1 bol
  rw [Bool.and_eq_true, Bool.or_eq_true, beq_iff_eq, beq_iff_eq, beq_iff_eq]
  exact ⟨fun h => ⟨h.2.1, h.1, h.2.2⟩, fun h => ⟨h.2.1, h.1, h.2.2⟩⟩
theorem srch1_ok (p : Nat) (hp : p ≤ T.size) : ∃ k, k ≤ 3 * T.size + 25 ∧ Finds (Sre.forSearch code1 T 0 p T.size false) k (srch1 T p) := by
  unfold srch1
  cases hf : first (fun q => bol T q && T.getD q 0 == 46) (T.size - p) p with
  | none =>
    have hn := first_none hf
    obtain ⟨k, hk, h⟩ := search1_none hp fun q hq hh => hn q hq (by have := hh.2.1; omega) ((hit1_iff T q).mp hh).2
    exact ⟨k, by omega, h⟩
  | some q =>
    obtain ⟨h1, h2, h3, h4⟩ := first_some hf
    obtain ⟨k, hk, h⟩ := search1_some h1 ((hit1_iff T q).mpr ⟨by omega, h3⟩) fun r hr1 hr2 hh => h4 r hr1 hr2 ((hit1_iff T r).mp hh).2
    exact ⟨k, by omega, h⟩
theorem srch1_lt (p b e : Nat) (_hp : p ≤ T.size) (h : srch1 T p = some (b, e)) : p ≤ b ∧ b < e ∧ e ≤ T.size := by
  unfold srch1 at h
  cases hf : first (fun q => bol T q && T.getD q 0 == 46) (T.size - p) p with
  | none => rw [hf] at h; cases h
  | some q =>
    rw [hf] at h
    cases h
    obtain ⟨h1, h2, h3, h4⟩ := first_some hf
    exact ⟨h1, by omega, by omega⟩
theorem res1_none (p : Nat) (hp : p ≤ T.size) (h : srch1 T p = none) : res1 T p = (T.extract p T.size).toList := by
  unfold srch1 at h
  cases hf : first (fun q => bol T q && T.getD q 0 == 46) (T.size - p) p with
  | some q => rw [hf] at h; cases h
  | none =>
    have hn := first_none hf
    have := res1_skip T (T.size - p) p (by omega) fun r h1 h2 hh => hn r h1 h2 (by rw [hh.1, hh.2]; rfl)
    rw [this, show p + (T.size - p) = T.size by omega]
    unfold res1
    rw [← Array.length_toList, List.drop_length]
    simp [dotF]
theorem res1_some (p b e : Nat) (hp : p ≤ T.size) (h : srch1 T p = some (b, e)) : res1 T p = (T.extract p b).toList ++ [46, 46] ++ res1 T e := by
  unfold srch1 at h
  cases hf : first (fun q => bol T q && T.getD q 0 == 46) (T.size - p) p with
  | none => rw [hf] at h; cases h
  | some q =>
    rw [hf] at h
    cases h
    obtain ⟨h1, h2, h3, h4⟩ := first_some hf
    have := res1_skip T (b - p) p (by omega) fun r h1 h2 hh => h4 r h1 (by omega) (by rw [hh.1, hh.2]; rfl)
    rw [this, show p + (b - p) = b by omega, List.append_assoc]
    congr 1
    have hq : b < T.size := by omega
    unfold res1
    simp only [Bool.and_eq_true, beq_iff_eq] at h3
    rw [drop_cons T hq, dotF, if_pos h3, bol_succ]
end
section
variable {prog : Program} {w : World} {A : Around} {E : Value → Shared → Prop} {s : Shared} {a ct : Addr} {x : Str} {t u : Tok} {Q : Value → Shared → Prop}
theorem sub2_call (P : IsPat s.heap a ct code2) (hx : x.cps.size ≤ 1000)
    (hQ : ∀ h' tk t', (∀ b o, s.heap.get? b = some o → h'.get? b = some o) → Q (.str ⟨(nlF x.cps.toList).toArray⟩ t') { s with heap := h', toks := tk }) :
    wpAny (model prog w) A (call (.builtin "re.Pattern.sub") [.ref a, .str (Str.ofString "\u000d\n") u, .str x t]) Q E s := by
  have e : (Str.ofString "\u000d\n").cps = #[13, 10] := by decide +kernel
  refine sub_call P (srch2 x.cps) (res2 x.cps) (fun p hp => ?_) (srch2_lt x.cps) (res2_none x.cps) (fun p b e' h1 h2 => ?_) hx (by rw [e]; decide) (by rw [e]; decide +kernel) hQ
  · obtain ⟨k, hk, h⟩ := srch2_ok x.cps p hp
    exact ⟨k, by omega, h⟩
  · rw [e]; exact res2_some x.cps p b e' h1 h2
theorem sub1_call (P : IsPat s.heap a ct code1) (hx : x.cps.size ≤ 1000)
    (hQ : ∀ h' tk t', (∀ b o, s.heap.get? b = some o → h'.get? b = some o) → Q (.str ⟨(dotF true x.cps.toList).toArray⟩ t') { s with heap := h', toks := tk }) :
    wpAny (model prog w) A (call (.builtin "re.Pattern.sub") [.ref a, .str (Str.ofString "..") u, .str x t]) Q E s := by
  have e : (Str.ofString "..").cps = #[46, 46] := by decide +kernel
  refine sub_call P (srch1 x.cps) (res1 x.cps) (fun p hp => ?_) (srch1_lt x.cps) (res1_none x.cps) (fun p b e' h1 h2 => ?_) hx (by rw [e]; decide) (by rw [e]; decide +kernel) hQ
  · obtain ⟨k, hk, h⟩ := srch1_ok x.cps p hp
    exact ⟨k, by omega, h⟩
  · rw [e]; exact res1_some x.cps p b e' h1 h2
end
end Mine
end
section
open PySem PySem.W PyProof.Rows
set_option Elab.async false
set_option maxRecDepth 100000
set_option maxHeartbeats 8000000
namespace Mine
def drawn (ns : List Int) (k : Int) : Int := if k < (ns.length : Int) then (ns.getD k.toNat 0).fmod 18 else (k * 7).fmod 18
theorem drawn_pos {ns : List Int} {k : Int} (h : k < (ns.length : Int)) : drawn ns k = (ns.getD k.toNat 0).fmod 18 := if_pos h
theorem drawn_neg {ns : List Int} {k : Int} (h : ¬ k < (ns.length : Int)) : drawn ns k = (k * 7).fmod 18 := if_neg h
theorem drawn_lo (ns : List Int) (k : Int) : 0 ≤ drawn ns k := by
  unfold drawn
  split
  · rw [Int.fmod_eq_emod_of_nonneg _ (by decide)]; exact Int.emod_nonneg _ (by decide)
  · rw [Int.fmod_eq_emod_of_nonneg _ (by decide)]; exact Int.emod_nonneg _ (by decide)
theorem drawn_hi (ns : List Int) (k : Int) : drawn ns k < 18 := by
  unfold drawn
  split
  · rw [Int.fmod_eq_emod_of_nonneg _ (by decide)]; exact Int.emod_lt_of_pos _ (by decide)
  · rw [Int.fmod_eq_emod_of_nonneg _ (by decide)]; exact Int.emod_lt_of_pos _ (by decide)

def tailOf (d : Int) : Str := if d = 0 then Str.ofString "" else if d = 1 then Str.ofString "a" else if d = 2 then Str.ofString "a.." else if d = 3 then Str.ofString "=" else if d = 4 then Str.ofString ";." else Str.ofString "-"
def rowOf (ns : List Int) (k : Int) : Str := Str.ofString "." ++ tailOf ((drawn ns k).fdiv 3)

theorem drawn_c {w : World} {loose : List Str} {mean : ExcName → Option Value} {mg mb : Str → Option Value}
    {dp un : Nat} {gd : Option (List Code)} {cn : Str} {cs : Scope} {a : Addr} {ccd : Value} {cl : List (Str × Addr)} {outer : List Env} {A₀ : Around} {base h₀ : Heap} {L : Addr} {m : Str → Option Value} {news : List (Addr × Obj)} {s : Shared} {Q E : Value → Shared → Prop}
    (B : Below A₀ base outer h₀) (F : Fr h₀ L s.heap m) (X : (hd.heap_39 w.params).In h₀) (N : News h₀ L s.heap news) (T : Top hd.view_39 loose mean mg mb h₀) (hk : cs.kind = .function)
    {l : Addr} {vs : List Value} {ns : List Int} (hl : base.IsList l vs.toArray) (hi : IntsAre vs ns) (hn : ns.length < 2 ^ 62) {k : Int} {t : Tok} (h0 : 0 ≤ k) (h1 : k < 1000)
    (hdp : dp + 1 < recursionLimit) (hu : un + 8 < cLine)
    (hret : ∀ (t : Tok) (h' : Heap) (tk' : Nat), Fr h₀ L h' m → News h₀ L h' news → 0 ≤ drawn ns k → drawn ns k < 18 → Q (.int (drawn ns k) t) { s with heap := h', toks := tk' }) :
    wpAny (model PySem.Challenge.rw_rl0009_01.row.prog w) (ktrTop dp un gd cn cs L a ccd cl outer) (call (.ref 78) [.ref l, .int k t]) Q E s := by
  revert X; k_fill; intro X
  refine wpAny_call ?_
  k_dflt cell_enter
  k_steps
  · rw [← drawn_pos (by assumption)]; exact hret _ _ _ (by k_asm) (by k_asm) (drawn_lo _ _) (drawn_hi _ _)
  · rw [← drawn_neg (by assumption)]; exact hret _ _ _ (by k_asm) (by k_asm) (drawn_lo _ _) (drawn_hi _ _)

local macro_rules | `(tactic| walk_at "call ref") => `(tactic| (
  k_here
  (with_reducible show wpAny _ _ (call (Value.ref 78) [Value.ref _, Value.int _ _]) _ _ _)
  refine' drawn_c ?k1 ?k2 ?k3 ?k4 ?k5 ?kK ?kl ?ki ?kt ?k0 ?kh ?kd ?ku ?kR
  (case k1 => k_asm)
  (case k2 => k_asm)
  (case k3 => k_asm)
  (case k4 => k_asm)
  (case k5 => k_asm)
  (case kK => first | exact rfl | assumption)
  (case kl => k_asm)
  (case ki => l_ints)
  (case kt => l_fit)
  (case k0 => (first | assumption | omega))
  (case kh => (first | assumption | omega))
  (case kd => ktr_room)
  (case ku => ktr_units)
  intro t9 h9 tk9 F9 N9 dl9 dh9
  (try dsimp only)
  (try k_fold)))

theorem tailOf_len (d : Int) : (tailOf d).length ≤ 3 := by
  unfold tailOf
  repeat' split
  all_goals decide
theorem six {d : Int} (h0 : 0 ≤ d) (h5 : d ≤ 5) (t0 t1 t2 t3 t4 t5 : Tok) :
    ∃ tok, [Value.str (Str.ofString "") t0, Value.str (Str.ofString "a") t1, Value.str (Str.ofString "a..") t2, Value.str (Str.ofString "=") t3, Value.str (Str.ofString ";.") t4, Value.str (Str.ofString "-") t5][d.toNat]? = some (Value.str (tailOf d) tok) := by
  have h : d = 0 ∨ d = 1 ∨ d = 2 ∨ d = 3 ∨ d = 4 ∨ d = 5 := by omega
  rcases h with rfl | rfl | rfl | rfl | rfl | rfl
  all_goals exact ⟨_, rfl⟩
theorem seqIndex_in {k : Int} {n : Nat} (h0 : 0 ≤ k) (h1 : k < (n : Int)) : seqIndex? k n = some k.toNat := by
  have h2 : ¬ k < 0 := by omega
  simp [seqIndex?, h0, h1, h2]
theorem step6 {prog : Program} {w : World} {A : Around} {E : Value → Shared → Prop} {s : Shared} {value slice : PySem.Expr} {g : Heap} {L D : Addr} {news : List (Addr × Obj)} {d : Int} {u t0 t1 t2 t3 t4 t5 : Tok} {Q : Value → Shared → Prop}
    (N : News g L s.heap ((D, { cls := .type "tuple", data := .seq #[Value.str (Str.ofString "") t0, Value.str (Str.ofString "a") t1, Value.str (Str.ofString "a..") t2, Value.str (Str.ofString "=") t3, Value.str (Str.ofString ";.") t4, Value.str (Str.ofString "-") t5] }) :: news))
    (h0 : 0 ≤ d) (h5 : d ≤ 5) (h : ∀ tok, (tailOf d).length ≤ 3 → Q (.str (tailOf d) tok) s)
    (hs : subscripted slice false (.ref D) (.int d u) = operate [.ref D, .int d u] (getItem (.ref D) (.int d u))) :
    wpAny (model prog w) A (subscriptTail value slice (.ref D) (.int d u)) Q E s := by
  obtain ⟨tok, ht⟩ := six h0 h5 t0 t1 t2 t3 t4 t5
  exact item_tupleT (News.isTup N (.head _)) (by omega) (by omega) (seqIndex_in h0 (by simp only [List.length_cons, List.length_nil]; omega)) ht (h tok (tailOf_len d)) hs
theorem fdiv3 {d : Int} (h0 : 0 ≤ d) (h1 : d < 18) : 0 ≤ d.fdiv 3 ∧ d.fdiv 3 ≤ 5 := by
  rw [Int.fdiv_eq_ediv_of_nonneg _ (by decide)]; omega
local macro_rules | `(tactic| walk_at "subscriptTail") => `(tactic| (
  k_here
  (with_reducible show wpAny _ _ (subscriptTail _ _ (Value.ref _) (Value.int (Int.fdiv _ 3) _)) _ _ _)
  refine' step6 ?k1 ?k2 ?k3 ?_ ?k5
  (case k1 => k_asm)
  (case k2 => exact (fdiv3 (by assumption) (by assumption)).1)
  (case k3 => exact (fdiv3 (by assumption) (by assumption)).2)
  (case k5 => with_unfolding_all rfl)
  intro t9 hz9))

theorem row_c {w : World} {loose : List Str} {mean : ExcName → Option Value} {mg mb : Str → Option Value}
    {dp un : Nat} {gd : Option (List Code)} {cn : Str} {cs : Scope} {a : Addr} {ccd : Value} {cl : List (Str × Addr)} {outer : List Env} {A₀ : Around} {base h₀ : Heap} {L : Addr} {m : Str → Option Value} {news : List (Addr × Obj)} {s : Shared} {Q E : Value → Shared → Prop}
    (B : Below A₀ base outer h₀) (F : Fr h₀ L s.heap m) (X : (hd.heap_39 w.params).In h₀) (N : News h₀ L s.heap news) (T : Top hd.view_39 loose mean mg mb h₀) (hk : cs.kind = .function)
    {l : Addr} {vs : List Value} {ns : List Int} (hl : base.IsList l vs.toArray) (hi : IntsAre vs ns) (hn : ns.length < 2 ^ 62) {k : Int} {t : Tok} (h0 : 0 ≤ k) (h1 : k < 1000)
    (hdp : dp + 2 < recursionLimit) (hu : un + 16 < cLine)
    (hret : ∀ (t : Tok) (h' : Heap) (tk' : Nat), Fr h₀ L h' m → News h₀ L h' news → Q (.str (rowOf ns k) t) { s with heap := h', toks := tk' }) :
    wpAny (model PySem.Challenge.rw_rl0009_01.row.prog w) (ktrTop dp un gd cn cs L a ccd cl outer) (call (.ref 85) [.ref l, .int k t]) Q E s := by
  revert X; k_fill; intro X
  refine wpAny_call ?_
  k_dflt cell_enter
  k_steps
  exact hret _ _ _ (by k_asm) (cb_drop (news' := _ :: news) (by k_asm) fun p hp => .tail _ hp)
end Mine
end
section
open PySem PySem.W PyProof.Rows
set_option Elab.async false
set_option maxRecDepth 100000
set_option maxHeartbeats 8000000
namespace Mine
theorem tab1 : code1.map (fun (c : Nat) => Value.int (c : Int) 0) = #[Value.int 14 0, Value.int 4 0, Value.int 0 0, Value.int 1 0, Value.int 1 0, Value.int 6 0, Value.int 1 0, Value.int 16 0, Value.int 46 0, Value.int 1 0] := by simp [code1]
theorem tab2 : code2.map (fun (c : Nat) => Value.int (c : Int) 0) = #[Value.int 14 0, Value.int 9 0, Value.int 4 0, Value.int 1 0, Value.int 2 0, Value.int 16 0, Value.int 10 0, Value.int 16 0, Value.int 13 0, Value.int 0 0, Value.int 7 0, Value.int 7 0, Value.int 16 0, Value.int 13 0, Value.int 16 0, Value.int 10 0, Value.int 15 0, Value.int 18 0, Value.int 5 0, Value.int 16 0, Value.int 10 0, Value.int 15 0, Value.int 13 0, Value.int 11 0, Value.int 16 0, Value.int 13 0, Value.int 5 0, Value.int 5 0, Value.int 0 0, Value.int 16 0, Value.int 10 0, Value.int 1 0, Value.int 15 0, Value.int 2 0, Value.int 0 0, Value.int 1 0] := by simp [code2]
theorem pat1_at {w : World} {h : Heap} (X : (hd.heap_39 w.params).In h) : IsPat h 45 44 code1 := by
  refine ⟨⟨_, _, _, _, X 45 _ rfl⟩, ⟨0, ?_⟩⟩
  rw [tab1]
  exact X 44 _ rfl
theorem pat2_at {w : World} {h : Heap} (X : (hd.heap_39 w.params).In h) : IsPat h 50 49 code2 := by
  refine ⟨⟨_, _, _, _, X 50 _ rfl⟩, ⟨0, ?_⟩⟩
  rw [tab2]
  exact X 49 _ rfl
theorem pat_method {M : Model} {A : Around} {E : Value → Shared → Prop} {s : Shared} {a ct : Addr} {code : Array Nat} {pl : Sem Bool} {Q : Value × List Value → Shared → Prop} (P : IsPat s.heap a ct code) (h : Q (.builtin "re.Pattern.sub", [.ref a]) s) :
    wpAny M A (getMethod (.ref a) (Str.ofString "sub") pl) Q E s := by
  obtain ⟨x', y', u', v', e1⟩ := P.pat
  exact getMethod_builtin (show s.TypeIs (.ref a) "re.Pattern" from ⟨_, e1, rfl⟩) plainAttrs_pat slot_sub type_sub (fun b hb => by cases hb; exact ⟨_, e1, rfl⟩) h
local macro_rules | `(tactic| walk_at "getMethod ref") => `(tactic| (
  k_here
  (with_reducible show wpAny _ _ (getMethod (Value.ref 45) (PySem.Str.ofString "sub") _) _ _ _)
  refine pat_method (pat1_at (Frag.In.keeps (by k_asm) (Fr.keep (by k_asm)))) ?_))
local macro_rules | `(tactic| walk_at "getMethod ref") => `(tactic| (
  k_here
  (with_reducible show wpAny _ _ (getMethod (Value.ref 50) (PySem.Str.ofString "sub") _) _ _ _)
  refine pat_method (pat2_at (Frag.In.keeps (by k_asm) (Fr.keep (by k_asm)))) ?_))
theorem nlF_len : ∀ l : List Nat, (nlF l).length ≤ 2 * l.length
  | [] => Nat.le_refl _
  | [c] => by
    unfold nlF
    split
    · exact Nat.le_refl _
    · simp
  | c :: d :: r => by
    have i1 := nlF_len r
    have i2 := nlF_len (d :: r)
    unfold nlF
    split
    · simp only [List.length_cons] at *; omega
    · split
      · simp only [List.length_cons] at *; omega
      · simp only [List.length_cons] at *; omega
section
variable {prog : Program} {w : World} {A : Around} {E : Value → Shared → Prop} {s : Shared} {a ct : Addr} {x : Str} {t u : Tok} {Q : Value → Shared → Prop} {g : Heap} {L : Addr} {m : Str → Option Value} {news : List (Addr × Obj)}
theorem fr_keeps {h h' : Heap} (F : Fr g L h m) (hk : ∀ b o, h.get? b = some o → h'.get? b = some o) : Fr g L h' m :=
  ⟨F.ns.at' fun o e => hk _ o e, fun b o e => hk b o (F.keep b o e), F.above⟩
theorem news_keeps {h h' : Heap} (N : News g L h news) (hk : ∀ b o, h.get? b = some o → h'.get? b = some o) : News g L h' news := fun p hp => ⟨hk _ _ (N p hp).1, (N p hp).2⟩
theorem sub2_K (F : Fr g L s.heap m) (N : News g L s.heap news) (P : IsPat s.heap a ct code2) (hx : x.cps.size ≤ 400)
    (hQ : ∀ h' tk t', Fr g L h' m → News g L h' news → (⟨(nlF x.cps.toList).toArray⟩ : Str).cps.size ≤ 1000 → Q (.str ⟨(nlF x.cps.toList).toArray⟩ t') { s with heap := h', toks := tk }) :
    wpAny (model prog w) A (call (.builtin "re.Pattern.sub") [.ref a, .str (Str.ofString "\u000d\n") u, .str x t]) Q E s :=
  sub2_call P (by omega) fun h' tk t' hk => hQ h' tk t' (fr_keeps F hk) (news_keeps N hk) (by
    have := nlF_len x.cps.toList
    simp only [List.size_toArray, Array.length_toList] at *
    omega)
theorem sub1_K (F : Fr g L s.heap m) (N : News g L s.heap news) (P : IsPat s.heap a ct code1) (hx : x.cps.size ≤ 1000)
    (hQ : ∀ h' tk t', Fr g L h' m → News g L h' news → Q (.str ⟨(dotF true x.cps.toList).toArray⟩ t') { s with heap := h', toks := tk }) :
    wpAny (model prog w) A (call (.builtin "re.Pattern.sub") [.ref a, .str (Str.ofString "..") u, .str x t]) Q E s :=
  sub1_call P hx fun h' tk t' hk => hQ h' tk t' (fr_keeps F hk) (news_keeps N hk)
end
local macro_rules | `(tactic| walk_at "call builtin:re.Pattern.sub") => `(tactic| (
  k_here
  first
  | (refine' sub2_K ?k1 ?k2 ?k3 ?k4 ?_
     (case k1 => k_asm)
     (case k2 => k_asm)
     (case k3 => exact pat2_at (Frag.In.keeps (by k_asm) (Fr.keep (by k_asm))))
     (case k4 => assumption)
     intro h9 tk9 t9 F9 N9 z9)
  | (refine' sub1_K ?k1 ?k2 ?k3 ?k4 ?_
     (case k1 => k_asm)
     (case k2 => k_asm)
     (case k3 => exact pat1_at (Frag.In.keeps (by k_asm) (Fr.keep (by k_asm))))
     (case k4 => assumption)
     intro h9 tk9 t9 F9 N9)))
theorem quote_c {w : World} {loose : List Str} {mean : ExcName → Option Value} {mg mb : Str → Option Value}
    {dp un : Nat} {gd : Option (List Code)} {cn : Str} {cs : Scope} {a : Addr} {ccd : Value} {cl : List (Str × Addr)} {outer : List Env} {A₀ : Around} {base h₀ : Heap} {L : Addr} {m : Str → Option Value} {news : List (Addr × Obj)} {s : Shared} {Q E : Value → Shared → Prop}
    (B : Below A₀ base outer h₀) (F : Fr h₀ L s.heap m) (X : (hd.heap_39 w.params).In h₀) (N : News h₀ L s.heap news) (T : Top hd.view_39 loose mean mg mb h₀) (hk : cs.kind = .function)
    {x : Str} {t : Tok} (hx : x.cps.size ≤ 400)
    (hdp : dp + 1 < recursionLimit) (hu : un + 8 < cLine)
    (hret : ∀ (t : Tok) (h' : Heap) (tk' : Nat), Fr h₀ L h' m → News h₀ L h' news → Q (.str ⟨(dotF true (nlF x.cps.toList)).toArray⟩ t) { s with heap := h', toks := tk' }) :
    wpAny (model PySem.Challenge.rw_rl0009_01.row.prog w) (ktrTop dp un gd cn cs L a ccd cl outer) (call (.ref 57) [.str x t]) Q E s := by
  revert X; k_fill; intro X
  refine wpAny_call ?_
  k_dflt cell_enter
  k_steps
  exact hret _ _ _ (by k_asm) (by k_asm)
end Mine
end
section
open PySem PySem.W PyProof.Rows PySem.Calls PyProof.V PySem.Spec
set_option Elab.async false
set_option maxRecDepth 100000
set_option maxHeartbeats 8000000
namespace Mine
section
variable {prog : Program} {w : World} {A : Around} {E : Value → Shared → Prop} {s : Shared} {env : Env} {h₀ : Heap} {body : List Stmt} {Q : Flow → Shared → Prop}
theorem enum_inv {elts : List PySem.Expr} {k : Nat} {pos : Pos} {l : Addr} {lo : Obj} {vs : List Value} {n : Nat} {m₀ : Str → Option Value} {news : List (Addr × Obj)}
    (hh : A.handled = none) (F : Fr h₀ env.locals s.heap m₀) (N : News h₀ env.locals s.heap news) (hm : (l, lo) ∈ news) (hc : lo.cls = .type "list") (hd : lo.data = .seq vs.toArray n)
    (J : Nat → (Str → Option Value) → Prop) (hj : J 0 m₀)
    (turn : ∀ (i : Nat) (v : Value) (T : Addr) (t : Tok) (m₁ : Str → Option Value) (h : Heap) (tk : Nat) (e I : Addr) (oe oi : Obj), vs[i]? = some v → J i m₁ → IsTup h T #[.int (i : Int) t, v] → Fr h₀ env.locals h m₁ → News h₀ env.locals h ((e, oe) :: (I, oi) :: news) →
      wpAny (model prog w) A (assign (.Tuple elts k pos) env (.ref T)) (fun _ s₂ => wpAny (model prog w) A (execs body env)
        (fun f s₃ => f = .next ∧ ∃ h' tk' m', s₃ = { s with heap := h', toks := tk' } ∧ Fr h₀ env.locals h' m' ∧ News h₀ env.locals h' ((e, oe) :: (I, oi) :: news) ∧ J (i + 1) m') E s₂) E { s with heap := h, toks := tk })
    (done : ∀ m₁ h tk, J vs.length m₁ → Fr h₀ env.locals h m₁ → News h₀ env.locals h news → Q .next { s with heap := h, toks := tk }) :
    wpAny (model prog w) A (call (.type "enumerate") [.ref l]) (fun xv s₁ => wpAny (model prog w) A (pyIter xv) (fun it s₂ => TurnsAt prog w A h₀ env (.Tuple elts k pos) body Q E it s₂) E s₁) E s := by
  have hax := N _ hm
  have hl : s.heap.IsList l vs.toArray := ⟨lo, hax.1, hc, n, hd⟩
  have hlt : l < s.heap.objs.size := Heap.lt_size hax.1
  have hLs : env.locals < s.heap.objs.size := F.ns.lt
  refine call_enumerate_list hl fun h' hE hI hsz hk => ?_
  refine wpAny_pyIter_enum hE ?_
  have W := KTurns.ofWalksU (elts := elts) (k := k) (pos := pos) (WalksT.enumerate (prog := prog) (w := w) hh (s.heap.objs.size + 1) s.heap.objs.size l (Nat.succ_ne_self _) (ktu_ne 1 hlt) (Nat.ne_of_lt hlt) vs.toArray).toU
  refine ⟨_, _, _, vs.toArray.size, _, _, _, m₀, news, fun i m' nw => nw = news ∧ J i m', rfl, W, ?_, ?_, ?_, ⟨⟨.none, hE⟩, hI, hl.at fun o e => hk l o e⟩, F.keeps hk, N.grown hk, ⟨rfl, hj⟩, ?_, ?_⟩
  · intro hI'
    have hb' : env.locals = s.heap.objs.size + 1 ∨ env.locals = s.heap.objs.size ∨ env.locals = l := by simpa using hI'
    rcases hb' with e | e | e
    · exact ktu_ne 1 hLs e
    · exact Nat.ne_of_lt hLs e
    · exact hax.2.1 e.symm
  · intro b hb
    have hb' : b = s.heap.objs.size + 1 ∨ b = s.heap.objs.size := by simpa using hb
    rcases hb' with rfl | rfl
    · exact ktu_new F (Nat.le_add_right _ _)
    · exact ktu_new F (Nat.le_refl _)
  · intro p hp hI'
    have hb' : p.1 = s.heap.objs.size + 1 ∨ p.1 = s.heap.objs.size := by simpa using hI'
    have hlp := Heap.lt_size (N p hp).1
    rcases hb' with e | e
    · exact ktu_ne 1 hlp e
    · exact Nat.ne_of_lt hlp e
  · rintro i v m₁ news₁ h₁ tk₁ own hin ⟨T, vals, rfl, ⟨t, x, hx, rfl⟩, hT⟩ ⟨rfl, hJ⟩ hoff hsub hget hall hst F₁ N₁
    obtain ⟨⟨old, he⟩, ⟨oi, hoi, hic, _⟩, _⟩ := hst
    have he1 : ∃ oe : Obj, h₁.get? (s.heap.objs.size + 1) = some oe := ⟨_, he⟩
    obtain ⟨oe, hoe⟩ := he1
    have m1 := hall (s.heap.objs.size + 1) (by simp) (ktu_new F (Nat.le_add_right _ _)) oe hoe
    have m2 := hall s.heap.objs.size (by simp) (ktu_new F (Nat.le_refl _)) oi hoi
    have N₂ : News h₀ env.locals h₁ ((s.heap.objs.size + 1, oe) :: (s.heap.objs.size, oi) :: news₁) := by
      intro p hp
      rcases List.mem_cons.mp hp with rfl | hp
      · exact N₁ _ (List.mem_append_left _ m1)
      · rcases List.mem_cons.mp hp with rfl | hp
        · exact N₁ _ (List.mem_append_left _ m2)
        · exact N₁ _ (List.mem_append_right _ hp)
    have hx' : vs[i]? = some x := by simpa using hx
    refine wpAny_mono (turn i x T t m₁ h₁ tk₁ (s.heap.objs.size + 1) s.heap.objs.size oe oi hx' hJ hT F₁ N₂) (fun _ s₂ h₂ => wpAny_mono h₂ (fun f s₃ h₃ => ?_) fun _ _ x => x) fun _ _ x => x
    obtain ⟨rfl, h', tk', m', rfl, F', N', hJ'⟩ := h₃
    refine LoopStepU.intro F' (fun p hp => ?_) hoff ⟨rfl, hJ'⟩
    rcases List.mem_append.mp hp with hp | hp
    · have hs := hsub p hp
      have hg := hget p hp
      have hb' : p.1 = s.heap.objs.size + 1 ∨ p.1 = s.heap.objs.size ∨ p.1 = l := by simpa using hs
      obtain ⟨pa, po⟩ := p
      rcases hb' with e | e | e
      · dsimp only at e hg
        rw [e, hoe] at hg
        cases hg
        subst e
        exact N' _ (.head _)
      · dsimp only at e hg
        rw [e, hoi] at hg
        cases hg
        subst e
        exact N' _ (.tail _ (.head _))
      · dsimp only at e hg
        have hl₁ := (N₁ _ (List.mem_append_right own hm)).1
        rw [e, hl₁] at hg
        cases hg
        subst e
        exact N' _ (.tail _ (.tail _ hm))
    · exact N' _ (.tail _ (.tail _ hp))
  · rintro h' tk m' news' F' N' _ ⟨rfl, hJ⟩
    rw [List.size_toArray] at hJ
    exact done m' h' tk hJ F' N'
end
end Mine
end
section
open PySem PySem.W PyProof.Rows PySem.Calls PyProof.V PySem.Spec
set_option Elab.async false
set_option maxRecDepth 100000
set_option maxHeartbeats 8000000
namespace Mine
def endOf (d : Int) : Str := if d = 0 then Str.ofString "\n" else if d = 1 then Str.ofString "\u000d" else Str.ofString "\u000d\n"
def textUp (ns : List Int) (rs : List Str) : Nat → Str
  | 0 => Str.ofString ""
  | i + 1 => textUp ns rs i ++ (rs.getD i Str.empty ++ endOf ((drawn ns (i : Int)).fmod 3))
section
variable {prog : Program} {w : World} {A : Around} {E : Value → Shared → Prop} {s : Shared} {env : Env} {h₀ : Heap} {body : List Stmt} {Q : Flow → Shared → Prop}
def AccEnd (h₀ : Heap) (L : Addr) (y xa xb : Str) (v : Tok → Value) (m₀ : Str → Option Value) (own : List (Addr × Obj)) (s : Shared) (f : Flow) (s₃ : Shared) : Prop :=
  f = .next ∧ ∃ h' tk' m', s₃ = { s with heap := h', toks := tk' } ∧ Fr h₀ L h' m' ∧ News h₀ L h' own ∧ (∃ t', m' y = some (v t')) ∧ ∀ z, z ≠ y → z ≠ xa → z ≠ xb → m' z = m₀ z
theorem AccEnd.intro {L : Addr} {y xa xb : Str} {v : Tok → Value} {m₀ m' : Str → Option Value} {own nw : List (Addr × Obj)} {h' : Heap} {tk' : Nat} {t' : Tok} (F : Fr h₀ L h' m') (N : News h₀ L h' nw) (hs : ∀ p ∈ own, p ∈ nw) (hy : m' y = some (v t'))
    (hz : ∀ z, z ≠ y → z ≠ xa → z ≠ xb → m' z = m₀ z) : AccEnd h₀ L y xa xb v m₀ own s .next { s with heap := h', toks := tk' } := ⟨rfl, h', tk', m', rfl, F, fun p hp => N p (hs p hp), ⟨t', hy⟩, hz⟩
theorem enum_acc {elts : List PySem.Expr} {k : Nat} {pos : Pos} {l : Addr} {vs : List Value} {n : Nat} {m₀ : Str → Option Value} {news : List (Addr × Obj)} {t₀ : Tok} (y xa xb : Str) (G : Nat → Tok → Value)
    (hh : A.handled = none) (F : Fr h₀ env.locals s.heap m₀) (N : News h₀ env.locals s.heap news) (hm : (l, lst vs.toArray n) ∈ news) (hy : m₀ y = some (G 0 t₀))
    (turn : ∀ (i : Nat) (v : Value) (T : Addr) (t ty : Tok) (u : Str → Option Value) (h : Heap) (tk : Nat) (e I : Addr) (oe oi : Obj), vs[i]? = some v → i < vs.length → IsTup h T #[.int (i : Int) t, v] →
      Fr h₀ env.locals h (fun z => if z = y then some (G i ty) else if z = xa then u z else if z = xb then u z else m₀ z) → News h₀ env.locals h ((e, oe) :: (I, oi) :: news) →
      wpAny (model prog w) A (assign (.Tuple elts k pos) env (.ref T)) (fun _ s₂ => wpAny (model prog w) A (execs body env)
        (AccEnd h₀ env.locals y xa xb (G (i + 1)) m₀ ((e, oe) :: (I, oi) :: news) { s with heap := h, toks := tk }) E s₂) E { s with heap := h, toks := tk })
    (done : ∀ (u : Str → Option Value) ty h tk, Fr h₀ env.locals h (fun z => if z = y then some (G vs.length ty) else if z = xa then u z else if z = xb then u z else m₀ z) → News h₀ env.locals h news → Q .next { s with heap := h, toks := tk }) :
    wpAny (model prog w) A (call (.type "enumerate") [.ref l]) (fun xv s₁ => wpAny (model prog w) A (pyIter xv) (fun it s₂ => TurnsAt prog w A h₀ env (.Tuple elts k pos) body Q E it s₂) E s₁) E s := by
  have form : ∀ (i : Nat) (ty : Tok) (m' : Str → Option Value), m' y = some (G i ty) → (∀ z, z ≠ y → z ≠ xa → z ≠ xb → m' z = m₀ z) → m' = fun z => if z = y then some (G i ty) else if z = xa then m' z else if z = xb then m' z else m₀ z := by
    intro i ty m' h1 h2
    funext z
    by_cases hz : z = y
    · rw [if_pos hz, hz, h1]
    · rw [if_neg hz]
      by_cases ha : z = xa
      · rw [if_pos ha]
      · rw [if_neg ha]
        by_cases hb : z = xb
        · rw [if_pos hb]
        · rw [if_neg hb, h2 z hz ha hb]
  refine enum_inv hh F N hm rfl rfl (fun i m' => (∃ ty, m' y = some (G i ty)) ∧ ∀ z, z ≠ y → z ≠ xa → z ≠ xb → m' z = m₀ z) ⟨⟨t₀, hy⟩, fun _ _ _ _ => rfl⟩ ?_ ?_
  · rintro i v T t m₁ h tk e I oe oi hv ⟨⟨ty, h1⟩, h2⟩ hT F₁ N₁
    rw [form i ty m₁ h1 h2] at F₁
    have hlt : i < vs.length := by
      refine Nat.lt_of_not_le fun hl => ?_
      rw [List.getElem?_eq_none hl] at hv
      cases hv
    exact turn i v T t ty m₁ h tk e I oe oi hv hlt hT F₁ N₁
  · rintro m₁ h tk ⟨⟨ty, h1⟩, h2⟩ F₁ N₁
    rw [form _ ty m₁ h1 h2] at F₁
    exact done m₁ ty h tk F₁ N₁
end
theorem three {d : Int} (h0 : 0 ≤ d) (h5 : d ≤ 2) (t0 t1 t2 : Tok) :
    ∃ tok, [Value.str (Str.ofString "\n") t0, Value.str (Str.ofString "\u000d") t1, Value.str (Str.ofString "\u000d\n") t2][d.toNat]? = some (Value.str (endOf d) tok) := by
  have h : d = 0 ∨ d = 1 ∨ d = 2 := by omega
  rcases h with rfl | rfl | rfl
  all_goals exact ⟨_, rfl⟩
theorem endOf_len (d : Int) : (endOf d).length ≤ 2 := by
  unfold endOf
  repeat' split
  all_goals decide
theorem step3 {prog : Program} {w : World} {A : Around} {E : Value → Shared → Prop} {s : Shared} {value slice : PySem.Expr} {g : Heap} {L D : Addr} {news : List (Addr × Obj)} {d : Int} {u t0 t1 t2 : Tok} {Q : Value → Shared → Prop}
    (N : News g L s.heap ((D, { cls := .type "tuple", data := .seq #[Value.str (Str.ofString "\n") t0, Value.str (Str.ofString "\u000d") t1, Value.str (Str.ofString "\u000d\n") t2] }) :: news))
    (h0 : 0 ≤ d) (h5 : d ≤ 2) (h : ∀ tok, (endOf d).length ≤ 2 → Q (.str (endOf d) tok) s)
    (hs : subscripted slice false (.ref D) (.int d u) = operate [.ref D, .int d u] (getItem (.ref D) (.int d u))) :
    wpAny (model prog w) A (subscriptTail value slice (.ref D) (.int d u)) Q E s := by
  obtain ⟨tok, ht⟩ := three h0 h5 t0 t1 t2
  exact item_tupleT (News.isTup N (.head _)) (by omega) (by omega) (seqIndex_in h0 (by simp only [List.length_cons, List.length_nil]; omega)) ht (h tok (endOf_len d)) hs
theorem fmod3 {d : Int} (h0 : 0 ≤ d) : 0 ≤ d.fmod 3 ∧ d.fmod 3 ≤ 2 := by
  rw [Int.fmod_eq_emod_of_nonneg _ (by decide)]; omega
local macro_rules | `(tactic| walk_at "subscriptTail") => `(tactic| (
  k_here
  (with_reducible show wpAny _ _ (subscriptTail _ _ (Value.ref _) (Value.int (Int.fmod _ 3) _)) _ _ _)
  refine' step3 ?k1 ?k2 ?k3 ?_ ?k5
  (case k1 => k_asm)
  (case k2 => exact (fmod3 (by assumption)).1)
  (case k3 => exact (fmod3 (by assumption)).2)
  (case k5 => with_unfolding_all rfl)
  intro t9 hz9))
local macro_rules | `(tactic| walk_at "exec For Tuple Call cons nil") => `(tactic| (k_here; (rename Fr _ _ _ _ => lF'); (with_unfolding_all refine' For_turns lF' ?_; k_whole)))
local macro_rules | `(tactic| walk_at "call ref") => `(tactic| (
  k_here
  (with_reducible show wpAny _ _ (call (Value.ref 78) [Value.ref _, Value.int _ _]) _ _ _)
  refine' drawn_c ?k1 ?k2 ?k3 ?k4 ?k5 ?kK ?kl ?ki ?kt ?k0 ?kh ?kd ?ku ?kR
  (case k1 => k_asm)
  (case k2 => k_asm)
  (case k3 => k_asm)
  (case k4 => k_asm)
  (case k5 => k_asm)
  (case kK => first | exact rfl | assumption)
  (case kl => k_asm)
  (case ki => l_ints)
  (case kt => l_fit)
  (case k0 => (first | assumption | omega))
  (case kh => (first | assumption | omega))
  (case kd => ktr_room)
  (case ku => ktr_units)
  intro t9 h9 tk9 F9 N9 dl9 dh9
  (try dsimp only)
  (try k_fold)))
theorem strsAre_get {vs : List Value} {ys : List Str} (h : StrsAre vs ys) : ∀ {i : Nat} {v : Value}, vs[i]? = some v → ∃ t, v = .str (ys.getD i Str.empty) t ∧ ys.getD i Str.empty ∈ ys := by
  induction h with
  | nil => intro i v hv; simp at hv
  | cons y t _ ih =>
    intro i v hv
    cases i with
    | zero => exact ⟨t, by simpa using hv.symm, by simp⟩
    | succ i =>
      obtain ⟨t', h1, h2⟩ := ih (i := i) (v := v) (by simpa using hv)
      exact ⟨t', by simpa using h1, by simpa using Or.inr h2⟩
theorem textUp_len (ns : List Int) (rs : List Str) (h : ∀ r ∈ rs, r.length ≤ 16) : ∀ i, i ≤ rs.length → (textUp ns rs i).length ≤ 18 * i
  | 0, _ => (show (Str.ofString "").length ≤ 0 by decide)
  | i + 1, hi => by
    have ih := textUp_len ns rs h i (by omega)
    have h1 : (rs.getD i Str.empty).length ≤ 16 := by
      refine h _ ?_
      rw [List.getD_eq_getElem?_getD, List.getElem?_eq_getElem (by omega), Option.getD_some]
      exact List.getElem_mem _
    have h2 := endOf_len ((drawn ns (i : Int)).fmod 3)
    simp only [textUp, Str.length_append]
    omega
theorem text_c {w : World} {loose : List Str} {mean : ExcName → Option Value} {mg mb : Str → Option Value}
    {dp un : Nat} {gd : Option (List Code)} {cn : Str} {cs : Scope} {a : Addr} {ccd : Value} {cl : List (Str × Addr)} {outer : List Env} {A₀ : Around} {base h₀ : Heap} {L : Addr} {m : Str → Option Value} {news : List (Addr × Obj)} {s : Shared} {Q E : Value → Shared → Prop}
    (B : Below A₀ base outer h₀) (F : Fr h₀ L s.heap m) (X : (hd.heap_39 w.params).In h₀) (N : News h₀ L s.heap news) (T : Top hd.view_39 loose mean mg mb h₀) (hk : cs.kind = .function)
    {l : Addr} {vs : List Value} {ns : List Int} (hl : base.IsList l vs.toArray) (hi : IntsAre vs ns) (hn : ns.length < 2 ^ 62)
    {lr : Addr} {items : List Value} {nv : Nat} {rs : List Str} (hm : (lr, lst items.toArray nv) ∈ news) (hs : StrsAre items rs) (hrl : rs.length ≤ 20) (hrs : ∀ r ∈ rs, r.length ≤ 16)
    (hdp : dp + 3 < recursionLimit) (hu : un + 24 < cLine)
    (hret : ∀ (t : Tok) (h' : Heap) (tk' : Nat), Fr h₀ L h' m → News h₀ L h' news → Q (.str (textUp ns rs rs.length) t) { s with heap := h', toks := tk' }) :
    wpAny (model PySem.Challenge.rw_rl0009_01.row.prog w) (ktrTop dp un gd cn cs L a ccd cl outer) (call (.ref 92) [.ref l, .ref lr]) Q E s := by
  revert X; k_fill; intro X
  refine wpAny_call ?_
  k_dflt cell_enter
  k_steps
  rename Fr _ _ _ _ => lF
  rename News _ _ _ _ => lN
  have hlen : items.length = rs.length := strsAre_length hs
  refine enum_acc (Str.ofString "text") (Str.ofString "place") (Str.ofString "row") (fun i t => .str (textUp ns rs i) t) rfl lF lN hm rfl ?_ ?_
  · intro i v T t ty u h tk e I oe oi hv hlt hT F₁ N₁
    obtain ⟨tv, rfl, hmem⟩ := strsAre_get hs hv
    have hz1 := hrs _ hmem
    have hz2 := textUp_len ns rs hrs i (by omega)
    have hi20 : i < 20 := by omega
    clear hv hmem lF lN
    k_steps
    exact AccEnd.intro (nw := _ :: (e, oe) :: (I, oi) :: news) (by k_asm) (by k_asm) (fun p hp => .tail _ hp) rfl (fun z h1 h2 h3 => by simp only [if_neg h1, if_neg h2, if_neg h3])
  · intro u ty h tk F₁ N₁
    k_steps
    rw [hlen]
    exact hret _ _ _ (by k_asm) (by k_asm)
end Mine
end
section
open PySem PySem.W PyProof.Rows PySem.Calls PyProof.V PySem.Spec
set_option Elab.async false
set_option maxRecDepth 100000
set_option maxHeartbeats 8000000
namespace Mine
def bisF (ps : List Int) (x : Int) : Nat → Int → Int → Int
  | 0, lo, _ => lo
  | f + 1, lo, hi => if lo < hi then (if ps.getD ((lo + hi).fdiv 2).toNat 0 < x then bisF ps x f ((lo + hi).fdiv 2 + 1) hi else bisF ps x f lo ((lo + hi).fdiv 2)) else lo
theorem bisF_end {ps : List Int} {x lo hi : Int} (h : ¬ lo < hi) : ∀ n, bisF ps x n lo hi = lo
  | 0 => rfl
  | n + 1 => by unfold bisF; rw [if_neg h]
def Stop (P : Prop) : Prop := P
theorem Stop.out {P : Prop} (h : Stop P) : P := h
theorem Stop.intro {P : Prop} (h : P) : Stop P := h
local macro_rules | `(tactic| walk_at "exec While Compare cons nil") => `(tactic| refine Stop.out ?_)
def WhEnd (h₀ : Heap) (L : Addr) (s : Shared) (J : Nat → (Str → Option Value) → List (Addr × Obj) → Prop) (n : Nat) (f : Flow) (s₃ : Shared) : Prop := WhileStep h₀ L s J n f s₃
theorem form3 {m' m₀ : Str → Option Value} {x1 x2 x3 : Str} {v1 v2 : Value} (h1 : m' x1 = some v1) (h2 : m' x2 = some v2) (h : ∀ z, z ≠ x1 → z ≠ x2 → z ≠ x3 → m' z = m₀ z) :
    m' = fun z => if z = x1 then some v1 else if z = x2 then some v2 else if z = x3 then m' z else m₀ z := by
  funext z
  by_cases ha : z = x1
  · rw [if_pos ha, ha, h1]
  · rw [if_neg ha]
    by_cases hb : z = x2
    · rw [if_pos hb, hb, h2]
    · rw [if_neg hb]
      by_cases hc : z = x3
      · rw [if_pos hc]
      · rw [if_neg hc, h z ha hb hc]
theorem fdiv2 (a : Int) : 2 * a.fdiv 2 ≤ a ∧ a < 2 * a.fdiv 2 + 2 := by
  rw [Int.fdiv_eq_ediv_of_nonneg _ (by decide)]; omega
section
variable {prog : Program} {w : World} {A : Around} {E : Value → Shared → Prop} {Q : Flow → Shared → Prop} {s : Shared} {env : Env} {h₀ : Heap} {L : Addr}
/-- a while that turns two ints and forgets a third name -/
def WhSt (x1 x2 x3 : Str) (m₀ : Str → Option Value) (news : List (Addr × Obj)) (P : Nat → Int → Int → Prop) (n : Nat) (m' : Str → Option Value) (nw : List (Addr × Obj)) : Prop :=
  nw = news ∧ ∃ a b t1 t2, m' x1 = some (.int a t1) ∧ m' x2 = some (.int b t2) ∧ (∀ z, z ≠ x1 → z ≠ x2 → z ≠ x3 → m' z = m₀ z) ∧ P n a b
theorem while_two {test : PySem.Expr} {body : List Stmt} {pos : Pos} {m₀ : Str → Option Value} {news : List (Addr × Obj)} (x1 x2 x3 : Str) (P : Nat → Int → Int → Prop) {n₀ : Nat} {a₀ b₀ : Int} {t₁ t₂ : Tok}
    (F : Fr h₀ L s.heap m₀) (N : News h₀ L s.heap news) (h1 : m₀ x1 = some (.int a₀ t₁)) (h2 : m₀ x2 = some (.int b₀ t₂)) (hP : P n₀ a₀ b₀)
    (turn : ∀ n a b t1 t2 (u : Str → Option Value) h₁ tk₁, P n a b → Fr h₀ L h₁ (fun z => if z = x1 then some (.int a t1) else if z = x2 then some (.int b t2) else if z = x3 then u z else m₀ z) → News h₀ L h₁ news →
      wpAny (model prog w) A (isTrue test env (eval test env)) (fun b s₂ =>
        if b = true then wpAny (model prog w) A (execs body env) (WhEnd h₀ L s (WhSt x1 x2 x3 m₀ news P) n) E s₂ else Q .next s₂) E { s with heap := h₁, toks := tk₁ })
    (hE : PassesOwn (model prog w) A env E := by passes_own) :
    wpAny (model prog w) A (exec (.While test body [] pos) env) Q E s := by
  refine While_inv (WhSt x1 x2 x3 m₀ news P) F N ⟨rfl, a₀, b₀, t₁, t₂, h1, h2, fun _ _ _ _ => rfl, hP⟩ ?_ hE
  rintro n m₁ news₁ h₁ tk₁ F₁ N₁ ⟨rfl, a, b, t1, t2, e1, e2, hz, hP'⟩
  rw [form3 e1 e2 hz] at F₁
  exact turn n a b t1 t2 m₁ h₁ tk₁ hP' F₁ N₁
theorem whEnd_two {x1 x2 x3 : Str} {m₀ m' : Str → Option Value} {news : List (Addr × Obj)} {P : Nat → Int → Int → Prop} {n n' : Nat} {a b : Int} {t1 t2 : Tok} {h' : Heap} {tk : Nat} (F : Fr h₀ L h' m') (N : News h₀ L h' news)
    (hn : n' < n) (h1 : m' x1 = some (.int a t1)) (h2 : m' x2 = some (.int b t2)) (hz : ∀ z, z ≠ x1 → z ≠ x2 → z ≠ x3 → m' z = m₀ z) (hP : P n' a b) : WhEnd h₀ L s (WhSt x1 x2 x3 m₀ news P) n .next { s with heap := h', toks := tk } :=
  WhileStep.intro F N hn ⟨rfl, a, b, t1, t2, h1, h2, hz, hP⟩
end
theorem news_dup {h₀ h : Heap} {L : Addr} {p : Addr × Obj} {news : List (Addr × Obj)} (N : News h₀ L h news) (hm : p ∈ news) : News h₀ L h (p :: news) := fun q hq => (List.mem_cons.mp hq).elim (fun e => e ▸ N p hm) fun hq => N q hq
theorem bisect_c {w : World} {loose : List Str} {mean : ExcName → Option Value} {mg mb : Str → Option Value}
    {dp un : Nat} {gd : Option (List Code)} {cn : Str} {cs : Scope} {a : Addr} {ccd : Value} {cl : List (Str × Addr)} {outer : List Env} {A₀ : Around} {base h₀ : Heap} {L : Addr} {m : Str → Option Value} {news : List (Addr × Obj)} {s : Shared} {Q E : Value → Shared → Prop}
    (B : Below A₀ base outer h₀) (F : Fr h₀ L s.heap m) (X : (hd.heap_39 w.params).In h₀) (N : News h₀ L s.heap news) (T : Top hd.view_39 loose mean mg mb h₀) (hk : cs.kind = .function)
    {lp : Addr} {items : List Value} {nv : Nat} {ps : List Int} (hm : (lp, lst items.toArray nv) ∈ news) (hi : IntsAre items ps) (hn : ps.length ≤ 1000) {x : Int} {t : Tok}
    (hdp : dp + 3 < recursionLimit) (hu : un + 24 < cLine)
    (hret : ∀ (t : Tok) (h' : Heap) (tk' : Nat), Fr h₀ L h' m → News h₀ L h' news → Q (.int (bisF ps x ps.length 0 ps.length) t) { s with heap := h', toks := tk' }) :
    wpAny (model PySem.Challenge.rw_rl0009_01.row.prog w) (ktrTop dp un gd cn cs L a ccd cl outer) (call (.ref 40) [.ref lp, .int x t]) Q E s := by
  revert X; k_fill; intro X
  have N2 := news_dup N hm
  clear N
  refine wpAny_call ?_
  k_dflt (
    refine' code_def ?k1 ?k2 ?k3 ?k4 ?k5 ?kA ?kF ?kK ?k6 ?k7 ?k8 ?k9 ?kB ?_ ?c2 ?c3 ?c4 ?c5
    (case kA => exact rfl)
    (case kF => exact rfl)
    (case kK => assumption)
    (case k1 => k_asm)
    (case k2 => k_asm)
    (case k3 => k_asm)
    (case k4 => k_asm)
    (case k5 => k_asm)
    (case k6 => k_is)
    (case k7 => k_is)
    (case k8 => ktr_room)
    (case k9 =>
      refine' kp_binds ?kx ?ke
      (case kx => k_in)
      (case ke => exact fun _ => rfl))
    (case c5 => decide)
    (case kB => exact locs rfl)
    (case c2 => exact rfl)
    (case c3 => exact rfl)
    (case c4 => exact rfl)
    k_whole
    intro g' L' h' FG' F' N' B' X' T'
    (try dsimp only)
    (try k_lift B')
    (try k_fold))
  k_steps
  refine Stop.intro ?_
  rename Fr _ _ _ _ => lF
  rename News _ _ _ _ => lN
  refine while_two (Str.ofString "lo") (Str.ofString "hi") (Str.ofString "mid") (fun n lo hi => 0 ≤ lo ∧ lo ≤ hi ∧ hi ≤ ps.length ∧ hi - lo ≤ n ∧ bisF ps x n lo hi = bisF ps x ps.length 0 ps.length) lF lN rfl rfl (n₀ := ps.length) ⟨by omega, by omega, by omega, by omega, rfl⟩ ?_
  intro n lo hi' t1 t2 u h₁ tk₁ ⟨p1, p2, p3, p4, p5⟩ F₁ N₁
  have hd2 := fdiv2 (lo + hi')
  have hlen := hi.length
  clear lF lN
  k_steps
  · obtain ⟨k, rfl⟩ : ∃ k, n = k + 1 := ⟨n - 1, by omega⟩
    refine whEnd_two (n' := k) (by k_asm) (by k_asm) (by omega) rfl rfl (fun z h1 h2 h3 => by simp only [if_neg h1, if_neg h2, if_neg h3]) ⟨by omega, by omega, by omega, by omega, ?_⟩
    rw [← p5, bisF, if_pos (by assumption), if_pos (by assumption)]
  · obtain ⟨k, rfl⟩ : ∃ k, n = k + 1 := ⟨n - 1, by omega⟩
    refine whEnd_two (n' := k) (by k_asm) (by k_asm) (by omega) rfl rfl (fun z h1 h2 h3 => by simp only [if_neg h1, if_neg h2, if_neg h3]) ⟨by omega, by omega, by omega, by omega, ?_⟩
    rw [← p5, bisF, if_pos (by assumption), if_neg (by assumption)]
  · have e : lo = _ := (bisF_end (by assumption) n).symm.trans p5
    rw [e]
    exact hret _ _ _ (by k_asm) (cb_drop (news' := _ :: news) (by k_asm) fun p hp => .tail _ hp)
end Mine
end
section
open PySem PySem.W PyProof.Rows PySem.Calls PyProof.V PySem.Spec
set_option Elab.async false
set_option maxRecDepth 100000
set_option maxHeartbeats 8000000
namespace Mine
section
variable {prog : Program} {w : World} {A : Around} {E : Value → Shared → Prop} {s : Shared} {env : Env} {h₀ : Heap} {target : PySem.Expr} {body : List Stmt} {Q : Flow → Shared → Prop}
def RgStep (h₀ : Heap) (L : Addr) (s : Shared) (J : (Str → Option Value) → List (Addr × Obj) → Prop) (p : Addr × Obj) (s₃ : Shared) : Prop :=
  ∃ h' tk' m' nw, s₃ = { s with heap := h', toks := tk' } ∧ Fr h₀ L h' m' ∧ News h₀ L h' (p :: nw) ∧ (∀ q ∈ nw, q.1 ≠ p.1) ∧ J m' nw
def RgEnd (h₀ : Heap) (L : Addr) (s : Shared) (J : (Str → Option Value) → List (Addr × Obj) → Prop) (p : Addr × Obj) (Q : Flow → Shared → Prop) (f : Flow) (s₃ : Shared) : Prop := match f with
  | .ret v => Q (.ret v) s₃
  | .brk => Q .next s₃
  | _ => RgStep h₀ L s J p s₃
theorem RgStep.intro {L : Addr} {J : (Str → Option Value) → List (Addr × Obj) → Prop} {p : Addr × Obj} {h' : Heap} {tk' : Nat} {m' : Str → Option Value} {nw all : List (Addr × Obj)} (F : Fr h₀ L h' m') (N : News h₀ L h' all) (hs : ∀ q ∈ p :: nw, q ∈ all)
    (hc : ∀ q ∈ nw, q.1 ≠ p.1) (hj : J m' nw) : RgStep h₀ L s J p { s with heap := h', toks := tk' } := ⟨h', tk', m', nw, rfl, F, fun q hq => N q (hs q hq), hc, hj⟩
theorem ne_of_cls {h : Heap} {L : Addr} {all : List (Addr × Obj)} {p q : Addr × Obj} (N : News h₀ L h all) (hp : p ∈ all) (hq : q ∈ all) (hc : q.2.cls ≠ p.2.cls) : q.1 ≠ p.1 := fun e => by
  have g1 := (N _ hp).1
  have g2 := (N _ hq).1
  rw [e] at g2
  exact hc (congrArg Obj.cls (Option.some.inj (g2.symm.trans g1)))
theorem range_inv (ht : ∀ it v, letOwnedTupleGo target it v = pure ()) {r : Addr} {a₀ b₀ : Int} {t₀ u₀ v₀ : Tok} {n : Nat} {m₀ : Str → Option Value} {news : List (Addr × Obj)}
    (hh : A.handled = none) (hr : IsRange s.heap r a₀ b₀ 1 t₀ u₀ v₀) (hsmall : Builtin.Range.small a₀ b₀ 1 = true) (hn : Builtin.Range.rangeSize a₀ b₀ 1 = (n : Int)) (F : Fr h₀ env.locals s.heap m₀) (N : News h₀ env.locals s.heap news)
    (J : Nat → (Str → Option Value) → List (Addr × Obj) → Prop) (hj : J 0 m₀ news)
    (turn : ∀ (i : Nat) (t : Tok) (m₁ : Str → Option Value) (news₁ : List (Addr × Obj)) (h : Heap) (tk : Nat) (I : Addr) (oI : Obj), i < n → oI.cls = .type "range_iterator" → (∀ q ∈ news₁, q.1 ≠ I) → J i m₁ news₁ → Fr h₀ env.locals h m₁ → News h₀ env.locals h ((I, oI) :: news₁) →
      wpAny (model prog w) A (assign target env (.int (a₀ + i) t)) (fun _ s₂ => wpAny (model prog w) A (execs body env) (RgEnd h₀ env.locals { s with heap := h, toks := tk } (J (i + 1)) (I, oI) Q) E s₂) E { s with heap := h, toks := tk })
    (done : ∀ m₁ news₁ h tk, J n m₁ news₁ → Fr h₀ env.locals h m₁ → News h₀ env.locals h news₁ → Q .next { s with heap := h, toks := tk }) :
    wpAny (model prog w) A (pyIter (.ref r)) (fun it s₂ => TurnsAt prog w A h₀ env target body Q E it s₂) E s := by
  refine wpAny_pyIter_range hr hsmall ?_
  have hLs : env.locals < s.heap.objs.size := F.ns.lt
  have W := KTurns.ofWalks (target := target) (Walks.range (prog := prog) (w := w) hh s.heap.objs.size a₀ 1 n) (fun i v s Q E _ hq => wpAny_of_eq (ht _ v) hq)
  refine ⟨_, _, _, n, _, _, _, m₀, news, J, rfl, W, ?_, ?_, ?_, ?_, F.push _, (fun p hp => ⟨Heap.get?_push_of_some _ (N p hp).1, (N p hp).2⟩), hj, ?_, ?_⟩
  · intro hm
    exact absurd hLs ((List.mem_singleton.mp hm) ▸ Nat.lt_irrefl _)
  · intro b hb
    rw [List.mem_singleton.mp hb]
    exact next_is_new F
  · intro p hp hI
    exact absurd (Heap.lt_size (N p hp).1) ((List.mem_singleton.mp hI) ▸ Nat.lt_irrefl _)
  · show IsRangeIter _ _ _ _ _
    rw [hn]
    simpa using Heap.get?_push_size _ rfl
  · rintro i v m₁ news₁ h₁ tk₁ own hi ⟨t, rfl⟩ hJ hoff hsub hget hall hst F₁ N₁
    have hst' : ∃ oI : Obj, h₁.get? s.heap.objs.size = some oI ∧ oI.cls = .type "range_iterator" := ⟨_, hst, rfl⟩
    obtain ⟨oI, hoI, hcI⟩ := hst'
    have m1 := hall s.heap.objs.size (by simp) (next_is_new F) oI hoI
    have N₂ : News h₀ env.locals h₁ ((s.heap.objs.size, oI) :: news₁) := by
      intro p hp
      rcases List.mem_cons.mp hp with rfl | hp
      · exact N₁ _ (List.mem_append_left _ m1)
      · exact N₁ _ (List.mem_append_right _ hp)
    have ei : (a₀ + (i : Int) * 1) = a₀ + i := by omega
    rw [ei]
    refine wpAny_mono (turn i t m₁ news₁ h₁ tk₁ s.heap.objs.size oI hi hcI (fun q hq e => hoff q hq (e ▸ List.mem_singleton.mpr rfl)) hJ F₁ N₂) (fun _ s₂ h₂ => wpAny_mono h₂ (fun f s₃ h₃ => ?_) fun _ _ x => x) fun _ _ x => x
    have fin : RgStep h₀ env.locals { s with heap := h₁, toks := tk₁ } (J (i + 1)) (s.heap.objs.size, oI) s₃ → LoopStepU h₀ env.locals [s.heap.objs.size] own (J (i + 1)) { s with heap := h₁, toks := tk₁ } .next s₃ := by
      rintro ⟨h', tk', m', nw, rfl, F', N', hc, hJ'⟩
      refine LoopStepU.intro F' (fun p hp => ?_) (fun p hp hI => ?_) hJ'
      · rcases List.mem_append.mp hp with hp | hp
        · have e := List.mem_singleton.mp (hsub p hp)
          have hg := hget p hp
          obtain ⟨pa, po⟩ := p
          dsimp only at e hg
          rw [e, hoI] at hg
          cases hg
          subst e
          exact N' _ (.head _)
        · exact N' _ (.tail _ hp)
      · exact hc p hp (List.mem_singleton.mp hI)
    cases f with
    | ret v => exact h₃
    | brk => exact h₃
    | next => exact fin h₃
    | cont => exact fin h₃
  · rintro h' tk m' news' F' N' _ hJ
    exact done m' news' h' tk hJ F' N'
end
end Mine
end
section
open PySem PySem.W PyProof.Rows PySem.Calls PyProof.V PySem.Spec
set_option Elab.async false
set_option maxRecDepth 100000
set_option maxHeartbeats 8000000
namespace Mine
def nfStep (step name : Int) (q : Int × Int) : Int × Int :=
  (if q.1 = 0 ∨ (name * step).fmod 256 < (q.1 * step).fmod 256 then name else q.1, if (q.2 * step).fmod 256 < (name * step).fmod 256 then name else q.2)
def nf (step : Int) : Nat → Int × Int
  | 0 => (0, 0)
  | i + 1 => nfStep step (1 + (i : Int)) (nf step i)
def nextN (size near far name : Int) : Int := if name < size - near then name + near else if name < far then name + near - far else name - far
abbrev lastI (l : List Int) : Int := l.getD (-1 + (l.length : Int)).toNat 0
def ordL (size near far : Int) : Nat → List Int
  | 0 => [0]
  | k + 1 => ordL size near far k ++ [nextN size near far (lastI (ordL size near far k))]
theorem intsAre_snoc {vs : List Value} {ys : List Int} (h : IntsAre vs ys) (y : Int) (t : Tok) : IntsAre (vs ++ [.int y t]) (ys ++ [y]) := by
  induction h with
  | nil => exact .cons y t .nil
  | cons z tz _ ih => exact .cons z tz ih
section
variable {prog : Program} {w : World} {A : Around} {E : Value → Shared → Prop} {s : Shared} {env : Env} {h₀ : Heap} {target : PySem.Expr} {body : List Stmt} {Q : Flow → Shared → Prop}
theorem form4 {m' m₀ : Str → Option Value} {x1 x2 x3 x4 : Str} {v1 v2 : Value} (h1 : m' x1 = some v1) (h2 : m' x2 = some v2) (h : ∀ z, z ≠ x1 → z ≠ x2 → z ≠ x3 → z ≠ x4 → m' z = m₀ z) :
    m' = fun z => if z = x1 then some v1 else if z = x2 then some v2 else if z = x3 then m' z else if z = x4 then m' z else m₀ z := by
  funext z
  by_cases ha : z = x1
  · rw [if_pos ha, ha, h1]
  · rw [if_neg ha]
    by_cases hb : z = x2
    · rw [if_pos hb, hb, h2]
    · rw [if_neg hb]
      by_cases hc : z = x3
      · rw [if_pos hc]
      · rw [if_neg hc]
        by_cases hd : z = x4
        · rw [if_pos hd]
        · rw [if_neg hd, h z ha hb hc hd]
def TwoSt (y1 y2 xa xb : Str) (m₀ : Str → Option Value) (news : List (Addr × Obj)) (g : Int × Int) (m' : Str → Option Value) (nw : List (Addr × Obj)) : Prop :=
  nw = news ∧ ∃ t1 t2, m' y1 = some (.int g.1 t1) ∧ m' y2 = some (.int g.2 t2) ∧ ∀ z, z ≠ y1 → z ≠ y2 → z ≠ xa → z ≠ xb → m' z = m₀ z
theorem two_end {y1 y2 xa xb : Str} {m₀ m' : Str → Option Value} {news : List (Addr × Obj)} {g : Int × Int} {X Y : Int} {t1 t2 : Tok} (h1 : m' y1 = some (.int X t1)) (e1 : g.1 = X) (h2 : m' y2 = some (.int Y t2)) (e2 : g.2 = Y)
    (hz : ∀ z, z ≠ y1 → z ≠ y2 → z ≠ xa → z ≠ xb → m' z = m₀ z) : TwoSt y1 y2 xa xb m₀ news g m' news := ⟨rfl, t1, t2, by rw [h1, e1], by rw [h2, e2], hz⟩
theorem range_two (ht : ∀ it v, letOwnedTupleGo target it v = pure ()) {r : Addr} {a₀ b₀ : Int} {t₀ u₀ v₀ t₁ t₂ : Tok} {n : Nat} {m₀ : Str → Option Value} {news : List (Addr × Obj)} (y1 y2 xa xb : Str) (g : Nat → Int × Int)
    (hh : A.handled = none) (hr : IsRange s.heap r a₀ b₀ 1 t₀ u₀ v₀) (hsmall : Builtin.Range.small a₀ b₀ 1 = true) (hn : Builtin.Range.rangeSize a₀ b₀ 1 = (n : Int)) (F : Fr h₀ env.locals s.heap m₀) (N : News h₀ env.locals s.heap news)
    (h1 : m₀ y1 = some (.int (g 0).1 t₁)) (h2 : m₀ y2 = some (.int (g 0).2 t₂))
    (turn : ∀ (i : Nat) (t t1 t2 : Tok) (u : Str → Option Value) (h : Heap) (tk : Nat) (I : Addr) (oI : Obj), i < n → (∀ q ∈ news, q.1 ≠ I) →
      Fr h₀ env.locals h (fun z => if z = y1 then some (.int (g i).1 t1) else if z = y2 then some (.int (g i).2 t2) else if z = xa then u z else if z = xb then u z else m₀ z) → News h₀ env.locals h ((I, oI) :: news) →
      wpAny (model prog w) A (assign target env (.int (a₀ + i) t)) (fun _ s₂ => wpAny (model prog w) A (execs body env) (RgEnd h₀ env.locals { s with heap := h, toks := tk } (TwoSt y1 y2 xa xb m₀ news (g (i + 1))) (I, oI) Q) E s₂) E { s with heap := h, toks := tk })
    (done : ∀ (t1 t2 : Tok) (u : Str → Option Value) h tk, Fr h₀ env.locals h (fun z => if z = y1 then some (.int (g n).1 t1) else if z = y2 then some (.int (g n).2 t2) else if z = xa then u z else if z = xb then u z else m₀ z) → News h₀ env.locals h news → Q .next { s with heap := h, toks := tk }) :
    wpAny (model prog w) A (pyIter (.ref r)) (fun it s₂ => TurnsAt prog w A h₀ env target body Q E it s₂) E s := by
  refine range_inv ht hh hr hsmall hn F N (fun i => TwoSt y1 y2 xa xb m₀ news (g i)) ⟨rfl, t₁, t₂, h1, h2, fun _ _ _ _ _ => rfl⟩ ?_ ?_
  · rintro i t m₁ news₁ h tk I oI hi _ hoff ⟨rfl, t1, t2, e1, e2, hz⟩ F₁ N₁
    rw [form4 e1 e2 hz] at F₁
    exact turn i t t1 t2 m₁ h tk I oI hi hoff F₁ N₁
  · rintro m₁ news₁ h tk ⟨rfl, t1, t2, e1, e2, hz⟩ F₁ N₁
    rw [form4 e1 e2 hz] at F₁
    exact done t1 t2 m₁ h tk F₁ N₁
end
theorem ordL_len (size near far : Int) : ∀ k, (ordL size near far k).length = k + 1
  | 0 => rfl
  | k + 1 => by simp [ordL, ordL_len size near far k]
section
variable {prog : Program} {w : World} {A : Around} {E : Value → Shared → Prop} {Q : Flow → Shared → Prop} {s : Shared} {env : Env} {h₀ : Heap} {L : Addr}
theorem form1 {m' m₀ : Str → Option Value} {x : Str} (h : ∀ z, z ≠ x → m' z = m₀ z) : m' = fun z => if z = x then m' z else m₀ z := by
  funext z
  by_cases ha : z = x
  · rw [if_pos ha]
  · rw [if_neg ha, h z ha]
/-- a while that grows one list of ints (the ledger's first) and forgets one name -/
def GrowSt (x : Str) (m₀ : Str → Option Value) (lo : Addr) (news : List (Addr × Obj)) (g : Nat → List Int) (top : Nat) (n : Nat) (m' : Str → Option Value) (nw : List (Addr × Obj)) : Prop :=
  ∃ k items nv, n + k = top ∧ IntsAre items (g k) ∧ nw = (lo, lst items.toArray nv) :: news ∧ ∀ z, z ≠ x → m' z = m₀ z
theorem while_grow {test : PySem.Expr} {body : List Stmt} {pos : Pos} {m₀ : Str → Option Value} {news : List (Addr × Obj)} (x : Str) (g : Nat → List Int) (top : Nat) {lo : Addr} {items₀ : List Value} {nv₀ : Nat}
    (F : Fr h₀ L s.heap m₀) (N : News h₀ L s.heap ((lo, lst items₀.toArray nv₀) :: news)) (hi : IntsAre items₀ (g 0))
    (turn : ∀ n k items nv (u : Str → Option Value) h₁ tk₁, n + k = top → IntsAre items (g k) → Fr h₀ L h₁ (fun z => if z = x then u z else m₀ z) → News h₀ L h₁ ((lo, lst items.toArray nv) :: news) →
      wpAny (model prog w) A (isTrue test env (eval test env)) (fun b s₂ =>
        if b = true then wpAny (model prog w) A (execs body env) (WhEnd h₀ L s (GrowSt x m₀ lo news g top) n) E s₂ else Q .next s₂) E { s with heap := h₁, toks := tk₁ })
    (hE : PassesOwn (model prog w) A env E := by passes_own) :
    wpAny (model prog w) A (exec (.While test body [] pos) env) Q E s := by
  refine While_inv (n₀ := top) (GrowSt x m₀ lo news g top) F N ⟨0, items₀, nv₀, rfl, hi, rfl, fun _ _ => rfl⟩ ?_ hE
  rintro n m₁ news₁ h₁ tk₁ F₁ N₁ ⟨k, items, nv, hk, hi', rfl, hz⟩
  rw [form1 hz] at F₁
  exact turn n k items nv m₁ h₁ tk₁ hk hi' F₁ N₁
theorem whEnd_grow {x : Str} {m₀ m' : Str → Option Value} {news : List (Addr × Obj)} {lo : Addr} {g : Nat → List Int} {top n k nv : Nat} {items : List Value} {X : Int} {t : Tok} {h' : Heap} {tk : Nat} (F : Fr h₀ L h' m') (N : News h₀ L h' ((lo, lst (items.toArray.push (.int X t)) nv) :: news))
    (hn : n + k = top) (hi : IntsAre items (g k)) (hg : g (k + 1) = g k ++ [X]) (hn0 : 0 < n) (hz : ∀ z, z ≠ x → m' z = m₀ z) : WhEnd h₀ L s (GrowSt x m₀ lo news g top) n .next { s with heap := h', toks := tk } :=
  WhileStep.intro (n' := n - 1) F N (by omega) ⟨k + 1, items ++ [.int X t], nv, by omega, by rw [hg]; exact intsAre_snoc hi X t, by rw [List.push_toArray], hz⟩
end
theorem nf_bound (step : Int) : ∀ i : Nat, 0 ≤ (nf step i).1 ∧ (nf step i).1 ≤ i ∧ 0 ≤ (nf step i).2 ∧ (nf step i).2 ≤ i
  | 0 => by simp [nf]
  | i + 1 => by
    have ih := nf_bound step i
    simp only [nf, nfStep]
    refine ⟨?_, ?_, ?_, ?_⟩ <;> split <;> omega
local macro_rules | `(tactic| walk_at "exec While Compare cons nil") => `(tactic| refine Stop.out ?_)
local macro_rules | `(tactic| walk_at "exec For Name Call cons nil") => `(tactic| (k_here; (rename Fr _ _ _ _ => lF'); (with_unfolding_all refine' For_turns lF' ?_; k_whole)))
local macro_rules | `(tactic| walk_at "pyIter ref") => `(tactic| refine Stop.out ?_)
theorem order_c {w : World} {loose : List Str} {mean : ExcName → Option Value} {mg mb : Str → Option Value}
    {dp un : Nat} {gd : Option (List Code)} {cn : Str} {cs : Scope} {a : Addr} {ccd : Value} {cl : List (Str × Addr)} {outer : List Env} {A₀ : Around} {base h₀ : Heap} {L : Addr} {m : Str → Option Value} {news : List (Addr × Obj)} {s : Shared} {Q E : Value → Shared → Prop}
    (B : Below A₀ base outer h₀) (F : Fr h₀ L s.heap m) (X : (hd.heap_39 w.params).In h₀) (N : News h₀ L s.heap news) (T : Top hd.view_39 loose mean mg mb h₀) (hk : cs.kind = .function)
    {step : Int} {sz : Nat} {t u : Tok} (h0 : 0 ≤ step) (h1 : step < 256) (hz0 : 1 ≤ sz) (hz : sz ≤ 20)
    (hdp : dp + 3 < recursionLimit) (hu : un + 24 < cLine)
    (hret : ∀ (lo : Addr) (items : List Value) (nv : Nat) (h' : Heap) (tk' : Nat), IntsAre items (ordL sz (nf step (sz - 1)).1 (nf step (sz - 1)).2 (sz - 1)) → Fr h₀ L h' m → News h₀ L h' ((lo, lst items.toArray nv) :: news) → (∀ p ∈ news, p.1 < lo) → Q (.ref lo) { s with heap := h', toks := tk' }) :
    wpAny (model PySem.Challenge.rw_rl0009_01.row.prog w) (ktrTop dp un gd cn cs L a ccd cl outer) (call (.ref 99) [.int step t, .int (sz : Int) u]) Q E s := by
  w_top off
  revert X; k_fill; intro X
  refine wpAny_call ?_
  k_dflt cell_enter
  k_steps
  refine Stop.intro ?_
  rename Fr _ _ _ _ => lF
  rename News _ _ _ _ => lN
  rename IsRange _ _ _ _ _ _ _ _ => rX
  refine range_two (fun _ _ => rfl) (Str.ofString "near") (Str.ofString "far") (Str.ofString "name") (Str.ofString "spot") (nf step) rfl rX (n := sz - 1) ?hs ?hn lF lN rfl rfl ?_ ?_
  case hs => exact small_one (by omega) (by omega) (by omega) (by omega)
  case hn =>
    rw [show ((sz - 1 : Nat) : Int) = (sz : Int) - 1 by omega]
    unfold Builtin.Range.rangeSize
    rw [if_pos (by decide)]
    split <;> omega
  · intro i t3 t1 t2 u3 h3 tk3 I oI hi hoff F₁ N₁
    have hb := nf_bound step i
    clear lF lN
    k_steps
    all_goals exact RgStep.intro (p := (I, oI)) (nw := news) (by k_asm) (by k_asm) (fun q hq => hq) hoff (two_end rfl (by simp only [nf, nfStep]; split <;> first | rfl | omega) rfl (by simp only [nf, nfStep]; split <;> first | rfl | omega) (fun z h1 h2 h3 h4 => by simp only [if_neg h1, if_neg h2, if_neg h3, if_neg h4]))
  · intro t1 t2 u3 h3 tk3 F₁ N₁
    have hb := nf_bound step (sz - 1)
    clear lF lN
    k_steps
    refine Stop.intro ?_
    rename Fr _ _ _ _ => lF
    rename News _ _ _ _ => lN
    refine while_grow (Str.ofString "name") (ordL sz (nf step (sz - 1)).1 (nf step (sz - 1)).2) (sz - 1) lF lN (.cons _ _ .nil) ?_
    intro n k items nv u4 h4 tk4 hnk hi4 F₄ N₄
    have hlen := ordL_len sz (nf step (sz - 1)).1 (nf step (sz - 1)).2 k
    have hlen2 := hi4.length
    clear lF lN
    k_steps
    · refine' whEnd_grow (k := k) (items := items) ?F6 ?N6 hnk hi4 ?g6 ?n06 ?z6
      case F6 => k_asm
      case N6 => k_asm
      case g6 => (show _ ++ [nextN _ _ _ _] = _; unfold nextN; rw [if_pos (by assumption)])
      case n06 => omega
      case z6 => exact fun z h1 => by simp only [if_neg h1]
    · refine' whEnd_grow (k := k) (items := items) ?F7 ?N7 hnk hi4 ?g7 ?n07 ?z7
      case F7 => k_asm
      case N7 => k_asm
      case g7 => (show _ ++ [nextN _ _ _ _] = _; unfold nextN; rw [if_neg (by assumption), if_pos (by assumption)])
      case n07 => omega
      case z7 => exact fun z h1 => by simp only [if_neg h1]
    · refine' whEnd_grow (k := k) (items := items) ?F8 ?N8 hnk hi4 ?g8 ?n08 ?z8
      case F8 => k_asm
      case N8 => k_asm
      case g8 => (show _ ++ [nextN _ _ _ _] = _; unfold nextN; rw [if_neg (by assumption), if_neg (by assumption)])
      case n08 => omega
      case z8 => exact fun z h1 => by simp only [if_neg h1]
    · obtain rfl : k = sz - 1 := by omega
      exact hret _ _ _ _ _ hi4 (by k_asm) (by k_asm) (by assumption)
end Mine
end
section
open PySem PySem.W PyProof.Rows
set_option Elab.async false
set_option maxRecDepth 100000
namespace Mine
def ordN (step : Int) (sz : Nat) : List Int := ordL sz (nf step (sz - 1)).1 (nf step (sz - 1)).2 (sz - 1)
def placesAt (step : Int) (i : Nat) : List Int := (ordN step (i + 1)).map fun name => (name * step).fmod 256
def mv (step p : Int) : Int := if p + step ≥ 256 then p + step - 256 else p + step
def cutAt (step : Int) (i : Nat) : Int := bisF (placesAt step i) (256 - step) (placesAt step i).length 0 (placesAt step i).length
def rot {α : Type} (l : List α) (c : Nat) : List α := l.drop c ++ l.take c
def freeTo (step : Int) (i : Nat) : Bool := (List.range i).all fun j => ((1 + (j : Int)) * step).fmod 256 != 0
noncomputable section
@[reducible] def bifB {α : Type} (c : Bool) (a b : α) : α := @Bool.rec (fun _ => α) b a c
def pl (s n : Nat) : Nat := Nat.mod (Nat.mul n s) 256
def stepNear (s n a : Nat) : Nat := bifB (Nat.beq a 0) n (bifB (Nat.blt (pl s n) (pl s a)) n a)
def stepFar (s n b : Nat) : Nat := bifB (Nat.blt (pl s b) (pl s n)) n b
def nextOk (sz a b x y : Nat) : Bool := bifB (Nat.blt (Nat.add x a) sz) (Nat.beq y (Nat.add x a)) (bifB (Nat.blt x b) (Nat.beq (Nat.add y b) (Nat.add x a)) (Nat.beq (Nat.add y b) x))
def chainN (sz a b : Nat) (l : List Nat) : Nat → Bool :=
  @List.rec Nat (fun _ => Nat → Bool) (fun _ => true) (fun y _ ih x => bifB (nextOk sz a b x y) (ih y) false) l
def nthN (l : List Nat) : Nat → Nat :=
  @List.rec Nat (fun _ => Nat → Nat) (fun _ => 0) (fun a _ ih n => @Nat.rec (fun _ => Nat) a (fun m _ => ih m) n) l
def bisN (ps : List Nat) (x : Nat) (f : Nat) : Nat → Nat → Nat :=
  @Nat.rec (fun _ => Nat → Nat → Nat) (fun lo _ => lo) (fun _ ih lo hi => bifB (Nat.blt lo hi) (bifB (Nat.blt (nthN ps (Nat.div (Nat.add lo hi) 2)) x) (ih (Nat.add (Nat.div (Nat.add lo hi) 2) 1) hi) (ih lo (Nat.div (Nat.add lo hi) 2))) lo) f
def mapN (f : Nat → Nat) (l : List Nat) : List Nat := @List.rec Nat (fun _ => List Nat) [] (fun a _ ih => f a :: ih) l
def eqN (l : List Nat) : List Nat → Bool :=
  @List.rec Nat (fun _ => List Nat → Bool) (fun m => @List.rec Nat (fun _ => Bool) true (fun _ _ _ => false) m) (fun a _ ih m => @List.rec Nat (fun _ => Bool) false (fun b q _ => bifB (Nat.beq a b) (ih q) false) m) l
def bndN (n : Nat) (l : List Nat) : Bool := @List.rec Nat (fun _ => Bool) true (fun a _ ih => bifB (Nat.ble a n) ih false) l
def mvN (s p : Nat) : Nat := bifB (Nat.ble 256 (Nat.add p s)) (Nat.sub (Nat.add p s) 256) (Nat.add p s)
def dropN (l : List Nat) : Nat → List Nat := @List.rec Nat (fun _ => Nat → List Nat) (fun _ => []) (fun a r ih c => @Nat.rec (fun _ => List Nat) (a :: r) (fun m _ => ih m) c) l
def takeN (l : List Nat) : Nat → List Nat := @List.rec Nat (fun _ => Nat → List Nat) (fun _ => []) (fun a _ ih c => @Nat.rec (fun _ => List Nat) [] (fun m _ => a :: ih m) c) l
def appN (l m : List Nat) : List Nat := @List.rec Nat (fun _ => List Nat) m (fun a _ ih => a :: ih) l
def rotN (l : List Nat) (c : Nat) : List Nat := appN (dropN l c) (takeN l c)
def goN (s : Nat) (f : Nat) : Nat → Nat → Nat → List Nat → List Nat → Bool :=
  @Nat.rec (fun _ => Nat → Nat → Nat → List Nat → List Nat → Bool) (fun _ _ _ _ _ => true) (fun _ ih i a b o ps =>
    (fun cut => (fun moved => bifB (Nat.ble cut (Nat.add i 1)) (bifB (bndN i o) (bifB (Nat.beq (pl s (Nat.add i 1)) 0) (Nat.beq (nthN moved 0) 0) (bifB (Nat.beq (nthN moved 0) 0) false (
      (fun a b o => bifB (chainN (Nat.add i 2) a b o 0) (bifB (eqN moved (mapN (pl s) o)) (ih (Nat.add i 1) a b (0 :: o) (0 :: moved)) false) false) (stepNear s (Nat.add i 1) a) (stepFar s (Nat.add i 1) b) (mapN (fun x => Nat.add x 1) (rotN o cut))))) false) false) (mapN (mvN s) (rotN ps cut))) (bisN ps (Nat.sub 256 s) (Nat.add i 1) 0 (Nat.add i 1))) f
def allN (n : Nat) (k : Nat) (p : Nat → Bool) : Bool := @Nat.rec (fun _ => Nat → Bool) (fun _ => true) (fun _ ih k => bifB (p k) (ih (Nat.add k 1)) false) n k
end
theorem tabN0 : allN 64 0 (fun s => goN s 8 0 0 0 [0] [0]) = true := by decide +kernel
theorem tabN1 : allN 64 64 (fun s => goN s 8 0 0 0 [0] [0]) = true := by decide +kernel
theorem tabN2 : allN 64 128 (fun s => goN s 8 0 0 0 [0] [0]) = true := by decide +kernel
theorem tabN3 : allN 64 192 (fun s => goN s 8 0 0 0 [0] [0]) = true := by decide +kernel
theorem bifEq {α : Type} (c : Bool) (x y : α) : bifB c x y = if c = true then x else y := by cases c <;> rfl
theorem bifAnd {c x : Bool} (h : bifB c x false = true) : c = true ∧ x = true := by cases c <;> simp_all [bifB]
theorem allN_get {p : Nat → Bool} : ∀ n k, allN n k p = true → ∀ j, k ≤ j → j < k + n → p j = true := by
  intro n
  induction n with
  | zero => intro k _ j h1 h2; omega
  | succ n ih =>
    intro k h j h1 h2
    obtain ⟨a, b⟩ := bifAnd (h : bifB (p k) (allN n (Nat.add k 1) p) false = true)
    by_cases e : j = k
    · rw [e]; exact a
    · exact ih (k + 1) b j (by omega) (by omega)
theorem tabN {s : Nat} (hs : s < 256) : goN s 8 0 0 0 [0] [0] = true := by
  by_cases h1 : s < 64
  · exact allN_get _ _ tabN0 s (by omega) (by omega)
  by_cases h2 : s < 128
  · exact allN_get _ _ tabN1 s (by omega) (by omega)
  by_cases h3 : s < 192
  · exact allN_get _ _ tabN2 s (by omega) (by omega)
  · exact allN_get _ _ tabN3 s (by omega) (by omega)
def up (l : List Nat) : List Int := l.map Int.ofNat
theorem pl_eq (s n : Nat) : ((n : Int) * (s : Int)).fmod 256 = (pl s n : Nat) := by
  rw [Int.fmod_eq_emod_of_nonneg _ (by decide)]
  show _ = ((n * s % 256 : Nat) : Int)
  push_cast
  rfl
theorem beqIff (x y : Nat) : (Nat.beq x y = true) = (x = y) := propext ⟨Nat.eq_of_beq_eq_true, fun h => by rw [h]; exact Nat.beq_refl y⟩
theorem near_eq {s n a b : Nat} : nfStep (s : Int) (n : Int) ((a : Int), (b : Int)) = (((stepNear s n a : Nat) : Int), ((stepFar s n b : Nat) : Int)) := by
  unfold nfStep stepNear stepFar
  simp only [pl_eq, bifEq, beqIff, Nat.blt_eq, Int.ofNat_lt]
  refine Prod.ext ?_ ?_
  · dsimp only
    by_cases h1 : a = 0
    · rw [if_pos (.inl (by omega)), if_pos h1]
    · by_cases h2 : pl s n < pl s a
      · rw [if_pos (.inr h2), if_neg h1, if_pos h2]
      · rw [if_neg (fun h => h.elim (fun h => h1 (by omega)) h2), if_neg h1, if_neg h2]
  · dsimp only
    by_cases h2 : pl s b < pl s n
    · rw [if_pos h2, if_pos h2]
    · rw [if_neg h2, if_neg h2]
theorem nextN_eq {sz a b x y : Nat} (h : nextOk sz a b x y = true) : nextN (sz : Int) (a : Int) (b : Int) (x : Int) = (y : Int) := by
  unfold nextOk at h
  unfold nextN
  simp only [bifEq, Nat.blt_eq, Nat.add_eq] at h
  by_cases h1 : x + a < sz
  · rw [if_pos h1] at h
    rw [if_pos (by omega)]
    have := Nat.eq_of_beq_eq_true h
    omega
  · rw [if_neg h1] at h
    rw [if_neg (by omega)]
    by_cases h2 : x < b
    · rw [if_pos h2] at h
      rw [if_pos (by omega)]
      have := Nat.eq_of_beq_eq_true h
      omega
    · rw [if_neg h2] at h
      rw [if_neg (by omega)]
      have := Nat.eq_of_beq_eq_true h
      omega
theorem lastI_snoc (l : List Int) (x : Int) : lastI (l ++ [x]) = x := by
  unfold lastI
  rw [show (-1 + ((l ++ [x]).length : Int)).toNat = l.length by rw [List.length_append, List.length_singleton]; omega]
  simp [List.getD]
theorem chain_ord {sz a b : Nat} : ∀ (l : List Nat) (k : Nat) (pre : List Int) (x : Nat), ordL (sz : Int) (a : Int) (b : Int) k = pre ++ [(x : Int)] → chainN sz a b l x = true → ordL (sz : Int) (a : Int) (b : Int) (k + l.length) = pre ++ (x : Int) :: up l := by
  intro l
  induction l with
  | nil => intro k pre x h _; exact h
  | cons y l ih =>
    intro k pre x h hc
    obtain ⟨c1, c2⟩ := bifAnd (hc : bifB (nextOk sz a b x y) (chainN sz a b l y) false = true)
    have e : ordL (sz : Int) (a : Int) (b : Int) (k + 1) = (pre ++ [(x : Int)]) ++ [(y : Int)] := by
      show ordL _ _ _ k ++ [nextN _ _ _ (lastI (ordL _ _ _ k))] = _
      rw [h, lastI_snoc, nextN_eq c1]
    have := ih (k + 1) _ y e c2
    rw [show k + (y :: l).length = k + 1 + l.length by rw [List.length_cons]; omega, this]
    simp [up]
theorem nth_eq (l : List Nat) : ∀ n, (up l).getD n 0 = (nthN l n : Nat) := by
  induction l with
  | nil => intro n; simp [up]; rfl
  | cons a l ih =>
    intro n
    cases n with
    | zero => rfl
    | succ n => exact ih n
theorem bis_eq (ps : List Nat) (x : Nat) : ∀ (f lo hi : Nat), bisF (up ps) (x : Int) f (lo : Int) (hi : Int) = (bisN ps x f lo hi : Nat) := by
  intro f
  induction f with
  | zero => intro lo hi; rfl
  | succ f ih =>
    intro lo hi
    have hd : ((lo : Int) + (hi : Int)).fdiv 2 = ((Nat.div (Nat.add lo hi) 2 : Nat) : Int) := by
      rw [Int.fdiv_eq_ediv_of_nonneg _ (by decide)]
      show _ = (((lo + hi) / 2 : Nat) : Int)
      omega
    show (if _ then _ else _) = ((bifB (Nat.blt lo hi) (bifB (Nat.blt (nthN ps (Nat.div (Nat.add lo hi) 2)) x) (bisN ps x f (Nat.add (Nat.div (Nat.add lo hi) 2) 1) hi) (bisN ps x f lo (Nat.div (Nat.add lo hi) 2))) lo : Nat) : Int)
    rw [hd, Int.toNat_natCast, nth_eq, bifEq, bifEq]
    simp only [Nat.blt_eq]
    by_cases h1 : lo < hi
    · rw [if_pos (by omega), if_pos h1]
      by_cases h2 : nthN ps (Nat.div (Nat.add lo hi) 2) < x
      · rw [if_pos (by omega), if_pos h2, ← ih]; rfl
      · rw [if_neg (by omega), if_neg h2, ← ih]
    · rw [if_neg (by omega), if_neg h1]
theorem mapN_eq (f : Nat → Nat) (l : List Nat) : mapN f l = l.map f := by
  induction l with
  | nil => rfl
  | cons a l ih => rw [List.map_cons, ← ih]; rfl
theorem dropN_eq (l : List Nat) : ∀ c, dropN l c = l.drop c := by
  induction l with
  | nil => intro c; rw [List.drop_nil]; rfl
  | cons a l ih =>
    intro c
    cases c with
    | zero => rfl
    | succ c => exact ih c
theorem takeN_eq (l : List Nat) : ∀ c, takeN l c = l.take c := by
  induction l with
  | nil => intro c; rw [List.take_nil]; rfl
  | cons a l ih =>
    intro c
    cases c with
    | zero => rfl
    | succ c =>
      show a :: takeN l c = _
      rw [ih c]; rfl
theorem appN_eq (l m : List Nat) : appN l m = l ++ m := by
  induction l with
  | nil => rfl
  | cons a l ih =>
    show a :: appN l m = _
    rw [ih]; rfl
theorem rotN_eq (l : List Nat) (c : Nat) : rotN l c = rot l c := by
  unfold rotN rot
  rw [appN_eq, dropN_eq, takeN_eq]
theorem eqN_eq : ∀ l m, eqN l m = true → l = m := by
  intro l
  induction l with
  | nil =>
    intro m h
    cases m with
    | nil => rfl
    | cons b q => cases h
  | cons a l ih =>
    intro m h
    cases m with
    | nil => cases h
    | cons b q =>
      obtain ⟨h1, h2⟩ := bifAnd (h : bifB (Nat.beq a b) (eqN l q) false = true)
      rw [Nat.eq_of_beq_eq_true h1, ih q h2]
theorem bndN_le {n : Nat} : ∀ l, bndN n l = true → ∀ a ∈ l, a ≤ n := by
  intro l
  induction l with
  | nil => intro _ a h; cases h
  | cons b l ih =>
    intro h a ha
    obtain ⟨h1, h2⟩ := bifAnd (h : bifB (Nat.ble b n) (bndN n l) false = true)
    rcases List.mem_cons.mp ha with e | ha
    · rw [e]; exact Nat.le_of_ble_eq_true h1
    · exact ih h2 a ha
theorem mvN_eq (s p : Nat) : mv (s : Int) (p : Int) = (mvN s p : Nat) := by
  unfold mv mvN
  rw [bifEq]
  simp only [Nat.ble_eq, Nat.add_eq, Nat.sub_eq]
  by_cases h : 256 ≤ p + s
  · rw [if_pos (by omega), if_pos h]; omega
  · rw [if_neg (by omega), if_neg h]; omega
theorem rot_up (l : List Nat) (c : Nat) : rot (up l) c = up (rot l c) := by
  unfold rot up
  rw [List.map_append, List.map_drop, List.map_take]
theorem rot_len {α : Type} (l : List α) (c : Nat) : (rot l c).length = l.length := by
  unfold rot
  rw [List.length_append, List.length_drop, List.length_take]
  omega
theorem rot_mem {α : Type} {l : List α} {c : Nat} {x : α} (h : x ∈ rot l c) : x ∈ l := by
  unfold rot at h
  rcases List.mem_append.mp h with h | h
  · exact List.mem_of_mem_drop h
  · exact List.mem_of_mem_take h
def Facts (step : Int) (i : Nat) : Prop :=
    0 ≤ cutAt step i ∧ cutAt step i ≤ (placesAt step i).length ∧ (ordN step (i + 1)).length = i + 1 ∧ (∀ name ∈ ordN step (i + 1), 0 ≤ name ∧ name ≤ (i : Int)) ∧ (((rot (placesAt step i) (cutAt step i).toNat).map (mv step)).headD 1 = 0 ↔ ((1 + (i : Int)) * step).fmod 256 = 0) ∧
    (((1 + (i : Int)) * step).fmod 256 ≠ 0 → ordN step (i + 2) = 0 :: (rot (ordN step (i + 1)) (cutAt step i).toNat).map (· + 1) ∧ 0 :: (rot (placesAt step i) (cutAt step i).toNat).map (mv step) = placesAt step (i + 1) ∧ ∀ name ∈ ordN step (i + 2), 0 ≤ name ∧ name ≤ (i : Int) + 1)
theorem go_sound {s : Nat} (hs : s < 256) : ∀ (f i a b : Nat) (o ps : List Nat), goN s f i a b o ps = true → nf (s : Int) i = ((a : Int), (b : Int)) → ordN (s : Int) (i + 1) = up o → o.length = i + 1 → placesAt (s : Int) i = up ps →
    ∀ j, j < f → freeTo (s : Int) (i + j) = true → Facts (s : Int) (i + j) := by
  intro f
  induction f with
  | zero => intro i a b o ps _ _ _ _ _ j hj; omega
  | succ f ih =>
    intro i a b o ps hg hq ho hl hp j hj hf
    have hpl : ps.length = i + 1 := by
      have := congrArg List.length hp
      unfold placesAt at this
      rw [List.length_map, ho] at this
      unfold up at this
      rw [List.length_map, List.length_map] at this
      omega
    obtain ⟨cut, hcut⟩ : ∃ cut, cut = bisN ps (Nat.sub 256 s) (Nat.add i 1) 0 (Nat.add i 1) := ⟨_, rfl⟩
    obtain ⟨moved, hmoved⟩ : ∃ m, m = mapN (mvN s) (rotN ps cut) := ⟨_, rfl⟩
    obtain ⟨o', ho'⟩ : ∃ m, m = mapN (fun x => Nat.add x 1) (rotN o cut) := ⟨_, rfl⟩
    obtain ⟨a', ha'⟩ : ∃ m, m = stepNear s (Nat.add i 1) a := ⟨_, rfl⟩
    obtain ⟨b', hb'⟩ : ∃ m, m = stepFar s (Nat.add i 1) b := ⟨_, rfl⟩
    have hg' : bifB (Nat.ble cut (Nat.add i 1)) (bifB (bndN i o) (bifB (Nat.beq (pl s (Nat.add i 1)) 0) (Nat.beq (nthN moved 0) 0) (bifB (Nat.beq (nthN moved 0) 0) false (
      bifB (chainN (Nat.add i 2) a' b' o' 0) (bifB (eqN moved (mapN (pl s) o')) (goN s f (Nat.add i 1) a' b' (0 :: o') (0 :: moved)) false) false))) false) false = true := by
      rw [ha', hb', ho', hmoved, hcut]
      exact hg
    clear hg
    obtain ⟨c1, hg'⟩ := bifAnd hg'
    obtain ⟨c2, hg'⟩ := bifAnd hg'
    have hcutI : cutAt (s : Int) i = (cut : Int) := by
      unfold cutAt
      rw [hp, show (up ps).length = i + 1 by unfold up; rw [List.length_map, hpl], show (256 - (s : Int)) = ((Nat.sub 256 s : Nat) : Int) by show _ = ((256 - s : Nat) : Int); omega, hcut]
      exact bis_eq ps (Nat.sub 256 s) (i + 1) 0 (i + 1)
    have hmv : (rot (placesAt (s : Int) i) (cutAt (s : Int) i).toNat).map (mv (s : Int)) = up moved := by
      rw [hcutI, Int.toNat_natCast, hp, rot_up, hmoved, mapN_eq, rotN_eq]
      unfold up
      rw [List.map_map, List.map_map]
      exact List.map_congr_left fun x _ => mvN_eq s x
    have hml : moved.length = i + 1 := by rw [hmoved, mapN_eq, rotN_eq, List.length_map, rot_len, hpl]
    have hz : ((1 + (i : Int)) * (s : Int)).fmod 256 = (pl s (Nat.add i 1) : Nat) := by
      rw [show (1 + (i : Int)) = ((Nat.add i 1 : Nat) : Int) by show _ = ((i + 1 : Nat) : Int); omega]
      exact pl_eq s _
    have hhd : (up moved).headD 1 = (nthN moved 0 : Nat) := by
      cases moved with
      | nil => simp at hml
      | cons x r => rfl
    have hoo : 0 :: (rot (ordN (s : Int) (i + 1)) (cutAt (s : Int) i).toNat).map (· + 1) = up (0 :: o') := by
      rw [hcutI, Int.toNat_natCast, ho, rot_up, ho', mapN_eq, rotN_eq]
      unfold up
      rw [List.map_map, List.map_cons, List.map_map]
      rfl
    have hbnd : ∀ name ∈ ordN (s : Int) (i + 1), 0 ≤ name ∧ name ≤ (i : Int) := by
      rw [ho]
      intro name hm
      obtain ⟨n, h1, rfl⟩ := List.mem_map.mp hm
      have := bndN_le o c2 n h1
      show 0 ≤ (n : Int) ∧ (n : Int) ≤ (i : Int)
      omega
    have hlen : (ordN (s : Int) (i + 1)).length = i + 1 := by rw [ho]; unfold up; rw [List.length_map, hl]
    have hcle : cut ≤ i + 1 := Nat.le_of_ble_eq_true c1
    have hlenp : (placesAt (s : Int) i).length = i + 1 := by unfold placesAt; rw [List.length_map, hlen]
    have free : ((1 + (i : Int)) * (s : Int)).fmod 256 ≠ 0 → chainN (Nat.add i 2) a' b' o' 0 = true ∧ eqN moved (mapN (pl s) o') = true ∧ goN s f (Nat.add i 1) a' b' (0 :: o') (0 :: moved) = true ∧ nthN moved 0 ≠ 0 := by
      intro hnz
      rw [bifEq, if_neg (fun h => hnz (by rw [hz, Nat.eq_of_beq_eq_true h]; rfl))] at hg'
      cases hb : Nat.beq (nthN moved 0) 0 with
      | true => rw [hb] at hg'; cases hg'
      | false =>
        rw [hb] at hg'
        obtain ⟨d1, hg'⟩ := bifAnd hg'
        obtain ⟨d2, d3⟩ := bifAnd hg'
        exact ⟨d1, d2, d3, fun e => by rw [e] at hb; cases hb⟩
    have hq' : nf (s : Int) (i + 1) = ((a' : Int), (b' : Int)) := by
      show nfStep (s : Int) (1 + (i : Int)) (nf (s : Int) i) = _
      rw [hq, show (1 + (i : Int)) = ((Nat.add i 1 : Nat) : Int) by show _ = ((i + 1 : Nat) : Int); omega, near_eq, ha', hb']
    have hol : o'.length = i + 1 := by rw [ho', mapN_eq, rotN_eq, List.length_map, rot_len, hl]
    have next : ((1 + (i : Int)) * (s : Int)).fmod 256 ≠ 0 → ordN (s : Int) (i + 2) = up (0 :: o') ∧ placesAt (s : Int) (i + 1) = up (0 :: moved) := by
      intro hnz
      obtain ⟨d1, d2, d3, d4⟩ := free hnz
      have e1 : ordN (s : Int) (i + 2) = up (0 :: o') := by
        unfold ordN
        rw [show i + 2 - 1 = i + 1 by omega, hq']
        have := chain_ord o' 0 [] 0 rfl d1
        rw [hol, Nat.zero_add] at this
        exact this
      refine ⟨e1, ?_⟩
      unfold placesAt
      rw [show i + 1 + 1 = i + 2 by omega, e1, eqN_eq _ _ d2, mapN_eq]
      unfold up
      rw [List.map_map, List.map_cons, List.map_cons, List.map_map]
      congr 1
      · show ((0 : Int) * (s : Int)).fmod 256 = 0
        rw [Int.zero_mul]; rfl
      · exact List.map_congr_left fun x _ => pl_eq s x
    cases j with
    | zero =>
      rw [Nat.add_zero]
      refine ⟨by rw [hcutI]; omega, by rw [hcutI, hlenp]; omega, hlen, hbnd, ?_, fun hnz => ?_⟩
      · rw [hmv, hhd, hz]
        constructor
        · intro h
          by_cases hnz : ((1 + (i : Int)) * (s : Int)).fmod 256 = 0
          · rw [← hz]; exact hnz
          · exact absurd (by omega) (free hnz).2.2.2
        · intro h
          have hb : Nat.beq (pl s (Nat.add i 1)) 0 = true := by rw [show pl s (Nat.add i 1) = 0 by omega]; rfl
          rw [hb] at hg'
          have := Nat.eq_of_beq_eq_true (hg' : Nat.beq (nthN moved 0) 0 = true)
          omega
      · obtain ⟨e1, e2⟩ := next hnz
        refine ⟨by rw [e1, hoo], by rw [hmv, e2]; rfl, ?_⟩
        rw [e1, ← hoo]
        intro name hm
        rcases List.mem_cons.mp hm with e | hm
        · rw [e]; omega
        · obtain ⟨n, h1, rfl⟩ := List.mem_map.mp hm
          have := hbnd n (rot_mem h1)
          show 0 ≤ n + 1 ∧ n + 1 ≤ (i : Int) + 1
          omega
    | succ j =>
      have hnz : ((1 + (i : Int)) * (s : Int)).fmod 256 ≠ 0 := by
        unfold freeTo at hf
        have := List.all_eq_true.mp hf i (List.mem_range.mpr (by omega))
        simpa using this
      obtain ⟨e1, e2⟩ := next hnz
      rw [show i + (j + 1) = (i + 1) + j by omega] at hf ⊢
      exact ih (i + 1) a' b' (0 :: o') (0 :: moved) (free hnz).2.2.1 hq' e1 (by rw [List.length_cons, hol]) e2 j (by omega) hf
theorem step_facts {step : Int} {i : Nat} (h0 : 0 ≤ step) (h1 : step < 256) (hi : i < 8) (hf : freeTo step i = true) : Facts step i := by
  obtain ⟨s, rfl⟩ : ∃ s : Nat, step = s := ⟨step.toNat, by omega⟩
  have h := go_sound (s := s) (by omega) 8 0 0 0 [0] [0] (tabN (by omega)) rfl rfl rfl (by simp [placesAt, ordN, ordL, up]) i hi
  rw [Nat.zero_add] at h
  exact h hf
def dots (n : Int) : Str := ⟨Array.replicate n.toNat 46⟩
def rowsAt (ns : List Int) (step : Int) (i : Nat) : List Str := (ordN step (i + 1)).map fun name => dots name ++ rowOf ns ((i : Int) - name)
end Mine
end
section
open PySem PySem.W PyProof.Rows PySem.Calls
set_option Elab.async false
set_option maxRecDepth 100000
set_option maxHeartbeats 8000000
namespace Mine
section
variable {prog : Program} {w : World} {A : Around} {E : Value → Shared → Prop} {s : Shared} {env : Env} {h₀ : Heap} {target : PySem.Expr} {body : List Stmt} {Q : Flow → Shared → Prop}
def LgEnd (h₀ : Heap) (L : Addr) (x y : Str) (m₀ : Str → Option Value) (It : Addr × Obj) (d : Addr) (rest : List (Addr × Obj)) (g : List Int) (s : Shared) (f : Flow) (s₃ : Shared) : Prop :=
  f = .next ∧ ∃ h' tk' m' items' nv', s₃ = { s with heap := h', toks := tk' } ∧ Fr h₀ L h' m' ∧ News h₀ L h' (It :: (d, lst (List.toArray items') nv') :: rest) ∧ IntsAre items' g ∧ ∀ z, z ≠ x → z ≠ y → m' z = m₀ z
theorem LgEnd.intro {L : Addr} {x y : Str} {m₀ m' : Str → Option Value} {It : Addr × Obj} {d : Addr} {rest : List (Addr × Obj)} {g g' : List Int} {h' : Heap} {tk' nv : Nat} {items : List Value} {X : Int} {t : Tok} (F : Fr h₀ L h' m')
    (N : News h₀ L h' (It :: (d, lst (items.toArray.push (.int X t)) nv) :: rest)) (hi : IntsAre items g) (hg : g' = g ++ [X]) (hz : ∀ z, z ≠ x → z ≠ y → m' z = m₀ z) : LgEnd h₀ L x y m₀ It d rest g' s .next { s with heap := h', toks := tk' } :=
  ⟨rfl, h', tk', m', items ++ [.int X t], nv, rfl, F, by rw [List.push_toArray] at N; exact N, by rw [hg]; exact intsAre_snoc hi X t, hz⟩
theorem form2 {m' m₀ : Str → Option Value} {x y : Str} (h : ∀ z, z ≠ x → z ≠ y → m' z = m₀ z) : m' = fun z => if z = x then m' z else if z = y then m' z else m₀ z := by
  funext z
  by_cases ha : z = x
  · rw [if_pos ha]
  · rw [if_neg ha]
    by_cases hb : z = y
    · rw [if_pos hb]
    · rw [if_neg hb, h z ha hb]
theorem list_grow (ht : ∀ it v, letOwnedTupleGo target it v = pure ()) {l d : Addr} {vs : List Value} {ns : List Int} {n nv₀ : Nat} {m₀ : Str → Option Value} {rest : List (Addr × Obj)} (x y : Str) (f : Int → Int)
    (hh : A.handled = none) (hi : IntsAre vs ns) (F : Fr h₀ env.locals s.heap m₀) (N : News h₀ env.locals s.heap ((d, lst #[] nv₀) :: (l, lst vs.toArray n) :: rest))
    (turn : ∀ (i : Nat) (k : Int) (t : Tok) (items : List Value) (nv : Nat) (u : Str → Option Value) (h : Heap) (tk : Nat) (It : Addr) (oIt : Obj), ns[i]? = some k → i < ns.length → IntsAre items ((ns.take i).map f) → @Ne Nat d It →
      Fr h₀ env.locals h (fun z => if z = x then u z else if z = y then u z else m₀ z) → News h₀ env.locals h ((It, oIt) :: (d, lst items.toArray nv) :: (l, lst vs.toArray n) :: rest) →
      wpAny (model prog w) A (assign target env (.int k t)) (fun _ s₂ => wpAny (model prog w) A (execs body env) (LgEnd h₀ env.locals x y m₀ (It, oIt) d ((l, lst vs.toArray n) :: rest) ((ns.take (i + 1)).map f) { s with heap := h, toks := tk }) E s₂) E { s with heap := h, toks := tk })
    (done : ∀ (items : List Value) (nv : Nat) (u : Str → Option Value) h tk, IntsAre items (ns.map f) → Fr h₀ env.locals h (fun z => if z = x then u z else if z = y then u z else m₀ z) → News h₀ env.locals h ((d, lst items.toArray nv) :: (l, lst vs.toArray n) :: rest) → Q .next { s with heap := h, toks := tk }) :
    wpAny (model prog w) A (pyIter (.ref l)) (fun it s₂ => TurnsAt prog w A h₀ env target body Q E it s₂) E s := by
  have hax := N (l, lst vs.toArray n) (.tail _ (.head _))
  have hl : s.heap.IsList l vs.toArray := ⟨_, hax.1, rfl, n, rfl⟩
  have hlt : l < s.heap.objs.size := Heap.lt_size hax.1
  have hLs : env.locals < s.heap.objs.size := F.ns.lt
  have hlen : vs.length = ns.length := hi.length
  refine wpAny_pyIter_list hl ?_
  have W := KTurns.ofWalks (target := target) (Walks.list (prog := prog) (w := w) hh s.heap.objs.size l (Nat.ne_of_lt hlt) vs.toArray) (fun i v s Q E _ hq => wpAny_of_eq (ht _ v) hq)
  refine ⟨_, _, _, vs.toArray.size, _, _, _, m₀, _, (fun i m' nw => ∃ items nv, nw = (d, lst (List.toArray items) nv) :: (l, lst vs.toArray n) :: rest ∧ IntsAre items ((ns.take i).map f) ∧ ∀ z, z ≠ x → z ≠ y → m' z = m₀ z), rfl, W, ?_, ?_, ?_, ⟨⟨_, Heap.get?_push_size _ rfl, rfl, rfl⟩, hl.at fun o e => Heap.get?_push_of_some _ e⟩, F.push _, (fun p hp => ⟨Heap.get?_push_of_some _ (N p hp).1, (N p hp).2⟩), ⟨[], nv₀, rfl, .nil, fun _ _ _ => rfl⟩, ?_, ?_⟩
  · intro hm
    rcases List.mem_cons.mp hm with e | hm
    · exact absurd hLs (e ▸ Nat.lt_irrefl _)
    · exact hax.2.1 (List.mem_singleton.mp hm).symm
  · intro b hb
    rw [List.mem_singleton.mp hb]
    exact next_is_new F
  · intro p hp hI
    exact absurd (Heap.lt_size (N p hp).1) ((List.mem_singleton.mp hI) ▸ Nat.lt_irrefl _)
  · rintro i v m₁ news₁ h₁ tk₁ own hin hP ⟨items, nv, rfl, hit, hz⟩ hoff hsub hget hall hst F₁ N₁
    have hst' : ∃ oI : Obj, h₁.get? s.heap.objs.size = some oI := by
      obtain ⟨⟨oi, hoi, _⟩, _⟩ := hst
      exact ⟨oi, hoi⟩
    obtain ⟨oI, hoI⟩ := hst'
    have m1 := hall s.heap.objs.size (by simp) (next_is_new F) oI hoI
    have N₂ : News h₀ env.locals h₁ ((s.heap.objs.size, oI) :: (d, lst items.toArray nv) :: (l, lst vs.toArray n) :: rest) := by
      intro p hp
      rcases List.mem_cons.mp hp with rfl | hp
      · exact N₁ _ (List.mem_append_left _ m1)
      · exact N₁ _ (List.mem_append_right _ hp)
    have hlt' : i < ns.length := by have : i < vs.toArray.size := hin; simpa [hlen] using this
    obtain ⟨t, hx⟩ := hi.get i ns[i] (by simp [hlt'])
    have hv : v = .int ns[i] t := by
      have hP' : vs[i]? = some v := by simpa using hP
      rw [hx] at hP'; exact (Option.some.inj hP').symm
    subst hv
    rw [form2 hz] at F₁
    have hdI : @Ne Nat d s.heap.objs.size := fun e => hoff _ (.head _) (List.mem_singleton.mpr e)
    refine wpAny_mono (turn i ns[i] t items nv m₁ h₁ tk₁ s.heap.objs.size oI (by simp [hlt']) hlt' hit hdI F₁ N₂) (fun _ s₂ h₂ => wpAny_mono h₂ (fun f s₃ h₃ => ?_) fun _ _ x => x) fun _ _ x => x
    obtain ⟨rfl, h', tk', m', items', nv', rfl, F', N', hi', hz'⟩ := h₃
    refine LoopStepU.intro (news₂ := (d, lst items'.toArray nv') :: (l, lst vs.toArray n) :: rest) F' (fun p hp => ?_) (fun p hp => ?_) ⟨items', nv', rfl, hi', hz'⟩
    · rcases List.mem_append.mp hp with hp | hp
      · have hs := hsub p hp
        have hg := hget p hp
        obtain ⟨pa, po⟩ := p
        rcases List.mem_cons.mp hs with e | hs
        · dsimp only at e hg
          rw [e, hoI] at hg
          cases hg
          subst e
          exact N' _ (.head _)
        · have e := List.mem_singleton.mp hs
          dsimp only at e hg
          have hl₁ := (N₂ (l, lst vs.toArray n) (.tail _ (.tail _ (.head _)))).1
          rw [e, hl₁] at hg
          cases hg
          subst e
          exact N' _ (.tail _ (.tail _ (.head _)))
      · exact N' _ (.tail _ hp)
    · rcases List.mem_cons.mp hp with rfl | hp
      · exact hoff (d, lst items.toArray nv) (.head _)
      · exact hoff p (.tail _ hp)
  · rintro h' tk m' news' F' N' _ ⟨items, nv, rfl, hit, hz⟩
    rw [form2 hz] at F'
    rw [List.size_toArray, hlen, List.take_length] at hit
    exact done items nv m' h' tk hit F' N'
end
end Mine
end
section
open PySem PySem.W PyProof.Rows PySem.Calls
set_option Elab.async false
set_option maxRecDepth 100000
set_option maxHeartbeats 8000000
namespace Mine
section
variable {prog : Program} {w : World} {A : Around} {E : Value → Shared → Prop} {s : Shared} {h₀ : Heap} {L l a b : Addr} {m : Str → Option Value} {news : List (Addr × Obj)} {value slice : PySem.Expr} {vs ws : List Value} {rs ms : List Str} {vl vu : Value} {lo hi : Option Int} {x y : Int} {Q : Value → Shared → Prop}
theorem strs_take {vs : List Value} {rs : List Str} (h : StrsAre vs rs) : ∀ n, StrsAre (vs.take n) (rs.take n) := by
  induction h with
  | nil => intro n; simp; exact .nil
  | cons z tz _ ih =>
    intro n
    cases n with
    | zero => exact .nil
    | succ n => exact .cons z tz (ih n)
theorem strs_drop {vs : List Value} {rs : List Str} (h : StrsAre vs rs) : ∀ n, StrsAre (vs.drop n) (rs.drop n) := by
  induction h with
  | nil => intro n; simp; exact .nil
  | cons z tz h ih =>
    intro n
    cases n with
    | zero => exact .cons z tz h
    | succ n => exact ih n
theorem strs_append {vs ws : List Value} {rs ms : List Str} (h : StrsAre vs rs) (h' : StrsAre ws ms) : StrsAre (vs ++ ws) (rs ++ ms) := by
  induction h with
  | nil => exact h'
  | cons z tz _ ih => exact .cons z tz ih
theorem strs_upto (h : StrsAre vs rs) (hy : 0 ≤ y) : StrsAre (slicePick vs.toArray none (some y) none).toList (rs.take y.toNat) := by
  have e : sliceBounds none (some y) none vs.toArray.size = (((0 : Nat) : Int), ((min y.toNat vs.toArray.size : Nat) : Int), 1) := by
    simp only [sliceBounds, Option.getD_none, show (1 : Int) > 0 by decide, if_true, if_neg (show ¬ (y < 0) by omega)]
    congr 1
    congr 1
    omega
  rw [kmk_pick_nat _ e]
  show StrsAre ((vs.drop 0).take (min y.toNat vs.toArray.size - 0)) _
  rw [List.drop_zero, Nat.sub_zero, List.size_toArray, kmk_take_min]
  exact strs_take h _
theorem strs_from (h : StrsAre vs rs) (hx : 0 ≤ x) : StrsAre (slicePick vs.toArray (some x) none none).toList (rs.drop x.toNat) := by
  have e : sliceBounds (some x) none none vs.toArray.size = (((min x.toNat vs.toArray.size : Nat) : Int), ((vs.toArray.size : Nat) : Int), 1) := by
    simp only [sliceBounds, Option.getD_none, show (1 : Int) > 0 by decide, if_true, if_neg (show ¬ (x < 0) by omega)]
    congr 1
    omega
  rw [kmk_pick_nat _ e]
  show StrsAre ((vs.drop (min x.toNat vs.toArray.size)).take (vs.toArray.size - min x.toNat vs.toArray.size)) _
  rw [List.size_toArray, kmk_drop_min, List.take_of_length_le (by rw [List.length_drop]; omega)]
  exact strs_drop h _
theorem strs_upto_neg (h : StrsAre vs rs) (hy : y < 0) : StrsAre (slicePick vs.toArray none (some y) none).toList (rs.take (rs.length - (-y).toNat)) := by
  have e : sliceBounds none (some y) none vs.toArray.size = (((0 : Nat) : Int), ((vs.toArray.size - (-y).toNat : Nat) : Int), 1) := by
    simp only [sliceBounds, Option.getD_none, show (1 : Int) > 0 by decide, if_true, if_pos hy]
    congr 1
    congr 1
    omega
  rw [kmk_pick_nat _ e]
  show StrsAre ((vs.drop 0).take (vs.toArray.size - (-y).toNat - 0)) _
  rw [List.drop_zero, Nat.sub_zero, List.size_toArray, strsAre_length h]
  exact strs_take h _
theorem slice_strs (F : Fr h₀ L s.heap m) (N : News h₀ L s.heap news) (hl : s.heap.IsList l vs.toArray) (pl : IsPart vl lo) (pu : IsPart vu hi) (hi' : StrsAre vs rs) (hm : StrsAre (slicePick vs.toArray lo hi none).toList ms) (hz : rs.length ≤ 1000)
    (h : ∀ D ws h', Fr h₀ L h' m → News h₀ L h' ((D, lst (List.toArray ws) 0) :: news) → (∀ p ∈ news, p.1 < D) → StrsAre ws ms → Q (.ref D) { s with heap := h' })
    (hs : subscripted slice false (.ref l) (.ref s.heap.objs.size) = operate [.ref s.heap.objs.size, .ref l] (getItem (.ref l) (.ref s.heap.objs.size))) (ht : ∀ r, letTemporaryGo value (.ref l) r = pure ()) :
    wpAny (model prog w) A (subscriptTail value slice (.ref l) (.ref s.heap.objs.size)) Q E { s with heap := s.heap.push { cls := .type "slice", data := .fields #[vl, vu, .none] } } := by
  refine kmk_slice F N hl pl pu (fun D h' F' N' l1 => h D (slicePick vs.toArray lo hi none).toList h' F' ?_ l1 hm) hs ht ?_
  · rw [Array.toArray_toList]
    exact N'
  · rw [List.size_toArray, strsAre_length hi']
    exact Nat.le_trans hz (by decide)
theorem add_strs (F : Fr h₀ L s.heap m) (N : News h₀ L s.heap news) (ha : s.heap.IsList a vs.toArray) (hb : s.heap.IsList b ws.toArray) (hi : StrsAre vs rs) (hj : StrsAre ws ms) (hz : rs.length + ms.length ≤ 1000)
    (h : ∀ D us h', Fr h₀ L h' m → News h₀ L h' ((D, lst (List.toArray us) 0) :: news) → (∀ p ∈ news, p.1 < D) → StrsAre us (rs ++ ms) → Q (.ref D) { s with heap := h' }) :
    wpAny (model prog w) A (binaryOp .Add (.ref a) (.ref b)) Q E s :=
  kmk_add_lit F N ha hb rfl (fun D h' F' N' l1 => h D (vs ++ ws) h' F' N' l1 (strs_append hi hj)) (by
    show vs.length + ws.length ≤ sizeLine
    rw [strsAre_length hi, strsAre_length hj]; exact Nat.le_trans hz (by decide))
end
end Mine
end
section
set_option Elab.async false
set_option maxRecDepth 100000
namespace Mine
open PySem PySem.StrLaws PySem.Builtin PySem.Builtin.Str
def crlf : Str := ⟨#[13, 10]⟩
def lines (rows : List (List Nat)) : List Nat := (rows.map fun r => r ++ [13, 10]).flatten
theorem at_iff {x : Str} {k : Nat} : At x crlf x.length k ↔ k + 2 ≤ x.length ∧ ((x.cps.toList.drop k).take 2) = [13, 10] := by
  unfold At
  rw [subAt_eq]
  show (k + 2 ≤ x.length ∧ _) ↔ _
  refine and_congr Iff.rfl ?_
  rw [beq_iff_eq]
  exact Iff.rfl
theorem split_lines {x : Str} : ∀ (rows : List (List Nat)) (a f : Nat) (cuts : List Nat), (∀ r ∈ rows, 13 ∉ r) → x.cps.toList.drop a = lines rows → a ≤ x.length → ChainG x crlf x.length a cuts f → (∀ k, f ≤ k → ¬ At x crlf x.length k) →
    (partsFrom x 2 a cuts).map (·.cps.toList) = rows ++ [[]] := by
  intro rows
  induction rows with
  | nil =>
    intro a f cuts _ hd ha hc hf
    have hlen : x.cps.toList.length = x.length := by simp [Str.length]
    have hal : a = x.length := by
      have := congrArg List.length hd
      simp [lines] at this
      have h2 : x.cps.size = x.length := rfl
      omega
    cases cuts with
    | nil =>
      show [(strSub x a x.length).cps.toList] = [[]]
      rw [strSub_toList, hd]
      simp [lines]
    | cons c r =>
      have h1 := hc.1
      have h2 := hc.2.1.1
      have : crlf.length = 2 := rfl
      omega
  | cons r rs ih =>
    intro a f cuts hr hd ha hc hf
    have hlen : x.cps.toList.length = x.length := by simp [Str.length]
    have hl2 := congrArg List.length hd
    have hd' : x.cps.toList.drop a = r ++ ([13, 10] ++ lines rs) := by rw [hd]; simp [lines]
    have hl : x.length = a + (r.length + 2 + (lines rs).length) := by
      have := congrArg List.length hd'
      simp only [List.length_drop, List.length_append, List.length_cons, List.length_nil, hlen] at this
      omega
    have h0 : At x crlf x.length (a + r.length) := by
      rw [at_iff]
      refine ⟨by omega, ?_⟩
      rw [← List.drop_drop, hd', List.drop_left]
      rfl
    have hno : ∀ k, a ≤ k → k < a + r.length → ¬ At x crlf x.length k := by
      intro k h1 h2 hA
      rw [at_iff] at hA
      have e := hA.2
      rw [show k = a + (k - a) by omega, ← List.drop_drop, hd', List.drop_append_of_le_length (by omega)] at e
      have hkr : k - a < r.length := by omega
      rw [List.drop_eq_getElem_cons hkr] at e
      have e13 : r[k - a] = 13 := by
        simp only [List.cons_append, List.take_succ_cons] at e
        exact (List.cons.inj e).1
      exact hr r (by simp) (e13 ▸ List.getElem_mem hkr)
    cases cuts with
    | nil =>
      have e : f = a := hc
      exact absurd h0 (hf _ (by omega))
    | cons c cs =>
      obtain ⟨c1, c2, c3, c4⟩ := hc
      have hce : c = a + r.length := by
        by_cases hlt : c < a + r.length
        · exact absurd c2 (hno c c1 hlt)
        · by_cases hgt : a + r.length < c
          · exact absurd h0 (c3 _ (by omega) hgt)
          · omega
      subst hce
      show (strSub x a (a + r.length)).cps.toList :: (partsFrom x 2 (a + r.length + 2) cs).map (·.cps.toList) = r :: (rs ++ [[]])
      have hdn : x.cps.toList.drop (a + r.length + 2) = lines rs := by
        rw [show a + r.length + 2 = a + (r.length + 2) by omega, ← List.drop_drop, hd', ← List.drop_drop, List.drop_left]
        rfl
      rw [ih (a + r.length + 2) f cs (fun q hq => hr q (by simp [hq])) hdn (by omega) c4 hf]
      congr 1
      rw [strSub_toList, hd', show a + r.length - a = r.length by omega, List.take_left]
theorem split_crlf {x : Str} {rows : List (List Nat)} (hx : x.cps.toList = lines rows) (hr : ∀ r ∈ rows, 13 ∉ r) (hne : rows ≠ []) (hk : ∀ r ∈ rows, ∀ c ∈ r, c < 256) : Txt.split x crlf = rows.map (fun r => ⟨r.toArray⟩) ++ [⟨#[]⟩] := by
  have hlen : x.cps.toList.length = x.length := by simp [Str.length]
  have h2 : 2 ≤ x.length := by
    cases rows with
    | nil => exact absurd rfl hne
    | cons r rs =>
      rw [← hlen, hx]
      simp [lines]
      omega
  obtain ⟨f, hG, hn⟩ := occ_tight x crlf (by decide)
  have key := split_lines (x := x) rows 0 f _ hr (by rw [List.drop_zero]; exact hx) (Nat.zero_le _) hG hn
  have hkind : Builtin.Str.strKind crlf = 1 := by decide +kernel
  unfold Txt.split
  rw [if_neg (by
    rw [hkind]
    simp only [Bool.or_eq_true, decide_eq_true_eq, not_or]
    refine ⟨by show ¬ x.length < 2; omega, ?_⟩
    unfold Builtin.Str.strKind
    split
    · omega
    · split <;> omega)]
  rw [if_neg (by
    intro he
    rw [List.isEmpty_iff] at he
    rw [he] at key
    cases rows with
    | nil => exact hne rfl
    | cons r rs =>
      have := congrArg List.length key
      simp [partsFrom] at this)]
  rw [partsBetween_eq]
  have inj : ∀ (l : List Str) (q : List (List Nat)), l.map (·.cps.toList) = q → l = q.map (fun r => ⟨r.toArray⟩) := by
    intro l
    induction l with
    | nil => intro q h; rw [← h]; rfl
    | cons y l ih =>
      intro q h
      rw [← h, List.map_cons, List.map_cons, ← ih _ rfl]
  show partsFrom x 2 0 _ = _
  rw [inj _ _ key]
  simp

/-- the text of rows with their ends -/
def txt (ns : List Int) : Nat → List Str → List Nat
  | _, [] => []
  | k, r :: rs => r.cps.toList ++ ((endOf ((drawn ns (k : Int)).fmod 3)).cps.toList ++ txt ns (k + 1) rs)
theorem endOf_list (d : Int) : (endOf d).cps.toList = [10] ∨ (endOf d).cps.toList = [13] ∨ (endOf d).cps.toList = [13, 10] := by
  unfold endOf
  split
  · exact .inl (by decide +kernel)
  · split
    · exact .inr (.inl (by decide +kernel))
    · exact .inr (.inr (by decide +kernel))
theorem textUp_txt (ns : List Int) (rs : List Str) : ∀ (pre : List Str) (suf : List Str), rs = pre ++ suf → (textUp ns rs rs.length).cps.toList = (textUp ns rs pre.length).cps.toList ++ txt ns pre.length suf := by
  intro pre suf
  induction suf generalizing pre with
  | nil => intro h; rw [h]; simp [txt]
  | cons r suf ih =>
    intro h
    rw [ih (pre ++ [r]) (by rw [h]; simp)]
    rw [show (pre ++ [r]).length = pre.length + 1 by simp]
    have hg : rs.getD pre.length Str.empty = r := by rw [h]; simp
    show ((textUp ns rs pre.length) ++ (rs.getD pre.length Str.empty ++ endOf _)).cps.toList ++ _ = _
    rw [hg, Str.cps_append, Str.cps_append]
    simp [txt]
theorem nlF_clean : ∀ (r rest : List Nat), (∀ c ∈ r, c ≠ 10 ∧ c ≠ 13) → nlF (r ++ rest) = r ++ nlF rest
  | [], _, _ => rfl
  | c :: r, rest, h => by
    rw [List.cons_append, nlF_other (h c (by simp)).1 (h c (by simp)).2, nlF_clean r rest fun d hd => h d (by simp [hd])]; rfl
theorem dotF_clean : ∀ (r rest : List Nat), (∀ c ∈ r, c ≠ 10 ∧ c ≠ 13) → dotF false (r ++ [13, 10] ++ rest) = r ++ [13, 10] ++ dotF true rest
  | [], rest, _ => by simp [dotF]
  | c :: r, rest, h => by
    have h1 := (h c (by simp)).1
    have ih := dotF_clean r rest fun d hd => h d (by simp [hd])
    have hb : (c == 10) = false := beq_eq_false_iff_ne.mpr h1
    simp only [List.cons_append, dotF, Bool.false_eq_true, false_and, if_false, hb, List.append_assoc, List.nil_append] at ih ⊢
    rw [ih]
theorem quote_law (ns : List Int) : ∀ (rs : List Str) (k : Nat), (∀ r ∈ rs, (∃ t, r.cps.toList = 46 :: t) ∧ ∀ c ∈ r.cps.toList, c ≠ 10 ∧ c ≠ 13) → dotF true (nlF (txt ns k rs)) = lines (rs.map fun r => 46 :: r.cps.toList) ∧ ∀ d r', txt ns k rs = d :: r' → d ≠ 10 := by
  intro rs
  induction rs with
  | nil => intro k _; exact ⟨rfl, fun d r' h => by cases h⟩
  | cons r rs ih =>
    intro k hr
    obtain ⟨⟨t, ht⟩, hc⟩ := hr r (by simp)
    obtain ⟨i1, i2⟩ := ih (k + 1) fun q hq => hr q (by simp [hq])
    constructor
    · have hn : nlF (txt ns k (r :: rs)) = r.cps.toList ++ [13, 10] ++ nlF (txt ns (k + 1) rs) := by
        show nlF (r.cps.toList ++ ((endOf _).cps.toList ++ txt ns (k + 1) rs)) = _
        rw [nlF_clean _ _ hc, List.append_assoc]
        congr 1
        rcases endOf_list ((drawn ns (k : Int)).fmod 3) with e | e | e
        · rw [e]; exact nlF_10
        · rw [e]; exact nlF_13 i2
        · rw [e]; exact nlF_1310
      rw [hn, ht]
      have hb : (46 == 10) = false := rfl
      have hc' : ∀ c ∈ t, c ≠ 10 ∧ c ≠ 13 := fun c hm => hc c (by rw [ht]; simp [hm])
      have := dotF_clean t (nlF (txt ns (k + 1) rs)) hc'
      rw [i1] at this
      simp only [List.cons_append, dotF, true_and, if_true, lines, List.map_cons, List.flatten_cons, List.append_assoc, List.nil_append] at this ⊢
      rw [show ((46 : Nat) == 10) = false from rfl, this, ht]
      rfl
    · intro d r' h
      rw [txt, ht] at h
      have := (List.cons.inj h).1
      omega
end Mine
end
section
set_option Elab.async false
set_option maxRecDepth 100000
namespace Mine
open PySem
theorem tailOf_ok (d : Int) : ∀ c ∈ (tailOf d).cps.toList, c ≠ 10 ∧ c ≠ 13 ∧ c < 256 := by
  unfold tailOf
  repeat' split
  all_goals decide +kernel
theorem rowOf_list (ns : List Int) (k : Int) : (rowOf ns k).cps.toList = 46 :: (tailOf ((drawn ns k).fdiv 3)).cps.toList := by
  unfold rowOf
  rw [Str.cps_append, Array.toList_append, show (Str.ofString ".").cps.toList = [46] by decide +kernel]; rfl
theorem dots_list (n : Int) : (dots n).cps.toList = List.replicate n.toNat 46 := by simp [dots]
theorem row_ok (ns : List Int) (n k : Int) : (∃ t, (dots n ++ rowOf ns k).cps.toList = 46 :: t) ∧ (∀ c ∈ (dots n ++ rowOf ns k).cps.toList, c ≠ 10 ∧ c ≠ 13 ∧ c < 256) ∧ (dots n ++ rowOf ns k).length ≤ n.toNat + 4 := by
  have e : (dots n ++ rowOf ns k).cps.toList = List.replicate n.toNat 46 ++ 46 :: (tailOf ((drawn ns k).fdiv 3)).cps.toList := by
    rw [Str.cps_append, Array.toList_append, dots_list, rowOf_list]
  refine ⟨?_, ?_, ?_⟩
  · rw [e]
    cases n.toNat with
    | zero => exact ⟨_, rfl⟩
    | succ j => exact ⟨_, rfl⟩
  · rw [e]
    intro c hc
    rcases List.mem_append.mp hc with h | h
    · rw [(List.mem_replicate.mp h).2]; decide
    · rcases List.mem_cons.mp h with h | h
      · rw [h]; decide
      · exact tailOf_ok _ c h
  · have := congrArg List.length e
    have h3 := tailOf_len ((drawn ns k).fdiv 3)
    simp only [Array.length_toList, List.length_append, List.length_replicate, List.length_cons] at this
    simp only [Str.length] at h3 ⊢
    omega
theorem rowsAt_ok {ns : List Int} {step : Int} {i : Nat} (hn : ∀ name ∈ ordN step (i + 1), 0 ≤ name ∧ name ≤ (i : Int)) (hi : i < 8) (c : Nat) : ∀ r ∈ rot (rowsAt ns step i) c, ((∃ t, r.cps.toList = 46 :: t) ∧ ∀ c ∈ r.cps.toList, c ≠ 10 ∧ c ≠ 13 ∧ c < 256) ∧ r.length ≤ 16 := by
  intro r hr
  have hr' : r ∈ rowsAt ns step i := by
    unfold rot at hr
    rcases List.mem_append.mp hr with h | h
    · exact List.mem_of_mem_drop h
    · exact List.mem_of_mem_take h
  obtain ⟨name, hm, rfl⟩ := List.mem_map.mp hr'
  obtain ⟨a, b, c'⟩ := row_ok ns name ((i : Int) - name)
  have := hn name hm
  exact ⟨⟨a, b⟩, by omega⟩
theorem rot_map {α β : Type} (f : α → β) (l : List α) (c : Nat) : rot (l.map f) c = (rot l c).map f := by
  unfold rot; rw [List.map_append, List.map_drop, List.map_take]
theorem str_eq (a b : Str) (h : a.cps.toList = b.cps.toList) : a = b := by
  cases a; cases b
  congr 1
  exact Array.toList_inj.mp h
theorem dots_zero (x : Str) : dots 0 ++ x = x := str_eq _ _ (by rw [Str.cps_append, Array.toList_append, dots_list]; rfl)
theorem dots_succ {n : Int} (h : 0 ≤ n) (x : Str) : dots (n + 1) ++ x = ⟨(46 :: (dots n ++ x).cps.toList).toArray⟩ := by
  have e : ∀ (a b : Str), a.cps.toList = b.cps.toList → a = b := fun a b h => by
    cases a; cases b
    congr 1
    exact Array.toList_inj.mp h
  apply e
  rw [Str.cps_append, Array.toList_append, dots_list, Str.cps_append, Array.toList_append, dots_list, show (n + 1).toNat = n.toNat + 1 by omega]
  rfl
theorem rows_next {ns : List Int} {step : Int} {i c : Nat} (hn : ∀ name ∈ ordN step (i + 1), 0 ≤ name ∧ name ≤ (i : Int)) (ho : ordN step (i + 2) = 0 :: (rot (ordN step (i + 1)) c).map (· + 1)) :
    rowOf ns (1 + (i : Int)) :: (rot (rowsAt ns step i) c).map (fun r => ⟨(46 :: r.cps.toList).toArray⟩) = rowsAt ns step (i + 1) := by
  unfold rowsAt
  rw [ho, List.map_cons, rot_map, List.map_map, List.map_map]
  congr 1
  · rw [show ((i + 1 : Nat) : Int) - 0 = 1 + (i : Int) by omega]
    exact (dots_zero _).symm
  · apply List.map_congr_left
    intro name hm
    have hm' : name ∈ ordN step (i + 1) := by
      unfold rot at hm
      rcases List.mem_append.mp hm with h | h
      · exact List.mem_of_mem_drop h
      · exact List.mem_of_mem_take h
    show _ = dots (name + 1) ++ rowOf ns (((i + 1 : Nat) : Int) - (name + 1))
    rw [dots_succ (hn name hm').1, show ((i + 1 : Nat) : Int) - (name + 1) = (i : Int) - name by omega]
    rfl
end Mine
end
section
open PySem PySem.W PyProof.Rows PySem.Calls
set_option Elab.async false
set_option maxRecDepth 100000
set_option maxHeartbeats 8000000
namespace Mine
section
variable {prog : Program} {w : World} {A : Around} {E : Value → Shared → Prop} {s : Shared} {h₀ : Heap} {L : Addr} {m : Str → Option Value} {news : List (Addr × Obj)} {x : Str} {t u : Tok} {Q : Value → Shared → Prop}
theorem crlf_eq : Str.ofString "\u000d\n" = crlf := by decide +kernel
def plus (r : Str) : Str := ⟨(46 :: r.cps.toList).toArray⟩
theorem split_K {rs : List Str} (F : Fr h₀ L s.heap m) (N : News h₀ L s.heap news) (hx : x.cps.toList = lines (rs.map fun r => 46 :: r.cps.toList)) (hr : ∀ r ∈ rs, ∀ c ∈ r.cps.toList, c ≠ 10 ∧ c ≠ 13 ∧ c < 256) (hne : rs ≠ []) (hsz : x.length ≤ 10000)
    (h : ∀ D ws h' k, Fr h₀ L h' m → News h₀ L h' ((D, lst (List.toArray ws) 0) :: news) → (∀ p ∈ news, p.1 < D) → StrsAre ws (rs.map plus ++ [⟨#[]⟩]) → Q (.ref D) { s with heap := h', toks := k }) :
    wpAny (model prog w) A (call (.builtin "str.split") [.str x t, .str (Str.ofString "\u000d\n") u]) Q E s := by
  refine KSpl.split1 F N (by decide +kernel) (fun D l h' k e hs F' N' l1 => h D (strValues l) h' k F' N' l1 ?_) (Nat.le_trans (Nat.add_le_add_right hsz 2) (by decide))
  rw [e, crlf_eq, split_crlf hx (by
    intro q hq
    obtain ⟨r, hm, rfl⟩ := List.mem_map.mp hq
    intro h13
    rcases List.mem_cons.mp h13 with h | h
    · omega
    · exact (hr r hm 13 h).2.1 rfl) (by
    intro h
    exact hne (List.map_eq_nil_iff.mp h)) (by
    intro q hq c hc
    obtain ⟨r, hm, rfl⟩ := List.mem_map.mp hq
    rcases List.mem_cons.mp hc with h | h
    · omega
    · exact (hr r hm c h).2.2)] at hs
  rw [List.map_map] at hs
  exact hs
theorem sent_lines {ns : List Int} {rs : List Str} (hr : ∀ r ∈ rs, (∃ t, r.cps.toList = 46 :: t) ∧ ∀ c ∈ r.cps.toList, c ≠ 10 ∧ c ≠ 13 ∧ c < 256) :
    (⟨(dotF true (nlF (textUp ns rs rs.length).cps.toList)).toArray⟩ : Str).cps.toList = lines (rs.map fun r => 46 :: r.cps.toList) := by
  have e := textUp_txt ns rs [] rs rfl
  have e2 : (textUp ns rs rs.length).cps.toList = txt ns 0 rs := by
    rw [e]
    show (Str.ofString "").cps.toList ++ txt ns 0 rs = _
    rw [show (Str.ofString "").cps.toList = [] by decide +kernel]; rfl
  rw [e2]
  exact (quote_law ns rs 0 fun r hm => ⟨(hr r hm).1, fun c hc => ⟨((hr r hm).2 c hc).1, ((hr r hm).2 c hc).2.1⟩⟩).1
theorem sent_len {rs : List Str} (h : ∀ r ∈ rs, r.length ≤ 16) (hl : rs.length ≤ 20) (hx : x.cps.toList = lines (rs.map fun r => 46 :: r.cps.toList)) : x.length ≤ 10000 := by
  have : ∀ rs : List Str, (∀ r ∈ rs, r.length ≤ 16) → (lines (rs.map fun r => 46 :: r.cps.toList)).length ≤ 19 * rs.length := by
    intro rs
    induction rs with
    | nil => intro _; simp [lines]
    | cons r rs ih =>
      intro h
      have h1 := h r (by simp)
      have h2 := ih fun q hq => h q (by simp [hq])
      have h3 : r.cps.size = r.length := rfl
      simp only [lines, List.map_cons, List.flatten_cons, List.length_append, List.length_cons, List.length_nil, Array.length_toList] at h2 ⊢
      omega
  have h1 := this rs h
  have h2 := congrArg List.length hx
  have h3 : x.cps.size = x.length := rfl
  rw [Array.length_toList] at h2
  omega
end
end Mine
end
section
open PySem PySem.W PyProof.Rows PySem.Calls PyProof.V PySem.Spec
set_option Elab.async false
set_option maxRecDepth 100000
set_option maxHeartbeats 8000000
namespace Mine
theorem canLayStrs : ∀ rs : List Str, (∀ r ∈ rs, ∀ c ∈ r.cps.toList, c < 256) → PyData.canLayAll0 (rs.map PyData.str) = true
  | [], _ => rfl
  | r :: rs, h => by
    have h1 : PyData.strOk r = true := by
      unfold PyData.strOk
      rw [Array.all_eq_true']
      intro c hc
      have := h r (by simp) c (by simpa using hc)
      exact decide_eq_true (by omega)
    have h2 := canLayStrs rs fun q hq => h q (by simp [hq])
    simp [PyData.canLayAll0, PyData.canLay0, h1, h2]
theorem depthStrs : ∀ rs : List Str, PyData.depthAll (rs.map PyData.str) = 0
  | [] => rfl
  | _ :: r => by simp [PyData.depthAll, PyData.depth, depthStrs r]
theorem shapedStrs (rs : List Str) (h : ∀ r ∈ rs, ∀ c ∈ r.cps.toList, c < 256) : SeqAt.shaped (.list (rs.map PyData.str)) = true := by
  simp [SeqAt.shaped, PyData.canLay0, PyData.depth, canLayStrs rs h, depthStrs]
theorem sameStrs : ∀ rs : List Str, PySem.Spec.sameAll (rs.map PyData.str) (rs.map PyData.str) = true
  | [] => by simp [PySem.Spec.sameAll]
  | a :: r => by simp [PySem.Spec.sameAll, PySem.Spec.same, sameStrs r]
section
variable {prog : Program} {w : World} {A : Around} {E : Value → Shared → Prop} {s : Shared} {a b : Addr} {xs ys : List Value} {rs ms : List Str} {ns ks : List Int} {Q : Value → Shared → Prop}
theorem ne_strs (ha : s.heap.IsList a xs.toArray) (hb : s.heap.IsList b ys.toArray) (hi : StrsAre xs rs) (hj : CarriedAll ys (ms.map PyData.str)) (hu : A.units + 64 < cLine) (e : rs = ms) (ho : ∀ r ∈ rs, ∀ c ∈ r.cps.toList, c < 256) (h : Q (.bool false) s) :
    wpAny (model prog w) A (compareOp .NotEq (.ref a) (.ref b)) Q E s := by
  subst e
  refine ne_dataH_same (reads_newData ha hi.carried) (reads_newData hb hj) (shapedStrs _ ho) (shapedStrs _ ho) hu (SeqAt.noMix_of_shape (.list .str) rfl _ _ (list_map_has fun _ => rfl) (list_map_has fun _ => rfl)) ?_
  simp only [PySem.Spec.same, sameStrs]
  exact h
theorem ne_ints (ha : s.heap.IsList a xs.toArray) (hb : s.heap.IsList b ys.toArray) (hi : IntsAre xs ns) (hj : IntsAre ys ks) (hu : A.units + 64 < cLine) (e : ns = ks) (h : Q (.bool false) s) :
    wpAny (model prog w) A (compareOp .NotEq (.ref a) (.ref b)) Q E s :=
  ke_ne_ints ha hb hi hj hu (by rw [decide_eq_true e]; exact h)
end
theorem mul_dots (k : Int) : Txt.mul (Str.ofString ".") k = dots k := by
  apply str_eq
  rw [dots_list, show Str.ofString "." = ⟨#[46]⟩ by decide +kernel, mul_one_list]
theorem rowsAt_low {ns : List Int} {step : Int} {i : Nat} : ∀ r ∈ rowsAt ns step i, ∀ c ∈ r.cps.toList, c < 256 := by
  intro r hr c hc
  obtain ⟨name, _, rfl⟩ := List.mem_map.mp hr
  exact ((row_ok ns name ((i : Int) - name)).2.1 c hc).2.2
theorem rows_eq {ns : List Int} {step : Int} {i c : Nat} (hn : ∀ name ∈ ordN step (i + 1), 0 ≤ name ∧ name ≤ (i : Int)) (ho : ordN step (i + 2) = 0 :: (rot (ordN step (i + 1)) c).map (· + 1)) :
    [rowOf ns (1 + (i : Int))] ++ (rot (rowsAt ns step i) c).map plus = rowsAt ns step (i + 1) := rows_next hn ho
theorem rows_form (ns : List Int) (step : Int) (i : Nat) : rowsAt ns step (i + 1) = (ordN step (i + 2)).map fun name => dots name ++ rowOf ns (1 + (i : Int) - name) := by
  unfold rowsAt
  apply List.map_congr_left
  intro name _
  rw [show ((i + 1 : Nat) : Int) - name = 1 + (i : Int) - name by omega]
theorem freeTo_succ {step : Int} {i : Nat} (h : freeTo step i = true) (hz : ((1 + (i : Int)) * step).fmod 256 ≠ 0) : freeTo step (i + 1) = true := by
  unfold freeTo at h ⊢
  rw [List.range_succ, List.all_append, h]
  simpa using hz
end Mine
end
section
open PySem PySem.W PyProof.Rows PySem.Calls
set_option Elab.async false
set_option maxRecDepth 100000
set_option maxHeartbeats 8000000
namespace Mine
theorem tot_lo (x : Int) : 7 ≤ 7 + (x.fmod 768).fdiv 256 ∧ 7 + (x.fmod 768).fdiv 256 ≤ 9 := by
  rw [Int.fmod_eq_emod_of_nonneg _ (by decide), Int.fdiv_eq_ediv_of_nonneg _ (by decide)]; omega
theorem stp_lo (x : Int) : 0 ≤ (99 + x.fmod 768).fmod 256 ∧ (99 + x.fmod 768).fmod 256 < 256 := by
  rw [Int.fmod_eq_emod_of_nonneg (99 + x.fmod 768) (by decide)]; omega
local macro_rules | `(tactic| walk_at "my_split") => `(tactic| (
  k_here
  (with_reducible show wpAny _ _ (call (Value.builtin "str.split") _) _ _ _)
  k_dflt (
  refine' split_K ?k1 ?k2 ?k3 ?k4 ?k5 ?k6 ?kR
  (case k1 => k_asm)
  (case k2 => k_asm)
  (case k3 => assumption)
  (case k4 => assumption)
  (case k5 => assumption)
  (case k6 => assumption))
  intro D9 ws9 h9 k9 F9 N9 l9 hs9
  (try k_lt l9)))
theorem strs_butlast {vs : List Value} {rs : List Str} {y : Str} (h : StrsAre vs (rs ++ [y])) : StrsAre (slicePick vs.toArray none (some (-1)) none).toList rs := by
  have e := strs_upto_neg h (y := -1) (by decide)
  rwa [List.length_append, List.length_singleton, show (-(-1 : Int)).toNat = 1 from rfl, Nat.add_sub_cancel, List.take_left] at e
local macro_rules | `(tactic| walk_at "subscriptTail Call") => `(tactic| ((with_reducible show wpAny _ _ (subscriptTail _ (PySem.Expr.Slice _ _ none _) (Value.ref _) (Value.ref _)) _ _ _); refine Stop.out ?_))
local macro_rules | `(tactic| walk_at "my_butlast") => `(tactic| (
  k_here
  (with_reducible show wpAny _ _ (subscriptTail _ (PySem.Expr.Slice _ _ none _) (Value.ref _) (Value.ref _)) _ _ _)
  k_dflt (
  refine kba_turn (value' := PySem.Expr.Name (PySem.Str.ofString "x") ⟨0, 0, 0, 0⟩) (fun _ => rfl) ?_
  refine' slice_strs ?F ?N ?l ?p ?q ?i ?hm ?hz ?_ ?s ?t
  (case F => k_asm)
  (case N => k_asm)
  (case l => kmk_list)
  (case p => kmk_part)
  (case q => kmk_part)
  (case i => assumption)
  (case hm => exact strs_butlast (by assumption))
  (case hz => (simp only [List.length_append, List.length_cons, List.length_nil, List.length_map]; omega))
  (case s => with_unfolding_all rfl)
  (case t => kmk_pure))
  intro D' ws' h' F' N' l1 hI'
  (try k_lt l1)
  (try k_sweep)))
theorem order_k {w : World} {loose : List Str} {mean : ExcName → Option Value} {mg mb : Str → Option Value}
    {dp un : Nat} {gd : Option (List Code)} {cn : Str} {cs : Scope} {a : Addr} {ccd : Value} {cl : List (Str × Addr)} {outer : List Env} {A₀ : Around} {base h₀ : Heap} {L : Addr} {m : Str → Option Value} {news : List (Addr × Obj)} {s : Shared} {Q E : Value → Shared → Prop}
    (B : Below A₀ base outer h₀) (F : Fr h₀ L s.heap m) (X : (hd.heap_39 w.params).In h₀) (N : News h₀ L s.heap news) (T : Top hd.view_39 loose mean mg mb h₀) (hk : cs.kind = .function)
    {step : Int} {i : Nat} {t u : Tok} (h0 : 0 ≤ step) (h1 : step < 256) (hz : i < 8)
    (hdp : dp + 3 < recursionLimit) (hu : un + 24 < cLine)
    (hret : ∀ (lo : Addr) (items : List Value) (nv : Nat) (h' : Heap) (tk' : Nat), IntsAre items (ordN step (i + 2)) → items.length = i + 2 → Fr h₀ L h' m → News h₀ L h' ((lo, lst items.toArray nv) :: news) → (∀ p ∈ news, p.1 < lo) → Q (.ref lo) { s with heap := h', toks := tk' }) :
    wpAny (model PySem.Challenge.rw_rl0009_01.row.prog w) (ktrTop dp un gd cn cs L a ccd cl outer) (call (.ref 99) [.int step t, .int (1 + (i : Int) + 1) u]) Q E s := by
  rw [show (1 + (i : Int) + 1) = ((i + 2 : Nat) : Int) by omega]
  exact order_c B F X N T hk h0 h1 (by omega) (by omega) hdp hu fun lo items nv h' tk' hi => hret lo items nv h' tk' hi (by rw [hi.length]; exact ordL_len _ _ _ _)
theorem dots_len {k : Int} (h : k ≤ 9) : (Txt.mul (Str.ofString ".") k).length ≤ 9 := by
  rw [mul_dots]
  show (Array.replicate k.toNat 46).size ≤ 9
  rw [Array.size_replicate]; omega
theorem rowOf_len (ns : List Int) (k : Int) : (rowOf ns k).length ≤ 4 := by
  unfold rowOf
  rw [Str.length_append]
  have := tailOf_len ((drawn ns k).fdiv 3)
  have h1 : (Str.ofString ".").length = 1 := by decide +kernel
  omega
local macro_rules | `(tactic| walk_at "my85") => `(tactic| (
  k_here
  (with_reducible show wpAny _ _ (call (Value.ref 85) _) _ _ _)
  k_dflt (
  refine' row_c ?k1 ?k2 ?k3 ?k4 ?k5 ?kK ?kl ?ki ?kt ?k0 ?kh ?kd ?ku ?kR
  (case k1 => k_asm)
  (case k2 => k_asm)
  (case k3 => k_asm)
  (case k4 => k_asm)
  (case k5 => k_asm)
  (case kK => first | exact rfl | assumption)
  (case kl => k_asm)
  (case ki => l_ints)
  (case kt => l_fit)
  (case k0 => (first | assumption | omega))
  (case kh => (first | assumption | omega))
  (case kd => ktr_room)
  (case ku => ktr_units))
  intro t9 h9 tk9 F9 N9
  (try dsimp only)
  (try k_fold)))
local macro_rules | `(tactic| walk_at "call ref") => `(tactic| ((with_reducible show wpAny _ _ (call (Value.ref 85) _) _ _ _); refine Stop.out ?_))

local macro_rules | `(tactic| walk_at "my92") => `(tactic| (
  k_here
  (with_reducible show wpAny _ _ (call (Value.ref 92) _) _ _ _)
  k_dflt (
  refine' text_c ?k1 ?k2 ?k3 ?k4 ?k5 ?kK ?kl ?ki ?kt ?kM ?kS ?kz1 ?kz2 ?kd ?ku ?kR
  (case k1 => k_asm)
  (case k2 => k_asm)
  (case k3 => k_asm)
  (case k4 => k_asm)
  (case k5 => k_asm)
  (case kK => first | exact rfl | assumption)
  (case kl => k_asm)
  (case ki => l_ints)
  (case kt => l_fit)
  (case kM => k_mem)
  (case kS => assumption)
  (case kz1 => assumption)
  (case kz2 => assumption)
  (case kd => ktr_room)
  (case ku => ktr_units))
  intro t9 h9 tk9 F9 N9
  (try dsimp only)
  (try k_fold)))
local macro_rules | `(tactic| walk_at "call ref") => `(tactic| ((with_reducible show wpAny _ _ (call (Value.ref 92) _) _ _ _); refine Stop.out ?_))

local macro_rules | `(tactic| walk_at "my40") => `(tactic| (
  k_here
  (with_reducible show wpAny _ _ (call (Value.ref 40) _) _ _ _)
  k_dflt (
  refine' bisect_c ?k1 ?k2 ?k3 ?k4 ?k5 ?kK ?kM ?kS ?kz1 ?kd ?ku ?kR
  (case k1 => k_asm)
  (case k2 => k_asm)
  (case k3 => k_asm)
  (case k4 => k_asm)
  (case k5 => k_asm)
  (case kK => first | exact rfl | assumption)
  (case kM => k_mem)
  (case kS => assumption)
  (case kz1 => (first | assumption | omega))
  (case kd => ktr_room)
  (case ku => ktr_units))
  intro t9 h9 tk9 F9 N9
  (try dsimp only)
  (try k_fold)))
local macro_rules | `(tactic| walk_at "call ref") => `(tactic| ((with_reducible show wpAny _ _ (call (Value.ref 40) _) _ _ _); refine Stop.out ?_))

local macro_rules | `(tactic| walk_at "my57") => `(tactic| (
  k_here
  (with_reducible show wpAny _ _ (call (Value.ref 57) _) _ _ _)
  k_dflt (
  refine' quote_c ?k1 ?k2 ?k3 ?k4 ?k5 ?kK ?kz ?kd ?ku ?kR
  (case k1 => k_asm)
  (case k2 => k_asm)
  (case k3 => k_asm)
  (case k4 => k_asm)
  (case k5 => k_asm)
  (case kK => first | exact rfl | assumption)
  (case kz => assumption)
  (case kd => ktr_room)
  (case ku => ktr_units))
  intro t9 h9 tk9 F9 N9
  (try dsimp only)
  (try k_fold)))
local macro_rules | `(tactic| walk_at "call ref") => `(tactic| ((with_reducible show wpAny _ _ (call (Value.ref 57) _) _ _ _); refine Stop.out ?_))

local macro_rules | `(tactic| walk_at "my99") => `(tactic| (
  k_here
  (with_reducible show wpAny _ _ (call (Value.ref 99) _) _ _ _)
  k_dflt (
  refine' order_k ?k1 ?k2 ?k3 ?k4 ?k5 ?kK ?k0 ?kh ?kz0 ?kd ?ku ?kR
  (case k1 => k_asm)
  (case k2 => k_asm)
  (case k3 => k_asm)
  (case k4 => k_asm)
  (case k5 => k_asm)
  (case kK => first | exact rfl | assumption)
  (case k0 => (first | assumption | omega))
  (case kh => (first | assumption | omega))
  (case kz0 => assumption)
  (case kd => ktr_room)
  (case ku => ktr_units))
  intro lo9 it9 nv9 h9 tk9 hi9 hn9 F9 N9 l9
  (try dsimp only)
  (try k_fold)))
local macro_rules | `(tactic| walk_at "call ref") => `(tactic| ((with_reducible show wpAny _ _ (call (Value.ref 99) _) _ _ _); refine Stop.out ?_))

local macro_rules | `(tactic| walk_at "exec For Name Call cons nil") => `(tactic| (k_here; (rename Fr _ _ _ _ => lF'); (with_unfolding_all refine' For_turns lF' ?_; k_whole)))
local macro_rules | `(tactic| walk_at "exec For Name BinOp cons nil") => `(tactic| (k_here; (rename Fr _ _ _ _ => lF'); (with_unfolding_all refine' For_turns lF' ?_; k_whole)))
local macro_rules | `(tactic| walk_at "pyIter ref") => `(tactic| refine Stop.out ?_)
local macro_rules | `(tactic| walk_at "subscriptTail Name Slice ref ref") => `(tactic| (
  k_here
  (with_reducible show wpAny _ _ (subscriptTail _ (PySem.Expr.Slice _ _ none _) (Value.ref _) (Value.ref _)) _ _ _)
  k_dflt (
  refine' slice_strs ?F ?N ?l ?p ?q ?i ?hm ?hz ?_ ?s ?t
  (case F => k_asm)
  (case N => k_asm)
  (case l => kmk_list)
  (case p => kmk_part)
  (case q => kmk_part)
  (case i => assumption)
  (case hm => first | exact strs_from (by assumption) (by omega) | exact strs_upto (by assumption) (by omega))
  (case hz => omega)
  (case s => with_unfolding_all rfl)
  (case t => kmk_pure))
  intro D' ws' h' F' N' l1 hI'
  (try k_lt l1)
  (try k_sweep)))
local macro_rules | `(tactic| walk_at "binaryOp Add ref ref") => `(tactic| (
  k_here
  (with_reducible show wpAny _ _ (binaryOp _ (Value.ref _) (Value.ref _)) _ _ _)
  k_dflt (
  refine' add_strs ?F ?N ?l1 ?l2 ?i ?j ?hz ?_
  (case F => k_asm)
  (case N => k_asm)
  (case l1 => kmk_list)
  (case l2 => kmk_list)
  (case i => first | assumption | exact .cons _ _ .nil)
  (case j => assumption)
  (case hz => (simp only [List.length_drop, List.length_take, List.length_cons, List.length_nil, List.length_map]; omega)))
  intro D' ws' h' F' N' l1 hI'
  (try k_lt l1)
  (try k_sweep)))
theorem pick4 {h₀ h : Heap} {L : Addr} {a b c e : Addr × Obj} {r : List (Addr × Obj)} (N : News h₀ L h (a :: b :: c :: e :: r)) : News h₀ L h (e :: a :: r) := fun p hp => N p (by
  simp only [List.mem_cons] at hp ⊢
  rcases hp with h | h | h
  · exact .inr (.inr (.inr (.inl h)))
  · exact .inl h
  · exact .inr (.inr (.inr (.inr h))))
theorem take_map_succ {α β : Type} (f : α → β) {l : List α} {i : Nat} {k : α} {X : β} (h : l[i]? = some k) (e : f k = X) : (l.take (i + 1)).map f = (l.take i).map f ++ [X] := by
  rw [List.take_add_one, h, ← e]; simp
section
variable {prog : Program} {w : World} {A : Around} {E : Value → Shared → Prop} {s : Shared} {env : Env} {h₀ : Heap} {target : PySem.Expr} {body : List Stmt} {Q : Flow → Shared → Prop}
def stored : List Str := [Str.ofString "cut", Str.ofString "moved", Str.ofString "place", Str.ofString "spot", Str.ofString "closed", Str.ofString "sent", Str.ofString "order"]
def LawJ (ns : List Int) (step : Int) (m₀ : Str → Option Value) (c3 : Addr) (cells : List (Addr × Obj)) (i : Nat) (m' : Str → Option Value) (nw : List (Addr × Obj)) : Prop :=
  ∃ lp lr ip nvp ir nvr oT, nw = (lr, lst (List.toArray ir) nvr) :: (lp, lst (List.toArray ip) nvp) :: (c3, oT) :: cells ∧ IntsAre ip (placesAt step i) ∧ StrsAre ir (rowsAt ns step i) ∧ (∃ x, oT.data = .cell x) ∧ freeTo step i = true ∧
    m' (Str.ofString "rows") = some (.ref lr) ∧ m' (Str.ofString "places") = some (.ref lp) ∧ ∀ z, z ≠ Str.ofString "rows" → z ≠ Str.ofString "places" → stored.contains z = false → m' z = m₀ z
theorem formJ {m' m₀ : Str → Option Value} {lp lr : Addr} (h1 : m' (Str.ofString "rows") = some (.ref lr)) (h2 : m' (Str.ofString "places") = some (.ref lp)) (h : ∀ z, z ≠ Str.ofString "rows" → z ≠ Str.ofString "places" → stored.contains z = false → m' z = m₀ z) :
    m' = fun z => if z = Str.ofString "rows" then some (.ref lr) else if z = Str.ofString "places" then some (.ref lp) else if stored.contains z = true then m' z else m₀ z := by
  funext z
  by_cases ha : z = Str.ofString "rows"
  · rw [if_pos ha, ha, h1]
  · rw [if_neg ha]
    by_cases hb : z = Str.ofString "places"
    · rw [if_pos hb, hb, h2]
    · rw [if_neg hb]
      by_cases hc : stored.contains z = true
      · rw [if_pos hc]
      · rw [if_neg hc, h z ha hb (by simpa using hc)]
theorem ne_data {h : Heap} {L a c : Addr} {all : List (Addr × Obj)} {items : Array Value} {n : Nat} {oT : Obj} {x : Option Value} (N : News h₀ L h all) (h1 : (a, lst items n) ∈ all) (h2 : (c, oT) ∈ all) (hx : oT.data = .cell x) : a ≠ c := fun e => by
  have g1 := (N _ h1).1
  have g2 := (N _ h2).1
  dsimp only at g1 g2
  rw [e, g2] at g1
  rw [Option.some.inj g1] at hx
  cases hx
theorem law_range (ht : ∀ it v, letOwnedTupleGo target it v = pure ()) {r : Addr} {b₀ : Int} {t₀ u₀ v₀ : Tok} {m₀ : Str → Option Value} {l lp lr D c1 c2 c3 : Addr} {vs : List Value} {ns : List Int} {step : Int} {oD oT oS oC : Obj} {t9 tq ts : Tok}
    (hh : A.handled = none) (hr : IsRange s.heap r 1 b₀ 1 t₀ u₀ v₀) (hlo : 7 ≤ b₀) (hhi : b₀ ≤ 9) (hs0 : 0 ≤ step) (hs1 : step < 256) (F : Fr h₀ env.locals s.heap m₀)
    (N : News h₀ env.locals s.heap [(lr, lst #[.str (rowOf ns 0) t9] 0), (lp, lst #[.int 0 tq] 0), (D, oD), (c3, oT), (c2, oS), (c1, oC)])
    (hl : h₀.IsList l vs.toArray) (hi : IntsAre vs ns) (hlen : ns.length ≤ 63) (dT : ∃ x, oT.data = .cell x) (dS : oS.data = .cell (some (.int step ts))) (dC : oC.data = .cell (some (.ref l)))
    (e1 : m₀ (Str.ofString "rows") = some (.ref lr)) (e2 : m₀ (Str.ofString "places") = some (.ref lp))
    (turn : ∀ (l : Addr) (vs : List Value) (ns : List Int) (step : Int) (oS oC : Obj) (ts : Tok), h₀.IsList l vs.toArray → IntsAre vs ns → ns.length ≤ 63 → 0 ≤ step → step < 256 → oS.data = .cell (some (.int step ts)) → oC.data = .cell (some (.ref l)) →
      ∀ (i : Nat) (t : Tok) (lp lr : Addr) (ip ir : List Value) (nvp nvr : Nat) (oT : Obj) (x : Option Value) (u : Str → Option Value) (h : Heap) (tk : Nat) (I : Addr) (oI : Obj), i < 8 → oI.cls = .type "range_iterator" → @Ne Nat c1 I → @Ne Nat c2 I → @Ne Nat c3 I → @Ne Nat lr c3 → @Ne Nat lp c3 → IntsAre ip (placesAt step i) → StrsAre ir (rowsAt ns step i) → oT.data = .cell x → freeTo step i = true →
      Fr h₀ env.locals h (fun z => if z = Str.ofString "rows" then some (.ref lr) else if z = Str.ofString "places" then some (.ref lp) else if stored.contains z = true then u z else m₀ z) →
      News h₀ env.locals h [(I, oI), (lr, lst ir.toArray nvr), (lp, lst ip.toArray nvp), (c3, oT), (c2, oS), (c1, oC)] →
      wpAny (model prog w) A (assign target env (.int (1 + i) t)) (fun _ s₂ => wpAny (model prog w) A (execs body env) (RgEnd h₀ env.locals { s with heap := h, toks := tk } (LawJ ns step m₀ c3 [(c2, oS), (c1, oC)] (i + 1)) (I, oI) Q) E s₂) E { s with heap := h, toks := tk })
    (done : ∀ m₁ h tk, Fr h₀ env.locals h m₁ → News h₀ env.locals h [] → Q .next { s with heap := h, toks := tk }) :
    wpAny (model prog w) A (pyIter (.ref r)) (fun it s₂ => TurnsAt prog w A h₀ env target body Q E it s₂) E s := by
  have hn : Builtin.Range.rangeSize 1 b₀ 1 = (((b₀ - 1).toNat : Nat) : Int) := by
    unfold Builtin.Range.rangeSize
    rw [if_pos (by decide)]
    split <;> omega
  have N' : News h₀ env.locals s.heap [(lr, lst #[.str (rowOf ns 0) t9] 0), (lp, lst #[.int 0 tq] 0), (c3, oT), (c2, oS), (c1, oC)] := fun p hp => N p (by
    simp only [List.mem_cons] at hp ⊢
    rcases hp with h | h | h | h | h | h
    · exact .inl h
    · exact .inr (.inl h)
    · exact .inr (.inr (.inr (.inl h)))
    · exact .inr (.inr (.inr (.inr (.inl h))))
    · exact .inr (.inr (.inr (.inr (.inr (.inl h)))))
    · exact .inr (.inr (.inr (.inr (.inr (.inr h))))))
  refine range_inv ht hh hr (small_one (by omega) (by omega) (by omega) (by omega)) hn F N' (LawJ ns step m₀ c3 [(c2, oS), (c1, oC)]) ?_ ?_ ?_
  · refine ⟨lp, lr, [.int 0 tq], 0, [.str (rowOf ns 0) t9], 0, oT, rfl, ?_, ?_, dT, rfl, e1, e2, fun _ _ _ _ => rfl⟩
    · have : placesAt step 0 = [0] := by simp [placesAt, ordN, ordL]
      rw [this]; exact .cons _ _ .nil
    · have : rowsAt ns step 0 = [rowOf ns 0] := by
        show [dots 0 ++ rowOf ns (((0 : Nat) : Int) - 0)] = _
        rw [dots_zero]; rfl
      rw [this]; exact .cons _ _ .nil
  · rintro i t m₁ news₁ h tk I oI hin hcI hoff ⟨lp, lr, ip, nvp, ir, nvr, oT, rfl, hp, hr', ⟨x, hx⟩, hf, e1', e2', hz⟩ F₁ N₁
    rw [formJ e1' e2' hz] at F₁
    exact turn l vs ns step oS oC ts hl hi hlen hs0 hs1 dS dC i t lp lr ip ir nvp nvr oT x m₁ h tk I oI (by omega) hcI (hoff (c1, oC) (by simp)) (hoff (c2, oS) (by simp)) (hoff (c3, oT) (by simp)) (ne_data N₁ (.tail _ (.head _)) (.tail _ (.tail _ (.tail _ (.head _)))) hx) (ne_data N₁ (.tail _ (.tail _ (.head _))) (.tail _ (.tail _ (.tail _ (.head _)))) hx) hp hr' hx hf F₁ N₁
  · rintro m₁ news₁ h tk _ F₁ _
    exact done m₁ h tk F₁ (fun _ hp => nomatch hp)
end
local macro_rules | `(tactic| walk_at "exec If") => `(tactic| ((with_reducible show wpAny _ _ (exec (Stmt.If (PySem.Expr.Compare (PySem.Expr.Call (PySem.Expr.Name (PySem.Str.ofString "ISEOF") _) _ _ _) _ _ _) _ _ _) _) _ _ _); refine Stop.out ?_))
local macro_rules | `(tactic| walk_at "call builtin:str.split") => `(tactic| refine Stop.out ?_)
local macro_rules | `(tactic| walk_at "eval ListComp") => `(tactic| refine Stop.out ?_)
local macro_rules | `(tactic| walk_at "compareOp NotEq ref ref") => `(tactic| refine Stop.out ?_)
local macro_rules | `(tactic| walk_at "CompEnd") => `(tactic| refine Stop.out ?_)
local macro_rules | `(tactic| walk_at "CompSrc") => `(tactic| refine Stop.out ?_)
theorem prune18 {h₀ h : Heap} {L : Addr} {x1 x2 x3 x4 x5 x6 x7 x8 x9 x10 x11 x12 x13 x14 x15 x16 x17 x18 : Addr × Obj} (N : News h₀ L h [x1, x2, x3, x4, x5, x6, x7, x8, x9, x10, x11, x12, x13, x14, x15, x16, x17, x18]) :
    News h₀ L h [x1, x2, x4, x13, x16, x17, x18] := fun p hp => N p (by
  simp only [List.mem_cons, List.not_mem_nil, or_false] at hp ⊢
  rcases hp with h | h | h | h | h | h | h <;> simp [h])
theorem stored_off {z : Str} (h : stored.contains z = false) : z ≠ Str.ofString "cut" ∧ z ≠ Str.ofString "moved" ∧ z ≠ Str.ofString "place" ∧ z ≠ Str.ofString "spot" ∧ z ≠ Str.ofString "closed" ∧ z ≠ Str.ofString "sent" ∧ z ≠ Str.ofString "order" := by
  have h' : z ∉ stored := fun hm => by
    rw [List.contains_iff_mem.mpr hm] at h
    cases h
  refine ⟨?_, ?_, ?_, ?_, ?_, ?_, ?_⟩ <;> (intro e; exact h' (by rw [e]; simp [stored]))
theorem turn_end {Q : Flow → Shared → Prop} {s : Shared} {h₀ h' : Heap} {L D4 D3 lo lp lr I c3 c2 c1 : Addr} {m₀ m' : Str → Option Value} {x1 x2 x3 oI oT oS oC : Obj} {ip ir : List Value} {nvp nvr tk' : Nat} {ns : List Int} {step : Int} {i : Nat}
    (F : Fr h₀ L h' m') (N : News h₀ L h' [(D4, x1), (D3, x2), (lo, x3), (lp, lst ip.toArray nvp), (lr, lst ir.toArray nvr), (I, oI), (c3, oT), (c2, oS), (c1, oC)]) (hcI : oI.cls = .type "range_iterator") (n3 : @Ne Nat c3 I) (n2 : @Ne Nat c2 I) (n1 : @Ne Nat c1 I)
    (hp : IntsAre ip (placesAt step (i + 1))) (hr : StrsAre ir (rowsAt ns step (i + 1))) (hT : ∃ x, oT.data = .cell x) (hf : freeTo step (i + 1) = true) (e1 : m' (Str.ofString "rows") = some (.ref lr)) (e2 : m' (Str.ofString "places") = some (.ref lp))
    (hz : ∀ z, z ≠ Str.ofString "rows" → z ≠ Str.ofString "places" → stored.contains z = false → m' z = m₀ z) :
    RgEnd h₀ L s (LawJ ns step m₀ c3 [(c2, oS), (c1, oC)] (i + 1)) (I, oI) Q .next { s with heap := h', toks := tk' } := by
  have hl : ∀ (a : Array Value) (n : Nat), (lst a n).cls ≠ oI.cls := fun a n => by
    rw [hcI]
    intro e
    have e' := congrArg (fun v => match v with | Value.type s => s | _ => "") e
    exact absurd (show ("list" : String) = "range_iterator" from e') (by decide)
  refine RgStep.intro (p := (I, oI)) (nw := [(lr, lst ir.toArray nvr), (lp, lst ip.toArray nvp), (c3, oT), (c2, oS), (c1, oC)]) F N ?_ ?_ ⟨lp, lr, ip, nvp, ir, nvr, oT, rfl, hp, hr, hT, hf, e1, e2, hz⟩
  · intro q hq
    simp only [List.mem_cons, List.not_mem_nil, or_false] at hq ⊢
    rcases hq with h | h | h | h | h | h <;> simp [h]
  · intro q hq
    simp only [List.mem_cons, List.not_mem_nil, or_false] at hq
    rcases hq with h | h | h | h | h
    · rw [h]; exact ne_of_cls N (p := (I, oI)) (q := (lr, lst ir.toArray nvr)) (by simp) (by simp) (hl _ _)
    · rw [h]; exact ne_of_cls N (p := (I, oI)) (q := (lp, lst ip.toArray nvp)) (by simp) (by simp) (hl _ _)
    · rw [h]; exact n3
    · rw [h]; exact n2
    · rw [h]; exact n1
theorem law : PySem.Challenge.rw_rl0009_01.Holds := hd (by
  k_go0
  all_goals try k_fold
  k_steps
  refine Stop.intro ?_
  walk_at "my85"
  k_steps
  refine Stop.intro ?_
  rename Fr _ _ _ _ => lF
  rename News _ _ _ _ => lN
  rename IsRange _ _ _ _ _ _ _ _ => rX
  refine' law_range (fun _ _ => rfl) rfl rX ?a1 ?a2 ?a3 ?a4 lF lN ?a5 ?a6 ?a7 ?a8 ?a9 ?a10 rfl rfl ?turn ?done
  case a9 => assumption
  case a10 => assumption
  case a8 => exact ⟨_, by assumption⟩
  case a5 => assumption
  case a6 => assumption
  case a7 => omega
  case a1 => exact (tot_lo _).1
  case a2 => exact (tot_lo _).2
  case a3 => exact (stp_lo _).1
  case a4 => exact (stp_lo _).2
  case turn =>
    clear lF lN rX
    intro l vs ns step oS oC ts hl hi hlen hs0 hs1 dS dC i t lp lr ip ir nvp nvr oT x u h tk I oI hi8 hcI n1 n2 n3 n4 n5 hp hr dT hfree F₁ N₁
    obtain ⟨f1, f2, f3, f6, f4, f5⟩ := step_facts hs0 hs1 hi8 hfree
    have f1' : 0 ≤ bisF (placesAt step i) (256 - step) (placesAt step i).length 0 (placesAt step i).length := f1
    have f2' : bisF (placesAt step i) (256 - step) (placesAt step i).length 0 (placesAt step i).length ≤ (placesAt step i).length := f2
    have fl : (placesAt step i).length = i + 1 := by unfold placesAt; rw [List.length_map]; exact f3
    have fr : (rowsAt ns step i).length = i + 1 := by unfold rowsAt; rw [List.length_map]; exact f3
    k_steps
    refine Stop.intro ?_
    walk_at "my40"
    k_steps
    refine Stop.intro ?_
    rename Fr _ _ _ _ => lF
    rename News _ _ _ _ => lN
    refine list_grow (fun _ _ => rfl) (Str.ofString "place") (Str.ofString "spot") (mv step) rfl (by assumption) lF (pick4 lN) ?_ ?_
    · intro i2 k2 t2 items2 nv2 u2 h2 tk2 It oIt hk2 hlt2 hit2 hd2 F₂ N₂
      clear lF lN
      k_steps
      · exact LgEnd.intro (items := items2) (by k_asm) (by k_asm) hit2 (take_map_succ (mv step) hk2 (by unfold mv; rw [if_pos (by omega)])) (fun z h1 h2 => by simp only [if_neg h1, if_neg h2])
      · exact LgEnd.intro (items := items2) (by k_asm) (by k_asm) hit2 (take_map_succ (mv step) hk2 (by unfold mv; rw [if_neg (by omega)])) (fun z h1 h2 => by simp only [if_neg h1, if_neg h2])
    · intro items2 nv2 u2 h2 tk2 hit2 F₂ N₂
      clear lF lN
      have hml : (rot (placesAt step i) (cutAt step i).toNat).length = i + 1 := by
        unfold rot; rw [List.length_append, List.length_drop, List.length_take]; omega
      have hml2 : (List.map (mv step) (rot (placesAt step i) (cutAt step i).toNat)).length = i + 1 := by rw [List.length_map]; exact hml
      replace hit2 : IntsAre items2 (List.map (mv step) (rot (placesAt step i) (cutAt step i).toNat)) := hit2
      have hne : ¬ (List.map (mv step) (rot (placesAt step i) (cutAt step i).toNat)) = [] := fun e => by rw [e] at hml2; simp at hml2
      have hhd : (List.map (mv step) (rot (placesAt step i) (cutAt step i).toNat)).headD 1 = (List.map (mv step) (rot (placesAt step i) (cutAt step i).toNat)).getD 0 0 := by
        revert hne
        generalize List.map (mv step) (rot (placesAt step i) (cutAt step i).toNat) = ll
        intro hne
        cases ll with
        | nil => exact absurd rfl hne
        | cons a r => rfl
      rw [hhd] at f4
      k_steps
      refine Stop.intro ?_
      by_cases hz : ((1 + (i : Int)) * step).fmod 256 = 0
      · have hb : (((1 + (i : Int)) * step).fmod 256 == 0) = true := by rw [hz]; rfl
        have hv := f4.mpr hz
        rename Fr _ _ _ _ => F3
        rw [hb] at F3
        refine wpAny_If ?_
        k_steps
        · exfalso
          rename ((_ != _) = true) => hq
          refine absurd hq ?_
          show ¬ ((List.getD (List.map (mv step) (rot (placesAt step i) (cutAt step i).toNat)) 0 0 == 0) != true) = true
          rw [hv]; decide
        · show RgEnd _ _ _ _ _ _ Flow.brk _
          dsimp only [RgEnd]
          k_steps
      · have hb : (((1 + (i : Int)) * step).fmod 256 == 0) = false := beq_eq_false_iff_ne.mpr hz
        have hv : ¬ (List.map (mv step) (rot (placesAt step i) (cutAt step i).toNat)).getD 0 0 = 0 := fun e => hz (f4.mp e)
        rename Fr _ _ _ _ => F3
        rw [hb] at F3
        refine wpAny_If ?_
        k_steps
        · exfalso
          rename ((_ != _) = true) => hq
          refine absurd hq ?_
          show ¬ ((List.getD (List.map (mv step) (rot (placesAt step i) (cutAt step i).toNat)) 0 0 == 0) != false) = true
          rw [beq_eq_false_iff_ne.mpr hv]; decide
        · have hR := rowsAt_ok (ns := ns) f6 hi8 (cutAt step i).toNat
          have hRl : (rot (rowsAt ns step i) (cutAt step i).toNat).length = i + 1 := by
            unfold rot; rw [List.length_append, List.length_drop, List.length_take]; omega
          have hR1 : (rot (rowsAt ns step i) (cutAt step i).toNat).length ≤ 20 := by omega
          have hR2 : ∀ r ∈ rot (rowsAt ns step i) (cutAt step i).toNat, r.length ≤ 16 := fun r hr => (hR r hr).2
          have hT : (textUp ns (rot (rowsAt ns step i) (cutAt step i).toNat) (rot (rowsAt ns step i) (cutAt step i).toNat).length).cps.size ≤ 400 := by
            have := textUp_len ns _ hR2 (rot (rowsAt ns step i) (cutAt step i).toNat).length (Nat.le_refl _)
            have e : (textUp ns (rot (rowsAt ns step i) (cutAt step i).toNat) (rot (rowsAt ns step i) (cutAt step i).toNat).length).length = (textUp ns (rot (rowsAt ns step i) (cutAt step i).toNat) (rot (rowsAt ns step i) (cutAt step i).toNat).length).cps.size := rfl
            omega
          refine Stop.intro ?_
          walk_at "my92"
          k_steps
          refine Stop.intro ?_
          walk_at "my57"
          k_steps
          refine Stop.intro ?_
          walk_at "my85"
          k_steps
          refine Stop.intro ?_
          have hs1 := sent_lines (ns := ns) (rs := rot (rowsAt ns step i) (cutAt step i).toNat) (fun r hr => (hR r hr).1)
          have hs2 := sent_len hR2 hR1 hs1
          have hs3 : ∀ r ∈ rot (rowsAt ns step i) (cutAt step i).toNat, ∀ c ∈ r.cps.toList, c ≠ 10 ∧ c ≠ 13 ∧ c < 256 := fun r hr => (hR r hr).1.2
          have hs4 : rot (rowsAt ns step i) (cutAt step i).toNat ≠ [] := fun e => by rw [e] at hRl; simp at hRl
          walk_at "my_split"
          k_steps
          refine Stop.intro ?_
          walk_at "my_butlast"
          k_steps
          refine Stop.intro ?_
          walk_at "my99"
          k_steps
          refine Stop.intro ?_
          obtain ⟨g1, g2, g3⟩ := f5 hz
          rename News _ _ _ _ => lN
          have lN2 := prune18 lN
          clear lN
          k_dflt (refine LCg.ListComp_U (F₀ := by k_asm) (by with_unfolding_all rfl) (by decide) (by rfl) (by decide) (by rfl) ?_)
          k_steps
          refine Stop.intro ?_
          refine LCg.CompSrc.ledger (by rfl) (by k_asm) (by k_asm) (by k_mem) (by rw [List.size_toArray]; exact Nat.le_trans (show _ ≤ 1000 by omega) (by decide)) ?_
          intro g'
          refine kct_list (fun name => dots name ++ rowOf ns (1 + (i : Int) - name)) (by assumption) ?cturn ?cfin
          case cturn =>
            intro k3 t3 I3 oI3 C3 oC3 D3 m3 ys3 h3 tk3 E3 hk3 hC3 hx3 F3 N3 off3 ne3 mk3
            obtain ⟨k0, k1⟩ := g3 k3 hk3
            k_steps
            refine Stop.intro ?_
            walk_at "my85"
            have hL1 : (Txt.mul (Str.ofString ".") k3).length ≤ 9 := dots_len (by omega)
            have hL2 := rowOf_len ns (1 + (i : Int) - k3)
            k_steps
            refine Stop.intro ?_
            exact LCg.CompEnd.intro (by k_asm) (by k_asm) _ (fun p hp => hp) off3 (Or.inr ⟨_, by k_mem, rfl, _, rfl⟩) (kct_el (by rw [mul_dots]) rfl rfl)
          case cfin =>
            show ∀ _, _
            intro ys3 hc3 hl3
            unfold LCg.FinE
            intro D3 h3 tk3 F3 N3 o3
            (try simp only [LCg.Off1, and_true] at o3)
            (try simp only [List.nil_append, List.cons_append] at N3)
            (try dsimp only)
            k_steps
            refine Stop.intro ?_
            have e3 := rows_eq (ns := ns) f6 g1
            refine ne_strs (ms := (ordN step (i + 2)).map fun name => dots name ++ rowOf ns (1 + (i : Int) - name)) (by is_list) (by is_list) (by assumption) (by rw [List.map_map]; exact hc3) (by ke_room) (e3.trans (rows_form ns step i)) (by rw [e3]; exact rowsAt_low) ?_
            k_steps
            refine Stop.intro ?_
            k_dflt (refine LCg.ListComp_U (F₀ := by k_asm) (by with_unfolding_all rfl) (by decide) (by rfl) (by decide) (by rfl) ?_)
            k_steps
            refine Stop.intro ?_
            refine LCg.CompSrc.ledger (by rfl) (by k_asm) (by k_asm) (by k_mem) (by rw [List.size_toArray]; exact Nat.le_trans (show _ ≤ 1000 by omega) (by decide)) ?_
            intro g'
            refine kcf_list (fun name => (name * step).fmod 256) (by assumption) ?cturn2 ?cfin2
            case cturn2 =>
              intro k4 t4 I4 oI4 C4 oC4 D4 m4 ys4 h4 tk4 E4 hk4 hC4 hx4 F4 N4 off4 ne4 mk4
              obtain ⟨k0, k1⟩ := g3 k4 hk4
              k_steps
              refine Stop.intro ?_
              exact LCg.CompEnd.intro (by k_asm) (by k_asm) _ (fun p hp => hp) off4 (Or.inr ⟨_, by k_mem, rfl, _, rfl⟩) (kcf_el rfl rfl rfl)
            case cfin2 =>
              show ∀ _, _
              intro ys4 hc4
              unfold LCg.FinE
              intro D4 h4 tk4 F4 N4 o4
              (try simp only [LCg.Off1, and_true] at o4)
              (try simp only [List.nil_append, List.cons_append] at N4)
              (try dsimp only)
              k_steps
              refine Stop.intro ?_
              refine ne_ints (by is_list) (by is_list) (by assumption) hc4 (by ke_room) g2 ?_
              k_steps
              exact turn_end F4 N4 hcI n3 n2 n1 (by rw [← g2]; assumption) (by rw [← e3]; assumption) (by exact ⟨_, by assumption⟩) (freeTo_succ hfree hz) rfl rfl (by
                intro z z1 z2 z3
                obtain ⟨y1, y2, y3, y4, y5, y6, y7⟩ := stored_off z3
                simp only [if_neg y1, if_neg y2, if_neg y3, if_neg y4, if_neg y5, if_neg y6, if_neg y7, if_neg z1, if_neg z2, z3, Bool.false_eq_true, if_false])
  case done =>
    intro m₁ h tk F₁ N₁
    k_steps)
end Mine
end
open PySem PySem.W PyProof.Rows
theorem PySem.Challenge.cw_rl0009_01_holds : PySem.Challenge.rw_rl0009_01.Holds :=
  Mine.law
