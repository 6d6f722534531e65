import PyProof.Rows.All
import Wide.All
import OpenK.AllK
import Wide.FinOn
import PySem.Challenge.RW_xb0008_01
set_option Elab.async false

section
namespace Mine
open PySem PySem.Sre

/-- the pattern's words -/
def C : Array Nat := #[14, 4, 0, 8, 4294967295, 24, 5, 0, 4294967295, 2, 1, 16, 70, 16, 76, 16, 65, 16, 71, 16, 83, 16, 32, 16, 40, 17, 0, 24, 6, 0, 4294967295, 20, 41, 1, 17, 1, 16, 41, 1]

/-- n steps -/
def it : Nat → M → M
  | 0, m => m
  | n + 1, m => it n m.step
theorem it_add (a b : Nat) (m : M) : it (a + b) m = it b (it a m) := by
  induction a generalizing m with
  | zero => simp [it]
  | succ a ih => rw [Nat.succ_add]; simp only [it]; exact ih _
theorem step_out {m : M} (h : m.outcome.isSome = true) : m.step = m := by unfold M.step; rw [if_pos h]
theorem it_out {m : M} (h : m.outcome.isSome = true) (n : Nat) : it n m = m := by
  induction n with
  | zero => rfl
  | succ n ih => simp only [it]; rw [step_out h]; exact ih
theorem runFor_it (n : Nat) (m : M) : m.runFor n = it n m := by
  induction n generalizing m with
  | zero => rfl
  | succ n ih =>
    unfold M.runFor
    by_cases h : m.outcome.isSome = true
    · rw [if_pos h, it_out h]
    · rw [if_neg h, ih]; rfl

/-- within K steps P holds -/
def Wins (P : M → Prop) (K : Nat) (m : M) : Prop := ∃ k, k ≤ K ∧ P (it k m)
theorem Wins.now {P : M → Prop} {K : Nat} {m : M} (h : P m) : Wins P K m := ⟨0, Nat.zero_le _, h⟩
theorem Wins.step {P : M → Prop} {K : Nat} {m m' : M} (e : m.step = m') (h : Wins P K m') : Wins P (K + 1) m := by
  obtain ⟨k, hk, hp⟩ := h
  exact ⟨k + 1, by omega, by show P (it k m.step); rw [e]; exact hp⟩
theorem Wins.more {P : M → Prop} {K K' : Nat} {m : M} (h : Wins P K m) (hk : K ≤ K') : Wins P K' m := by
  obtain ⟨k, hk', hp⟩ := h
  exact ⟨k, by omega, hp⟩

/-- a state of the engine on this pattern -/
def mk (T : Array Nat) (pc pos handed : Nat) (a b : Option Nat) (lm li : Int) (frames : List Sre.Frame) (weight : Nat) (ans : Option Bool) (seen : Seen) : M :=
  { code := C, text := T, lim := T.size, start := 0, pc := pc, pos := pos, handed := handed, marks := #[a, b], lastmark := lm, lastindex := li, frames := frames, weight := weight, answer := ans, seen := seen }

section
variable {T : Array Nat} {pc pos handed : Nat} {a b : Option Nat} {lm li : Int} {fr : List Sre.Frame} {wt : Nat} {seen : Seen}

theorem lit_yes {w : Nat} (hop : ops[C.getD pc 0]? = some .LITERAL) (hw : C.getD (pc + 1) 0 = w) (hpc : pc < C.size) (hp : pos < T.size) (hc : T.getD pos 0 = w) :
    (mk T pc pos handed a b lm li fr wt none seen).step = mk T (pc + 2) (pos + 1) handed a b lm li fr wt none (seen.add (C.getD pc 0)) := by
  have hp' : ¬ (pos ≥ T.size) := by omega
  unfold M.step mk
  simp only [Option.isSome_none, Bool.false_eq_true, if_false, hpc, if_true, M.exec, M.word, Nat.add_zero, hop, hp', accepts, hw, hc, beq_self_eq_true, itemWidth]
theorem lit_no {w : Nat} (hop : ops[C.getD pc 0]? = some .LITERAL) (hw : C.getD (pc + 1) 0 = w) (hpc : pc < C.size) (hc : pos < T.size → T.getD pos 0 ≠ w) :
    (mk T pc pos handed a b lm li fr wt none seen).step = mk T pc pos handed a b lm li fr wt (some false) (seen.add (C.getD pc 0)) := by
  unfold M.step mk
  by_cases hp : pos < T.size
  · have hp' : ¬ (pos ≥ T.size) := by omega
    have hne : (T.getD pos 0 == w) = false := by simpa using hc hp
    simp only [Option.isSome_none, Bool.false_eq_true, if_false, hpc, if_true, M.exec, M.word, Nat.add_zero, hop, hp', accepts, hw, hne, M.say]
  · have hp' : pos ≥ T.size := by omega
    simp only [Option.isSome_none, Bool.false_eq_true, if_false, hpc, if_true, M.exec, M.word, Nat.add_zero, hop, hp', M.say]

/-- a run of signs -/
def cnt (f : Nat → Bool) (T : Array Nat) : (n p : Nat) → Nat
  | 0, _ => 0
  | n + 1, p => if f (T.getD p 0) then cnt f T n (p + 1) + 1 else 0
theorem run_eq (code : Array Nat) (i : Nat) (f : Nat → Bool) (h : ∀ c s, accepts code i c s = .ok (f c, s)) : ∀ n p found s, Sre.run code T i n p found s = .ok (found + cnt f T n p, s)
  | 0, p, found, s => rfl
  | n + 1, p, found, s => by
    unfold Sre.run cnt
    rw [h]
    show (if f (T.getD p 0) = true then _ else _) = _
    by_cases hc : f (T.getD p 0) = true
    · rw [if_pos hc, if_pos hc, run_eq code i f h n]
      congr 2
      omega
    · rw [if_neg hc, if_neg hc]; rfl
theorem any_acc : ∀ c s, accepts C 9 c s = .ok (c != 10, s) := fun _ _ => rfl
theorem not_acc : ∀ c s, accepts C 31 c s = .ok (c != 41, s) := fun _ _ => rfl

def frame (pc pos : Nat) (count : Int) (lm li : Int) : Sre.Frame :=
  { wait := .giveBack, pc := pc, pos := pos, outermost := true, count := count, kept := { lastmark := lm, lastindex := li, whole := false, marks := #[] } }

theorem mark0 : (mk T 25 pos handed a b (-1) li fr wt none seen).step = mk T 27 pos handed (some pos) b 0 li fr wt none (seen.add 17) := rfl
theorem mark1 : (mk T 34 pos handed a b 0 li fr wt none seen).step = mk T 36 pos handed a (some pos) 1 1 fr wt none (seen.add 17) := by
  have e1 : C.getD 34 0 = 17 := rfl
  have e2 : C.getD 35 0 = 1 := rfl
  have e3 : ops[17]? = some .MARK := rfl
  have e4 : 34 < C.size := by decide
  unfold M.step mk
  simp only [Option.isSome_none, Bool.false_eq_true, if_false, e4, if_true, M.exec, M.word, Nat.add_zero, e1, e3, M.mark, Nat.reduceAdd, e2]
  rfl
theorem succ_ : (mk T 38 pos handed a b lm li fr wt none seen).step = mk T 38 pos pos a b lm li fr wt (some true) (seen.add 1) := rfl
theorem yes_ {p' : Nat} {c' : Int} {lm' li' : Int} {pc' : Nat} : (mk T pc pos handed a b lm li (frame pc' p' c' lm' li' :: fr) wt (some true) seen).step = mk T pc' p' handed a b lm li fr (wt - 1) (some true) seen := rfl
theorem fin_ (x : Bool) : (mk T pc pos handed a b lm li [] wt (some x) seen).step = { mk T pc pos handed a b lm li [] wt (some x) seen with outcome := some (if x then .matched else .failed) } := rfl
theorem rep5 (hw : wt ≤ 1000) (hp : pos ≤ T.size) (hT : T.size ≤ 1000) : (mk T 5 pos handed a b lm li fr wt none seen).step =
    mk T 11 (pos + cnt (· != 10) T (T.size - pos) pos) (pos + cnt (· != 10) T (T.size - pos) pos) a b lm li (frame 5 (pos + cnt (· != 10) T (T.size - pos) pos) (cnt (· != 10) T (T.size - pos) pos) lm li :: fr) (wt + 1) none ((seen.add 24).add 2) := by
  have e1 : ((T.size : Int) - (pos : Int)).toNat = T.size - pos := by omega
  have e2 : min 4294967295 (T.size - pos) = T.size - pos := by omega
  have e3 : ¬ ((0 : Int) > (T.size : Int) - (pos : Int)) := by omega
  have e4 : ¬ (wt + 1 + 0 > 16777216) := by omega
  have er := run_eq (T := T) C 9 (· != 10) any_acc (T.size - pos) pos 0 ((seen.add 24).add 2)
  rw [Nat.zero_add] at er
  have d0 : C.getD 5 0 = 24 := rfl
  have d1 : C.getD 6 0 = 5 := rfl
  have d2 : C.getD 7 0 = 0 := rfl
  have d3 : C.getD 8 0 = 4294967295 := rfl
  have d4 : C.getD 9 0 = 2 := rfl
  have d5 : ops[24]? = some .REPEAT_ONE := rfl
  have d6 : 5 < C.size := by decide
  unfold M.step mk
  simp only [Option.isSome_none, Bool.false_eq_true, if_false, d6, if_true, M.exec, M.word, Nat.add_zero, d0, d5, Nat.reduceAdd, d1, d2, d3, d4, Int.ofNat_zero, e3, e1, e2, er, Nat.not_lt_zero, M.afterRun, M.keep, M.attempt, M.frame, Array.size_empty, e4]
  rfl
theorem rep27 (hw : wt ≤ 1000) (hp : pos ≤ T.size) (hT : T.size ≤ 1000) : (mk T 27 pos handed a b lm li fr wt none seen).step =
    mk T 34 (pos + cnt (· != 41) T (T.size - pos) pos) (pos + cnt (· != 41) T (T.size - pos) pos) a b lm li (frame 27 (pos + cnt (· != 41) T (T.size - pos) pos) (cnt (· != 41) T (T.size - pos) pos) lm li :: fr) (wt + 1) none ((seen.add 24).add 20) := by
  have e1 : ((T.size : Int) - (pos : Int)).toNat = T.size - pos := by omega
  have e2 : min 4294967295 (T.size - pos) = T.size - pos := by omega
  have e3 : ¬ ((0 : Int) > (T.size : Int) - (pos : Int)) := by omega
  have e4 : ¬ (wt + 1 + 0 > 16777216) := by omega
  have er := run_eq (T := T) C 31 (· != 41) not_acc (T.size - pos) pos 0 ((seen.add 24).add 20)
  rw [Nat.zero_add] at er
  have d0 : C.getD 27 0 = 24 := rfl
  have d1 : C.getD 28 0 = 6 := rfl
  have d2 : C.getD 29 0 = 0 := rfl
  have d3 : C.getD 30 0 = 4294967295 := rfl
  have d4 : C.getD 31 0 = 20 := rfl
  have d5 : ops[24]? = some .REPEAT_ONE := rfl
  have d6 : 27 < C.size := by decide
  unfold M.step mk
  simp only [Option.isSome_none, Bool.false_eq_true, if_false, d6, if_true, M.exec, M.word, Nat.add_zero, d0, d5, Nat.reduceAdd, d1, d2, d3, d4, Int.ofNat_zero, e3, e1, e2, er, Nat.not_lt_zero, M.afterRun, M.keep, M.attempt, M.frame, Array.size_empty, e4]
  rfl
theorem no5_0 {p' : Nat} {lm' li' : Int} : (mk T pc pos handed a b lm li (frame 5 p' 0 lm' li' :: fr) wt (some false) seen).step = mk T 5 p' handed a b lm' li' fr (wt - 1) (some false) seen := rfl
theorem no5_s {p' k : Nat} {lm' li' : Int} (hw : wt ≤ 1000) : (mk T pc pos handed a b lm li (frame 5 (p' + 1) ((k + 1 : Nat) : Int) lm' li' :: fr) wt (some false) seen).step = mk T 11 p' p' a b lm' li' (frame 5 p' (k : Int) lm' li' :: fr) (wt - 1 + 1) none seen := by
  have d1 : C.getD 6 0 = 5 := rfl
  have d2 : C.getD 7 0 = 0 := rfl
  have e3 : ¬ ((k : Int) < ((0 : Nat) : Int)) := by omega
  have e5 : ((k + 1 : Nat) : Int) - 1 = k := by omega
  unfold M.step mk frame
  simp only [Option.isSome_none, Bool.false_eq_true, if_false, M.resume, M.putBack, M.word, Nat.reduceAdd, d1, d2, e3, e5, M.afterRun, M.attempt, M.frame, Array.size_empty, Nat.add_sub_cancel, Nat.add_zero]
  rw [if_neg (show ¬ (wt - 1 + 1 > 16777216) by omega)]
theorem no27_0 {p' : Nat} {lm' li' : Int} : (mk T pc pos handed a b lm li (frame 27 p' 0 lm' li' :: fr) wt (some false) seen).step = mk T 27 p' handed a b lm' li' fr (wt - 1) (some false) seen := rfl
theorem no27_s {p' k : Nat} {lm' li' : Int} (hw : wt ≤ 1000) : (mk T pc pos handed a b lm li (frame 27 (p' + 1) ((k + 1 : Nat) : Int) lm' li' :: fr) wt (some false) seen).step = mk T 34 p' p' a b lm' li' (frame 27 p' (k : Int) lm' li' :: fr) (wt - 1 + 1) none seen := by
  have d1 : C.getD 28 0 = 6 := rfl
  have d2 : C.getD 29 0 = 0 := rfl
  have e3 : ¬ ((k : Int) < ((0 : Nat) : Int)) := by omega
  have e5 : ((k + 1 : Nat) : Int) - 1 = k := by omega
  unfold M.step mk frame
  simp only [Option.isSome_none, Bool.false_eq_true, if_false, M.resume, M.putBack, M.word, Nat.reduceAdd, d1, d2, e3, e5, M.afterRun, M.attempt, M.frame, Array.size_empty, Nat.add_sub_cancel, Nat.add_zero]
  rw [if_neg (show ¬ (wt - 1 + 1 > 16777216) by omega)]

/-- the seven signs stand at p -/
def fl (T : Array Nat) (p : Nat) : Prop := ∀ j, j < 7 → p + j < T.size ∧ T.getD (p + j) 0 = [70, 76, 65, 71, 83, 32, 40].getD j 0

variable {P : M → Prop} {K : Nat}
theorem lits_yes {p : Nat} (h : fl T p) (hK : ∀ seen', Wins P K (mk T 25 (p + 7) handed a b lm li fr wt none seen')) : Wins P (K + 7) (mk T 11 p handed a b lm li fr wt none seen) := by
  refine .step (lit_yes (w := 70) rfl rfl (by decide) (h 0 (by decide)).1 (h 0 (by decide)).2) ?_
  refine .step (lit_yes (w := 76) rfl rfl (by decide) (h 1 (by decide)).1 (h 1 (by decide)).2) ?_
  refine .step (lit_yes (w := 65) rfl rfl (by decide) (h 2 (by decide)).1 (h 2 (by decide)).2) ?_
  refine .step (lit_yes (w := 71) rfl rfl (by decide) (h 3 (by decide)).1 (h 3 (by decide)).2) ?_
  refine .step (lit_yes (w := 83) rfl rfl (by decide) (h 4 (by decide)).1 (h 4 (by decide)).2) ?_
  refine .step (lit_yes (w := 32) rfl rfl (by decide) (h 5 (by decide)).1 (h 5 (by decide)).2) ?_
  refine .step (lit_yes (w := 40) rfl rfl (by decide) (h 6 (by decide)).1 (h 6 (by decide)).2) ?_
  exact hK _
theorem lits_no {p : Nat} (h : ¬ fl T p) (hK : ∀ pc' pos' seen', Wins P K (mk T pc' pos' handed a b lm li fr wt (some false) seen')) : Wins P (K + 7) (mk T 11 p handed a b lm li fr wt none seen) := by
  have stop : ∀ {n pc' w pos' seen'}, ops[C.getD pc' 0]? = some .LITERAL → C.getD (pc' + 1) 0 = w → pc' < C.size → ¬ (pos' < T.size ∧ T.getD pos' 0 = w) → Wins P (K + n + 1) (mk T pc' pos' handed a b lm li fr wt none seen') := by
    intro n pc' w pos' seen' h1 h2 h3 h4
    exact .step (lit_no h1 h2 h3 fun hp e => h4 ⟨hp, e⟩) ((hK _ _ _).more (by omega))
  by_cases h0 : p < T.size ∧ T.getD p 0 = 70
  · refine .step (lit_yes (w := 70) rfl rfl (by decide) h0.1 h0.2) ?_
    by_cases h1 : p + 1 < T.size ∧ T.getD (p + 1) 0 = 76
    · refine .step (lit_yes (w := 76) rfl rfl (by decide) h1.1 h1.2) ?_
      by_cases h2 : p + 2 < T.size ∧ T.getD (p + 2) 0 = 65
      · refine .step (lit_yes (w := 65) rfl rfl (by decide) h2.1 h2.2) ?_
        by_cases h3 : p + 3 < T.size ∧ T.getD (p + 3) 0 = 71
        · refine .step (lit_yes (w := 71) rfl rfl (by decide) h3.1 h3.2) ?_
          by_cases h4 : p + 4 < T.size ∧ T.getD (p + 4) 0 = 83
          · refine .step (lit_yes (w := 83) rfl rfl (by decide) h4.1 h4.2) ?_
            by_cases h5 : p + 5 < T.size ∧ T.getD (p + 5) 0 = 32
            · refine .step (lit_yes (w := 32) rfl rfl (by decide) h5.1 h5.2) ?_
              by_cases h6 : p + 6 < T.size ∧ T.getD (p + 6) 0 = 40
              · refine absurd ?_ h
                intro j hj
                rcases j with _ | _ | _ | _ | _ | _ | _ | j
                · exact h0
                · exact h1
                · exact h2
                · exact h3
                · exact h4
                · exact h5
                · exact h6
                · omega
              · exact stop (n := 0) (w := 40) rfl rfl (by decide) h6
            · exact stop (n := 1) (w := 32) rfl rfl (by decide) h5
          · exact stop (n := 2) (w := 83) rfl rfl (by decide) h4
        · exact stop (n := 3) (w := 71) rfl rfl (by decide) h3
      · exact stop (n := 4) (w := 65) rfl rfl (by decide) h2
    · exact stop (n := 5) (w := 76) rfl rfl (by decide) h1
  · exact stop (n := 6) (w := 70) rfl rfl (by decide) h0

theorem inner_no {q : Nat} {f5 : Sre.Frame} : ∀ (k : Nat) {handed : Nat} {b : Option Nat} {seen : Seen}, (∀ j, j ≤ k → q + j < T.size → T.getD (q + j) 0 ≠ 41) →
    (∀ handed' b' seen', Wins P K (mk T 27 q handed' a b' 0 (-1) [f5] 1 (some false) seen')) → Wins P (K + 3 * k + 3) (mk T 34 (q + k) handed a b 0 (-1) [frame 27 (q + k) (k : Int) 0 (-1), f5] 2 none seen)
  | 0, _, _, _, h, hK => .step mark1 (.step (lit_no (w := 41) rfl rfl (by decide) (h 0 (Nat.le_refl _))) (.step no27_0 (hK _ _ _)))
  | k + 1, _, _, _, h, hK => by
    have ih := fun {hd bb ss} => inner_no k (handed := hd) (b := bb) (seen := ss) (fun j hj => h j (by omega)) hK
    have e : K + 3 * (k + 1) + 3 = (K + 3 * k + 3) + 1 + 1 + 1 := by omega
    rw [e]
    exact .step mark1 (.step (lit_no (w := 41) rfl rfl (by decide) (h (k + 1) (Nat.le_refl _))) (.step (no27_s (by decide)) ih))

/-- the end: found -/
def Yes (p q : Nat) (m : M) : Prop := m.outcome = some .matched ∧ m.marks = #[some p, some q] ∧ m.lastmark = 1 ∧ m.lastindex = 1 ∧ m.start = 0 ∧ m.handed = q + 1
theorem inner_yes {q p c : Nat} {k : Int} {f5 : Nat} (hq : q < T.size) (hc : T.getD q 0 = 41) : Wins (Yes p q) 7 (mk T 34 q handed (some p) b 0 (-1) [frame 27 q k 0 (-1), frame 5 f5 c (-1) (-1)] 2 none seen) :=
  .step mark1 (.step (lit_yes (w := 41) rfl rfl (by decide) hq hc) (.step succ_ (.step yes_ (.step yes_ (.step (fin_ _) (.now ⟨rfl, rfl, rfl, rfl, rfl, rfl⟩))))))

theorem cnt_le (f : Nat → Bool) (T : Array Nat) : ∀ n p, cnt f T n p ≤ n
  | 0, _ => Nat.le_refl _
  | n + 1, p => by
    unfold cnt
    have := cnt_le f T n (p + 1)
    split <;> omega
theorem cnt_in (f : Nat → Bool) (T : Array Nat) : ∀ n p j, j < cnt f T n p → f (T.getD (p + j) 0) = true
  | 0, _, _, h => absurd h (Nat.not_lt_zero _)
  | n + 1, p, j, h => by
    unfold cnt at h
    split at h
    · rename_i hc
      cases j with
      | zero => exact hc
      | succ j =>
        have := cnt_in f T n (p + 1) j (by omega)
        rw [show p + (j + 1) = p + 1 + j by omega]
        exact this
    · exact absurd h (Nat.not_lt_zero _)
theorem cnt_end (f : Nat → Bool) (T : Array Nat) : ∀ n p, cnt f T n p < n → f (T.getD (p + cnt f T n p) 0) = false
  | 0, _, h => absurd h (Nat.not_lt_zero _)
  | n + 1, p, h => by
    unfold cnt at h ⊢
    by_cases hc : f (T.getD p 0) = true
    · rw [if_pos hc] at h ⊢
      have := cnt_end f T n (p + 1) (by omega)
      rw [show p + (cnt f T n (p + 1) + 1) = p + 1 + cnt f T n (p + 1) by omega]
      exact this
    · rw [if_neg hc]
      simpa using hc

/-- where the bracket closes, from q on -/
def clo (T : Array Nat) (q : Nat) : Nat := q + cnt (· != 41) T (T.size - q) q
def cond (T : Array Nat) (p : Nat) : Prop := fl T p ∧ clo T (p + 7) < T.size
open Classical in
noncomputable def srch (T : Array Nat) : Nat → Option Nat
  | 0 => if cond T 0 then some 0 else none
  | p + 1 => if cond T (p + 1) then some (p + 1) else srch T p
def Res (T : Array Nat) (r : Option Nat) (m : M) : Prop := match r with
  | some p => Yes (p + 7) (clo T (p + 7)) m
  | none => m.outcome = some .failed

theorem fl_size {p : Nat} (h : fl T p) : p + 7 ≤ T.size := by have := (h 6 (by decide)).1; omega
theorem clo_at {q : Nat} (h : clo T q < T.size) : T.getD (clo T q) 0 = 41 := by
  have h1 := cnt_end (· != 41) T (T.size - q) q (by unfold clo at h; omega)
  have h2 : (T.getD (clo T q) 0 != 41) = false := h1
  exact beq_iff_eq.mp (by simpa only [bne, Bool.not_eq_false'] using h2)
theorem one {p : Nat} {h5 : Sre.Frame} (h5e : h5 = frame 5 p p (-1) (-1)) (hT : T.size ≤ 500) {handed : Nat} {a b : Option Nat} {seen : Seen} {P : M → Prop} {K : Nat} (hK : 7 ≤ K)
    (yes : cond T p → ∀ m, Yes (p + 7) (clo T (p + 7)) m → P m)
    (no : ¬ cond T p → ∀ pc' pos' handed' a' b' lm' li' seen', Wins P K (mk T pc' pos' handed' a' b' lm' li' [h5] 1 (some false) seen')) :
    Wins P (K + 1600) (mk T 11 p handed a b (-1) (-1) [h5] 1 none seen) := by
  subst h5e
  by_cases h : fl T p
  · have hs := fl_size h
    refine Wins.more (K := (K + 1520) + 1 + 1 + 7) (lits_yes h fun _ => .step mark0 (.step (rep27 (by decide) hs (by omega)) ?_)) (by omega)
    by_cases hc : clo T (p + 7) < T.size
    · refine Wins.more (K := 7) ?_ (by omega)
      obtain ⟨k, hk, hy⟩ := inner_yes (handed := p + 7 + cnt (· != 41) T (T.size - (p + 7)) (p + 7)) (b := b) (p := p + 7) (c := p) (k := (cnt (· != 41) T (T.size - (p + 7)) (p + 7) : Int)) (f5 := p) hc (clo_at hc)
      exact ⟨k, hk, yes ⟨h, hc⟩ _ hy⟩
    · have hk : cnt (· != 41) T (T.size - (p + 7)) (p + 7) ≤ 500 := by have := cnt_le (· != 41) T (T.size - (p + 7)) (p + 7); omega
      refine Wins.more (K := K + 3 * cnt (· != 41) T (T.size - (p + 7)) (p + 7) + 3) (inner_no _ (fun j hj hlt e => ?_) fun _ _ _ => no (fun c => hc c.2) _ _ _ _ _ _ _ _) (by omega)
      have h1 := cnt_in (· != 41) T (T.size - (p + 7)) (p + 7) j (by unfold clo at hc; omega)
      rw [e] at h1
      exact absurd h1 (by decide)
  · exact (lits_no h fun _ _ _ => no (fun c => h c.1) _ _ _ _ _ _ _ _).more (by omega)
theorem outer (hT : T.size ≤ 500) : ∀ (p : Nat), p ≤ T.size → ∀ {handed : Nat} {a b : Option Nat} {seen : Seen}, Wins (Res T (srch T p)) ((p + 1) * 2000) (mk T 11 p handed a b (-1) (-1) [frame 5 p p (-1) (-1)] 1 none seen)
  | 0, hp, _, _, _, _ => by
    refine Wins.more (K := 7 + 1600) (one rfl hT (Nat.le_refl _) (fun hc m hy => ?_) fun hc pc' pos' handed' a' b' lm' li' seen' => ?_) (by omega)
    · unfold srch; rw [if_pos hc]; exact hy
    · unfold srch; rw [if_neg hc]
      exact .step no5_0 (.step (fin_ _) (.now rfl))
  | p + 1, hp, _, _, _, _ => by
    have e : (p + 1 + 1) * 2000 = (p + 1) * 2000 + 2000 := by omega
    rw [e]
    refine Wins.more (K := ((p + 1) * 2000 + 1) + 1600) (one rfl hT (by omega) (fun hc m hy => ?_) fun hc pc' pos' handed' a' b' lm' li' seen' => ?_) (by omega)
    · unfold srch; rw [if_pos hc]; exact hy
    · unfold srch; rw [if_neg hc]
      exact .step (no5_s (by decide)) (outer hT p (by omega))
theorem srch_small (h : T.size < 8) : ∀ p, srch T p = none
  | 0 => by unfold srch; rw [if_neg]; intro c; have := fl_size c.1; have := c.2; unfold clo at this; omega
  | p + 1 => by unfold srch; rw [if_neg (fun c => by have := fl_size c.1; have := c.2; unfold clo at this; omega)]; exact srch_small h p
/-- the row's end -/
def row (T : Array Nat) : Nat := cnt (· != 10) T T.size 0
theorem start_big (h : 8 ≤ T.size) : forMatch C T 1 0 T.size false false = mk T 5 0 0 none none (-1) (-1) [] 0 none (({} : Seen).add 14) := by
  have e : ¬ (T.size - 0 < 8) := by omega
  have e1 : (header C).1 = 8 := rfl
  unfold forMatch
  rw [e1]
  simp only [e]
  rfl
theorem start_small (h : T.size < 8) : forMatch C T 1 0 T.size false false = mk T 5 0 0 none none (-1) (-1) [] 0 (some false) (({} : Seen).add 14) := by
  have e : T.size - 0 < 8 := by omega
  have e1 : (header C).1 = 8 := rfl
  unfold forMatch
  rw [e1]
  simp only [e]
  rfl
theorem eng (hT : T.size ≤ 500) : Wins (Res T (srch T (row T))) 1010000 (forMatch C T 1 0 T.size false false) := by
  by_cases h : 8 ≤ T.size
  · rw [start_big h]
    have hr : row T ≤ T.size := cnt_le _ _ _ _
    have r5 := rep5 (T := T) (pos := 0) (handed := 0) (a := none) (b := none) (lm := -1) (li := -1) (fr := []) (wt := 0) (seen := ({} : Seen).add 14) (by decide) (Nat.zero_le _) (by omega)
    rw [Nat.sub_zero, Nat.zero_add] at r5
    exact Wins.more (K := (row T + 1) * 2000 + 1) (.step r5 (outer hT _ hr)) (by omega)
  · rw [start_small (by omega), srch_small (by omega)]
    exact .step (fin_ _) (.now rfl)
end
theorem Res.out {T : Array Nat} {r : Option Nat} {m : M} (h : Res T r m) : m.outcome.isSome = true := by
  cases r with
  | none => rw [show m.outcome = _ from h]; rfl
  | some p => rw [h.1]; rfl
theorem eng_run {T : Array Nat} (hT : T.size ≤ 500) : ∃ m, Res T (srch T (row T)) m ∧ ∀ N, 1010000 ≤ N → (forMatch C T 1 0 T.size false false).runFor N = m := by
  obtain ⟨k, hk, h⟩ := eng hT
  refine ⟨_, h, fun N hN => ?_⟩
  rw [runFor_it, show N = k + (N - k) by omega, it_add, it_out h.out]
end Mine
end

section
namespace Mine
open PySem PySem.W PyProof.Rows PySem.Calls
set_option maxRecDepth 100000
namespace Fa
theorem plain_pat : PlainAttrs "re.Pattern" :=
  ⟨⟨"object.__getattribute__", by rw [typeLookup_type, builtinLookup_eq_fast]; kernel_rfl, by decide +kernel⟩, by rw [typeLookup_type, builtinLookup_eq_fast]; kernel_rfl⟩
theorem slot_match : Slot "re.Pattern" "match" "re.Pattern.match" :=
  .of (owner := "re.Pattern") (n := "match") (by rw [typeLookup_type, builtinLookup_eq_fast]; kernel_rfl) (by decide +kernel) (by decide +kernel) (by decide +kernel)
    (by first | exact .inl (by decide +kernel) | exact .inr (by decide +kernel)) (by rw [isSubtype_type]; kernel_rfl)
theorem type_match : typeOf (.builtin "re.Pattern.match") = pure (.type "method_descriptor") := by show builtinType _ = _; rw [builtinType_eq_fast]; kernel_rfl
theorem entry_match : entryFor table "re.Pattern.match" = some Builtin.«re.Pattern.match» := entryFor_of_tree (by kernel_rfl)
theorem args_match (a b : Value) : argsOk "re.Pattern.match" ⟨[a, b], []⟩ := by unfold argsOk; kernel_rfl
theorem plain_mo : PlainAttrs "re.Match" :=
  ⟨⟨"object.__getattribute__", by rw [typeLookup_type, builtinLookup_eq_fast]; kernel_rfl, by decide +kernel⟩, by rw [typeLookup_type, builtinLookup_eq_fast]; kernel_rfl⟩
theorem slot_group : Slot "re.Match" "group" "re.Match.group" :=
  .of (owner := "re.Match") (n := "group") (by rw [typeLookup_type, builtinLookup_eq_fast]; kernel_rfl) (by decide +kernel) (by decide +kernel) (by decide +kernel)
    (by first | exact .inl (by decide +kernel) | exact .inr (by decide +kernel)) (by rw [isSubtype_type]; kernel_rfl)
theorem type_group : typeOf (.builtin "re.Match.group") = pure (.type "method_descriptor") := by show builtinType _ = _; rw [builtinType_eq_fast]; kernel_rfl
theorem entry_group : entryFor table "re.Match.group" = some Builtin.«re.Match.group» := entryFor_of_tree (by kernel_rfl)
theorem args_group (a b : Value) : argsOk "re.Match.group" ⟨[a, b], []⟩ := by unfold argsOk; kernel_rfl
theorem mo_no_bool : typeLookup (.type "re.Match") "__bool__" = pure none := by rw [typeLookup_type, builtinLookup_eq_fast]; kernel_rfl
theorem mo_no_len : typeLookup (.type "re.Match") "__len__" = pure none := by rw [typeLookup_type, builtinLookup_eq_fast]; kernel_rfl
theorem slot_split : Slot "bytes" "split" "bytes.split" :=
  .of (owner := "bytes") (n := "split") (by rw [typeLookup_type, builtinLookup_eq_fast]; kernel_rfl) (by decide +kernel) (by decide +kernel) (by decide +kernel)
    (by first | exact .inl (by decide +kernel) | exact .inr (by decide +kernel)) (by rw [isSubtype_type]; kernel_rfl)
theorem type_split : typeOf (.builtin "bytes.split") = pure (.type "method_descriptor") := by show builtinType _ = _; rw [builtinType_eq_fast]; kernel_rfl
theorem entry_split : entryFor table "bytes.split" = some Builtin.«bytes.split» := entryFor_of_tree (by kernel_rfl)
theorem args_split_2 (a b : Value) : argsOk "bytes.split" ⟨[a, b], []⟩ := by unfold argsOk; kernel_rfl
theorem args_split_1 (a : Value) : argsOk "bytes.split" ⟨[a], []⟩ := by unfold argsOk; kernel_rfl
theorem str_no_index : typeLookup (.type "str") "__index__" = pure none := by rw [typeLookup_type, builtinLookup_eq_fast]; kernel_rfl
end Fa
end Mine
end

section
namespace Mine
open PySem PySem.W PyProof.Rows PySem.Calls PySem.Builtin
set_option maxRecDepth 100000

/-- values that are these bytes -/
inductive ByL : List Value → List (List UInt8) → Prop
  | nil : ByL [] []
  | cons {b : List UInt8} {t : Tok} {vs : List Value} {ws : List (List UInt8)} : ByL vs ws → ByL (.bytes b.toArray t :: vs) (b :: ws)
theorem ByL.length {vs ws} (h : ByL vs ws) : vs.length = ws.length := by
  induction h with
  | nil => rfl
  | cons _ ih => simp [ih]
theorem ByL.append {vs ws us xs} (h : ByL vs ws) (k : ByL us xs) : ByL (vs ++ us) (ws ++ xs) := by
  induction h with
  | nil => exact k
  | cons _ ih => exact .cons ih
theorem ByL.get {vs ws} (h : ByL vs ws) : ∀ {i : Nat} {b : List UInt8}, ws[i]? = some b → ∃ t, vs[i]? = some (.bytes b.toArray t) := by
  induction h with
  | nil => intro i b e; simp at e
  | cons _ ih =>
    intro i b e
    cases i with
    | zero => simp at e; subst e; exact ⟨_, rfl⟩
    | succ i => exact ih (by simpa using e)

section
variable {M : Model} {A : Around} {E : Value → Shared → Prop} {s : Shared}
theorem mapM_new : ∀ (xs : List (Array UInt8)) {s : Shared} {Q : List Value → Shared → Prop}, (∀ x ∈ xs, x.size ≤ sizeLine) → (∀ vs k, ByL vs (xs.map (·.toList)) → Q vs { s with toks := k }) →
    wpAny M A (xs.mapM (Bytes.Kind.new .bytes)) Q E s
  | [], s, Q, _, h => by
    rw [List.mapM_nil]
    exact wpAny_pure (h [] s.toks .nil)
  | x :: xs, s, Q, hz, h => by
    rw [List.mapM_cons]
    refine wpAny_bind ?_
    show wpAny M A (mkBytes x) _ E s
    refine wpAny_mkBytes ?_ (hz x (.head _))
    refine wpAny_bind (mapM_new xs (fun y hy => hz y (.tail _ hy)) fun vs k hv => ?_)
    refine wpAny_pure (h _ k ?_)
    have e : x = x.toList.toArray := by simp
    rw [List.map_cons]
    conv => arg 1; rw [e]
    exact .cons hv
end

/-- the signs ahead of the first c -/
def ahead (c : UInt8) (l : List UInt8) : List UInt8 := l.takeWhile (· != c)

theorem between_all (b : Array UInt8) (w : Nat) (ps : List Nat) : ∀ x ∈ Bytes.between b w ps, x.size ≤ b.size := by
  have key : ∀ (ps : List Nat) (parts : Array (Array UInt8)) (last : Nat), (∀ x ∈ parts, x.size ≤ b.size) →
      ∀ x ∈ (ps.foldl (fun (parts, last) p => (parts.push (b.extract last p), p + w)) (parts, last)).1, x.size ≤ b.size := by
    intro ps
    induction ps with
    | nil => intro parts last h; exact h
    | cons p ps ih =>
      intro parts last h
      refine ih _ _ fun x hx => ?_
      rcases Array.mem_push.mp hx with hx | rfl
      · exact h x hx
      · simp only [Array.size_extract]; omega
  intro x hx
  unfold Bytes.between at hx
  simp only [Array.toList_push, List.mem_append, List.mem_singleton] at hx
  rcases hx with hx | rfl
  · exact key ps #[] 0 (fun x hx => by simp at hx) x (by simpa using hx)
  · simp only [Array.size_extract]; omega
theorem between_head (b : Array UInt8) (w p : Nat) (ps : List Nat) : ∃ ws, Bytes.between b w (p :: ps) = b.extract 0 p :: ws := by
  have key : ∀ (ps : List Nat) (parts : Array (Array UInt8)) (last : Nat) (x : Array UInt8) (ys : List (Array UInt8)), parts.toList = x :: ys →
      ∃ zs, (ps.foldl (fun (parts, last) p => (parts.push (b.extract last p), p + w)) (parts, last)).1.toList = x :: zs := by
    intro ps
    induction ps with
    | nil => intro parts last x ys h; exact ⟨_, h⟩
    | cons p ps ih =>
      intro parts last x ys h
      exact ih _ _ x (ys ++ [b.extract last p]) (by rw [Array.toList_push, h]; rfl)
  obtain ⟨zs, hz⟩ := key ps (#[].push (b.extract 0 p)) (p + w) (b.extract 0 p) [] (by simp)
  unfold Bytes.between
  simp only [List.foldl_cons, Array.toList_push]
  rw [hz]
  exact ⟨_, rfl⟩
theorem between_len (b : Array UInt8) (w : Nat) (ps : List Nat) : (Bytes.between b w ps).length = ps.length + 1 := by
  have key : ∀ (ps : List Nat) (parts : Array (Array UInt8)) (last : Nat), (ps.foldl (fun (parts, last) p => (parts.push (b.extract last p), p + w)) (parts, last)).1.size = parts.size + ps.length := by
    intro ps
    induction ps with
    | nil => intro parts last; rfl
    | cons p ps ih =>
      intro parts last
      have := ih (parts.push (b.extract last p)) (p + w)
      simp only [List.foldl_cons, Array.size_push, List.length_cons] at this ⊢
      omega
  have k := key ps #[] 0
  unfold Bytes.between
  simp only [Array.toList_push, List.length_append, List.length_cons, List.length_nil, Array.length_toList]
  simp only [List.size_toArray, List.length_nil] at k
  omega
theorem occ_eq (b : Array UInt8) (c : UInt8) : Bytes.occurrences b #[c] 0 b.size = (List.range b.size).filter fun i => b.extract i (i + 1) == #[c] := by
  have key : ∀ n : Nat, ∃ m, m ≤ n ∧ ((List.range n).foldl (fun (acc : List Nat × Nat) (i : Nat) => if i ≥ acc.2 && b.extract i (i + 1) == #[c] then (i :: acc.1, i + 1) else acc) ([], 0)) = (((List.range n).filter fun i => b.extract i (i + 1) == #[c]).reverse, m) := by
    intro n
    induction n with
    | zero => exact ⟨0, Nat.le_refl _, rfl⟩
    | succ n ih =>
      obtain ⟨m, hm, e⟩ := ih
      rw [List.range_succ, List.foldl_append, e, List.filter_append, List.foldl_cons, List.foldl_nil]
      have hd : decide (n ≥ m) = true := by simpa using hm
      by_cases hc : (b.extract n (n + 1) == #[c]) = true
      · refine ⟨n + 1, Nat.le_refl _, ?_⟩
        simp only [hd, hc, Bool.and_self, if_true, List.filter_cons, List.filter_nil, List.reverse_append, List.reverse_cons, List.reverse_nil, List.nil_append, List.singleton_append]
      · refine ⟨m, by omega, ?_⟩
        have hc' : (b.extract n (n + 1) == #[c]) = false := by simpa using hc
        simp only [hd, hc', Bool.and_false, Bool.false_eq_true, if_false, List.filter_cons, List.filter_nil, List.append_nil]
  unfold Bytes.occurrences
  have e1 : (#[c] : Array UInt8).size = 1 := rfl
  have e2 : b.size + 1 - (0 + 1) = b.size := by omega
  have e3 : (List.range b.size).map (· + 0) = List.range b.size := by simp
  rw [e1, e2, e3]
  obtain ⟨m, _, e⟩ := key b.size
  show ((List.range b.size).foldl _ ([], 0)).1.reverse = _
  rw [e]
  simp
theorem ext_eq (l : List UInt8) (c : UInt8) (i : Nat) : (l.toArray.extract i (i + 1) == #[c]) = decide (l[i]? = some c) := by
  rw [Bool.eq_iff_iff]
  simp only [beq_iff_eq, decide_eq_true_eq]
  constructor
  · intro h
    have h' := congrArg Array.toList h
    simp only [List.extract_toArray, List.extract_eq_take_drop] at h'
    have e : i + 1 - i = 1 := by omega
    rw [e] at h'
    cases hd : l.drop i with
    | nil => rw [hd] at h'; simp at h'
    | cons x r =>
      rw [hd] at h'
      simp at h'
      have : l[i]? = (l.drop i)[0]? := by simp
      rw [this, hd, h']; rfl
  · intro h
    apply Array.toList_inj.mp
    simp only [List.extract_toArray, List.extract_eq_take_drop]
    have e : i + 1 - i = 1 := by omega
    rw [e]
    cases hd : l.drop i with
    | nil =>
      have : l[i]? = (l.drop i)[0]? := by simp
      rw [this, hd] at h; simp at h
    | cons x r =>
      have : l[i]? = (l.drop i)[0]? := by simp
      rw [this, hd] at h
      simp at h
      subst h; rfl
theorem occ_filter (l : List UInt8) (c : UInt8) : Bytes.occurrences l.toArray #[c] 0 l.toArray.size = (List.range l.length).filter fun i => decide (l[i]? = some c) := by
  rw [occ_eq]
  simp only [ext_eq, List.size_toArray]
theorem ahead_none : ∀ {l : List UInt8} {c : UInt8}, (∀ i, i < l.length → l[i]? ≠ some c) → ahead c l = l
  | [], _, _ => rfl
  | x :: l, c, h => by
    have h0 := h 0 (by simp)
    have hx : (x != c) = true := by simpa using fun e => h0 (by simp [e])
    unfold ahead
    rw [List.takeWhile_cons, hx]
    simp only [if_true]
    have ih := ahead_none (l := l) (c := c) fun i hi => by simpa using h (i + 1) (by simpa using hi)
    unfold ahead at ih
    rw [ih]
theorem ahead_some {l : List UInt8} {c : UInt8} {p : Nat} (hp : l[p]? = some c) (h : ∀ i, i < p → l[i]? ≠ some c) : ahead c l = l.take p := by
  unfold ahead
  induction l generalizing p with
  | nil => simp at hp
  | cons x l ih =>
    cases p with
    | zero => simp at hp; simp [hp]
    | succ p =>
      have h0 := h 0 (by omega)
      have hx : (x != c) = true := by simpa using fun e => h0 (by simp [e])
      rw [List.takeWhile_cons, hx, List.take_succ_cons]
      simp only [if_true]
      rw [ih (by simpa using hp) fun i hi => by simpa using h (i + 1) (by omega)]
theorem split_head (l : List UInt8) (c : UInt8) :
    (Bytes.occurrences l.toArray #[c] 0 l.toArray.size = [] ∧ ahead c l = l) ∨
    (∃ p ps, Bytes.occurrences l.toArray #[c] 0 l.toArray.size = p :: ps ∧ l.toArray.extract 0 p = (ahead c l).toArray) := by
  rw [occ_filter]
  cases h : (List.range l.length).filter fun i => decide (l[i]? = some c) with
  | nil =>
    refine .inl ⟨rfl, ahead_none fun i hi e => ?_⟩
    have : i ∈ (List.range l.length).filter fun i => decide (l[i]? = some c) := List.mem_filter.mpr ⟨List.mem_range.mpr hi, decide_eq_true e⟩
    rw [h] at this
    cases this
  | cons p ps =>
    refine .inr ⟨p, ps, rfl, ?_⟩
    have hm : p ∈ (List.range l.length).filter fun i => decide (l[i]? = some c) := by rw [h]; exact .head _
    have hp : l[p]? = some c := by simpa using (List.mem_filter.mp hm).2
    have hs : ((List.range l.length).filter fun i => decide (l[i]? = some c)).Pairwise (· < ·) := List.Pairwise.filter _ List.pairwise_lt_range
    rw [h] at hs
    rw [ahead_some hp fun i hi e => ?_]
    · simp [List.extract_toArray, List.extract_eq_take_drop]
    · have hl : i < l.length := by
        rcases Nat.lt_or_ge i l.length with h1 | h1
        · exact h1
        · rw [List.getElem?_eq_none h1] at e; cases e
      have hi' : i ∈ (List.range l.length).filter fun i => decide (l[i]? = some c) := List.mem_filter.mpr ⟨List.mem_range.mpr hl, decide_eq_true e⟩
      rw [h] at hi'
      rcases List.mem_cons.mp hi' with rfl | hi'
      · exact absurd hi (Nat.lt_irrefl _)
      · have := (List.pairwise_cons.mp hs).1 i hi'
        omega

section
variable {l : List UInt8} {t u : Tok}
theorem payload_eq {b : Array UInt8} : Bytes.payload (.bytes b t) = pure b := rfl
theorem same_eq {b : Array UInt8} : Bytes.Kind.same .bytes (.bytes b t) = pure (.bytes b t) := rfl
theorem opt2_eq (v : Value) : Bytes.bindOptional "bytes.split" "split" ["sep", "maxsplit"] [v] [] = pure [some v, none] := by kernel_rfl
theorem opt0_eq : Bytes.bindOptional "bytes.split" "split" ["sep", "maxsplit"] [] [] = pure [none, none] := by kernel_rfl
/-- split at one sign: the first piece -/
theorem meets_split (c : UInt8) : Meets («bytes.split» ⟨[.bytes l.toArray t, .bytes #[c] u], []⟩)
    (fun _ R s => l.length ≤ 16777000 ∧ ∀ vs ws k, ByL vs (ahead c l :: ws) → R (.ok (.ret (.ref s.heap.objs.size))) { s with heap := s.heap.push { cls := .type "list", data := .seq vs.toArray }, toks := k }) := by
  refine .of_wp fun prog w A R s hS => ?_
  obtain ⟨hz, h⟩ := hS
  show wpAny _ _ (Bytes.bindOptional "bytes.split" "split" ["sep", "maxsplit"] [.bytes #[c] u] [] >>= fun r => _) _ _ s
  rw [opt2_eq]
  refine wpAny_bind (wpAny_pure ?_)
  dsimp only
  refine wpAny_bind (wpAny_pure (wpAny_bind ?_))
  rw [payload_eq]
  refine wpAny_pure ?_
  refine wpAny_bind (wpAny_of_eq KBd.like_eq ?_)
  rw [if_neg (show ¬ ((#[c] : Array UInt8).isEmpty = true) from Bool.false_ne_true)]
  have e1 : (if (-1 : Int) < 0 then l.toArray.size + 1 else (-1 : Int).toNat) = l.length + 1 := by simp
  simp only [e1, Bool.false_eq_true, if_false]
  rcases split_head l c with ⟨h1, h2⟩ | ⟨p, ps, h1, h2⟩
  · rw [h1, List.take_nil]
    simp only [List.isEmpty_nil, if_true]
    refine wpAny_bind (wpAny_rule ?_)
    rw [same_eq]
    refine wpAny_bind (wpAny_pure (wpAny_bind ?_))
    unfold newList
    refine wpAny_newObj_type ?_ (by show 1 ≤ sizeLine; decide)
    refine wpAny_pure ⟨_, rfl, ?_⟩
    have h' := h [.bytes l.toArray t] [] s.toks (by rw [h2]; exact .cons .nil)
    exact h'
  · rw [h1, List.take_succ_cons]
    simp only [List.isEmpty_cons, Bool.false_eq_true, if_false]
    have hs : ∀ x ∈ Bytes.between l.toArray (#[c] : Array UInt8).size (p :: ps.take l.length), x.size ≤ sizeLine := fun x hx => by
      have := between_all _ _ _ x hx
      rw [sizeLine_eq]
      simp only [List.size_toArray] at this
      omega
    obtain ⟨ws, hw⟩ := between_head l.toArray (#[c] : Array UInt8).size p (ps.take l.length)
    refine wpAny_bind (mapM_new _ hs fun vs k hv => wpAny_bind ?_)
    rw [hw, List.map_cons, h2] at hv
    unfold newList
    refine wpAny_newObj_type ?_ ?_
    · exact wpAny_pure ⟨_, rfl, h vs _ k hv⟩
    · show vs.toArray.size ≤ sizeLine
      have e1 := hv.length
      have e2 := congrArg List.length hw
      have e3 := between_len l.toArray (#[c] : Array UInt8).size (p :: ps.take l.length)
      have e4 : (p :: ps).length ≤ l.length := by
        rw [← h1, occ_filter]
        exact Nat.le_trans (List.length_filter_le _ _) (by simp)
      rw [e3] at e2
      simp only [List.length_cons, List.length_map, List.length_take] at e1 e2 e4
      rw [sizeLine_eq, List.size_toArray]
      omega
end
section
variable {prog : Program} {w : World} {A : Around} {E : Value → Shared → Prop} {s : Shared} {h₀ : Heap} {L : Addr} {m : PySem.Str → Option Value} {news : List (Addr × Obj)} {l : List UInt8} {t u : Tok} {Q : Value → Shared → Prop}
theorem method_split {M : Model} {b : Array UInt8} {pl : Sem Bool} {Q : Value × List Value → Shared → Prop} (h : Q (.builtin "bytes.split", [.bytes b t]) s) : wpAny M A (getMethod (.bytes b t) "split" pl) Q E s :=
  KBd.method_of (.bytes b t) (typeIs_bytes _ _ _) Fa.slot_split Fa.type_split KBd.noRef h
theorem split_K {c : UInt8} (F : Fr h₀ L s.heap m) (N : News h₀ L s.heap news) (hz : l.length ≤ 16777000)
    (h : ∀ D vs ws h' k, ByL vs (ahead c l :: ws) → (ahead c l).length ≤ l.length → Fr h₀ L h' m → News h₀ L h' ((D, listOf vs.toArray 0) :: news) → (∀ p ∈ news, p.1 < D) → Q (.ref D) { s with heap := h', toks := k }) :
    wpAny (model prog w) A (call (.builtin "bytes.split") [.bytes l.toArray t, .bytes #[c] u]) Q E s :=
  call_meets Fa.slot_split (typeIs_bytes _ _ _) Fa.entry_split (Fa.args_split_2 _ _) (meets_split c)
    ⟨hz, fun vs ws k hv => h _ vs ws _ k hv (List.takeWhile_prefix _).length_le (F.push _) (N.push F _) fun p hp => Heap.lt_size (N p hp).1⟩
/-- the first of them -/
theorem first_K {value slice : PySem.Expr} {D : Addr} {n : Nat} {vs : List Value} {b : List UInt8} {ws : List (List UInt8)} {i : Int} {v : Tok} (N : News h₀ L s.heap news) (hm : (D, listOf vs.toArray n) ∈ news) (hv : ByL vs ws) (h0 : 0 ≤ i) (h1 : i < 2 ^ 63) (hb : ws[i.toNat]? = some b)
    (h : ∀ t', Q (.bytes b.toArray t') s)
    (hs : subscripted slice false (.ref D) (.int i v) = operate [.ref D, .int i v] (getItem (.ref D) (.int i v)) := by with_unfolding_all rfl) :
    wpAny (model prog w) A (subscriptTail value slice (.ref D) (.int i v)) Q E s := by
  have hl : s.heap.IsList D vs.toArray := ⟨_, (N _ hm).1, rfl, n, rfl⟩
  obtain ⟨t', e⟩ := hv.get hb
  exact tail_any hl.typeIs slot_list_getitem.lookup (wpAny_getItem_list hl h0 h1 (x := .bytes _ t') (by simpa using e) (h t')) hs
end

/-! split at blanks -/
def wsplit (l : List UInt8) : List (List UInt8) := Bytes.words (l.length + 1) (l.length + 1) l
theorem drop_same : ∀ {l : List UInt8}, l.any Bytes.isSpace = false → l.dropWhile Bytes.isSpace = l
  | [], _ => rfl
  | x :: l, h => by
    rw [List.any_cons, Bool.or_eq_false_iff] at h
    rw [List.dropWhile_cons, h.1]
    rfl
theorem take_same : ∀ {l : List UInt8}, l.any Bytes.isSpace = false → l.takeWhile (!Bytes.isSpace ·) = l ∧ l.dropWhile (!Bytes.isSpace ·) = []
  | [], _ => ⟨rfl, rfl⟩
  | x :: l, h => by
    rw [List.any_cons, Bool.or_eq_false_iff] at h
    obtain ⟨a, b⟩ := take_same h.2
    rw [List.takeWhile_cons, List.dropWhile_cons, h.1]
    exact ⟨by simp only [Bool.not_false, if_true]; rw [a], by simp only [Bool.not_false, if_true]; exact b⟩
theorem words_nil (n k : Nat) : Bytes.words n k [] = [] := by cases n <;> rfl
theorem wsplit_plain {l : List UInt8} (hne : l ≠ []) (h : l.any Bytes.isSpace = false) : wsplit l = [l] := by
  unfold wsplit Bytes.words
  rw [drop_same h]
  cases l with
  | nil => exact absurd rfl hne
  | cons x l =>
    have e : ((x :: l).length + 1 == 0) = false := rfl
    simp only [e, Bool.false_eq_true, if_false]
    obtain ⟨a, b⟩ := take_same h
    rw [a, b, words_nil]
theorem words_sum : ∀ (n k : Nat) (l : List UInt8), (Bytes.words n k l).length ≤ l.length ∧ ∀ x ∈ Bytes.words n k l, x.length ≤ l.length
  | 0, _, _ => ⟨Nat.zero_le _, fun _ h => by cases h⟩
  | n + 1, k, l => by
    unfold Bytes.words
    have hd : (l.dropWhile Bytes.isSpace).length ≤ l.length := (List.dropWhile_suffix _).length_le
    cases hr : l.dropWhile Bytes.isSpace with
    | nil => exact ⟨Nat.zero_le _, fun _ h => by cases h⟩
    | cons x r =>
      rw [hr] at hd
      simp only []
      have hx : Bytes.isSpace x = false := by
        have := List.head_dropWhile_not Bytes.isSpace (l := l) (by rw [hr]; exact List.cons_ne_nil _ _)
        simpa [hr] using this
      split
      · refine ⟨?_, fun y hy => ?_⟩
        · simp only [List.length_cons, List.length_nil] at hd ⊢; omega
        · rw [List.mem_singleton.mp hy]; exact hd
      · have e : (x :: r).dropWhile (!Bytes.isSpace ·) = r.dropWhile (!Bytes.isSpace ·) := by
          rw [List.dropWhile_cons, hx]; rfl
        have h2 : (r.dropWhile (!Bytes.isSpace ·)).length ≤ r.length := (List.dropWhile_suffix _).length_le
        obtain ⟨a, b⟩ := words_sum n (k - 1) (r.dropWhile (!Bytes.isSpace ·))
        rw [e]
        refine ⟨?_, fun y hy => ?_⟩
        · simp only [List.length_cons] at hd ⊢; omega
        · rcases List.mem_cons.mp hy with rfl | hy
          · exact Nat.le_trans ((List.takeWhile_prefix _).length_le) hd
          · have := b y hy; simp only [List.length_cons] at hd; omega
section
variable {l : List UInt8} {t : Tok}
theorem meets_ws : Meets («bytes.split» ⟨[.bytes l.toArray t], []⟩)
    (fun _ R s => l.length ≤ 16777000 ∧ ∀ vs k, ByL vs (wsplit l) → R (.ok (.ret (.ref s.heap.objs.size))) { s with heap := s.heap.push { cls := .type "list", data := .seq vs.toArray }, toks := k }) := by
  refine .of_wp fun prog w A R s hS => ?_
  obtain ⟨hz, h⟩ := hS
  show wpAny _ _ (Bytes.bindOptional "bytes.split" "split" ["sep", "maxsplit"] [] [] >>= fun r => _) _ _ s
  rw [opt0_eq]
  refine wpAny_bind (wpAny_pure ?_)
  dsimp only
  refine wpAny_bind (wpAny_pure (wpAny_bind ?_))
  rw [payload_eq]
  refine wpAny_pure ?_
  refine wpAny_bind (wpAny_rule ?_)
  have e1 : (if (-1 : Int) < 0 then l.toArray.size + 1 else (-1 : Int).toNat) = l.length + 1 := by simp
  simp only [e1, Bool.false_eq_true, if_false]
  by_cases hc : (decide (l.length + 1 > 0) && !l.toArray.isEmpty && !l.toArray.any Bytes.isSpace) = true
  · rw [if_pos hc]
    simp only [Bool.and_eq_true, Bool.not_eq_true', List.any_toArray] at hc
    rw [same_eq]
    refine wpAny_bind (wpAny_pure (wpAny_bind ?_))
    unfold newList
    refine wpAny_newObj_type ?_ (by show 1 ≤ sizeLine; decide)
    refine wpAny_pure ⟨_, rfl, ?_⟩
    have h' := h [.bytes l.toArray t] s.toks (by
      rw [wsplit_plain (by rintro rfl; simp at hc) hc.2]; exact .cons .nil)
    exact h'
  · rw [if_neg hc]
    have hw := words_sum (l.length + 1) (l.length + 1) l
    have em : (Bytes.words (l.toArray.size + 1) (l.length + 1) l.toArray.toList).mapM (fun w => Bytes.Kind.bytes.new w.toArray) = ((wsplit l).map List.toArray).mapM Bytes.Kind.bytes.new := by
      rw [List.mapM_map]; rfl
    rw [em]
    refine wpAny_bind (mapM_new _ (fun x hx => ?_) fun vs k hv => wpAny_bind ?_)
    · obtain ⟨y, hy, rfl⟩ := List.mem_map.mp hx
      have := hw.2 y hy
      rw [sizeLine_eq, List.size_toArray]; omega
    · have hv' : ByL vs (wsplit l) := by
        rw [List.map_map] at hv
        have e : ((fun (x : Array UInt8) => x.toList) ∘ List.toArray) = (id : List UInt8 → List UInt8) := by funext x; simp
        rw [e, List.map_id] at hv
        exact hv
      unfold newList
      refine wpAny_newObj_type (wpAny_pure ⟨_, rfl, h vs k hv'⟩) ?_
      show vs.toArray.size ≤ sizeLine
      have := hw.1
      rw [sizeLine_eq, List.size_toArray, hv'.length]
      unfold wsplit
      omega
end
section
variable {prog : Program} {w : World} {A : Around} {E : Value → Shared → Prop} {s : Shared} {h₀ : Heap} {L : Addr} {m : PySem.Str → Option Value} {news : List (Addr × Obj)} {l : List UInt8} {t u : Tok} {Q : Value → Shared → Prop}
theorem ws_K (F : Fr h₀ L s.heap m) (N : News h₀ L s.heap news) (hz : l.length ≤ 16777000)
    (h : ∀ D vs h' k, ByL vs (wsplit l) → Fr h₀ L h' m → News h₀ L h' ((D, listOf vs.toArray 0) :: news) → (∀ p ∈ news, p.1 < D) → Q (.ref D) { s with heap := h', toks := k }) :
    wpAny (model prog w) A (call (.builtin "bytes.split") [.bytes l.toArray t]) Q E s :=
  call_meets Fa.slot_split (typeIs_bytes _ _ _) Fa.entry_split (Fa.args_split_1 _) meets_ws
    ⟨hz, fun vs k hv => h _ vs _ k hv (F.push _) (N.push F _) fun p hp => Heap.lt_size (N p hp).1⟩
end
end Mine
end

section
namespace Mine
open PySem PySem.W PyProof.Rows PySem.Calls PySem.Builtin
set_option maxRecDepth 100000
theorem bytes_no_index : typeLookup (.type "bytes") "__index__" = pure none := by rw [typeLookup_type, builtinLookup_eq_fast]; kernel_rfl
theorem typeName_bytes : typeName (.type "bytes") = pure "bytes" := by unfold typeName; rw [find?_eq_fast]; kernel_rfl
section
variable {prog : Program} {w : World} {A : Around} {E : Value → Shared → Prop} {s : Shared}
theorem cut_bytes {n : Nat} {b : Array UInt8} {t : Tok} {Q : String → Shared → Prop} (h : Q "bytes" s) : wpAny (model prog w) A (typeNameOfCut n (.bytes b t)) Q E s := by
  unfold typeNameOfCut shownTypeOf
  refine wpAny_bind (wpAny_bind (wpAny_typeOf (typeIs_bytes _ b t) ?_))
  simp only [show (Value.type "bytes" == Value.type "builtin_function_or_method") = false by decide, Bool.false_eq_true, if_false]
  refine wpAny_pure ?_
  rw [show typeNameCut n (.type "bytes") = typeName (.type "bytes") from rfl, typeName_bytes]; exact wpAny_pure h
theorem asIndex_bytes {b : Array UInt8} {t : Tok} {Q : Int → Shared → Prop} (hh : A.handled = none) (h : ∀ h' tk e, Heap.NewExc s.heap h' e "TypeError" → E (.ref e) { s with heap := h', toks := tk }) :
    wpAny (model prog w) A (asIndex (.bytes b t)) Q E s := by
  unfold asIndex
  refine wpAny_bind (wpAny_of_eq (a := none) rfl ?_)
  show wpAny _ _ (callSpecial? (.bytes b t) "__index__" >>= _) _ _ s
  refine wpAny_bind (wpAny_callSpecial?_none (T := "bytes") (typeIs_bytes _ _ _) bytes_no_index ?_)
  refine wpAny_bind (cut_bytes ?_)
  exact wpAny_raiseTypeError hh h
/-- the run stands somewhere -/
def has (l sub : List UInt8) : Bool := (Bytes.find? l.toArray sub.toArray 0 l.toArray.size).isSome
theorem contains_bytes {l sub : List UInt8} {t u : Tok} {Q : Bool → Shared → Prop} (hh : A.handled = none)
    (h : ∀ h' tk, (∀ b o, s.heap.get? b = some o → h'.get? b = some o) → Q (has l sub) { s with heap := h', toks := tk }) :
    wpAny (model prog w) A (Bytes.containsIn "bytes.__contains__" (.bytes l.toArray t) (.bytes sub.toArray u)) Q E s := by
  unfold Bytes.containsIn
  refine wpAny_bind (wpAny_attempt (asIndex_bytes hh fun h' tk e hN => ?_))
  refine wpAny_bind (wpAny_of_eq KBy.buffer_eq ?_)
  dsimp only
  refine wpAny_bind (wpAny_of_eq KBy.buffer_eq ?_)
  exact wpAny_bind (wpAny_rule (wpAny_pure (h h' tk hN.keeps)))
end

theorem has_one (l : List UInt8) (c : UInt8) : has l [c] = decide (c ∈ l) := by
  rw [Bool.eq_iff_iff, decide_eq_true_eq]
  unfold has Bytes.find?
  have e1 : ([c].toArray : Array UInt8).size = 1 := rfl
  have e2 : l.toArray.size + 1 - (0 + 1) = l.length := by simp
  have e3 : (List.range l.length).map (· + 0) = List.range l.length := by simp
  rw [e1, e2, e3, List.find?_isSome]
  constructor
  · rintro ⟨i, hi, h⟩
    have h' : (l.toArray.extract i (i + 1) == #[c]) = true := h
    rw [ext_eq, decide_eq_true_eq] at h'
    exact List.mem_of_getElem? h'
  · intro h
    obtain ⟨i, hi, e⟩ := List.getElem_of_mem h
    refine ⟨i, List.mem_range.mpr hi, ?_⟩
    show (l.toArray.extract i (i + 1) == #[c]) = true
    rw [ext_eq, decide_eq_true_eq, List.getElem?_eq_getElem hi, e]
section
variable {prog : Program} {w : World} {A : Around} {E : Value → Shared → Prop} {s : Shared} {h₀ : Heap} {L : Addr} {m : PySem.Str → Option Value} {news news' : List (Addr × Obj)} {l : List UInt8} {t u : Tok} {Q : Value → Shared → Prop}
theorem meets_contains {sub : List UInt8} : Meets («bytes.__contains__» ⟨[.bytes l.toArray t, .bytes sub.toArray u], []⟩)
    (fun A R s => A.handled = none ∧ ∀ h' tk, (∀ b o, s.heap.get? b = some o → h'.get? b = some o) → R (.ok (.ret (.bool (has l sub)))) { s with heap := h', toks := tk }) := by
  refine .of_wp fun prog w A R s hS => ?_
  obtain ⟨hh, h⟩ := hS
  show wpAny _ _ (Bytes.containsIn "bytes.__contains__" (.bytes l.toArray t) (.bytes sub.toArray u) >>= fun r => ret (.bool r)) _ _ s
  exact wpAny_bind (contains_bytes hh fun h' tk hk => wpAny_pure ⟨_, rfl, h h' tk hk⟩)
/-- c in l -/
theorem in_K {c : UInt8} (F : Fr h₀ L s.heap m) (N : News h₀ L s.heap news) (hh : A.handled = none)
    (h : ∀ h' k, Fr h₀ L h' m → News h₀ L h' news → Q (.bool (decide (c ∈ l))) { s with heap := h', toks := k }) :
    wpAny (model prog w) A (compareOp .In (.bytes #[c] t) (.bytes l.toArray u)) Q E s := by
  refine SeqRoads2.in_meets (typeIs_bytes _ _ _) FB.slot_bytes_contains FB.entry_bytes_contains (FB.args_bytes_contains_2 _ _) (meets_contains (sub := [c])) ⟨hh, fun h' k hk => ⟨_, rfl, ?_⟩⟩
  rw [has_one]
  exact h h' k (F.keptAll hk) (N.grown hk)
/-- one of three -/
def sep (b : List UInt8) : Bool := b == [32] || b == [9] || b == [10]
def eqB (b : List UInt8) : Value → Bool
  | .bytes c _ => c.toList == b
  | _ => false
theorem eqAt_b {A : Around} {s : Shared} {t u : Tok} (c : Array UInt8) (b : List UInt8) : SeqAt.EqAt A s (.bytes c t) (.bytes b.toArray u) (eqB b (.bytes c t)) := by
  intro prog w E Q hq
  refine eqBool_bytes ?_
  have e : eqB b (.bytes c t) = decide (c.toList = b.toArray.toList) := by
    show (c.toList == b) = _
    rw [Bool.eq_iff_iff]; simp
  rw [← e]
  exact hq
theorem in3_K {D : Addr} {n : Nat} {t1 t2 t3 : Tok} {x : PySem.Obj} (N : News h₀ L s.heap news) (hm : (D, x) ∈ news) (hx : x = listOf #[.bytes #[32] t1, .bytes #[9] t2, .bytes #[10] t3] n) (h : Q (.bool (sep l)) s) :
    wpAny (model prog w) A (compareOp .In (.bytes l.toArray t) (.ref D)) Q E s := by
  subst hx
  refine SeqAt.in_listAt (eqB l) (items := #[.bytes #[32] t1, .bytes #[9] t2, .bytes #[10] t3]) ⟨_, (N _ hm).1, rfl, n, rfl⟩ ?_ ?_
  · intro y hy
    have hy' : y ∈ [Value.bytes #[32] t1, .bytes #[9] t2, .bytes #[10] t3] := Array.mem_def.mp hy
    rcases List.mem_cons.mp hy' with rfl | hy'
    · exact eqAt_b _ _
    · rcases List.mem_cons.mp hy' with rfl | hy'
      · exact eqAt_b _ _
      · rw [List.mem_singleton.mp hy']
        exact eqAt_b _ _
  · have e : (#[Value.bytes #[32] t1, .bytes #[9] t2, .bytes #[10] t3] : Array Value).any (eqB l) = sep l := by
      rw [← Array.any_toList]
      show (eqB l (.bytes #[32] t1) || (eqB l (.bytes #[9] t2) || (eqB l (.bytes #[10] t3) || false))) = sep l
      have c1 : ∀ (b : List UInt8) (t : Tok), eqB l (.bytes b.toArray t) = (l == b) := fun b t => by
        show (b == l) = (l == b)
        rw [Bool.eq_iff_iff, beq_iff_eq, beq_iff_eq]; exact eq_comm
      have a1 := c1 [32] t1
      have a2 := c1 [9] t2
      have a3 := c1 [10] t3
      rw [a1, a2, a3, Bool.or_false]
      unfold sep
      rw [Bool.or_assoc]
    rw [e]; exact h
/-- two tuples -/
theorem tupEq_K {a b : Addr} {na nb : Nat} {xs ys : List Value} {us vs : List (List UInt8)} (N : News h₀ L s.heap news)
    (ha : (a, ({ cls := .type "tuple", data := .seq xs.toArray na } : Obj)) ∈ news) (hb : (b, ({ cls := .type "tuple", data := .seq ys.toArray nb } : Obj)) ∈ news) (hu : ByL xs us) (hv : ByL ys vs) (hroom : A.units < cLine)
    (h : Q (.bool (decide (us = vs))) s) : wpAny (model prog w) A (compareOp .Eq (.ref a) (.ref b)) Q E s := by
  have l1 := hu.length
  have l2 := hv.length
  refine SeqAt.eq_tupleAt (e := fun j => decide (us[j]? = vs[j]?)) ⟨_, (N _ ha).1, rfl, na, rfl⟩ ⟨_, (N _ hb).1, rfl, nb, rfl⟩ hroom ?_ ?_
  · intro j h1 h2 prog w E Q hq
    simp only [List.size_toArray] at h1 h2
    have g1 : us[j]? = some us[j] := List.getElem?_eq_getElem (by omega)
    have g2 : vs[j]? = some vs[j] := List.getElem?_eq_getElem (by omega)
    obtain ⟨t1, e1⟩ := hu.get g1
    obtain ⟨t2, e2⟩ := hv.get g2
    have f1 : xs.toArray[j] = .bytes us[j].toArray t1 := by
      have : xs[j]? = some xs[j] := List.getElem?_eq_getElem h1
      rw [this] at e1; simpa using e1
    have f2 : ys.toArray[j] = .bytes vs[j].toArray t2 := by
      have : ys[j]? = some ys[j] := List.getElem?_eq_getElem h2
      rw [this] at e2; simpa using e2
    rw [f1, f2]
    have e : eqB vs[j] (.bytes us[j].toArray t1) = decide (us[j]? = vs[j]?) := by
      rw [g1, g2]
      show (us[j].toArray.toList == vs[j]) = _
      rw [Bool.eq_iff_iff]; simp
    exact eqAt_b us[j].toArray vs[j] prog w E Q (by rw [e]; exact hq)
  · have e : ((List.range (min xs.toArray.size ys.toArray.size)).all (fun j => decide (us[j]? = vs[j]?)) && xs.toArray.size == ys.toArray.size) = decide (us = vs) := by
      rw [Bool.eq_iff_iff]
      simp only [List.size_toArray, Bool.and_eq_true, List.all_eq_true, List.mem_range, decide_eq_true_eq, beq_iff_eq]
      constructor
      · rintro ⟨h1, h2⟩
        apply List.ext_getElem?
        intro i
        by_cases hi : i < us.length
        · exact h1 i (by omega)
        · rw [List.getElem?_eq_none (by omega), List.getElem?_eq_none (by omega)]
      · rintro rfl
        exact ⟨fun _ _ => rfl, by omega⟩
    rw [e]; exact h
/-- a cut with both ends -/
theorem picked2 (l : List UInt8) (i j : Nat) : KBy.picked l.toArray (some (i : Int)) (some ((i : Int) + (j : Int))) = ((l.drop i).take j).toArray := by
  rw [KBc.picked_eq]
  have e : ((i : Int) + (j : Int)) = ((i + j : Nat) : Int) := by omega
  simp only [Option.elim, List.size_toArray]
  rw [e, clipAt_nat, clipAt_nat]
  congr 1
  rcases Nat.le_total i l.length with h | h
  · rw [Nat.min_eq_left h]
    apply List.ext_getElem?
    intro k
    simp only [List.getElem?_take, List.getElem?_drop]
    by_cases hk : k < min (i + j) l.length - i
    · rw [if_pos hk, if_pos (by omega)]
    · rw [if_neg hk]
      by_cases hj : k < j
      · rw [if_pos hj, List.getElem?_eq_none (by omega)]
      · rw [if_neg hj]
  · rw [Nat.min_eq_right h, List.drop_of_length_le h, List.drop_of_length_le (Nat.le_refl _)]
    simp
theorem picked1 (l : List UInt8) (i : Nat) : KBy.picked l.toArray (some (i : Int)) none = (l.drop i).toArray := by
  rw [KBc.picked_eq]
  simp only [Option.elim, List.size_toArray]
  rw [clipAt_nat]
  congr 1
  rcases Nat.le_total i l.length with h | h
  · rw [Nat.min_eq_left h, List.take_of_length_le (by simp)]
  · rw [Nat.min_eq_right h, List.drop_of_length_le h, List.drop_of_length_le (Nat.le_refl _)]
    simp
section
variable {value slice : PySem.Expr} {x y : Value} {i j : Nat} {ix iy : Int} {tx ty : Tok}
theorem cut2_K (F : Fr h₀ L s.heap m) (N : News h₀ L s.heap news) (hx : ix = (i : Int)) (hy : iy = (i : Int) + (j : Int)) (hz : l.length ≤ 16777000)
    (h : ∀ h' t' k, Fr h₀ L h' m → News h₀ L h' news → Q (.bytes ((l.drop i).take j).toArray t') { s with heap := h', toks := k })
    (hs : subscripted slice false (.bytes l.toArray t) (.ref s.heap.objs.size) = operate [.ref s.heap.objs.size, .bytes l.toArray t] (getItem (.bytes l.toArray t) (.ref s.heap.objs.size)) := by with_unfolding_all rfl)
    (ht : ∀ r, letTemporaryGo value (.bytes l.toArray t) r = pure () := by intro _; with_unfolding_all rfl) :
    wpAny (model prog w) A (subscriptTail value slice (.bytes l.toArray t) (.ref s.heap.objs.size)) Q E { s with heap := s.heap.push { cls := .type "slice", data := .fields #[.int ix tx, .int iy ty, .none] } } := by
  subst hx hy
  refine KBc.slice_K F N rfl (IsPart.int _ _) (IsPart.int _ _) (by rw [KBw.ints_length, List.size_toArray]; omega) (fun h' t' k F' N' _ => ?_) hs ht
  rw [picked2]
  exact h h' t' k F' N'
theorem cut1_K (F : Fr h₀ L s.heap m) (N : News h₀ L s.heap news) (hx : ix = (i : Int)) (hz : l.length ≤ 16777000)
    (h : ∀ h' t' k, Fr h₀ L h' m → News h₀ L h' news → Q (.bytes (l.drop i).toArray t') { s with heap := h', toks := k })
    (hs : subscripted slice false (.bytes l.toArray t) (.ref s.heap.objs.size) = operate [.ref s.heap.objs.size, .bytes l.toArray t] (getItem (.bytes l.toArray t) (.ref s.heap.objs.size)) := by with_unfolding_all rfl)
    (ht : ∀ r, letTemporaryGo value (.bytes l.toArray t) r = pure () := by intro _; with_unfolding_all rfl) :
    wpAny (model prog w) A (subscriptTail value slice (.bytes l.toArray t) (.ref s.heap.objs.size)) Q E { s with heap := s.heap.push { cls := .type "slice", data := .fields #[.int ix tx, .none, .none] } } := by
  subst hx
  refine KBc.slice_K F N rfl (IsPart.int _ _) IsPart.none (by rw [KBw.ints_length, List.size_toArray]; omega) (fun h' t' k F' N' _ => ?_) hs ht
  rw [picked1]
  exact h h' t' k F' N'
end
theorem len_K {D : Addr} {n : Nat} {vs : List Value} {ws : List (List UInt8)} (N : News h₀ L s.heap news) (hm : (D, listOf vs.toArray n) ∈ news) (hv : ByL vs ws) (hz : ws.length ≤ 16777000)
    (h : ∀ t' k, Q (.int (ws.length : Int) t') { s with toks := k }) : wpAny (model prog w) A (call (.builtin "len") [.ref D]) Q E s := by
  have hl : s.heap.IsList D vs.toArray := ⟨_, (N _ hm).1, rfl, n, rfl⟩
  have e : vs.toArray.size = ws.length := by rw [List.size_toArray, hv.length]
  exact len_list hl (by rw [e]; omega) (by rw [e]; exact h _ _)
theorem ByL.set {vs : List Value} {ws : List (List UInt8)} (h : ByL vs ws) (b : List UInt8) (t : Tok) : ∀ j : Nat, ByL (vs.set j (.bytes b.toArray t)) (ws.set j b) := by
  induction h with
  | nil => intro j; exact .nil
  | cons h ih =>
    intro j
    cases j with
    | zero => exact .cons h
    | succ j => exact .cons (ih j)
theorem set_K {D : Addr} {n : Nat} {vs : List Value} {k : Int} {b : List UInt8} {Q : Unit → Shared → Prop} (F : Fr h₀ L s.heap m) (N : News h₀ L s.heap news) (U : Upd D (listOf vs.toArray n) (listOf (vs.set k.toNat (.bytes b.toArray u)).toArray n) news news')
    (h0 : 0 ≤ k) (h1 : k < vs.length) (hfit : k < 2 ^ 63) (h : ∀ h', Fr h₀ L h' m → News h₀ L h' news' → Q () { s with heap := h' }) :
    wpAny (model prog w) A (setItem (.ref D) (.int k t) (.bytes b.toArray u)) Q E s := by
  obtain ⟨pre, post, rfl, rfl, a, b⟩ := U.split
  have z := N (D, listOf vs.toArray n) (List.mem_append.mpr (.inr (.head _)))
  refine ki_setAt z.1 h0 hfit (by rw [List.size_toArray]; exact h1) (h _ (F.change (Heap.SameBut.update ..) z.2.1 z.2.2) (ki_turn _ N a b ?_ ?_))
  · show vs.toArray.setIfInBounds k.toNat _ = (vs.set k.toNat _).toArray
    apply Array.toList_inj.mp
    simp
  · simp
end
end Mine
end

section
namespace Mine
open PySem PySem.W PyProof.Rows PySem.Calls PySem.Builtin
set_option maxRecDepth 100000
theorem paired_eq {α : Type} : ∀ {l₁ l₂ : List α}, Paired (fun v y => v = y) l₁ l₂ → l₁ = l₂
  | _, _, .nil => rfl
  | _, _, .cons h r => by rw [h, paired_eq r]
theorem ByL.filter {vs : List Value} {ws : List (List UInt8)} (h : ByL vs ws) : ByL (vs.filter fun v => !eqB [] v) (ws.filter fun b => b != []) := by
  induction h with
  | nil => exact .nil
  | @cons b t vs ws h ih =>
    have e : (!eqB [] (Value.bytes b.toArray t)) = (b != []) := by
      show (!(b.toArray.toList == [])) = _
      rfl
    rw [List.filter_cons, List.filter_cons, e]
    by_cases hb : (b != []) = true
    · rw [if_pos hb, if_pos hb]; exact .cons ih
    · rw [if_neg hb, if_neg hb]; exact ih
theorem ByL.mem {vs : List Value} {ws : List (List UInt8)} (h : ByL vs ws) : ∀ v ∈ vs, ∃ (b : List UInt8) (t : Tok), v = .bytes b.toArray t := by
  induction h with
  | nil => intro v hv; cases hv
  | @cons b t vs ws h ih =>
    intro v hv
    rcases List.mem_cons.mp hv with rfl | hv
    · exact ⟨b, t, rfl⟩
    · exact ih v hv
section
variable {prog : Program} {w : World} {A : Around} {E : Value → Shared → Prop} {s : Shared} {h₀ : Heap} {L : Addr} {m : PySem.Str → Option Value} {news : List (Addr × Obj)} {Q : Value → Shared → Prop} {env : Env}
theorem comp_K {D : Addr} {n : Nat} {vs : List Value} {ws : List (List UInt8)} {x : PySem.Str} {p1 p3 p4 p5 px pos : Pos} {iter : Expr} {scope : Scope} {k4 : Nat}
    (F : Fr h₀ L s.heap m) (N : News h₀ L s.heap news) (hm : (D, listOf vs.toArray n) ∈ news) (hv : ByL vs ws) (hz : ws.length ≤ 16777000)
    (hiter : ∀ Q : Value → Shared → Prop, Q (.ref D) s → wpAny (model prog w) A (eval iter env) Q E s)
    (hh : A.handled = none) (hfree : ∀ y ∈ scope.names, y.2 ≠ .free) (hcell : ∀ y ∈ scope.names, y.2 ≠ .cell) (hkind : scope.kind = .function)
    (hnames : ∀ y ∈ scope.names, y.2 = .local → scope.names.lookup y.1 = some .local) (hx : scope.names.lookup x = some .local) (hd : (x == ("__debug__" : PySem.Str)) = false)
    (h : ∀ D' o us h' tk, o.cls = .type "list" → (∃ n, o.data = .seq (List.toArray us) n) → ByL us (ws.filter fun b => b != []) → Fr h₀ L h' m → News h₀ L h' ((D', o) :: news) → (∀ p ∈ news, p.1 ≠ D') → Q (.ref D') { s with heap := h', toks := tk })
    (hs : ∀ x, foldedSetIterable iter env x = pure x) :
    wpAny (model prog w) A (eval (.ListComp (.Name x p1) [⟨.Name x px, iter, [.Compare (.Name x p3) [.NotEq] [.Constant (.bytes []) k4 p4] p5], 0⟩] scope pos) env) Q E s := by
  have ldx : ∀ (C : Addr) (v : Value) (s₂ : Shared) (m₂ : PySem.Str → Option Value) (p : Pos) (E' : Value → Shared → Prop) (Q' : Value → Shared → Prop), s₂.heap.Ns C m₂ → m₂ x = some v → Q' v s₂ → wpAny (model prog w) A (eval (.Name x p) (compEnv scope C env)) Q' E' s₂ := by
    intro C v s₂ m₂ p E' Q' hn hmx hq
    refine wpAny_Name (wpAny_loadName_local hkind ?_ hn hmx hq) hd
    exact hx
  refine wpAny_ListComp_map (fun v => !eqB [] v) (fun v y => v = y) hh hfree hcell hkind hnames hx (hiter _ ?_) hs
  have hl : s.heap.IsList D vs.toArray := ⟨_, (N _ hm).1, rfl, n, rfl⟩
  refine ⟨D, vs.toArray, rfl, hl, by rw [List.size_toArray, hv.length, sizeLine_eq]; omega, ?_, ?_, ?_⟩
  · intro C v s₂ m₂ E' hmem hn hmx hk
    obtain ⟨b, t, rfl⟩ := hv.mem v (by simpa using hmem)
    refine wpAny_tests_one (wpAny_isTrue_Compare1 (ldx _ _ _ _ _ _ _ hn hmx ?_))
    refine Constant_bytes (ne_bytes (wpAny_truthy_bool ⟨?_, _, _, rfl, fun _ _ e => e⟩))
    show (b.toArray.toList != []) = !(b.toArray.toList == [])
    rfl
  · intro C v s₂ m₂ E' hmem hp hn hmx hk
    exact ldx _ _ _ _ _ _ _ hn hmx ⟨rfl, _, _, rfl, fun _ _ e => e⟩
  · intro D' h' tk ys hD hL hP hk
    have e := paired_eq hP
    obtain ⟨o, ho, hc, n', hd'⟩ := hL
    have F' : Fr h₀ L h' m := F.keptAll hk
    have N' : News h₀ L h' news := N.grown hk
    refine h D' o (vs.filter fun v => !eqB [] v) h' tk hc ⟨n', ?_⟩ hv.filter F' ?_ fun p hp e => ?_
    · rw [hd']
      have : ys = (List.filter (fun v => !eqB [] v) vs).toArray := by
        apply Array.toList_inj.mp
        rw [← e]
      rw [this]
    · intro p hp
      rcases List.mem_cons.mp hp with rfl | hp
      · refine ⟨ho, ?_, ?_⟩
        · rintro rfl
          obtain ⟨oL, _, _, hoL, _⟩ := F.ns
          rw [hD] at hoL
          cases hoL
        · cases hq : h₀.get? D' with
          | none => rfl
          | some o' => have := F.keep _ _ hq; rw [hD] at this; cases this
      · exact N' p hp
    · have := (N p hp).1
      rw [e, hD] at this
      cases this
/-- a tuple out of it -/
theorem tup_K {D : Addr} {o : PySem.Obj} {vs : List Value} {ws : List (List UInt8)} (F : Fr h₀ L s.heap m) (N : News h₀ L s.heap news) (hm : (D, o) ∈ news) (hc : o.cls = .type "list") (hd : ∃ n, o.data = .seq vs.toArray n) (hv : ByL vs ws) (hz : ws.length ≤ 16777000)
    (h : ∀ D' h', Fr h₀ L h' m → News h₀ L h' ((D', ({ cls := .type "tuple", data := .seq vs.toArray } : PySem.Obj)) :: news) → (∀ p ∈ news, p.1 < D') → Q (.ref D') { s with heap := h' }) : wpAny (model prog w) A (call (.type "tuple") [.ref D]) Q E s := by
  obtain ⟨n, hd⟩ := hd
  refine call_tuple_list ⟨o, (N _ hm).1, hc, n, hd⟩ (fun h' hk => ?_) (by rw [List.size_toArray, hv.length, sizeLine_eq]; omega)
  have F' : Fr h₀ L h' m := F.keptAll hk
  have N' : News h₀ L h' news := N.grown hk
  exact h _ _ (F'.push _) (N'.push F' _) fun p hp => Heap.lt_size (N' p hp).1
end
end Mine
end

section
namespace Mine
open PySem PySem.W PyProof.Rows PySem.Calls PySem.Builtin PySem.Builtin.Re PySem.Sre
set_option maxRecDepth 100000

section
variable {M : Model} {A : Around} {E : Value → Shared → Prop} {s : Shared}
theorem drive : ∀ (k : Nat) (m : Sre.M) {Q : Sre.M → Shared → Prop}, (it (4 * (k + 1)) m).outcome.isSome = true → Q (it (4 * (k + 1)) m) s → wpAny M A (reDrive (k + 1) m) Q E s
  | 0, m, Q, ho, hq => by
    unfold reDrive
    have e : m.runFor reTurnSteps = it (4 * (0 + 1)) m := runFor_it _ _
    simp only [e]
    rw [if_pos ho]
    exact wpAny_pure hq
  | k + 1, m, Q, ho, hq => by
    unfold reDrive
    have e : m.runFor reTurnSteps = it 4 m := runFor_it _ _
    simp only [e]
    have e2 : 4 * (k + 1 + 1) = 4 + 4 * (k + 1) := by omega
    rw [e2, it_add] at ho hq
    by_cases h : (it 4 m).outcome.isSome = true
    · rw [if_pos h]
      rw [it_out h] at hq
      exact wpAny_pure hq
    · rw [if_neg h]
      exact wpAny_bind (wpAny_rule (drive k _ ho hq))
theorem toEnd {m m' : Sre.M} {Q : Option Sre.M → Shared → Prop} (hr : ∀ N, 1010000 ≤ N → m.runFor N = m') (ho : m'.outcome.isSome = true)
    (h : match m'.outcome with | some .matched => Q (some m') s | some .failed => Q none s | _ => False) : wpAny M A (reRunToEnd m) Q E s := by
  unfold reRunToEnd
  have e : (2 : Nat) ^ 64 = (2 ^ 64 - 1) + 1 := by decide
  have hN := hr (4 * ((2 ^ 64 - 1) + 1)) (by omega)
  rw [runFor_it] at hN
  rw [e]
  refine wpAny_bind (drive _ m (by rw [hN]; exact ho) ?_)
  rw [hN]
  refine wpAny_bind ?_
  refine wpAny_forIn_list _ (fun _ _ s' => s' = s) _ ?_ ?_ _ _ rfl
  · rintro x rest b s' rfl
    split
    · exact wpAny_bind (wpAny_rule (wpAny_pure rfl))
    · exact wpAny_pure rfl
  · rintro b s' rfl
    revert h
    cases hm : m'.outcome with
    | none => intro h; exact h.elim
    | some o =>
      cases o with
      | matched => intro h; exact wpAny_pure h
      | failed => intro h; exact wpAny_pure h
      | stuck w => intro h; exact h.elim
end
/-- the match object -/
def moObj (l : List UInt8) (t : Tok) (pa tp : Addr) (n : Nat) : PySem.Obj := { cls := .type "re.Match", data := .fields #[.bytes l.toArray t, .ref pa, rawInt 0, rawInt n, rawInt 1, .ref tp] }
def spObj (e b c : Nat) : PySem.Obj := { cls := .type "tuple", data := .seq #[rawInt 0, rawInt e, rawInt b, rawInt c] }
def toNats (l : List UInt8) : Array Nat := l.toArray.map (·.toNat)
def codeOf (cv : Array Value) : Array Nat := (cv.map reRawOf).map (·.toNat)
theorem named_eq (x : Value) : reNamed "re.Pattern.match" "match" ["string", "pos", "endpos"] 1 [x] [] = pure [some x, none, none] := by kernel_rfl
theorem asStr_bytes {b : Array UInt8} {t : Tok} : asStr? (.bytes b t) = pure none := rfl
section
variable {l : List UInt8} {t : Tok}
theorem meets_match {pa ca da : Addr} {x0 x1 x4 : Value} {t1 t2 : Tok} {cv : Array Value} {n1 : Nat} {o1 o2 : PySem.Obj} (hcv : codeOf cv = C) :
    Meets («re.Pattern.match» ⟨[.ref pa, .bytes l.toArray t], []⟩)
      (fun _ R s => l.length ≤ 500 ∧ s.heap.get? pa = some o1 ∧ o1.data = .fields #[x0, x1, .int 1 t1, .ref da, x4, .ref ca, .int 1 t2] ∧ s.heap.get? ca = some o2 ∧ o2.data = .seq cv n1 ∧
        (match srch (toNats l) (row (toNats l)) with
          | none => R (.ok (.ret .none)) s
          | some p => R (.ok (.ret (.ref (s.heap.objs.size + 1)))) { s with heap := (s.heap.push (spObj (clo (toNats l) (p + 7) + 1) (p + 7) (clo (toNats l) (p + 7)))).push (moObj l t pa s.heap.objs.size l.length) })) := by
  refine .of_wp fun prog w A R s hS => ?_
  obtain ⟨hz, h1, d1, h2, d2, h⟩ := hS
  show wpAny _ _ (reTarget "re.Pattern.match" "match" ⟨[.ref pa, .bytes l.toArray t], []⟩ >>= _) _ _ s
  refine wpAny_bind ?_
  unfold reTarget
  dsimp only
  rw [named_eq]
  refine wpAny_bind (wpAny_pure ?_)
  dsimp only
  refine wpAny_bind (wpAny_pure (wpAny_bind (wpAny_pure (wpAny_bind (wpAny_fieldsOf h1 d1 ?_)))))
  refine wpAny_bind ?_
  unfold reTextOf
  rw [asStr_bytes]
  refine wpAny_bind (wpAny_pure ?_)
  dsimp only
  refine wpAny_bind (wpAny_of_eq KBy.quiet_eq ?_)
  refine wpAny_pure ?_
  have g5 : (#[x0, x1, Value.int 1 t1, Value.ref da, x4, Value.ref ca, Value.int 1 t2] : Array Value).getD 5 .none = .ref ca := rfl
  have g6 : (#[x0, x1, Value.int 1 t1, Value.ref da, x4, Value.ref ca, Value.int 1 t2] : Array Value).getD 6 .none = .int 1 t2 := rfl
  have g2 : (#[x0, x1, Value.int 1 t1, Value.ref da, x4, Value.ref ca, Value.int 1 t2] : Array Value).getD 2 .none = .int 1 t1 := rfl
  rw [g5, g6, g2]
  refine wpAny_ite (KBy.ite_no (show ¬ ((reRawNat (.int 1 t2) == 0 && (1 : Nat) == 1) = true) from Bool.false_ne_true) ?_)
  refine wpAny_ite (KBy.ite_no (show ¬ ((reRawNat (.int 1 t2) == 1 && (1 : Nat) == 0) = true) from Bool.false_ne_true) ?_)
  refine wpAny_bind ?_
  unfold reNoCollectionInside
  refine wpAny_ite (KBc.ite_yes (show (((1 : Nat) == 1) = true) from rfl) ?_)
  refine wpAny_bind (wpAny_of_eq KBy.isInstance_eq ?_)
  refine wpAny_ite (KBy.ite_no (show ¬ ((!true) = true) from Bool.false_ne_true) ?_)
  refine wpAny_pure (wpAny_bind ?_)
  unfold reRawItems
  refine wpAny_bind (wpAny_seqItems h2 d2 ?_)
  refine wpAny_pure (wpAny_pure ?_)
  have eT : Array.map (fun (x : UInt8) => x.toNat) l.toArray = toNats l := rfl
  have eC : Array.map (fun (x : Int) => x.toNat) (Array.map reRawOf cv) = C := hcv
  have eS : (toNats l).size = l.length := by simp [toNats]
  have eP : Min.min (Int.toNat 0) (toNats l).size = 0 := by show min 0 _ = 0; omega
  have eL : Min.min ((2 : Int) ^ 63 - 1).toNat (toNats l).size = (toNats l).size := by
    have : ((2 : Int) ^ 63 - 1).toNat = 9223372036854775807 := by decide
    rw [this]; omega
  have eG : reRawNat (.int 1 t1) = 1 := rfl
  dsimp only [Option.getD_some]
  rw [eT, eC, eP, eL, eG]
  obtain ⟨mm, hR, hN⟩ := eng_run (T := toNats l) (by omega)
  unfold reAnswer
  refine wpAny_bind (toEnd hN hR.out ?_)
  cases hr : srch (toNats l) (row (toNats l)) with
  | none =>
    rw [hr] at hR h
    have ho : mm.outcome = some .failed := hR
    rw [ho]
    exact wpAny_pure ⟨_, rfl, h⟩
  | some p =>
    rw [hr] at hR h
    obtain ⟨ho, hm, hlm, hli, hst, hha⟩ := hR
    rw [ho]
    dsimp only at h ⊢
    refine wpAny_bind ?_
    unfold reNewMatch
    rw [hm, hlm, hli, hst, hha, eS]
    have hle : ¬ (clo (toNats l) (p + 7) < p + 7) := by unfold clo; omega
    dsimp only
    refine wpAny_ite (KBy.ite_no (show ¬ (((decide (((2 * 0 + 1 : Nat) : Int) ≤ 1) && decide (clo (toNats l) (p + 7) < p + 7)) || false) = true) by rw [decide_eq_false hle, Bool.and_false]; exact Bool.false_ne_true) ?_)
    refine wpAny_bind ?_
    unfold newTuple
    refine wpAny_newObj_type ?_ (by show 4 ≤ sizeLine; decide)
    unfold newFields
    refine wpAny_newObj_type ?_ (by size_fits)
    exact wpAny_pure ⟨_, rfl, by rw [Heap.size_push] at *; exact h⟩
end
section
variable {prog : Program} {w : World} {A : Around} {E : Value → Shared → Prop} {s : Shared} {h₀ : Heap} {L : Addr} {m : PySem.Str → Option Value} {news : List (Addr × PySem.Obj)} {Q : Value → Shared → Prop} {l : List UInt8} {t : Tok}
theorem method_match {M : Model} {pa : Addr} {pl : Sem Bool} {o : PySem.Obj} {Q : Value × List Value → Shared → Prop} (ho : s.heap.get? pa = some o) (hc : o.cls = .type "re.Pattern") (hd : o.dict = none) (h : Q (.builtin "re.Pattern.match", [.ref pa]) s) :
    wpAny M A (getMethod (.ref pa) "match" pl) Q E s :=
  getMethod_builtin (T := "re.Pattern") ⟨o, ho, hc⟩ Fa.plain_pat Fa.slot_match Fa.type_match (fun a e => by cases e; exact ⟨o, ho, hd⟩) h
theorem match_K {pa ca da : Addr} {x0 x1 x4 : Value} {t1 t2 : Tok} {cv : Array Value} {n1 : Nat} {o1 o2 : PySem.Obj} (F : Fr h₀ L s.heap m) (N : News h₀ L s.heap news)
    (h1 : s.heap.get? pa = some o1) (hc : o1.cls = .type "re.Pattern") (d1 : o1.data = .fields #[x0, x1, .int 1 t1, .ref da, x4, .ref ca, .int 1 t2]) (h2 : s.heap.get? ca = some o2) (d2 : o2.data = .seq cv n1) (hcv : codeOf cv = C) (hz : l.length ≤ 500)
    (hnone : srch (toNats l) (row (toNats l)) = none → Q .none s)
    (hsome : ∀ p mo tp h', srch (toNats l) (row (toNats l)) = some p → Fr h₀ L h' m → News h₀ L h' ((mo, moObj l t pa tp l.length) :: (tp, spObj (clo (toNats l) (p + 7) + 1) (p + 7) (clo (toNats l) (p + 7))) :: news) → Q (.ref mo) { s with heap := h' }) :
    wpAny (model prog w) A (call (.builtin "re.Pattern.match") [.ref pa, .bytes l.toArray t]) Q E s := by
  refine call_meets (T := "re.Pattern") Fa.slot_match ⟨o1, h1, hc⟩ Fa.entry_match (Fa.args_match _ _) (meets_match (o1 := o1) (o2 := o2) hcv) ⟨hz, h1, d1, h2, d2, ?_⟩
  cases hr : srch (toNats l) (row (toNats l)) with
  | none => exact hnone hr
  | some p =>
    have N1 := N.push F (spObj (clo (toNats l) (p + 7) + 1) (p + 7) (clo (toNats l) (p + 7)))
    have N2 := N1.push (F.push _) (moObj l t pa s.heap.objs.size l.length)
    rw [Heap.size_push] at N2
    exact hsome p _ _ _ hr ((F.push _).push _) N2
theorem truthy_mo {mo : Addr} {pa tp : Addr} {n : Nat} {Q : Bool → Shared → Prop} (N : News h₀ L s.heap news) (hm : (mo, moObj l t pa tp n) ∈ news) (h : Q true s) : wpAny (model prog w) A (truthy (.ref mo)) Q E s := by
  have hT : s.TypeIs (.ref mo) "re.Match" := ⟨_, (N _ hm).1, rfl⟩
  unfold truthy
  refine wpAny_bind (wpAny_callSpecial?_none hT Fa.mo_no_bool ?_)
  refine wpAny_bind (wpAny_specialOf hT Fa.mo_no_len ?_)
  exact wpAny_pure h
theorem method_group {M : Model} {mo : Addr} {pa tp : Addr} {n : Nat} {pl : Sem Bool} {Q : Value × List Value → Shared → Prop} (N : News h₀ L s.heap news) (hm : (mo, moObj l t pa tp n) ∈ news) (h : Q (.builtin "re.Match.group", [.ref mo]) s) :
    wpAny M A (getMethod (.ref mo) "group" pl) Q E s :=
  getMethod_builtin (T := "re.Match") ⟨_, (N _ hm).1, rfl⟩ Fa.plain_mo Fa.slot_group Fa.type_group (fun a e => by cases e; exact ⟨_, (N _ hm).1, rfl⟩) h
theorem cut_back (l : List UInt8) (b e : Nat) : ((toNats l).extract b e).map (·.toUInt8) = ((l.drop b).take (e - b)).toArray := by
  apply Array.toList_inj.mp
  simp only [toNats, Array.toList_map, Array.toList_extract, List.extract_eq_take_drop, ← List.map_drop, ← List.map_take, List.map_map]
  have : ((fun (x : Nat) => x.toUInt8) ∘ fun (x : UInt8) => x.toNat) = _root_.id := by funext x; simp
  rw [this, List.map_id]
theorem meets_group {mo pa ca da tp : Addr} {n e' b c : Nat} {x0 x1 x4 : Value} {t1 t2 tk td tv : Tok} {o1 o3 : PySem.Obj} {nd : Nat} (hcl : o3.ExactDict) :
    MeetsIn prog w («re.Match.group» ⟨[.ref mo, .str (PySem.Str.ofString "flags") tk], []⟩)
      (fun _ R s => s.heap.get? mo = some (moObj l t pa tp n) ∧ s.heap.get? tp = some (spObj e' b c) ∧ s.heap.get? pa = some o1 ∧ o1.data = .fields #[x0, x1, .int 1 t1, .ref da, x4, .ref ca, .int 1 t2] ∧
        s.heap.get? da = some o3 ∧ o3.data = .dict #[⟨PyData.keyHash w.params (PySem.Str.ofString "flags"), .str (PySem.Str.ofString "flags") td, .int 1 tv⟩] nd ∧ l.length ≤ 500 ∧
        ∀ t' k, R (.ok (.ret (.bytes ((l.drop b).take (c - b)).toArray t'))) { s with toks := k }) := by
  intro A R s hS
  obtain ⟨h1, h2, h3, d3, h4, d4, hz, h⟩ := hS
  refine wpAny_mono (Q := fun fin s' => ∃ v, fin = .done (.ret v) ∧ R (.ok (.ret v)) s') ?_ (fun fin s' h' => by obtain ⟨v, rfl, hv⟩ := h'; exact hv) fun _ _ x => x
  unfold «re.Match.group»
  refine wpAny_bind (wpAny_of_eq (a := ()) rfl ?_)
  dsimp only
  refine wpAny_bind ?_
  unfold reFound
  refine wpAny_bind (wpAny_fieldsOf h1 rfl ?_)
  refine wpAny_bind ?_
  unfold reRawItems
  refine wpAny_bind (wpAny_seqItems (items := #[rawInt 0, rawInt e', rawInt b, rawInt c]) (n := 0) h2 rfl ?_)
  refine wpAny_pure (wpAny_pure ?_)
  refine wpAny_bind ?_
  unfold reGroupNumber
  refine wpAny_bind (wpAny_of_eq (a := none) rfl ?_)
  refine wpAny_ite (KBy.ite_no (show ¬ ((none : Option Int).isSome = true) from Bool.false_ne_true) ?_)
  refine wpAny_bind (wpAny_specialOf (T := "str") (typeIs_str _ _ _) Fa.str_no_index ?_)
  refine wpAny_ite (KBy.ite_no (show ¬ ((none : Option Value).isSome = true) from Bool.false_ne_true) ?_)
  refine wpAny_bind (wpAny_fieldsOf (a := pa) h3 d3 ?_)
  show wpAny _ _ (dictGet da (.str (PySem.Str.ofString "flags") tk) >>= _) _ _ s
  refine wpAny_bind (wpAny_dictGet_of (knd := PySem.strKind prog w) (f := fun k => if k = PySem.Str.ofString "flags" then some (.int 1 tv) else none) (k := PySem.Str.ofString "flags") ?_ ?_ ?_)
  · show (PySem.Str.ofString "flags" == PySem.Str.ofString "flags") = true
    exact beq_self_eq_true _
  · refine ⟨o3, _, nd, h4, hcl, d4, ?_, ?_⟩
    · intro e he
      have he' : e ∈ [(⟨PyData.keyHash w.params (PySem.Str.ofString "flags"), .str (PySem.Str.ofString "flags") td, .int 1 tv⟩ : DictEntry)] := Array.mem_def.mp he
      rw [List.mem_singleton.mp he']
      exact ⟨PySem.Str.ofString "flags", beq_self_eq_true _, rfl⟩
    · intro k
      show _ = if k = PySem.Str.ofString "flags" then some (Value.int 1 tv) else none
      unfold findBy
      rw [← Array.find?_toList]
      show (List.find? _ [_]).map _ = _
      rw [List.find?_cons]
      show (match (PySem.Str.ofString "flags" == k) with | true => some _ | false => List.find? _ []).map _ = _
      by_cases hk : k = PySem.Str.ofString "flags"
      · subst hk
        rw [beq_self_eq_true, if_pos rfl]; rfl
      · have : (PySem.Str.ofString "flags" == k) = false := by
          rw [Bool.eq_false_iff]; intro hb; exact hk (beq_iff_eq.mp hb).symm
        rw [this, if_neg hk]; rfl
  rw [if_pos rfl]
  refine wpAny_bind (wpAny_of_eq (a := some 1) rfl ?_)
  refine wpAny_bind (wpAny_pure ?_)
  dsimp only [Option.getD_some]
  have hsz : (#[rawInt 0, rawInt e', rawInt b, rawInt c].map reRawOf).size = 4 := by simp
  refine wpAny_ite (KBy.ite_no (show ¬ ((decide ((1 : Int) < 0) || decide (2 * (1 : Int) ≥ (((#[rawInt 0, rawInt e', rawInt b, rawInt c].map reRawOf).size : Nat) : Int))) = true) by rw [hsz]; decide) ?_)
  refine wpAny_pure (wpAny_bind ?_)
  unfold reGroupText
  have hb : (#[rawInt 0, rawInt e', rawInt b, rawInt c].map reRawOf).getD (2 * (1 : Int).toNat) (-1) = (b : Int) := by simp [rawInt, reRawOf]
  have hc : (#[rawInt 0, rawInt e', rawInt b, rawInt c].map reRawOf).getD (2 * (1 : Int).toNat + 1) (-1) = (c : Int) := by simp [rawInt, reRawOf]
  dsimp only [Option.getD_some]
  rw [hb, hc]
  refine wpAny_ite (KBy.ite_no (show ¬ ((decide ((b : Int) < 0) || decide ((c : Int) < 0)) = true) by rw [decide_eq_false (by omega), decide_eq_false (by omega)]; exact Bool.false_ne_true) ?_)
  refine wpAny_bind ?_
  show wpAny _ _ (reTextOf (.bytes l.toArray t)) _ _ _
  unfold reTextOf
  rw [asStr_bytes]
  refine wpAny_bind (wpAny_pure ?_)
  dsimp only
  refine wpAny_bind (wpAny_of_eq KBy.quiet_eq ?_)
  refine wpAny_pure ?_
  dsimp only
  unfold reSlice
  refine wpAny_ite (KBy.ite_no (show ¬ (((1 : Nat) == 0) = true) from Bool.false_ne_true) ?_)
  have e : ((Array.map (fun (x : UInt8) => x.toNat) l.toArray).extract (b : Int).toNat (c : Int).toNat).map (fun x => x.toUInt8) = ((l.drop b).take (c - b)).toArray := by
    rw [Int.toNat_natCast, Int.toNat_natCast]; exact cut_back l b c
  rw [e]
  refine wpAny_mkBytes ?_ (by rw [List.size_toArray, List.length_take, List.length_drop, sizeLine_eq]; omega)
  exact wpAny_pure ⟨_, rfl, h _ _⟩
theorem group_K {mo pa ca da tp : Addr} {n e' b c : Nat} {x0 x1 x4 : Value} {t1 t2 tk td tv : Tok} {o1 o3 : PySem.Obj} {nd : Nat} (N : News h₀ L s.heap news) (hm : (mo, moObj l t pa tp n) ∈ news) (ht : (tp, spObj e' b c) ∈ news)
    (h1 : s.heap.get? pa = some o1) (d1 : o1.data = .fields #[x0, x1, .int 1 t1, .ref da, x4, .ref ca, .int 1 t2]) (h3 : s.heap.get? da = some o3) (hcl : o3.ExactDict)
    (d3 : o3.data = .dict #[⟨PyData.keyHash w.params (PySem.Str.ofString "flags"), .str (PySem.Str.ofString "flags") td, .int 1 tv⟩] nd) (hz : l.length ≤ 500)
    (h : ∀ t' k, Q (.bytes ((l.drop b).take (c - b)).toArray t') { s with toks := k }) :
    wpAny (model prog w) A (call (.builtin "re.Match.group") [.ref mo, .str (PySem.Str.ofString "flags") tk]) Q E s :=
  call_meetsIn (T := "re.Match") Fa.slot_group ⟨_, (N _ hm).1, rfl⟩ Fa.entry_group (Fa.args_group _ _) (meets_group hcl) ⟨(N _ hm).1, (N _ ht).1, h1, d1, h3, d3, hz, h⟩
end
end Mine
end

section
namespace Mine
open PySem PySem.W PyProof.Rows PySem.Calls PySem.Builtin
set_option maxRecDepth 100000
/-! the text of a script -/
def tab : List (List UInt8) := [[70, 76, 65, 71, 83, 32, 40], [41], [92, 83, 101, 101, 110], [92, 79, 108, 100], [97], [32], [9], [10], [40]]
def piece (n : Int) : List UInt8 := tab.getD (Int.fmod n 9).toNat []
def txt (ns : List Int) : List UInt8 := ns.flatMap piece
theorem tab_size : ∀ j, (tab.getD j []).length ≤ 7 := by
  intro j
  by_cases h : j < 9
  · have : ∀ j, j < 9 → (tab.getD j []).length ≤ 7 := by decide
    exact this j h
  · have : tab.length ≤ j := by show 9 ≤ j; omega
    rw [List.getD_eq_getElem?_getD, List.getElem?_eq_none this]
    simp
theorem txt_snoc (pre : List Int) (n : Int) : txt (pre ++ [n]) = txt pre ++ piece n := by simp [txt]
theorem txt_size (ns : List Int) : (txt ns).length ≤ 7 * ns.length := by
  induction ns with
  | nil => simp [txt]
  | cons a r ih =>
    have := tab_size (Int.fmod a 9).toNat
    simp only [txt, List.flatMap_cons, List.length_append, List.length_cons] at *
    have e : (piece a).length ≤ 7 := this
    omega
section
variable {prog : Program} {w : World} {A : Around} {E : Value → Shared → Prop} {s : Shared} {h₀ : Heap} {L : Addr} {m : PySem.Str → Option Value} {news : List (Addr × PySem.Obj)} {Q : Value → Shared → Prop}
theorem item_K {value slice : PySem.Expr} {l : Addr} {t0 t1 t2 t3 t4 t5 t6 t7 t8 : Tok} {x : PySem.Obj} {n : Nat} {i : Int} {u : Tok}
    (N : News h₀ L s.heap news) (hm : (l, x) ∈ news)
    (hx : x = listOf [Value.bytes [70, 76, 65, 71, 83, 32, 40].toArray t0, .bytes [41].toArray t1, .bytes [92, 83, 101, 101, 110].toArray t2, .bytes [92, 79, 108, 100].toArray t3, .bytes [97].toArray t4, .bytes [32].toArray t5, .bytes [9].toArray t6, .bytes [10].toArray t7, .bytes [40].toArray t8].toArray n)
    (h0 : 0 ≤ i) (h1 : i < 9)
    (h : ∀ t', Q (.bytes (tab.getD i.toNat []).toArray t') s)
    (hs : subscripted slice false (.ref l) (.int i u) = operate [.ref l, .int i u] (getItem (.ref l) (.int i u)) := by with_unfolding_all rfl) :
    wpAny (model prog w) A (subscriptTail value slice (.ref l) (.int i u)) Q E s := by
  subst hx
  refine first_K N hm (ws := tab) ?_ h0 (by omega) (b := tab.getD i.toNat []) ?_ h hs
  · exact .cons (.cons (.cons (.cons (.cons (.cons (.cons (.cons (.cons .nil))))))))
  · have : i.toNat < tab.length := by show i.toNat < 9; omega
    rw [List.getD_eq_getElem?_getD, List.getElem?_eq_getElem this]; rfl
theorem add_txt {pre : List Int} {n : Int} {b : Array UInt8} {t u : Tok} (hb : b = (txt pre).toArray) (hp : pre.length ≤ 63)
    (h : ∀ t' k, Q (.bytes (txt (pre ++ [n])).toArray t') { s with toks := k }) :
    wpAny (model prog w) A (binaryOp .Add (.bytes b t) (.bytes (tab.getD (Int.fmod n 9).toNat []).toArray u)) Q E s := by
  subst hb
  refine KBy.add_bytes ?_ fun t' k => ?_
  · have h1 := txt_size pre
    have h2 := tab_size (Int.fmod n 9).toNat
    simp only [List.size_toArray]
    omega
  · have e : (txt pre).toArray ++ (tab.getD (Int.fmod n 9).toNat []).toArray = (txt (pre ++ [n])).toArray := by
      rw [txt_snoc]; simp [piece]
    rw [e]
    exact h t' k
end

theorem txt_le {ns : List Int} (h : ns.length ≤ 63) : (txt ns).length ≤ 441 := by have := txt_size ns; omega
theorem ahead_len (c : UInt8) (l : List UInt8) : (ahead c l).length ≤ l.length := (List.takeWhile_prefix _).length_le
/-! what the law finds -/
def FL : List UInt8 := [70, 76, 65, 71, 83, 32, 40]
def okAt (l : List UInt8) (k : Nat) : Bool := ((l.drop k).take 7 == FL) && decide (41 ∈ l.drop (k + 7))
/-- the words: blanks part them -/
def step (ws : List (List UInt8)) (c : UInt8) : List (List UInt8) := if sep [c] then ws ++ [[]] else ws.set (ws.length - 1) (ws.getD (ws.length - 1) [] ++ [c])
def partW (l : List UInt8) : List (List UInt8) := l.foldl step [[]]
def parted (l : List UInt8) : List (List UInt8) := (partW l).filter fun b => b != []
def dueAt (l : List UInt8) : Nat → List (List UInt8)
  | 0 => []
  | k + 1 => if okAt l k then parted (ahead 41 (l.drop (k + 7))) else dueAt l k

abbrev tup (vs : List Value) : PySem.Obj := { cls := .type "tuple", data := .seq vs.toArray }
def JD (x : PySem.Str) (l : List UInt8) (m₀ : PySem.Str → Option Value) (i : Nat) (m : PySem.Str → Option Value) (nx : List (Addr × PySem.Obj)) : Prop :=
  ∃ D vs, nx = [(D, tup vs)] ∧ ByL vs (dueAt l i) ∧ m "due" = some (.ref D) ∧ ∀ z, z ≠ x → z ≠ "due" → z ≠ "behind" → m z = m₀ z
theorem JD.map {x : PySem.Str} {m₀ m₁ : PySem.Str → Option Value} {D : Addr} (h1 : m₁ "due" = some (.ref D)) (h2 : ∀ z, z ≠ x → z ≠ "due" → z ≠ "behind" → m₁ z = m₀ z) {y : PySem.Str} (hy : y ≠ x) :
    (if y = "due" then some (.ref D) else if y = "behind" then m₁ y else m₀ y) = m₁ y := by
  by_cases e1 : y = "due"
  · rw [if_pos e1, e1, h1]
  · rw [if_neg e1]
    by_cases e2 : y = "behind"
    · rw [if_pos e2]
    · rw [if_neg e2]; exact (h2 y hy e1 e2).symm
section
variable {prog : Program} {w : World} {A : Around} {E : Value → Shared → Prop} {s : Shared} {env : Env} {h₀ : Heap} {x : PySem.Str} {body : List Stmt} {Q : Flow → Shared → Prop}
theorem due_loop {l : List UInt8} {r : Addr} {n : Nat} {D : Addr} {t₀ u₀ v₀ : Tok} {m₀ : PySem.Str → Option Value} {news : List (Addr × PySem.Obj)}
    (hh : A.handled = none) (hr : IsRange s.heap r 0 (n : Int) 1 t₀ u₀ v₀) (hsmall : Builtin.Range.small 0 (n : Int) 1 = true) (hn : Builtin.Range.rangeSize 0 (n : Int) 1 = (n : Int)) (F : Fr h₀ env.locals s.heap m₀) (N : News h₀ env.locals s.heap news)
    (hD : (D, tup []) ∈ news) (hm : m₀ "due" = some (.ref D)) {tl : Tok} (hb : m₀ "text" = some (.bytes l.toArray tl))
    (turn : ∀ (i : Nat) t D vs (u : PySem.Str → Option Value) h tk own, i < n → ByL vs (dueAt l i) → OwnOff own [D] →
      Fr h₀ env.locals h (fun y => if y = x then some (.int (i : Int) t) else if y = "due" then some (.ref D) else if y = "behind" then u y else m₀ y) → News h₀ env.locals h ((D, tup vs) :: own) →
      wpAny (model prog w) A (execs body env) (InvPostG h₀ env.locals (JD x l m₀ (i + 1)) own { s with heap := h, toks := tk } Q) E { s with heap := h, toks := tk })
    (done : ∀ D vs (u : PySem.Str → Option Value) h tk, ByL vs (dueAt l n) → Fr h₀ env.locals h (fun y => if y = x then u y else if y = "due" then some (.ref D) else if y = "behind" then u y else m₀ y) → News h₀ env.locals h [(D, tup vs)] → Q .next { s with heap := h, toks := tk }) :
    wpAny (model prog w) A (pyIter (.ref r)) (fun it s₂ => LoopAtV prog w A h₀ env x body Q E it s₂) E s := by
  refine wpAny_pyIter_range hr hsmall ?_
  have W : Walks prog w A s.heap.objs.size [s.heap.objs.size] [s.heap.objs.size] n (fun i v => i < n ∧ ∃ t, v = .int (0 + i * 1) t)
      (fun i h => IsRangeIter h s.heap.objs.size (0 + (i : Nat) * 1) ((n : Int) - (i : Nat)) 1) := (Walks.range hh _ 0 1 n).bound
  refine kdr_loop (news := [(D, tup [])]) (fun i m nx => JD x l m₀ i m nx) W (fun _ h => h) (fun _ h => h) ?_ ?_ ?_ ?_ (by show IsRangeIter _ _ _ _ _; rw [hn]; simpa using Heap.get?_push_size _ rfl) (F.push _) (fun p hp => ?_) ⟨D, [], rfl, .nil, hm, fun _ _ _ _ => rfl⟩ ?_ ?_
  · intro i h hi b hb
    rw [List.mem_singleton.mp hb]
    exact ⟨_, hi⟩
  · intro hm
    exact absurd F.ns.lt ((List.mem_singleton.mp hm) ▸ Nat.lt_irrefl _)
  · intro b hb
    rw [List.mem_singleton.mp hb]
    exact next_is_new F
  · intro p hp hI
    rw [List.mem_singleton.mp hp] at hI
    exact absurd (Heap.lt_size (N _ hD).1) ((List.mem_singleton.mp hI) ▸ Nat.lt_irrefl _)
  · rw [List.mem_singleton.mp hp]
    exact ⟨Heap.get?_push_of_some _ (N _ hD).1, (N _ hD).2⟩
  · rintro i v m₁ nx h tk own hi ⟨_, t, rfl⟩ hoff ⟨D', vs, rfl, hv, h1, h2⟩ F₁ N₁
    have e1 : (0 : Int) + (i : Int) * 1 = (i : Int) := by omega
    rw [e1] at F₁
    refine turn i t D' vs m₁ h tk own hi hv hoff ?_ N₁
    have em : (fun y => if y = x then some (Value.int (i : Int) t) else if y = "due" then some (.ref D') else if y = "behind" then m₁ y else m₀ y) = fun y => if y = x then some (Value.int (i : Int) t) else m₁ y := by
      funext y
      by_cases hy : y = x
      · rw [if_pos hy, if_pos hy]
      · rw [if_neg hy, if_neg hy]; exact JD.map h1 h2 hy
    rw [em]; exact F₁
  · rintro m₁ nx h tk ⟨D', vs, rfl, hv, h1, h2⟩ F₁ N₁
    refine done D' vs m₁ h tk hv ?_ N₁
    have em : (fun y => if y = x then m₁ y else if y = "due" then some (.ref D') else if y = "behind" then m₁ y else m₀ y) = m₁ := by
      funext y
      by_cases hy : y = x
      · rw [if_pos hy]
      · rw [if_neg hy]; exact JD.map h1 h2 hy
    rw [em]; exact F₁
theorem due_end {L : Addr} {l : List UInt8} {m₀ m' : PySem.Str → Option Value} {i : Nat} {D : Addr} {vs : List Value} {own news' : List (Addr × PySem.Obj)} {s₁ : Shared} {h' : Heap} {tk : Nat} (F : Fr h₀ L h' m') (N : News h₀ L h' news')
    (hm : (D, tup vs) ∈ news') (ho : ∀ p ∈ own, p ∈ news') (hoff : ∀ p ∈ own, p.1 ≠ D) (hv : ByL vs (dueAt l i)) (h1 : m' "due" = some (.ref D)) (h2 : ∀ z, z ≠ x → z ≠ "due" → z ≠ "behind" → m' z = m₀ z) :
    InvEndG h₀ L (JD x l m₀ i) own s₁ { s₁ with heap := h', toks := tk } :=
  InvEndG.intro F N ⟨D, vs, rfl, hv, h1, h2⟩ (fun p hp b hb => by rw [List.mem_singleton.mp hb]; exact hoff p hp) (fun p hp => by rw [List.mem_singleton.mp hp]; exact hm) ho
end
section
variable {prog : Program} {w : World} {A : Around} {E : Value → Shared → Prop} {s : Shared} {Q : Value → Shared → Prop} {l : List UInt8} {t : Tok}
theorem lenB_K (hz : l.length ≤ 16777000) (h : ∀ t' k, Q (.int (l.length : Int) t') { s with toks := k }) : wpAny (model prog w) A (call (.builtin "len") [.bytes l.toArray t]) Q E s :=
  len_bytes (by rw [List.size_toArray]; omega) (by rw [List.size_toArray]; exact h _ _)
end

theorem method_txt {M : Model} {A : Around} {E : Value → Shared → Prop} {s : Shared} {ns : List Int} {b : Array UInt8} {t : Tok} {pl : Sem Bool} {Q : Value × List Value → Shared → Prop} (hB : b = (txt ns).toArray) (hn : ns.length ≤ 63)
    (h : (txt ns).length ≤ 441 → (ahead 10 (txt ns)).length ≤ (txt ns).length → Q (.builtin "bytes.split", [.bytes (txt ns).toArray t]) s) : wpAny M A (getMethod (.bytes b t) "split" pl) Q E s := by
  subst hB
  exact method_split (h (txt_le hn) (ahead_len _ _))
section
variable {prog : Program} {w : World} {A : Around} {E : Value → Shared → Prop} {s : Shared} {h₀ : Heap} {L : Addr} {m : PySem.Str → Option Value} {news : List (Addr × PySem.Obj)} {l : List UInt8} {t : Tok} {Q : Value → Shared → Prop} {value slice : PySem.Expr} {i : Nat} {tx ty : Tok}
theorem cut7_K (F : Fr h₀ L s.heap m) (N : News h₀ L s.heap news) (hz : l.length ≤ 16777000)
    (h : ∀ h' t' k, Fr h₀ L h' m → News h₀ L h' news → (l.drop (i + 7)).length ≤ l.length → Q (.bytes (l.drop (i + 7)).toArray t') { s with heap := h', toks := k })
    (hs : subscripted slice false (.bytes l.toArray t) (.ref s.heap.objs.size) = operate [.ref s.heap.objs.size, .bytes l.toArray t] (getItem (.bytes l.toArray t) (.ref s.heap.objs.size)) := by with_unfolding_all rfl)
    (ht : ∀ r, letTemporaryGo value (.bytes l.toArray t) r = pure () := by intro _; with_unfolding_all rfl) :
    wpAny (model prog w) A (subscriptTail value slice (.bytes l.toArray t) (.ref s.heap.objs.size)) Q E { s with heap := s.heap.push { cls := .type "slice", data := .fields #[.int ((i : Int) + 7) tx, .none, .none] } } :=
  cut1_K F N (by omega) hz (fun h' t' k F' N' => h h' t' k F' N' (by rw [List.length_drop]; omega)) hs ht
theorem cut07_K (F : Fr h₀ L s.heap m) (N : News h₀ L s.heap news) (hz : l.length ≤ 16777000)
    (h : ∀ h' t' k, Fr h₀ L h' m → News h₀ L h' news → Q (.bytes ((l.drop i).take 7).toArray t') { s with heap := h', toks := k })
    (hs : subscripted slice false (.bytes l.toArray t) (.ref s.heap.objs.size) = operate [.ref s.heap.objs.size, .bytes l.toArray t] (getItem (.bytes l.toArray t) (.ref s.heap.objs.size)) := by with_unfolding_all rfl)
    (ht : ∀ r, letTemporaryGo value (.bytes l.toArray t) r = pure () := by intro _; with_unfolding_all rfl) :
    wpAny (model prog w) A (subscriptTail value slice (.bytes l.toArray t) (.ref s.heap.objs.size)) Q E { s with heap := s.heap.push { cls := .type "slice", data := .fields #[.int (i : Int) tx, .int ((i : Int) + 7) ty, .none] } } :=
  cut2_K (j := 7) F N rfl rfl hz h hs ht
theorem cut01_K (F : Fr h₀ L s.heap m) (N : News h₀ L s.heap news) (hz : l.length ≤ 16777000)
    (h : ∀ h' t' k, Fr h₀ L h' m → News h₀ L h' news → Q (.bytes ((l.drop i).take 1).toArray t') { s with heap := h', toks := k })
    (hs : subscripted slice false (.bytes l.toArray t) (.ref s.heap.objs.size) = operate [.ref s.heap.objs.size, .bytes l.toArray t] (getItem (.bytes l.toArray t) (.ref s.heap.objs.size)) := by with_unfolding_all rfl)
    (ht : ∀ r, letTemporaryGo value (.bytes l.toArray t) r = pure () := by intro _; with_unfolding_all rfl) :
    wpAny (model prog w) A (subscriptTail value slice (.bytes l.toArray t) (.ref s.heap.objs.size)) Q E { s with heap := s.heap.push { cls := .type "slice", data := .fields #[.int (i : Int) tx, .int ((i : Int) + 1) ty, .none] } } :=
  cut2_K (j := 1) F N rfl rfl hz h hs ht
end

/-! the words' loop -/
def wsAt (l : List UInt8) (i : Nat) : List (List UInt8) := (l.take i).foldl step [[]]
theorem one_at {l : List UInt8} {i : Nat} (h : i < l.length) : (l.drop i).take 1 = [l[i]] := by
  rw [List.drop_eq_getElem_cons h]; rfl
theorem wsAt_succ {l : List UInt8} {i : Nat} (h : i < l.length) : wsAt l (i + 1) = step (wsAt l i) l[i] := by
  unfold wsAt
  rw [List.take_add_one, List.getElem?_eq_getElem h, List.foldl_append]; rfl
theorem wsAt_all (l : List UInt8) : wsAt l l.length = partW l := by unfold wsAt partW; rw [List.take_length]
theorem part_yes {l : List UInt8} {i : Nat} (h : i < l.length) (hs : sep ((l.drop i).take 1) = true) : wsAt l (i + 1) = wsAt l i ++ [[]] := by
  rw [one_at h] at hs
  rw [wsAt_succ h]; unfold step; rw [if_pos hs]
theorem part_no {l : List UInt8} {i : Nat} (h : i < l.length) (hs : sep ((l.drop i).take 1) = false) :
    wsAt l (i + 1) = (wsAt l i).set ((wsAt l i).length - 1) ((wsAt l i).getD ((wsAt l i).length - 1) [] ++ (l.drop i).take 1) := by
  rw [one_at h] at hs ⊢
  rw [wsAt_succ h]; unfold step; rw [if_neg (by rw [hs]; exact Bool.false_ne_true)]
theorem step_size (ws : List (List UInt8)) (c : UInt8) (n : Nat) (h0 : 1 ≤ ws.length) (h1 : ws.length ≤ n + 1) (h2 : ∀ b ∈ ws, b.length ≤ n) : 1 ≤ (step ws c).length ∧ (step ws c).length ≤ n + 1 + 1 ∧ ∀ b ∈ step ws c, b.length ≤ n + 1 := by
  unfold step
  split
  · refine ⟨by simp, by simp; omega, fun b hb => ?_⟩
    rcases List.mem_append.mp hb with hb | hb
    · have := h2 b hb; omega
    · rw [List.mem_singleton.mp hb]; simp
  · refine ⟨by simpa using h0, by simp; omega, fun b hb => ?_⟩
    rcases List.mem_or_eq_of_mem_set hb with hb | rfl
    · have := h2 b hb; omega
    · have hlt : ws.length - 1 < ws.length := by omega
      have := h2 (ws.getD (ws.length - 1) []) (by rw [List.getD_eq_getElem?_getD, List.getElem?_eq_getElem hlt]; exact List.getElem_mem hlt)
      simp only [List.length_append, List.length_cons, List.length_nil]; omega
theorem wsAt_size (l : List UInt8) : ∀ i, i ≤ l.length → 1 ≤ (wsAt l i).length ∧ (wsAt l i).length ≤ i + 1 ∧ ∀ b ∈ wsAt l i, b.length ≤ i
  | 0, _ => ⟨by simp [wsAt], by simp [wsAt], fun b hb => by have : b = [] := by simpa [wsAt] using hb
                                                            rw [this]; simp⟩
  | i + 1, h => by
    have ih := wsAt_size l i (by omega)
    rw [wsAt_succ (by omega)]
    exact step_size _ _ _ ih.1 ih.2.1 ih.2.2
theorem last_size {ws : List (List UInt8)} {n : Nat} (h0 : 1 ≤ ws.length) (h2 : ∀ b ∈ ws, b.length ≤ n) : (ws.getD (ws.length - 1) []).length ≤ n := by
  have hlt : ws.length - 1 < ws.length := by omega
  exact h2 _ (by rw [List.getD_eq_getElem?_getD, List.getElem?_eq_getElem hlt]; exact List.getElem_mem hlt)

def JP (x : PySem.Str) (l : List UInt8) (D : Addr) (rest : List (Addr × PySem.Obj)) (m₀ : PySem.Str → Option Value) (i : Nat) (m : PySem.Str → Option Value) (nx : List (Addr × PySem.Obj)) : Prop :=
  ∃ vs n, nx = (D, listOf (List.toArray vs) n) :: rest ∧ ByL vs (wsAt l i) ∧ ∀ z, z ≠ x → m z = m₀ z
section
variable {prog : Program} {w : World} {A : Around} {E : Value → Shared → Prop} {s : Shared} {env : Env} {h₀ : Heap} {x : PySem.Str} {body : List Stmt} {Q : Flow → Shared → Prop}
theorem words_loop {l : List UInt8} {r : Addr} {D : Addr} {vs₀ : List Value} {n₀ : Nat} {t₀ u₀ v₀ tl : Tok} {m₀ : PySem.Str → Option Value} {rest : List (Addr × PySem.Obj)}
    (hh : A.handled = none) (hr : IsRange s.heap r 0 (l.length : Int) 1 t₀ u₀ v₀) (hsmall : Builtin.Range.small 0 (l.length : Int) 1 = true) (hn : Builtin.Range.rangeSize 0 (l.length : Int) 1 = (l.length : Int)) (F : Fr h₀ env.locals s.heap m₀)
    (N : News h₀ env.locals s.heap ((D, listOf vs₀.toArray n₀) :: rest)) (hw : m₀ "words" = some (.ref D)) (hb : m₀ "text" = some (.bytes l.toArray tl)) (hv₀ : ByL vs₀ [[]]) (hD : ∀ p ∈ rest, p.1 ≠ D)
    (turn : ∀ (i : Nat) t vs n h tk own, i < l.length → ByL vs (wsAt l i) → 1 ≤ (wsAt l i).length → (wsAt l i).length ≤ i + 1 → ((wsAt l i).getD ((wsAt l i).length - 1) []).length ≤ i → (∀ p ∈ rest ++ own, p.1 ≠ D) →
      Fr h₀ env.locals h (fun y => if y = x then some (.int (i : Int) t) else m₀ y) → News h₀ env.locals h ((D, listOf (List.toArray vs) n) :: (rest ++ own)) →
      wpAny (model prog w) A (execs body env) (InvPostN h₀ env.locals (JP x l D rest m₀ (i + 1)) own (D :: rest.map (·.1)) { s with heap := h, toks := tk } Q) E { s with heap := h, toks := tk })
    (done : ∀ vs n (u : PySem.Str → Option Value) h tk, ByL vs (partW l) → (partW l).length ≤ l.length + 1 → Fr h₀ env.locals h (fun y => if y = x then u y else m₀ y) → News h₀ env.locals h ((D, listOf (List.toArray vs) n) :: rest) → Q .next { s with heap := h, toks := tk }) :
    wpAny (model prog w) A (pyIter (.ref r)) (fun it s₂ => LoopAtV prog w A h₀ env x body Q E it s₂) E s := by
  refine wpAny_pyIter_range hr hsmall ?_
  have W : Walks prog w A s.heap.objs.size [s.heap.objs.size] [s.heap.objs.size] l.length (fun i v => i < l.length ∧ ∃ t, v = .int (0 + i * 1) t)
      (fun i h => IsRangeIter h s.heap.objs.size (0 + (i : Nat) * 1) ((l.length : Int) - (i : Nat)) 1) := (Walks.range hh _ 0 1 l.length).bound
  refine loop_invN (fun i m nx => JP x l D rest m₀ i m nx) W ?_ ?_ ?_ ?_ (by show IsRangeIter _ _ _ _ _; rw [hn]; simpa using Heap.get?_push_size _ rfl) (F.push _) (fun p hp => ⟨Heap.get?_push_of_some _ (N p hp).1, (N p hp).2⟩) ⟨vs₀, n₀, rfl, hv₀, fun _ _ => rfl⟩ ?_ ?_
  · intro hm
    exact absurd F.ns.lt ((List.mem_singleton.mp hm) ▸ Nat.lt_irrefl _)
  · intro b hb
    rw [List.mem_singleton.mp hb]
    exact next_is_new F
  · intro p hp hI
    exact absurd (Heap.lt_size (N p hp).1) ((List.mem_singleton.mp hI) ▸ Nat.lt_irrefl _)
  · intro p hp hI
    exact absurd (Heap.lt_size (N p hp).1) ((List.mem_singleton.mp hI) ▸ Nat.lt_irrefl _)
  · rintro i v m₁ nx h tk own hi ⟨_, t, rfl⟩ _ hoff ⟨vs, n, rfl, hv, h2⟩ F₁ N₁
    have e1 : (0 : Int) + (i : Int) * 1 = (i : Int) := by omega
    rw [e1, map_none h2] at F₁
    have hz := wsAt_size l i (by omega)
    refine turn i t vs n h tk own hi hv hz.1 hz.2.1 (last_size hz.1 hz.2.2) (fun p hp => ?_) F₁ N₁
    rcases List.mem_append.mp hp with hp | hp
    · exact hD p hp
    · exact hoff p hp D (List.mem_cons_self ..)
  · rintro m₁ nx h tk ⟨vs, n, rfl, hv, h2⟩ F₁ N₁
    rw [wsAt_all] at hv
    have hz := wsAt_size l l.length (Nat.le_refl _)
    rw [wsAt_all] at hz
    refine done vs n m₁ h tk hv hz.2.1 ?_ N₁
    rw [done_none h2]; exact F₁
theorem words_end {L : Addr} {l : List UInt8} {D : Addr} {rest : List (Addr × PySem.Obj)} {m₀ m' : PySem.Str → Option Value} {i n : Nat} {vs : List Value} {own news' : List (Addr × PySem.Obj)} {s₁ : Shared} {h' : Heap} {tk : Nat} (F : Fr h₀ L h' m') (N : News h₀ L h' news')
    (hm : ∀ p ∈ (D, listOf (List.toArray vs) n) :: (rest ++ own), p ∈ news') (hv : ByL vs (wsAt l i)) (h2 : ∀ z, z ≠ x → m' z = m₀ z) :
    InvEndN h₀ L (JP x l D rest m₀ i) own (D :: rest.map (·.1)) s₁ { s₁ with heap := h', toks := tk } :=
  InvEndN.intro F N ⟨vs, n, rfl, hv, h2⟩ rfl (fun p hp => hm p (by rcases List.mem_cons.mp hp with rfl | hp; exact .head _; exact .tail _ (List.mem_append.mpr (.inl hp)))) fun p hp => hm p (.tail _ (List.mem_append.mpr (.inr hp)))
end
section
variable {prog : Program} {w : World} {A : Around} {E : Value → Shared → Prop} {s : Shared} {h₀ : Heap} {L : Addr} {m : PySem.Str → Option Value} {news news' : List (Addr × PySem.Obj)} {Q : Value → Shared → Prop}
/-- the last of them -/
theorem last_K {value slice : PySem.Expr} {D : Addr} {n : Nat} {vs : List Value} {ws : List (List UInt8)} {v : Tok} (N : News h₀ L s.heap news) (hm : (D, listOf vs.toArray n) ∈ news) (hv : ByL vs ws) (h0 : 1 ≤ ws.length) (h1 : ws.length ≤ 16777000)
    (h : ∀ t', Q (.bytes (ws.getD (ws.length - 1) []).toArray t') s)
    (hs : subscripted slice false (.ref D) (.int ((ws.length : Int) - 1) v) = operate [.ref D, .int ((ws.length : Int) - 1) v] (getItem (.ref D) (.int ((ws.length : Int) - 1) v)) := by with_unfolding_all rfl) :
    wpAny (model prog w) A (subscriptTail value slice (.ref D) (.int ((ws.length : Int) - 1) v)) Q E s := by
  refine first_K N hm hv (by omega) (by omega) (b := ws.getD (ws.length - 1) []) ?_ h hs
  have e : ((ws.length : Int) - 1).toNat = ws.length - 1 := by omega
  rw [e, List.getD_eq_getElem?_getD, List.getElem?_eq_getElem (by omega)]; rfl
theorem addB_K {b c : List UInt8} {t u : Tok} (hz : b.length + c.length ≤ 16777000) (h : ∀ t' k, Q (.bytes (b ++ c).toArray t') { s with toks := k }) : wpAny (model prog w) A (binaryOp .Add (.bytes b.toArray t) (.bytes c.toArray u)) Q E s := by
  refine KBy.add_bytes (by simp only [List.size_toArray]; omega) fun t' k => ?_
  have e : b.toArray ++ c.toArray = (b ++ c).toArray := by simp
  rw [e]; exact h t' k
theorem setLast_K {D : Addr} {n : Nat} {vs : List Value} {ws : List (List UInt8)} {b : List UInt8} {t u : Tok} {Q : Unit → Shared → Prop} (F : Fr h₀ L s.heap m) (N : News h₀ L s.heap news) (hv : ByL vs ws) (h0 : 1 ≤ ws.length) (h1 : ws.length ≤ 16777000)
    (U : Upd D (listOf vs.toArray n) (listOf (vs.set (ws.length - 1) (.bytes b.toArray u)).toArray n) news news')
    (h : ∀ h', Fr h₀ L h' m → News h₀ L h' news' → ByL (vs.set (ws.length - 1) (.bytes b.toArray u)) (ws.set (ws.length - 1) b) → Q () { s with heap := h' }) :
    wpAny (model prog w) A (setItem (.ref D) (.int ((ws.length : Int) - 1) t) (.bytes b.toArray u)) Q E s := by
  have e : ((ws.length : Int) - 1).toNat = ws.length - 1 := by omega
  have hl := hv.length
  refine set_K F N (by rw [e]; exact U) (by omega) (by omega) (by omega) fun h' F' N' => h h' F' N' (hv.set b u _)
theorem append_B {D : Addr} {n : Nat} {vs : List Value} {ws : List (List UInt8)} {b : List UInt8} {u : Tok} (F : Fr h₀ L s.heap m) (N : News h₀ L s.heap news) (hv : ByL vs ws) (h1 : ws.length ≤ 16777000)
    (U : Upd D (listOf vs.toArray n) (listOf (vs ++ [Value.bytes b.toArray u]).toArray (n + 1)) news news')
    (h : ∀ h', Fr h₀ L h' m → News h₀ L h' news' → ByL (vs ++ [Value.bytes b.toArray u]) (ws ++ [b]) → Q .none { s with heap := h' }) :
    wpAny (model prog w) A (call (.builtin "list.append") [.ref D, .bytes b.toArray u]) Q E s := by
  refine append_K F N (its := vs.toArray) (n := n) (news' := news') (by rw [List.push_toArray]; exact U) (fun h' F' N' => h h' F' N' (hv.append (.cons .nil))) ?_
  rw [List.size_toArray, hv.length, sizeLine_eq]; omega
end
section
variable {prog : Program} {w : World} {A : Around} {E : Value → Shared → Prop} {s : Shared} {K : Frag} {h₀ : Heap} {L : Addr} {m : PySem.Str → Option Value} {news : List (Addr × PySem.Obj)} {Q : Value → Shared → Prop} {l : List UInt8} {t : Tok}
theorem method_matchF {M : Model} {pa : Addr} {pl : Sem Bool} {o : PySem.Obj} {Q : Value × List Value → Shared → Prop} (X : K.In s.heap) (e : K.lookup pa = some o) (hc : o.cls = .type "re.Pattern") (hd : o.dict = none) (h : Q (.builtin "re.Pattern.match", [.ref pa]) s) :
    wpAny M A (getMethod (.ref pa) "match" pl) Q E s := method_match (X _ _ e) hc hd h
theorem match_F {pa ca da : Addr} {x0 x1 x4 : Value} {t1 t2 : Tok} {cv : Array Value} {n1 : Nat} {o1 o2 : PySem.Obj} (F : Fr h₀ L s.heap m) (N : News h₀ L s.heap news) (X : K.In s.heap)
    (e1 : K.lookup pa = some o1) (hc : o1.cls = .type "re.Pattern") (d1 : o1.data = .fields #[x0, x1, .int 1 t1, .ref da, x4, .ref ca, .int 1 t2]) (e2 : K.lookup ca = some o2) (d2 : o2.data = .seq cv n1) (hcv : codeOf cv = C) (hz : l.length ≤ 500)
    (hnone : srch (toNats l) (row (toNats l)) = none → Q .none s)
    (hsome : ∀ p mo tp h', srch (toNats l) (row (toNats l)) = some p → Fr h₀ L h' m → News h₀ L h' ((mo, moObj l t pa tp l.length) :: (tp, spObj (clo (toNats l) (p + 7) + 1) (p + 7) (clo (toNats l) (p + 7))) :: news) → Q (.ref mo) { s with heap := h' }) :
    wpAny (model prog w) A (call (.builtin "re.Pattern.match") [.ref pa, .bytes l.toArray t]) Q E s := match_K F N (X _ _ e1) hc d1 (X _ _ e2) d2 hcv hz hnone hsome
theorem group_F {mo pa ca da tp : Addr} {n e' b c : Nat} {x0 x1 x4 : Value} {t1 t2 tk td tv : Tok} {o1 o3 : PySem.Obj} {nd : Nat} (N : News h₀ L s.heap news) (X : K.In s.heap) (hm : (mo, moObj l t pa tp n) ∈ news) (ht : (tp, spObj e' b c) ∈ news)
    (e1 : K.lookup pa = some o1) (d1 : o1.data = .fields #[x0, x1, .int 1 t1, .ref da, x4, .ref ca, .int 1 t2]) (e3 : K.lookup da = some o3) (hcl : o3.ExactDict)
    (d3 : o3.data = .dict #[⟨PyData.keyHash w.params (PySem.Str.ofString "flags"), .str (PySem.Str.ofString "flags") td, .int 1 tv⟩] nd) (hz : l.length ≤ 500)
    (h : ∀ t' k, ((l.drop b).take (c - b)).length ≤ l.length → Q (.bytes ((l.drop b).take (c - b)).toArray t') { s with toks := k }) :
    wpAny (model prog w) A (call (.builtin "re.Match.group") [.ref mo, .str (PySem.Str.ofString "flags") tk]) Q E s :=
  group_K N hm ht (X _ _ e1) d1 (X _ _ e3) hcl d3 hz fun t' k => h t' k (by rw [List.length_take, List.length_drop]; omega)
end

/-! the turns' ends -/
theorem yes_end {l : List UInt8} {i : Nat} {vs : List Value} (h : i < l.length) (hs : sep ((l.drop i).take 1) = true) (hv : ByL vs (wsAt l i ++ [[]])) : ByL vs (wsAt l (i + 1)) := by rw [part_yes h hs]; exact hv
theorem no_end {l : List UInt8} {i : Nat} {vs : List Value} (h : i < l.length) (hs : sep ((l.drop i).take 1) = false) (hv : ByL vs ((wsAt l i).set ((wsAt l i).length - 1) ((wsAt l i).getD ((wsAt l i).length - 1) [] ++ (l.drop i).take 1))) : ByL vs (wsAt l (i + 1)) := by rw [part_no h hs]; exact hv
theorem due_yes {l : List UInt8} {i : Nat} {vs : List Value} (h1 : ((List.take 7 (List.drop i l)).toArray.toList == (#[70, 76, 65, 71, 83, 32, 40] : Array UInt8).toList) = true) (h2 : 41 ∈ List.drop (i + 7) l)
    (hv : ByL vs ((partW (ahead 41 (List.drop (i + 7) l))).filter fun b => b != [])) : ByL vs (dueAt l (i + 1)) := by
  have h1' : ((List.take 7 (List.drop i l)) == FL) = true := h1
  have e : okAt l i = true := by unfold okAt; rw [h1', decide_eq_true h2]; rfl
  unfold dueAt; rw [if_pos e]; exact hv
theorem due_no {l : List UInt8} {i : Nat} {vs : List Value} (h2 : ¬ 41 ∈ List.drop (i + 7) l) (hv : ByL vs (dueAt l i)) : ByL vs (dueAt l (i + 1)) := by
  have e : okAt l i = false := by unfold okAt; rw [decide_eq_false h2, Bool.and_false]
  unfold dueAt; rw [if_neg (by rw [e]; exact Bool.false_ne_true)]; exact hv
theorem due_no' {l : List UInt8} {i : Nat} {vs : List Value} (h1 : ((List.take 7 (List.drop i l)).toArray.toList == (#[70, 76, 65, 71, 83, 32, 40] : Array UInt8).toList) = false) (hv : ByL vs (dueAt l i)) : ByL vs (dueAt l (i + 1)) := by
  have h1' : ((List.take 7 (List.drop i l)) == FL) = false := h1
  have e : okAt l i = false := by unfold okAt; rw [h1']; rfl
  unfold dueAt; rw [if_neg (by rw [e]; exact Bool.false_ne_true)]; exact hv
section
variable {prog : Program} {w : World} {A : Around} {E : Value → Shared → Prop} {s : Shared} {h₀ : Heap} {L : Addr} {news : List (Addr × PySem.Obj)} {Q : Value → Shared → Prop}
theorem tupSame_K {a b : Addr} {na nb : Nat} {xs ys : List Value} {us vs : List (List UInt8)} (N : News h₀ L s.heap news)
    (ha : (a, ({ cls := .type "tuple", data := .seq xs.toArray na } : PySem.Obj)) ∈ news) (hb : (b, ({ cls := .type "tuple", data := .seq ys.toArray nb } : PySem.Obj)) ∈ news) (hu : ByL xs us) (hv : ByL ys vs) (hroom : A.units < cLine) (he : us = vs)
    (h : Q (.bool true) s) : wpAny (model prog w) A (compareOp .Eq (.ref a) (.ref b)) Q E s :=
  tupEq_K N ha hb hu hv hroom (by rw [decide_eq_true he]; exact h)
end
end Mine
end

section
namespace Mine
open PySem PySem.Builtin PySem.Sre
/-! the plain law: the engine's search is the law's loop -/
theorem size_N (T : List UInt8) : (toNats T).size = T.length := by simp [toNats]
theorem get_N {T : List UInt8} {i : Nat} (h : i < T.length) : (toNats T).getD i 0 = (T[i]).toNat := by
  simp [toNats, Array.getD, h]
theorem cnt_N (T : List UInt8) (f : Nat → Bool) : ∀ (n q : Nat), n = T.length - q → cnt f (toNats T) n q = ((T.drop q).takeWhile fun c => f c.toNat).length
  | 0, q, h => by
    rw [List.drop_of_length_le (by omega)]; rfl
  | n + 1, q, h => by
    have hq : q < T.length := by omega
    unfold cnt
    rw [get_N hq, List.drop_eq_getElem_cons hq, List.takeWhile_cons]
    by_cases hf : f (T[q]).toNat = true
    · rw [if_pos hf, if_pos hf, List.length_cons, cnt_N T f n (q + 1) (by omega)]
    · rw [if_neg hf, if_neg hf]; rfl
theorem ne_nat (c d : UInt8) : (c.toNat != d.toNat) = (c != d) := by
  rw [Bool.eq_iff_iff]
  simp only [bne_iff_ne, ne_eq]
  exact not_congr UInt8.toNat_inj
theorem cnt_ahead (T : List UInt8) (c : UInt8) (q : Nat) : cnt (· != c.toNat) (toNats T) ((toNats T).size - q) q = (ahead c (T.drop q)).length := by
  rw [cnt_N T _ _ q (by rw [size_N])]
  unfold ahead
  simp only [ne_nat]
theorem row_N (T : List UInt8) : row (toNats T) = (ahead 10 T).length := by
  have := cnt_ahead T 10 0
  rw [Nat.sub_zero, List.drop_zero] at this
  exact this
theorem clo_N (T : List UInt8) (q : Nat) : clo (toNats T) q = q + (ahead 41 (T.drop q)).length := by
  unfold clo
  rw [← cnt_ahead T 41 q]; rfl
theorem take_ahead (c : UInt8) (l : List UInt8) : l.take (ahead c l).length = ahead c l := by
  have h : ahead c l <+: l := List.takeWhile_prefix _
  exact (List.prefix_iff_eq_take.mp h).symm
theorem mem_ahead (c : UInt8) : ∀ l : List UInt8, (ahead c l).length < l.length ↔ c ∈ l
  | [] => by simp
  | x :: l => by
    have ih := mem_ahead c l
    unfold ahead at ih ⊢
    rw [List.takeWhile_cons]
    by_cases hx : x = c
    · subst hx; simp
    · have : (x != c) = true := by simpa using hx
      rw [if_pos this]
      simp only [List.length_cons, List.mem_cons]
      constructor
      · intro h; exact .inr (ih.mp (by omega))
      · rintro (h | h)
        · exact absurd h.symm hx
        · have := ih.mpr h; omega
theorem fl_N (T : List UInt8) (p : Nat) : fl (toNats T) p ↔ ((T.drop p).take 7 == FL) = true := by
  rw [beq_iff_eq]
  constructor
  · intro h
    apply List.ext_getElem?
    intro j
    by_cases hj : j < 7
    · obtain ⟨h1, h2⟩ := h j hj
      rw [size_N] at h1
      rw [get_N h1] at h2
      rw [List.getElem?_take, if_pos hj, List.getElem?_drop, List.getElem?_eq_getElem h1]
      have : ∀ j, j < 7 → FL[j]? = some (([70, 76, 65, 71, 83, 32, 40] : List Nat).getD j 0).toUInt8 := by decide
      rw [this j hj, ← h2]
      simp
    · rw [List.getElem?_eq_none (by simp; omega), List.getElem?_eq_none (by show FL.length ≤ j; have : FL.length = 7 := rfl; omega)]
  · intro h j hj
    have hl := congrArg List.length h
    have e7 : FL.length = 7 := rfl
    rw [e7, List.length_take, List.length_drop] at hl
    have h1 : p + j < T.length := by omega
    refine ⟨by rw [size_N]; exact h1, ?_⟩
    have hj' := congrArg (·[j]?) h
    simp only [List.getElem?_take, if_pos hj, List.getElem?_drop, List.getElem?_eq_getElem h1] at hj'
    rw [get_N h1]
    have : ∀ j, j < 7 → FL[j]? = some (([70, 76, 65, 71, 83, 32, 40] : List Nat).getD j 0).toUInt8 := by decide
    rw [this j hj] at hj'
    have e := Option.some.inj hj'
    rw [e]
    have : ∀ j, j < 7 → ((([70, 76, 65, 71, 83, 32, 40] : List Nat).getD j 0).toUInt8).toNat = ([70, 76, 65, 71, 83, 32, 40] : List Nat).getD j 0 := by decide
    exact this j hj
theorem cond_N (T : List UInt8) (p : Nat) : cond (toNats T) p ↔ okAt T p = true := by
  unfold cond okAt
  rw [Bool.and_eq_true, fl_N, decide_eq_true_eq, clo_N, size_N]
  constructor
  · rintro ⟨h1, h2⟩
    refine ⟨h1, (mem_ahead 41 _).mp ?_⟩
    rw [List.length_drop]; omega
  · rintro ⟨h1, h2⟩
    refine ⟨h1, ?_⟩
    have := (mem_ahead 41 _).mpr h2
    rw [List.length_drop] at this; omega
theorem srch_N (T : List UInt8) : ∀ n, dueAt T (n + 1) = match srch (toNats T) n with
    | some p => parted (ahead 41 (T.drop (p + 7)))
    | none => []
  | 0 => by
    unfold dueAt srch
    by_cases h : okAt T 0 = true
    · rw [if_pos h, if_pos ((cond_N T 0).mpr h)]
    · rw [if_neg h, if_neg (fun c => h ((cond_N T 0).mp c))]; rfl
  | n + 1 => by
    unfold srch
    rw [show dueAt T (n + 1 + 1) = if okAt T (n + 1) then parted (ahead 41 (T.drop (n + 1 + 7))) else dueAt T (n + 1) from rfl]
    by_cases h : okAt T (n + 1) = true
    · rw [if_pos h, if_pos ((cond_N T (n + 1)).mpr h)]
    · rw [if_neg h, if_neg (fun c => h ((cond_N T (n + 1)).mp c))]
      exact srch_N T n
theorem ahead_at (c : UInt8) : ∀ (l : List UInt8), (l.drop (ahead c l).length).head? = none ∨ (l.drop (ahead c l).length).head? = some c
  | [] => .inl rfl
  | x :: l => by
    have ih := ahead_at c l
    unfold ahead at ih ⊢
    rw [List.takeWhile_cons]
    by_cases hx : x = c
    · subst hx; right; simp
    · have : (x != c) = true := by simpa using hx
      rw [if_pos this, List.length_cons, List.drop_succ_cons]
      exact ih
theorem ok_row (T : List UInt8) : okAt T (ahead 10 T).length = false := by
  unfold okAt
  have h := ahead_at 10 T
  have e : ((T.drop (ahead 10 T).length).take 7 == FL) = false := by
    rw [beq_eq_false_iff_ne]
    intro he
    have : ((T.drop (ahead 10 T).length).take 7).head? = FL.head? := by rw [he]
    rw [List.head?_take] at this
    simp only [show (7 : Nat) ≠ 0 from by decide, if_false] at this
    rcases h with h | h <;> rw [h] at this <;> exact absurd this (by decide)
  rw [e]; rfl
theorem due_N (T : List UInt8) : dueAt T (ahead 10 T).length = match srch (toNats T) (row (toNats T)) with
    | some p => parted (ahead 41 (T.drop (p + 7)))
    | none => [] := by
  rw [row_N, ← srch_N]
  rw [show dueAt T ((ahead 10 T).length + 1) = if okAt T (ahead 10 T).length then parted (ahead 41 (T.drop ((ahead 10 T).length + 7))) else dueAt T (ahead 10 T).length from rfl, ok_row]
  rfl

/-! the two ways to part -/
def solo (cur : List UInt8) : List (List UInt8) := if cur = [] then [] else [cur]
def G (cur : List UInt8) : List UInt8 → List (List UInt8)
  | [] => solo cur
  | c :: r => if sep [c] then solo cur ++ G [] r else G (cur ++ [c]) r
theorem fold_G : ∀ (l : List UInt8) (ws : List (List UInt8)) (cur : List UInt8), ((l.foldl step (ws ++ [cur])).filter fun b => b != []) = (ws.filter fun b => b != []) ++ G cur l
  | [], ws, cur => by
    rw [List.foldl_nil, List.filter_append]
    congr 1
    unfold G solo
    by_cases h : cur = []
    · subst h; rfl
    · rw [if_neg h, List.filter_cons, if_pos (by simpa using h)]; rfl
  | c :: r, ws, cur => by
    rw [List.foldl_cons]
    unfold G
    by_cases h : sep [c] = true
    · rw [if_pos h]
      have e : step (ws ++ [cur]) c = (ws ++ [cur]) ++ [[]] := by unfold step; rw [if_pos h]
      rw [e, fold_G r (ws ++ [cur]) [], List.filter_append, List.append_assoc]
      congr 2
      unfold solo
      by_cases hc : cur = []
      · subst hc; rfl
      · rw [if_neg hc, List.filter_cons, if_pos (by simpa using hc)]; rfl
    · rw [if_neg h]
      have e : step (ws ++ [cur]) c = ws ++ [cur ++ [c]] := by
        unfold step
        rw [if_neg h]
        have e1 : (ws ++ [cur]).length - 1 = ws.length := by simp
        rw [e1]
        have e2 : (ws ++ [cur]).getD ws.length [] = cur := by simp
        rw [e2]
        simp
      rw [e, fold_G r ws (cur ++ [c])]
theorem parted_G (l : List UInt8) : parted l = G [] l := by
  have := fold_G l [] []
  simpa [parted, partW] using this
/-- no odd blanks -/
def Plain (l : List UInt8) : Prop := ∀ c ∈ l, Bytes.isSpace c = sep [c]
theorem G_drop : ∀ {l : List UInt8}, Plain l → G [] l = G [] (l.dropWhile Bytes.isSpace)
  | [], _ => rfl
  | c :: r, h => by
    rw [List.dropWhile_cons]
    have hc := h c (.head _)
    by_cases hs : Bytes.isSpace c = true
    · rw [if_pos hs, ← G_drop fun d hd => h d (.tail _ hd)]
      rw [hc] at hs
      show (if sep [c] then solo [] ++ G [] r else _) = _
      rw [if_pos hs]; rfl
    · rw [if_neg hs]
theorem G_take : ∀ {l : List UInt8} (cur : List UInt8), Plain l → G cur l = solo (cur ++ l.takeWhile (!Bytes.isSpace ·)) ++ G [] (l.dropWhile (!Bytes.isSpace ·))
  | [], cur, _ => by simp [G, solo]
  | c :: r, cur, h => by
    have hc := h c (.head _)
    rw [List.takeWhile_cons, List.dropWhile_cons]
    by_cases hs : Bytes.isSpace c = true
    · have hn : ((!Bytes.isSpace c) = true) ↔ False := by rw [hs]; simp
      simp only [hn, if_false, List.append_nil]
      rw [hc] at hs
      show (if sep [c] then solo cur ++ G [] r else _) = solo cur ++ (if sep [c] then solo [] ++ G [] r else _)
      rw [if_pos hs, if_pos hs]; rfl
    · have hn : (!Bytes.isSpace c) = true := by simpa using hs
      rw [if_pos hn, if_pos hn]
      rw [hc] at hs
      show (if sep [c] then _ else G (cur ++ [c]) r) = _
      rw [if_neg hs, G_take (cur ++ [c]) fun d hd => h d (.tail _ hd)]
      simp
theorem words_G : ∀ (n k : Nat) (l : List UInt8), Plain l → l.length < n → l.length < k → Bytes.words n k l = G [] l
  | 0, _, _, _, h, _ => absurd h (Nat.not_lt_zero _)
  | n + 1, k, l, hp, h1, h2 => by
    rw [G_drop hp]
    unfold Bytes.words
    have hlen : (l.dropWhile Bytes.isSpace).length ≤ l.length := (List.dropWhile_suffix _).length_le
    have hp' : Plain (l.dropWhile Bytes.isSpace) := fun c hc => hp c ((List.dropWhile_suffix _).mem hc)
    cases hr : l.dropWhile Bytes.isSpace with
    | nil => rfl
    | cons x r =>
      rw [hr] at hlen hp'
      have hx : Bytes.isSpace x = false := by
        have := List.head_dropWhile_not Bytes.isSpace (l := l) (by rw [hr]; exact List.cons_ne_nil _ _)
        simpa [hr] using this
      have hk : (k == 0) = false := by rw [beq_eq_false_iff_ne]; omega
      simp only [hk, Bool.false_eq_true, if_false]
      have e : (x :: r).dropWhile (!Bytes.isSpace ·) = r.dropWhile (!Bytes.isSpace ·) := by
        rw [List.dropWhile_cons, hx]; rfl
      have h3 : (r.dropWhile (!Bytes.isSpace ·)).length ≤ r.length := (List.dropWhile_suffix _).length_le
      rw [List.length_cons] at hlen
      rw [G_take [] hp', words_G n (k - 1) _ (fun c hc => hp' c ((List.dropWhile_suffix _).mem hc)) (by rw [e]; omega) (by rw [e]; omega)]
      have : solo ([] ++ (x :: r).takeWhile (!Bytes.isSpace ·)) = [(x :: r).takeWhile (!Bytes.isSpace ·)] := by
        unfold solo
        rw [List.nil_append, if_neg]
        rw [List.takeWhile_cons, hx]
        simp
      rw [this]; rfl
theorem wsplit_parted {l : List UInt8} (h : Plain l) : wsplit l = parted l := by
  rw [parted_G]; exact words_G _ _ _ h (Nat.lt_succ_self _) (Nat.lt_succ_self _)
theorem piece_plain (n : Int) : Plain (piece n) := by
  have key : ∀ j, j < 9 → ∀ c ∈ tab.getD j [], Bytes.isSpace c = sep [c] := by decide
  intro c hc
  have h0 := Int.fmod_nonneg_of_pos n (show (0 : Int) < 9 by decide)
  have h1 := Int.fmod_lt_of_pos n (show (0 : Int) < 9 by decide)
  exact key (Int.fmod n 9).toNat (by omega) c hc
theorem txt_plain (ns : List Int) : Plain (txt ns) := by
  intro c hc
  obtain ⟨n, _, h⟩ := List.mem_flatMap.mp hc
  exact piece_plain n c h
theorem law_none (ns : List Int) (h : srch (toNats (txt ns)) (row (toNats (txt ns))) = none) : ([] : List (List UInt8)) = dueAt (txt ns) (ahead 10 (txt ns)).length := by
  rw [due_N, h]
theorem law_some (ns : List Int) {p : Nat} (h : srch (toNats (txt ns)) (row (toNats (txt ns))) = some p) :
    wsplit (((txt ns).drop (p + 7)).take (clo (toNats (txt ns)) (p + 7) - (p + 7))) = dueAt (txt ns) (ahead 10 (txt ns)).length := by
  rw [due_N, h, clo_N, Nat.add_sub_cancel_left, take_ahead]
  refine wsplit_parted fun c hc => txt_plain ns c ?_
  exact List.mem_of_mem_drop ((List.takeWhile_prefix _).mem hc)
end Mine
end

open PySem PySem.W PyProof.Rows PySem.Calls PyProof.V PySem.Spec
local macro_rules | `(tactic| walk_at "subscriptTail") => `(tactic| ((k_here; (with_reducible show wpAny _ _ (subscriptTail _ _ (Value.ref _) (Value.int (Int.fmod _ _) _)) _ _ _); k_dflt (refine' Mine.item_K ?k1 ?k2 ?k3 ?k4 ?k5 ?_; (case k1 => k_asm); (case k2 => k_memK); (case k3 => rfl); (case k4 => exact fmod_lo _ (by decide)); (case k5 => exact fmod_hi _ (by decide))); intro _)))
local macro_rules | `(tactic| walk_at "binaryOp Add bytes bytes") => `(tactic| ((k_here; (with_reducible show wpAny _ _ (binaryOp Operator.Add (Value.bytes _ _) (Value.bytes _ _)) _ _ _); refine Mine.add_txt (by assumption) (by omega) ?_; intro _ _)))
local macro_rules | `(tactic| walk_at "getMethod bytes") => `(tactic| ((k_here; (with_reducible refine Mine.method_split ?_))))
local macro_rules | `(tactic| walk_at "getMethod bytes") => `(tactic| ((k_here; (rename _ = List.toArray (Mine.txt _) => hB); (refine Mine.method_txt hB (by omega) ?_); intro hT hA; subst hB)))
local macro_rules | `(tactic| walk_at "call builtin:bytes.split") => `(tactic| ((k_here; (with_reducible show wpAny _ _ (call (Value.builtin "bytes.split") [Value.bytes _ _, Value.bytes _ _]) _ _ _); k_dflt (refine' Mine.split_K ?k1 ?k2 ?k3 ?_; (case k1 => k_asm); (case k2 => k_asm); (case k3 => omega); k_whole); intro D' vs' ws' h' k' hv' hz' F' N' l1; (try k_lt l1); (try k_sweep))))
local macro_rules | `(tactic| walk_at "subscriptTail") => `(tactic| ((k_here; (with_reducible show wpAny _ _ (subscriptTail _ _ (Value.ref _) (Value.int _ _)) _ _ _); (rename Mine.ByL _ _ => hv'); k_dflt (refine' Mine.first_K ?k1 ?k2 hv' ?k4 ?k5 ?k6 ?_; (case k1 => k_asm); (case k2 => k_memK); (case k4 => decide); (case k5 => decide); (case k6 => rfl)); intro _)))
local macro_rules | `(tactic| walk_at "call builtin:len") => `(tactic| ((k_here; (with_reducible show wpAny _ _ (call (Value.builtin "len") [Value.bytes (List.toArray _) _]) _ _ _); refine Mine.lenB_K (by omega) ?_; intro _ _)))
local macro_rules | `(tactic| walk_at "pyIter ref") => `(tactic| ((k_here; (with_reducible show wpAny _ _ (pyIter (Value.ref _)) (fun it s₂ => LoopAtV _ _ _ _ _ _ _ _ _ it s₂) _ _); (rename Fr _ _ _ _ => lF'); (rename News _ _ _ _ => lN'); (rename IsRange _ _ _ _ _ _ _ _ => rgX); (with_unfolding_all refine' Mine.due_loop (by rfl) rgX (by exact small_one (by omega) (by omega) (by omega) (by omega)) (by exact (rangeSize_nat _ _).trans (by omega)) lF' lN' (by k_memK) (by rfl) (by rfl) ?ktn ?kdn); (case' ktn => (clear lF' lN'; intro i' t' D' vs' u' h' tk' own' hi' hv' hoff' F' N'; (try k_fold))); (case' kdn => (clear lF' lN'; intro D' vs' u' h' tk' hv' F' N'; (try k_fold))))))
local macro_rules | `(tactic| walk_at "subscriptTail") => `(tactic| ((k_here; (with_reducible show wpAny _ _ (subscriptTail _ (Expr.Slice _ none none _) (Value.bytes _ _) (Value.ref _)) _ _ _); (with_reducible rename Fr _ _ _ _ => F'); (with_reducible rename News _ _ _ _ => N'); (refine Mine.cut7_K (s := ⟨_, _, _, _, _⟩) F' N' (by omega) ?_); intro _ _ _ _ _ _)))
local macro_rules | `(tactic| walk_at "subscriptTail") => `(tactic| ((k_here; (with_reducible show wpAny _ _ (subscriptTail _ (Expr.Slice _ (some _) none _) (Value.bytes _ _) (Value.ref _)) _ _ _); (with_reducible rename Fr _ _ _ _ => F'); (with_reducible rename News _ _ _ _ => N'); (first | refine Mine.cut07_K (s := ⟨_, _, _, _, _⟩) F' N' (by omega) ?_ | refine Mine.cut01_K (s := ⟨_, _, _, _, _⟩) F' N' (by omega) ?_); intro _ _ _ _ _)))
local macro_rules | `(tactic| walk_at "compareOp In bytes bytes") => `(tactic| ((k_here; (with_reducible show wpAny _ _ (compareOp CmpOp.In (Value.bytes _ _) (Value.bytes _ _)) _ _ _); k_dflt (refine' Mine.in_K ?k1 ?k2 ?k3 ?_; (case k1 => k_asm); (case k2 => k_asm); (case k3 => rfl); k_whole); intro h' k' F' N'; (try k_sweep))))
local macro_rules | `(tactic| walk_at "pyIter ref") => `(tactic| ((k_here; (with_reducible show wpAny _ _ (pyIter (Value.ref _)) (fun it s₂ => LoopAtV _ _ _ _ _ _ _ _ _ it s₂) _ _); (rename Fr _ _ _ _ => lF'); (rename News _ _ _ _ => lN'); (rename IsRange _ _ _ _ _ _ _ _ => rgX); ((with_unfolding_all refine' Mine.words_loop (by rfl) rgX (by exact small_one (by omega) (by omega) (by omega) (by omega)) (by exact (rangeSize_nat _ _).trans (by omega)) lF' lN' (by rfl) (by rfl) (by exact Mine.ByL.cons .nil) (by k_all) ?ktw ?kdw)); (case' ktw => (clear lF' lN'; intro i' t' vs' n' h' tk' own' hi' hv' hz1' hz2' hz3' hne' F' N'; (try k_fold))); (case' kdw => (clear lF' lN'; intro vs' n' u' h' tk' hv' hz' F' N'; (try k_fold))))))
local macro_rules | `(tactic| walk_at "compareOp In bytes ref") => `(tactic| ((k_here; (with_reducible show wpAny _ _ (compareOp CmpOp.In (Value.bytes _ _) (Value.ref _)) _ _ _); k_dflt (refine' Mine.in3_K ?k1 ?k2 ?k3 ?_; (case k1 => k_asm); (case k2 => k_memK); (case k3 => rfl)))))
local macro_rules | `(tactic| walk_at "eval ListComp") => `(tactic| ((k_here; (rename Fr _ _ _ _ => lF'); (rename News _ _ _ _ => lN'); ((rename Mine.ByL _ (Mine.partW _) => hv')); ((with_unfolding_all refine' Mine.comp_K lF' lN' (by k_memK) hv' (by omega) ?kci (by rfl) (by decide) (by decide) (by rfl) (by decide) (by rfl) (by decide) ?kcc (by intro _; rfl))); ((case kci => (intro Q' hq'; with_unfolding_all (exact PyProof.Rows.ld lF' (by rfl) hq' (by rfl) (by rfl) (by decide))))); (case' kcc => (clear lF' lN'; intro D' o' us' h' tk' hc' hd' hv'' F' N' hne'; (try k_fold))))))
local macro_rules | `(tactic| walk_at "call type:tuple") => `(tactic| ((k_here; (with_reducible show wpAny _ _ (call (Value.type _) [Value.ref _]) _ _ _); (rename Mine.ByL _ (List.filter _ _) => hv'); k_dflt (refine' Mine.tup_K ?k1 ?k2 ?k3 ?k4 ?k5 hv' ?k7 ?_; (case k1 => k_asm); (case k2 => k_asm); (case k3 => k_memK); (case k4 => assumption); (case k5 => assumption); (case k7 => exact Nat.le_trans (List.length_filter_le _ _) (by omega)); k_whole); intro D' h' F' N' l1; (try k_lt l1); (try k_sweep))))
local macro_rules | `(tactic| walk_at "setItem ref int") => `(tactic| ((k_here; (with_reducible show wpAny _ _ (setItem (Value.ref _) (Value.int _ _) (Value.bytes _ _)) _ _ _); (rename Mine.ByL _ (Mine.wsAt _ _) => hv'); k_dflt (refine' Mine.setLast_K ?k1 ?k2 hv' ?k4 ?k5 ?k6 ?_; (case k1 => k_asm); (case k2 => k_asm); (case k4 => omega); (case k5 => omega); (case k6 => k_upd); k_whole); intro h' F' N' hv''; (try k_sweep))))
local macro_rules | `(tactic| walk_at "call builtin:list.append") => `(tactic| ((k_here; (with_reducible show wpAny _ _ (call (Value.builtin "list.append") [Value.ref _, Value.bytes _ _]) _ _ _); (rename Mine.ByL _ (Mine.wsAt _ _) => hv'); k_dflt (refine' Mine.append_B ?k1 ?k2 hv' ?k5 ?k6 ?_; (case k1 => k_asm); (case k2 => k_asm); (case k5 => omega); (case k6 => k_upd); k_whole); intro h' F' N' hv''; (try k_sweep))))
local macro_rules | `(tactic| walk_at "call builtin:len") => `(tactic| ((k_here; (with_reducible show wpAny _ _ (call (Value.builtin "len") [Value.ref _]) _ _ _); (rename Mine.ByL _ (Mine.wsAt _ _) => hv'); k_dflt (refine' Mine.len_K ?k1 ?k2 hv' ?k4 ?_; (case k1 => k_asm); (case k2 => k_memK); (case k4 => omega)); intro _ _)))
local macro_rules | `(tactic| walk_at "subscriptTail") => `(tactic| ((k_here; (with_reducible show wpAny _ _ (subscriptTail _ _ (Value.ref _) (Value.int _ _)) _ _ _); (rename Mine.ByL _ (Mine.wsAt _ _) => hv'); k_dflt (refine' Mine.last_K ?k1 ?k2 hv' ?k4 ?k5 ?_; (case k1 => k_asm); (case k2 => k_memK); (case k4 => omega); (case k5 => omega)); intro _)))
local macro_rules | `(tactic| walk_at "binaryOp Add bytes bytes") => `(tactic| ((k_here; (with_reducible show wpAny _ _ (binaryOp Operator.Add (Value.bytes (List.toArray (List.getD _ _ _)) _) (Value.bytes _ _)) _ _ _); (refine Mine.addB_K (by (rw [Mine.one_at (by assumption)]; simp only [List.length_cons, List.length_nil]; omega)) ?_); intro _ _)))
local macro_rules | `(tactic| k_all) => `(tactic| assumption)
local macro_rules | `(tactic| walk_at "getMethod ref") => `(tactic| ((k_here; k_dflt (refine' Mine.method_matchF ?k1 ?k2 ?k3 ?k4 ?_; (case k1 => k_in); (case k2 => k_is); (case k3 => rfl); (case k4 => rfl); k_whole))))
local macro_rules | `(tactic| walk_at "call builtin:re.Pattern.match") => `(tactic| ((k_here; k_dflt (refine' Mine.match_F ?k1 ?k2 ?k3 ?k4 ?k5 ?k6 ?k7 ?k8 ?k9 ?k10 ?kmn ?kms; (case k1 => k_asm); (case k2 => k_asm); (case k3 => k_in); (case k4 => k_is); (case k5 => rfl); (case k6 => rfl); (case k7 => k_is); (case k8 => rfl); (case k9 => decide +kernel); (case k10 => omega)); (case' kmn => intro hr'); (case' kms => (intro p' mo' tp' h' hr' F' N'; (try k_sweep))))))
local macro_rules | `(tactic| walk_at "InvEndN") => `(tactic| (((rename News _ _ _ _ => nE'); first
  | (refine Mine.words_end (by assumption) nE' (fun p hp => List.Mem.tail _ hp) (Mine.yes_end (by assumption) (by assumption) (by assumption)) (by kba_same))
  | (refine Mine.words_end (by assumption) nE' (fun p hp => List.Mem.tail _ hp) (Mine.no_end (by assumption) (by assumption) (by assumption)) (by kba_same)))))
local macro_rules | `(tactic| walk_at "InvEndG") => `(tactic| (((rename News _ _ _ _ => nE'); ((refine Mine.due_end (by assumption) nE' (by k_memK) (by (intro p hp; k_ownIn)) (by k_all) ?kdue (by with_unfolding_all rfl) (by (intro z h1 h2 h3; first | rfl | (simp only [if_neg h1, if_neg h2, if_neg h3]; done) | (simp [h1, h2, h3]; done))))); (case kdue => first
  | exact Mine.due_yes (by assumption) (by assumption) (by assumption)
  | exact Mine.due_no (by assumption) (by assumption)
  | exact Mine.due_no' (by assumption) (by assumption)))))
local macro_rules | `(tactic| walk_at "truthy ref") => `(tactic| ((k_here; (with_reducible show wpAny _ _ (truthy (Value.ref _)) _ _ _); k_dflt (refine' Mine.truthy_mo ?k1 ?k2 ?_; (case k1 => k_asm); (case k2 => k_memK)))))
local macro_rules | `(tactic| walk_at "compareOp Eq ref ref") => `(tactic| ((k_here; (with_reducible show wpAny _ _ (compareOp CmpOp.Eq (Value.ref _) (Value.ref _)) _ _ _); (rename Mine.ByL _ (Mine.dueAt _ _) => hv'); (rename News _ _ _ _ => nE'); first
  | (rename Mine.ByL _ (Mine.wsplit _) => hu'; ((k_dflt (refine Mine.tupSame_K nE' (by k_memK) (by k_memK) hu' hv' (by ke_room) (Mine.law_some _ (by assumption)) ?_))))
  | ((k_dflt (refine Mine.tupSame_K nE' (by k_memK) (by k_memK) Mine.ByL.nil hv' (by ke_room) (Mine.law_none _ (by assumption)) ?_))))))
local macro_rules | `(tactic| walk_at "getMethod ref") => `(tactic| ((k_here; (with_reducible show wpAny _ _ (getMethod (Value.ref _) (Str.ofString "group") _) _ _ _); k_dflt (refine' Mine.method_group ?k1 ?k2 ?_; (case k1 => k_asm); (case k2 => k_memK)))))
local macro_rules | `(tactic| walk_at "call builtin:re.Match.group") => `(tactic| ((k_here; k_dflt (refine' Mine.group_F ?k1 ?k2 ?k3 ?k4 ?k5 ?k6 ?k7 ?k8 ?k9 ?k10 ?kgr; (case k1 => k_asm); (case k2 => k_in); (case k3 => k_memK); (case k4 => k_memK); (case k5 => k_is); (case k6 => rfl); (case k7 => k_is); (case k8 => exact ⟨rfl, rfl, rfl⟩); (case k9 => rfl); (case k10 => omega)); (case' kgr => intro _ _ _))))
local macro_rules | `(tactic| walk_at "call builtin:bytes.split") => `(tactic| ((k_here; (with_reducible show wpAny _ _ (call (Value.builtin "bytes.split") [Value.bytes _ _]) _ _ _); k_dflt (refine' Mine.ws_K ?k1 ?k2 ?k3 ?_; (case k1 => k_asm); (case k2 => k_asm); (case k3 => omega); k_whole); intro D' vs' h' k' hv' F' N' l1; (try k_lt l1); (try k_sweep))))
local macro_rules | `(tactic| walk_at "call type:tuple") => `(tactic| ((k_here; (with_reducible show wpAny _ _ (call (Value.type _) [Value.ref _]) _ _ _); (rename Mine.ByL _ (Mine.wsplit _) => hv'); k_dflt (refine' Mine.tup_K ?k1 ?k2 ?k3 ?k4 ?k5 hv' ?k7 ?_; (case k1 => k_asm); (case k2 => k_asm); (case k3 => k_memK); (case k4 => rfl); (case k5 => exact ⟨_, rfl⟩); (case k7 => exact Nat.le_trans (Mine.words_sum _ _ _).1 (by omega)); k_whole); intro D' h' F' N' l1; (try k_lt l1); (try k_sweep))))

set_option maxRecDepth 100000 in
set_option maxHeartbeats 8000000 in
theorem PySem.Challenge.cw_xb0008_01_holds : PySem.Challenge.rw_xb0008_01.Holds := by
  k_with "pyIter ref" => (k_of "number" => k_state (fun pre b => b = (Mine.txt pre).toArray) "text")
  open_k
