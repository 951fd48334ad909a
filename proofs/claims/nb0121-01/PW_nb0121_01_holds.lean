import PyProof.Rows.All
import Wide.All
import OpenK.AllK
import Wide.FinOn
import Lean
import PySem.Challenge.RW_nb0121_01
set_option Elab.async false
set_option linter.unusedVariables false
set_option linter.unusedSectionVars false
set_option linter.unusedSimpArgs false
set_option genInjectivity false
set_option genSizeOf false
namespace Mine
section
set_option maxRecDepth 100000
set_option maxHeartbeats 0
open PySem PySem.W PyProof.Rows
open_top hd for PySem.Challenge.rw_nb0121_01
end

section
set_option maxRecDepth 10000
open PySem.Sre PySem.Sre.M
open PySem hiding Frame Kept exec

noncomputable def code3 : Array Nat := #[14, 9, 4, 1, 2, 16, 10, 16, 13, 0, 7, 7, 16, 13, 16, 10, 15, 18, 5, 16, 10, 15, 13, 11, 16, 13, 5, 5, 0, 16, 10, 1, 15, 2, 0, 1]
noncomputable def code1 : Array Nat := #[14, 4, 0, 1, 1, 6, 1, 16, 46, 1]

theorem runFor_some {m : M} (h : m.outcome.isSome = true) : ∀ n, runFor n m = m
  | 0 => rfl
  | n + 1 => by unfold runFor; rw [if_pos h]
theorem runFor_add (a b : Nat) (m : M) : runFor (a + b) m = runFor b (runFor a m) := by
  induction a generalizing m with
  | zero => rw [Nat.zero_add]; rfl
  | succ a ih =>
    rw [Nat.succ_add]
    by_cases h : m.outcome.isSome = true
    · rw [runFor_some h, runFor_some h, runFor_some h]
    · show (if m.outcome.isSome = true then m else runFor (a + b) m.step) = runFor b (if m.outcome.isSome = true then m else runFor a m.step)
      rw [if_neg h, if_neg h, ih]
theorem runFor_step {m : M} (h : m.outcome = none) (n : Nat) : runFor (n + 1) m = runFor n m.step := by
  show (if m.outcome.isSome = true then m else runFor n m.step) = _
  rw [h]; rfl

/-- the machine over code3 -/
noncomputable def mk3 (text : Array Nat) (lim start pc pos handed : Nat) (outermost : Bool) (frames : List Frame) (weight : Nat) (answer : Option Bool) (seen : Seen) : M :=
  { code := code3, text, lim, start, lastStart := lim, wholeText := false, mustAdvance := false, pc, pos, handed, outermost, marks := #[], lastmark := -1, lastindex := -1, loops := #[], inner := none, frames, weight, answer, seen, outcome := none }

theorem lit3 {text : Array Nat} {lim start pc pos handed : Nat} {om : Bool} {fs : List Frame} {wt : Nat} {seen : Seen} (c : Nat) (hop : code3.getD pc 0 = 16) (hc : code3.getD (pc + 1) 0 = c) (hpc : pc < code3.size) :
    (mk3 text lim start pc pos handed om fs wt none seen).step =
      if pos ≥ lim then mk3 text lim start pc pos handed om fs wt (some false) (seen.add 16)
      else if text.getD pos 0 = c then mk3 text lim start (pc + 2) (pos + 1) handed om fs wt none (seen.add 16)
      else mk3 text lim start pc pos handed om fs wt (some false) (seen.add 16) := by
  have hw : (mk3 text lim start pc pos handed om fs wt none seen).word 0 = 16 := hop
  have hops : ops[(mk3 text lim start pc pos handed om fs wt none seen).word 0]? = some .LITERAL := by rw [hw]; rfl
  show (if pc < code3.size then (mk3 text lim start pc pos handed om fs wt none seen).exec else _) = _
  rw [if_pos hpc]
  unfold exec
  dsimp only
  rw [hops]
  dsimp only
  rw [hw]
  show (if pos ≥ lim then _ else _) = _
  by_cases hp : pos ≥ lim
  · rw [if_pos hp, if_pos hp]; rfl
  · rw [if_neg hp, if_neg hp]
    have ha : accepts code3 pc (text.getD pos 0) (seen.add 16) = .ok (text.getD pos 0 == c, seen.add 16) := by
      unfold accepts
      rw [hop]
      show Except.ok (text.getD pos 0 == code3.getD (pc + 1) 0, seen.add 16) = _
      rw [hc]
    show (match accepts code3 pc (text.getD pos 0) (seen.add 16) with | .error why => _ | .ok (false, seen) => _ | .ok (true, seen) => _) = _
    rw [ha]
    by_cases he : text.getD pos 0 = c
    · have : (text.getD pos 0 == c) = true := by rw [he]; exact beq_self_eq_true c
      rw [this, if_pos he]
      have hwid : itemWidth code3 pc = 2 := by unfold itemWidth; rw [hop]; rfl
      show ({ (mk3 text lim start pc pos handed om fs wt none (seen.add 16)) with pc := pc + itemWidth code3 pc, pos := pos + 1 } : M) = _
      rw [hwid]; rfl
    · have : (text.getD pos 0 == c) = false := by
        cases q : text.getD pos 0 == c with
        | false => rfl
        | true => exact absurd (eq_of_beq q) he
      rw [this, if_neg he]; rfl

/-- within n steps the machine comes from one state to another -/
noncomputable def Rch (n : Nat) (m m' : M) : Prop := ∃ k, k ≤ n ∧ runFor k m = m'
theorem Rch.refl (m : M) : Rch 0 m m := ⟨0, Nat.le_refl _, rfl⟩
theorem Rch.step {n : Nat} {m m' m'' : M} (h : m.outcome = none) (e : m.step = m') (r : Rch n m' m'') : Rch (n + 1) m m'' := by
  obtain ⟨k, hk, e'⟩ := r
  exact ⟨k + 1, Nat.succ_le_succ hk, by rw [runFor_step h, e, e']⟩
theorem Rch.trans {a b : Nat} {m m' m'' : M} (h : Rch a m m') (r : Rch b m' m'') : Rch (a + b) m m'' := by
  obtain ⟨k, hk, e⟩ := h
  obtain ⟨l, hl, e'⟩ := r
  exact ⟨k + l, Nat.add_le_add hk hl, by rw [runFor_add, e, e']⟩
theorem Rch.mono {a b : Nat} {m m' : M} (h : Rch a m m') (hab : a ≤ b) : Rch b m m' := let ⟨k, hk, e⟩ := h; ⟨k, Nat.le_trans hk hab, e⟩

section
variable {text : Array Nat} {lim start pc pos handed : Nat} {om : Bool} {fs : List Frame} {wt : Nat} {seen : Seen}
noncomputable def kept0 : Kept := { lastmark := -1, lastindex := -1, whole := false, marks := #[] }
noncomputable def fB (pc pos : Nat) (om : Bool) : Frame := { wait := .nextBranch, pc, pos, outermost := om, kept := kept0 }
noncomputable def fL (pc pos : Nat) (om : Bool) : Frame := { wait := .lookNot, pc, pos, outermost := om, kept := kept0 }
noncomputable def fS (pc pos : Nat) (om : Bool) : Frame := { wait := .nextStart, pc, pos, outermost := om }
theorem exec_of {m : M} (h : m.outcome = none) (ha : m.answer = none) (hpc : m.pc < m.code.size) : m.step = m.exec := by
  unfold M.step
  rw [h, ha]
  show (if m.pc < m.code.size then m.exec else _) = _
  rw [if_pos hpc]
theorem jump3 (hop : code3.getD pc 0 = 15) (hpc : pc < code3.size) :
    (mk3 text lim start pc pos handed om fs wt none seen).step = mk3 text lim start (pc + 1 + code3.getD (pc + 1) 0) pos handed om fs wt none (seen.add 15) := by
  rw [exec_of rfl rfl hpc]
  have hw : (mk3 text lim start pc pos handed om fs wt none seen).word 0 = 15 := hop
  have hops : ops[(mk3 text lim start pc pos handed om fs wt none seen).word 0]? = some .JUMP := by rw [hw]; rfl
  unfold exec
  dsimp only
  rw [hops]
  dsimp only
  rw [hw]
  rfl
theorem succ3 (hop : code3.getD pc 0 = 1) (hpc : pc < code3.size) :
    (mk3 text lim start pc pos handed om fs wt none seen).step = mk3 text lim start pc pos pos om fs wt (some true) (seen.add 1) := by
  rw [exec_of rfl rfl hpc]
  have hw : (mk3 text lim start pc pos handed om fs wt none seen).word 0 = 1 := hop
  have hops : ops[(mk3 text lim start pc pos handed om fs wt none seen).word 0]? = some .SUCCESS := by rw [hw]; rfl
  unfold exec
  dsimp only
  rw [hops]
  dsimp only
  rw [hw, if_neg (by simp [mk3])]
  rfl
theorem attempt3 (f : Frame) (hf : f.kept.marks.size = 0) (t fr : Nat) (o : Bool) (hw : wt + 1 ≤ 16777216) :
    (mk3 text lim start pc pos handed om fs wt none seen).attempt f t fr o = mk3 text lim start t fr fr o (f :: fs) (wt + 1) none seen := by
  unfold attempt
  rw [hf]
  show (if wt + 1 + 0 > 16777216 then _ else _) = _
  rw [if_neg (by omega)]
  rfl
theorem branch3 (hop : code3.getD pc 0 = 7) (hpc : pc < code3.size) (hn : (code3.getD (pc + 1) 0 == 0) = false) (hw : wt + 1 ≤ 16777216) :
    (mk3 text lim start pc pos handed om fs wt none seen).step = mk3 text lim start (pc + 1 + 1) pos pos om (fB (pc + 1) pos om :: fs) (wt + 1) none (seen.add 7) := by
  rw [exec_of rfl rfl hpc]
  have hw0 : (mk3 text lim start pc pos handed om fs wt none seen).word 0 = 7 := hop
  have hops : ops[(mk3 text lim start pc pos handed om fs wt none seen).word 0]? = some .BRANCH := by rw [hw0]; rfl
  unfold exec
  dsimp only
  rw [hops]
  dsimp only
  rw [hw0]
  show (if code3.getD (pc + 1) 0 == 0 then _ else _) = _
  rw [if_neg (by rw [hn]; exact Bool.false_ne_true)]
  exact attempt3 (fB (pc + 1) pos om) rfl _ _ _ hw
theorem anot3 (hop : code3.getD pc 0 = 5) (hpc : pc < code3.size) (h2 : code3.getD (pc + 2) 0 = 0) (hw : wt + 1 ≤ 16777216) :
    (mk3 text lim start pc pos handed om fs wt none seen).step = mk3 text lim start (pc + 3) pos pos false (fL pc pos om :: fs) (wt + 1) none (seen.add 5) := by
  rw [exec_of rfl rfl hpc]
  have hw0 : (mk3 text lim start pc pos handed om fs wt none seen).word 0 = 5 := hop
  have hops : ops[(mk3 text lim start pc pos handed om fs wt none seen).word 0]? = some .ASSERT_NOT := by rw [hw0]; rfl
  unfold exec
  dsimp only
  rw [hops]
  dsimp only
  rw [hw0]
  show (if pos < code3.getD (pc + 2) 0 then _ else M.attempt _ _ _ (pos - code3.getD (pc + 2) 0) _) = _
  rw [h2, if_neg (Nat.not_lt_zero _)]
  exact attempt3 (fL pc pos om) rfl _ _ _ hw
/-- answers -/
theorem yesB3 {p q : Nat} {o : Bool} : (mk3 text lim start pc pos handed om (fB p q o :: fs) (wt + 1) (some true) seen).step = mk3 text lim start p q handed o fs wt (some true) seen := rfl
theorem yesS3 {p q : Nat} {o : Bool} : (mk3 text lim start pc pos handed om (fS p q o :: fs) (wt + 1) (some true) seen).step = mk3 text lim start p q handed o fs wt (some true) seen := rfl
theorem noB3 {p q : Nat} {o : Bool} (hn : (code3.getD (p + code3.getD p 0) 0 == 0) = false) (hw : wt + 1 ≤ 16777216) :
    (mk3 text lim start pc pos handed om (fB p q o :: fs) (wt + 1) (some false) seen).step =
      mk3 text lim start (p + code3.getD p 0 + 1) q q o (fB (p + code3.getD p 0) q o :: fs) (wt + 1) none seen := by
  show (if code3.getD (p + code3.getD p 0) 0 == 0 then _ else _) = _
  rw [if_neg (by rw [hn]; exact Bool.false_ne_true)]
  exact attempt3 (pc := p) (pos := q) (handed := handed) (om := o) (fB (p + code3.getD p 0) q o) rfl _ _ _ hw
theorem noL3 {p q : Nat} {o : Bool} : (mk3 text lim start pc pos handed om (fL p q o :: fs) (wt + 1) (some false) seen).step = mk3 text lim start (p + 1 + code3.getD (p + 1) 0) q handed o fs wt none seen := rfl

noncomputable def fin3 (text : Array Nat) (lim start pc pos handed : Nat) (om : Bool) (seen : Seen) : M := { mk3 text lim start pc pos handed om [] 0 (some true) seen with outcome := some .matched }
theorem last3 : (mk3 text lim start pc pos handed om [] 0 (some true) seen).step = fin3 text lim start pc pos handed om seen := rfl
theorem lit3_yes (c : Nat) (hop : code3.getD pc 0 = 16) (hc : code3.getD (pc + 1) 0 = c) (hpc : pc < code3.size) (h1 : pos < lim) (h2 : text.getD pos 0 = c) :
    (mk3 text lim start pc pos handed om fs wt none seen).step = mk3 text lim start (pc + 2) (pos + 1) handed om fs wt none (seen.add 16) := by
  rw [lit3 c hop hc hpc, if_neg (by omega), if_pos h2]
theorem lit3_no (c : Nat) (hop : code3.getD pc 0 = 16) (hc : code3.getD (pc + 1) 0 = c) (hpc : pc < code3.size) (h : ¬ (pos < lim ∧ text.getD pos 0 = c)) :
    (mk3 text lim start pc pos handed om fs wt none seen).step = mk3 text lim start pc pos handed om fs wt (some false) (seen.add 16) := by
  rw [lit3 c hop hc hpc]
  by_cases h1 : pos ≥ lim
  · rw [if_pos h1]
  · rw [if_neg h1, if_neg fun h2 => h ⟨by omega, h2⟩]
/-- how many signs a line end takes -/
noncomputable def endLen (text : Array Nat) (lim s : Nat) : Nat := if text.getD s 0 = 13 ∧ s + 1 < lim ∧ text.getD (s + 1) 0 = 10 then 2 else 1
theorem tail3 {s q h : Nat} {om2 : Bool} {p : Nat} : ∃ pc' pos' seen', Rch 5 (mk3 text lim start 35 q h om2 [fB p s true, fS 10 s true] 2 none seen) (fin3 text lim start pc' pos' q true seen') :=
  ⟨_, _, _, .step rfl (succ3 rfl (by decide)) <| .step rfl yesB3 <| .step rfl yesS3 <| .step rfl last3 <| (Rch.refl _).mono (by omega)⟩
theorem match3 {s : Nat} (hs : s < lim) (hc : text.getD s 0 = 13 ∨ text.getD s 0 = 10) :
    ∃ pc' pos' seen', Rch 30 (mk3 text lim s 10 s s true [fS 10 s true] 1 none seen) (fin3 text lim s pc' pos' (s + endLen text lim s) true seen') := by
  by_cases h13 : text.getD s 0 = 13
  · by_cases h10 : s + 1 < lim ∧ text.getD (s + 1) 0 = 10
    · have e : s + endLen text lim s = s + 1 + 1 := by unfold endLen; rw [if_pos ⟨h13, h10⟩]
      rw [e]
      obtain ⟨a, b, c, r⟩ := tail3 (text := text) (lim := lim) (start := s) (s := s) (q := s + 1 + 1) (h := s) (om2 := true) (p := 11) (seen := ((((seen.add 7).add 16).add 16).add 15))
      exact ⟨a, b, c, (Rch.step rfl (branch3 rfl (by decide) rfl (by omega)) <| .step rfl (lit3_yes 13 rfl rfl (by decide) hs h13) <| .step rfl (lit3_yes 10 rfl rfl (by decide) h10.1 h10.2) <|
        .step rfl (jump3 rfl (by decide)) r).mono (by omega)⟩
    · have e : s + endLen text lim s = s + 1 := by unfold endLen; rw [if_neg fun x => h10 x.2]
      rw [e]
      obtain ⟨a, b, c, r⟩ := tail3 (text := text) (lim := lim) (start := s) (s := s) (q := s + 1) (h := s + 1) (om2 := true) (p := 23) (seen := ((((((((seen.add 7).add 16).add 16).add 16).add 16).add 5).add 16).add 15))
      exact ⟨a, b, c, (Rch.step rfl (branch3 rfl (by decide) rfl (by omega)) <| .step rfl (lit3_yes 13 rfl rfl (by decide) hs h13) <| .step rfl (lit3_no 10 rfl rfl (by decide) h10) <|
        .step rfl (noB3 rfl (by omega)) <| .step rfl (lit3_no 10 rfl rfl (by decide) fun x => by rw [h13] at x; omega) <|
        .step rfl (noB3 rfl (by omega)) <| .step rfl (lit3_yes 13 rfl rfl (by decide) hs h13) <| .step rfl (anot3 rfl (by decide) rfl (by omega)) <| .step rfl (lit3_no 10 rfl rfl (by decide) h10) <|
        .step rfl noL3 <| .step rfl (jump3 rfl (by decide)) r).mono (by omega)⟩
  · have h10 : text.getD s 0 = 10 := hc.resolve_left h13
    have e : s + endLen text lim s = s + 1 := by unfold endLen; rw [if_neg fun x => h13 x.1]
    rw [e]
    obtain ⟨a, b, c, r⟩ := tail3 (text := text) (lim := lim) (start := s) (s := s) (q := s + 1) (h := s) (om2 := true) (p := 18) (seen := ((((seen.add 7).add 16).add 16).add 15))
    exact ⟨a, b, c, (Rch.step rfl (branch3 rfl (by decide) rfl (by omega)) <| .step rfl (lit3_no 13 rfl rfl (by decide) fun x => h13 x.2) <| .step rfl (noB3 rfl (by omega)) <|
      .step rfl (lit3_yes 10 rfl rfl (by decide) hs h10) <| .step rfl (jump3 rfl (by decide)) r).mono (by omega)⟩
end
end

section
set_option maxRecDepth 10000
open PySem.Sre PySem.Sre.M
open PySem hiding Frame Kept exec

theorem inSet_lit {code : Array Nat} {c fuel i : Nat} {yes : Bool} {seen : Seen} (h : code.getD i 0 = 16) :
    inSet code c (fuel + 1) i yes seen = if c == code.getD (i + 1) 0 then .ok (yes, seen.add 16) else inSet code c fuel (i + 2) yes (seen.add 16) := by
  rw [inSet.eq_2]
  simp only [Nat.add_zero, h]
  rfl
theorem inSet_end {code : Array Nat} {c fuel i : Nat} {yes : Bool} {seen : Seen} (h : code.getD i 0 = 0) : inSet code c (fuel + 1) i yes seen = .ok (!yes, seen.add 0) := by
  rw [inSet.eq_2]
  simp only [Nat.add_zero, h]
  rfl
noncomputable def isEnd (c : Nat) : Bool := c == 10 || c == 13
theorem inSet3 (c : Nat) (seen : Seen) : ∃ sn, inSet code3 c code3.size 5 true seen = .ok (isEnd c, sn) := by
  show ∃ sn, inSet code3 c (35 + 1) 5 true seen = _
  rw [inSet_lit rfl]
  show ∃ sn, (if c == 10 then _ else _) = _
  unfold isEnd
  cases h1 : c == 10 with
  | true => exact ⟨_, rfl⟩
  | false =>
    simp only [Bool.false_eq_true, if_false, Bool.false_or]
    rw [show 35 = 34 + 1 from rfl, inSet_lit rfl]
    show ∃ sn, (if c == 13 then _ else _) = _
    cases h2 : c == 13 with
    | true => exact ⟨_, rfl⟩
    | false =>
      simp only [Bool.false_eq_true, if_false]
      rw [show 34 = 33 + 1 from rfl, inSet_end rfl]
      exact ⟨_, rfl⟩
noncomputable def nextEnd (text : Array Nat) (lim : Nat) : Nat → Nat → Option Nat
  | 0, _ => none
  | f + 1, s => if s ≥ lim then none else if isEnd (text.getD s 0) then some s else nextEnd text lim f (s + 1)
theorem admitted3 {m : M} (hc : m.code = code3) : ∀ (f s : Nat) (seen : Seen), ∃ sn, admitted m f s seen = .ok (nextEnd m.text m.lim f s, sn)
  | 0, s, seen => ⟨seen, rfl⟩
  | f + 1, s, seen => by
    unfold admitted nextEnd
    by_cases h : s ≥ m.lim
    · rw [if_pos h, if_pos h]; exact ⟨_, rfl⟩
    · rw [if_neg h, if_neg h, hc]
      obtain ⟨sn, e⟩ := inSet3 (m.text.getD s 0) seen
      rw [e]
      cases hb : isEnd (m.text.getD s 0) with
      | true => exact ⟨_, rfl⟩
      | false => exact admitted3 hc f (s + 1) sn
theorem nextEnd_some {text : Array Nat} {lim : Nat} : ∀ {f s r : Nat}, nextEnd text lim f s = some r → r < lim ∧ s ≤ r ∧ isEnd (text.getD r 0) = true ∧ ∀ i, s ≤ i → i < r → isEnd (text.getD i 0) = false
  | 0, _, _, h => by cases h
  | f + 1, s, r, h => by
    unfold nextEnd at h
    split at h
    · cases h
    · rename_i h1
      split at h
      · rename_i h2
        cases h
        exact ⟨by omega, Nat.le_refl _, h2, fun i a b => by omega⟩
      · rename_i h2
        obtain ⟨a, b, c, d⟩ := nextEnd_some h
        refine ⟨a, by omega, c, fun i hi hir => ?_⟩
        by_cases e : i = s
        · subst e; simpa using h2
        · exact d i (by omega) hir
theorem nextEnd_none {text : Array Nat} {lim : Nat} : ∀ {f s : Nat}, lim ≤ s + f → nextEnd text lim f s = none → ∀ i, s ≤ i → i < lim → isEnd (text.getD i 0) = false
  | 0, s, hf, _, i, hi, hl => by omega
  | f + 1, s, hf, h, i, hi, hl => by
    unfold nextEnd at h
    split at h
    · omega
    · split at h
      · cases h
      · rename_i h2
        by_cases e : i = s
        · subst e; simpa using h2
        · exact nextEnd_none (by omega) h i (by omega) hl

theorem search3_some {text : Array Nat} {lim pos r : Nat} (h : nextEnd text lim (lim + 1 - pos) pos = some r) :
    ∃ pc' pos' seen', Rch 30 (forSearch code3 text 0 pos lim false) (fin3 text lim r pc' pos' (r + endLen text lim r) true seen') := by
  obtain ⟨h1, h2, h3, _⟩ := nextEnd_some h
  have hm : ∃ sn, forSearch code3 text 0 pos lim false = mk3 text lim r 10 r r true [fS 10 r true] 1 none sn := by
    unfold forSearch
    dsimp only
    rw [show (header code3).1 = 1 from rfl]
    rw [if_neg (by simp only [Bool.or_eq_true, decide_eq_true_eq]; omega)]
    show ∃ sn, M.attemptFrom (mk3 text lim pos 10 pos pos true [] 0 none (({} : Seen).add 14)) pos true = _
    unfold M.attemptFrom
    rw [show (!(mk3 text lim pos 10 pos pos true [] 0 none (({} : Seen).add 14)).hasFirstSet) = false from rfl, if_neg Bool.false_ne_true]
    obtain ⟨sn, e⟩ := admitted3 (m := mk3 text lim pos 10 pos pos true [] 0 none (({} : Seen).add 14)) rfl (lim + 1 - pos) pos (({} : Seen).add 14)
    have e' : admitted (mk3 text lim pos 10 pos pos true [] 0 none (({} : Seen).add 14)) ((mk3 text lim pos 10 pos pos true [] 0 none (({} : Seen).add 14)).lim + 1 - pos) pos (mk3 text lim pos 10 pos pos true [] 0 none (({} : Seen).add 14)).seen = .ok (some r, sn) := by
      rw [← h]; exact e
    rw [e']
    exact ⟨sn, attempt3 (pc := 10) (pos := r) (handed := pos) (om := true) (start := r) (wt := 0) (fs := []) (fS 10 r true) rfl _ _ _ (by omega)⟩
  obtain ⟨sn, e⟩ := hm
  rw [e]
  refine match3 h1 ?_
  unfold isEnd at h3
  rw [Bool.or_eq_true, beq_iff_eq, beq_iff_eq] at h3
  exact h3.symm
theorem search3_none {text : Array Nat} {lim pos : Nat} (h : nextEnd text lim (lim + 1 - pos) pos = none) :
    ∃ m', Rch 30 (forSearch code3 text 0 pos lim false) m' ∧ m'.outcome = some .failed := by
  have hm : ∃ sn p, forSearch code3 text 0 pos lim false = { mk3 text lim pos 10 pos pos true [] 0 (some false) sn with lastStart := p } := by
    unfold forSearch
    dsimp only
    rw [show (header code3).1 = 1 from rfl]
    by_cases hl : (decide (pos > lim) || decide (lim - pos < 1)) = true
    · rw [if_pos hl]; exact ⟨_, _, rfl⟩
    · rw [if_neg hl]
      show ∃ sn p, M.attemptFrom (mk3 text lim pos 10 pos pos true [] 0 none (({} : Seen).add 14)) pos true = _
      unfold M.attemptFrom
      rw [show (!(mk3 text lim pos 10 pos pos true [] 0 none (({} : Seen).add 14)).hasFirstSet) = false from rfl, if_neg Bool.false_ne_true]
      obtain ⟨sn, e⟩ := admitted3 (m := mk3 text lim pos 10 pos pos true [] 0 none (({} : Seen).add 14)) rfl (lim + 1 - pos) pos (({} : Seen).add 14)
      have e' : admitted (mk3 text lim pos 10 pos pos true [] 0 none (({} : Seen).add 14)) ((mk3 text lim pos 10 pos pos true [] 0 none (({} : Seen).add 14)).lim + 1 - pos) pos (mk3 text lim pos 10 pos pos true [] 0 none (({} : Seen).add 14)).seen = .ok (none, sn) := by
        rw [← h]; exact e
      rw [e']
      exact ⟨sn, lim, rfl⟩
  obtain ⟨sn, p, e⟩ := hm
  rw [e]
  exact ⟨_, (Rch.step rfl rfl (Rch.refl _)).mono (by omega), rfl⟩
end

section
set_option maxRecDepth 10000
open PySem.Sre PySem.Sre.M
open PySem hiding Frame Kept exec

noncomputable def mk1 (text : Array Nat) (lim start pc pos handed : Nat) (outermost : Bool) (frames : List Frame) (weight : Nat) (answer : Option Bool) (seen : Seen) : M :=
  { code := code1, text, lim, start, lastStart := lim, wholeText := false, mustAdvance := false, pc, pos, handed, outermost, marks := #[], lastmark := -1, lastindex := -1, loops := #[], inner := none, frames, weight, answer, seen, outcome := none }
noncomputable def fin1 (text : Array Nat) (lim start pc pos handed : Nat) (om : Bool) (seen : Seen) : M := { mk1 text lim start pc pos handed om [] 0 (some true) seen with outcome := some .matched }
/-- a dot at a row's head -/
noncomputable def isDot (text : Array Nat) (s : Nat) : Bool := (s == 0 || text.getD (s - 1) 0 == 10) && text.getD s 0 == 46
noncomputable def nextDot (text : Array Nat) (lim : Nat) : Nat → Nat → Option Nat
  | 0, _ => none
  | f + 1, s => if s ≥ lim then none else if isDot text s then some s else nextDot text lim f (s + 1)
section
variable {text : Array Nat} {lim start pc pos handed : Nat} {om : Bool} {fs : List Frame} {wt : Nat} {seen : Seen}
theorem at1 : (mk1 text lim start 5 pos handed om fs wt none seen).step =
    if (pos == 0 || text.getD (pos - 1) 0 == 10) = true then mk1 text lim start 7 pos handed om fs wt none ((seen.add 6).add 44) else mk1 text lim start 5 pos handed om fs wt (some false) ((seen.add 6).add 44) := by
  rw [exec_of rfl rfl (show 5 < 10 by omega)]
  have hops : ops[(mk1 text lim start 5 pos handed om fs wt none seen).word 0]? = some .AT := rfl
  unfold exec
  dsimp only
  rw [hops]
  dsimp only
  show (if (pos == 0 || text.getD (pos - 1) 0 == 10) = true then _ else _) = _
  rfl
theorem lit1 : (mk1 text lim start 7 pos handed om fs wt none seen).step =
      if pos ≥ lim then mk1 text lim start 7 pos handed om fs wt (some false) (seen.add 16)
      else if text.getD pos 0 == 46 then mk1 text lim start 9 (pos + 1) handed om fs wt none (seen.add 16)
      else mk1 text lim start 7 pos handed om fs wt (some false) (seen.add 16) := by
  rw [exec_of rfl rfl (show 7 < 10 by omega)]
  have hops : ops[(mk1 text lim start 7 pos handed om fs wt none seen).word 0]? = some .LITERAL := rfl
  unfold exec
  dsimp only
  rw [hops]
  dsimp only
  show (if pos ≥ lim then _ else _) = _
  by_cases hp : pos ≥ lim
  · rw [if_pos hp, if_pos hp]; rfl
  · rw [if_neg hp, if_neg hp]
    have ha : accepts code1 7 (text.getD pos 0) (seen.add 16) = .ok (text.getD pos 0 == 46, seen.add 16) := rfl
    show (match accepts code1 7 (text.getD pos 0) (seen.add 16) with | .error why => _ | .ok (false, seen) => _ | .ok (true, seen) => _) = _
    rw [ha]
    cases h : text.getD pos 0 == 46 with
    | true => rfl
    | false => rfl
theorem succ1 : (mk1 text lim start 9 pos handed om fs wt none seen).step = mk1 text lim start 9 pos pos om fs wt (some true) (seen.add 1) := by
  rw [exec_of rfl rfl (show 9 < 10 by omega)]
  have hops : ops[(mk1 text lim start 9 pos handed om fs wt none seen).word 0]? = some .SUCCESS := rfl
  unfold exec
  dsimp only
  rw [hops]
  dsimp only
  rw [if_neg (by simp [mk1])]
  rfl
theorem attempt1 (f : Frame) (hf : f.kept.marks.size = 0) (t fr : Nat) (o : Bool) (hw : wt + 1 ≤ 16777216) :
    (mk1 text lim start pc pos handed om fs wt none seen).attempt f t fr o = mk1 text lim start t fr fr o (f :: fs) (wt + 1) none seen := by
  unfold attempt
  rw [hf]
  show (if wt + 1 + 0 > 16777216 then _ else _) = _
  rw [if_neg (by omega)]
  rfl
theorem yesS1 {p q : Nat} {o : Bool} : (mk1 text lim start pc pos handed om (fS p q o :: fs) (wt + 1) (some true) seen).step = mk1 text lim start p q handed o fs wt (some true) seen := rfl
theorem last1 : (mk1 text lim start pc pos handed om [] 0 (some true) seen).step = fin1 text lim start pc pos handed om seen := rfl
theorem noS1 {q : Nat} {o : Bool} (h : q < lim) :
    (mk1 text lim start pc pos handed om [fS 5 q o] 1 (some false) seen).step = mk1 text lim (q + 1) 5 (q + 1) (q + 1) false [fS 5 (q + 1) false] 1 none seen := by
  show (if q < lim then _ else _) = _
  rw [if_pos h]
  show M.attemptFrom (mk1 text lim start 5 q handed o [] 0 none seen) (q + 1) false = _
  unfold M.attemptFrom
  rw [show (!(mk1 text lim start 5 q handed o [] 0 none seen).hasFirstSet) = true from rfl, if_pos rfl]
  exact attempt1 (pc := 5) (pos := q + 1) (handed := handed) (om := o) (start := q + 1) (wt := 0) (fs := []) (fS 5 (q + 1) false) rfl _ _ _ (by omega)
theorem overS1 {q : Nat} {o : Bool} (h : ¬ q < lim) : ∃ m', Rch 2 (mk1 text lim start pc pos handed om [fS 5 q o] 1 (some false) seen) m' ∧ m'.outcome = some .failed := by
  have e : (mk1 text lim start pc pos handed om [fS 5 q o] 1 (some false) seen).step = mk1 text lim start 5 q handed o [] 0 (some false) seen := by
    show (if q < lim then _ else _) = _
    rw [if_neg h]; rfl
  exact ⟨_, .step rfl e <| .step rfl rfl <| Rch.refl _, rfl⟩
/-- one start: it matches, or says no -/
theorem one1 {s : Nat} {o : Bool} : (s < lim ∧ isDot text s = true ∧ ∃ pc' pos' seen', Rch 6 (mk1 text lim s 5 s s o [fS 5 s o] 1 none seen) (fin1 text lim s pc' pos' (s + 1) o seen')) ∨
    ((s < lim → isDot text s = false) ∧ ∃ pc' pos' sn, Rch 6 (mk1 text lim s 5 s s o [fS 5 s o] 1 none seen) (mk1 text lim s pc' pos' s o [fS 5 s o] 1 (some false) sn)) := by
  by_cases h1 : (s == 0 || text.getD (s - 1) 0 == 10) = true
  · by_cases h2 : s < lim
    · by_cases h3 : (text.getD s 0 == 46) = true
      · refine .inl ⟨h2, by unfold isDot; rw [h1, h3]; rfl, _, _, _, (Rch.step rfl (at1.trans (if_pos h1)) <| .step rfl (lit1.trans ((if_neg (by omega)).trans (if_pos h3))) <| .step rfl succ1 <| .step rfl yesS1 <| .step rfl last1 <| Rch.refl _).mono (by omega)⟩
      · refine .inr ⟨fun _ => by unfold isDot; rw [h1]; simpa using h3, _, _, _, (Rch.step rfl (at1.trans (if_pos h1)) <| .step rfl (lit1.trans ((if_neg (by omega)).trans (if_neg h3))) <| Rch.refl _).mono (by omega)⟩
    · exact .inr ⟨fun q => absurd q h2, _, _, _, (Rch.step rfl (at1.trans (if_pos h1)) <| .step rfl (lit1.trans (if_pos (by omega))) <| Rch.refl _).mono (by omega)⟩
  · exact .inr ⟨fun _ => by unfold isDot; rw [Bool.eq_false_iff.mpr h1]; rfl, _, _, _, (Rch.step rfl (at1.trans (if_neg h1)) <| Rch.refl _).mono (by omega)⟩
theorem from1 : ∀ (f s : Nat) (o : Bool) (seen : Seen), lim + 1 ≤ s + f → s ≤ lim → 0 < f →
    (∀ r, nextDot text lim f s = some r → ∃ pc' pos' o' seen', Rch (8 * f) (mk1 text lim s 5 s s o [fS 5 s o] 1 none seen) (fin1 text lim r pc' pos' (r + 1) o' seen')) ∧
    (nextDot text lim f s = none → ∃ m', Rch (8 * f) (mk1 text lim s 5 s s o [fS 5 s o] 1 none seen) m' ∧ m'.outcome = some .failed)
  | 0, _, _, _, _, _, h => absurd h (Nat.lt_irrefl _)
  | f + 1, s, o, seen, hf, hs, _ => by
    rcases one1 (text := text) (lim := lim) (seen := seen) (s := s) (o := o) with ⟨h1, h2, a, b, c, r⟩ | ⟨h2, a, b, c, r⟩
    · have e : nextDot text lim (f + 1) s = some s := by unfold nextDot; rw [if_neg (by omega), if_pos h2]
      rw [e]
      exact ⟨fun x hx => by cases hx; exact ⟨a, b, o, c, r.mono (by omega)⟩, fun hx => by cases hx⟩
    · by_cases hl : s < lim
      · have e : nextDot text lim (f + 1) s = nextDot text lim f (s + 1) := by
          rw [nextDot.eq_2, if_neg (by omega), if_neg (by rw [h2 hl]; exact Bool.false_ne_true)]
        rw [e]
        have ih := from1 f (s + 1) false c (by omega) (by omega) (by omega)
        have st : Rch 7 (mk1 text lim s 5 s s o [fS 5 s o] 1 none seen) (mk1 text lim (s + 1) 5 (s + 1) (s + 1) false [fS 5 (s + 1) false] 1 none c) :=
          r.trans (.step rfl (noS1 hl) (Rch.refl _))
        refine ⟨fun x hx => ?_, fun hx => ?_⟩
        · obtain ⟨a', b', o', c', r'⟩ := ih.1 x hx
          exact ⟨a', b', o', c', (st.trans r').mono (by omega)⟩
        · obtain ⟨m', r', ho⟩ := ih.2 hx
          exact ⟨m', (st.trans r').mono (by omega), ho⟩
      · have e : nextDot text lim (f + 1) s = none := by rw [nextDot.eq_2, if_pos (by omega)]
        rw [e]
        refine ⟨fun x hx => (nomatch hx), fun _ => ?_⟩
        obtain ⟨m', r', ho⟩ := overS1 (text := text) (lim := lim) (start := s) (pc := a) (pos := b) (handed := s) (om := o) (seen := c) (q := s) (o := o) hl
        exact ⟨m', (r.trans r').mono (by omega), ho⟩
end
theorem search1 {text : Array Nat} {lim pos : Nat} (hp : pos ≤ lim) :
    (∀ r, nextDot text lim (lim + 1 - pos) pos = some r → ∃ pc' pos' o' seen', Rch (8 * (lim + 1)) (forSearch code1 text 0 pos lim false) (fin1 text lim r pc' pos' (r + 1) o' seen')) ∧
    (nextDot text lim (lim + 1 - pos) pos = none → ∃ m', Rch (8 * (lim + 1)) (forSearch code1 text 0 pos lim false) m' ∧ m'.outcome = some .failed) := by
  by_cases hl : pos = lim
  · subst hl
    have e : nextDot text pos (pos + 1 - pos) pos = none := by
      rw [show pos + 1 - pos = 0 + 1 by omega, nextDot.eq_2, if_pos (Nat.le_refl _)]
    rw [e]
    refine ⟨fun r h => (nomatch h), fun _ => ?_⟩
    unfold forSearch
    dsimp only
    rw [show (header code1).1 = 1 from rfl, if_pos (by simp only [Bool.or_eq_true, decide_eq_true_eq]; omega)]
    exact ⟨_, (Rch.step rfl rfl (Rch.refl _)).mono (by omega), rfl⟩
  · have hm : ∃ sn, forSearch code1 text 0 pos lim false = mk1 text lim pos 5 pos pos true [fS 5 pos true] 1 none sn := by
      unfold forSearch
      dsimp only
      rw [show (header code1).1 = 1 from rfl, if_neg (by simp only [Bool.or_eq_true, decide_eq_true_eq]; omega)]
      show ∃ sn, M.attemptFrom (mk1 text lim pos 5 pos pos true [] 0 none (({} : Seen).add 14)) pos true = _
      unfold M.attemptFrom
      rw [show (!(mk1 text lim pos 5 pos pos true [] 0 none (({} : Seen).add 14)).hasFirstSet) = true from rfl, if_pos rfl]
      exact ⟨_, attempt1 (pc := 5) (pos := pos) (handed := pos) (om := true) (start := pos) (wt := 0) (fs := []) (fS 5 pos true) rfl _ _ _ (by omega)⟩
    obtain ⟨sn, e⟩ := hm
    rw [e]
    have := from1 (text := text) (lim := lim) (lim + 1 - pos) pos true sn (by omega) hp (by omega)
    exact ⟨fun r h => by obtain ⟨a, b, c, d, q⟩ := this.1 r h; exact ⟨a, b, c, d, q.mono (by omega)⟩, fun h => by obtain ⟨a, b, c⟩ := this.2 h; exact ⟨a, b.mono (by omega), c⟩⟩
end

section

/-! the plain laws of the texts: lists of code points -/

noncomputable def n1 : List Nat → List Nat
  | 13 :: 10 :: t => 13 :: n1 t
  | c :: t => c :: n1 t
  | [] => []
noncomputable def lf (c : Nat) : Nat := if c = 10 then 13 else c
noncomputable def plain (m : List Nat) : List Nat := (n1 m).map lf
noncomputable def fx : List Nat → List Nat
  | 13 :: 10 :: t => 13 :: 10 :: fx t
  | 13 :: t => 13 :: 10 :: fx t
  | 10 :: t => 13 :: 10 :: fx t
  | c :: t => c :: fx t
  | [] => []
noncomputable def ex1 (c : Nat) : List Nat := if c = 13 then [13, 10] else [c]
noncomputable def ex (p : List Nat) : List Nat := p.flatMap ex1

theorem n1_crlf (t : List Nat) : n1 (13 :: 10 :: t) = 13 :: n1 t := by simp [n1]
theorem n1_other {c : Nat} {t : List Nat} (h : ¬ (c = 13 ∧ ∃ u, t = 10 :: u)) : n1 (c :: t) = c :: n1 t := by
  cases t with
  | nil => rw [n1.eq_2]; intro t' _ e2; cases e2
  | cons d u =>
    by_cases hc : c = 13
    · by_cases hd : d = 10
      · exact absurd ⟨hc, u, by rw [hd]⟩ h
      · rw [n1.eq_2]; intro t' e1 e2; cases e2; exact hd rfl
    · rw [n1.eq_2]; intro t' e1 _; exact hc e1
theorem fx_other {c : Nat} {t : List Nat} (h1 : c ≠ 13) (h2 : c ≠ 10) : fx (c :: t) = c :: fx t := by
  rw [fx.eq_4]
  · intro _ e; exact absurd e h1
  · exact h1
  · exact h2
theorem fx_lf (t : List Nat) : fx (10 :: t) = 13 :: 10 :: fx t := by rw [fx.eq_3]
theorem fx_crlf (t : List Nat) : fx (13 :: 10 :: t) = 13 :: 10 :: fx t := by rw [fx.eq_1]
theorem fx_cr {t : List Nat} (h : ∀ u, t ≠ 10 :: u) : fx (13 :: t) = 13 :: 10 :: fx t := by
  rw [fx.eq_2]; intro u e; exact h u e
theorem ex_cons (c : Nat) (p : List Nat) : ex (c :: p) = ex1 c ++ ex p := rfl
theorem fx_eq : ∀ m : List Nat, fx m = ex (plain m)
  | [] => by simp [fx, plain, n1, ex]
  | c :: t => by
    by_cases h1 : c = 13
    · subst h1
      by_cases h2 : ∃ u, t = 10 :: u
      · obtain ⟨u, rfl⟩ := h2
        rw [fx_crlf, fx_eq u]
        unfold plain
        rw [n1_crlf]
        rfl
      · rw [fx_cr (fun u e => h2 ⟨u, e⟩), fx_eq t]
        unfold plain
        rw [n1_other (fun x => h2 x.2)]
        rfl
    · have e : plain (c :: t) = lf c :: plain t := by
        unfold plain
        rw [n1_other (fun x => h1 x.1)]
        rfl
      by_cases h2 : c = 10
      · subst h2
        rw [fx_lf, fx_eq t, e]
        rfl
      · rw [fx_other h1 h2, fx_eq t, e, ex_cons]
        simp [ex1, lf, h1, h2]
termination_by m => m.length

/-- rows between a sign -/
noncomputable def rowsOn (d : Nat) : List Nat → List (List Nat)
  | [] => [[]]
  | c :: t => if c = d then [] :: rowsOn d t else
    match rowsOn d t with
    | r :: rs => (c :: r) :: rs
    | [] => [[c]]
noncomputable def glue (sep : List Nat) : List (List Nat) → List Nat
  | [] => []
  | [r] => r
  | r :: r2 :: rs => r ++ sep ++ glue sep (r2 :: rs)
theorem rowsOn_ne (d : Nat) : ∀ m, rowsOn d m ≠ []
  | [] => by simp [rowsOn]
  | c :: t => by
    unfold rowsOn
    split
    · simp
    · split <;> simp
theorem glue_cons (sep r : List Nat) {l : List (List Nat)} (h : l ≠ []) : glue sep (r :: l) = r ++ sep ++ glue sep l := by
  cases l with
  | nil => exact absurd rfl h
  | cons a b => rfl
theorem glue_push (sep : List Nat) (c : Nat) (r : List Nat) (l : List (List Nat)) : glue sep ((c :: r) :: l) = c :: glue sep (r :: l) := by
  cases l with
  | nil => rfl
  | cons a b => simp [glue]
noncomputable def sub1 (d : Nat) (sep : List Nat) (c : Nat) : List Nat := if c = d then sep else [c]
theorem rowsOn_sep (d : Nat) (t : List Nat) : rowsOn d (d :: t) = [] :: rowsOn d t := by rw [rowsOn.eq_2, if_pos rfl]
theorem rowsOn_other {d c : Nat} {t r : List Nat} {rs : List (List Nat)} (h : c ≠ d) (e : rowsOn d t = r :: rs) : rowsOn d (c :: t) = (c :: r) :: rs := by
  rw [rowsOn.eq_2, if_neg h, e]
theorem glue_rows (d : Nat) (sep : List Nat) : ∀ m, glue sep (rowsOn d m) = m.flatMap (sub1 d sep)
  | [] => rfl
  | c :: t => by
    have ih := glue_rows d sep t
    rw [List.flatMap_cons, ← ih]
    by_cases h : c = d
    · subst h
      rw [rowsOn_sep, glue_cons _ _ (rowsOn_ne c t)]
      simp [sub1]
    · cases hr : rowsOn d t with
      | nil => exact absurd hr (rowsOn_ne d t)
      | cons r rs => rw [rowsOn_other h hr, glue_push]; simp [sub1, h]
theorem glue_self (d : Nat) (m : List Nat) : glue [d] (rowsOn d m) = m := by
  rw [glue_rows]
  induction m with
  | nil => rfl
  | cons c t ih =>
    rw [List.flatMap_cons, ih]
    unfold sub1
    split
    · rename_i h; rw [h]; rfl
    · rfl
theorem glue_ex (p : List Nat) : glue [13, 10] (rowsOn 13 p) = ex p := glue_rows 13 [13, 10] p

/-- dots -/
noncomputable def dot (r : List Nat) : List Nat := if r.take 1 = [46] then 46 :: r else r
noncomputable def qd : Bool → List Nat → List Nat
  | _, [] => []
  | b, c :: t => if b = true ∧ c = 46 then 46 :: 46 :: qd false t else c :: qd (c == 10) t
theorem qd_nil (b : Bool) : qd b [] = [] := by cases b <;> rfl
theorem qd_cons (b : Bool) (c : Nat) (t : List Nat) : qd b (c :: t) = if b = true ∧ c = 46 then 46 :: 46 :: qd false t else c :: qd (c == 10) t := by rw [qd.eq_2]
theorem qd_append_noLF (b : Bool) : ∀ (a t : List Nat), 10 ∉ a → a ≠ [] → qd b (a ++ t) = qd b a ++ qd false t := by
  intro a
  induction a generalizing b with
  | nil => intro t _ h; exact absurd rfl h
  | cons c a ih =>
    intro t h _
    have hc : (c == 10) = false := by
      cases e : c == 10 with
      | false => rfl
      | true => exact absurd (by rw [eq_of_beq e]; exact .head _) h
    have ha : 10 ∉ a := fun q => h (.tail _ q)
    show qd b (c :: (a ++ t)) = qd b (c :: a) ++ _
    rw [qd_cons, qd_cons, hc]
    cases a with
    | nil => simp only [List.nil_append, qd_nil]; split <;> rfl
    | cons d a => rw [ih false t ha (by simp)]; split <;> rfl
theorem qd_false_noLF : ∀ a : List Nat, 10 ∉ a → qd false a = a
  | [], _ => rfl
  | c :: a, h => by
    have hc : (c == 10) = false := by
      cases e : c == 10 with
      | false => rfl
      | true => exact absurd (by rw [eq_of_beq e]; exact .head _) h
    rw [qd_cons, hc, if_neg (by simp), qd_false_noLF a fun q => h (.tail _ q)]
theorem qd_true_row (r : List Nat) (h : 10 ∉ r) : qd true r = dot r := by
  cases r with
  | nil => rfl
  | cons c a =>
    have hc : (c == 10) = false := by
      cases e : c == 10 with
      | false => rfl
      | true => exact absurd (by rw [eq_of_beq e]; exact .head _) h
    unfold dot
    rw [qd_cons, hc, qd_false_noLF a fun q => h (.tail _ q)]
    by_cases e : c = 46
    · subst e; simp
    · simp [e]
theorem dot_eq_nil {r : List Nat} (h : r = []) : dot r = [] := by subst h; rfl
/-- a glue whose sign ends in a line feed -/
theorem qd_glue (sep : List Nat) (hs : ∃ s', sep = s' ++ [10] ∧ 10 ∉ s' ∧ 46 ∉ s') : ∀ l : List (List Nat), (∀ r ∈ l, 10 ∉ r) → qd true (glue sep l) = glue sep (l.map dot)
  | [], _ => rfl
  | [r], h => qd_true_row r (h r (.head _))
  | r :: r2 :: rs, h => by
    obtain ⟨s', rfl, h10, h46⟩ := hs
    have ih := qd_glue (s' ++ [10]) ⟨s', rfl, h10, h46⟩ (r2 :: rs) fun x hx => h x (.tail _ hx)
    have hr : 10 ∉ r := h r (.head _)
    show qd true (r ++ (s' ++ [10]) ++ glue _ (r2 :: rs)) = dot r ++ (s' ++ [10]) ++ glue _ ((r2 :: rs).map dot)
    rw [← ih]
    generalize glue (s' ++ [10]) (r2 :: rs) = T
    have lfT : ∀ b, qd b (10 :: T) = 10 :: qd true T := fun b => by rw [qd_cons, if_neg (by omega)]; rfl
    have key : ∀ b, qd b (s' ++ (10 :: T)) = s' ++ 10 :: qd true T := by
      intro b
      cases s' with
      | nil => exact lfT b
      | cons x y =>
        rw [qd_append_noLF b _ _ h10 (by simp), lfT]
        have hx : x ≠ 46 := fun e => h46 (by rw [e]; exact .head _)
        have hx10 : (x == 10) = false := by
          cases e : x == 10 with
          | false => rfl
          | true => exact absurd (by rw [eq_of_beq e]; exact .head _) h10
        have : qd b (x :: y) = x :: y := by
          rw [qd_cons, hx10, if_neg (by simp [hx]), qd_false_noLF y fun q => h10 (.tail _ q)]
        rw [this]
    have e1 : r ++ (s' ++ [10]) ++ T = r ++ (s' ++ (10 :: T)) := by simp
    rw [e1]
    cases r with
    | nil => rw [List.nil_append, key]; simp [dot]
    | cons c a => rw [qd_append_noLF true _ _ hr (by simp), key, qd_true_row _ hr]; simp
theorem rowsOn_notin (d : Nat) : ∀ m, ∀ r ∈ rowsOn d m, d ∉ r
  | [], r, h => by simp [rowsOn] at h; subst h; simp
  | c :: t, r, h => by
    have ih := rowsOn_notin d t
    unfold rowsOn at h
    split at h
    · rcases List.mem_cons.mp h with rfl | h
      · simp
      · exact ih r h
    · rename_i hc
      split at h
      · rename_i r0 rs e
        rcases List.mem_cons.mp h with rfl | h
        · intro q
          rcases List.mem_cons.mp q with q | q
          · exact hc q.symm
          · exact ih r0 (by rw [e]; exact .head _) q
        · exact ih r (by rw [e]; exact .tail _ h)
      · rename_i e; exact absurd e (rowsOn_ne d t)
theorem rowsOn_sub (d x : Nat) : ∀ m, x ∉ m → ∀ r ∈ rowsOn d m, x ∉ r
  | [], _, r, h => by simp [rowsOn] at h; subst h; simp
  | c :: t, hx, r, h => by
    have ih := rowsOn_sub d x t fun q => hx (.tail _ q)
    unfold rowsOn at h
    split at h
    · rcases List.mem_cons.mp h with rfl | h
      · simp
      · exact ih r h
    · split at h
      · rename_i r0 rs e
        rcases List.mem_cons.mp h with rfl | h
        · intro q
          rcases List.mem_cons.mp q with q | q
          · exact hx (by rw [q]; exact .head _)
          · exact ih r0 (by rw [e]; exact .head _) q
        · exact ih r (by rw [e]; exact .tail _ h)
      · rename_i e; exact absurd e (rowsOn_ne d t)
theorem due_dots (m : List Nat) : glue [10] ((rowsOn 10 m).map dot) = qd true m := by
  rw [← qd_glue [10] ⟨[], rfl, by simp, by simp⟩ _ (rowsOn_notin 10 m), glue_self]
theorem plain_no10 (m : List Nat) : 10 ∉ plain m := by
  unfold plain
  intro h
  obtain ⟨c, _, e⟩ := List.mem_map.mp h
  unfold lf at e
  split at e
  · cases e
  · rename_i h'; exact h' e
theorem due_both (m : List Nat) : glue [13, 10] ((rowsOn 13 (plain m)).map dot) = qd true (fx m) := by
  rw [← qd_glue [13, 10] ⟨[13], rfl, by simp, by simp⟩ _ (rowsOn_sub 13 10 _ (plain_no10 m)), glue_ex, fx_eq]

/-- the order: a less-than on lists, as the texts have it -/
theorem lt_cons {a b : Nat} {s t : List Nat} : (a :: s < b :: t) ↔ (a < b ∨ (a = b ∧ s < t)) := List.cons_lt_cons_iff
theorem ex_lt : ∀ p q : List Nat, (ex p < ex q) ↔ (p < q)
  | [], [] => by simp [ex]
  | [], c :: q => by
    rw [ex_cons]
    unfold ex1
    split <;> simp [ex]
  | c :: p, [] => by simp [ex]
  | a :: p, b :: q => by
    have ih := ex_lt p q
    rw [ex_cons, ex_cons, lt_cons, ← ih]
    unfold ex1
    by_cases h1 : a = 13 <;> by_cases h2 : b = 13 <;> simp only [h1, h2, if_true, if_false, List.cons_append, List.nil_append, lt_cons] <;> first | omega | (constructor <;> intro h <;> omega) | simp
theorem qd_lt : ∀ (b : Bool) (p q : List Nat), (qd b p < qd b q) ↔ (p < q)
  | _, [], [] => by simp [qd]
  | b, [], c :: q => by
    rw [qd_nil, qd_cons]
    split <;> simp
  | b, c :: p, [] => by rw [qd_nil]; simp
  | b, x :: p, y :: q => by
    rw [lt_cons]
    by_cases e : x = y
    · subst e
      rw [qd_cons, qd_cons]
      split
      · rw [lt_cons, lt_cons, qd_lt false p q]; simp
      · rw [lt_cons, qd_lt (x == 10) p q]
    · have h1 : ∀ z t, ∃ u, qd b (z :: t) = z :: u := fun z t => by
        rw [qd_cons]
        split
        · rename_i hz; exact ⟨_, by rw [hz.2]⟩
        · exact ⟨_, rfl⟩
      obtain ⟨u, hu⟩ := h1 x p
      obtain ⟨v, hv⟩ := h1 y q
      rw [hu, hv, lt_cons]
      constructor <;> intro h <;> omega
end

section
set_option maxRecDepth 100000
open PySem PySem.Builtin PySem.Builtin.Re PyProof.Rows
section
variable {M : Model} {A : Around} {E : Value → Shared → Prop} {s : Shared}

theorem wp_reDrive {m' : Sre.M} {Q : Sre.M → Shared → Prop} (ho : m'.outcome.isSome = true) (h : Q m' s) : ∀ (turns n : Nat) (m : Sre.M), Rch n m m' → n ≤ 4 * turns → 0 < turns → wpAny M A (reDrive turns m) Q E s
  | 0, _, _, _, _, h0 => absurd h0 (Nat.lt_irrefl _)
  | t + 1, n, m, r, hn, _ => by
    obtain ⟨k, hk, e⟩ := r
    unfold reDrive
    dsimp only
    have e4 : m.runFor reTurnSteps = m.runFor 4 := rfl
    rw [e4]
    by_cases h4 : (m.runFor 4).outcome.isSome = true
    · rw [if_pos h4]
      have : m.runFor 4 = m' := by
        by_cases hk4 : k ≤ 4
        · have := runFor_add k (4 - k) m
          rw [e, runFor_some ho, show k + (4 - k) = 4 by omega] at this
          exact this
        · have := runFor_add 4 (k - 4) m
          rw [runFor_some h4, show 4 + (k - 4) = k by omega, e] at this
          exact this.symm
      rw [this]
      exact wpAny_pure h
    · rw [if_neg h4]
      have hk4 : 4 < k := by
        apply Nat.lt_of_not_le
        intro hk4
        have := runFor_add k (4 - k) m
        rw [e, runFor_some ho, show k + (4 - k) = 4 by omega] at this
        rw [this] at h4
        exact h4 ho
      refine wpAny_bind (wpAny_rule ?_)
      refine wp_reDrive ho h t (n - 4) _ ⟨k - 4, by omega, ?_⟩ (by omega) (by omega)
      have := runFor_add 4 (k - 4) m
      rw [show 4 + (k - 4) = k by omega, e] at this
      exact this.symm

theorem wp_rules {l : List Nat} {c : Nat → Bool} {tag : Nat → String} {Q : PUnit → Shared → Prop} (h : Q ⟨⟩ s) :
    wpAny M A (forIn l PUnit.unit (fun i _ => do if c i = true then (do rule (tag i); pure (ForInStep.yield PUnit.unit)) else pure (ForInStep.yield PUnit.unit))) Q E s := by
  induction l with
  | nil => rw [List.forIn_nil]; exact wpAny_pure h
  | cons x l ih =>
    rw [List.forIn_cons]
    refine wpAny_bind ?_
    split
    · refine wpAny_bind (wpAny_rule (wpAny_pure ?_)); exact ih
    · exact wpAny_pure ih

theorem wp_reRun_some {m m' : Sre.M} {n : Nat} {Q : Option Sre.M → Shared → Prop} (r : Rch n m m') (hn : n ≤ 2 ^ 60) (ho : m'.outcome = some .matched) (h : Q (some m') s) : wpAny M A (reRunToEnd m) Q E s := by
  unfold reRunToEnd
  refine wpAny_bind (wp_reDrive (by rw [ho]; rfl) ?_ (2 ^ 64) n m r (by omega) (by omega))
  refine wpAny_bind (wp_rules ?_)
  rw [ho]
  exact wpAny_pure h
theorem wp_reRun_none {m m' : Sre.M} {n : Nat} {Q : Option Sre.M → Shared → Prop} (r : Rch n m m') (hn : n ≤ 2 ^ 60) (ho : m'.outcome = some .failed) (h : Q none s) : wpAny M A (reRunToEnd m) Q E s := by
  unfold reRunToEnd
  refine wpAny_bind (wp_reDrive (by rw [ho]; rfl) ?_ (2 ^ 64) n m r (by omega) (by omega))
  refine wpAny_bind (wp_rules ?_)
  rw [ho]
  exact wpAny_pure h
end
end

section
set_option maxRecDepth 100000
open PySem PySem.Builtin PySem.Builtin.Re PyProof.Rows

structure PatAt (h : Heap) (P C : Addr) (code : Array Nat) (kind : Int) : Prop where
  pat : ∃ o vs, h.get? P = some o ∧ o.cls = .type "re.Pattern" ∧ o.data = .fields vs ∧ vs.getD 2 .none = .int 0 0 ∧ vs.getD 5 .none = .ref C ∧ vs.getD 6 .none = .int kind 0
  cod : ∃ o xs n, h.get? C = some o ∧ o.data = .seq xs n ∧ (xs.map reRawOf).map (·.toNat) = code
theorem PatAt.keeps {h h' : Heap} {P C : Addr} {code : Array Nat} {kind : Int} (x : PatAt h P C code kind) (k : ∀ b o, b = P ∨ b = C → h.get? b = some o → h'.get? b = some o) : PatAt h' P C code kind := by
  obtain ⟨⟨o, vs, e, r⟩, ⟨o', xs, n, e', r'⟩⟩ := x
  exact ⟨⟨o, vs, k _ _ (.inl rfl) e, r⟩, ⟨o', xs, n, k _ _ (.inr rfl) e', r'⟩⟩

section
variable {M : Model} {A : Around} {E : Value → Shared → Prop} {s : Shared}
theorem wp_reRawItems {C : Addr} {o : Obj} {xs : Array Value} {n : Nat} {Q : Array Int → Shared → Prop} (ho : s.heap.get? C = some o) (hd : o.data = .seq xs n) (h : Q (xs.map reRawOf) s) : wpAny M A (reRawItems (.ref C)) Q E s := by
  unfold reRawItems seqItems?
  refine wpAny_bind (wpAny_bind (wpAny_load ho ?_))
  rw [hd]
  exact wpAny_pure (wpAny_pure h)
theorem wp_wholeS {P C : Addr} {code : Array Nat} {x : Str} {t : Tok} {Q : ReTarget → Shared → Prop} (hp : PatAt s.heap P C code 0)
    (h : Q { pattern := .ref P, string := .str x t, code := code, text := x.cps, kind := 0, groups := 0, pos := 0, lim := x.cps.size } s) : wpAny M A (reWholeTarget (.ref P) (.str x t)) Q E s := by
  obtain ⟨⟨o, vs, e1, e2, e3, e4, e5, e6⟩, ⟨o', xs, n, f1, f2, f3⟩⟩ := hp
  unfold reWholeTarget fieldsOf
  refine wpAny_bind (wpAny_bind (wpAny_load e1 ?_))
  rw [e3]
  refine wpAny_pure (wpAny_bind ?_)
  unfold reTextOf
  refine wpAny_bind (wpAny_pure (wpAny_pure ?_))
  dsimp only
  rw [e6, e5, e4]
  show wpAny M A (do
      reNoCollectionInside (.str x t) 0
      let c ← reRawItems (.ref C)
      pure { pattern := .ref P, string := .str x t, code := c.map (·.toNat), text := x.cps, kind := 0, groups := 0, pos := 0, lim := x.cps.size }) Q E s
  refine wpAny_bind (wpAny_pure ?_)
  refine wpAny_bind (wp_reRawItems f1 f2 (wpAny_pure ?_))
  rw [f3]
  exact h
end
end

section
set_option maxRecDepth 100000
open PySem PySem.Builtin PySem.Builtin.Re PyProof.Rows

/-- what a search is: the match behind a place -/
structure Nx (code text : Array Nat) (lim : Nat) (nx : Nat → Option (Nat × Nat)) : Prop where
  prog : ∀ {d r e}, d ≤ lim → nx d = some (r, e) → d ≤ r ∧ r < e ∧ e ≤ lim
  runs : ∀ {M : Model} {A : Around} {E : Value → Shared → Prop} {s : Shared} {Q : Option Sre.M → Shared → Prop} {d : Nat}, d ≤ lim →
    (∀ r e, nx d = some (r, e) → ∀ m : Sre.M, m.start = r → m.handed = e → Q (some m) s) → (nx d = none → Q none s) → wpAny M A (reRunToEnd (Sre.forSearch code text 0 d lim false)) Q E s

noncomputable def nx3 (text : Array Nat) (lim d : Nat) : Option (Nat × Nat) := (nextEnd text lim (lim + 1 - d) d).map fun r => (r, r + endLen text lim r)
noncomputable def nx1 (text : Array Nat) (lim d : Nat) : Option (Nat × Nat) := (nextDot text lim (lim + 1 - d) d).map fun r => (r, r + 1)
theorem nextDot_some {text : Array Nat} {lim : Nat} : ∀ {f s r : Nat}, nextDot text lim f s = some r → r < lim ∧ s ≤ r ∧ isDot text r = true ∧ ∀ i, s ≤ i → i < r → isDot text i = false
  | 0, _, _, h => by cases h
  | f + 1, s, r, h => by
    unfold nextDot at h
    split at h
    · cases h
    · rename_i h1
      split at h
      · rename_i h2
        cases h
        exact ⟨by omega, Nat.le_refl _, h2, fun i a b => by omega⟩
      · rename_i h2
        obtain ⟨a, b, c, d⟩ := nextDot_some h
        refine ⟨a, by omega, c, fun i hi hir => ?_⟩
        by_cases e : i = s
        · subst e; simpa using h2
        · exact d i (by omega) hir
theorem nextDot_none {text : Array Nat} {lim : Nat} : ∀ {f s : Nat}, lim ≤ s + f → nextDot text lim f s = none → ∀ i, s ≤ i → i < lim → isDot text i = false
  | 0, s, hf, _, i, hi, hl => by omega
  | f + 1, s, hf, h, i, hi, hl => by
    unfold nextDot at h
    split at h
    · omega
    · split at h
      · cases h
      · rename_i h2
        by_cases e : i = s
        · subst e; simpa using h2
        · exact nextDot_none (by omega) h i (by omega) hl
theorem nx3_is (text : Array Nat) (lim : Nat) : Nx code3 text lim (nx3 text lim) where
  prog := fun {d r e} hd h => by
    unfold nx3 at h
    cases q : nextEnd text lim (lim + 1 - d) d with
    | none => rw [q] at h; cases h
    | some r' =>
      rw [q] at h
      cases h
      obtain ⟨a, b, _, _⟩ := nextEnd_some q
      unfold endLen
      split
      · rename_i x; omega
      · omega
  runs := fun {M A E s Q d} hd h1 h2 => by
    unfold nx3 at h1 h2
    cases q : nextEnd text lim (lim + 1 - d) d with
    | none =>
      rw [q] at h2
      obtain ⟨m', r, ho⟩ := search3_none q
      exact wp_reRun_none r (by omega) ho (h2 rfl)
    | some r' =>
      rw [q] at h1
      obtain ⟨a, b, c, r⟩ := search3_some q
      exact wp_reRun_some r (by omega) rfl (h1 _ _ rfl _ rfl rfl)
theorem nx1_is (text : Array Nat) (lim : Nat) (hl : lim ≤ 2 ^ 50) : Nx code1 text lim (nx1 text lim) where
  prog := fun {d r e} hd h => by
    unfold nx1 at h
    cases q : nextDot text lim (lim + 1 - d) d with
    | none => rw [q] at h; cases h
    | some r' =>
      rw [q] at h
      cases h
      obtain ⟨a, b, _, _⟩ := nextDot_some q
      omega
  runs := fun {M A E s Q d} hd h1 h2 => by
    unfold nx1 at h1 h2
    cases q : nextDot text lim (lim + 1 - d) d with
    | none =>
      rw [q] at h2
      obtain ⟨m', r, ho⟩ := (search1 hd).2 q
      exact wp_reRun_none r (by omega) ho (h2 rfl)
    | some r' =>
      rw [q] at h1
      obtain ⟨a, b, c, d, r⟩ := (search1 hd).1 r' q
      exact wp_reRun_some r (by omega) rfl (h1 _ _ rfl _ rfl rfl)

/-- the pieces that a substitution glues -/
noncomputable def pcs {α : Type} (cut : Nat → Nat → α) (lim : Nat) (nx : Nat → Option (Nat × Nat)) (rep : α) : Nat → Nat → List α
  | 0, _ => []
  | f + 1, d => match nx d with
    | some (r, e) => (if d < r then [cut d r] else []) ++ rep :: pcs cut lim nx rep f e
    | none => if d < lim then [cut d lim] else []

theorem entry_subLoop : entryFor table "re.Pattern.sub.loop" = some Builtin.«re.Pattern.sub.loop» := entryFor_of_tree (by kernel_rfl)
noncomputable def subArgs (P : Addr) (x : Value) (rep : Value) (n d : Nat) (L : Addr) : Args := ⟨[.ref P, x, rep, rawInt 0, rawInt 0, rawInt n, rawInt d, rawInt d, .bool false, .ref L, .bool false], []⟩

theorem strsAre_snoc {y : Str} {t : Tok} : ∀ {vs : List Value} {ys : List Str}, StrsAre vs ys → StrsAre (vs ++ [.str y t]) (ys ++ [y])
  | _, _, .nil => .cons y t .nil
  | _, _, .cons y' t' h => .cons y' t' (strsAre_snoc h)
theorem strsAre_length : ∀ {vs : List Value} {ys : List Str}, StrsAre vs ys → vs.length = ys.length
  | _, _, .nil => rfl
  | _, _, .cons _ _ h => by rw [List.length_cons, List.length_cons, strsAre_length h]

section
variable {prog : Program} {w : World} {A : Around} {E : Value → Shared → Prop}
theorem list_push {s : Shared} {L : Addr} {its : Array Value} {e0 : Nat} {v : Value} {Q : Unit → Shared → Prop} (hL : s.heap.get? L = some (seqObj "list" its e0)) (hz : its.size ≤ 1000000)
    (h : ∀ h' e1, Heap.SameBut L s.heap h' → h'.get? L = some (seqObj "list" (its.push v) e1) → Q () { s with heap := h' }) : wpAny (model prog w) A (updateSeq L (·.push v)) Q E s := by
  refine wpAny_updateSeq hL rfl (h _ _ (Heap.SameBut.update ..) (get?_update_seq hL fun a => a.push v)) (by rw [sizeLine_eq]; omega) ?_
  rw [Array.size_push, sizeLine_eq]; omega
theorem subLoopS {P C L : Addr} {code : Array Nat} {x : Str} {t : Tok} {rep : Str} {u : Tok} {nx : Nat → Option (Nat × Nat)} (N : Nx code x.cps x.cps.size nx) {R : Result → Shared → Prop} (hLP : L ≠ P) (hLC : L ≠ C) (hx : x.length ≤ 100000) :
    ∀ (f d n : Nat) (its : Array Value) (e0 : Nat) (ys : List Str) (s : Shared), x.cps.size - d < f → d ≤ x.cps.size → s.heap.get? L = some (seqObj "list" its e0) → PatAt s.heap P C code 0 → StrsAre its.toList ys →
      ((ys ++ pcs (fun a b => (⟨x.cps.extract a b⟩ : Str)) x.cps.size nx rep f d).map (·.length)).sum ≤ 16777216 → (ys ++ pcs (fun a b => (⟨x.cps.extract a b⟩ : Str)) x.cps.size nx rep f d).length ≤ 1000000 →
      (∀ t' h' k, Heap.SameBut L s.heap h' → R (.ok (.ret (.str (Txt.join Str.empty (ys ++ pcs (fun a b => (⟨x.cps.extract a b⟩ : Str)) x.cps.size nx rep f d)) t'))) { s with heap := h', toks := k }) →
      codeAny (model prog w) A (.builtin "re.Pattern.sub.loop" (subArgs P (.str x t) (.str rep u) n d L)) R s
  | 0, d, _, _, _, _, _, hf, _, _, _, _, _, _, _ => absurd hf (Nat.not_lt_zero _)
  | f + 1, d, n, its, e0, ys, s, hf, hd, hL, hp, hi, hsum, hlen, hR => by
    have hsz : its.size = ys.length := by rw [← strsAre_length hi, Array.length_toList]
    refine codeAny_builtin entry_subLoop ?_
    unfold Builtin.«re.Pattern.sub.loop» subArgs
    dsimp only [rawInt]
    refine wpAny_bind (wp_wholeS hp ?_)
    rw [if_pos (show ((0 : Int) == 0) = true from rfl)]
    refine wpAny_bind (wpAny_bind (wpAny_pure ?_))
    rw [if_neg (show ¬ ((some rep).isNone = true) from Bool.false_ne_true)]
    refine wpAny_pure ?_
    rw [if_neg (show ¬ (((0 : Int) != 0 && decide ((n : Int) ≥ 0)) = true) from Bool.false_ne_true)]
    unfold reNextFound
    dsimp only
    rw [Int.toNat_natCast]
    refine wpAny_bind ?_
    refine N.runs hd (fun r e hnx m hm1 hm2 => ?_) fun hnx => ?_
    · obtain ⟨h1, h2, h3⟩ := N.prog hd hnx
      have hp1 : pcs (fun a b => (⟨x.cps.extract a b⟩ : Str)) x.cps.size nx rep (f + 1) d = (if d < r then [(⟨x.cps.extract d r⟩ : Str)] else []) ++ rep :: pcs (fun a b => (⟨x.cps.extract a b⟩ : Str)) x.cps.size nx rep f e := by
        rw [pcs.eq_2, hnx]
      rw [hp1] at hsum hlen hR
      have hl2 : its.size ≤ 999999 := by
        rw [List.length_append, List.length_append, List.length_cons] at hlen
        omega
      have hmm : (m.handed == m.start) = false := by rw [hm1, hm2]; exact beq_false_of_ne (by omega)
      have lastly : ∀ (its' : Array Value) (e' : Nat) (h' : Heap) (tk : Nat), its'.size ≤ its.size + 1 → Heap.SameBut L s.heap h' → h'.get? L = some (seqObj "list" its' e') → StrsAre its'.toList (ys ++ (if d < r then [(⟨x.cps.extract d r⟩ : Str)] else [])) →
          ∀ {E' : Value → Shared → Prop} {A' : Around}, wpAny (model prog w) A' (do
            updateSeq L fun a => a.push (.str rep u)
            again (.builtin "re.Pattern.sub.loop" (subArgs P (.str x t) (.str rep u) (n + 1) e L)))
            (fun fin s' => match fin with | .done f => R (.ok f) s' | .again c' => c'.quiet = true ∧ codeAny (model prog w) A c' R s') E' { s with heap := h', toks := tk } := by
        intro its' e' h' tk hz hs hL' hi' E' A'
        refine wpAny_bind (list_push hL' (by omega) fun h'' e'' hs' hL'' => wpAny_pure ⟨plainId_quiet (by decide +kernel) _, ?_⟩)
        have hs2 : Heap.SameBut L s.heap h'' := ⟨hs'.1.trans hs.1, fun b hb => (hs'.2 b hb).trans (hs.2 b hb)⟩
        have hi'' : StrsAre (its'.push (.str rep u)).toList (ys ++ ((if d < r then [(⟨x.cps.extract d r⟩ : Str)] else []) ++ [rep])) := by
          rw [Array.toList_push, ← List.append_assoc]
          exact strsAre_snoc hi'
        have ea : ys ++ ((if d < r then [(⟨x.cps.extract d r⟩ : Str)] else []) ++ rep :: pcs (fun a b => (⟨x.cps.extract a b⟩ : Str)) x.cps.size nx rep f e) =
            ys ++ ((if d < r then [(⟨x.cps.extract d r⟩ : Str)] else []) ++ [rep]) ++ pcs (fun a b => (⟨x.cps.extract a b⟩ : Str)) x.cps.size nx rep f e := by simp
        rw [ea] at hsum hlen hR
        refine subLoopS N hLP hLC hx f e (n + 1) _ e'' _ { s with heap := h'', toks := tk } (by omega) h3 hL'' (hp.keeps fun b o hb eb => ?_) hi'' hsum hlen fun t' h3' k hs3 => hR t' h3' k ⟨hs3.1.trans hs2.1, fun b hb => (hs3.2 b hb).trans (hs2.2 b hb)⟩
        rw [hs2.2 b (by rcases hb with rfl | rfl; exact Ne.symm hLP; exact Ne.symm hLC)]; exact eb
      dsimp only
      rw [hmm, hm1, hm2]
      by_cases hdr : d < r
      · rw [if_pos hdr] at lastly ⊢
        refine wpAny_bind (wpAny_mkStr ?_ ?_)
        · refine wpAny_bind (list_push hL (by omega) fun h' e' hs' hL' => ?_)
          refine wpAny_bind (wpAny_pure ?_)
          rw [if_pos (show (Value.str rep u != Value.none) = true from rfl)]
          refine lastly _ e' h' _ (by rw [Array.size_push]; omega) hs' hL' ?_
          rw [Array.toList_push]
          exact strsAre_snoc hi
        · rw [sizeLine_eq]
          show (x.cps.extract d r).size ≤ _
          rw [Array.size_extract]
          have : x.cps.size = x.length := rfl
          omega
      · rw [if_neg hdr] at lastly ⊢
        refine wpAny_bind (wpAny_pure ?_)
        rw [if_pos (show (Value.str rep u != Value.none) = true from rfl)]
        exact lastly its e0 s.heap s.toks (by omega) ⟨rfl, fun _ _ => rfl⟩ hL (by rw [List.append_nil]; exact hi)
    · have hp1 : pcs (fun a b => (⟨x.cps.extract a b⟩ : Str)) x.cps.size nx rep (f + 1) d = if d < x.cps.size then [(⟨x.cps.extract d x.cps.size⟩ : Str)] else [] := by
        rw [pcs.eq_2, hnx]
      rw [hp1] at hsum hlen hR
      dsimp only
      have fin : ∀ (its' : Array Value) (e' : Nat) (h' : Heap) (tk : Nat), its'.size ≤ its.size + 1 → Heap.SameBut L s.heap h' → h'.get? L = some (seqObj "list" its' e') → StrsAre its'.toList (ys ++ (if d < x.cps.size then [(⟨x.cps.extract d x.cps.size⟩ : Str)] else [])) →
          ∀ {A' : Around}, wpAny (model prog w) A' (do
            let joiner ← reSlice x.cps 0 0 0
            let text ← if ((← seqItems? (.ref L)).getD #[]).isEmpty = true then pure joiner else call (.builtin (if (0 : Nat) == 0 then "str.join" else "bytes.join")) [joiner, .ref L]
            if false = true then ret (← holding [text] do newTuple [text, ← mkInt n]) else ret text)
            (fun fin s' => match fin with | .done f => R (.ok f) s' | .again c' => c'.quiet = true ∧ codeAny (model prog w) A c' R s') (fun e s' => R (.error e) s') { s with heap := h', toks := tk } := by
        intro its' e' h' tk hz hs hL' hi' A'
        refine wpAny_bind (wpAny_mkStr ?_ (by rw [sizeLine_eq]; show (x.cps.extract 0 0).size ≤ _; rw [Array.size_extract]; omega))
        have hj : (⟨x.cps.extract 0 0⟩ : Str) = Str.empty := by simp [Str.empty]
        rw [hj]
        unfold seqItems?
        refine wpAny_bind (wpAny_bind (wpAny_load hL' (wpAny_pure ?_)))
        have hsz' : its'.size = (ys ++ (if d < x.cps.size then [(⟨x.cps.extract d x.cps.size⟩ : Str)] else [])).length := by rw [← strsAre_length hi', Array.length_toList]
        by_cases hem : its'.size = 0
        · rw [if_pos (by show its'.isEmpty = true; rw [Array.isEmpty_iff_size_eq_zero]; exact hem)]
          refine wpAny_pure ?_
          have hnil : ys ++ (if d < x.cps.size then [(⟨x.cps.extract d x.cps.size⟩ : Str)] else []) = [] := List.eq_nil_of_length_eq_zero (by rw [← hsz', hem])
          have := hR tk h' (tk + 1) hs
          rw [hnil] at this
          exact this
        · rw [if_neg (by show ¬ (its'.isEmpty = true); rw [Array.isEmpty_iff_size_eq_zero]; exact hem)]
          refine wpAny_bind ?_
          show wpAny (model prog w) A' (call (.builtin "str.join") [.str Str.empty tk, .ref L]) _ _ _
          refine join_list (s := { s with heap := h', toks := tk + 1 }) ⟨_, hL', rfl, _, rfl⟩ hi' (by
            show _ + _ * 0 ≤ _
            rw [Nat.mul_zero]; exact hsum) fun t' k => ?_
          exact wpAny_pure (hR t' h' k hs)
      by_cases hdl : d < x.cps.size
      · rw [if_pos hdl] at fin hlen ⊢
        have hl2 : its.size ≤ 999999 := by
          rw [List.length_append] at hlen
          show its.size ≤ 999999
          have : [(⟨x.cps.extract d x.cps.size⟩ : Str)].length = 1 := rfl
          omega
        refine wpAny_bind (wpAny_mkStr ?_ ?_)
        · refine wpAny_bind (list_push hL (by omega) fun h' e' hs' hL' => ?_)
          refine fin _ e' h' _ (by rw [Array.size_push]; omega) hs' hL' ?_
          rw [Array.toList_push]
          exact strsAre_snoc hi
        · rw [sizeLine_eq]
          show (x.cps.extract d x.cps.size).size ≤ _
          rw [Array.size_extract]
          have : x.cps.size = x.length := rfl
          omega
      · rw [if_neg hdl] at fin ⊢
        exact fin its e0 s.heap s.toks (by omega) ⟨rfl, fun _ _ => rfl⟩ hL (by rw [List.append_nil]; exact hi)
end
end

section
set_option maxRecDepth 100000
open PySem PySem.Builtin PySem.Builtin.Re PyProof.Rows

theorem slot_sub : Slot "re.Pattern" "sub" "re.Pattern.sub" :=
  .of (owner := "re.Pattern") (n := "sub") (by rw [typeLookup_type, builtinLookup_eq_fast]; kernel_rfl) (by decide +kernel) (by decide +kernel) (by decide +kernel)
    (by first | exact .inl (by decide +kernel) | exact .inr (by decide +kernel)) (by rw [isSubtype_type]; kernel_rfl)
theorem entry_sub : entryFor table "re.Pattern.sub" = some Builtin.«re.Pattern.sub» := entryFor_of_tree (by kernel_rfl)
theorem args_sub (a b c : Value) : argsOk "re.Pattern.sub" ⟨[a, b, c], []⟩ := by unfold argsOk; kernel_rfl
theorem type_sub : typeOf (.builtin "re.Pattern.sub") = pure (.type "method_descriptor") := by show builtinType _ = _; rw [builtinType_eq_fast]; kernel_rfl
theorem str_noCall : typeLookup (.type "str") "__call__" = pure none := by rw [typeLookup_type, builtinLookup_eq_fast]; kernel_rfl
theorem bytes_noCall : typeLookup (.type "bytes") "__call__" = pure none := by rw [typeLookup_type, builtinLookup_eq_fast]; kernel_rfl
theorem named_sub (id f : String) (a b : Value) : reNamed id f ["repl", "string", "count"] 2 [a, b] [] = pure [some a, some b, none] := rfl

section
variable {prog : Program} {w : World} {A : Around} {E : Value → Shared → Prop} {s : Shared}
theorem call_subS {P C : Addr} {code : Array Nat} {x : Str} {t : Tok} {rep : Str} {u : Tok} {nx : Nat → Option (Nat × Nat)} {Q : Value → Shared → Prop} (hp : PatAt s.heap P C code 0) (N : Nx code x.cps x.cps.size nx) (hx : x.length ≤ 100000) (hrep : rep.cps.contains 92 = false)
    (hsum : ((pcs (fun a b => (⟨x.cps.extract a b⟩ : Str)) x.cps.size nx rep (x.cps.size + 1) 0).map (·.length)).sum ≤ 16777216) (hlen : (pcs (fun a b => (⟨x.cps.extract a b⟩ : Str)) x.cps.size nx rep (x.cps.size + 1) 0).length ≤ 1000000)
    (h : ∀ t' h' k, (∀ b o, s.heap.get? b = some o → h'.get? b = some o) → Q (.str (Txt.join Str.empty (pcs (fun a b => (⟨x.cps.extract a b⟩ : Str)) x.cps.size nx rep (x.cps.size + 1) 0)) t') { s with heap := h', toks := k }) :
    wpAny (model prog w) A (call (.builtin "re.Pattern.sub") [.ref P, .str rep u, .str x t]) Q E s := by
  have hT : s.TypeIs (.ref P) "re.Pattern" := by obtain ⟨⟨o, _, e, e', _⟩, _⟩ := hp; exact ⟨o, e, e'⟩
  refine wpAny_call (codeAny_call_builtin slot_sub.plain entry_sub (slot_sub.check _ _ _ _ _ _ _ _ hT (args_sub _ _ _) ?_))
  unfold Builtin.«re.Pattern.sub» reSubstitute
  dsimp only
  rw [named_sub]
  refine wpAny_bind (wpAny_pure ?_)
  refine wpAny_bind (wpAny_pure ?_)
  have hc : specialOf (.str rep u) "__call__" = pure none := str_noCall
  rw [hc]
  refine wpAny_bind (wpAny_pure ?_)
  rw [if_neg (show ¬ ((none : Option Value).isSome = true) from Bool.false_ne_true)]
  refine wpAny_bind (wpAny_pure ?_)
  dsimp only
  refine wpAny_bind (wpAny_pure ?_)
  rw [if_neg (show ¬ ((none : Option Value).isSome = true) from Bool.false_ne_true), hrep, if_pos (show (!false) = true from rfl)]
  refine wpAny_bind (wpAny_pure ?_)
  dsimp only
  refine wpAny_bind (wpAny_holding (wp_wholeS hp ?_))
  rw [if_neg (show ¬ (((0 : Int) == 1) = true) from Bool.false_ne_true)]
  refine wpAny_bind (wpAny_newList (wpAny_pure ⟨plainId_quiet (by decide +kernel) _, ?_⟩))
  have hne : ∀ b o, s.heap.get? b = some o → b ≠ s.heap.objs.size := fun b o e => Nat.ne_of_lt (Heap.lt_size e)
  have hP : s.heap.objs.size ≠ P := by obtain ⟨⟨o, _, e, _⟩, _⟩ := hp; exact (hne _ _ e).symm
  have hC : s.heap.objs.size ≠ C := by obtain ⟨_, ⟨o, _, _, e, _⟩⟩ := hp; exact (hne _ _ e).symm
  refine subLoopS N hP hC hx (x.cps.size + 1) 0 0 #[] 0 [] { s with heap := s.heap.push (seqObj "list" #[] 0) } (by omega) (by omega) (Heap.get?_push_size _ rfl)
    (hp.keeps fun b o _ e => Heap.get?_push_of_some _ e) .nil (by simpa using hsum) (by simpa using hlen) fun t' h' k hs => ?_
  have := h t' h' k fun b o e => (hs.2 b (hne b o e)).trans (Heap.get?_push_of_some _ e)
  simpa using this
end
end

section
set_option maxRecDepth 100000
open PySem PySem.Builtin PySem.Builtin.Re PySem.Builtin.Str PyProof.Rows

theorem drop_get {text : Array Nat} {i : Nat} (h : i < text.size) : text.toList.drop i = text.getD i 0 :: text.toList.drop (i + 1) := by
  have hl : i < text.toList.length := by rw [Array.length_toList]; exact h
  rw [List.drop_eq_getElem_cons hl]
  congr 1
  rw [Array.getElem_toList]
  simp [Array.getD, h]
theorem drop_end {text : Array Nat} {i : Nat} (h : text.size ≤ i) : text.toList.drop i = [] := List.drop_eq_nil_of_le (by rw [Array.length_toList]; exact h)
/-- a cut of a text, as a list -/
noncomputable def cutL (text : Array Nat) (a b : Nat) : List Nat := (text.toList.drop a).take (b - a)
theorem cutL_self (text : Array Nat) (a : Nat) : cutL text a a = [] := by simp [cutL]
theorem cutL_step {text : Array Nat} {a b : Nat} (h : a < text.size) (hb : a < b) : cutL text a b = text.getD a 0 :: cutL text (a + 1) b := by
  unfold cutL
  rw [drop_get h, show b - a = (b - (a + 1)) + 1 by omega, List.take_succ_cons]
theorem cut_if {α : Type} (a r : Nat) (f : List α) (h : ¬ a < r → f = []) : (if a < r then [f] else []).flatten = f := by
  by_cases q : a < r
  · rw [if_pos q]; simp
  · rw [if_neg q, h q]; rfl
theorem fx_cut {text : Array Nat} : ∀ {d r : Nat}, d ≤ r → r ≤ text.size → (∀ i, d ≤ i → i < r → isEnd (text.getD i 0) = false) → fx (text.toList.drop d) = cutL text d r ++ fx (text.toList.drop r) := by
  intro d r hdr
  obtain ⟨k, rfl⟩ := Nat.exists_eq_add_of_le hdr
  induction k generalizing d with
  | zero => intro _ _; rw [Nat.add_zero, cutL_self]; rfl
  | succ k ih =>
    intro hr h
    have hd : d < text.size := by omega
    have h0 := h d (Nat.le_refl _) (by omega)
    unfold isEnd at h0
    rw [Bool.or_eq_false_iff, beq_eq_false_iff_ne, beq_eq_false_iff_ne] at h0
    rw [drop_get hd, fx_other h0.2 h0.1, cutL_step hd (by omega), List.cons_append]
    have := ih (d := d + 1) (by omega) (by omega) fun i a b => h i (by omega) (by omega)
    rw [this, show d + 1 + k = d + (k + 1) by omega]
theorem fx_end {text : Array Nat} {r : Nat} (hr : r < text.size) (h : isEnd (text.getD r 0) = true) : fx (text.toList.drop r) = [13, 10] ++ fx (text.toList.drop (r + endLen text text.size r)) := by
  unfold isEnd at h
  rw [Bool.or_eq_true, beq_iff_eq, beq_iff_eq] at h
  by_cases h13 : text.getD r 0 = 13
  · by_cases h10 : r + 1 < text.size ∧ text.getD (r + 1) 0 = 10
    · have e : endLen text text.size r = 2 := by unfold endLen; rw [if_pos ⟨h13, h10⟩]
      rw [e, drop_get hr, h13, drop_get h10.1, h10.2, fx_crlf]; rfl
    · have e : endLen text text.size r = 1 := by unfold endLen; rw [if_neg fun x => h10 x.2]
      rw [e, drop_get hr, h13, fx_cr]; rfl
      intro u hu
      by_cases hr1 : r + 1 < text.size
      · rw [drop_get hr1] at hu
        exact h10 ⟨hr1, (List.cons.inj hu).1⟩
      · rw [drop_end (by omega)] at hu; cases hu
  · have h10 := h.resolve_right h13
    have e : endLen text text.size r = 1 := by unfold endLen; rw [if_neg fun x => h13 x.1]
    rw [e, drop_get hr, h10, fx_lf]; rfl
theorem fx_none {text : Array Nat} {d : Nat} (hd : d ≤ text.size) (h : ∀ i, d ≤ i → i < text.size → isEnd (text.getD i 0) = false) : fx (text.toList.drop d) = cutL text d text.size := by
  rw [fx_cut hd (Nat.le_refl _) h, drop_end (Nat.le_refl _)]
  simp [fx]
theorem cutL_ge {text : Array Nat} {a b : Nat} (h : ¬ a < b) : cutL text a b = [] := by unfold cutL; rw [show b - a = 0 by omega]; rfl
theorem pcs3 (text : Array Nat) : ∀ (f d : Nat), text.size - d < f → d ≤ text.size → (pcs (cutL text) text.size (nx3 text text.size) [13, 10] f d).flatten = fx (text.toList.drop d)
  | 0, d, h, _ => absurd h (Nat.not_lt_zero _)
  | f + 1, d, h, hd => by
    rw [pcs.eq_2]
    unfold nx3
    cases q : nextEnd text text.size (text.size + 1 - d) d with
    | none =>
      show (if d < text.size then [cutL text d text.size] else []).flatten = _
      rw [cut_if d text.size (cutL text d text.size) cutL_ge, fx_none hd (nextEnd_none (by omega) q)]
    | some r =>
      obtain ⟨a, b, c, g⟩ := nextEnd_some q
      have hp := (nx3_is text text.size).prog hd (r := r) (e := r + endLen text text.size r) (by unfold nx3; rw [q]; rfl)
      show ((if d < r then [cutL text d r] else []) ++ [13, 10] :: pcs (cutL text) text.size (nx3 text text.size) [13, 10] f (r + endLen text text.size r)).flatten = _
      rw [List.flatten_append, cut_if d r (cutL text d r) cutL_ge, List.flatten_cons, pcs3 text f _ (by omega) hp.2.2, fx_cut b (by omega) g, fx_end a c]
/-- dots -/
noncomputable def bol (text : Array Nat) (d : Nat) : Bool := d == 0 || text.getD (d - 1) 0 == 10
theorem bol_succ (text : Array Nat) (d : Nat) : bol text (d + 1) = (text.getD d 0 == 10) := by simp [bol]
theorem qd_cut {text : Array Nat} : ∀ {d r : Nat}, d ≤ r → r ≤ text.size → (∀ i, d ≤ i → i < r → isDot text i = false) → qd (bol text d) (text.toList.drop d) = cutL text d r ++ qd (bol text r) (text.toList.drop r) := by
  intro d r hdr
  obtain ⟨k, rfl⟩ := Nat.exists_eq_add_of_le hdr
  induction k generalizing d with
  | zero => intro _ _; rw [Nat.add_zero, cutL_self]; rfl
  | succ k ih =>
    intro hr h
    have hd : d < text.size := by omega
    have h0 := h d (Nat.le_refl _) (by omega)
    have h1 : ¬ (bol text d = true ∧ text.getD d 0 = 46) := fun x => by
      unfold isDot at h0
      have hb : (d == 0 || text.getD (d - 1) 0 == 10) = true := x.1
      rw [hb, x.2] at h0
      cases h0
    rw [drop_get hd, qd_cons, if_neg h1, cutL_step hd (by omega), List.cons_append, ← bol_succ]
    have := ih (d := d + 1) (by omega) (by omega) fun i a b => h i (by omega) (by omega)
    rw [this, show d + 1 + k = d + (k + 1) by omega]
theorem qd_dot {text : Array Nat} {r : Nat} (hr : r < text.size) (h : isDot text r = true) : qd (bol text r) (text.toList.drop r) = [46, 46] ++ qd (bol text (r + 1)) (text.toList.drop (r + 1)) := by
  unfold isDot at h
  rw [Bool.and_eq_true, beq_iff_eq] at h
  have hb : bol text r = true := h.1
  rw [drop_get hr, qd_cons, if_pos ⟨hb, h.2⟩, bol_succ, h.2]
  rfl
theorem pcs1 (text : Array Nat) : ∀ (f d : Nat), text.size - d < f → d ≤ text.size → (pcs (cutL text) text.size (nx1 text text.size) [46, 46] f d).flatten = qd (bol text d) (text.toList.drop d)
  | 0, d, h, _ => absurd h (Nat.not_lt_zero _)
  | f + 1, d, h, hd => by
    rw [pcs.eq_2]
    unfold nx1
    cases q : nextDot text text.size (text.size + 1 - d) d with
    | none =>
      show (if d < text.size then [cutL text d text.size] else []).flatten = _
      rw [cut_if d text.size (cutL text d text.size) cutL_ge, qd_cut hd (Nat.le_refl _) (nextDot_none (by omega) q), drop_end (Nat.le_refl _), qd_nil, List.append_nil]
    | some r =>
      obtain ⟨a, b, c, g⟩ := nextDot_some q
      show ((if d < r then [cutL text d r] else []) ++ [46, 46] :: pcs (cutL text) text.size (nx1 text text.size) [46, 46] f (r + 1)).flatten = _
      rw [List.flatten_append, cut_if d r (cutL text d r) cutL_ge, List.flatten_cons, pcs1 text f _ (by omega) (by omega), qd_cut b (by omega) g, qd_dot a c]
theorem pcs_map {α β : Type} (g : α → β) (cut : Nat → Nat → α) (lim : Nat) (nx : Nat → Option (Nat × Nat)) (rep : α) : ∀ f d, (pcs cut lim nx rep f d).map g = pcs (fun a b => g (cut a b)) lim nx (g rep) f d
  | 0, _ => rfl
  | f + 1, d => by
    rw [pcs.eq_2, pcs.eq_2]
    cases nx d with
    | none => dsimp only; split <;> rfl
    | some p => dsimp only; rw [List.map_append, List.map_cons, pcs_map g cut lim nx rep f]; split <;> rfl
theorem extract_toList (text : Array Nat) (a b : Nat) : (text.extract a b).toList = cutL text a b := by
  unfold cutL
  simp [Array.toList_extract, List.extract]
theorem join_glue (sep : Str) : ∀ l : List Str, (Txt.join sep l).cps.toList = glue sep.cps.toList (l.map (·.cps.toList)) := by
  intro l
  unfold Txt.join
  rw [StrLaws.glued_eq_join]
  induction l with
  | nil => rfl
  | cons a r ih =>
    cases r with
    | nil => rfl
    | cons b r =>
      show ((a ++ sep ++ Str.join sep (b :: r)) : Str).cps.toList = _
      rw [List.map_cons, List.map_cons, glue, ← List.map_cons (f := fun x : Str => x.cps.toList), ← ih]
      show (a.cps ++ sep.cps ++ (Str.join sep (b :: r)).cps).toList = _
      rw [Array.toList_append, Array.toList_append]
theorem glue_nil : ∀ l : List (List Nat), glue [] l = l.flatten
  | [] => rfl
  | [a] => by simp [glue]
  | a :: b :: r => by rw [glue, glue_nil (b :: r)]; simp
theorem join_empty (l : List Str) : (Txt.join Str.empty l).cps.toList = (l.map (·.cps.toList)).flatten := by
  rw [join_glue]
  exact glue_nil _
theorem str_ext {x y : Str} (h : x.cps.toList = y.cps.toList) : x = y := by
  cases x; cases y
  congr 1
  exact Array.ext' h
noncomputable def ofL (l : List Nat) : Str := ⟨l.toArray⟩
theorem ofL_toList (l : List Nat) : (ofL l).cps.toList = l := by simp [ofL]
theorem pieces_join (x rep : Str) (nx : Nat → Option (Nat × Nat)) (f d : Nat) :
    (Txt.join Str.empty (pcs (fun a b => (⟨x.cps.extract a b⟩ : Str)) x.cps.size nx rep f d)).cps.toList = (pcs (cutL x.cps) x.cps.size nx rep.cps.toList f d).flatten := by
  rw [join_empty, pcs_map]
  congr 2
  funext a b
  exact extract_toList x.cps a b
/-- lengths -/
theorem sum_len (l : List Str) : (l.map (·.length)).sum = ((l.map (·.cps.toList)).flatten).length := by
  induction l with
  | nil => rfl
  | cons a r ih =>
    rw [List.map_cons, List.sum_cons, List.map_cons, List.flatten_cons, List.length_append, ih]
    rfl
theorem fx_length : ∀ m : List Nat, (fx m).length ≤ 2 * m.length
  | [] => by simp [fx]
  | c :: t => by
    by_cases h1 : c = 13
    · subst h1
      by_cases h2 : ∃ u, t = 10 :: u
      · obtain ⟨u, rfl⟩ := h2
        have := fx_length u
        rw [fx_crlf]; simp only [List.length_cons]; omega
      · have := fx_length t
        rw [fx_cr fun u e => h2 ⟨u, e⟩]; simp only [List.length_cons]; omega
    · have := fx_length t
      by_cases h2 : c = 10
      · subst h2; rw [fx_lf]; simp only [List.length_cons]; omega
      · rw [fx_other h1 h2]; simp only [List.length_cons]; omega
termination_by m => m.length
theorem qd_length : ∀ (b : Bool) (m : List Nat), (qd b m).length ≤ 2 * m.length
  | b, [] => by rw [qd_nil]; simp
  | b, c :: t => by
    rw [qd_cons]
    split
    · have := qd_length false t; simp only [List.length_cons]; omega
    · have := qd_length (c == 10) t; simp only [List.length_cons]; omega
theorem pcs_len {α : Type} (cut : Nat → Nat → α) {code text : Array Nat} {lim : Nat} {nx : Nat → Option (Nat × Nat)} (N : Nx code text lim nx) (rep : α) : ∀ f d, d ≤ lim → (pcs cut lim nx rep f d).length ≤ 2 * (lim - d) + 1
  | 0, _, _ => by simp [pcs]
  | f + 1, d, hd => by
    rw [pcs.eq_2]
    cases q : nx d with
    | none => dsimp only; split <;> simp
    | some p =>
      obtain ⟨r, e⟩ := p
      have h := N.prog hd q
      have ih := pcs_len cut N rep f e h.2.2
      dsimp only
      rw [List.length_append, List.length_cons]
      split
      · simp only [List.length_cons, List.length_nil]; omega
      · simp only [List.length_nil]; omega
section
variable {prog : Program} {w : World} {A : Around} {E : Value → Shared → Prop} {s : Shared}
/-- line ends to CR LF -/
theorem sub_ends {P C : Addr} {x : Str} {t u : Tok} {Q : Value → Shared → Prop} (hp : PatAt s.heap P C code3 0) (hx : x.length ≤ 1000)
    (h : ∀ t' h' k, (∀ b o, s.heap.get? b = some o → h'.get? b = some o) → Q (.str (ofL (fx x.cps.toList)) t') { s with heap := h', toks := k }) :
    wpAny (model prog w) A (call (.builtin "re.Pattern.sub") [.ref P, .str (Str.ofString "\r\n") u, .str x t]) Q E s := by
  have hN := nx3_is x.cps x.cps.size
  have hr : (Str.ofString "\r\n").cps.toList = [13, 10] := by decide +kernel
  have e1 := pieces_join x (Str.ofString "\r\n") (nx3 x.cps x.cps.size) (x.cps.size + 1) 0
  rw [hr, pcs3 x.cps _ _ (by omega) (by omega)] at e1
  have hxl : x.cps.size = x.length := rfl
  refine call_subS hp hN (by omega) (by decide +kernel) ?_ ?_ fun t' h' k hk => ?_
  · rw [sum_len, ← join_empty, e1]
    have := fx_length (x.cps.toList.drop 0)
    have h2 : (x.cps.toList.drop 0).length = x.cps.size := by simp
    omega
  · have := pcs_len (fun a b => (⟨x.cps.extract a b⟩ : Str)) hN (Str.ofString "\r\n") (x.cps.size + 1) 0 (by omega)
    omega
  · have e2 : Txt.join Str.empty (pcs (fun a b => (⟨x.cps.extract a b⟩ : Str)) x.cps.size (nx3 x.cps x.cps.size) (Str.ofString "\r\n") (x.cps.size + 1) 0) = ofL (fx x.cps.toList) := str_ext (by rw [e1, ofL_toList]; rfl)
    rw [e2]
    exact h t' h' k hk
/-- dots at the rows' heads doubled -/
theorem sub_dots {P C : Addr} {x : Str} {t u : Tok} {Q : Value → Shared → Prop} (hp : PatAt s.heap P C code1 0) (hx : x.length ≤ 1000)
    (h : ∀ t' h' k, (∀ b o, s.heap.get? b = some o → h'.get? b = some o) → Q (.str (ofL (qd true x.cps.toList)) t') { s with heap := h', toks := k }) :
    wpAny (model prog w) A (call (.builtin "re.Pattern.sub") [.ref P, .str (Str.ofString "..") u, .str x t]) Q E s := by
  have hxl : x.cps.size = x.length := rfl
  have hN := nx1_is x.cps x.cps.size (by omega)
  have hr : (Str.ofString "..").cps.toList = [46, 46] := by decide +kernel
  have e1 := pieces_join x (Str.ofString "..") (nx1 x.cps x.cps.size) (x.cps.size + 1) 0
  rw [hr, pcs1 x.cps _ _ (by omega) (by omega)] at e1
  refine call_subS hp hN (by omega) (by decide +kernel) ?_ ?_ fun t' h' k hk => ?_
  · rw [sum_len, ← join_empty, e1]
    have := qd_length (bol x.cps 0) (x.cps.toList.drop 0)
    have h2 : (x.cps.toList.drop 0).length = x.cps.size := by simp
    omega
  · have := pcs_len (fun a b => (⟨x.cps.extract a b⟩ : Str)) hN (Str.ofString "..") (x.cps.size + 1) 0 (by omega)
    omega
  · have e2 : Txt.join Str.empty (pcs (fun a b => (⟨x.cps.extract a b⟩ : Str)) x.cps.size (nx1 x.cps x.cps.size) (Str.ofString "..") (x.cps.size + 1) 0) = ofL (qd true x.cps.toList) := str_ext (by rw [e1, ofL_toList]; rfl)
    rw [e2]
    exact h t' h' k hk
end
end

section
set_option maxRecDepth 100000
open PySem PySem.W PySem.Builtin PySem.Builtin.Re PyProof.Rows

theorem slot_bjoin : Slot "bytes" "join" "bytes.join" :=
  .of (owner := "bytes") (n := "join") (by rw [typeLookup_type, builtinLookup_eq_fast]; kernel_rfl) (by decide +kernel) (by decide +kernel) (by decide +kernel)
    (by first | exact .inl (by decide +kernel) | exact .inr (by decide +kernel)) (by rw [isSubtype_type]; kernel_rfl)
theorem entry_bjoin : entryFor table "bytes.join" = some Builtin.«bytes.join» := entryFor_of_tree (by kernel_rfl)
theorem args_bjoin (a b : Value) : argsOk "bytes.join" ⟨[a, b], []⟩ := by unfold argsOk; kernel_rfl

noncomputable def bvals (l : List (Array UInt8 × Tok)) : List Value := l.map fun p => .bytes p.1 p.2
theorem take_eq {id : String} {b : Array UInt8} {t : Tok} : Bytes.takeBufferQuiet? id (.bytes b t) 0 = pure (some (b, none)) := by
  unfold Bytes.takeBufferQuiet? Bytes.takeBuffer?
  rw [KBy.special_eq KBy.look_buffer, KBy.own_buffer]
  have : ((0 : Int) == Bytes.fullReadOnly) = false := by decide
  rw [this, KBy.buffer_eq]
  kernel_rfl
section
variable {prog : Program} {w : World} {A : Around} {E : Value → Shared → Prop} {s : Shared}
theorem wp_letGos {l : List Value} {k : List Value} {Q : Unit → Shared → Prop} (h : Q () s) : wpAny (model prog w) A (letGo l k) Q E s := by
  induction l with
  | nil => exact wpAny_pure h
  | cons a r ih => exact wpAny_bind (wpAny_holding (wpAny_point ih))
theorem wp_joinLetGo {Q : Unit → Shared → Prop} (h : Q () s) : ∀ (l : List (Value × Option Value)) (k : List Value), (∀ p ∈ l, p.2 = none) → wpAny (model prog w) A (Bytes.joinLetGo l k) Q E s
  | [], _, _ => wpAny_pure h
  | (x, v) :: r, k, hn => by
    have : v = none := hn (x, v) (.head _)
    subst this
    exact wpAny_bind (wp_letGos (wp_joinLetGo h r k fun p hp => hn p (.tail _ hp)))
theorem wp_range {σ : Type} {body : Nat → σ → Sem (ForInStep σ)} {Q : σ → Shared → Prop} (st : Nat → σ) (n : Nat) (hb : ∀ i, i < n → wpAny (model prog w) A (body i (st i)) (fun r s' => r = .yield (st (i + 1)) ∧ s' = s) E s) (hq : Q (st n) s) :
    wpAny (model prog w) A (forIn [0:n] (st 0) body) Q E s := by
  rw [Std.Legacy.Range.forIn_eq_forIn_range']
  have key : ∀ (k i : Nat), i + k = n → wpAny (model prog w) A (forIn (List.range' i k 1) (st i) body) Q E s := by
    intro k
    induction k with
    | zero =>
      intro i hi
      have : i = n := by omega
      subst this
      exact wpAny_pure hq
    | succ k ih =>
      intro i hi
      rw [List.range'_succ, List.forIn_cons]
      refine wpAny_bind (wpAny_mono (hb i (by omega)) (fun r s' h => ?_) fun _ _ e => e)
      obtain ⟨rfl, rfl⟩ := h
      exact ih (i + 1) (by omega)
  have e : Std.Legacy.Range.size [0:n] = n := by simp [Std.Legacy.Range.size]
  rw [e]
  exact key n 0 (by omega)
theorem bj_not {α : Type} (I : Array Value) (h1 : Value → α) (h2 : Array Value → α) (h : I.size ≠ 1) : Bytes.joinM.match_1 (fun _ => α) I (fun x => h1 x) h2 = h2 I := by
  unfold Bytes.joinM.match_1
  rw [dif_neg h]
theorem meets_bjoin {L : Addr} {l : List (Array UInt8 × Tok)} {sep : Array UInt8} {t : Tok} {Q : PySem.Fin → Shared → Prop} (hl : s.heap.IsList L (bvals l).toArray) (hs : (Bytes.joined sep (l.map (·.1))).size ≤ 16777216)
    (hb : Bytes.tooLong ((l.map (·.1)).toArray.foldl (fun n (b : Array UInt8) => n + b.size) (sep.size * ((l.map (·.1)).toArray.size - 1))) = false)
    (h1 : ∀ p, l = [p] → Q (.done (.ret (.bytes p.1 p.2))) s) (h2 : Q (.done (.ret (.bytes (Bytes.joined sep (l.map (·.1))) s.toks))) { s with toks := s.toks + 1 }) :
    wpAny (model prog w) A (Builtin.«bytes.join» ⟨[.bytes sep t, .ref L], []⟩) Q E s := by
  obtain ⟨o, ho, hc, n, hd⟩ := hl
  have hseq : ∀ {Q' : Option (Array Value) → Shared → Prop}, Q' (some (bvals l).toArray) s → wpAny (model prog w) A (seqItems? (.ref L)) Q' E s := fun {Q'} q => by
    unfold seqItems?
    refine wpAny_bind (wpAny_load ho ?_)
    rw [hd]
    exact wpAny_pure q
  unfold Builtin.«bytes.join» Bytes.joinM
  dsimp only
  refine wpAny_bind (wpAny_pure ?_)
  rw [if_pos (show (Bytes.Kind.bytes == Bytes.Kind.bytes) = true from rfl)]
  unfold Bytes.joinItems
  refine wpAny_bind ?_
  refine wpAny_bind (wpAny_bind (wpAny_load ho ?_))
  rw [hc]
  refine wpAny_pure ?_
  rw [if_pos (show ((Value.type "list" == Value.type "list" || Value.type "list" == Value.type "tuple") = true) by decide +kernel)]
  refine wpAny_pure ?_
  refine wpAny_bind (hseq ?_)
  dsimp only
  rw [if_pos (show (Bytes.Kind.bytes == Bytes.Kind.bytes) = true from rfl)]
  by_cases hone : ∃ p, l = [p]
  · obtain ⟨p, rfl⟩ := hone
    show wpAny (model prog w) A (do
      let __do_lift ← typeOf (.bytes p.1 p.2)
      if (__do_lift == Value.type "bytes") = true then do
          rule "bytes.join.one-item"
          ret (.bytes p.1 p.2)
        else _) _ _ _
    refine wpAny_bind (wpAny_pure ?_)
    rw [if_pos (show (Value.type "bytes" == Value.type "bytes") = true by decide +kernel)]
    exact wpAny_bind (wpAny_rule (wpAny_pure (h1 p rfl)))
  · have hsz1 : (bvals l).toArray.size ≠ 1 := fun q => by
      have hlen : l.length = 1 := by simpa [bvals] using q
      match l, hlen with
      | [p], _ => exact hone ⟨p, rfl⟩
    rw [bj_not _ _ _ hsz1]
    refine wpAny_bind (wp_range (fun i => (((l.take i).map (·.1)).toArray, (l.take i).map fun p => (Value.bytes p.1 p.2, (none : Option Value)))) _ (fun i hi => ?_) ?_)
    · refine wpAny_bind (hseq ?_)
      dsimp only
      have hi' : i < l.length := by simpa [bvals] using hi
      rw [if_neg (by
        show ¬ ((false || _) = true)
        rw [Bool.false_or, List.any_eq_true]
        rintro ⟨x, hx, hx'⟩
        obtain ⟨p, _, rfl⟩ := List.mem_map.mp hx
        exact Bool.false_ne_true hx')]
      have hg : (bvals l).toArray.getD i Value.none = .bytes l[i].1 l[i].2 := by simp [bvals, hi']
      rw [hg, take_eq]
      refine wpAny_bind (wpAny_holding (wpAny_pure ?_))
      dsimp only
      refine wpAny_bind (hseq ?_)
      dsimp only
      rw [if_neg (by simp)]
      refine wpAny_pure ⟨?_, rfl⟩
      rw [List.take_add_one, List.getElem?_eq_getElem hi', List.map_append, List.map_append]
      simp
    · have hall : l.take (bvals l).toArray.size = l := by simp [bvals]
      dsimp only
      rw [hall]
      refine wpAny_bind (wpAny_pure ?_)
      rw [if_neg (by rw [hb]; exact Bool.false_ne_true)]
      refine wpAny_bind ?_
      show wpAny (model prog w) A (mkBytes _) _ _ _
      unfold mkBytes
      rw [if_neg (by rw [sizeLine_eq]; show ¬ (Bytes.joined sep (l.map (·.1)).toArray.toList).size > _; simpa using hs)]
      refine wpAny_bind (wpAny_fresh (wpAny_pure ?_))
      refine wpAny_bind (wpAny_holding (wpAny_point ?_))
      refine wpAny_bind (wp_joinLetGo ?_ _ _ fun p hp => ?_)
      · exact wpAny_pure (by simpa using h2)
      · obtain ⟨q, _, rfl⟩ := List.mem_map.mp hp
        rfl
end
end

section
set_option maxRecDepth 100000
open PySem PySem.W PySem.Builtin PySem.Builtin.Re PyProof.Rows

section
variable {M : Model} {A : Around} {E : Value → Shared → Prop} {s : Shared}
theorem wp_wholeB {P C : Addr} {code : Array Nat} {b : Array UInt8} {t : Tok} {Q : ReTarget → Shared → Prop} (hp : PatAt s.heap P C code 1)
    (h : Q { pattern := .ref P, string := .bytes b t, code := code, text := b.map (·.toNat), kind := 1, groups := 0, pos := 0, lim := (b.map (·.toNat)).size } s) : wpAny M A (reWholeTarget (.ref P) (.bytes b t)) Q E s := by
  obtain ⟨⟨o, vs, e1, e2, e3, e4, e5, e6⟩, ⟨o', xs, n, f1, f2, f3⟩⟩ := hp
  unfold reWholeTarget fieldsOf
  refine wpAny_bind (wpAny_bind (wpAny_load e1 ?_))
  rw [e3]
  refine wpAny_pure (wpAny_bind ?_)
  unfold reTextOf
  refine wpAny_bind (wpAny_pure ?_)
  dsimp only
  rw [KBy.quiet_eq]
  refine wpAny_bind (wpAny_pure (wpAny_pure ?_))
  dsimp only
  rw [e6, e5, e4]
  show wpAny M A (do
      reNoCollectionInside (.bytes b t) 1
      let c ← reRawItems (.ref C)
      pure { pattern := .ref P, string := .bytes b t, code := c.map (·.toNat), text := b.map (·.toNat), kind := 1, groups := 0, pos := 0, lim := (b.map (·.toNat)).size }) Q E s
  unfold reNoCollectionInside
  rw [if_pos (show ((1 : Nat) == 1) = true from rfl), KBy.isInstance_eq]
  refine wpAny_bind (wpAny_bind (wpAny_pure (wpAny_pure ?_)))
  refine wpAny_bind (wp_reRawItems f1 f2 (wpAny_pure ?_))
  rw [f3]
  exact h
end

noncomputable def bcut (b : Array UInt8) (x y : Nat) : Array UInt8 := ((b.map (·.toNat)).extract x y).map (·.toUInt8)
theorem joined_nil : ∀ l : List (Array UInt8), (Bytes.joined #[] l).toList = (l.map (·.toList)).flatten := by
  intro l
  unfold Bytes.joined
  have key : ∀ (l : List (Array UInt8 × Nat)) (out : Array UInt8), (l.foldl (fun out (p : Array UInt8 × Nat) => (if p.2 > 0 then out ++ #[] else out) ++ p.1) out).toList = out.toList ++ (l.map (·.1.toList)).flatten := by
    intro l
    induction l with
    | nil => intro out; simp
    | cons p r ih => intro out; rw [List.foldl_cons, ih]; split <;> simp
  have := key l.zipIdx #[]
  rw [show (l.zipIdx.map fun x => x.1.toList) = l.map (·.toList) by
    have : (l.zipIdx.map fun x => x.1.toList) = (l.zipIdx.map (·.1)).map (·.toList) := by rw [List.map_map]; rfl
    rw [this]; congr 1; first | exact List.zipIdx_map_fst 0 l | simp] at this
  simpa using this
theorem bytes_ext {x y : Array UInt8} (h : x.toList = y.toList) : x = y := Array.ext' h

section
variable {prog : Program} {w : World} {A : Around} {E : Value → Shared → Prop}
theorem bvals_snoc (l : List (Array UInt8 × Tok)) (b : Array UInt8) (t : Tok) : bvals (l ++ [(b, t)]) = bvals l ++ [.bytes b t] := by simp [bvals]
theorem subLoopB {P C L : Addr} {code : Array Nat} {x : Array UInt8} {t : Tok} {rep : Array UInt8} {u : Tok} {nx : Nat → Option (Nat × Nat)} (N : Nx code (x.map (·.toNat)) (x.map (·.toNat)).size nx) {R : Result → Shared → Prop} (hLP : L ≠ P) (hLC : L ≠ C) (hx : x.size ≤ 100000) :
    ∀ (f d n : Nat) (l : List (Array UInt8 × Tok)) (e0 : Nat) (s : Shared), (x.map (·.toNat)).size - d < f → d ≤ (x.map (·.toNat)).size → s.heap.get? L = some (seqObj "list" (bvals l).toArray e0) → PatAt s.heap P C code 1 →
      (((l.map (·.1)) ++ pcs (bcut x) (x.map (·.toNat)).size nx rep f d).map (·.size)).sum ≤ 16777216 → ((l.map (·.1)) ++ pcs (bcut x) (x.map (·.toNat)).size nx rep f d).length ≤ 1000000 →
      (∀ t' h' k, Heap.SameBut L s.heap h' → R (.ok (.ret (.bytes (Bytes.joined #[] ((l.map (·.1)) ++ pcs (bcut x) (x.map (·.toNat)).size nx rep f d)) t'))) { s with heap := h', toks := k }) →
      codeAny (model prog w) A (.builtin "re.Pattern.sub.loop" (subArgs P (.bytes x t) (.bytes rep u) n d L)) R s
  | 0, d, _, _, _, _, hf, _, _, _, _, _, _ => absurd hf (Nat.not_lt_zero _)
  | f + 1, d, n, l, e0, s, hf, hd, hL, hp, hsum, hlen, hR => by
    have hxs : (x.map (·.toNat)).size = x.size := Array.size_map
    have hsz : (bvals l).toArray.size = l.length := by simp [bvals]
    refine codeAny_builtin entry_subLoop ?_
    unfold Builtin.«re.Pattern.sub.loop» subArgs
    dsimp only [rawInt]
    refine wpAny_bind (wp_wholeB hp ?_)
    rw [if_pos (show ((0 : Int) == 0) = true from rfl)]
    unfold reLiteralCannotBeTurned
    refine wpAny_bind (wpAny_bind (wpAny_pure ?_))
    rw [if_pos (show ((none : Option Str).isNone = true) from rfl), KBy.isInstance_eq]
    refine wpAny_bind (wpAny_pure (wpAny_pure ?_))
    rw [if_neg (show ¬ (((0 : Int) != 0 && decide ((n : Int) ≥ 0)) = true) from Bool.false_ne_true)]
    unfold reNextFound
    dsimp only
    rw [Int.toNat_natCast]
    refine wpAny_bind ?_
    refine N.runs hd (fun r e hnx m hm1 hm2 => ?_) fun hnx => ?_
    · obtain ⟨h1, h2, h3⟩ := N.prog hd hnx
      have hp1 : pcs (bcut x) (x.map (·.toNat)).size nx rep (f + 1) d = (if d < r then [bcut x d r] else []) ++ rep :: pcs (bcut x) (x.map (·.toNat)).size nx rep f e := by
        rw [pcs.eq_2, hnx]
      rw [hp1] at hsum hlen hR
      have hl2 : l.length ≤ 999999 := by
        rw [List.length_append, List.length_append, List.length_cons, List.length_map] at hlen
        omega
      have hmm : (m.handed == m.start) = false := by rw [hm1, hm2]; exact beq_false_of_ne (by omega)
      have lastly : ∀ (l' : List (Array UInt8 × Tok)) (e' : Nat) (h' : Heap) (tk : Nat), l'.length ≤ l.length + 1 → Heap.SameBut L s.heap h' → h'.get? L = some (seqObj "list" (bvals l').toArray e') → l'.map (·.1) = l.map (·.1) ++ (if d < r then [bcut x d r] else []) →
          ∀ {E' : Value → Shared → Prop} {A' : Around}, wpAny (model prog w) A' (do
            updateSeq L fun a => a.push (.bytes rep u)
            again (.builtin "re.Pattern.sub.loop" (subArgs P (.bytes x t) (.bytes rep u) (n + 1) e L)))
            (fun fin s' => match fin with | .done f => R (.ok f) s' | .again c' => c'.quiet = true ∧ codeAny (model prog w) A c' R s') E' { s with heap := h', toks := tk } := by
        intro l' e' h' tk hz hs hL' hi' E' A'
        refine wpAny_bind (list_push hL' (by simp [bvals]; omega) fun h'' e'' hs' hL'' => wpAny_pure ⟨plainId_quiet (by decide +kernel) _, ?_⟩)
        have hs2 : Heap.SameBut L s.heap h'' := ⟨hs'.1.trans hs.1, fun b hb => (hs'.2 b hb).trans (hs.2 b hb)⟩
        have hL3 : h''.get? L = some (seqObj "list" (bvals (l' ++ [(rep, u)])).toArray e'') := by rw [hL'', bvals_snoc]; simp
        have ea : l.map (·.1) ++ ((if d < r then [bcut x d r] else []) ++ rep :: pcs (bcut x) (x.map (·.toNat)).size nx rep f e) =
            (l' ++ [(rep, u)]).map (·.1) ++ pcs (bcut x) (x.map (·.toNat)).size nx rep f e := by rw [List.map_append, hi']; simp
        rw [ea] at hsum hlen hR
        refine subLoopB N hLP hLC hx f e (n + 1) _ e'' { s with heap := h'', toks := tk } (by omega) h3 hL3 (hp.keeps fun b o hb eb => ?_) hsum hlen fun t' h3' k hs3 => hR t' h3' k ⟨hs3.1.trans hs2.1, fun b hb => (hs3.2 b hb).trans (hs2.2 b hb)⟩
        rw [hs2.2 b (by rcases hb with rfl | rfl; exact Ne.symm hLP; exact Ne.symm hLC)]; exact eb
      dsimp only
      rw [hmm, hm1, hm2]
      by_cases hdr : d < r
      · rw [if_pos hdr] at lastly ⊢
        refine wpAny_bind ?_
        show wpAny (model prog w) _ (mkBytes (bcut x d r)) _ _ _
        unfold mkBytes
        rw [if_neg (by
          rw [sizeLine_eq]
          show ¬ (bcut x d r).size > _
          unfold bcut
          rw [Array.size_map, Array.size_extract]
          omega)]
        refine wpAny_bind (wpAny_fresh (wpAny_pure ?_))
        refine wpAny_bind (list_push hL (by omega) fun h' e' hs' hL' => ?_)
        refine wpAny_bind (wpAny_pure ?_)
        rw [if_pos (show (Value.bytes rep u != Value.none) = true from rfl)]
        refine lastly (l ++ [(bcut x d r, s.toks)]) e' h' _ (by simp) hs' (by rw [hL', bvals_snoc]; simp) (by simp)
      · rw [if_neg hdr] at lastly ⊢
        refine wpAny_bind (wpAny_pure ?_)
        rw [if_pos (show (Value.bytes rep u != Value.none) = true from rfl)]
        exact lastly l e0 s.heap s.toks (by omega) ⟨rfl, fun _ _ => rfl⟩ hL (by simp)
    · have hp1 : pcs (bcut x) (x.map (·.toNat)).size nx rep (f + 1) d = if d < (x.map (·.toNat)).size then [bcut x d (x.map (·.toNat)).size] else [] := by
        rw [pcs.eq_2, hnx]
      rw [hp1] at hsum hlen hR
      dsimp only
      have fin : ∀ (l' : List (Array UInt8 × Tok)) (e' : Nat) (h' : Heap) (tk : Nat), Heap.SameBut L s.heap h' → h'.get? L = some (seqObj "list" (bvals l').toArray e') → l'.map (·.1) = l.map (·.1) ++ (if d < (x.map (·.toNat)).size then [bcut x d (x.map (·.toNat)).size] else []) →
          ∀ {A' : Around}, wpAny (model prog w) A' (do
            let joiner ← reSlice (x.map (·.toNat)) 1 0 0
            let text ← if ((← seqItems? (.ref L)).getD #[]).isEmpty = true then pure joiner else call (.builtin (if (1 : Nat) == 0 then "str.join" else "bytes.join")) [joiner, .ref L]
            if false = true then ret (← holding [text] do newTuple [text, ← mkInt n]) else ret text)
            (fun fin s' => match fin with | .done f => R (.ok f) s' | .again c' => c'.quiet = true ∧ codeAny (model prog w) A c' R s') (fun e s' => R (.error e) s') { s with heap := h', toks := tk } := by
        intro l' e' h' tk hs hL' hi' A'
        refine wpAny_bind ?_
        show wpAny (model prog w) _ (mkBytes (bcut x 0 0)) _ _ _
        have hj : bcut x 0 0 = #[] := by simp [bcut]
        rw [hj]
        unfold mkBytes
        rw [if_neg (by rw [sizeLine_eq]; simp)]
        refine wpAny_bind (wpAny_fresh (wpAny_pure ?_))
        unfold seqItems?
        refine wpAny_bind (wpAny_bind (wpAny_load hL' (wpAny_pure ?_)))
        have hsz' : (bvals l').toArray.size = l'.length := by simp [bvals]
        rw [← hi'] at hsum hlen hR
        by_cases hem : l'.length = 0
        · rw [if_pos (by show (bvals l').toArray.isEmpty = true; rw [Array.isEmpty_iff_size_eq_zero]; omega)]
          refine wpAny_pure ?_
          have := hR tk h' (tk + 1) hs
          rw [List.eq_nil_of_length_eq_zero hem] at this
          exact this
        · rw [if_neg (by show ¬ ((bvals l').toArray.isEmpty = true); rw [Array.isEmpty_iff_size_eq_zero]; omega)]
          refine wpAny_bind ?_
          show wpAny (model prog w) A' (call (.builtin "bytes.join") [.bytes #[] tk, .ref L]) _ _ _
          have hjs : (Bytes.joined #[] (l'.map (·.1))).size ≤ 16777216 := by
            rw [← Array.length_toList, joined_nil, List.length_flatten, List.map_map]
            have : (l'.map (·.1)).map (List.length ∘ Array.toList) = (l'.map (·.1)).map (·.size) := List.map_congr_left fun a _ => by simp
            rw [this]; exact hsum
          have hfold : ∀ (ls : List (Array UInt8)) (k : Nat), ls.foldl (fun n (b : Array UInt8) => n + b.size) k = k + (ls.map (·.size)).sum := by
            intro ls
            induction ls with
            | nil => intro k; simp
            | cons a r ih => intro k; rw [List.foldl_cons, ih, List.map_cons, List.sum_cons]; omega
          refine wpAny_call (codeAny_call_builtin slot_bjoin.plain entry_bjoin (slot_bjoin.check _ _ _ _ _ _ _ _ rfl (args_bjoin _ _) ?_))
          refine meets_bjoin (s := { s with heap := h', toks := tk + 1 }) ⟨_, hL', rfl, _, rfl⟩ hjs ?_ (fun p hp => ?_) ?_
          · rw [List.foldl_toArray, hfold]
            exact KBy.tooLong_not (by simp; simpa using hsum)
          · subst hp
            have := hR p.2 h' (tk + 1) hs
            have e1 : Bytes.joined #[] (([p] : List (Array UInt8 × Tok)).map (·.1)) = p.1 := bytes_ext (by rw [joined_nil]; simp)
            rw [e1] at this
            exact wpAny_pure this
          · exact wpAny_pure (hR (tk + 1) h' (tk + 1 + 1) hs)
      by_cases hdl : d < (x.map (·.toNat)).size
      · rw [if_pos hdl] at fin hlen ⊢
        have hl2 : l.length ≤ 999999 := by
          rw [List.length_append, List.length_map] at hlen
          have : [bcut x d (x.map (·.toNat)).size].length = 1 := rfl
          omega
        refine wpAny_bind ?_
        show wpAny (model prog w) _ (mkBytes (bcut x d (x.map (·.toNat)).size)) _ _ _
        unfold mkBytes
        rw [if_neg (by
          rw [sizeLine_eq]
          show ¬ (bcut x d (x.map (·.toNat)).size).size > _
          unfold bcut
          rw [Array.size_map, Array.size_extract]
          omega)]
        refine wpAny_bind (wpAny_fresh (wpAny_pure ?_))
        refine wpAny_bind (list_push hL (by omega) fun h' e' hs' hL' => ?_)
        exact fin (l ++ [(bcut x d (x.map (·.toNat)).size, s.toks)]) e' h' _ hs' (by rw [hL', bvals_snoc]; simp) (by simp)
      · rw [if_neg hdl] at fin ⊢
        exact fin l e0 s.heap s.toks ⟨rfl, fun _ _ => rfl⟩ hL (by simp)
end
end

section
set_option maxRecDepth 100000
open PySem PySem.W PySem.Builtin PySem.Builtin.Re PyProof.Rows
noncomputable def nats (x : Array UInt8) : List Nat := x.toList.map (·.toNat)
theorem bcut_nats (x : Array UInt8) (a b : Nat) : nats (bcut x a b) = cutL (x.map (·.toNat)) a b := by
  unfold nats bcut
  rw [Array.toList_map, extract_toList, List.map_map]
  have : ∀ c ∈ cutL (x.map (·.toNat)) a b, ((fun u : UInt8 => u.toNat) ∘ fun n : Nat => n.toUInt8) c = c := by
    intro c hc
    unfold cutL at hc
    have := List.mem_of_mem_drop (List.mem_of_mem_take hc)
    rw [Array.toList_map] at this
    obtain ⟨u, _, rfl⟩ := List.mem_map.mp this
    simp
  exact (List.map_congr_left this).trans (List.map_id _)
theorem nats_joined (l : List (Array UInt8)) : nats (Bytes.joined #[] l) = (l.map nats).flatten := by
  unfold nats
  rw [joined_nil, List.map_flatten, List.map_map]
  rfl
theorem pieces_joinB (x rep : Array UInt8) (nx : Nat → Option (Nat × Nat)) (f d : Nat) :
    nats (Bytes.joined #[] (pcs (bcut x) (x.map (·.toNat)).size nx rep f d)) = (pcs (cutL (x.map (·.toNat))) (x.map (·.toNat)).size nx (nats rep) f d).flatten := by
  rw [nats_joined, pcs_map]
  congr 2
  funext a b
  exact bcut_nats x a b
theorem sum_sizes (l : List (Array UInt8)) : (l.map (·.size)).sum = (nats (Bytes.joined #[] l)).length := by
  rw [nats_joined]
  induction l with
  | nil => rfl
  | cons a r ih => rw [List.map_cons, List.sum_cons, List.map_cons, List.flatten_cons, List.length_append, ih]; simp [nats]
section
variable {prog : Program} {w : World} {A : Around} {E : Value → Shared → Prop} {s : Shared}
theorem sub_octets {P C : Addr} {x : Array UInt8} {t u : Tok} {Q : Value → Shared → Prop} (hp : PatAt s.heap P C code1 1) (hx : x.size ≤ 1000)
    (h : ∀ r t' h' k, nats r = qd true (nats x) → (∀ b o, s.heap.get? b = some o → h'.get? b = some o) → Q (.bytes r t') { s with heap := h', toks := k }) :
    wpAny (model prog w) A (call (.builtin "re.Pattern.sub") [.ref P, .bytes #[46, 46] u, .bytes x t]) Q E s := by
  have hxs : (x.map (·.toNat)).size = x.size := Array.size_map
  have hN := nx1_is (x.map (·.toNat)) (x.map (·.toNat)).size (by omega)
  have e1 := pieces_joinB x #[46, 46] (nx1 (x.map (·.toNat)) (x.map (·.toNat)).size) ((x.map (·.toNat)).size + 1) 0
  rw [show nats #[46, 46] = [46, 46] from rfl, pcs1 (x.map (·.toNat)) _ _ (by omega) (by omega)] at e1
  have e2 : qd (bol (x.map (·.toNat)) 0) ((x.map (·.toNat)).toList.drop 0) = qd true (nats x) := by
    show qd true _ = _
    rw [List.drop_zero, Array.toList_map]; rfl
  rw [e2] at e1
  have hT : s.TypeIs (.ref P) "re.Pattern" := by obtain ⟨⟨o, _, e, e', _⟩, _⟩ := hp; exact ⟨o, e, e'⟩
  refine wpAny_call (codeAny_call_builtin slot_sub.plain entry_sub (slot_sub.check _ _ _ _ _ _ _ _ hT (args_sub _ _ _) ?_))
  unfold Builtin.«re.Pattern.sub» reSubstitute
  dsimp only
  rw [named_sub]
  refine wpAny_bind (wpAny_pure ?_)
  refine wpAny_bind (wpAny_pure ?_)
  have hc : specialOf (.bytes #[46, 46] u) "__call__" = pure none := bytes_noCall
  rw [hc]
  refine wpAny_bind (wpAny_pure ?_)
  rw [if_neg (show ¬ ((none : Option Value).isSome = true) from Bool.false_ne_true)]
  refine wpAny_bind (wpAny_pure ?_)
  dsimp only
  rw [KBy.quiet_eq]
  refine wpAny_bind (wpAny_pure ?_)
  dsimp only
  refine wpAny_bind (wpAny_pure ?_)
  rw [if_neg (show ¬ ((none : Option Value).isSome = true) from Bool.false_ne_true), if_pos (show (!(#[46, 46] : Array UInt8).contains 92) = true by decide +kernel)]
  refine wpAny_bind (wpAny_pure ?_)
  dsimp only
  refine wpAny_bind (wpAny_holding (wp_wholeB hp ?_))
  rw [if_neg (show ¬ (((0 : Int) == 1) = true) from Bool.false_ne_true)]
  refine wpAny_bind (wpAny_newList (wpAny_pure ⟨plainId_quiet (by decide +kernel) _, ?_⟩))
  have hne : ∀ b o, s.heap.get? b = some o → b ≠ s.heap.objs.size := fun b o e => Nat.ne_of_lt (Heap.lt_size e)
  have hP : s.heap.objs.size ≠ P := by obtain ⟨⟨o, _, e, _⟩, _⟩ := hp; exact (hne _ _ e).symm
  have hC : s.heap.objs.size ≠ C := by obtain ⟨_, ⟨o, _, _, e, _⟩⟩ := hp; exact (hne _ _ e).symm
  refine subLoopB hN hP hC (by omega) ((x.map (·.toNat)).size + 1) 0 0 [] 0 { s with heap := s.heap.push (seqObj "list" #[] 0) } (by omega) (by omega) (Heap.get?_push_size _ rfl)
    (hp.keeps fun b o _ e => Heap.get?_push_of_some _ e) ?_ ?_ fun t' h' k hs => ?_
  · rw [List.map_nil, List.nil_append, sum_sizes, e1]
    have := qd_length true (nats x)
    have h2 : (nats x).length = x.size := by simp [nats]
    omega
  · have := pcs_len (bcut x) hN #[46, 46] ((x.map (·.toNat)).size + 1) 0 (by omega)
    rw [List.map_nil, List.nil_append]
    omega
  · exact h _ t' h' k e1 fun b o e => (hs.2 b (hne b o e)).trans (Heap.get?_push_of_some _ e)
end
end

section
set_option maxRecDepth 100000
open PySem PySem.W PyProof.Rows PySem.Calls

noncomputable abbrev thePr : Program := PySem.Challenge.rw_nb0121_01.prog
/-- what stands at every heap of the run -/
structure Bs (w : World) (p : Program) (loose : List Str) (mean : ExcName → Option Value) (mg mb : Str → Option Value) (h : Heap) : Prop where
  K : (hd.heap_39 w.params).In h
  T : Top p loose mean mg mb h
theorem Bs.keeps {w : World} {p : Program} {loose : List Str} {mean : ExcName → Option Value} {mg mb : Str → Option Value} {h h' : Heap} (B : Bs w p loose mean mg mb h) (k : ∀ b o, h.get? b = some o → h'.get? b = some o) : Bs w p loose mean mg mb h' :=
  ⟨B.K.keeps k, B.T.keeps k⟩
/-- the room that a call has -/
structure Room (A : Around) (d u : Nat) : Prop where
  hh : A.handled = none
  hd : A.depth ≤ d
  hu : A.units ≤ u

section
variable {w : World} {p : Program} {loose : List Str} {mean : ExcName → Option Value} {mg mb : Str → Option Value} {A : Around} {s : Shared} {Q E : Value → Shared → Prop}
theorem enterK {f : Addr} {vals : List Value} {name qual : Str} {params : Arguments} {body : List Stmt} {scope : Scope} {dV kV doc pm cdv ct oc : Value} {an od : Option Addr} {osl : Array (Option Value)} {binds : List (Str × Value)}
    (B : Bs w p loose mean mg mb s.heap) (ho : (hd.heap_39 w.params).lookup f = some ⟨oc, od, .func (fnOf name qual params body scope dV kV doc pm an cdv ct), osl⟩) (hcd : codeIn (hd.heap_39 w.params) cdv qual = true) (hroom : A.depth < recursionLimit)
    (hbind : BindsTo s (fnOf name qual params body scope dV kV doc pm an cdv ct) ⟨vals, []⟩ binds) (hloc : ∀ y ∈ binds, scope.names.lookup y.1 = some .local)
    (h : ∀ L h₁, Fr s.heap L h₁ (fun y => binds.reverse.lookup y) →
      wpAny (model thePr w) (A.deeper (envOf qual scope L f cdv)) (execs body (envOf qual scope L f cdv)) (fun fl s' => Q (match fl with | .ret v => v | _ => .none) s') (fun _ _ => False) { s with heap := h₁, toks := s.toks + binds.length })
    (hco : scope.isCoroutine = false) (hgen : scope.isGenerator = false) (hk : scope.kind = .function) (hcell : ∀ x ∈ scope.names, x.2 ≠ .cell) : wpAny (model thePr w) A (call (.ref f) vals) Q E s := by
  refine wpAny_call ?_
  refine codeAny_call_def (fd := fnOf name qual params body scope dV kV doc pm an cdv ct) (body := body) (binds := binds) hroom (B.K _ _ ho) rfl B.T.nolimit (codeRec_of B.K hcd) rfl hbind hcell hloc (fun h₁ hns hk₁ => ?_) hco hgen hk
  exact wpAny_mono (h s.heap.objs.size h₁ ⟨hns, hk₁, Nat.le_refl _⟩) (fun fl s' q => q) (fun _ _ q => q.elim)
theorem gen_toks {α : Type} {M : Model} {A : Around} {t : Sem α} {Q : α → Shared → Prop} {E : Value → Shared → Prop} {h : Heap} {g : Array GenState} {d : Drawn} {n : Nat} {os : OsState} (hn : 0 < n) (k : ∀ tk, 0 < tk → wpAny M A t Q E ⟨h, g, d, tk, os⟩) : wpAny M A t Q E ⟨h, g, d, n, os⟩ := k n hn
end
end

section
set_option maxRecDepth 100000
open PySem PySem.W PyProof.Rows PySem.Calls
/-- what grows keeps -/
noncomputable abbrev Kp (h h' : Heap) : Prop := ∀ b o, h.get? b = some o → h'.get? b = some o
section
variable {w : World} {p : Program} {loose : List Str} {mean : ExcName → Option Value} {mg mb : Str → Option Value} {A : Around} {h : Heap} {gs : Array GenState} {d : Drawn} {tk : Nat} {os : OsState} {Q E : Value → Shared → Prop}
theorem enterS {f : Addr} {vals : List Value} {name qual : Str} {params : Arguments} {body : List Stmt} {scope : Scope} {dV kV doc pm cdv ct oc : Value} {an od : Option Addr} {osl : Array (Option Value)} (b0 : Str × Value) (binds : List (Str × Value))
    (B : Bs w p loose mean mg mb h) (ho : (hd.heap_39 w.params).lookup f = some ⟨oc, od, .func (fnOf name qual params body scope dV kV doc pm an cdv ct), osl⟩) (hcd : codeIn (hd.heap_39 w.params) cdv qual = true) (hroom : A.depth < recursionLimit)
    (hbind : BindsTo ⟨h, gs, d, tk, os⟩ (fnOf name qual params body scope dV kV doc pm an cdv ct) ⟨vals, []⟩ (b0 :: binds)) (hloc : ∀ y ∈ (b0 :: binds), scope.names.lookup y.1 = some .local)
    (k : ∀ L h₁ t₁, 0 < t₁ → Fr h L h₁ (fun y => (b0 :: binds).reverse.lookup y) → News h L h₁ [] → (hd.heap_39 w.params).In h → Top p loose mean mg mb h →
      wpAny (model thePr w) (A.deeper (envOf qual scope L f cdv)) (execs body (envOf qual scope L f cdv)) (fun fl s' => Q (match fl with | .ret v => v | _ => .none) s') (fun _ _ => False) ⟨h₁, gs, d, t₁, os⟩)
    (hco : scope.isCoroutine = false) (hgen : scope.isGenerator = false) (hk : scope.kind = .function) (hcell : ∀ x ∈ scope.names, x.2 ≠ .cell) : wpAny (model thePr w) A (call (.ref f) vals) Q E ⟨h, gs, d, tk, os⟩ := by
  refine enterK (s := ⟨h, gs, d, tk, os⟩) B ho hcd hroom hbind hloc ?_ hco hgen hk hcell
  intro L h₁ F
  exact k L h₁ (tk + (b0 :: binds).length) (by rw [List.length_cons]; omega) F News.nil B.K B.T
end
end

section
set_option maxRecDepth 100000
open PySem PySem.W PyProof.Rows PySem.Calls
noncomputable abbrev cpl (x : Str) : List Nat := x.cps.toList
theorem join_glue' (sep : Str) (l : List Str) : cpl (Str.join sep l) = glue (cpl sep) (l.map cpl) := by
  have := join_glue sep l
  unfold Txt.join at this
  rw [StrLaws.glued_eq_join] at this
  exact this
theorem rowsOn_free (d : Nat) : ∀ (r : List Nat), d ∉ r → rowsOn d r = [r]
  | [], _ => rfl
  | c :: t, h => rowsOn_other (fun e => h (by rw [e]; exact .head _)) (rowsOn_free d t fun q => h (.tail _ q))
theorem rowsOn_app (d : Nat) : ∀ (r t : List Nat), d ∉ r → rowsOn d (r ++ d :: t) = r :: rowsOn d t
  | [], t, _ => rowsOn_sep d t
  | c :: r, t, h => rowsOn_other (fun e => h (by rw [e]; exact .head _)) (rowsOn_app d r t fun q => h (.tail _ q))
theorem rowsOn_glue (d : Nat) : ∀ l : List (List Nat), l ≠ [] → (∀ r ∈ l, d ∉ r) → rowsOn d (glue [d] l) = l
  | [], h, _ => absurd rfl h
  | [r], _, h => rowsOn_free d r (h r (.head _))
  | r :: r2 :: rs, _, h => by
    have ih := rowsOn_glue d (r2 :: rs) (by simp) fun x hx => h x (.tail _ hx)
    show rowsOn d (r ++ [d] ++ glue [d] (r2 :: rs)) = _
    rw [List.append_assoc, List.singleton_append, rowsOn_app d r _ (h r (.head _)), ih]
theorem split_ne (x y : Str) : Txt.split x y ≠ [] := by
  unfold Txt.split
  split
  · simp
  · split
    · simp
    · rw [StrLaws.partsBetween_eq]
      obtain ⟨p, r, e⟩ := StrLaws.partsFrom_ne x y.length 0 (Builtin.Str.occurrences x y 0 x.length (x.length + 1))
      rw [e]; simp
theorem split_rows (x : Str) (d : Nat) : (Txt.split x ⟨#[d]⟩).map cpl = rowsOn d (cpl x) := by
  have h := StrLaws.join_split x ⟨#[d]⟩
  have e : cpl x = glue [d] ((Txt.split x ⟨#[d]⟩).map cpl) := by
    rw [← join_glue' ⟨#[d]⟩, h]
  rw [e, rowsOn_glue]
  · intro q
    exact split_ne x ⟨#[d]⟩ (List.map_eq_nil_iff.mp q)
  · intro r hr
    obtain ⟨p, hp, rfl⟩ := List.mem_map.mp hr
    exact StrLaws.split_free x d p hp
theorem split_strs (x : Str) (d : Nat) : Txt.split x ⟨#[d]⟩ = (rowsOn d (cpl x)).map ofL := by
  rw [← split_rows, List.map_map]
  have : ∀ y : Str, (ofL ∘ cpl) y = y := fun y => str_ext (ofL_toList _)
  rw [show (ofL ∘ cpl) = id from funext this, List.map_id]
theorem replace_lf (x : Str) : cpl (Txt.replace x ⟨#[10]⟩ ⟨#[13]⟩) = (cpl x).map lf := by
  rw [StrLaws.replace_one, join_glue', split_rows, glue_rows]
  induction cpl x with
  | nil => rfl
  | cons c t ih =>
    rw [List.flatMap_cons, List.map_cons, ih]
    unfold sub1 lf
    split <;> rfl
noncomputable def crlf (l : List Nat) (k : Nat) : Prop := ∃ u, l.drop k = 13 :: 10 :: u
theorem n1_none : ∀ l : List Nat, (∀ k, ¬ crlf l k) → n1 l = l
  | [], _ => rfl
  | c :: t, h => by
    rw [n1_other, n1_none t fun k ⟨u, e⟩ => h (k + 1) ⟨u, by rw [List.drop_succ_cons]; exact e⟩]
    rintro ⟨rfl, u, rfl⟩
    exact h 0 ⟨u, rfl⟩
theorem n1_cut : ∀ (c : Nat) (l u : List Nat), l.drop c = 13 :: 10 :: u → (∀ k, k < c → ¬ crlf l k) → n1 l = l.take c ++ 13 :: n1 u
  | 0, l, u, e, _ => by
    have e' : l = 13 :: 10 :: u := by simpa using e
    rw [e', n1_crlf]; rfl
  | c + 1, [], u, e, _ => by simp at e
  | c + 1, a :: t, u, e, h => by
    have ih := n1_cut c t u (by simpa using e) fun k hk ⟨v, ev⟩ => h (k + 1) (by omega) ⟨v, by rw [List.drop_succ_cons]; exact ev⟩
    rw [n1_other, ih]
    · rfl
    · rintro ⟨rfl, v, rfl⟩
      exact h 0 (by omega) ⟨v, rfl⟩
theorem at_crlf (x : Str) (k : Nat) : StrLaws.At x ⟨#[13, 10]⟩ x.length k ↔ crlf (cpl x) k := by
  unfold StrLaws.At crlf
  rw [StrLaws.subAt_eq]
  show (k + 2 ≤ x.cps.size ∧ ((x.cps.toList.drop k).take 2 == [13, 10]) = true) ↔ _
  rw [← Array.length_toList]
  constructor
  · rintro ⟨h1, h2⟩
    have h2 := eq_of_beq h2
    have h3 := List.take_append_drop 2 (x.cps.toList.drop k)
    rw [h2] at h3
    exact ⟨_, h3.symm⟩
  · rintro ⟨u, hu⟩
    have hu' : x.cps.toList.drop k = 13 :: 10 :: u := hu
    rw [hu']
    have hl := congrArg List.length hu'
    simp only [List.length_drop, List.length_cons] at hl
    exact ⟨by omega, rfl⟩
theorem parts_n1 (x : Str) : ∀ (cuts : List Nat) (a f : Nat), StrLaws.ChainG x ⟨#[13, 10]⟩ x.length a cuts f → (∀ k, f ≤ k → ¬ StrLaws.At x ⟨#[13, 10]⟩ x.length k) →
    cpl (Str.join ⟨#[13]⟩ (StrLaws.partsFrom x 2 a cuts)) = n1 ((cpl x).drop a)
  | [], a, f, h, hn => by
    have e : f = a := h
    subst e
    show cpl (Builtin.Str.strSub x f x.length) = _
    rw [n1_none]
    · show (Builtin.Str.strSub x f x.length).cps.toList = _
      rw [StrLaws.strSub_toList, List.take_of_length_le]
      rw [List.length_drop, Array.length_toList]
      exact Nat.le_refl _
    · rintro k ⟨u, hu⟩
      rw [List.drop_drop] at hu
      exact hn (f + k) (by omega) ((at_crlf x _).mpr ⟨u, hu⟩)
  | c :: r, a, f, h, hn => by
    obtain ⟨hac, hat, hno, hch⟩ := h
    have ih := parts_n1 x r (c + 2) f hch hn
    obtain ⟨p, q, e⟩ := StrLaws.partsFrom_ne x 2 (c + 2) r
    show cpl (Str.join ⟨#[13]⟩ (Builtin.Str.strSub x a c :: StrLaws.partsFrom x 2 (c + 2) r)) = _
    have ej : cpl (Str.join ⟨#[13]⟩ (Builtin.Str.strSub x a c :: StrLaws.partsFrom x 2 (c + 2) r)) = cpl (Builtin.Str.strSub x a c) ++ [13] ++ cpl (Str.join ⟨#[13]⟩ (StrLaws.partsFrom x 2 (c + 2) r)) := by
      rw [e, join_glue', join_glue']
      rfl
    rw [ej, ih]
    obtain ⟨u, hu⟩ := (at_crlf x c).mp hat
    have hd : ((cpl x).drop a).drop (c - a) = 13 :: 10 :: u := by rw [List.drop_drop, show a + (c - a) = c by omega]; exact hu
    rw [n1_cut (c - a) _ u hd]
    · have e2 : (cpl x).drop (c + 2) = u := by rw [← List.drop_drop, hu]; rfl
      rw [e2]
      show (Builtin.Str.strSub x a c).cps.toList ++ _ ++ _ = _
      rw [StrLaws.strSub_toList]
      simp
    · rintro k hk ⟨v, hv⟩
      rw [List.drop_drop] at hv
      exact hno (a + k) (by omega) (by omega) ((at_crlf x _).mpr ⟨v, hv⟩)
theorem replace_crlf (x : Str) : cpl (Txt.replace x ⟨#[13, 10]⟩ ⟨#[13]⟩) = n1 (cpl x) := by
  obtain ⟨f, hG, hn⟩ := StrLaws.occ_tight x ⟨#[13, 10]⟩ (by decide)
  have key := parts_n1 x _ 0 f hG hn
  rw [List.drop_zero] at key
  rw [← key]
  unfold Txt.replace
  split
  · rename_i hc
    have he : (Builtin.Str.occurrences x ⟨#[13, 10]⟩ 0 x.length (x.length + 1)).isEmpty = true := by
      have h0 : ((⟨#[13, 10]⟩ : Str).length == 0 && (⟨#[13]⟩ : Str).length == 0) = false := rfl
      rw [h0, Bool.or_false] at hc
      exact hc
    rw [List.isEmpty_iff.mp he]
    show cpl x = cpl (Builtin.Str.strSub x 0 x.length)
    rw [StrLaws.sub_whole]
  · rw [StrLaws.glued_eq_join, StrLaws.partsBetween_eq]
    rfl
/-- rows of a mail -/
noncomputable def rowsS (x : Str) : List Str := (rowsOn 13 (plain (cpl x))).map ofL
theorem rows_is (x : Str) : Txt.split (Txt.replace (Txt.replace x ⟨#[13, 10]⟩ ⟨#[13]⟩) ⟨#[10]⟩ ⟨#[13]⟩) ⟨#[13]⟩ = rowsS x := by
  rw [split_strs, replace_lf, replace_crlf]
  rfl
theorem n1_length : ∀ m : List Nat, (n1 m).length ≤ m.length
  | [] => Nat.le_refl _
  | c :: t => by
    by_cases h : c = 13 ∧ ∃ u, t = 10 :: u
    · obtain ⟨rfl, u, rfl⟩ := h
      rw [n1_crlf]
      have := n1_length u
      simp only [List.length_cons]; omega
    · rw [n1_other h]
      have := n1_length t
      simp only [List.length_cons]; omega
termination_by m => m.length
theorem plain_length (m : List Nat) : (plain m).length ≤ m.length := by
  unfold plain; rw [List.length_map]; exact n1_length m
theorem replace1_len (x : Str) : (Txt.replace x ⟨#[13, 10]⟩ ⟨#[13]⟩).length ≤ x.length := by
  have := congrArg List.length (replace_crlf x)
  have h2 := n1_length (cpl x)
  simp only [Array.length_toList] at this h2
  show (Txt.replace x ⟨#[13, 10]⟩ ⟨#[13]⟩).cps.size ≤ x.cps.size
  omega
theorem replace2_len (x : Str) : (Txt.replace x ⟨#[10]⟩ ⟨#[13]⟩).length = x.length := by
  have := congrArg List.length (replace_lf x)
  simp only [Array.length_toList, List.length_map] at this
  exact this
theorem rowsOn_len (d : Nat) : ∀ m : List Nat, (rowsOn d m).length ≤ m.length + 1 ∧ ∀ r ∈ rowsOn d m, r.length ≤ m.length
  | [] => by simp [rowsOn]
  | c :: t => by
    obtain ⟨i1, i2⟩ := rowsOn_len d t
    by_cases h : c = d
    · subst h
      rw [rowsOn_sep]
      refine ⟨by simp only [List.length_cons]; omega, fun r hr => ?_⟩
      rcases List.mem_cons.mp hr with rfl | hr
      · simp
      · have := i2 r hr; simp only [List.length_cons]; omega
    · cases hr : rowsOn d t with
      | nil => exact absurd hr (rowsOn_ne d t)
      | cons r rs =>
        rw [rowsOn_other h hr]
        rw [hr] at i1 i2
        refine ⟨by simp only [List.length_cons] at i1 ⊢; omega, fun q hq => ?_⟩
        rcases List.mem_cons.mp hq with rfl | hq
        · have := i2 r (.head _); simp only [List.length_cons]; omega
        · have := i2 q (.tail _ hq); simp only [List.length_cons]; omega
theorem rowsS_len (x : Str) : (rowsS x).length ≤ x.length + 1 := by
  unfold rowsS
  rw [List.length_map]
  have h1 := (rowsOn_len 13 (plain (cpl x))).1
  have h2 : (plain (cpl x)).length ≤ x.cps.size := Nat.le_trans (plain_length (cpl x)) (Nat.le_of_eq (Array.length_toList ..))
  show _ ≤ x.cps.size + 1
  omega
theorem rowsS_each (x : Str) : ∀ r ∈ rowsS x, r.length ≤ x.length := by
  intro r hr
  obtain ⟨q, hq, rfl⟩ := List.mem_map.mp hr
  have h1 := (rowsOn_len 13 (plain (cpl x))).2 q hq
  have h2 : (plain (cpl x)).length ≤ x.cps.size := Nat.le_trans (plain_length (cpl x)) (Nat.le_of_eq (Array.length_toList ..))
  show (ofL q).cps.size ≤ x.cps.size
  rw [← Array.length_toList, ofL_toList]
  omega
end

section
set_option maxRecDepth 100000
open PySem PySem.W PyProof.Rows PySem.Calls
theorem lt_asym {a b : List Nat} (h1 : a < b) (h2 : b < a) : False := List.lt_irrefl a (List.lt_trans h1 h2)
theorem tri {a b : List Nat} (h1 : ¬ a < b) (h2 : ¬ b < a) : a = b := List.le_antisymm (List.not_lt.mp h2) (List.not_lt.mp h1)
/-- what the fourteen tell of two texts -/
noncomputable def toldL (a b : List Nat) : List Bool :=
  let p := decide (a < b)
  let q := decide (b < a)
  [p, p, p, !q, !q, !q, q, q, q, !p, !p, !p, !p && !q, !(!p && !q)]
noncomputable def told (x y : Str) : List Bool := toldL (cpl x) (cpl y)
theorem beq_str (x y : Str) : (x == y) = (!decide (cpl x < cpl y) && !decide (cpl y < cpl x)) := by
  by_cases e : x = y
  · subst e
    have : ¬ cpl x < cpl x := fun h => List.lt_irrefl _ h
    simp
  · have e' : cpl x ≠ cpl y := fun q => e (str_ext q)
    have hb : (x == y) = false := by simpa using e
    rw [hb]
    by_cases h1 : cpl x < cpl y
    · simp [h1]
    · by_cases h2 : cpl y < cpl x
      · simp [h2]
      · exact absurd (tri h1 h2) e'
theorem toldL_congr {a b c d : List Nat} (h1 : a < b ↔ c < d) (h2 : b < a ↔ d < c) : toldL a b = toldL c d := by
  unfold toldL
  simp only [h1, h2]
end

section
set_option maxRecDepth 100000
set_option maxHeartbeats 1000000
open PySem PySem.W PyProof.Rows PySem.Calls Builtin Builtin.Str
/-- a list of texts stands at D -/
noncomputable def SL (h : Heap) (D : Addr) (xs : List Str) : Prop := ∃ vs n, h.get? D = some (listOf vs n) ∧ StrsAre vs.toList xs
theorem SL.keeps {h h' : Heap} {D : Addr} {xs : List Str} (H : SL h D xs) (k : Kp h h') : SL h' D xs := by
  obtain ⟨vs, n, e, q⟩ := H
  exact ⟨vs, n, k _ _ e, q⟩
section
variable {prog : Program} {w : World} {A : Around} {E : Value → Shared → Prop} {s : Shared} {x y z : Str} {t u v : Tok} {Q : Value → Shared → Prop}
theorem replaceT (hu : u ≠ 0) (hv : v ≠ 0) (huv : u ≠ v) (hyz : (y == z) = false) (hx : x.length ≤ 1048576) (hz : z.length ≤ 14)
    (hq : ∀ t' k, s.toks ≤ k → Q (.str (Txt.replace x y z) t') { s with toks := k }) : wpAny (model prog w) A (call (.builtin "str.replace") [.str x t, .str y u, .str z v]) Q E s := by
  have hb : x.length + (x.length + 1) * z.length ≤ 16777216 := by
    have h1 : (x.length + 1) * z.length ≤ (x.length + 1) * 14 := Nat.mul_le_mul_left _ hz
    omega
  have hl : tooLong (x.length + (occurrences x y 0 x.length (x.length + 1)).length * z.length) = false := by
    have h1 := StrLaws.occ_length_le x y 0 x.length (x.length + 1)
    have h2 : (occurrences x y 0 x.length (x.length + 1)).length * z.length ≤ (x.length + 1) * z.length := Nat.mul_le_mul_right _ h1
    have e : (2 : Nat) ^ 24 = 16777216 := by decide
    unfold tooLong sizeLine
    exact decide_eq_false (by omega)
  refine call_gives F.slot_str_replace (typeIs_str _ _ _) F.entry_str_replace (F.args_str_replace_3 _ _ _)
    (gives_str_replace x y z t u v fun _ => ⟨by simp [hu, hv], by simp [huv], hyz, hl⟩) ?_
  unfold Txt.replace at hq
  cases hc : ((occurrences x y 0 x.length (x.length + 1)).isEmpty || (y.length == 0 && z.length == 0))
  · rw [hc] at hq
    simp only [Bool.false_eq_true, if_false] at hq ⊢
    exact ⟨fits_replaced y hb, hq _ _ (Nat.le_succ _)⟩
  · rw [hc] at hq
    simp only [if_true] at hq ⊢
    exact hq t s.toks (Nat.le_refl _)
theorem replaceK {k : Nat} (hk : 0 < k) (hyz : (y == z) = false) (hx : x.length ≤ 1048576) (hz : z.length ≤ 14)
    (hq : ∀ t' k', s.toks ≤ k' → Q (.str (Txt.replace x y z) t') { s with toks := k' }) : wpAny (model prog w) A (call (.builtin "str.replace") [.str x t, .str y k, .str z (k + 1)]) Q E s :=
  replaceT (by show k ≠ 0; omega) (by show k + 1 ≠ 0; omega) (by show k ≠ k + 1; omega) hyz hx hz hq
theorem s_crlf : Str.ofString "\x0d\n" = ⟨#[13, 10]⟩ := by decide +kernel
theorem s_cr : Str.ofString "\x0d" = ⟨#[13]⟩ := by decide +kernel
theorem s_lf : Str.ofString "\n" = ⟨#[10]⟩ := by decide +kernel
theorem s_dot : Str.ofString "." = ⟨#[46]⟩ := by decide +kernel
end
end

open PySem PySem.W PyProof.Rows PySem.Calls
local macro_rules | `(tactic| k_gentoks) => `(tactic| (refine' gen_toks ?g1 ?g2; (case g1 => (fail_if_success (with_reducible assumption)); omega); (case g2 => intro tk htk)))
local macro_rules | `(tactic| k_room) => `(tactic| ((try simp only [depth_mark, depth_under_make, depth_under_kw, depth_in1, depth_deeper, depth_caller, recursionLimit] at *); omega))
local macro_rules | `(tactic| walk_at $s:str) => `(tactic| k_extra $s)

section
set_option maxRecDepth 100000
set_option maxHeartbeats 4000000
open PySem PySem.W PyProof.Rows PySem.Calls
theorem kwPE2 : True := by
  k_with_none
  w_top off
  exact trivial
theorem fillPE2 : PySem.Challenge.rw_nb0121_01 = PySem.Challenge.rw_nb0121_01 ∧ hd.heap_39 = hd.heap_39 := by (k_fill; exact ⟨rfl, rfl⟩)
section
variable {w : World} {p : Program} {loose : List Str} {mean : ExcName → Option Value} {mg mb : Str → Option Value} {A : Around} {h : Heap} {gs : Array GenState} {d : Drawn} {tk : Nat} {os : OsState} {Q E : Value → Shared → Prop}
theorem pc_rows {x : Str} {t : Tok} (B : Bs w p loose mean mg mb h) (hA : A.depth ≤ 900) (hx : x.length ≤ 1000)
    (hQ : ∀ D h' tk', Kp h h' → h.get? D = none → SL h' D (rowsS x) → Q (.ref D) ⟨h', gs, d, tk', os⟩) :
    wpAny (model thePr w) A (call (.ref 165) [.str x t]) Q E ⟨h, gs, d, tk, os⟩ := by
  refine enterS (Str.ofString "mail", .str x t) [] B (by k_is) (by k_is) (by simp only [recursionLimit]; omega) (BindsTo.of_eq rfl) (locs rfl) ?_ rfl rfl rfl (by decide)
  intro L h₁ t₁ ht F N X T
  k_steps
  have hl1 := replace1_len x
  have hl2 := replace2_len (Txt.replace x ⟨#[13, 10]⟩ ⟨#[13]⟩)
  rw [s_crlf, s_cr]
  refine replaceK (by omega) (by decide +kernel) (by omega) (by decide) ?_
  intro t2 k2 hk2
  simp only at hk2
  k_steps
  rw [s_lf]
  refine replaceK (by omega) (by decide +kernel) (by omega) (by decide) ?_
  intro t3 k3 hk3
  simp only at hk3
  k_steps

  rename_i l h' k e1 e2 e3 e4 F' N'
  refine hQ _ h' k F'.keep (News.fresh N' (.head _)) ⟨_, _, News.get N' (.head _), ?_⟩
  rw [rows_is] at e1
  rw [← e1]
  exact e2
end
end

section
set_option maxRecDepth 100000
set_option maxHeartbeats 1000000
open PySem PySem.W PyProof.Rows PySem.Calls
section
variable {prog : Program} {w : World} {A : Around} {E : Value → Shared → Prop} {s₁ : Shared}
theorem paired_mono {α β : Type} {F G : α → β → Prop} : ∀ {l : List α} {m : List β}, Paired F l m → (∀ a ∈ l, ∀ b, F a b → G a b) → Paired G l m
  | _, _, .nil, _ => .nil
  | _, _, .cons h t, k => .cons (k _ (.head _) _ h) (paired_mono t fun a ha => k a (.tail _ ha))
/-- a comprehension over a list, without a test -/
theorem comp_list {env : Env} {elt : Expr} {x : Str} {scope : Scope} {Q : Value → Shared → Prop} {l : Addr} {vs : List Value} (G : Value → Value → Prop)
    (hh : A.handled = none) (hl : s₁.heap.IsList l vs.toArray) (hsz : vs.length ≤ sizeLine)
    (g2 : ∀ (C : Addr) (i : Nat) (v : Value) (h₃ : Heap) g₃ d₃ k₃ o₃ m₃ (Q' E' : Value → Shared → Prop), vs[i]? = some v → h₃.Ns (compEnv scope C env).locals m₃ → m₃ x = some v → Kp s₁.heap h₃ → s₁.toks ≤ k₃ →
      (∀ r h' k', G v r → Kp h₃ h' → Q' r ⟨h', g₃, d₃, k', o₃⟩) → wpAny (model prog w) A (eval elt (compEnv scope C env)) Q' E' ⟨h₃, g₃, d₃, k₃, o₃⟩)
    (g3 : ∀ D ys h' tk, s₁.heap.get? D = none → h'.PlainList D ys → Paired G vs ys.toList → Kp s₁.heap h' → Q (.ref D) { s₁ with heap := h', toks := tk }) :
    wpAny (model prog w) A (pyIter (.ref l)) (CompPost prog w A env scope x [] elt Q) E s₁ := by
  have hlt : l < s₁.heap.objs.size := by obtain ⟨_, e, _⟩ := hl; exact Heap.lt_size e
  refine wpAny_pyIter_list hl ?_
  have up : ∀ (h' : Heap), (∀ b o', b ∉ [s₁.heap.objs.size] → (s₁.heap.push { cls := .type "list_iterator", data := .fields #[.ref l, .int 0 0] }).get? b = some o' → h'.get? b = some o') → ∀ b o', s₁.heap.get? b = some o' → h'.get? b = some o' :=
    fun h' hk b o' e => hk b o' (not_iter_of_old e) (Heap.get?_push_of_some _ e)
  refine ⟨fun _ => true, G, s₁.heap.objs.size, [s₁.heap.objs.size, l], [s₁.heap.objs.size], vs.toArray.size, _, _, rfl, Walks.list hh _ l (Nat.ne_of_lt hlt) vs.toArray, (by rw [List.size_toArray]; exact hsz),
    ⟨⟨_, Heap.get?_push_size _ rfl, rfl, rfl⟩, hl.at fun o e => Heap.get?_push_of_some _ e⟩, ?_, ⟨?_, ?_⟩, ?_⟩
  · intro b hb
    show b < (s₁.heap.push _).objs.size
    rw [Heap.size_push]
    rcases List.mem_cons.mp hb with rfl | hb
    · exact Nat.lt_succ_self _
    · rw [List.mem_singleton.mp hb]; exact Nat.lt_succ_of_lt hlt
  · intro C i v s₃ m₃ E' hP hn hm _ htk
    exact wpAny_pure ⟨rfl, ⟨_, _, rfl, fun _ _ e => e⟩⟩
  · intro C i v s₃ m₃ E' hP hp hn hm hk htk
    obtain ⟨h₃, g₃, d₃, k₃, o₃⟩ := s₃
    exact g2 C i v h₃ g₃ d₃ k₃ o₃ m₃ _ E' (by simpa using hP) hn hm (up _ hk) htk fun r h' k' a b => ⟨a, ⟨h', k', rfl, b⟩⟩
  · intro D h' tk ys vs' hnew hlD hplD hlen hP hF hk
    have e' : vs' = vs := by simpa using walked_is hlen hP
    subst e'
    refine g3 D ys h' tk ?_ hplD (by rwa [List.filter_eq_self.mpr (fun _ _ => rfl)] at hF) (up h' hk)
    cases e : s₁.heap.get? D with
    | none => rfl
    | some o' => rw [Heap.get?_push_of_some _ e] at hnew; cases hnew
end
theorem strs_get {vs : List Value} {xs : List Str} (h : StrsAre vs xs) : ∀ {i : Nat} {v : Value}, vs[i]? = some v → ∃ x t, v = .str x t ∧ xs[i]? = some x := by
  induction h with
  | nil => intro i v e; simp at e
  | cons x t h ih =>
    intro i v e
    cases i with
    | zero => simp at e; exact ⟨x, t, e.symm, rfl⟩
    | succ i => exact ih (by simpa using e)
theorem strs_len {vs : List Value} {xs : List Str} (h : StrsAre vs xs) : vs.length = xs.length := strsAre_length h
theorem strs_paired {f : Str → Str} {vs : List Value} {xs : List Str} (h : StrsAre vs xs) : ∀ {ys : List Value}, Paired (fun v r => ∀ x t, v = .str x t → ∃ u, r = .str (f x) u) vs ys → StrsAre ys (xs.map f) := by
  induction h with
  | nil => intro ys q; cases q; exact .nil
  | cons x t h ih =>
    intro ys q
    cases q with
    | cons a b =>
      obtain ⟨u, rfl⟩ := a x t rfl
      exact .cons _ _ (ih b)
theorem slice1 (x : Str) : cpl (Txt.slice x none (some 1)) = (cpl x).take 1 := by
  by_cases h : (1 : Int) ≤ (cpl x).length
  · have e := StrLaws.sliceText_to (x := x) (j := 1) ⟨by omega, h⟩
    have e2 : Txt.slice x none (some 1) = StrLaws.sliceText x none (some 1) := rfl
    rw [e2, e]
    simp
  · have h0 : (cpl x).length = 0 := by omega
    have hx : cpl x = [] := List.length_eq_zero_iff.mp h0
    have hl := Txt.slice_le x none (some 1)
    have hx' : x.length = 0 := by
      have : (cpl x).length = x.length := Array.length_toList ..
      omega
    rw [hx, List.take_nil]
    refine List.length_eq_zero_iff.mp ?_
    have : (cpl (Txt.slice x none (some 1))).length = (Txt.slice x none (some 1)).length := Array.length_toList ..
    omega
section
variable {prog : Program} {w : World} {A : Around} {E : Value → Shared → Prop} {s : Shared}
theorem slice_toK {value slice : Expr} {x : Str} {t : Tok} {Q : Value → Shared → Prop} {j : Int} {uj : Tok} (h : ∀ h' t' k, Kp s.heap h' → Q (.str (Txt.slice x none (some j)) t') { s with heap := h', toks := k })
    (hsz : x.length ≤ 100000)
    (hs : subscripted slice false (.str x t) (.ref s.heap.objs.size) = operate [.ref s.heap.objs.size, .str x t] (getItem (.str x t) (.ref s.heap.objs.size)) := by with_unfolding_all rfl)
    (ht : ∀ r, letTemporaryGo value (.str x t) r = pure () := by intro _; with_unfolding_all rfl) :
    wpAny (model prog w) A (subscriptTail value slice (.str x t) (.ref s.heap.objs.size)) Q E { s with heap := s.heap.push { cls := .type "slice", data := .fields #[.none, .int j uj, .none] } } :=
  tail_of_ItemOn (SBH.sliceItem_ns (P := fun h' => Kp s.heap h') (fun _ _ k _ _ e => Heap.get?_push_of_some _ (k _ _ e)) (fun _ _ e => e) h (by rw [sizeLine_eq]; omega)) hs ht
end
/-- a dot more for a row that begins with one -/
noncomputable def dotS (x : Str) : Str := if x.cps.toList.take 1 = [46] then ⟨#[46]⟩ ++ x else x
theorem dotS_cpl (x : Str) : cpl (dotS x) = dot (cpl x) := by
  unfold dotS dot
  split
  · show (#[46] ++ x.cps).toList = _
    simp
  · rfl
end

section
set_option maxRecDepth 100000
set_option maxHeartbeats 4000000
open PySem PySem.W PyProof.Rows PySem.Calls
theorem kwPE4 : True := by
  k_with_none
  w_top off
  exact trivial
theorem fillPE4 : PySem.Challenge.rw_nb0121_01 = PySem.Challenge.rw_nb0121_01 ∧ hd.heap_39 = hd.heap_39 := by (k_fill; exact ⟨rfl, rfl⟩)
section
variable {w : World} {p : Program} {loose : List Str} {mean : ExcName → Option Value} {mg mb : Str → Option Value} {A : Around} {h : Heap} {gs : Array GenState} {d : Drawn} {tk : Nat} {os : OsState} {Q E : Value → Shared → Prop}
theorem pc_dotted {xs : List Str} {a : Addr} (B : Bs w p loose mean mg mb h) (hA : A.depth ≤ 900) (hh : A.handled = none) (hl : SL h a xs) (hx : xs.length ≤ 2000) (hx2 : ∀ x ∈ xs, x.length ≤ 1000)
    (hQ : ∀ D h' tk', Kp h h' → h.get? D = none → SL h' D (xs.map dotS) → Q (.ref D) ⟨h', gs, d, tk', os⟩) :
    wpAny (model thePr w) A (call (.ref 175) [.ref a]) Q E ⟨h, gs, d, tk, os⟩ := by
  refine enterS (Str.ofString "rows", .ref a) [] B (by k_is) (by k_is) (by simp only [recursionLimit]; omega) (BindsTo.of_eq rfl) (locs rfl) ?_ rfl rfl rfl (by decide)
  intro L h₁ t₁ ht F N X T
  obtain ⟨vs, n, hg, hs⟩ := hl
  k_steps
  refine comp_list (vs := vs.toList) (fun v r => ∀ x t, v = .str x t → ∃ u, r = .str (dotS x) u) hh ⟨_, by simpa using F.keep _ _ hg, rfl, _, rfl⟩ (by rw [sizeLine_eq, strs_len hs]; omega) ?_ ?_
  · intro C i v h₃ g₃ d₃ k₃ o₃ m₃ Q' E' hv hn hm hk htk hQ'
    obtain ⟨x, t, rfl, hx⟩ := strs_get hs hv
    have hxl := hx2 x (List.mem_of_getElem? hx)
    k_steps
    refine slice_toK (s := ⟨h₃, g₃, d₃, k₃ + 1, o₃⟩) ?_ (by omega)
    intro h4 t4 k4 hk4
    have hn := hn.keeps hk4
    have es := slice1 x
    k_steps
    · rename_i hc tt kk _
      refine hQ' _ _ _ (fun x' t' e => ?_) hk4
      cases e
      have e2 : (cpl x).take 1 = [46] := by rw [← es, eq_of_beq hc, s_dot]
      exact ⟨_, by unfold dotS; rw [if_pos e2, s_dot]⟩
    · rename_i hc
      refine hQ' _ _ _ (fun x' t' e => ?_) hk4
      cases e
      have e2 : ¬ ((cpl x).take 1 = [46]) := by
        rw [← es]
        intro q
        rw [show Txt.slice x none (some 1) = Str.ofString "." from str_ext (by rw [s_dot]; exact q)] at hc
        simp at hc
      exact ⟨_, by unfold dotS; rw [if_neg e2]⟩
  · intro D ys h' tk' hD hpl hP hk
    obtain ⟨nn, hpl⟩ := hpl
    refine hQ D h' tk' (fun b o e => hk _ _ (F.keep _ _ e)) ?_ ⟨ys, nn, hpl, strs_paired hs hP⟩
    cases e : h.get? D with
    | none => rfl
    | some o => rw [F.keep _ _ e] at hD; cases hD
end
end

section
set_option maxRecDepth 100000
set_option maxHeartbeats 1000000
open PySem PySem.W PyProof.Rows PySem.Calls
/-- where the walk is to stand still -/
noncomputable def Halt (P : Prop) : Prop := P
theorem halt {P : Prop} (h : Halt P) : P := h
theorem go {P : Prop} (h : P) : Halt P := h
theorem news_add {h L h₁ h' : _} {m : Str → Option Value} {news : List (Addr × Obj)} {D : Addr} {o : Obj} (F : Fr h L h₁ m) (N : News h L h₁ news) (k : Kp h₁ h') (hn : h₁.get? D = none) (hD : h'.get? D = some o) : News h L h' ((D, o) :: news) := by
  intro q hq
  rcases List.mem_cons.mp hq with rfl | hq
  · refine ⟨hD, ?_, ?_⟩
    · rintro rfl
      obtain ⟨oL, _, _, hL, _⟩ := F.ns
      rw [hn] at hL
      cases hL
    · cases e : h.get? D with
      | none => rfl
      | some o' => rw [F.keep _ _ e] at hn; cases hn
  · exact ⟨k _ _ (N q hq).1, (N q hq).2⟩
theorem fresh_of {h L h₁ : _} {m : Str → Option Value} {D : Addr} (F : Fr h L h₁ m) (hn : h₁.get? D = none) : h.get? D = none := by
  cases e : h.get? D with
  | none => rfl
  | some o' => rw [F.keep _ _ e] at hn; cases hn
theorem sum_le (n : Nat) : ∀ l : List Nat, (∀ x ∈ l, x ≤ n) → l.sum ≤ l.length * n
  | [], _ => by simp
  | a :: l, h => by
    have := sum_le n l fun x hx => h x (.tail _ hx)
    have := h a (.head _)
    rw [List.sum_cons, List.length_cons, Nat.succ_mul]
    omega
theorem join_fits {xs : List Str} {k n : Nat} (h1 : xs.length ≤ n) (h2 : ∀ x ∈ xs, x.length ≤ k) (h3 : n * k + n * 64 ≤ 16777216) : (xs.map (·.length)).sum + xs.length * 64 ≤ 16777216 := by
  have h4 := sum_le k (xs.map (·.length)) (by intro y hy; obtain ⟨x, hx, rfl⟩ := List.mem_map.mp hy; exact h2 x hx)
  rw [List.length_map] at h4
  have h5 : xs.length * k ≤ n * k := Nat.mul_le_mul_right _ h1
  have h6 : xs.length * 64 ≤ n * 64 := Nat.mul_le_mul_right _ h1
  omega
theorem dotS_len (x : Str) : (dotS x).length ≤ x.length + 1 := by
  have h1 : (cpl (dotS x)).length = (dotS x).length := Array.length_toList ..
  have h2 : (cpl x).length = x.length := Array.length_toList ..
  rw [← h1, ← h2, dotS_cpl]
  unfold dot
  split <;> simp
theorem join_strs (sep : Str) (l : List (List Nat)) : Txt.join sep (l.map ofL) = ofL (glue (cpl sep) l) := by
  refine str_ext ?_
  rw [join_glue, ofL_toList, List.map_map]
  congr 1
  rw [show ((fun x : Str => x.cps.toList) ∘ ofL) = id from funext fun l => ofL_toList l, List.map_id]
theorem map_dotS (l : List (List Nat)) : (l.map ofL).map dotS = (l.map dot).map ofL := by
  rw [List.map_map, List.map_map]
  refine List.map_congr_left fun r _ => ?_
  show dotS (ofL r) = ofL (dot r)
  refine str_ext ?_
  show cpl (dotS (ofL r)) = _
  rw [dotS_cpl, ofL_toList]
  show dot (ofL r).cps.toList = _
  rw [ofL_toList]
end

section
set_option maxRecDepth 100000
set_option maxHeartbeats 4000000
open PySem PySem.W PyProof.Rows PySem.Calls
theorem fillPI1 : PySem.Challenge.rw_nb0121_01 = PySem.Challenge.rw_nb0121_01 ∧ hd.heap_39 = hd.heap_39 := by (k_fill; exact ⟨rfl, rfl⟩)
theorem kwPI1 : True := by
  k_with_none
  k_with "call ref" => ((with_reducible show wpAny _ _ (call (Value.ref _) _) _ _ _); refine halt ?_)
  k_with "call builtin:str.join" => ((with_reducible show wpAny _ _ (call (Value.builtin "str.join") _) _ _ _); refine halt ?_)
  w_top off
  exact trivial
section
variable {w : World} {p : Program} {loose : List Str} {mean : ExcName → Option Value} {mg mb : Str → Option Value} {A : Around} {h : Heap} {gs : Array GenState} {d : Drawn} {tk : Nat} {os : OsState} {Q E : Value → Shared → Prop}
theorem pc_plain {x : Str} {t u : Tok} (wr : Str) (hw : wr = Str.ofString "ends" ∨ wr = Str.ofString "both") (B : Bs w p loose mean mg mb h) (hA : A.depth ≤ 890) (hh : A.handled = none) (hx : x.length ≤ 1000)
    (hQ : ∀ h' tk' t', Kp h h' → Q (.str (ofL (plain (cpl x))) t') ⟨h', gs, d, tk', os⟩) :
    wpAny (model thePr w) A (call (.ref 194) [.str wr u, .str x t]) Q E ⟨h, gs, d, tk, os⟩ := by
  refine enterS (Str.ofString "writer", .str wr u) [(Str.ofString "mail", .str x t)] B (by k_is) (by k_is) (by simp only [recursionLimit]; omega) (BindsTo.of_eq rfl) (locs rfl) ?_ rfl rfl rfl (by decide)
  intro L h₁ t₁ ht F N X T
  rcases hw with rfl | rfl
  all_goals
    k_steps
    refine go (pc_rows (B.keeps F.keep) (by rw [depth_deeper]; omega) hx ?_)
    intro D h2 k2 hk2 hD hS
    obtain ⟨vs, n, hg, hs⟩ := hS
    have F2 := F.kept hk2
    k_steps
    refine go (join_listC (items := vs) ⟨_, hg, rfl, _, rfl⟩ hs (by decide) (join_fits (n := 2000) (k := 1000) (Nat.le_trans (rowsS_len x) (by omega)) (fun r hr => Nat.le_trans (rowsS_each x r hr) hx) (by decide)) ?_)
    intro t5 k5
    k_steps
    have e : Txt.join (Str.ofString "\x0d") (rowsS x) = ofL (plain (cpl x)) := by
      rw [s_cr]
      unfold rowsS
      rw [join_strs]
      show ofL (glue [13] _) = _
      rw [glue_self]
    rw [← e] at hQ
    exact hQ _ _ _ (fun _ _ q => hk2 _ _ (F.keep _ _ q))
theorem pc_plainD {x : Str} {t u : Tok} (B : Bs w p loose mean mg mb h) (hA : A.depth ≤ 890)
    (hQ : ∀ h' tk', Kp h h' → Q (.str x t) ⟨h', gs, d, tk', os⟩) :
    wpAny (model thePr w) A (call (.ref 194) [.str (Str.ofString "dots") u, .str x t]) Q E ⟨h, gs, d, tk, os⟩ := by
  refine enterS (Str.ofString "writer", .str (Str.ofString "dots") u) [(Str.ofString "mail", .str x t)] B (by k_is) (by k_is) (by simp only [recursionLimit]; omega) (BindsTo.of_eq rfl) (locs rfl) ?_ rfl rfl rfl (by decide)
  intro L h₁ t₁ ht F N X T
  k_steps
  exact hQ _ _ F.keep
end
end

section
set_option maxRecDepth 100000
set_option maxHeartbeats 4000000
open PySem PySem.W PyProof.Rows PySem.Calls
theorem fillPI2 : PySem.Challenge.rw_nb0121_01 = PySem.Challenge.rw_nb0121_01 ∧ hd.heap_39 = hd.heap_39 := by (k_fill; exact ⟨rfl, rfl⟩)
theorem kwPI2 : True := by
  k_with_none
  k_with "call ref" => ((with_reducible show wpAny _ _ (call (Value.ref _) _) _ _ _); refine halt ?_)
  k_with "call builtin:str.join" => ((with_reducible show wpAny _ _ (call (Value.builtin "str.join") _) _ _ _); refine halt ?_)
  w_top off
  exact trivial
section
variable {w : World} {p : Program} {loose : List Str} {mean : ExcName → Option Value} {mg mb : Str → Option Value} {A : Around} {h : Heap} {gs : Array GenState} {d : Drawn} {tk : Nat} {os : OsState} {Q E : Value → Shared → Prop}
theorem pc_dueD {x : Str} {t u : Tok} (B : Bs w p loose mean mg mb h) (hA : A.depth ≤ 890) (hh : A.handled = none) (hx : x.length ≤ 1000)
    (hQ : ∀ h' tk' t', Kp h h' → Q (.str (ofL (qd true (cpl x))) t') ⟨h', gs, d, tk', os⟩) :
    wpAny (model thePr w) A (call (.ref 187) [.str (Str.ofString "dots") u, .str x t]) Q E ⟨h, gs, d, tk, os⟩ := by
  refine enterS (Str.ofString "writer", .str (Str.ofString "dots") u) [(Str.ofString "mail", .str x t)] B (by k_is) (by k_is) (by simp only [recursionLimit]; omega) (BindsTo.of_eq rfl) (locs rfl) ?_ rfl rfl rfl (by decide)
  intro L h₁ t₁ ht F N X T
  k_steps
  rename_i l h2 k2 e1 e2 e3 e4 F2 N2
  rw [s_lf, split_strs] at e1
  have e5 := congrArg List.length e1
  simp only [List.length_map] at e5
  have e6 := (rowsOn_len 10 (cpl x)).1
  have e7 : (cpl x).length = x.length := Array.length_toList ..
  refine go (pc_dotted (xs := l.map (·.1)) (B.keeps F2.keep) (by rw [depth_deeper]; omega) hh ⟨_, _, News.get N2 (.head _), e2⟩ (by rw [List.length_map, e5]; omega) (fun y hy => Nat.le_trans (e3 y hy) hx) ?_)
  intro D h3 k3 hk3 hD hS
  obtain ⟨vs, n, hg, hs⟩ := hS
  have F3 := F2.kept hk3
  k_steps
  refine go (join_listC (items := vs) ⟨_, hg, rfl, _, rfl⟩ hs (by decide) (join_fits (n := 2000) (k := 1001) (by rw [List.length_map, List.length_map, e5]; omega) ?_ (by decide)) ?_)
  · intro r hr
    obtain ⟨q, hq, rfl⟩ := List.mem_map.mp hr
    have := dotS_len q
    have := e3 q hq
    omega
  intro t5 k5
  k_steps
  have e : Txt.join (Str.ofString "\n") ((l.map (·.1)).map dotS) = ofL (qd true (cpl x)) := by
    rw [e1, map_dotS, join_strs, s_lf]
    show ofL (glue [10] _) = _
    rw [due_dots]
  rw [← e] at hQ
  exact hQ _ _ _ (fun _ _ q => hk3 _ _ (F2.keep _ _ q))
theorem pc_dueE {x : Str} {t u : Tok} (B : Bs w p loose mean mg mb h) (hA : A.depth ≤ 890) (hh : A.handled = none) (hx : x.length ≤ 1000)
    (hQ : ∀ h' tk' t', Kp h h' → Q (.str (ofL (fx (cpl x))) t') ⟨h', gs, d, tk', os⟩) :
    wpAny (model thePr w) A (call (.ref 187) [.str (Str.ofString "ends") u, .str x t]) Q E ⟨h, gs, d, tk, os⟩ := by
  refine enterS (Str.ofString "writer", .str (Str.ofString "ends") u) [(Str.ofString "mail", .str x t)] B (by k_is) (by k_is) (by simp only [recursionLimit]; omega) (BindsTo.of_eq rfl) (locs rfl) ?_ rfl rfl rfl (by decide)
  intro L h₁ t₁ ht F N X T
  k_steps
  refine go (pc_rows (B.keeps F.keep) (by rw [depth_deeper]; omega) hx ?_)
  intro D h2 k2 hk2 hD hS
  obtain ⟨vs, n, hg, hs⟩ := hS
  have N2 := news_add F N hk2 hD hg
  have F2 := F.kept hk2
  clear F N
  k_steps
  (with_reducible rename Fr _ _ _ _ => F3)
  (with_reducible rename News _ _ _ _ => N3)
  refine go (join_listC (items := vs) ⟨_, News.get N3 (.head _), rfl, _, rfl⟩ hs (by decide) (join_fits (n := 2000) (k := 1000) (Nat.le_trans (rowsS_len x) (by omega)) (fun r hr => Nat.le_trans (rowsS_each x r hr) hx) (by decide)) ?_)
  intro t5 k5
  k_steps
  have e : Txt.join (Str.ofString "\x0d\n") (rowsS x) = ofL (fx (cpl x)) := by
    rw [s_crlf]
    unfold rowsS
    rw [join_strs]
    show ofL (glue [13, 10] _) = _
    rw [glue_ex, fx_eq]
  rw [← e] at hQ
  exact hQ _ _ _ F3.keep
theorem pc_dueB {x : Str} {t u : Tok} (B : Bs w p loose mean mg mb h) (hA : A.depth ≤ 890) (hh : A.handled = none) (hx : x.length ≤ 1000)
    (hQ : ∀ h' tk' t', Kp h h' → Q (.str (ofL (qd true (fx (cpl x)))) t') ⟨h', gs, d, tk', os⟩) :
    wpAny (model thePr w) A (call (.ref 187) [.str (Str.ofString "both") u, .str x t]) Q E ⟨h, gs, d, tk, os⟩ := by
  refine enterS (Str.ofString "writer", .str (Str.ofString "both") u) [(Str.ofString "mail", .str x t)] B (by k_is) (by k_is) (by simp only [recursionLimit]; omega) (BindsTo.of_eq rfl) (locs rfl) ?_ rfl rfl rfl (by decide)
  intro L h₁ t₁ ht F N X T
  k_steps
  refine go (pc_rows (B.keeps F.keep) (by rw [depth_deeper]; omega) hx ?_)
  intro D h2 k2 hk2 hD hS
  obtain ⟨vs, n, hg, hs⟩ := hS
  have N2 := news_add F N hk2 hD hg
  have F2 := F.kept hk2
  clear F N
  k_steps
  (with_reducible rename Fr _ _ _ _ => F3)
  (with_reducible rename News _ _ _ _ => N3)
  refine go (pc_dotted (xs := rowsS x) (B.keeps F3.keep) (by rw [depth_deeper]; omega) hh ⟨_, _, News.get N3 (.head _), hs⟩ (Nat.le_trans (rowsS_len x) (by omega)) (fun r hr => Nat.le_trans (rowsS_each x r hr) hx) ?_)
  intro D4 h4 k4 hk4 hD4 hS4
  obtain ⟨vs4, n4, hg4, hs4⟩ := hS4
  have F4 := F3.kept hk4
  k_steps
  refine go (join_listC (items := vs4) ⟨_, hg4, rfl, _, rfl⟩ hs4 (by decide) (join_fits (n := 2000) (k := 1001) (by rw [List.length_map]; exact Nat.le_trans (rowsS_len x) (by omega)) ?_ (by decide)) ?_)
  · intro r hr
    obtain ⟨q, hq, rfl⟩ := List.mem_map.mp hr
    have := dotS_len q
    have := rowsS_each x q hq
    omega
  intro t5 k5
  k_steps
  have e : Txt.join (Str.ofString "\x0d\n") ((rowsS x).map dotS) = ofL (qd true (fx (cpl x))) := by
    rw [s_crlf]
    unfold rowsS
    rw [map_dotS, join_strs]
    show ofL (glue [13, 10] _) = _
    rw [due_both]
  rw [← e] at hQ
  exact hQ _ _ _ (fun _ _ q => hk4 _ _ (F3.keep _ _ q))
end
end

section
set_option maxRecDepth 100000
set_option maxHeartbeats 1000000
open PySem PySem.W PyProof.Rows PySem.Calls
theorem plain_pat : PlainAttrs "re.Pattern" :=
  ⟨⟨"object.__getattribute__", by rw [typeLookup_type, builtinLookup_eq_fast]; kernel_rfl, by decide +kernel⟩, by rw [typeLookup_type, builtinLookup_eq_fast]; kernel_rfl⟩
noncomputable def objAt (P : Params) (a : Addr) : Obj := ((hd.heap_39 P).lookup a).getD default
theorem o137at (P : Params) : (hd.heap_39 P).lookup 137 = some (objAt P 137) := by kernel_rfl
theorem o136at (P : Params) : (hd.heap_39 P).lookup 136 = some (objAt P 136) := by kernel_rfl
theorem o127at (P : Params) : (hd.heap_39 P).lookup 127 = some (objAt P 127) := by kernel_rfl
theorem o126at (P : Params) : (hd.heap_39 P).lookup 126 = some (objAt P 126) := by kernel_rfl
theorem o132at (P : Params) : (hd.heap_39 P).lookup 132 = some (objAt P 132) := by kernel_rfl
theorem o131at (P : Params) : (hd.heap_39 P).lookup 131 = some (objAt P 131) := by kernel_rfl
noncomputable def fldsOf : Data → Array Value
  | .fields v => v
  | _ => #[]
noncomputable def seqOf : Data → Array Value
  | .seq v _ => v
  | _ => #[]
noncomputable def seqN : Data → Nat
  | .seq _ n => n
  | _ => 0
theorem pat3 {P : Params} {h : Heap} (X : (hd.heap_39 P).In h) : PatAt h 137 136 code3 0 :=
  ⟨⟨_, fldsOf (objAt P 137).data, X _ _ (o137at P), by kernel_rfl, by kernel_rfl, by kernel_rfl, by kernel_rfl, by kernel_rfl⟩, ⟨_, seqOf (objAt P 136).data, seqN (objAt P 136).data, X _ _ (o136at P), by kernel_rfl, by kernel_rfl⟩⟩
theorem pat1 {P : Params} {h : Heap} (X : (hd.heap_39 P).In h) : PatAt h 127 126 code1 0 :=
  ⟨⟨_, fldsOf (objAt P 127).data, X _ _ (o127at P), by kernel_rfl, by kernel_rfl, by kernel_rfl, by kernel_rfl, by kernel_rfl⟩, ⟨_, seqOf (objAt P 126).data, seqN (objAt P 126).data, X _ _ (o126at P), by kernel_rfl, by kernel_rfl⟩⟩
theorem pat2 {P : Params} {h : Heap} (X : (hd.heap_39 P).In h) : PatAt h 132 131 code1 1 :=
  ⟨⟨_, fldsOf (objAt P 132).data, X _ _ (o132at P), by kernel_rfl, by kernel_rfl, by kernel_rfl, by kernel_rfl, by kernel_rfl⟩, ⟨_, seqOf (objAt P 131).data, seqN (objAt P 131).data, X _ _ (o131at P), by kernel_rfl, by kernel_rfl⟩⟩
theorem dict3 (P : Params) : (objAt P 137).dict = none := by kernel_rfl
theorem dict1 (P : Params) : (objAt P 127).dict = none := by kernel_rfl
theorem dict2 (P : Params) : (objAt P 132).dict = none := by kernel_rfl
section
variable {M : Model} {A : Around} {E : Value → Shared → Prop} {s : Shared} {pl : Sem Bool} {Q : Value × List Value → Shared → Prop}
theorem gm_pat {P C : Addr} {code : Array Nat} {k : Int} {o : Obj} (hp : PatAt s.heap P C code k) (ho : s.heap.get? P = some o) (hd : o.dict = none) (h : Q (.builtin "re.Pattern.sub", [.ref P]) s) : wpAny M A (getMethod (.ref P) "sub" pl) Q E s := by
  have hT : s.TypeIs (.ref P) "re.Pattern" := by obtain ⟨⟨o, _, e, e', _⟩, _⟩ := hp; exact ⟨o, e, e'⟩
  refine getMethod_builtin hT plain_pat slot_sub type_sub (fun a e => ?_) h
  cases e
  exact ⟨o, ho, hd⟩
end
end

section
set_option maxRecDepth 100000
set_option maxHeartbeats 4000000
open PySem PySem.W PyProof.Rows PySem.Calls
theorem fillPI3 : PySem.Challenge.rw_nb0121_01 = PySem.Challenge.rw_nb0121_01 ∧ hd.heap_39 = hd.heap_39 := by (k_fill; exact ⟨rfl, rfl⟩)
theorem kwPI3 : True := by
  k_with_none
  k_with "call ref" => ((with_reducible show wpAny _ _ (call (Value.ref _) _) _ _ _); refine halt ?_)
  k_with "call builtin:str.join" => ((with_reducible show wpAny _ _ (call (Value.builtin "str.join") _) _ _ _); refine halt ?_)
  k_with "getMethod ref" => ((with_reducible show wpAny _ _ (getMethod (Value.ref _) _ _) _ _ _); refine halt ?_)
  k_with "call builtin:re.Pattern.sub" => ((with_reducible show wpAny _ _ (call (Value.builtin "re.Pattern.sub") _) _ _ _); refine halt ?_)
  w_top off
  exact trivial
section
variable {w : World} {p : Program} {loose : List Str} {mean : ExcName → Option Value} {mg mb : Str → Option Value} {A : Around} {h : Heap} {gs : Array GenState} {d : Drawn} {tk : Nat} {os : OsState} {Q E : Value → Shared → Prop}
theorem pc_fix {x : Str} {t : Tok} (B : Bs w p loose mean mg mb h) (hA : A.depth ≤ 900) (hx : x.length ≤ 1000)
    (hQ : ∀ h' tk' t', Kp h h' → Q (.str (ofL (fx (cpl x))) t') ⟨h', gs, d, tk', os⟩) :
    wpAny (model thePr w) A (call (.ref 158) [.str x t]) Q E ⟨h, gs, d, tk, os⟩ := by
  refine enterS (Str.ofString "data", .str x t) [] B (by k_is) (by k_is) (by simp only [recursionLimit]; omega) (BindsTo.of_eq rfl) (locs rfl) ?_ rfl rfl rfl (by decide)
  intro L h₁ t₁ ht F N X T
  k_steps
  have X1 := X.keeps F.keep
  refine go (gm_pat (pat3 X1) (X1 _ _ (o137at _)) (dict3 _) ?_)
  k_steps
  refine go (sub_ends (pat3 X1) hx ?_)
  intro t' h' k hk
  k_steps
  exact hQ _ _ _ fun _ _ e => hk _ _ (F.keep _ _ e)
theorem pc_quote {x : Str} {t : Tok} (B : Bs w p loose mean mg mb h) (hA : A.depth ≤ 900) (hx : x.length ≤ 400)
    (hQ : ∀ h' tk' t', Kp h h' → Q (.str (ofL (qd true (fx (cpl x)))) t') ⟨h', gs, d, tk', os⟩) :
    wpAny (model thePr w) A (call (.ref 144) [.str x t]) Q E ⟨h, gs, d, tk, os⟩ := by
  refine enterS (Str.ofString "data", .str x t) [] B (by k_is) (by k_is) (by simp only [recursionLimit]; omega) (BindsTo.of_eq rfl) (locs rfl) ?_ rfl rfl rfl (by decide)
  intro L h₁ t₁ ht F N X T
  k_steps
  have X1 := X.keeps F.keep
  refine go (gm_pat (pat1 X1) (X1 _ _ (o127at _)) (dict1 _) ?_)
  k_steps
  refine go (gm_pat (pat3 X1) (X1 _ _ (o137at _)) (dict3 _) ?_)
  k_steps
  refine go (sub_ends (pat3 X1) (by omega) ?_)
  intro t2 h2 k2 hk2
  have F2 := F.kept hk2
  have X2 := X.keeps F2.keep
  k_steps
  refine go (sub_dots (pat1 X2) ?_ ?_)
  · have h1 := fx_length (cpl x)
    have h2 : (cpl x).length = x.length := Array.length_toList ..
    show (ofL (fx (cpl x))).cps.size ≤ 1000
    rw [← Array.length_toList, ofL_toList]
    omega
  intro t3 h3 k3 hk3
  rw [ofL_toList]
  k_steps
  exact hQ _ _ _ fun _ _ e => hk3 _ _ (F2.keep _ _ e)
theorem pc_writtenE {x : Str} {t u : Tok} (B : Bs w p loose mean mg mb h) (hA : A.depth ≤ 890) (hx : x.length ≤ 400)
    (hQ : ∀ h' tk' t', Kp h h' → Q (.str (ofL (fx (cpl x))) t') ⟨h', gs, d, tk', os⟩) :
    wpAny (model thePr w) A (call (.ref 180) [.str (Str.ofString "ends") u, .str x t]) Q E ⟨h, gs, d, tk, os⟩ := by
  refine enterS (Str.ofString "writer", .str (Str.ofString "ends") u) [(Str.ofString "mail", .str x t)] B (by k_is) (by k_is) (by simp only [recursionLimit]; omega) (BindsTo.of_eq rfl) (locs rfl) ?_ rfl rfl rfl (by decide)
  intro L h₁ t₁ ht F N X T
  k_steps
  refine go (pc_fix (B.keeps F.keep) (by rw [depth_deeper]; omega) (by omega) ?_)
  intro h2 k2 t2 hk2
  k_steps
  exact hQ _ _ _ fun _ _ e => hk2 _ _ (F.keep _ _ e)
theorem pc_writtenB {x : Str} {t u : Tok} (B : Bs w p loose mean mg mb h) (hA : A.depth ≤ 890) (hx : x.length ≤ 400)
    (hQ : ∀ h' tk' t', Kp h h' → Q (.str (ofL (qd true (fx (cpl x)))) t') ⟨h', gs, d, tk', os⟩) :
    wpAny (model thePr w) A (call (.ref 180) [.str (Str.ofString "both") u, .str x t]) Q E ⟨h, gs, d, tk, os⟩ := by
  refine enterS (Str.ofString "writer", .str (Str.ofString "both") u) [(Str.ofString "mail", .str x t)] B (by k_is) (by k_is) (by simp only [recursionLimit]; omega) (BindsTo.of_eq rfl) (locs rfl) ?_ rfl rfl rfl (by decide)
  intro L h₁ t₁ ht F N X T
  k_steps
  refine go (pc_quote (B.keeps F.keep) (by rw [depth_deeper]; omega) hx ?_)
  intro h2 k2 t2 hk2
  k_steps
  exact hQ _ _ _ fun _ _ e => hk2 _ _ (F.keep _ _ e)
end
end

section
set_option maxRecDepth 100000
set_option maxHeartbeats 1000000
open PySem PySem.W PyProof.Rows PySem.Calls
section
variable {prog : Program} {w : World} {A : Around} {E : Value → Shared → Prop} {s₁ : Shared}
/-- a comprehension over anything that is walked, without a test -/
theorem comp_gen {env : Env} {elt : Expr} {x : Str} {scope : Scope} {Q : Value → Shared → Prop} {fp : List Addr} {n : Nat} {P : Nat → Value → Prop} {St : Nat → Heap → Prop} {o : Obj} (G : Value → Value → Prop)
    (W : Walks prog w A s₁.heap.objs.size fp [s₁.heap.objs.size] n P St) (hst : St 0 (s₁.heap.push o)) (hfp : ∀ b ∈ fp, b < s₁.heap.objs.size + 1) (hsz : n ≤ sizeLine)
    (g2 : ∀ (C : Addr) (i : Nat) (v : Value) (h₃ : Heap) g₃ d₃ k₃ o₃ m₃ (Q' E' : Value → Shared → Prop), P i v → h₃.Ns (compEnv scope C env).locals m₃ → m₃ x = some v → Kp s₁.heap h₃ → s₁.toks ≤ k₃ →
      (∀ r h' k', G v r → Kp h₃ h' → Q' r ⟨h', g₃, d₃, k', o₃⟩) → wpAny (model prog w) A (eval elt (compEnv scope C env)) Q' E' ⟨h₃, g₃, d₃, k₃, o₃⟩)
    (g3 : ∀ D ys (vs : List Value) h' tk, s₁.heap.get? D = none → h'.PlainList D ys → vs.length = n → (∀ (j : Nat) v, vs[j]? = some v → P j v) → Paired G vs ys.toList → Kp s₁.heap h' → Q (.ref D) { s₁ with heap := h', toks := tk }) :
    CompPost prog w A env scope x [] elt Q (.ref s₁.heap.objs.size) { s₁ with heap := s₁.heap.push o } := by
  have up : ∀ (h' : Heap), (∀ b o', b ∉ [s₁.heap.objs.size] → (s₁.heap.push o).get? b = some o' → h'.get? b = some o') → ∀ b o', s₁.heap.get? b = some o' → h'.get? b = some o' :=
    fun h' hk b o' e => hk b o' (not_iter_of_old e) (Heap.get?_push_of_some _ e)
  refine ⟨fun _ => true, G, s₁.heap.objs.size, fp, [s₁.heap.objs.size], n, P, St, rfl, W, hsz, hst, ?_, ⟨?_, ?_⟩, ?_⟩
  · intro b hb
    show b < (s₁.heap.push _).objs.size
    rw [Heap.size_push]
    exact hfp b hb
  · intro C i v s₃ m₃ E' hP hn hm _ htk
    exact wpAny_pure ⟨rfl, ⟨_, _, rfl, fun _ _ e => e⟩⟩
  · intro C i v s₃ m₃ E' hP hp hn hm hk htk
    obtain ⟨h₃, g₃, d₃, k₃, o₃⟩ := s₃
    exact g2 C i v h₃ g₃ d₃ k₃ o₃ m₃ _ E' hP hn hm (up _ hk) htk fun r h' k' a b => ⟨a, ⟨h', k', rfl, b⟩⟩
  · intro D h' tk ys vs' hnew hlD hplD hlen hP hF hk
    refine g3 D ys vs' h' tk ?_ hplD hlen hP (by rwa [List.filter_eq_self.mpr (fun _ _ => rfl)] at hF) (up h' hk)
    cases e : s₁.heap.get? D with
    | none => rfl
    | some o' => rw [Heap.get?_push_of_some _ e] at hnew; cases hnew
theorem comp_str {env : Env} {elt : Expr} {x : Str} {scope : Scope} {Q : Value → Shared → Prop} {y : Str} {t : Tok} (G : Value → Value → Prop) (hh : A.handled = none) (hsz : y.length ≤ sizeLine)
    (g2 : ∀ (C : Addr) (i : Nat) (v : Value) (h₃ : Heap) g₃ d₃ k₃ o₃ m₃ (Q' E' : Value → Shared → Prop), SignAt y i v → h₃.Ns (compEnv scope C env).locals m₃ → m₃ x = some v → Kp s₁.heap h₃ → s₁.toks ≤ k₃ →
      (∀ r h' k', G v r → Kp h₃ h' → Q' r ⟨h', g₃, d₃, k', o₃⟩) → wpAny (model prog w) A (eval elt (compEnv scope C env)) Q' E' ⟨h₃, g₃, d₃, k₃, o₃⟩)
    (g3 : ∀ D ys (vs : List Value) h' tk, s₁.heap.get? D = none → h'.PlainList D ys → vs.length = y.cps.size → (∀ (j : Nat) v, vs[j]? = some v → SignAt y j v) → Paired G vs ys.toList → Kp s₁.heap h' → Q (.ref D) { s₁ with heap := h', toks := tk }) :
    wpAny (model prog w) A (pyIter (.str y t)) (CompPost prog w A env scope x [] elt Q) E s₁ := by
  refine wpAny_pyIter_str fun o St W hst => ?_
  refine comp_gen G (W A hh) hst ?_ hsz g2 g3
  intro b hb
  rw [List.mem_singleton.mp hb]
  exact Nat.lt_succ_self _
theorem comp_bytes {env : Env} {elt : Expr} {x : Str} {scope : Scope} {Q : Value → Shared → Prop} {y : Array UInt8} {t : Tok} (G : Value → Value → Prop) (hh : A.handled = none) (hsz : y.size ≤ sizeLine)
    (g2 : ∀ (C : Addr) (i : Nat) (v : Value) (h₃ : Heap) g₃ d₃ k₃ o₃ m₃ (Q' E' : Value → Shared → Prop), (∃ c u, y[i]? = some c ∧ v = .int (c.toNat : Int) u) → h₃.Ns (compEnv scope C env).locals m₃ → m₃ x = some v → Kp s₁.heap h₃ → s₁.toks ≤ k₃ →
      (∀ r h' k', G v r → Kp h₃ h' → Q' r ⟨h', g₃, d₃, k', o₃⟩) → wpAny (model prog w) A (eval elt (compEnv scope C env)) Q' E' ⟨h₃, g₃, d₃, k₃, o₃⟩)
    (g3 : ∀ D ys (vs : List Value) h' tk, s₁.heap.get? D = none → h'.PlainList D ys → vs.length = y.size → (∀ (j : Nat) v, vs[j]? = some v → ∃ c u, y[j]? = some c ∧ v = .int (c.toNat : Int) u) → Paired G vs ys.toList → Kp s₁.heap h' → Q (.ref D) { s₁ with heap := h', toks := tk }) :
    wpAny (model prog w) A (pyIter (.bytes y t)) (CompPost prog w A env scope x [] elt Q) E s₁ := by
  refine KBw.pyIter_bytes ?_
  refine comp_gen G (KBw.walks hh _ y t) ⟨_, Heap.get?_push_size _ rfl, rfl, rfl⟩ ?_ hsz g2 g3
  intro b hb
  rw [List.mem_singleton.mp hb]
  exact Nat.lt_succ_self _
end
theorem nameB_G {M : Model} {A : Around} {E : Value → Shared → Prop} {s : Shared} {K : Frag} {h₀ : Heap} {L : Addr} {m mg mb : Str → Option Value} {env : Env} {p : Program} {loose : List Str} {mean : ExcName → Option Value}
    {x : Str} {pos : Pos} {v : Value} {Q : Value → Shared → Prop} (F : Fr h₀ L s.heap m) (X : K.In h₀) (T : Top p loose mean mg mb h₀) (e : nsIn K mainGlobals x = some none) (hv : bootBuiltins x = some v) (hn : x ≠ "__name__") (h : Q v s)
    (hg : env.globals = mainGlobals) (hb : env.builtins = builtinsNs) (hk : env.scope.kind = .function) (hx : env.kindOf x = some .globalImplicit) (hd : (x == ("__debug__" : Str)) = false) :
    wpAny M A (eval (.Name x pos) env) Q E s :=
  Name_function_global hk hx (loadGlobal_builtin (env := env) (by rw [hg]; exact T.g.keeps F.keep) (mg_none_of X T.g e) (by rw [hb]; exact T.b.keeps F.keep) ((T.builtins x hn).trans hv) h) hd
theorem ints_of_signs {y : Str} : ∀ {vs ys : List Value} {k : Nat}, (∀ (j : Nat) v, vs[j]? = some v → SignAt y (k + j) v) → Paired (fun v r => ∀ c u, v = .str ⟨#[c]⟩ u → ∃ t, r = .int (c : Int) t) vs ys → vs.length + k = y.cps.size → IntsAre ys (((cpl y).drop k).map fun c : Nat => (c : Int)) := by
  intro vs
  induction vs with
  | nil =>
    intro ys k h q hl
    cases q
    have e : (cpl y).length = y.cps.size := Array.length_toList ..
    have hl : k = y.cps.size := by simpa using hl
    rw [List.drop_eq_nil_of_le (by omega)]
    exact .nil
  | cons v vs ih =>
    intro ys k h q hl
    cases q with
    | cons a b =>
      obtain ⟨c, u, hc, rfl⟩ := h 0 v rfl
      obtain ⟨t, rfl⟩ := a c u rfl
      have e : (cpl y)[k]? = some c := by simpa using hc
      obtain ⟨hk, ek⟩ := List.getElem?_eq_some_iff.mp e
      rw [List.drop_eq_getElem_cons hk, ek, List.map_cons]
      exact .cons _ _ (ih (k := k + 1) (fun j v' e' => by have := h (j + 1) v' (by simpa using e'); rwa [show k + (j + 1) = k + 1 + j by omega] at this) b (by simp at hl; omega))
theorem strs_of_bytes {y : Array UInt8} : ∀ {vs ys : List Value} {k : Nat}, (∀ (j : Nat) v, vs[j]? = some v → ∃ c u, y[k + j]? = some c ∧ v = .int (c.toNat : Int) u) → Paired (fun v r => ∀ (c : UInt8) u, v = .int (c.toNat : Int) u → ∃ t, r = .str ⟨#[c.toNat]⟩ t) vs ys → vs.length + k = y.size → StrsAre ys ((y.toList.drop k).map fun c => ⟨#[c.toNat]⟩) := by
  intro vs
  induction vs with
  | nil =>
    intro ys k h q hl
    cases q
    rw [List.drop_eq_nil_of_le (by simp at hl; simp; omega)]
    exact .nil
  | cons v vs ih =>
    intro ys k h q hl
    cases q with
    | cons a b =>
      obtain ⟨c, u, hc, rfl⟩ := h 0 v rfl
      obtain ⟨t, rfl⟩ := a c u rfl
      have e : y.toList[k]? = some c := by simpa using hc
      obtain ⟨hk, ek⟩ := List.getElem?_eq_some_iff.mp e
      rw [List.drop_eq_getElem_cons hk, ek, List.map_cons]
      exact .cons _ _ (ih (k := k + 1) (fun j v' e' => by have := h (j + 1) v' (by simpa using e'); rwa [show k + (j + 1) = k + 1 + j by omega] at this) b (by simp at hl; omega))
end

section
set_option maxRecDepth 100000
set_option maxHeartbeats 4000000
open PySem PySem.W PyProof.Rows PySem.Calls
theorem fillPI4 : PySem.Challenge.rw_nb0121_01 = PySem.Challenge.rw_nb0121_01 ∧ hd.heap_39 = hd.heap_39 := by (k_fill; exact ⟨rfl, rfl⟩)
theorem kwPI4 : True := by
  k_with_none
  k_with "call ref" => ((with_reducible show wpAny _ _ (call (Value.ref _) _) _ _ _); refine halt ?_)
  k_with "call builtin:str.join" => ((with_reducible show wpAny _ _ (call (Value.builtin "str.join") _) _ _ _); refine halt ?_)
  k_with "eval Name" => ((with_reducible show wpAny _ _ (eval (Expr.Name _ _) (compEnv _ _ _)) _ _ _); (with_reducible rename Fr _ _ _ _ => kF); refine nameB_G kF (by assumption) (by assumption) (by k_is) (by boot_by_name) (by decide) ?_ rfl rfl rfl rfl (by decide))
  k_with "getMethod ref" => ((with_reducible show wpAny _ _ (getMethod (Value.ref _) _ _) _ _ _); refine halt ?_)
  k_with "call builtin:re.Pattern.sub" => ((with_reducible show wpAny _ _ (call (Value.builtin "re.Pattern.sub") _) _ _ _); refine halt ?_)
  w_top off
  exact trivial
section
variable {w : World} {p : Program} {loose : List Str} {mean : ExcName → Option Value} {mg mb : Str → Option Value} {A : Around} {h : Heap} {gs : Array GenState} {d : Drawn} {tk : Nat} {os : OsState} {Q E : Value → Shared → Prop}
theorem pc_octets {x : Array UInt8} {t : Tok} (B : Bs w p loose mean mg mb h) (hA : A.depth ≤ 900) (hx : x.size ≤ 1000)
    (hQ : ∀ r h' tk' t', nats r = qd true (nats x) → Kp h h' → Q (.bytes r t') ⟨h', gs, d, tk', os⟩) :
    wpAny (model thePr w) A (call (.ref 151) [.bytes x t]) Q E ⟨h, gs, d, tk, os⟩ := by
  refine enterS (Str.ofString "bindata", .bytes x t) [] B (by k_is) (by k_is) (by simp only [recursionLimit]; omega) (BindsTo.of_eq rfl) (locs rfl) ?_ rfl rfl rfl (by decide)
  intro L h₁ t₁ ht F N X T
  k_steps
  have X1 := X.keeps F.keep
  refine go (gm_pat (pat2 X1) (X1 _ _ (o132at _)) (dict2 _) ?_)
  k_steps
  refine go (sub_octets (pat2 X1) hx ?_)
  intro r t' h' k hr hk
  k_steps
  exact hQ _ _ _ _ hr fun _ _ e => hk _ _ (F.keep _ _ e)
theorem pc_writtenD {x : Str} {t u : Tok} (B : Bs w p loose mean mg mb h) (hA : A.depth ≤ 890) (hh : A.handled = none) (hx : x.length ≤ 400) (hx2 : ∀ c ∈ cpl x, c < 256)
    (hQ : ∀ h' tk' t', Kp h h' → Q (.str (ofL (qd true (cpl x))) t') ⟨h', gs, d, tk', os⟩) :
    wpAny (model thePr w) A (call (.ref 180) [.str (Str.ofString "dots") u, .str x t]) Q E ⟨h, gs, d, tk, os⟩ := by
  refine enterS (Str.ofString "writer", .str (Str.ofString "dots") u) [(Str.ofString "mail", .str x t)] B (by k_is) (by k_is) (by simp only [recursionLimit]; omega) (BindsTo.of_eq rfl) (locs rfl) ?_ rfl rfl rfl (by decide)
  intro L h₁ t₁ ht F N X T
  k_steps
  refine comp_str (fun v r => ∀ c u, v = .str ⟨#[c]⟩ u → ∃ t, r = .int (c : Int) t) hh (by rw [sizeLine_eq]; omega) ?_ ?_
  · intro C i v h₃ g₃ d₃ k₃ o₃ m₃ Q' E' hv hn hm hk htk hQ'
    obtain ⟨c, u, hc, rfl⟩ := hv
    have F₃ := F.kept hk
    have N₃ := N.grown hk
    clear F N
    k_steps
    refine hQ' _ _ _ (fun c' u' e => ?_) fun _ _ e => e
    cases e
    exact ⟨_, rfl⟩
  · intro D ys vs h2 k2 hD hpl hlen hat hP hk
    obtain ⟨n2, hpl⟩ := hpl
    have hI := ints_of_signs (k := 0) (by simpa using hat) hP (by omega)
    rw [List.drop_zero] at hI
    have hxl : (cpl x).length = x.length := Array.length_toList ..
    have F2 := F.kept hk
    have N2 := N.grown hk
    clear F N
    k_steps
    refine call_bytes_ints (ns := (cpl x).map fun c : Nat => (c : Int)) (vs := ys.toList) ⟨_, hpl, rfl, _, rfl⟩ hI ?_ ?_ hh ?_
    · intro n hn
      obtain ⟨c, hc, rfl⟩ := List.mem_map.mp hn
      have := hx2 c hc
      omega
    · rw [hI.length, List.length_map, sizeLine_eq]; omega
    intro h3 t3 k3 hk3
    have F3 := F2.kept hk3
    have N3 := N2.grown hk3
    clear F2 N2
    have hnb : nats (byteArr ((cpl x).map fun c : Nat => (c : Int))) = cpl x := by
      unfold nats byteArr
      simp only [List.map_map]
      rw [show ∀ l : List Nat, (∀ c ∈ l, c < 256) → List.map ((fun c : UInt8 => c.toNat) ∘ ((fun n : Int => n.toNat.toUInt8) ∘ fun c : Nat => (c : Int))) l = l from ?_]
      · exact hx2
      · intro l hl
        induction l with
        | nil => rfl
        | cons a l ih =>
          rw [List.map_cons, ih fun c hc => hl c (.tail _ hc)]
          congr 1
          have := hl a (.head _)
          simp; omega
    k_steps
    refine go (pc_octets (B.keeps F3.keep) (by rw [depth_deeper]; omega) ?_ ?_)
    · rw [byteArr_size, List.length_map]; omega
    intro r h4 k4 t4 hr hk4
    rw [hnb] at hr
    have hrl : r.size ≤ 800 := by
      have h1 := congrArg List.length hr
      have h2 := qd_length true (cpl x)
      unfold nats at h1
      rw [List.length_map, Array.length_toList] at h1
      omega
    have F4 := F3.kept hk4
    have N4 := N3.grown hk4
    clear F3 N3
    k_steps
    (with_reducible rename Fr _ _ _ _ => F5)
    (with_reducible rename News _ _ _ _ => N5)
    refine comp_bytes (fun v r => ∀ (c : UInt8) u, v = .int (c.toNat : Int) u → ∃ t, r = .str ⟨#[c.toNat]⟩ t) hh (by rw [sizeLine_eq]; omega) ?_ ?_
    · intro C i v h₃ g₃ d₃ k₃ o₃ m₃ Q' E' hv hn hm hk htk hQ'
      obtain ⟨c, u, hc, rfl⟩ := hv
      have F₃ := F5.kept hk
      have N₃ := N5.grown hk
      clear F5 N5
      k_steps
      refine chr_of_range (by omega) (by have := c.toNat_lt; omega) ?_
      refine hQ' _ _ _ (fun c' u' e => ?_) fun _ _ e => e
      have e1 : (c.toNat : Int) = c'.toNat := (Value.int.inj e).1
      exact ⟨_, by rw [show ((c.toNat : Int)).toNat = c'.toNat by omega]⟩
    · intro D6 ys6 vs6 h6 k6 hD6 hpl6 hlen6 hat6 hP6 hk6
      obtain ⟨n6, hpl6⟩ := hpl6
      have hS := strs_of_bytes (k := 0) (by simpa using hat6) hP6 (by omega)
      rw [List.drop_zero] at hS
      have F6 := F5.kept hk6
      k_steps
      refine go (join_listC (items := ys6) ⟨_, hpl6, rfl, _, rfl⟩ hS (by decide) (join_fits (n := 1000) (k := 1) (by rw [List.length_map, Array.length_toList]; omega) ?_ (by decide)) ?_)
      · intro q hq
        obtain ⟨c, _, rfl⟩ := List.mem_map.mp hq
        exact Nat.le_refl _
      intro t7 k7
      k_steps
      have e : Txt.join (Str.ofString "") (r.toList.map fun c => (⟨#[c.toNat]⟩ : Str)) = ofL (qd true (cpl x)) := by
        refine str_ext ?_
        rw [show Str.ofString "" = Str.empty from by decide +kernel, join_empty, ofL_toList, ← hr, List.map_map]
        unfold nats
        induction r.toList with
        | nil => rfl
        | cons a l ih => rw [List.map_cons, List.flatten_cons, ih]; rfl
      rw [← e] at hQ
      exact hQ _ _ _ F6.keep
end
end

section
set_option maxRecDepth 100000
set_option maxHeartbeats 1000000
open PySem PySem.W PyProof.Rows PySem.Calls
section
variable {w : World} {p : Program} {loose : List Str} {mean : ExcName → Option Value} {mg mb : Str → Option Value} {A : Around} {h : Heap} {gs : Array GenState} {d : Drawn} {tk : Nat} {os : OsState} {Q E : Value → Shared → Prop}
theorem enterC {f : Addr} {vals : List Value} {name qual : Str} {params : Arguments} {body : List Stmt} {scope : Scope} {dV kV doc pm cdv ct oc : Value} {an od : Option Addr} {osl : Array (Option Value)} (binds : List (Str × Value))
    (B : Bs w p loose mean mg mb h) (ho : (hd.heap_39 w.params).lookup f = some ⟨oc, od, .func (fnOf name qual params body scope dV kV doc pm an cdv ct), osl⟩) (hcd : codeIn (hd.heap_39 w.params) cdv qual = true) (hroom : A.depth < recursionLimit)
    (hbind : BindsTo ⟨h, gs, d, tk, os⟩ (fnOf name qual params body scope dV kV doc pm an cdv ct) ⟨vals, []⟩ binds)
    (hkind : ∀ n, ∀ x ∈ binds, scope.names.lookup x.1 = some .local ∨ (scope.names.lookup x.1 = some .cell ∧ ((cellsFrom n scope.names []).lookup x.1).isSome = true))
    (hnd : ((cellsFrom 0 scope.names []).map (·.1)).Nodup)
    (k : ∀ L h₁ t₁ cells, Fr h L h₁ (bindL (envOfC qual scope L f cdv).kindOf binds fun _ => none) → News h L h₁ cells → CellsAre (bindC (envOfC qual scope L f cdv).kindOf binds fun _ => none) (cellsFrom (L + 1) scope.names []) cells →
      (hd.heap_39 w.params).In h → Top p loose mean mg mb h →
      wpAny (model thePr w) (A.deeper (envOfC qual scope L f cdv)) (execs body (envOfC qual scope L f cdv)) (fun fl s' => Q (match fl with | .ret v => v | _ => .none) s') (fun _ _ => False) ⟨h₁, gs, d, t₁, os⟩)
    (hco : scope.isCoroutine = false) (hgen : scope.isGenerator = false) (hk : scope.kind = .function) : wpAny (model thePr w) A (call (.ref f) vals) Q E ⟨h, gs, d, tk, os⟩ := by
  refine wpAny_call ?_
  refine codeAny_call_function hroom (B.K _ _ ho) rfl hco hgen rfl (codeRec_of B.K hcd) (hbind _ _ _ _ ?_)
  refine wpAny_newFunctionEnv_cells hk (hkind _) fun env' he s' x => ?_
  subst he
  refine ⟨B.T.nolimit.keeps x.toInCall.keep, codeAny_func ?_⟩
  obtain ⟨h₁, tk, rfl, _⟩ := x.done
  have hk₁ := x.toInCall.keep
  obtain ⟨cells, NC, Y⟩ := Cl.news (h₀ := h) (Nat.le_refl _) fun n c hm => ⟨x.cell n c (lookup_of_mem_nodup (cellsFrom_names scope.names 0 (h.objs.size + 1) [] [] rfl ▸ hnd) hm), x.above n c hm⟩
  exact wpAny_mono (k _ h₁ tk cells ⟨x.toInCall.ns, hk₁, Nat.le_refl _⟩ NC Y B.K B.T) (fun fl s' hl => hl) (fun _ _ y => y.elim)
end
end

section
set_option maxRecDepth 100000
set_option maxHeartbeats 1000000
open PySem PySem.W PyProof.Rows PySem.Calls
section
variable {prog : Program} {w : World} {A : Around} {h : Heap} {gs : Array GenState} {d : Drawn} {tk : Nat} {os : OsState}
/-- a loop over anything that is walked, by what holds between the turns -/
theorem for_walk {x : Str} {px : Pos} {body : List Stmt} {env : Env} {Q : Flow → Shared → Prop} {E : Value → Shared → Prop} {I : Addr} {fp : List Addr} {n : Nat} {P : Nat → Value → Prop} {St : Nat → Heap → Prop} (J : Nat → Heap → Prop)
    (W : Walks prog w A I fp [I] n P St) (hst : St 0 h) (hJ : J 0 h)
    (stable : ∀ i h h', J i h → (∀ b o, b ≠ I → h.get? b = some o → h'.get? b = some o) → J i h')
    (turn : ∀ i v h' tk, i < n → P i v → J i h' → St (i + 1) h' → ∀ (Q' : Flow → Shared → Prop),
      (∀ f h'' tk', f = .next ∨ f = .cont → J (i + 1) h'' → (∀ b ∈ fp, ∀ o, h'.get? b = some o → h''.get? b = some o) → Q' f ⟨h'', gs, d, tk', os⟩) → (∀ v s', Q (.ret v) s' → Q' (.ret v) s') → (∀ s', Q .next s' → Q' .brk s') →
      wpAny (model prog w) A (storeName env x v) (fun _ s₂ => wpAny (model prog w) A (execs body env) Q' (fun _ _ => False) s₂) (fun _ _ => False) ⟨h', gs, d, tk, os⟩)
    (done : ∀ h' tk, J n h' → Q .next ⟨h', gs, d, tk, os⟩) :
    codeAny (model prog w) A (.forLoop (.Name x px) (.ref I) body [] env) (fun r s' => match r with | .ok f => Q f s' | .error e => cameBackBy (model prog w) A env E e s') ⟨h, gs, d, tk, os⟩ := by
  refine codeAny_forLoop_any (fun k s' => ∃ h' tk i, s' = ⟨h', gs, d, tk, os⟩ ∧ St i h' ∧ J i h' ∧ i ≤ n ∧ k = n + 1 - i) ?_ (n + 1) ⟨h, tk, 0, rfl, hst, hJ, Nat.zero_le _, rfl⟩
  rintro k s' ⟨h', tk', i, rfl, hst', hJ', hi, rfl⟩
  by_cases hlt : i < n
  · refine W.item i _ _ _ hlt hst' fun v h₁ tk₁ hP hst₁ hk₁ => ?_
    have hJ₁ := stable i h' h₁ hJ' fun b o hb e => hk₁ b o (by simpa using hb) e
    refine wpAny_pure ?_
    refine wpAny_mono (wpAny_assign_Name (turn i v h₁ tk₁ hlt hP hJ₁ hst₁ _ (fun f h'' tk'' hf hJ2 hfp => ?_) (fun v s' q => ?_) (fun s' q => ?_))) (fun _ s₂ h₂ => wpAny_mono h₂ (fun f s₃ h₃ => h₃) fun _ _ e => e.elim) fun _ _ e => e.elim
    · rcases hf with rfl | rfl
      · exact ⟨n + 1 - (i + 1), by omega, h'', tk'', i + 1, rfl, W.frame _ _ _ hst₁ hfp, hJ2, hlt, rfl⟩
      · exact ⟨n + 1 - (i + 1), by omega, h'', tk'', i + 1, rfl, W.frame _ _ _ hst₁ hfp, hJ2, hlt, rfl⟩
    · exact q
    · exact q
  · have hin : i = n := by omega
    subst hin
    exact W.done _ _ _ hst' fun h₁ tk₁ hk₁ => wpAny_execs_nil (done h₁ tk₁ (stable i h' h₁ hJ' fun b o hb e => hk₁ b o (by simpa using hb) e))
end
end

section
set_option maxRecDepth 100000
set_option maxHeartbeats 1000000
open PySem PySem.W PyProof.Rows PySem.Calls
section
variable {prog : Program} {w : World} {A : Around} {E : Value → Shared → Prop} {h : Heap} {gs : Array GenState} {d : Drawn} {tk : Nat} {os : OsState}
/-- a comprehension over a list, with tests and free names -/
theorem free_list {env : Env} {elt : Expr} {x : Str} {ifs : List Expr} {scope : Scope} {cl : List (Str × Addr)} {Q : Value → Shared → Prop} {l : Addr} {vs : List Value} (p : Value → Bool) (G : Value → Value → Prop)
    (hh : A.handled = none) (hl : h.IsList l vs.toArray) (hsz : vs.length ≤ sizeLine)
    (g1 : ∀ (C : Addr) (i : Nat) (v : Value) (h₃ : Heap) g₃ d₃ k₃ o₃ m₃ (Q' : Bool → Shared → Prop) (E' : Value → Shared → Prop), vs[i]? = some v → h₃.Ns (compEnvC scope cl C env).locals m₃ → m₃ x = some v → Kp h h₃ →
      (∀ h' k', Kp h₃ h' → Q' (p v) ⟨h', g₃, d₃, k', o₃⟩) → wpAny (model prog w) A (forIn ifs true fun c r => if r = true then do let ok ← isTrue c (compEnvC scope cl C env) (eval c (compEnvC scope cl C env)); pure (ForInStep.yield ok) else pure (ForInStep.yield r)) Q' E' ⟨h₃, g₃, d₃, k₃, o₃⟩)
    (g2 : ∀ (C : Addr) (i : Nat) (v : Value) (h₃ : Heap) g₃ d₃ k₃ o₃ m₃ (Q' E' : Value → Shared → Prop), vs[i]? = some v → p v = true → h₃.Ns (compEnvC scope cl C env).locals m₃ → m₃ x = some v → Kp h h₃ →
      (∀ r h' k', G v r → Kp h₃ h' → Q' r ⟨h', g₃, d₃, k', o₃⟩) → wpAny (model prog w) A (eval elt (compEnvC scope cl C env)) Q' E' ⟨h₃, g₃, d₃, k₃, o₃⟩)
    (g3 : ∀ D ys h' tk', h.get? D = none → h'.PlainList D ys → Paired G (vs.filter p) ys.toList → Kp h h' → Q (.ref D) ⟨h', gs, d, tk', os⟩) :
    wpAny (model prog w) A (pyIter (.ref l)) (fun it s₂ => ∃ I fp wr n P St, it = .ref I ∧ Walks prog w A I fp wr n P St ∧ n ≤ sizeLine ∧ St 0 s₂.heap ∧ (∀ b ∈ fp, b < s₂.heap.objs.size) ∧
      QuietOnC prog w A env scope cl x ifs elt wr P p G s₂ ∧
      (∀ D h' tk ys (vs : List Value), s₂.heap.get? D = none → h'.IsList D ys → h'.PlainList D ys → vs.length = n → (∀ (j : Nat) v, vs[j]? = some v → P j v) → Paired G (vs.filter p) ys.toList →
        (∀ b o, b ∉ wr → s₂.heap.get? b = some o → h'.get? b = some o) → Q (.ref D) { s₂ with heap := h', toks := tk })) E ⟨h, gs, d, tk, os⟩ := by
  have hlt : l < h.objs.size := by obtain ⟨_, e, _⟩ := hl; exact Heap.lt_size e
  refine wpAny_pyIter_list hl ?_
  have up : ∀ (h' : Heap), (∀ b o', b ∉ [h.objs.size] → (h.push { cls := .type "list_iterator", data := .fields #[.ref l, .int 0 0] }).get? b = some o' → h'.get? b = some o') → Kp h h' :=
    fun h' hk b o' e => hk b o' (not_iter_of_old e) (Heap.get?_push_of_some _ e)
  refine ⟨h.objs.size, [h.objs.size, l], [h.objs.size], vs.toArray.size, _, _, rfl, Walks.list hh _ l (Nat.ne_of_lt hlt) vs.toArray, (by rw [List.size_toArray]; exact hsz),
    ⟨⟨_, Heap.get?_push_size _ rfl, rfl, rfl⟩, hl.at fun o e => Heap.get?_push_of_some _ e⟩, ?_, ⟨?_, ?_⟩, ?_⟩
  · intro b hb
    show b < (h.push _).objs.size
    rw [Heap.size_push]
    rcases List.mem_cons.mp hb with rfl | hb
    · exact Nat.lt_succ_self _
    · rw [List.mem_singleton.mp hb]; exact Nat.lt_succ_of_lt hlt
  · intro C i v s₃ m₃ E' _ hP hn hm hk htk
    obtain ⟨h₃, g₃, d₃, k₃, o₃⟩ := s₃
    exact g1 C i v h₃ g₃ d₃ k₃ o₃ m₃ _ E' (by simpa using hP) hn hm (up _ hk) fun h' k' b => ⟨rfl, ⟨h', k', rfl, b⟩⟩
  · intro C i v s₃ m₃ E' _ hP hp hn hm hk htk
    obtain ⟨h₃, g₃, d₃, k₃, o₃⟩ := s₃
    exact g2 C i v h₃ g₃ d₃ k₃ o₃ m₃ _ E' (by simpa using hP) hp hn hm (up _ hk) fun r h' k' a b => ⟨a, ⟨h', k', rfl, b⟩⟩
  · intro D h' tk ys vs' hnew hlD hplD hlen hP hF hk
    have e' : vs' = vs := by simpa using walked_is hlen hP
    subst e'
    refine g3 D ys h' tk ?_ hplD hF (up h' hk)
    cases e : h.get? D with
    | none => rfl
    | some o' => rw [Heap.get?_push_of_some _ e] at hnew; cases hnew
theorem comp_free {env : Env} {elt iter : Expr} {x : Str} {px pos : Pos} {ifs : List Expr} {scope : Scope} {cl : List (Str × Addr)} {Q : Value → Shared → Prop} {l : Addr} {vs : List Value} (p : Value → Bool) (G : Value → Value → Prop)
    (hclos : closureFor scope env = pure cl) (hcell : ∀ y ∈ scope.names, y.2 ≠ .cell) (hkind : scope.kind = .function)
    (hnames : ∀ y ∈ scope.names, y.2 = .local → scope.names.lookup y.1 = some .local) (hx : scope.names.lookup x = some .local) (hs : ∀ x, foldedSetIterable iter env x = pure x)
    (hiter : ∀ Q' : Value → Shared → Prop, Q' (.ref l) ⟨h, gs, d, tk, os⟩ → wpAny (model prog w) A (eval iter env) Q' E ⟨h, gs, d, tk, os⟩)
    (hh : A.handled = none) (hl : h.IsList l vs.toArray) (hsz : vs.length ≤ sizeLine)
    (g1 : ∀ (C : Addr) (i : Nat) (v : Value) (h₃ : Heap) g₃ d₃ k₃ o₃ m₃ (Q' : Bool → Shared → Prop) (E' : Value → Shared → Prop), vs[i]? = some v → h₃.Ns (compEnvC scope cl C env).locals m₃ → m₃ x = some v → Kp h h₃ →
      (∀ h' k', Kp h₃ h' → Q' (p v) ⟨h', g₃, d₃, k', o₃⟩) → wpAny (model prog w) A (forIn ifs true fun c r => if r = true then do let ok ← isTrue c (compEnvC scope cl C env) (eval c (compEnvC scope cl C env)); pure (ForInStep.yield ok) else pure (ForInStep.yield r)) Q' E' ⟨h₃, g₃, d₃, k₃, o₃⟩)
    (g2 : ∀ (C : Addr) (i : Nat) (v : Value) (h₃ : Heap) g₃ d₃ k₃ o₃ m₃ (Q' E' : Value → Shared → Prop), vs[i]? = some v → p v = true → h₃.Ns (compEnvC scope cl C env).locals m₃ → m₃ x = some v → Kp h h₃ →
      (∀ r h' k', G v r → Kp h₃ h' → Q' r ⟨h', g₃, d₃, k', o₃⟩) → wpAny (model prog w) A (eval elt (compEnvC scope cl C env)) Q' E' ⟨h₃, g₃, d₃, k₃, o₃⟩)
    (g3 : ∀ D ys h' tk', h.get? D = none → h'.PlainList D ys → Paired G (vs.filter p) ys.toList → Kp h h' → Q (.ref D) ⟨h', gs, d, tk', os⟩) :
    wpAny (model prog w) A (eval (.ListComp elt [⟨.Name x px, iter, ifs, 0⟩] scope pos) env) Q E ⟨h, gs, d, tk, os⟩ :=
  wpAny_ListComp_free p G hclos hcell hkind hnames hx (hiter _ (free_list (Q := Q) p G hh hl hsz g1 g2 g3)) hs
end
end

section
set_option maxRecDepth 100000
set_option maxHeartbeats 1000000
open PySem PySem.W PyProof.Rows PySem.Calls
section
variable {prog : Program} {w : World} {A : Around} {E : Value → Shared → Prop} {h : Heap} {gs : Array GenState} {d : Drawn} {tk : Nat} {os : OsState}
theorem insert_at {l : Addr} {items : Array Value} {n c : Nat} {u : Tok} {v : Value} {Q : Value → Shared → Prop} (hl : h.get? l = some (listOf items n)) (hc : c ≤ items.size) (hz : items.size ≤ 1000)
    (hq : ∀ h' n' its, its.toList = items.toList.take c ++ v :: items.toList.drop c → h'.get? l = some (listOf its n') → Heap.SameBut l h h' → Q .none ⟨h', gs, d, tk, os⟩) :
    wpAny (model prog w) A (call (.builtin "list.insert") [.ref l, .int (c : Int) u, v]) Q E ⟨h, gs, d, tk, os⟩ := by
  obtain ⟨x, hx⟩ : ∃ x : Int, x = (c : Int) := ⟨_, rfl⟩
  rw [← hx]
  have hf : Builtin.List.listFitsIndex x = true := by
    unfold Builtin.List.listFitsIndex
    simp
    omega
  refine call_meets PySem.F.slot_list_insert ⟨_, hl, rfl⟩ PySem.F.entry_list_insert (PySem.F.args_list_insert_3 _ _ _) (PySem.AutoSeq1.list_insert_list_int_val_1 l items n x u v (by simp [hf]) (by rw [sizeLine_eq]; omega)) ⟨hl, ?_⟩
  have e1 := get?_update_seq hl (fun xs => have k := if x < 0 then (x + ((xs.size : Nat) : Int)).toNat else min x.toNat xs.size; (xs.extract 0 k).push v ++ xs.extract k)
  refine hq _ _ _ ?_ e1 (Heap.SameBut.update ..)
  have hk : (if x < 0 then (x + ((items.size : Nat) : Int)).toNat else min x.toNat items.size) = c := by
    rw [if_neg (by omega)]
    omega
  simp only [hk]
  rw [Array.toList_append, Array.toList_push, Array.toList_extract, Array.toList_extract]
  simp [List.extract]
  rw [List.take_of_length_le]
  rw [List.length_drop, Array.length_toList]
  exact Nat.le_refl _
end
theorem ints_app {vs ws : List Value} {ns ms : List Int} (h : IntsAre vs ns) (g : IntsAre ws ms) : IntsAre (vs ++ ws) (ns ++ ms) := by
  induction h with
  | nil => exact g
  | cons x t h ih => exact .cons x t ih
theorem ints_take {vs : List Value} {ns : List Int} (h : IntsAre vs ns) : ∀ c, IntsAre (vs.take c) (ns.take c) := by
  induction h with
  | nil => intro c; cases c <;> exact .nil
  | cons x t h ih => intro c; cases c with
    | zero => exact .nil
    | succ c => exact .cons x t (ih c)
theorem ints_drop {vs : List Value} {ns : List Int} (h : IntsAre vs ns) : ∀ c, IntsAre (vs.drop c) (ns.drop c) := by
  induction h with
  | nil => intro c; cases c <;> exact .nil
  | cons x t h ih => intro c; cases c with
    | zero => exact .cons x t h
    | succ c => exact ih c
end

section
set_option maxRecDepth 100000
set_option maxHeartbeats 1000000
open PySem PySem.W PyProof.Rows PySem.Calls
section
variable {prog : Program} {w : World} {A : Around} {E : Value → Shared → Prop} {h : Heap} {gs : Array GenState} {d : Drawn} {tk : Nat} {os : OsState}
/-- a comprehension over pairs, with free names, by what holds between the turns -/
theorem pair_block {elt iter : Expr} {x x₂ : Str} {px px₂ tp pos : Pos} {kk : Nat} {scope : Scope} {cl : List (Str × Addr)} {env : Env} {I : Addr} {fp wr : List Addr} {n : Nat} {Pt : Nat → Array Value → Prop} {St : Nat → Heap → Prop} {Mid : Nat → Addr → Heap → Prop}
    {RR : Value → Addr → Result → Shared → Prop} (J : Nat → List Value → Heap → Prop)
    (W : WalksT prog w A I fp wr n Pt St Mid) (hn : n ≤ 1000) (hcell : ∀ y ∈ scope.names, y.2 ≠ .cell) (hkind : scope.kind = .function) (hx : scope.names.lookup x = some .local) (hx₂ : scope.names.lookup x₂ = some .local) (hxx : x ≠ x₂) (hh : A.handled = none)
    (hst : St 0 h) (hfp : ∀ b ∈ fp, b < h.objs.size) (hpt : ∀ i vals, Pt i vals → ∃ v1 v2, vals = #[v1, v2]) (hJ0 : ∀ h', J 0 [] h')
    (stable : ∀ i ys h1 h2, J i ys h1 → (∀ b o, h.objs.size + 2 ≤ b → h1.get? b = some o → h2.get? b = some o) → J i ys h2)
    (turn : ∀ (C : Addr) (i : Nat) v1 v2 (ys : List Value) (h₃ : Heap) k₃ m₃ (Q' E' : Value → Shared → Prop), i < n → Pt i #[v1, v2] → h₃.Ns (compEnvC scope cl C env).locals m₃ → m₃ x = some v1 → m₃ x₂ = some v2 → (∀ b o, b ∉ wr → h.get? b = some o → h₃.get? b = some o) → h.objs.size + 2 ≤ h₃.objs.size → J i ys h₃ → ys.length = i →
      (∀ r h' k', J (i + 1) (ys ++ [r]) h' → Kp h₃ h' → Q' r ⟨h', gs, d, k', os⟩) → wpAny (model prog w) A (eval elt (compEnvC scope cl C env)) Q' E' ⟨h₃, gs, d, k₃, os⟩)
    (fin : ∀ D C h' tk m' ys, h.get? D = none → h.get? C = none → D ≠ C → C < h.objs.size + 2 → h'.Ns C m' → h'.PlainList D ys → J n ys.toList h' → ys.size = n → (∀ b o, b ∉ wr → h.get? b = some o → h'.get? b = some o) → RR (.ref D) C (.ok .next) ⟨h', gs, d, tk, os⟩) :
    wpAny (model prog w) A (newList []) (fun acc s₃ => wpAny (model prog w) A (newFunctionEnv scope env.globals cl [] env.qual none .none (some env)) (fun cenv s₄ =>
      codeAny (model prog w) A (.compStart (.ListComp elt [⟨.Tuple [.Name x px, .Name x₂ px₂] kk tp, iter, [], 0⟩] scope pos) 0 (.ref I) acc { cenv with scope := relabel scope env }) (RR acc cenv.locals) s₄) E s₃) E ⟨h, gs, d, tk, os⟩ := by
  refine wpAny_newObj_type (wpAny_newFunctionEnv hcell (by intro y hy; simp at hy) (fun h₁ hns₁ hsb₁ => ?_) hkind)
  dsimp only at hns₁ hsb₁ ⊢
  generalize hH2 : h.push { cls := .type "list", dict := none, data := .seq ([] : List Value).toArray } = H2 at hns₁ hsb₁ ⊢
  have hC : H2.objs.size = h.objs.size + 1 := by rw [← hH2, Heap.size_push]
  have hDC : h.objs.size ≠ H2.objs.size := by rw [hC]; exact Nat.ne_of_lt (Nat.lt_succ_self _)
  have below : ∀ b, b < h.objs.size → b ≠ H2.objs.size ∧ b ≠ h.objs.size := fun b hb => ⟨by rw [hC]; exact Nat.ne_of_lt (Nat.lt_succ_of_lt hb), Nat.ne_of_lt hb⟩
  have hDf : h.objs.size ∉ fp := fun hm => Nat.lt_irrefl _ (hfp _ hm)
  have hCf : H2.objs.size ∉ fp := fun hm => by have := hfp _ hm; rw [hC] at this; exact Nat.lt_irrefl _ (Nat.lt_of_succ_lt this)
  have old : ∀ b o, h.get? b = some o → h₁.get? b = some o := fun b o e => hsb₁.extBut b o (below b (Heap.lt_size e)).1 (Heap.get?_push_of_some _ (hH2 ▸ Heap.get?_push_of_some _ e))
  have hacc : h₁.PlainList h.objs.size #[] := ⟨_, hsb₁.extBut _ _ hDC (Heap.get?_push_of_some _ (hH2 ▸ Heap.get?_push_size _ rfl))⟩
  have hst₁ : St 0 h₁ := W.frame _ _ _ hst fun b _ o e => old b o e
  have fresh : ∀ a, h.objs.size ≤ a → h.get? a = none := fun a ha => by
    cases e : h.get? a with
    | none => rfl
    | some o' => exact absurd (Heap.lt_size e) (Nat.not_lt.mpr ha)
  have loop : ∀ s₃ : Shared, s₃ = ⟨h₁, gs, d, tk + ([] : List (Str × Value)).length, os⟩ →
      codeAny (model prog w) A (.compLoop (.ListComp elt [⟨.Tuple [.Name x px, .Name x₂ px₂] kk tp, iter, [], 0⟩] scope pos) 0 (.ref I) (.ref h.objs.size) (compEnvC scope cl H2.objs.size env)) (RR (.ref h.objs.size) H2.objs.size) s₃ := by
    rintro s₃ rfl
    refine LCp.codeAny_compLoop_pair
      (fun k s' => ∃ h' tk i ys m', s' = ⟨h', gs, d, tk, os⟩ ∧ i ≤ n ∧ k = n + 1 - i ∧ ys.length = i ∧ St i h' ∧ h'.Ns H2.objs.size m' ∧ h'.PlainList h.objs.size ys.toArray ∧ (∀ b o, b ∉ wr → h.get? b = some o → h'.get? b = some o) ∧ J i ys h') ?_ (n + 1)
      ⟨h₁, _, 0, [], _, rfl, Nat.zero_le _, rfl, rfl, hst₁, hns₁, hacc, fun b o _ e => old b o e, hJ0 _⟩
    rintro k s' ⟨h', tk', i, ys, m', rfl, hi, rfl, hyl, hst', hn', hpl', hk', hJ'⟩
    have sz' : h.objs.size + 2 ≤ h'.objs.size := by have := hn'.lt; rw [hC] at this; exact this
    by_cases hlt : i < n
    · refine W.item i _ _ _ hlt hst' fun T vals h₂ tk₂ hPv hTf hT₂ hM₂ hk₂ => ?_
      refine W.go _ _ _ i T _ _ _ hM₂ fun h₃ hst₃ hk₃ => ?_
      have hTw := W.apart _ _ _ hM₂
      obtain ⟨v1, v2, rfl⟩ := hpt i vals hPv
      obtain ⟨oT, gT, cT, nT, dT⟩ := hT₂
      have ht : IsTup h₃ T #[v1, v2] := ⟨oT, hk₃ _ _ hTw gT, cT, nT, dT⟩
      have hwC : H2.objs.size ∉ wr := fun q => hCf (W.sub _ q)
      have hwD : h.objs.size ∉ wr := fun q => hDf (W.sub _ q)
      refine assign_Tuple_tuple hh ht rfl rfl fun h₅ he => ?_
      have he' : ∀ b o, h₃.get? b = some o → h₅.get? b = some o := fun b o e => he b o (Nat.ne_of_lt (Heap.lt_size e)) e
      refine assignInOrder_cons (wpAny_assign_Name (wpAny_storeName_local (lookup_relabel_local hx) (hn'.at' fun o e => he' _ o (hk₃ _ o hwC (hk₂ _ o hwC e))) (fun h₆ hn₆ hs₆ => ?_) (by simp [compEnvC, relabel, hkind])))
      refine assignInOrder_cons (wpAny_assign_Name (wpAny_storeName_local (lookup_relabel_local hx₂) hn₆ (fun h₇ hn₇ hs₇ => ?_) (by simp [compEnvC, relabel, hkind])))
      refine assignInOrder_nil ?_
      have old7 : ∀ b o, b ≠ H2.objs.size → b ∉ wr → h'.get? b = some o → h₇.get? b = some o := fun b o hb hbw e => hs₇.extBut b o hb (hs₆.extBut b o hb (he' b o (hk₃ b o hbw (hk₂ b o hbw e))))
      have hst₇ : St (i + 1) h₇ := W.frame _ _ _ hst₃ fun b hb o e => hs₇.extBut b o (fun q => hCf ((show b = H2.objs.size from q) ▸ hb)) (hs₆.extBut b o (fun q => hCf ((show b = H2.objs.size from q) ▸ hb)) (he' b o e))
      have hpl₇ : h₇.PlainList h.objs.size ys.toArray := hpl'.at fun o e => old7 _ o hDC hwD e
      have hwbig : ∀ b, h.objs.size + 2 ≤ b → b ∉ wr := fun b hb q => by have := hfp _ (W.sub _ q); exact absurd (Nat.lt_of_lt_of_le this (Nat.le_trans (Nat.le_add_right _ 2) hb)) (Nat.lt_irrefl _)
      have hCbig : ∀ b, h.objs.size + 2 ≤ b → b ≠ H2.objs.size := fun b hb q => by rw [q, hC] at hb; exact absurd hb (Nat.not_succ_le_self _)
      have hJ₇ : J i ys h₇ := stable i ys h' h₇ hJ' fun b o hb e => old7 b o (hCbig b hb) (hwbig b hb) e
      have sz7 : h.objs.size + 2 ≤ h₇.objs.size := by have := hn₇.lt; rw [show (compEnvC scope cl H2.objs.size env).locals = H2.objs.size from rfl, hC] at this; exact this
      refine turn H2.objs.size i v1 v2 ys h₇ _ _ _ _ hlt hPv hn₇ (by simp [hxx]) (by simp) (fun b o hb e => old7 b o (below b (Heap.lt_size e)).1 hb (hk' b o hb e)) sz7 hJ₇ hyl fun r h₈ k₈ hJ₈ hk₈ => ?_
      obtain ⟨nD, zD⟩ := hpl₇
      have hDbig : ∀ b, h.objs.size + 2 ≤ b → b ≠ h.objs.size := fun b hb q => by rw [q] at hb; exact absurd hb (Nat.not_le.mpr (Nat.lt_succ_of_lt (Nat.lt_succ_self _)))
      refine append_at (hsz := by show ys.toArray.size ≤ sizeLine; rw [List.size_toArray, hyl, sizeLine_eq]; omega) (hk₈ _ _ zD) fun h₉ hs₉ hD₉ => ?_
      refine ⟨n + 1 - (i + 1), by omega, h₉, _, i + 1, ys ++ [r], _, rfl, hlt, rfl, by rw [List.length_append, List.length_singleton, hyl], W.frame _ _ _ hst₇ fun b hb o e => hs₉.extBut b o (fun q => hDf (q ▸ hb)) (hk₈ _ _ e), (hn₇.keeps hk₈).sameBut hs₉ (Ne.symm hDC), ⟨_, by simpa using hD₉⟩, fun b o hb e => ?_, ?_⟩
      · exact hs₉.extBut b o (below b (Heap.lt_size e)).2 (hk₈ _ _ (old7 b o (below b (Heap.lt_size e)).1 hb (hk' b o hb e)))
      · exact stable _ _ _ _ hJ₈ fun b o hb e => hs₉.extBut b o (hDbig b hb) e
    · have hin : i = n := by omega
      subst hin
      have hwC : H2.objs.size ∉ wr := fun q => hCf (W.sub _ q)
      have hwD : h.objs.size ∉ wr := fun q => hDf (W.sub _ q)
      have hwbig : ∀ b, h.objs.size + 2 ≤ b → b ∉ wr := fun b hb q => by have := hfp _ (W.sub _ q); exact absurd (Nat.lt_of_lt_of_le this (Nat.le_trans (Nat.le_add_right _ 2) hb)) (Nat.lt_irrefl _)
      refine W.done _ _ _ hst' fun h₂ tk₂ hk₂ => ?_
      exact fin _ _ h₂ tk₂ m' ys.toArray (fresh _ (Nat.le_refl _)) (fresh _ (by rw [hC]; exact Nat.le_succ _)) hDC (by rw [hC]; exact Nat.lt_succ_self _) (hn'.at' fun o e => hk₂ _ o hwC e) (hpl'.at fun o e => hk₂ _ o hwD e) (stable _ _ _ _ (by simpa using hJ') fun b o hb e => hk₂ b o (hwbig b hb) e) (by rw [List.size_toArray, hyl]) fun b o hb e => hk₂ b o hb (hk' b o hb e)
  exact codeAny_compStart_list (loop _ rfl) (W.self 0 _ _ _ hst₁ (loop _ rfl))
/-- what is asked of a source of pairs: an enumerate of a list -/
noncomputable def EnSrcA (prog : Program) (w : World) (A : Around) (env : Env) (elt : Expr) (x x₂ y : Str) (scope : Scope) (cl : List (Str × Addr)) (Q : Flow → Shared → Prop) (xv : Value) (s : Shared) : Prop :=
  ∃ (e it l : Addr) (items : Array Value) (J : Nat → List Value → Heap → Prop) (m : Str → Option Value), xv = .ref e ∧ e ≠ it ∧ l ≠ e ∧ l ≠ it ∧ items.size ≤ 1000 ∧ (∃ old, IsEnum s.heap e it 0 old) ∧ s.heap.IsListIter it l 0 ∧ s.heap.IsList l items ∧ env.locals ≠ e ∧ env.locals ≠ it ∧ s.heap.Ns env.locals m ∧ (∀ h', J 0 [] h') ∧
    (∀ i ys h1 h2, J i ys h1 → (∀ b o, s.heap.objs.size + 2 ≤ b → h1.get? b = some o → h2.get? b = some o) → J i ys h2) ∧
    (∀ (C : Addr) (i : Nat) v1 v2 (ys : List Value) (h₃ : Heap) k₃ m₃ (Q' E' : Value → Shared → Prop), i < items.size → (∃ t, v1 = .int (i : Int) t ∧ items[i]? = some v2) → h₃.Ns (compEnvC scope cl C env).locals m₃ → m₃ x = some v1 → m₃ x₂ = some v2 → (∀ b o, b ∉ [e, it] → s.heap.get? b = some o → h₃.get? b = some o) → s.heap.objs.size + 2 ≤ h₃.objs.size → J i ys h₃ → ys.length = i →
      (∀ r h' k', J (i + 1) (ys ++ [r]) h' → Kp h₃ h' → Q' r { s with heap := h', toks := k' }) → wpAny (model prog w) A (eval elt (compEnvC scope cl C env)) Q' E' { s with heap := h₃, toks := k₃ }) ∧
    (∀ D h'' tk' (ys : Array Value), s.heap.get? D = none → h''.PlainList D ys → J items.size ys.toList h'' → ys.size = items.size → h''.Ns env.locals (fun z => if z = y then some (.ref D) else m z) → (∀ b o, b ≠ env.locals → b ∉ [e, it] → s.heap.get? b = some o → h''.get? b = some o) → Q .next { s with heap := h'', toks := tk' })
theorem assign_enum {elt iter : Expr} {x x₂ y : Str} {px px₂ tp pos py spos : Pos} {kk : Nat} {scope : Scope} {cl : List (Str × Addr)} {env : Env} {Q : Flow → Shared → Prop}
    (hsw : swapsWith (.ListComp elt [⟨.Tuple [.Name x px, .Name x₂ px₂] kk tp, iter, [], 0⟩] scope pos) (some (.Name y py)) spos.line env = pure true)
    (hclos : closureFor scope env = pure cl) (hcell : ∀ y ∈ scope.names, y.2 ≠ .cell) (hkind : scope.kind = .function)
    (hnames : ∀ y ∈ scope.names, y.2 = .local → scope.names.lookup y.1 = some .local) (hx : scope.names.lookup x = some .local) (hx₂ : scope.names.lookup x₂ = some .local) (hxx : x ≠ x₂) (hh : A.handled = none)
    (hy : env.kindOf y = some .local) (hp : (env.scope.kind == .class || (env.scope.kind == .module && env.locals != env.globals)) = false)
    (hsrc : wpAny (model prog w) A (eval iter env) (EnSrcA prog w A env elt x x₂ y scope cl Q) E ⟨h, gs, d, tk, os⟩)
    (hs : ∀ x, foldedSetIterable iter env x = pure x) :
    wpAny (model prog w) A (exec (.Assign [.Name y py] (.ListComp elt [⟨.Tuple [.Name x px, .Name x₂ px₂] kk tp, iter, [], 0⟩] scope pos) spos) env) Q E ⟨h, gs, d, tk, os⟩ := by
  rw [exec_Assign_Name_used _ _ _ _ hsw]
  refine wpAny_bind (wpAny_standAt (wpAny_bind ?_))
  show wpAny _ A (do let _ ← comprehension (.ListComp elt [⟨.Tuple [.Name x px, .Name x₂ px₂] kk tp, iter, [], 0⟩] scope pos) scope env _ (newList []) false (eval iter env) (some (assign (.Name y py) env))) _ _ _
  refine wpAny_bind (wpAny_mono (wpAny_comprehension_free (use := some (assign (.Name y py) env)) (Q := fun _ s' => Q .next s') rfl hs hclos hkind hnames (wpAny_mono hsrc (fun xv s₁ h₁ => ?_) fun _ _ e => e)) (fun _ s' hq => wpAny_pure (wpAny_pure hq)) fun _ _ e => e)
  obtain ⟨e, it, l, items, J, m, rfl, hei, hle, hli, hsz, ⟨old, hE⟩, hI, hL, he1, hi1, hN, hJ0, hstab, hturn, hfin⟩ := h₁
  obtain ⟨h1, g1, d1, k1, o1⟩ := s₁
  refine wpAny_pyIter_enum hE ?_
  have le := Heap.lt_size hE
  have li : it < h1.objs.size := by obtain ⟨_, q, _⟩ := hI; exact Heap.lt_size q
  have ll : l < h1.objs.size := by obtain ⟨_, q, _⟩ := hL; exact Heap.lt_size q
  have lL : env.locals < h1.objs.size := hN.lt
  refine pair_block J (WalksT.enumerate hh e it l hei hle hli items) hsz hcell hkind hx hx₂ hxx hh ⟨⟨old, hE⟩, hI, hL⟩ ?_ ?_ hJ0 hstab ?_ ?_
  · intro b hb
    simp only [List.mem_cons, List.not_mem_nil, or_false] at hb
    rcases hb with rfl | rfl | rfl
    · exact le
    · exact li
    · exact ll
  · rintro i vals ⟨t, x, _, rfl⟩
    exact ⟨_, _, rfl⟩
  · rintro C i v1 v2 ys h₃ k₃ m₃ Q' E' hi ⟨t, x', hx', hv⟩ hn hm1 hm2 hk hsz3 hJ hyl hq
    have e1 : v1 = .int (i : Int) t ∧ v2 = x' := by
      have := congrArg Array.toList hv
      simp at this
      exact this
    exact hturn C i v1 v2 ys h₃ k₃ m₃ Q' E' hi ⟨t, e1.1, e1.2 ▸ hx'⟩ hn hm1 hm2 hk hsz3 hJ hyl hq
  · intro D C h' tk' m' ys hD hC hDC hCz hn hpl hJ hyz hk
    have hLe : env.locals ∉ [e, it] := by simp [he1, hi1]
    have hLC : env.locals ≠ C := by rintro rfl; obtain ⟨o, _, _, ho, _⟩ := hN; rw [hC] at ho; cases ho
    have hLD : env.locals ≠ D := by rintro rfl; obtain ⟨o, _, _, ho, _⟩ := hN; rw [hD] at ho; cases ho
    show wpAny _ A (assign (.Name y py) env (.ref D)) _ _ _
    refine wpAny_assign_Name (wpAny_storeName_local hy (hN.at' fun o q => hk _ o hLe q) (fun h₂ hn₂ hs₂ => ?_) hp)
    refine ⟨m', hn.sameBut hs₂ (Ne.symm hLC), fun h₃ hs₃ => ?_⟩
    have hpl3 : h₃.PlainList D ys := (hpl.extBut hs₂.extBut (Ne.symm hLD)).extBut hs₃.extBut hDC
    refine hfin D h₃ _ ys hD hpl3 ?_ hyz (hn₂.sameBut hs₃ hLC) fun b o hbL hbw q => hs₃.extBut b o (by rintro rfl; rw [hC] at q; cases q) (hs₂.extBut b o hbL (hk b o hbw q))
    exact hstab _ _ _ _ hJ fun b o hb q => hs₃.extBut b o (fun z => absurd (z ▸ hb) (Nat.not_le.mpr hCz)) (hs₂.extBut b o (fun z => absurd (Nat.lt_of_lt_of_le lL (Nat.le_trans (Nat.le_add_right _ 2) hb)) (by rw [z]; exact Nat.lt_irrefl _)) q)
end
end

section
set_option maxRecDepth 100000
set_option maxHeartbeats 1000000
open PySem PySem.W PyProof.Rows PySem.Calls
theorem walks_bound {prog : Program} {w : World} {A : Around} {I : Addr} {fp wr : List Addr} {n : Nat} {P : Nat → Value → Prop} {St : Nat → Heap → Prop} (W : Walks prog w A I fp wr n P St) : Walks prog w A I fp wr n (fun i v => i < n ∧ P i v) St where
  sub := W.sub
  frame := W.frame
  item := fun i s Q E hi st hQ => W.item i s Q E hi st fun v h' tk hP hs hk => hQ v h' tk ⟨hi, hP⟩ hs hk
  done := W.done
  self := W.self
theorem paired_len {α β : Type} {F : α → β → Prop} : ∀ {l : List α} {m : List β}, Paired F l m → l.length = m.length
  | _, _, .nil => rfl
  | _, _, .cons _ t => by simp [paired_len t]
theorem paired_get {α β : Type} {F : α → β → Prop} : ∀ {l : List α} {m : List β}, Paired F l m → ∀ {i : Nat} {r : β}, m[i]? = some r → ∃ v, l[i]? = some v ∧ F v r
  | _, _, .nil, i, r, e => by simp at e
  | _, _, .cons h t, 0, r, e => by simp at e; subst e; exact ⟨_, rfl, h⟩
  | _, _, .cons h t, i + 1, r, e => by obtain ⟨v, q1, q2⟩ := paired_get t (i := i) (by simpa using e); exact ⟨v, by simpa using q1, q2⟩
section
variable {prog : Program} {w : World} {A : Around} {E : Value → Shared → Prop} {h : Heap} {gs : Array GenState} {d : Drawn} {tk : Nat} {os : OsState}
theorem slice_listK {value slice : Expr} {ops : List Value} {l : Addr} {items : Array Value} {vl vu vs : Value} {lo hi st : Option Int} {Q : Value → Shared → Prop} (hl : h.IsList l items) (pl : IsPart vl lo) (pu : IsPart vu hi) (ps : IsPart vs st) (h0 : st ≠ some 0) (hz : items.size ≤ 1000)
    (hq : ∀ h' D, Kp h h' → h.get? D = none → h'.get? D = some (listOf (slicePick items lo hi st) 0) → Q (.ref D) ⟨h', gs, d, tk, os⟩)
    (hs : subscripted slice false (.ref l) (.ref h.objs.size) = operate ops (getItem (.ref l) (.ref h.objs.size)) := by with_unfolding_all rfl)
    (hg : ∀ r, letTemporaryGo value (.ref l) r = pure () := by intro _; with_unfolding_all rfl) :
    wpAny (model prog w) A (subscriptTail value slice (.ref l) (.ref h.objs.size)) Q E ⟨h.push { cls := .type "slice", data := .fields #[vl, vu, vs] }, gs, d, tk, os⟩ := by
  have hl' : (h.push { cls := .type "slice", data := .fields #[vl, vu, vs] }).IsList l items := hl.at fun o e => Heap.get?_push_of_some _ e
  refine tail_of_ItemOn ⟨"list", _, slot_list_getitem.lookup, hl'.typeIs, wpAny_getItem_list_slice (s := ⟨h.push _, gs, d, tk, os⟩) hl' ⟨_, Heap.get?_push_size _ rfl, rfl, rfl⟩ pl pu ps h0 ?_ (by rw [sizeLine_eq]; omega)⟩ hs hg
  refine hq _ _ (fun b o e => Heap.get?_push_of_some _ (Heap.get?_push_of_some _ e)) ?_ (Heap.get?_push_size _ rfl)
  refine Heap.get?_none_of_le ?_
  show h.objs.size ≤ (h.push _).objs.size
  rw [Heap.size_push]
  exact Nat.le_succ _
theorem sum_Kp {l : Addr} {vs : List Value} {ns : List Int} {Q : Value → Shared → Prop} (hh : A.handled = none) (hl : h.IsList l vs.toArray) (hi : IntsAre vs ns)
    (hq : ∀ h' tk' t', Kp h h' → Q (.int ns.sum t') ⟨h', gs, d, tk', os⟩) :
    wpAny (model prog w) A (call (.builtin "sum") [.ref l]) Q E ⟨h, gs, d, tk, os⟩ := by
  obtain ⟨xs, hx⟩ := hi.allInts.items
  have hn : numsOf vs.toArray.toList = ns := by rw [show vs.toArray.toList = vs from rfl, hi.numsOf]
  rw [hx] at hl hn
  rw [nums_intItems] at hn
  refine sum_intListG hh hl fun h' tk t' hk => ?_
  have := hq h' tk t' hk
  rw [preSum_eq, List.take_of_length_le (by simp), hn]
  exact this
/-- a comprehension over a range, with free names, without a test -/
theorem range_free {env : Env} {elt iter : Expr} {x : Str} {px pos : Pos} {scope : Scope} {cl : List (Str × Addr)} {Q : Value → Shared → Prop} (G : Nat → Value → Prop)
    (hclos : closureFor scope env = pure cl) (hcell : ∀ y ∈ scope.names, y.2 ≠ .cell) (hkind : scope.kind = .function)
    (hnames : ∀ y ∈ scope.names, y.2 = .local → scope.names.lookup y.1 = some .local) (hx : scope.names.lookup x = some .local) (hs : ∀ x, foldedSetIterable iter env x = pure x)
    (hh : A.handled = none)
    (hiter : ∀ Q' : Value → Shared → Prop, (∀ r h1 k1 t u v, IsRange h1 r 0 4 1 t u v → Kp h h1 → Q' (.ref r) ⟨h1, gs, d, k1, os⟩) → wpAny (model prog w) A (eval iter env) Q' E ⟨h, gs, d, tk, os⟩)
    (g2 : ∀ (C : Addr) (i : Nat) (t : Tok) (h₃ : Heap) g₃ d₃ k₃ o₃ m₃ (Q' E' : Value → Shared → Prop), i < 4 → h₃.Ns (compEnvC scope cl C env).locals m₃ → m₃ x = some (.int (i : Int) t) → Kp h h₃ →
      (∀ r h' k', G i r → Kp h₃ h' → Q' r ⟨h', g₃, d₃, k', o₃⟩) → wpAny (model prog w) A (eval elt (compEnvC scope cl C env)) Q' E' ⟨h₃, g₃, d₃, k₃, o₃⟩)
    (g3 : ∀ D ys h' tk', h.get? D = none → h'.PlainList D ys → ys.size = 4 → (∀ i r, ys[i]? = some r → G i r) → Kp h h' → Q (.ref D) ⟨h', gs, d, tk', os⟩) :
    wpAny (model prog w) A (eval (.ListComp elt [⟨.Name x px, iter, [], 0⟩] scope pos) env) Q E ⟨h, gs, d, tk, os⟩ := by
  refine wpAny_ListComp_free (fun _ => true) (fun v r => ∀ (i : Nat) t, v = .int (i : Int) t → G i r) hclos hcell hkind hnames hx (hiter _ ?_) hs
  intro r h1 k1 t u v hr kk
  refine wpAny_pyIter_range hr (by decide +kernel) ?_
  have up : ∀ (h' : Heap), (∀ b o', b ∉ [h1.objs.size] → (h1.push { cls := .type "range_iterator", data := .fields #[rawInt 0, rawInt (Builtin.Range.rangeSize 0 4 1), rawInt 1] }).get? b = some o' → h'.get? b = some o') → Kp h h' :=
    fun h' hk b o' e => hk b o' (not_iter_of_old (kk _ _ e)) (Heap.get?_push_of_some _ (kk _ _ e))
  refine ⟨h1.objs.size, [h1.objs.size], [h1.objs.size], 4, _, _, rfl, walks_bound (Walks.range hh h1.objs.size 0 1 4), (by rw [sizeLine_eq]; decide), Heap.get?_push_size _ rfl, ?_, ⟨?_, ?_⟩, ?_⟩
  · intro b hb
    rw [List.mem_singleton.mp hb]
    show _ < (h1.push _).objs.size
    rw [Heap.size_push]
    exact Nat.lt_succ_self _
  · intro C i v s₃ m₃ E' _ hP hn hm hk htk
    exact wpAny_pure ⟨rfl, ⟨_, _, rfl, fun _ _ e => e⟩⟩
  · rintro C i v s₃ m₃ E' _ ⟨hi, t, rfl⟩ hp hn hm hk htk
    obtain ⟨h₃, g₃, d₃, k₃, o₃⟩ := s₃
    rw [show (0 + (i : Int) * 1) = (i : Int) by omega] at hm
    refine g2 C i t h₃ g₃ d₃ k₃ o₃ m₃ _ E' hi hn hm (up _ hk) fun r h' k' a b => ⟨?_, ⟨h', k', rfl, b⟩⟩
    intro j t' e
    have e1 := (Value.int.inj e).1
    rw [show j = i by omega]
    exact a
  · intro D h' tk' ys vs hD hl hpl hlen hP hF hk
    rw [List.filter_eq_self.mpr (fun _ _ => rfl)] at hF
    have hlen2 := paired_len hF
    refine g3 D ys h' tk' ?_ hpl (by rw [← Array.length_toList, ← hlen2, hlen]) ?_ (up h' hk)
    · cases e : h.get? D with
      | none => rfl
      | some o' => rw [Heap.get?_push_of_some _ (kk _ _ e)] at hD; cases hD
    · intro i r hr
      obtain ⟨v, hv, hG⟩ := paired_get hF (by simpa using hr)
      obtain ⟨_, t, rfl⟩ := hP i v hv
      exact hG i t (by rw [show (0 + (i : Int) * 1) = (i : Int) by omega])
end
end

section
set_option maxRecDepth 100000
set_option maxHeartbeats 1000000
open PySem PySem.W PyProof.Rows PySem.Calls
/-- a text of few signs, all below 256 -/
noncomputable def OkT (n : Nat) (x : Str) : Prop := x.length ≤ n ∧ ∀ c ∈ cpl x, c < 256
noncomputable def isT (n : Nat) (v : Value) : Prop := ∃ x t, v = .str x t ∧ OkT n x
theorem ok_mono {n m : Nat} {x : Str} (h : OkT n x) (hnm : n ≤ m) : OkT m x := ⟨Nat.le_trans h.1 hnm, h.2⟩
section
variable {prog : Program} {w : World} {A : Around} {E : Value → Shared → Prop} {s : Shared}
theorem item_of {value slice : PySem.Expr} {l : Addr} {items : Array Value} {k : Int} {u : Tok} {P : Value → Prop} {Q : Value → Shared → Prop} (hl : s.heap.IsList l items) (h0 : 0 ≤ k) (hk : k < items.size) (hz : items.size ≤ 1000)
    (hP : ∀ v ∈ items.toList, P v) (hq : ∀ v, P v → Q v s)
    (hs : subscripted slice false (.ref l) (.int k u) = operate [.ref l, .int k u] (getItem (.ref l) (.int k u)) := by with_unfolding_all rfl) :
    wpAny (model prog w) A (subscriptTail value slice (.ref l) (.int k u)) Q E s := by
  have hi : k.toNat < items.size := by omega
  refine tail_any hl.typeIs slot_list_getitem.lookup (wpAny_getItem_list hl h0 (by omega) (x := items[k.toNat]) (by simp [hi]) (hq _ (hP _ ?_))) hs
  rw [← Array.getElem_toList]
  exact List.getElem_mem _
theorem three_le : ∀ k : Nat, k < 9 → 0 < (3 : Int) ^ k ∧ (3 : Int) ^ k ≤ 6561 := by decide
theorem pow3 {n : Int} {t u : Tok} {Q : Value → Shared → Prop} (h0 : 0 ≤ n) (h1 : n ≤ 8) (hq : ∀ P : Int, 0 < P → P ≤ 6561 → Q (.int P s.toks) { s with toks := s.toks + 1 }) : wpAny (model prog w) A (binaryOp .Pow (.int 3 t) (.int n u)) Q E s :=
  pow_int_small h0 (by omega) (by decide) (hq _ (three_le _ (by omega)).1 (three_le _ (by omega)).2)
end
theorem strs_of {n : Nat} : ∀ {vs : List Value}, (∀ v ∈ vs, isT n v) → ∃ xs, StrsAre vs xs ∧ ∀ x ∈ xs, OkT n x
  | [], _ => ⟨[], .nil, fun _ h => by cases h⟩
  | v :: vs, h => by
    obtain ⟨x, t, rfl, hx⟩ := h v (.head _)
    obtain ⟨xs, e, hs⟩ := strs_of (vs := vs) fun v hv => h v (.tail _ hv)
    refine ⟨x :: xs, .cons x t e, fun y hy => ?_⟩
    rcases List.mem_cons.mp hy with rfl | hy
    · exact hx
    · exact hs y hy
theorem is_of_strs {n : Nat} {vs : List Value} {xs : List Str} (h : StrsAre vs xs) (hx : ∀ x ∈ xs, OkT n x) : ∀ v ∈ vs, isT n v := by
  induction h with
  | nil => intro v hv; cases hv
  | cons x t h ih =>
    intro v hv
    rcases List.mem_cons.mp hv with rfl | hv
    · exact ⟨x, t, rfl, hx x (.head _)⟩
    · exact ih (fun y hy => hx y (.tail _ hy)) v hv
theorem strs_snoc {vs : List Value} {xs : List Str} (h : StrsAre vs xs) (x : Str) (t : Tok) : StrsAre (vs ++ [.str x t]) (xs ++ [x]) := by
  induction h with
  | nil => exact .cons x t .nil
  | cons y u h ih => exact .cons y u ih
theorem flat_len (n : Nat) : ∀ l : List (List Nat), (∀ x ∈ l, x.length ≤ n) → l.flatten.length ≤ l.length * n
  | [], _ => by simp
  | a :: l, h => by
    have := flat_len n l fun x hx => h x (.tail _ hx)
    have := h a (.head _)
    rw [List.flatten_cons, List.length_append, List.length_cons, Nat.succ_mul]
    omega
theorem join_ok {n m k : Nat} {xs : List Str} (hx : ∀ x ∈ xs, OkT n x) (hl : xs.length = m) (hk : m * n ≤ k) : OkT k (Txt.join (Str.ofString "") xs) := by
  rw [show Str.ofString "" = Str.empty from by decide +kernel]
  have e := join_empty xs
  have e' : cpl (Txt.join Str.empty xs) = (xs.map (·.cps.toList)).flatten := e
  refine ⟨?_, ?_⟩
  · have h1 : (cpl (Txt.join Str.empty xs)).length = (Txt.join Str.empty xs).length := Array.length_toList ..
    rw [← h1, e']
    have h2 := flat_len n (xs.map (·.cps.toList)) (by
      intro y hy
      obtain ⟨x, hx', rfl⟩ := List.mem_map.mp hy
      have := (hx x hx').1
      rw [Array.length_toList]
      exact this)
    rw [List.length_map, hl] at h2
    omega
  · intro c hc
    rw [e'] at hc
    obtain ⟨l, hl', hc⟩ := List.mem_flatten.mp hc
    obtain ⟨x, hx', rfl⟩ := List.mem_map.mp hl'
    exact (hx x hx').2 c hc
theorem add_ok {n m k : Nat} {x y : Str} (hx : OkT n x) (hy : OkT m y) (hk : n + m ≤ k) : OkT k (x ++ y) := by
  refine ⟨?_, ?_⟩
  · have h1 : (x ++ y).length = x.length + y.length := by
      show (x.cps ++ y.cps).size = _
      rw [Array.size_append]
      rfl
    rw [h1]
    have := hx.1
    have := hy.1
    omega
  · intro c hc
    have : c ∈ cpl x ++ cpl y := by
      have e : cpl (x ++ y) = cpl x ++ cpl y := by show (x.cps ++ y.cps).toList = _; simp
      rwa [e] at hc
    rcases List.mem_append.mp this with h | h
    · exact hx.2 c h
    · exact hy.2 c h
theorem n1_sub : ∀ (m : List Nat), ∀ c ∈ n1 m, c ∈ m ∨ c = 13
  | [], c, h => by simp [n1] at h
  | a :: t, c, h => by
    by_cases ha : a = 13 ∧ ∃ u, t = 10 :: u
    · obtain ⟨rfl, u, rfl⟩ := ha
      rw [n1_crlf] at h
      rcases List.mem_cons.mp h with rfl | h
      · exact .inr rfl
      · rcases n1_sub u c h with h | h
        · exact .inl (.tail _ (.tail _ h))
        · exact .inr h
    · rw [n1_other ha] at h
      rcases List.mem_cons.mp h with rfl | h
      · exact .inl (.head _)
      · rcases n1_sub t c h with h | h
        · exact .inl (.tail _ h)
        · exact .inr h
termination_by m => m.length
theorem rowsOn_mem (d : Nat) : ∀ (m : List Nat), ∀ r ∈ rowsOn d m, ∀ c ∈ r, c ∈ m
  | [], r, h, c, hc => by simp [rowsOn] at h; subst h; cases hc
  | a :: t, r, h, c, hc => by
    by_cases ha : a = d
    · subst ha
      rw [rowsOn_sep] at h
      rcases List.mem_cons.mp h with rfl | h
      · cases hc
      · exact .tail _ (rowsOn_mem a t r h c hc)
    · cases hr : rowsOn d t with
      | nil => exact absurd hr (rowsOn_ne d t)
      | cons q qs =>
        rw [rowsOn_other ha hr] at h
        rcases List.mem_cons.mp h with rfl | h
        · rcases List.mem_cons.mp hc with rfl | hc
          · exact .head _
          · exact .tail _ (rowsOn_mem d t q (by rw [hr]; exact .head _) c hc)
        · exact .tail _ (rowsOn_mem d t r (by rw [hr]; exact .tail _ h) c hc)
theorem rowsS_ok {n : Nat} {x : Str} (h : OkT n x) : ∀ r ∈ rowsS x, OkT n r := by
  intro r hr
  refine ⟨Nat.le_trans (rowsS_each x r hr) h.1, ?_⟩
  obtain ⟨q, hq, rfl⟩ := List.mem_map.mp hr
  intro c hc
  have hc' : c ∈ q := by
    have : cpl (ofL q) = q := ofL_toList q
    rwa [this] at hc
  have h1 := rowsOn_mem 13 _ q hq c hc'
  unfold plain at h1
  obtain ⟨b, hb, rfl⟩ := List.mem_map.mp h1
  rcases n1_sub _ b hb with h2 | rfl
  · have := h.2 b h2
    unfold lf
    split <;> omega
  · decide
theorem rowsS_pos (x : Str) : 0 < (rowsS x).length := by
  unfold rowsS
  rw [List.length_map]
  exact List.length_pos_iff.mpr (rowsOn_ne 13 _)
end

section
set_option maxRecDepth 100000
open PySem PySem.W PyProof.Rows PySem.Calls
/-- the places in order, one put in after the other -/
noncomputable def ordS (le : Nat → Nat → Bool) (l : List Nat) (i : Nat) : List Nat := l.take (l.filter fun o => le o i).length ++ i :: l.drop (l.filter fun o => le o i).length
noncomputable def ordL (le : Nat → Nat → Bool) : Nat → List Nat
  | 0 => []
  | n + 1 => ordS le (ordL le n) n
theorem ordS_len (le : Nat → Nat → Bool) (l : List Nat) (i : Nat) : (ordS le l i).length = l.length + 1 := by
  unfold ordS
  have := List.length_filter_le (fun o => le o i) l
  rw [List.length_append, List.length_cons, List.length_take, List.length_drop]
  omega
theorem ordL_len (le : Nat → Nat → Bool) : ∀ n, (ordL le n).length = n
  | 0 => rfl
  | n + 1 => by rw [ordL, ordS_len, ordL_len le n]
theorem ordL_lt (le : Nat → Nat → Bool) : ∀ n, ∀ o ∈ ordL le n, o < n
  | 0, o, h => by simp [ordL] at h
  | n + 1, o, h => by
    unfold ordL ordS at h
    rw [List.mem_append, List.mem_cons] at h
    rcases h with h | rfl | h
    · have := ordL_lt le n o (List.mem_of_mem_take h); omega
    · omega
    · have := ordL_lt le n o (List.mem_of_mem_drop h); omega
noncomputable def leS (xs : List Str) (i j : Nat) : Bool := !decide (cpl (xs.getD j Str.empty) < cpl (xs.getD i Str.empty))
/-- what a tree of questions tells by known answers -/
noncomputable def ev {α : Type} (r : Nat → Nat → Bool) : KasT α → α
  | .ret a => a
  | .ask i j k => ev r (k (r i j))
noncomputable def asksB {α : Type} (n : Nat) : KasT α → Bool
  | .ret _ => true
  | .ask i j k => decide (i < n) && decide (j < n) && asksB n (k true) && asksB n (k false)
theorem kas_ev {α : Type} {cmp : Nat → Nat → (Bool → Shared → Prop) → Shared → Prop} {r : Nat → Nat → Bool} {n : Nat} {I : Shared → Prop} {Q : α → Shared → Prop}
    (h : ∀ i j s (C : Bool → Shared → Prop), i < n → j < n → I s → (∀ s', I s' → C (r i j) s') → cmp i j C s) :
    ∀ (t : KasT α) (s : Shared), asksB n t = true → I s → (∀ s', I s' → Q (ev r t) s') → t.kasWp cmp Q s
  | .ret a, s, _, hI, hq => hq s hI
  | .ask i j k, s, hb, hI, hq => by
    simp only [asksB, Bool.and_eq_true, decide_eq_true_eq] at hb
    obtain ⟨⟨⟨h1, h2⟩, h3⟩, h4⟩ := hb
    show cmp i j _ s
    refine h i j s _ h1 h2 hI fun s' hI' => ?_
    have hk : asksB n (k (r i j)) = true := by cases r i j with
      | true => exact h3
      | false => exact h4
    exact kas_ev h (k (r i j)) s' hk hI' hq
theorem ev_congr {α : Type} {r r' : Nat → Nat → Bool} {n : Nat} (h : ∀ i j, i < n → j < n → r i j = r' i j) : ∀ t : KasT α, asksB n t = true → ev r t = ev r' t
  | .ret a, _ => rfl
  | .ask i j k, hb => by
    simp only [asksB, Bool.and_eq_true, decide_eq_true_eq] at hb
    obtain ⟨⟨⟨h1, h2⟩, h3⟩, h4⟩ := hb
    show ev r (k (r i j)) = ev r' (k (r' i j))
    rw [h i j h1 h2]
    refine ev_congr h (k (r' i j)) ?_
    cases r' i j with
    | true => exact h3
    | false => exact h4
theorem asks5 : asksB 5 (kas_sort 5) = true := by decide +kernel
noncomputable def rk (a b c d e : Nat) : Nat → Nat
  | 0 => a
  | 1 => b
  | 2 => c
  | 3 => d
  | _ => e
noncomputable def cand : List (Nat → Nat) := (List.range 5).flatMap fun a => (List.range 5).flatMap fun b => (List.range 5).flatMap fun c => (List.range 5).flatMap fun d => (List.range 5).map fun e => rk a b c d e
noncomputable def okL : List Nat → List Nat → Bool
  | [], [] => true
  | a :: l, b :: m => Nat.beq a b && okL l m
  | _, _ => false
theorem okL_eq : ∀ {l m : List Nat}, okL l m = true → l = m
  | [], [], _ => rfl
  | a :: l, b :: m, h => by
    simp only [okL, Bool.and_eq_true] at h
    rw [Nat.eq_of_beq_eq_true h.1, okL_eq h.2]
  | [], _ :: _, h => by simp [okL] at h
  | _ :: _, [], h => by simp [okL] at h
noncomputable def cnt (f : Nat → Nat) (i : Nat) : Nat → Nat
  | 0 => 0
  | n + 1 => cond (Nat.ble (f i) (f n)) (cnt f i n) (Nat.succ (cnt f i n))
noncomputable def can (f : Nat → Nat) : Bool := Nat.beq (f 0) (cnt f 0 5) && (Nat.beq (f 1) (cnt f 1 5) && (Nat.beq (f 2) (cnt f 2 5) && (Nat.beq (f 3) (cnt f 3 5) && Nat.beq (f 4) (cnt f 4 5))))
noncomputable def cand2 : List (Nat → Nat) := cand.filter can
noncomputable def chk : KasT (Array Nat) → List (Nat → Nat) → Bool
  | .ret _, [] => true
  | .ask _ _ _, [] => true
  | .ret p, l => l.all fun f => okL p.toList (ordL (fun i j => Nat.ble (f i) (f j)) 5)
  | .ask i j k, l => chk (k true) (l.filter fun f => !Nat.ble (f j) (f i)) && chk (k false) (l.filter fun f => Nat.ble (f j) (f i))
theorem chk_all : chk (kas_sort 5) cand2 = true := by decide +kernel
theorem chk_ret (p : Array Nat) (l : List (Nat → Nat)) : chk (.ret p) l = true → ∀ f ∈ l, okL p.toList (ordL (fun i j => Nat.ble (f i) (f j)) 5) = true := by
  intro h f hf
  cases l with
  | nil => cases hf
  | cons a l =>
    have h' : ((a :: l).all fun f => okL p.toList (ordL (fun i j => Nat.ble (f i) (f j)) 5)) = true := h
    exact List.all_eq_true.mp h' f hf
theorem chk_ask (i j : Nat) (k : Bool → KasT (Array Nat)) (l : List (Nat → Nat)) (f : Nat → Nat) (hf : f ∈ l) (h : chk (.ask i j k) l = true) :
    chk (k true) (l.filter fun f => !Nat.ble (f j) (f i)) = true ∧ chk (k false) (l.filter fun f => Nat.ble (f j) (f i)) = true := by
  cases l with
  | nil => cases hf
  | cons a l =>
    have h' : (chk (k true) ((a :: l).filter fun f => !Nat.ble (f j) (f i)) && chk (k false) ((a :: l).filter fun f => Nat.ble (f j) (f i))) = true := h
    exact Bool.and_eq_true_iff.mp h'
theorem chk_sound (f : Nat → Nat) : ∀ (t : KasT (Array Nat)) (l : List (Nat → Nat)), chk t l = true → f ∈ l → (ev (fun i j => !Nat.ble (f j) (f i)) t).toList = ordL (fun i j => Nat.ble (f i) (f j)) 5
  | .ret p, l, h, hf => okL_eq (chk_ret p l h f hf)
  | .ask i j k, l, h, hf => by
    obtain ⟨h1, h2⟩ := chk_ask i j k l f hf h
    show (ev _ (k (!Nat.ble (f j) (f i)))).toList = _
    cases hb : Nat.ble (f j) (f i) with
    | true => exact chk_sound f (k false) _ h2 (List.mem_filter.mpr ⟨hf, hb⟩)
    | false => exact chk_sound f (k true) _ h1 (List.mem_filter.mpr ⟨hf, by rw [hb]; rfl⟩)
theorem ordL_congr {le le' : Nat → Nat → Bool} : ∀ n, (∀ i j, i < n → j < n → le i j = le' i j) → ordL le n = ordL le' n
  | 0, _ => rfl
  | n + 1, h => by
    have ih := ordL_congr n fun i j hi hj => h i j (Nat.lt_succ_of_lt hi) (Nat.lt_succ_of_lt hj)
    have e : (ordL le n).filter (fun o => le o n) = (ordL le n).filter (fun o => le' o n) :=
      List.filter_congr fun o ho => h o n (Nat.lt_succ_of_lt (ordL_lt le n o ho)) (Nat.lt_succ_self n)
    show ordS le (ordL le n) n = ordS le' (ordL le' n) n
    unfold ordS
    rw [e, ih]
noncomputable def cN (lt : Nat → Nat → Bool) (i : Nat) : Nat → Nat
  | 0 => 0
  | n + 1 => cond (lt n i) (Nat.succ (cN lt i n)) (cN lt i n)
section
variable {lt : Nat → Nat → Bool} (hA : ∀ i j, lt i j = true → lt j i = false) (hN : ∀ i j k, lt i j = false → lt j k = false → lt i k = false)
include hA hN
theorem cN_mono {i j : Nat} (h : lt i j = false) : ∀ n, cN lt j n ≤ cN lt i n
  | 0 => Nat.le_refl _
  | n + 1 => by
    have ih := cN_mono h n
    show cond (lt n j) _ _ ≤ cond (lt n i) _ _
    cases h1 : lt n j with
    | false =>
      cases lt n i with
      | false => exact ih
      | true => exact Nat.le_succ_of_le ih
    | true =>
      cases h2 : lt n i with
      | false => have := hN n i j h2 h; rw [h1] at this; cases this
      | true => exact Nat.succ_le_succ ih
theorem cN_strict {i j : Nat} (h : lt i j = true) : ∀ n, i < n → cN lt i n < cN lt j n
  | 0, q => absurd q (Nat.not_lt_zero _)
  | n + 1, q => by
    have hm := cN_mono hA hN (hA _ _ h) n
    show cond (lt n i) _ _ < cond (lt n j) _ _
    rcases Nat.lt_succ_iff_lt_or_eq.mp q with q | rfl
    · have ih := cN_strict h n q
      cases h1 : lt n i with
      | false =>
        cases lt n j with
        | false => exact ih
        | true => exact Nat.lt_succ_of_lt ih
      | true =>
        cases h2 : lt n j with
        | false => have := hN n j i h2 (hA _ _ h); rw [h1] at this; cases this
        | true => exact Nat.succ_lt_succ ih
    · have h1 : lt i i = false := by
        cases q : lt i i with
        | false => rfl
        | true => have := hA _ _ q; rw [q] at this; cases this
      rw [h1, h]
      exact Nat.lt_succ_of_le hm
theorem cN_lt {i : Nat} : ∀ n, cN lt i n ≤ n ∧ (i < n → cN lt i n < n)
  | 0 => ⟨Nat.le_refl _, fun q => absurd q (Nat.not_lt_zero _)⟩
  | n + 1 => by
    obtain ⟨h1, h2⟩ := cN_lt (i := i) n
    have e : cN lt i (n + 1) ≤ cN lt i n + 1 := by
      show cond (lt n i) _ _ ≤ _
      cases lt n i
      · exact Nat.le_succ _
      · exact Nat.le_refl _
    refine ⟨by omega, fun q => ?_⟩
    rcases Nat.lt_succ_iff_lt_or_eq.mp q with q | rfl
    · have := h2 q; omega
    · have h3 : lt i i = false := by
        cases q : lt i i with
        | false => rfl
        | true => have := hA _ _ q; rw [q] at this; cases this
      have e2 : cN lt i (i + 1) = cN lt i i := by show cond (lt i i) _ _ = _; rw [h3]; rfl
      omega
theorem lt_cN {i j : Nat} (hi : i < 5) : lt i j = !Nat.ble (cN lt j 5) (cN lt i 5) := by
  cases h : lt i j with
  | true =>
    have := cN_strict hA hN h 5 hi
    cases q : Nat.ble (cN lt j 5) (cN lt i 5) with
    | false => rfl
    | true => exact absurd (Nat.le_of_ble_eq_true q) (by omega)
  | false =>
    have := cN_mono hA hN h 5
    rw [Nat.ble_eq_true_of_le this]
    rfl
noncomputable def rkN (lt : Nat → Nat → Bool) : Nat → Nat := rk (cN lt 0 5) (cN lt 1 5) (cN lt 2 5) (cN lt 3 5) (cN lt 4 5)
omit hA hN in
theorem rkN_at {i : Nat} (hi : i < 5) : rkN lt i = cN lt i 5 := by
  match i, hi with
  | 0, _ => rfl
  | 1, _ => rfl
  | 2, _ => rfl
  | 3, _ => rfl
  | 4, _ => rfl
theorem cnt_rkN {i : Nat} (hi : i < 5) : ∀ n, n ≤ 5 → cnt (rkN lt) i n = cN lt i n
  | 0, _ => rfl
  | n + 1, h => by
    show cond (Nat.ble (rkN lt i) (rkN lt n)) _ _ = cond (lt n i) _ _
    rw [rkN_at hi, rkN_at (by omega), lt_cN hA hN (i := n) (j := i) (by omega), cnt_rkN hi n (by omega)]
    cases Nat.ble (cN lt i 5) (cN lt n 5) <;> rfl
theorem rkN_mem : rkN lt ∈ cand2 := by
  refine List.mem_filter.mpr ⟨?_, ?_⟩
  · unfold cand
    have r : ∀ i, i < 5 → cN lt i 5 ∈ List.range 5 := fun i hi => List.mem_range.mpr ((cN_lt hA hN 5).2 hi)
    refine List.mem_flatMap.mpr ⟨_, r 0 (by decide), List.mem_flatMap.mpr ⟨_, r 1 (by decide), List.mem_flatMap.mpr ⟨_, r 2 (by decide), List.mem_flatMap.mpr ⟨_, r 3 (by decide), List.mem_map.mpr ⟨_, r 4 (by decide), rfl⟩⟩⟩⟩⟩
  · have e : ∀ i, i < 5 → Nat.beq (rkN lt i) (cnt (rkN lt) i 5) = true := fun i hi => by rw [cnt_rkN hA hN hi 5 (Nat.le_refl _), rkN_at hi]; exact Nat.beq_refl _
    unfold can
    rw [e 0 (by decide), e 1 (by decide), e 2 (by decide), e 3 (by decide), e 4 (by decide)]
    rfl
/-- the sort's answer, as the law puts it -/
theorem ev_ord : (ev lt (kas_sort 5)).toList = ordL (fun i j => !lt j i) 5 := by
  have h1 := chk_sound (rkN lt) (kas_sort 5) cand2 chk_all (rkN_mem hA hN)
  rw [ev_congr (r := lt) (r' := fun i j => !Nat.ble (rkN lt j) (rkN lt i)) (n := 5) (fun i j hi hj => by
    show lt i j = !Nat.ble (rkN lt j) (rkN lt i)
    rw [rkN_at hi, rkN_at hj]; exact lt_cN hA hN hi) _ asks5, h1]
  refine ordL_congr 5 fun i j hi hj => ?_
  show Nat.ble (rkN lt i) (rkN lt j) = !lt j i
  rw [lt_cN hA hN (i := j) (j := i) hj, rkN_at hi, rkN_at hj, Bool.not_not]
end
theorem ev_texts (xs : List Str) : (ev (fun i j => decide (cpl (xs.getD i Str.empty) < cpl (xs.getD j Str.empty))) (kas_sort 5)).toList = ordL (leS xs) 5 := by
  refine ev_ord ?_ ?_
  · intro i j h
    have h := of_decide_eq_true h
    exact decide_eq_false fun q => lt_asym h q
  · intro i j k h1 h2
    have h1 := List.not_lt.mp (of_decide_eq_false h1)
    have h2 := List.not_lt.mp (of_decide_eq_false h2)
    exact decide_eq_false (List.not_lt.mpr (List.le_trans h2 h1))
end

section
set_option maxRecDepth 100000
set_option maxHeartbeats 1000000
open PySem PySem.W PyProof.Rows PySem.Calls
noncomputable def wn : Nat → Str
  | 0 => Str.ofString "ends"
  | 1 => Str.ofString "dots"
  | _ => Str.ofString "both"
/-- what a writer writes of a mail -/
noncomputable def wL : Nat → List Nat → List Nat
  | 0, m => fx m
  | 1, m => qd true m
  | _, m => qd true (fx m)
/-- the mail as the law orders it -/
noncomputable def pL : Nat → List Nat → List Nat
  | 1, m => m
  | _, m => plain m
noncomputable def Wt (k : Nat) (x : Str) : Str := ofL (wL k (cpl x))
noncomputable def Pl (k : Nat) (x : Str) : Str := ofL (pL k (cpl x))
theorem cpl_ofL (l : List Nat) : cpl (ofL l) = l := ofL_toList l
theorem ofL_cpl (x : Str) : ofL (cpl x) = x := str_ext (ofL_toList _)
theorem wL_lt (k : Nat) (a b : List Nat) : wL k a < wL k b ↔ pL k a < pL k b := by
  match k with
  | 0 =>
    show fx a < fx b ↔ plain a < plain b
    rw [fx_eq, fx_eq, ex_lt]
  | 1 => exact qd_lt true a b
  | k + 2 =>
    show qd true (fx a) < qd true (fx b) ↔ plain a < plain b
    rw [qd_lt, fx_eq, fx_eq, ex_lt]
theorem Wt_lt (k : Nat) (x y : Str) : cpl (Wt k x) < cpl (Wt k y) ↔ cpl (Pl k x) < cpl (Pl k y) := by
  unfold Wt Pl
  rw [cpl_ofL, cpl_ofL, cpl_ofL, cpl_ofL]
  exact wL_lt k _ _
theorem told_eq (k : Nat) (x y : Str) : told (Wt k x) (Wt k y) = told (Pl k x) (Pl k y) := toldL_congr (Wt_lt k x y) (Wt_lt k y x)
theorem order_eq (k : Nat) {xs : List Str} {n : Nat} (hx : xs.length = n) : ordL (leS (xs.map (Wt k))) n = ordL (leS (xs.map (Pl k))) n := by
  refine ordL_congr n fun i j hi hj => ?_
  unfold leS
  have e1 : ∀ (f : Str → Str) (i : Nat), i < n → (xs.map f).getD i Str.empty = f (xs.getD i Str.empty) := by
    intro f i hi
    have : i < xs.length := by omega
    simp [this]
  rw [e1 _ _ hi, e1 _ _ hj, e1 _ _ hi, e1 _ _ hj]
  congr 1
  exact decide_eq_decide.mpr (Wt_lt k _ _)
theorem mem_fx : ∀ (m : List Nat) (c : Nat), c ∈ fx m → c ∈ m ∨ c = 13 ∨ c = 10 := by
  intro m c h
  rw [fx_eq] at h
  unfold ex at h
  obtain ⟨a, ha, hc⟩ := List.mem_flatMap.mp h
  unfold ex1 at hc
  split at hc
  · simp at hc
    rcases hc with rfl | rfl
    · exact .inr (.inl rfl)
    · exact .inr (.inr rfl)
  · rw [List.mem_singleton.mp hc]
    unfold plain at ha
    obtain ⟨b, hb, rfl⟩ := List.mem_map.mp ha
    unfold lf
    split
    · exact .inr (.inl rfl)
    · rcases n1_sub m b hb with h | h
      · exact .inl h
      · exact .inr (.inl h)
theorem mem_qd : ∀ (b : Bool) (m : List Nat) (c : Nat), c ∈ qd b m → c ∈ m ∨ c = 46
  | b, [], c, h => by rw [qd_nil] at h; cases h
  | b, a :: t, c, h => by
    rw [qd_cons] at h
    split at h
    · rcases List.mem_cons.mp h with rfl | h
      · exact .inr rfl
      · rcases List.mem_cons.mp h with rfl | h
        · exact .inr rfl
        · rcases mem_qd _ t c h with h | h
          · exact .inl (.tail _ h)
          · exact .inr h
    · rcases List.mem_cons.mp h with rfl | h
      · exact .inl (.head _)
      · rcases mem_qd _ t c h with h | h
        · exact .inl (.tail _ h)
        · exact .inr h
theorem wL_ok (k : Nat) {m : List Nat} (h : ∀ c ∈ m, c < 256) : ∀ c ∈ wL k m, c < 256 := by
  intro c hc
  match k with
  | 0 =>
    rcases mem_fx m c hc with h' | rfl | rfl
    · exact h c h'
    · decide
    · decide
  | 1 =>
    rcases mem_qd true m c hc with h' | rfl
    · exact h c h'
    · decide
  | k + 2 =>
    rcases mem_qd true (fx m) c hc with h' | rfl
    · rcases mem_fx m c h' with h' | rfl | rfl
      · exact h c h'
      · decide
      · decide
    · decide
theorem Wt_ok (k : Nat) {x : Str} {n : Nat} (h : OkT n x) : PyData.strOk (Wt k x) = true := by
  unfold PyData.strOk
  rw [← Array.all_toList, List.all_eq_true]
  intro c hc
  have hc' : c ∈ wL k (cpl x) := by
    have := cpl_ofL (wL k (cpl x))
    rwa [← this]
  have := wL_ok k h.2 c hc'
  exact decide_eq_true (by omega)
theorem Pl_len (k : Nat) (x : Str) : (Pl k x).length ≤ x.length := by
  have e : (cpl (Pl k x)).length = (Pl k x).length := Array.length_toList ..
  have e2 : (cpl x).length = x.length := Array.length_toList ..
  rw [← e, ← e2]
  unfold Pl
  rw [cpl_ofL]
  match k with
  | 0 => exact plain_length _
  | 1 => exact Nat.le_refl _
  | k + 2 => exact plain_length _
section
variable {w : World} {p : Program} {loose : List Str} {mean : ExcName → Option Value} {mg mb : Str → Option Value} {A : Around} {h : Heap} {gs : Array GenState} {d : Drawn} {tk : Nat} {os : OsState} {Q E : Value → Shared → Prop}
theorem pc_written {k : Nat} {x : Str} {t u : Tok} (hk : k < 3) (B : Bs w p loose mean mg mb h) (hA : A.depth ≤ 890) (hh : A.handled = none) (hx : OkT 400 x)
    (hQ : ∀ h' tk' t', Kp h h' → Q (.str (Wt k x) t') ⟨h', gs, d, tk', os⟩) :
    wpAny (model thePr w) A (call (.ref 180) [.str (wn k) u, .str x t]) Q E ⟨h, gs, d, tk, os⟩ := by
  match k, hk, hQ with
  | 0, _, hQ => exact pc_writtenE B hA hx.1 hQ
  | 1, _, hQ => exact pc_writtenD B hA hh hx.1 hx.2 hQ
  | 2, _, hQ => exact pc_writtenB B hA hx.1 hQ
theorem pc_due {k : Nat} {x : Str} {t u : Tok} (hk : k < 3) (B : Bs w p loose mean mg mb h) (hA : A.depth ≤ 890) (hh : A.handled = none) (hx : OkT 400 x)
    (hQ : ∀ h' tk' t', Kp h h' → Q (.str (Wt k x) t') ⟨h', gs, d, tk', os⟩) :
    wpAny (model thePr w) A (call (.ref 187) [.str (wn k) u, .str x t]) Q E ⟨h, gs, d, tk, os⟩ := by
  have hx1 : x.length ≤ 1000 := Nat.le_trans hx.1 (by decide)
  match k, hk, hQ with
  | 0, _, hQ => exact pc_dueE B hA hh hx1 hQ
  | 1, _, hQ => exact pc_dueD B hA hh hx1 hQ
  | 2, _, hQ => exact pc_dueB B hA hh hx1 hQ
theorem pc_plain_k {k : Nat} {x : Str} {t u : Tok} (hk : k < 3) (B : Bs w p loose mean mg mb h) (hA : A.depth ≤ 890) (hh : A.handled = none) (hx : OkT 400 x)
    (hQ : ∀ h' tk' t', Kp h h' → Q (.str (Pl k x) t') ⟨h', gs, d, tk', os⟩) :
    wpAny (model thePr w) A (call (.ref 194) [.str (wn k) u, .str x t]) Q E ⟨h, gs, d, tk, os⟩ := by
  have hx1 : x.length ≤ 1000 := Nat.le_trans hx.1 (by decide)
  match k, hk, hQ with
  | 0, _, hQ => exact pc_plain _ (.inl rfl) B hA hh hx1 hQ
  | 1, _, hQ =>
    refine pc_plainD B hA fun h' tk' kk => ?_
    have := hQ h' tk' t kk
    rwa [show Pl 1 x = x from ofL_cpl x] at this
  | 2, _, hQ => exact pc_plain _ (.inr rfl) B hA hh hx1 hQ
end
end

section
set_option maxRecDepth 100000
set_option maxHeartbeats 1000000
open PySem PySem.W PyProof.Rows PySem.Calls
/-- all stands but at L and at the places of ex -/
noncomputable def Kb (ex : List Addr) (L : Addr) (h h' : Heap) : Prop := ∀ b o, b ≠ L → b ∉ ex → h.get? b = some o → h'.get? b = some o
theorem absorb {g h : Heap} {L : Addr} {m : Str → Option Value} (F : Fr g L h m) (ex : List Addr) :
    ∃ rest : List (Addr × Obj), News g L h rest ∧ (∀ q ∈ rest, q.1 ∉ ex) ∧ (∀ h' m', Fr g L h' m' → News g L h' rest → Kb ex L h h') := by
  refine ⟨(List.range h.objs.size).filterMap fun a => match h.get? a with
    | some o => if a = L ∨ a ∈ ex ∨ (g.get? a).isSome = true then none else some (a, o)
    | none => none, ?_, ?_, ?_⟩
  · intro q hq
    obtain ⟨a, _, e⟩ := List.mem_filterMap.mp hq
    split at e
    · rename_i o ho
      split at e
      · cases e
      · rename_i hn
        cases e
        refine ⟨ho, fun z => hn (.inl z), ?_⟩
        cases z : g.get? a with
        | none => rfl
        | some o' => exact absurd (.inr (.inr (by rw [z]; rfl))) hn
    · cases e
  · intro q hq
    obtain ⟨a, _, e⟩ := List.mem_filterMap.mp hq
    split at e
    · rename_i o ho
      split at e
      · cases e
      · rename_i hn
        cases e
        exact fun z => hn (.inr (.inl z))
    · cases e
  · intro h' m' F' N' b o hL hex ho
    cases z : g.get? b with
    | some o' =>
      have := F.keep _ _ z
      rw [this] at ho
      cases ho
      exact F'.keep _ _ z
    | none =>
      refine (N' (b, o) (List.mem_filterMap.mpr ⟨b, List.mem_range.mpr (Heap.lt_size ho), ?_⟩)).1
      rw [ho]
      dsimp only
      rw [if_neg]
      rintro (q | q | q)
      · exact hL q
      · exact hex q
      · rw [z] at q; cases q
theorem strs_all {vs : List Value} {xs : List Str} (h : StrsAre vs xs) : ∀ v ∈ vs, ∃ x t, v = Value.str x t := by
  induction h with
  | nil => intro v hv; cases hv
  | cons x t h ih =>
    intro v hv
    rcases List.mem_cons.mp hv with rfl | hv
    · exact ⟨x, t, rfl⟩
    · exact ih v hv
section
variable {prog : Program} {w : World} {A : Around} {E : Value → Shared → Prop} {s : Shared} {a b : Addr} {xs ys : List Value} {Q : Value → Shared → Prop}
theorem st_canLay : ∀ ns : List Str, (∀ x ∈ ns, PyData.strOk x = true) → PyData.canLayAll0 (ns.map PyData.str) = true
  | [], _ => rfl
  | x :: r, h => by simp [PyData.canLayAll0, PyData.canLay0, h x (.head _), st_canLay r fun y hy => h y (.tail _ hy)]
theorem st_depth : ∀ ns : List Str, PyData.depthAll (ns.map PyData.str) = 0
  | [] => rfl
  | _ :: r => by simp [PyData.depthAll, PyData.depth, st_depth r]
theorem st_shaped (ns : List Str) (h : ∀ x ∈ ns, PyData.strOk x = true) : SeqAt.shaped (.list (ns.map PyData.str)) = true := by
  simp [SeqAt.shaped, PyData.canLay0, PyData.depth, st_canLay ns h, st_depth]
theorem st_carried : ∀ {vs : List Value} {ns : List Str}, StrsAre vs ns → CarriedAll vs (ns.map PyData.str)
  | _, _, .nil => .nil
  | _, _, .cons _ t r => .cons (.str _ t) (st_carried r)
theorem bl_canLay : ∀ ns : List Bool, PyData.canLayAll0 (ns.map PyData.bool) = true
  | [] => rfl
  | _ :: r => by simp [PyData.canLayAll0, PyData.canLay0, bl_canLay r]
theorem bl_depth : ∀ ns : List Bool, PyData.depthAll (ns.map PyData.bool) = 0
  | [] => rfl
  | _ :: r => by simp [PyData.depthAll, PyData.depth, bl_depth r]
theorem bl_shaped (ns : List Bool) : SeqAt.shaped (.list (ns.map PyData.bool)) = true := by
  simp [SeqAt.shaped, PyData.canLay0, PyData.depth, bl_canLay, bl_depth]
theorem bl_carried : ∀ ns : List Bool, CarriedAll (ns.map Value.bool) (ns.map PyData.bool)
  | [] => .nil
  | _ :: r => .cons (.bool _) (bl_carried r)
theorem ne_strs {ns : List Str} (hok : ∀ x ∈ ns, PyData.strOk x = true) (ha : s.heap.IsList a xs.toArray) (hb : s.heap.IsList b ys.toArray) (hi : StrsAre xs ns) (hj : StrsAre ys ns) (hu : A.units + 64 < cLine) (h : Q (.bool false) s) :
    wpAny (model prog w) A (compareOp .NotEq (.ref a) (.ref b)) Q E s :=
  ne_dataH_same (reads_newData ha (st_carried hi)) (reads_newData hb (st_carried hj)) (st_shaped _ hok) (st_shaped _ hok) hu (SeqAt.noMix_of_shape (.list .str) rfl _ _ (list_map_has fun _ => rfl) (list_map_has fun _ => rfl)) (by rw [PySem.Spec.same_self]; exact h)
theorem ne_bools {ns : List Bool} (ha : s.heap.IsList a (ns.map Value.bool).toArray) (hb : s.heap.IsList b (ns.map Value.bool).toArray) (hu : A.units + 64 < cLine) (h : Q (.bool false) s) :
    wpAny (model prog w) A (compareOp .NotEq (.ref a) (.ref b)) Q E s :=
  ne_dataH_same (reads_newData ha (bl_carried ns)) (reads_newData hb (bl_carried ns)) (bl_shaped _) (bl_shaped _) hu (SeqAt.noMix_of_shape (.list .bool) rfl _ _ (list_map_has fun _ => rfl) (list_map_has fun _ => rfl)) (by rw [PySem.Spec.same_self]; exact h)
theorem ne_ints {ns : List Int} (ha : s.heap.IsList a xs.toArray) (hb : s.heap.IsList b ys.toArray) (hi : IntsAre xs ns) (hj : IntsAre ys ns) (hu : A.units + 64 < cLine) (h : Q (.bool false) s) :
    wpAny (model prog w) A (compareOp .NotEq (.ref a) (.ref b)) Q E s :=
  ke_ne_ints ha hb hi hj hu (by simpa using h)
theorem item_at {value slice : PySem.Expr} {l : Addr} {items : Array Value} {k : Int} {u : Tok} {v : Value} (hl : s.heap.IsList l items) (h0 : 0 ≤ k) (h1 : k ≤ 1000) (hv : items[k.toNat]? = some v) (hq : Q v s)
    (hs : subscripted slice false (.ref l) (.int k u) = operate [.ref l, .int k u] (getItem (.ref l) (.int k u)) := by with_unfolding_all rfl) :
    wpAny (model prog w) A (subscriptTail value slice (.ref l) (.int k u)) Q E s :=
  tail_any hl.typeIs slot_list_getitem.lookup (wpAny_getItem_list hl h0 (by omega) hv hq) hs
theorem tup_at1 {value slice : PySem.Expr} {t : Addr} {x y : Value} {u : Tok} (ht : IsTup s.heap t #[x, y]) (hq : Q y s)
    (hs : subscripted slice false (.ref t) (.int 1 u) = operate [.ref t, .int 1 u] (getItem (.ref t) (.int 1 u)) := by with_unfolding_all rfl) :
    wpAny (model prog w) A (subscriptTail value slice (.ref t) (.int 1 u)) Q E s :=
  tail_any ht.typeIs slot_tuple_getitem.lookup (getItem_tuple ht (by decide) (by decide) (j := 1) rfl rfl hq) hs
end
section
variable {prog : Program} {w : World} {A : Around} {E : Value → Shared → Prop} {h : Heap} {gs : Array GenState} {d : Drawn} {tk : Nat} {os : OsState}
theorem slice_listA {value slice : Expr} {ops : List Value} {l : Addr} {items : Array Value} {vl vu vs : Value} {lo hi st : Option Int} {Q : Value → Shared → Prop} (hl : h.IsList l items) (pl : IsPart vl lo) (pu : IsPart vu hi) (ps : IsPart vs st) (h0 : st ≠ some 0) (hz : items.size ≤ 1000)
    (hq : ∀ h' D, Kp h h' → h.get? D = none → h'.get? D = some (listOf (slicePick items lo hi st) 0) → Q (.ref D) ⟨h', gs, d, tk, os⟩)
    (hs : subscripted slice false (.ref l) (.ref h.objs.size) = operate ops (getItem (.ref l) (.ref h.objs.size)) := by with_unfolding_all rfl) :
    wpAny (model prog w) A (subscriptTail value slice (.ref l) (.ref h.objs.size)) Q E ⟨h.push { cls := .type "slice", data := .fields #[vl, vu, vs] }, gs, d, tk, os⟩ := by
  have hl' : (h.push { cls := .type "slice", data := .fields #[vl, vu, vs] }).IsList l items := hl.at fun o e => Heap.get?_push_of_some _ e
  refine tail_any hl'.typeIs slot_list_getitem.lookup (wpAny_getItem_list_slice (s := ⟨h.push _, gs, d, tk, os⟩) hl' ⟨_, Heap.get?_push_size _ rfl, rfl, rfl⟩ pl pu ps h0 ?_ (by rw [sizeLine_eq]; omega)) hs
  refine hq _ _ (fun b o e => Heap.get?_push_of_some _ (Heap.get?_push_of_some _ e)) ?_ (Heap.get?_push_size _ rfl)
  refine Heap.get?_none_of_le ?_
  show h.objs.size ≤ (h.push _).objs.size
  rw [Heap.size_push]
  exact Nat.le_succ _
/-- a name gets a comprehension over a list, without a test, with free names -/
theorem assign_list {env : Env} {elt iter : Expr} {x y : Str} {px py pos spos : Pos} {scope : Scope} {cl : List (Str × Addr)} {Q : Flow → Shared → Prop} {l : Addr} {vs : List Value} {m : Str → Option Value} (G : Value → Value → Prop)
    (hsw : swapsWith (.ListComp elt [⟨.Name x px, iter, [], 0⟩] scope pos) (some (.Name y py)) spos.line env = pure true)
    (hclos : closureFor scope env = pure cl) (hcell : ∀ z ∈ scope.names, z.2 ≠ .cell) (hkind : scope.kind = .function)
    (hnames : ∀ z ∈ scope.names, z.2 = .local → scope.names.lookup z.1 = some .local) (hx : scope.names.lookup x = some .local)
    (hy : env.kindOf y = some .local) (hp : (env.scope.kind == .class || (env.scope.kind == .module && env.locals != env.globals)) = false)
    (hs : ∀ x, foldedSetIterable iter env x = pure x) (hh : A.handled = none)
    (hiter : ∀ Q' : Value → Shared → Prop, Q' (.ref l) ⟨h, gs, d, tk, os⟩ → wpAny (model prog w) A (eval iter env) Q' E ⟨h, gs, d, tk, os⟩)
    (hl : h.IsList l vs.toArray) (hsz : vs.length ≤ sizeLine) (hns : h.Ns env.locals m)
    (g2 : ∀ (C : Addr) (i : Nat) (v : Value) (h₃ : Heap) g₃ d₃ k₃ o₃ m₃ (Q' E' : Value → Shared → Prop), vs[i]? = some v → h₃.Ns (compEnvC scope cl C env).locals m₃ → m₃ x = some v → Kp h h₃ →
      (∀ r h' k', G v r → Kp h₃ h' → Q' r ⟨h', g₃, d₃, k', o₃⟩) → wpAny (model prog w) A (eval elt (compEnvC scope cl C env)) Q' E' ⟨h₃, g₃, d₃, k₃, o₃⟩)
    (g3 : ∀ D ys h' tk', h.get? D = none → h'.PlainList D ys → Paired G vs ys.toList → h'.Ns env.locals (fun z => if z = y then some (.ref D) else m z) → (∀ b o, b ≠ env.locals → h.get? b = some o → h'.get? b = some o) → Q .next ⟨h', gs, d, tk', os⟩) :
    wpAny (model prog w) A (exec (.Assign [.Name y py] (.ListComp elt [⟨.Name x px, iter, [], 0⟩] scope pos) spos) env) Q E ⟨h, gs, d, tk, os⟩ := by
  refine wpAny_Assign_ListComp_free (fun _ => true) G hsw hclos hcell hkind hnames hx hy hp (hiter _ ?_) hs
  have hlt : l < h.objs.size := by obtain ⟨_, e, _⟩ := hl; exact Heap.lt_size e
  have hLt : env.locals < h.objs.size := hns.lt
  refine wpAny_pyIter_list hl ?_
  have up : ∀ (h' : Heap), (∀ b o', b ∉ [h.objs.size] → (h.push { cls := .type "list_iterator", data := .fields #[.ref l, .int 0 0] }).get? b = some o' → h'.get? b = some o') → Kp h h' :=
    fun h' hk b o' e => hk b o' (not_iter_of_old e) (Heap.get?_push_of_some _ e)
  refine ⟨h.objs.size, [h.objs.size, l], [h.objs.size], vs.toArray.size, _, _, m, rfl, Walks.list hh _ l (Nat.ne_of_lt hlt) vs.toArray, (by rw [List.size_toArray]; exact hsz),
    ⟨⟨_, Heap.get?_push_size _ rfl, rfl, rfl⟩, hl.at fun o e => Heap.get?_push_of_some _ e⟩, ?_, ?_, hns.at' fun o e => Heap.get?_push_of_some _ e, ⟨?_, ?_⟩, ?_⟩
  · intro b hb
    show b < (h.push _).objs.size
    rw [Heap.size_push]
    rcases List.mem_cons.mp hb with rfl | hb
    · exact Nat.lt_succ_self _
    · rw [List.mem_singleton.mp hb]; exact Nat.lt_succ_of_lt hlt
  · rw [List.mem_singleton]
    exact Nat.ne_of_lt hLt
  · intro C i v s₃ m₃ E' _ hP hn hm hk htk
    exact wpAny_pure ⟨rfl, ⟨_, _, rfl, fun _ _ e => e⟩⟩
  · intro C i v s₃ m₃ E' _ hP hp' hn hm hk htk
    obtain ⟨h₃, g₃, d₃, k₃, o₃⟩ := s₃
    exact g2 C i v h₃ g₃ d₃ k₃ o₃ m₃ _ E' (by simpa using hP) hn hm (up _ hk) fun r h' k' a b => ⟨a, ⟨h', k', rfl, b⟩⟩
  · intro D h' tk ys vs' hnew hlD hplD hlen hP hF hN hk
    have e' : vs' = vs := by simpa using walked_is hlen hP
    subst e'
    rw [List.filter_eq_self.mpr (fun _ _ => rfl)] at hF
    refine g3 D ys h' tk ?_ hplD hF hN fun b o hb e => hk b o hb (not_iter_of_old e) (Heap.get?_push_of_some _ e)
    cases e : h.get? D with
    | none => rfl
    | some o' => rw [Heap.get?_push_of_some _ e] at hnew; cases hnew
/-- a loop over pairs, by what holds between the turns -/
theorem for_pairs {x x₂ : Str} {px px₂ tp : Pos} {kk : Nat} {body : List Stmt} {env : Env} {Q : Flow → Shared → Prop} {E : Value → Shared → Prop} {I : Addr} {fp wr : List Addr} {n : Nat} {Pt : Nat → Array Value → Prop} {St : Nat → Heap → Prop} {Mid : Nat → Addr → Heap → Prop} (J : Nat → Heap → Prop)
    (W : WalksT prog w A I fp wr n Pt St Mid) (hh : A.handled = none) (hpt : ∀ i vals, Pt i vals → ∃ v1 v2, vals = #[v1, v2]) (hst : St 0 h) (hJ : J 0 h)
    (stable : ∀ i h h', J i h → (∀ b o, b ∉ wr → h.get? b = some o → h'.get? b = some o) → J i h')
    (turn : ∀ i v1 v2 h' tk, i < n → Pt i #[v1, v2] → J i h' → St (i + 1) h' → ∀ (Q' : Flow → Shared → Prop),
      (∀ f h'' tk', f = .next ∨ f = .cont → J (i + 1) h'' → (∀ b ∈ fp, ∀ o, h'.get? b = some o → h''.get? b = some o) → Q' f ⟨h'', gs, d, tk', os⟩) → (∀ v s', Q (.ret v) s' → Q' (.ret v) s') → (∀ s', Q .next s' → Q' .brk s') →
      wpAny (model prog w) A (storeName env x v1) (fun _ s₂ => wpAny (model prog w) A (storeName env x₂ v2) (fun _ s₃ => wpAny (model prog w) A (execs body env) Q' (fun _ _ => False) s₃) (fun _ _ => False) s₂) (fun _ _ => False) ⟨h', gs, d, tk, os⟩)
    (done : ∀ h' tk, J n h' → Q .next ⟨h', gs, d, tk, os⟩) :
    codeAny (model prog w) A (.forLoop (.Tuple [.Name x px, .Name x₂ px₂] kk tp) (.ref I) body [] env) (fun r s' => match r with | .ok f => Q f s' | .error e => cameBackBy (model prog w) A env E e s') ⟨h, gs, d, tk, os⟩ := by
  refine codeAny_forLoop_any (fun k s' => ∃ h' tk i, s' = ⟨h', gs, d, tk, os⟩ ∧ St i h' ∧ J i h' ∧ i ≤ n ∧ k = n + 1 - i) ?_ (n + 1) ⟨h, tk, 0, rfl, hst, hJ, Nat.zero_le _, rfl⟩
  rintro k s' ⟨h', tk', i, rfl, hst', hJ', hi, rfl⟩
  by_cases hlt : i < n
  · refine W.item i _ _ _ hlt hst' fun T vals h₂ tk₂ hPv hTf hT₂ hM₂ hk₂ => ?_
    refine W.go _ _ _ i T _ _ _ hM₂ fun h₃ hst₃ hk₃ => ?_
    have hTw := W.apart _ _ _ hM₂
    obtain ⟨v1, v2, rfl⟩ := hpt i vals hPv
    obtain ⟨oT, gT, cT, nT, dT⟩ := hT₂
    have ht : IsTup h₃ T #[v1, v2] := ⟨oT, hk₃ _ _ hTw gT, cT, nT, dT⟩
    refine assign_Tuple_tuple hh ht rfl rfl fun h₅ he => ?_
    have he' : ∀ b o, h₃.get? b = some o → h₅.get? b = some o := fun b o e => he b o (Nat.ne_of_lt (Heap.lt_size e)) e
    have hst₅ : St (i + 1) h₅ := W.frame _ _ _ hst₃ fun b _ o e => he' b o e
    have hJ₅ : J i h₅ := stable i h' h₅ hJ' fun b o hb e => he' b o (hk₃ b o hb (hk₂ b o hb e))
    refine assignInOrder_cons (wpAny_assign_Name ?_)
    refine wpAny_mono (turn i v1 v2 h₅ _ hlt hPv hJ₅ hst₅ _ (fun f h'' tk'' hf hJ2 hfp => ?_) (fun v s' q => ?_) (fun s' q => ?_)) (fun _ s₂ h₂ => assignInOrder_cons (wpAny_assign_Name (wpAny_mono h₂ (fun _ s₃ h₃ => assignInOrder_nil (wpAny_mono h₃ (fun f s₄ h₄ => h₄) fun _ _ e => e.elim)) fun _ _ e => e.elim))) fun _ _ e => e.elim
    · rcases hf with rfl | rfl
      · exact ⟨n + 1 - (i + 1), by omega, h'', tk'', i + 1, rfl, W.frame _ _ _ hst₅ hfp, hJ2, hlt, rfl⟩
      · exact ⟨n + 1 - (i + 1), by omega, h'', tk'', i + 1, rfl, W.frame _ _ _ hst₅ hfp, hJ2, hlt, rfl⟩
    · exact q
    · exact q
  · have hin : i = n := by omega
    subst hin
    exact W.done _ _ _ hst' fun h₁ tk₁ hk₁ => wpAny_execs_nil (done h₁ tk₁ (stable i h' h₁ hJ' hk₁))
/-- what is asked of the source of a comprehension over a list -/
noncomputable def LSrc (prog : Program) (w : World) (A : Around) (env : Env) (elt : Expr) (x : Str) (ifs : List Expr) (scope : Scope) (cl : List (Str × Addr)) (p : Value → Bool) (G : Value → Value → Prop) (Q : Value → Shared → Prop) (xv : Value) (s : Shared) : Prop :=
  ∃ (l : Addr) (vs : List Value), xv = .ref l ∧ s.heap.IsList l vs.toArray ∧ vs.length ≤ sizeLine ∧
    (∀ (C : Addr) (i : Nat) (v : Value) (h₃ : Heap) g₃ d₃ k₃ o₃ m₃ (Q' : Bool → Shared → Prop) (E' : Value → Shared → Prop), vs[i]? = some v → h₃.Ns (compEnvC scope cl C env).locals m₃ → m₃ x = some v → Kp s.heap h₃ →
      (∀ h' k', Kp h₃ h' → Q' (p v) ⟨h', g₃, d₃, k', o₃⟩) → wpAny (model prog w) A (forIn ifs true fun c r => if r = true then do let ok ← isTrue c (compEnvC scope cl C env) (eval c (compEnvC scope cl C env)); pure (ForInStep.yield ok) else pure (ForInStep.yield r)) Q' E' ⟨h₃, g₃, d₃, k₃, o₃⟩) ∧
    (∀ (C : Addr) (i : Nat) (v : Value) (h₃ : Heap) g₃ d₃ k₃ o₃ m₃ (Q' E' : Value → Shared → Prop), vs[i]? = some v → p v = true → h₃.Ns (compEnvC scope cl C env).locals m₃ → m₃ x = some v → Kp s.heap h₃ →
      (∀ r h' k', G v r → Kp h₃ h' → Q' r ⟨h', g₃, d₃, k', o₃⟩) → wpAny (model prog w) A (eval elt (compEnvC scope cl C env)) Q' E' ⟨h₃, g₃, d₃, k₃, o₃⟩) ∧
    (∀ D ys h' tk', s.heap.get? D = none → h'.PlainList D ys → Paired G (vs.filter p) ys.toList → Kp s.heap h' → Q (.ref D) { s with heap := h', toks := tk' })
theorem comp_src {env : Env} {elt iter : Expr} {x : Str} {px pos : Pos} {ifs : List Expr} {scope : Scope} {cl : List (Str × Addr)} {Q : Value → Shared → Prop} (p : Value → Bool) (G : Value → Value → Prop)
    (hclos : closureFor scope env = pure cl) (hcell : ∀ y ∈ scope.names, y.2 ≠ .cell) (hkind : scope.kind = .function)
    (hnames : ∀ y ∈ scope.names, y.2 = .local → scope.names.lookup y.1 = some .local) (hx : scope.names.lookup x = some .local) (hs : ∀ x, foldedSetIterable iter env x = pure x) (hh : A.handled = none)
    (hsrc : wpAny (model prog w) A (eval iter env) (LSrc prog w A env elt x ifs scope cl p G Q) E ⟨h, gs, d, tk, os⟩) :
    wpAny (model prog w) A (eval (.ListComp elt [⟨.Name x px, iter, ifs, 0⟩] scope pos) env) Q E ⟨h, gs, d, tk, os⟩ := by
  refine wpAny_ListComp_free p G hclos hcell hkind hnames hx (wpAny_mono hsrc (fun xv s₁ h₁ => ?_) fun _ _ e => e) hs
  obtain ⟨l, vs, rfl, hl, hsz, g1, g2, g3⟩ := h₁
  obtain ⟨h1, gs1, d1, k1, o1⟩ := s₁
  exact free_list (Q := Q) p G hh hl hsz g1 g2 g3
end
end

section
set_option maxRecDepth 100000
open PySem PySem.W PyProof.Rows PySem.Calls PySem.W.X

noncomputable abbrev Stk := List ((Result → Sem Fin) × Around × Code)
structure Cfg where
  i : Nat
  tk : Nat
  st : List (Addr × Obj)
  eqs : List (Nat × Nat)
  A : Around
  c : Code
  stk : Stk
  t : Sem Fin

/-- runs a tree's own commands over a store of known objects; `js` names, for each look at the heap, the place in the store -/
noncomputable def drive (den : Code → Sem Fin) (g : Setting) (n : Addr) : Nat → List Nat → Nat → Nat → List (Addr × Obj) → List (Nat × Nat) → Around → Code → Stk → Sem Fin → Cfg
  | 0, _, i, tk, st, eqs, A, c, stk, t => ⟨i, tk, st, eqs, A, c, stk, t⟩
  | f + 1, js, i, tk, st, eqs, A, c, stk, .rule _ k => drive den g n f js i tk st eqs A c stk (k ())
  | f + 1, js, i, tk, st, eqs, A, c, stk, .at _ k => drive den g n f js i tk st eqs A c stk (k ())
  | f + 1, js, i, tk, st, eqs, A, c, stk, .point _ k => drive den g n f js i tk st eqs A c stk (k ())
  | f + 1, js, i, tk, st, eqs, A, c, stk, .ask k => drive den g n f js i tk st eqs A c stk (k g)
  | f + 1, js, i, tk, st, eqs, A, c, stk, .fresh k => drive den g n f js i (tk + 1) st eqs A c stk (k tk)
  | f + 1, js, i, tk, st, eqs, A, c, stk, .alloc o k => drive den g n f js (i + 1) tk (st ++ [(n + i, o)]) ((cond o.isFreed 1 0, 0) :: eqs) A c stk (k (n + i))
  | f + 1, j :: js, i, tk, st, eqs, A, c, stk, .load a q k => match st[j]? with
    | some p => drive den g n f js i tk st ((a, p.1) :: eqs) A c stk (k p.2)
    | none => ⟨i, tk, st, eqs, A, c, stk, .load a q k⟩
  | f + 1, j :: js, i, tk, st, eqs, A, c, stk, .update a q u k => match st[j]? with
    | some p => drive den g n f js i tk (st.set j (p.1, u p.2)) ((a, p.1) :: (cond (u p.2).isFreed 1 0, 0) :: eqs) A c stk (k ())
    | none => ⟨i, tk, st, eqs, A, c, stk, .update a q u k⟩
  | f + 1, js, i, tk, st, eqs, A, c, stk, .call c' none _ _ k => drive den g n f js i tk st eqs ((A.under c).mark none) c' ((k, A, c) :: stk) (den c')
  | f + 1, js, i, tk, st, eqs, _, _, (k, A', c') :: stk, .pure (.done fl) => drive den g n f js i tk st eqs A' c' stk (k (.ok fl))
  | f + 1, js, i, tk, st, eqs, A, _, stk, .pure (.again c') => drive den g n f js i tk st ((cond c'.quiet 0 1, 0) :: eqs) A c' stk (den c')
  | _ + 1, _, i, tk, st, eqs, A, c, stk, t => ⟨i, tk, st, eqs, A, c, stk, t⟩

noncomputable abbrev post (M : Model) (A : Around) (R : Result → Shared → Prop) (fin : Fin) (s' : Shared) : Prop :=
  match fin with | .done f => R (.ok f) s' | .again c' => c'.quiet = true ∧ codeAny M A c' R s'
/-- what is asked of a result that comes up to a stack -/
noncomputable def Up (M : Model) (R : Result → Shared → Prop) : Stk → Result → Shared → Prop
  | [], r, s => R r s
  | (k, A, c) :: stk, r, s => wpAny M (A.under c) (k r) (fun fin s' => post M A (Up M R stk) fin s') (fun e s' => Up M R stk (.error e) s') s
noncomputable abbrev Go (M : Model) (R : Result → Shared → Prop) (A : Around) (c : Code) (stk : Stk) (t : Sem Fin) (s : Shared) : Prop :=
  wpAny M (A.under c) t (fun fin s' => post M A (Up M R stk) fin s') (fun e s' => Up M R stk (.error e) s') s

structure Here (n : Addr) (h0 h : Heap) (i : Nat) (st : List (Addr × Obj)) : Prop where
  get : ∀ p ∈ st, h.get? p.1 = some p.2
  nd : (st.map (·.1)).Nodup
  size : h.objs.size = n + i
  keep : ∀ b o, b ∉ st.map (·.1) → h0.get? b = some o → h.get? b = some o

theorem set_map_fst {st : List (Addr × Obj)} {j : Nat} {p : Addr × Obj} {o : Obj} (e : st[j]? = some p) : (st.set j (p.1, o)).map (·.1) = st.map (·.1) := by
  induction st generalizing j with
  | nil => rfl
  | cons q st ih =>
    cases j with
    | zero => simp at e; subst e; rfl
    | succ j => simp only [List.set_cons_succ, List.map_cons]; rw [ih (by simpa using e)]

theorem Here.put {n : Addr} {h0 h : Heap} {i : Nat} {st : List (Addr × Obj)} (H : Here n h0 h i st) {j : Nat} {p : Addr × Obj} (e : st[j]? = some p) (u : Obj → Obj) (hf : (u p.2).isFreed = false) :
    Here n h0 (h.update p.1 u) i (st.set j (p.1, u p.2)) := by
  have hm := List.mem_of_getElem? e
  have hp := H.get p hm
  refine ⟨fun q hq => ?_, by rw [set_map_fst e]; exact H.nd, by rw [Heap.size_after_update]; exact H.size, fun b o hb ho => ?_⟩
  · obtain ⟨k, hk, hq⟩ := List.getElem_of_mem hq
    rw [List.getElem_set] at hq
    split at hq
    · subst hq; exact Heap.get?_update_self u hp hf
    · rename_i hjk
      have hk' : k < st.length := by simpa using hk
      have hq' : st[k] = q := hq
      have hne : p.1 ≠ q.1 := by
        intro hpq
        obtain ⟨hj, hje⟩ := List.getElem?_eq_some_iff.mp e
        have := List.pairwise_iff_getElem.mp H.nd
        rcases Nat.lt_or_gt_of_ne hjk with hlt | hlt
        · have z := this j k (by simpa using hj) (by simpa using hk') hlt
          simp only [List.getElem_map, hje, hq'] at z; exact z hpq
        · have z := this k j (by simpa using hk') (by simpa using hj) hlt
          simp only [List.getElem_map, hje, hq'] at z; exact z hpq.symm
      exact Heap.get?_update_of_ne u hne (H.get q (hq' ▸ List.getElem_mem hk'))
  · rw [set_map_fst e] at hb
    exact Heap.get?_update_of_ne u (fun hpb => hb (List.mem_map.mpr ⟨p, hm, hpb⟩)) (H.keep b o hb ho)

theorem Here.add {n : Addr} {h0 h : Heap} {i : Nat} {st : List (Addr × Obj)} (H : Here n h0 h i st) {o : Obj} (hf : o.isFreed = false) :
    Here n h0 (h.push o) (i + 1) (st ++ [(n + i, o)]) := by
  refine ⟨fun q hq => ?_, ?_, by rw [Heap.size_push, H.size]; rfl, fun b o' hb ho => ?_⟩
  · rcases List.mem_append.mp hq with hq | hq
    · exact Heap.get?_push_of_some _ (H.get q hq)
    · simp only [List.mem_singleton] at hq; subst hq; exact Heap.get?_push_at H.size.symm hf
  · rw [List.map_append]
    refine List.nodup_append.mpr ⟨H.nd, by simp, fun a ha b hb => ?_⟩
    simp only [List.map_cons, List.map_nil, List.mem_singleton] at hb
    subst hb
    obtain ⟨q, hq, rfl⟩ := List.mem_map.mp ha
    have := Heap.lt_size (H.get q hq)
    rw [H.size] at this
    exact Nat.ne_of_lt this
  · rw [List.map_append, List.mem_append, not_or] at hb
    exact Heap.get?_push_of_some _ (H.keep b o' hb.1 ho)

theorem drive_load (den : Code → Sem Fin) (g : Setting) (n : Addr) (f j : Nat) (js : List Nat) (i tk : Nat) (st : List (Addr × Obj)) (eqs : List (Nat × Nat)) (A : Around) (c : Code) (stk : Stk) (a : Addr) (q : Option Value) (k : Obj → Sem Fin) :
    drive den g n (f + 1) (j :: js) i tk st eqs A c stk (.load a q k) = match st[j]? with
      | some p => drive den g n f js i tk st ((a, p.1) :: eqs) A c stk (k p.2)
      | none => ⟨i, tk, st, eqs, A, c, stk, .load a q k⟩ := rfl
theorem drive_upd (den : Code → Sem Fin) (g : Setting) (n : Addr) (f j : Nat) (js : List Nat) (i tk : Nat) (st : List (Addr × Obj)) (eqs : List (Nat × Nat)) (A : Around) (c : Code) (stk : Stk) (a : Addr) (q : Option Value) (u : Obj → Obj) (k : Unit → Sem Fin) :
    drive den g n (f + 1) (j :: js) i tk st eqs A c stk (.update a q u k) = match st[j]? with
      | some p => drive den g n f js i tk (st.set j (p.1, u p.2)) ((a, p.1) :: (cond (u p.2).isFreed 1 0, 0) :: eqs) A c stk (k ())
      | none => ⟨i, tk, st, eqs, A, c, stk, .update a q u k⟩ := rfl
theorem drive_mono (den : Code → Sem Fin) (g : Setting) (n : Addr) : ∀ (f : Nat) (js : List Nat) (i tk : Nat) (st : List (Addr × Obj)) (eqs : List (Nat × Nat)) (A : Around) (c : Code) (stk : Stk) (t : Sem Fin) (p : Nat × Nat), p ∈ eqs → p ∈ (drive den g n f js i tk st eqs A c stk t).eqs := by
  intro f
  induction f with
  | zero => intro js i tk st eqs A c stk t p hp; exact hp
  | succ f ih =>
    intro js i tk st eqs A c stk t p hp
    have h1 : ∀ q : Nat × Nat, p ∈ q :: eqs := fun q => List.mem_cons_of_mem _ hp
    have h2 : ∀ q r : Nat × Nat, p ∈ q :: r :: eqs := fun q r => List.mem_cons_of_mem _ (List.mem_cons_of_mem _ hp)
    cases t with
    | rule tag kk => exact ih _ _ _ _ _ _ _ _ _ _ hp
    | «at» pos kk => exact ih _ _ _ _ _ _ _ _ _ _ hp
    | point l kk => exact ih _ _ _ _ _ _ _ _ _ _ hp
    | ask kk => exact ih _ _ _ _ _ _ _ _ _ _ hp
    | fresh kk => exact ih _ _ _ _ _ _ _ _ _ _ hp
    | alloc o kk => exact ih _ _ _ _ _ _ _ _ _ _ (h1 _)
    | load a q kk =>
      cases js with
      | nil => exact hp
      | cons j js =>
        cases ej : st[j]? with
        | none => simp only [drive_load, ej]; exact hp
        | some p => simp only [drive_load, ej]; exact ih _ _ _ _ _ _ _ _ _ _ (h1 _)
    | update a q u kk =>
      cases js with
      | nil => exact hp
      | cons j js =>
        cases ej : st[j]? with
        | none => simp only [drive_upd, ej]; exact hp
        | some p => simp only [drive_upd, ej]; exact ih _ _ _ _ _ _ _ _ _ _ (h2 _ _)
    | call c' hd gd l kk =>
      cases hd with
      | some v => cases js <;> exact hp
      | none =>
        have ed : drive den g n (f + 1) js i tk st eqs A c stk (.call c' none gd l kk) = drive den g n f js i tk st eqs ((A.under c).mark none) c' ((kk, A, c) :: stk) (den c') := by cases js <;> rfl
        rw [ed]; exact ih _ _ _ _ _ _ _ _ _ _ hp
    | pure fin =>
      cases fin with
      | done fl =>
        cases stk with
        | nil => cases js <;> exact hp
        | cons fr stk =>
          obtain ⟨kk, A', c'⟩ := fr
          have ed : drive den g n (f + 1) js i tk st eqs A c ((kk, A', c') :: stk) (.pure (.done fl)) = drive den g n f js i tk st eqs A' c' stk (kk (.ok fl)) := by cases js <;> rfl
          rw [ed]; exact ih _ _ _ _ _ _ _ _ _ _ hp
      | again c' =>
        have ed : drive den g n (f + 1) js i tk st eqs A c stk (.pure (.again c')) = drive den g n f js i tk st ((cond c'.quiet 0 1, 0) :: eqs) A c' stk (den c') := by cases js <;> cases stk <;> rfl
        rw [ed]; exact ih _ _ _ _ _ _ _ _ _ _ (h1 _)
    | _ => cases js <;> cases stk <;> exact hp

theorem wp_load' {α : Type} {M : Model} {A : Around} {a : Addr} {q : Option Value} {k : Obj → Sem α} {o : Obj} {Q : α → Shared → Prop} {E : Value → Shared → Prop} {s : Shared} (ho : s.heap.get? a = some o) (h : wpAny M A (k o) Q E s) : wpAny M A (.load a q k) Q E s :=
  wpAny_bind (m := loadPart a q) (f := k) (wpAny_loadPart ho h)
theorem wp_update' {α : Type} {M : Model} {A : Around} {a : Addr} {q : Option Value} {u : Obj → Obj} {k : Unit → Sem α} {o : Obj} {Q : α → Shared → Prop} {E : Value → Shared → Prop} {s : Shared} (ho : s.heap.get? a = some o) (h : wpAny M A (k ()) Q E { s with heap := s.heap.update a u }) : wpAny M A (.update a q u k) Q E s :=
  wpAny_bind (m := updatePart a q u) (f := k) (wpAny_updatePart ho h)
theorem wp_alloc' {α : Type} {M : Model} {A : Around} {k : Addr → Sem α} {o : Obj} {Q : α → Shared → Prop} {E : Value → Shared → Prop} {s : Shared} (h : wpAny M A (k s.heap.objs.size) Q E { s with heap := s.heap.push o }) : wpAny M A (.alloc o k) Q E s :=
  wpAny_bind (m := alloc o) (f := k) (wpAny_alloc h)

theorem drive_sound {prog : Program} {w : World} {R : Result → Shared → Prop} {den : Code → Sem Fin} (hden : ∀ c, den c = denote table c) {n : Addr} {h0 : Heap} {gs : Array GenState} {d : Drawn} {os : OsState} :
    ∀ (f : Nat) (js : List Nat) (i tk : Nat) (st : List (Addr × Obj)) (eqs : List (Nat × Nat)) (A : Around) (c : Code) (stk : Stk) (t : Sem Fin) (h : Heap), Here n h0 h i st →
      (∀ p ∈ (drive den ⟨prog, w.params⟩ n f js i tk st eqs A c stk t).eqs, p.1 = p.2) →
      (∀ h' x, x = drive den ⟨prog, w.params⟩ n f js i tk st eqs A c stk t → Here n h0 h' x.i x.st → Go (model prog w) R x.A x.c x.stk x.t ⟨h', gs, d, x.tk, os⟩) →
      Go (model prog w) R A c stk t ⟨h, gs, d, tk, os⟩ := by
  intro f
  induction f with
  | zero => intro js i tk st eqs A c stk t h H _ k; exact k h _ rfl H
  | succ f ih =>
    intro js i tk st eqs A c stk t h H he k
    have stop : ∀ {Z : Prop}, (drive den ⟨prog, w.params⟩ n (f + 1) js i tk st eqs A c stk t = ⟨i, tk, st, eqs, A, c, stk, t⟩ → Z) → (drive den ⟨prog, w.params⟩ n (f + 1) js i tk st eqs A c stk t = ⟨i, tk, st, eqs, A, c, stk, t⟩) → Z := fun z e => z e
    have stop' : drive den ⟨prog, w.params⟩ n (f + 1) js i tk st eqs A c stk t = ⟨i, tk, st, eqs, A, c, stk, t⟩ → Go (model prog w) R A c stk t ⟨h, gs, d, tk, os⟩ := fun e => by
      have := k h _ rfl (by rw [e]; exact H)
      rw [e] at this
      exact this
    cases t with
    | rule tag kk => exact fun Γ p hΓ => (ih js i tk st eqs A c stk (kk ()) h H he k) Γ p hΓ
    | «at» pos kk => exact fun Γ p hΓ => (ih js i tk st eqs A c stk (kk ()) h H he k) Γ pos hΓ
    | point l kk => exact fun Γ p hΓ => (ih js i tk st eqs A c stk (kk ()) h H he k) Γ p hΓ
    | ask kk => exact fun Γ p hΓ => (ih js i tk st eqs A c stk (kk ⟨prog, w.params⟩) h H he k) Γ p hΓ
    | fresh kk => exact fun Γ p hΓ => (ih js i (tk + 1) st eqs A c stk (kk tk) h H he k) Γ p hΓ
    | alloc o kk =>
      have hz := he _ (drive_mono den ⟨prog, w.params⟩ n f js (i + 1) tk (st ++ [(n + i, o)]) ((cond o.isFreed 1 0, 0) :: eqs) A c stk (kk (n + i)) _ (.head _))
      have hf : o.isFreed = false := by cases q : o.isFreed with | true => rw [q] at hz; cases hz | false => rfl
      refine wp_alloc' ?_
      show wpAny _ _ (kk h.objs.size) _ _ _
      rw [H.size]
      exact ih js (i + 1) tk _ _ A c stk (kk (n + i)) (h.push o) (H.add hf) he k
    | load a q kk =>
      cases js with
      | nil => exact stop' rfl
      | cons j js =>
        cases ej : st[j]? with
        | none => exact stop' (by simp only [drive_load, ej])
        | some p =>
          have ed : drive den ⟨prog, w.params⟩ n (f + 1) (j :: js) i tk st eqs A c stk (.load a q kk) = drive den ⟨prog, w.params⟩ n f js i tk st ((a, p.1) :: eqs) A c stk (kk p.2) := by simp only [drive_load, ej]
          rw [ed] at he k
          have hz : a = p.1 := he _ (drive_mono den ⟨prog, w.params⟩ n f js i tk st ((a, p.1) :: eqs) A c stk (kk p.2) _ (.head _))
          refine wp_load' (o := p.2) ?_ (ih js i tk st _ A c stk (kk p.2) h H he k)
          show h.get? a = some p.2
          rw [hz]; exact H.get p (List.mem_of_getElem? ej)
    | update a q u kk =>
      cases js with
      | nil => exact stop' rfl
      | cons j js =>
        cases ej : st[j]? with
        | none => exact stop' (by simp only [drive_upd, ej])
        | some p =>
          have ed : drive den ⟨prog, w.params⟩ n (f + 1) (j :: js) i tk st eqs A c stk (.update a q u kk) = drive den ⟨prog, w.params⟩ n f js i tk (st.set j (p.1, u p.2)) ((a, p.1) :: (cond (u p.2).isFreed 1 0, 0) :: eqs) A c stk (kk ()) := by simp only [drive_upd, ej]
          rw [ed] at he k
          have hm := drive_mono den ⟨prog, w.params⟩ n f js i tk (st.set j (p.1, u p.2)) ((a, p.1) :: (cond (u p.2).isFreed 1 0, 0) :: eqs) A c stk (kk ())
          have hz : a = p.1 := he _ (hm _ (.head _))
          have hy := he _ (hm _ (.tail _ (.head _)))
          have hf : (u p.2).isFreed = false := by cases q : (u p.2).isFreed with | true => rw [q] at hy; cases hy | false => rfl
          subst hz
          exact wp_update' (o := p.2) (H.get p (List.mem_of_getElem? ej)) (ih js i tk _ _ A c stk (kk ()) (h.update p.1 u) (H.put ej u hf) he k)
    | call c' hd gd l kk =>
      cases hd with
      | some v => exact stop' (by cases js <;> rfl)
      | none =>
        have ed : drive den ⟨prog, w.params⟩ n (f + 1) js i tk st eqs A c stk (.call c' none gd l kk) = drive den ⟨prog, w.params⟩ n f js i tk st eqs ((A.under c).mark none) c' ((kk, A, c) :: stk) (den c') := by cases js <;> rfl
        rw [ed] at he k
        refine x_call ?_ (fun h => nomatch h)
        refine x_code ?_
        have := ih js i tk st eqs ((A.under c).mark none) c' ((kk, A, c) :: stk) (den c') h H he k
        rw [hden] at this
        exact this
    | pure fin =>
      cases fin with
      | done fl =>
        cases stk with
        | nil => exact stop' (by cases js <;> rfl)
        | cons fr stk =>
          obtain ⟨kk, A', c'⟩ := fr
          have ed : drive den ⟨prog, w.params⟩ n (f + 1) js i tk st eqs A c ((kk, A', c') :: stk) (.pure (.done fl)) = drive den ⟨prog, w.params⟩ n f js i tk st eqs A' c' stk (kk (.ok fl)) := by cases js <;> rfl
          rw [ed] at he k
          exact wpAny_pure (ih js i tk st eqs A' c' stk (kk (.ok fl)) h H he k)
      | again c' =>
        have ed : drive den ⟨prog, w.params⟩ n (f + 1) js i tk st eqs A c stk (.pure (.again c')) = drive den ⟨prog, w.params⟩ n f js i tk st ((cond c'.quiet 0 1, 0) :: eqs) A c' stk (den c') := by cases js <;> cases stk <;> rfl
        rw [ed] at he k
        have hz := he _ (drive_mono den ⟨prog, w.params⟩ n f js i tk st ((cond c'.quiet 0 1, 0) :: eqs) A c' stk (den c') _ (.head _))
        have hq : c'.quiet = true := by cases q : c'.quiet with | false => rw [q] at hz; cases hz | true => rfl
        refine wpAny_pure ⟨hq, x_code ?_⟩
        have := ih js i tk st _ A c' stk (den c') h H he k
        rw [hden] at this
        exact this
    | _ => exact stop' (by cases js <;> cases stk <;> rfl)

theorem eqs_ok {l : List (Nat × Nat)} (e : l = (l.map Prod.fst).map fun x => (x, x)) : ∀ p ∈ l, p.1 = p.2 := fun p hp => by
  rw [e] at hp
  obtain ⟨x, _, rfl⟩ := List.mem_map.mp hp
  rfl
end

section
set_option maxRecDepth 100000
open PySem PySem.W PyProof.Rows PySem.Calls PySem.W.X
noncomputable def denZ : Code → Sem Fin := PySem.W.ZFast.zw11892475500146522536 PySem.W.ZFast.tableZ
theorem denZ_eq (c : Code) : denZ c = denote table c := by
  unfold denZ
  rw [← PySem.W.ZFast.ze11892475500146522536, ← PySem.W.ZFast.tableZ_eq]
noncomputable def callCode : Sem Fin → Option Code
  | .call c none _ _ _ => some c
  | _ => none
noncomputable def callK : Sem Fin → Result → Sem Fin
  | .call _ _ _ _ k, r => k r
  | t, _ => t
noncomputable def finOf : Sem Fin → Option Value
  | .pure (.done (.ret v)) => some v
  | _ => none
section
variable {prog : Program} {w : World} {R : Result → Shared → Prop} {A : Around} {c c' : Code} {stk : Stk} {s : Shared} {n : Addr} {h0 h : Heap} {gs : Array GenState} {d : Drawn} {os : OsState} {i tk : Nat} {st : List (Addr × Obj)}
theorem go_call {t : Sem Fin} (e : callCode t = some c') (k : codeAny (model prog w) ((A.under c).mark none) c' (Up (model prog w) R ((callK t, A, c) :: stk)) s) : Go (model prog w) R A c stk t s := by
  unfold callCode at e
  split at e
  · cases e; exact x_call k (fun h => nomatch h)
  · cases e
theorem go_code (k : Go (model prog w) R A c [] (denZ c) s) : codeAny (model prog w) A c R s := by
  rw [denZ_eq] at k
  exact x_code k
theorem go_fin {t : Sem Fin} {v : Value} (e : finOf t = some v) (k : R (.ok (.ret v)) s) : Go (model prog w) R A c [] t s := by
  unfold finOf at e
  split at e
  · cases e; exact wpAny_pure k
  · cases e
/-- the engine, with a stop -/
theorem engine (f : Nat) (js : List Nat) {t : Sem Fin} (H : Here n h0 h i st)
    (e : (drive denZ ⟨prog, w.params⟩ n f js i tk st [] A c stk t).eqs = ((drive denZ ⟨prog, w.params⟩ n f js i tk st [] A c stk t).eqs.map Prod.fst).map fun x => (x, x))
    (k : ∀ h', Here n h0 h' (drive denZ ⟨prog, w.params⟩ n f js i tk st [] A c stk t).i (drive denZ ⟨prog, w.params⟩ n f js i tk st [] A c stk t).st →
      Go (model prog w) R (drive denZ ⟨prog, w.params⟩ n f js i tk st [] A c stk t).A (drive denZ ⟨prog, w.params⟩ n f js i tk st [] A c stk t).c (drive denZ ⟨prog, w.params⟩ n f js i tk st [] A c stk t).stk
        (drive denZ ⟨prog, w.params⟩ n f js i tk st [] A c stk t).t ⟨h', gs, d, (drive denZ ⟨prog, w.params⟩ n f js i tk st [] A c stk t).tk, os⟩) :
    Go (model prog w) R A c stk t ⟨h, gs, d, tk, os⟩ :=
  drive_sound denZ_eq f js i tk st [] A c stk t h H (eqs_ok e) (fun h' x hx H' => by subst hx; exact k h' H')
end

section
variable {prog : Program} {w : World} {A : Around} {R : Result → Shared → Prop} {s : Shared}
theorem code_collect {it : Addr} {o : Obj} {items : Array Value} {m : Nat} (ho : s.heap.get? it = some o) (hc : o.cls = .type "list") (hd : o.data = .seq items m) (hsz : items.size ≤ sizeLine)
    (hR : R (.ok (.ret (.ref s.heap.objs.size))) { s with heap := (s.heap.push { cls := .type "list", data := .seq #[] }).update s.heap.objs.size (Obj.mapSeq (· ++ items)) }) :
    codeAny (model prog w) A (.builtin "proto.collect" ⟨[.ref it], []⟩) R s := by
  refine codeAny_builtin F.entry_proto_collect ?_
  rw [Around.under_plainId F.plain_proto_collect _]
  show wpAny _ A.in1 (newList [] >>= fun l => again (.builtin "list.__iadd__" ⟨[l, .ref it], []⟩)) _ _ s
  refine wpAny_bind (wpAny_newObj_type ?_)
  refine wpAny_pure ⟨plainId_quiet F.plain_list_iadd _, codeAny_builtin F.entry_list_iadd ?_⟩
  rw [Around.under_plainId F.plain_list_iadd _]
  show wpAny _ A.in1 (Builtin.List.listExtendWith (.ref s.heap.objs.size) (.ref it) (.ref s.heap.objs.size)) _ _ _
  have hS : (s.heap.push { cls := .type "list", data := .seq ([] : List Value).toArray }).get? s.heap.objs.size = some { cls := .type "list", data := .seq #[] 0 } := Heap.get?_push_size _ rfl
  exact wpAny_extend_seq (hsz := hsz) (A := A) (s := { s with heap := s.heap.push { cls := .type "list", data := .seq ([] : List Value).toArray } }) _ it _ 0 (.inl rfl) hS (Heap.get?_push_of_some _ ho) hc hd hR

theorem isSub_self {h : Heap} {g : Array GenState} {d : Drawn} {t : Nat} {os : OsState} {M : Model} {E : Value → Shared → Prop} {K : Addr} {oK : Obj} {cd : ClassData} {Q : Bool → Shared → Prop} (hK : h.get? K = some oK) (hd : oK.data = .cls cd) (hm : cd.mro = [.ref K, .type "object"]) (hq : Q true ⟨h, g, d, t, os⟩) : wpAny M A (isSubtype (.ref K) (.ref K)) Q E ⟨h, g, d, t, os⟩ := by
  obtain ⟨oc, od, odt, osl⟩ := oK
  obtain rfl : odt = .cls cd := hd
  have L : Looks M h (mroOf (.ref K)) cd.mro := by
    intro A Q E s k q
    unfold mroOf classData
    exact wpAny_bind (wpAny_bind (wpAny_load (k _ _ hK) (wpAny_pure (wpAny_pure q))))
  unfold isSubtype
  refine wpAny_bind (L.at ?_)
  rw [hm]
  refine wpAny_pure ?_
  have : ([Value.ref K, Value.type "object"] : List Value).contains (.ref K) = true := by simp
  rw [this]; exact hq

theorem super_set3 {h : Heap} {g : Array GenState} {d : Drawn} {t : Nat} {os : OsState} {E : Value → Shared → Prop} {so : Addr} {a b c : Value} {Q : Fin → Shared → Prop} (hso : h.get? so = some { cls := .type "super", dict := none, data := .fields #[.none, .none, .none], slots := #[] })
    (hq : ∀ h', h'.get? so = some { cls := .type "super", dict := none, data := .fields #[a, b, c], slots := #[] } → Heap.SameBut so h h' → Q (.done (.ret .none)) ⟨h', g, d, t, os⟩) :
    wpAny (model prog w) A (do setField (.ref so) 0 a; setField (.ref so) 1 b; setField (.ref so) 2 c; ret .none) Q E ⟨h, g, d, t, os⟩ := by
  refine wpAny_bind (wpAny_setField_rec hso (by simp) fun h1 e1 s1 => ?_)
  refine wpAny_bind (wpAny_setField_rec e1 (by simp) fun h2 e2 s2 => ?_)
  refine wpAny_bind (wpAny_setField_rec e2 (by simp) fun h3 e3 s3 => ?_)
  exact wpAny_pure (hq h3 (by simpa using e3) ⟨s3.1.trans (s2.1.trans s1.1), fun b hb => (s3.2 b hb).trans ((s2.2 b hb).trans (s1.2 b hb))⟩)

theorem code_super_init {so K : Addr} {oK : Obj} {cd : ClassData} (hso : s.heap.get? so = some { cls := .type "super", dict := none, data := .fields #[.none, .none, .none], slots := #[] })
    (hK : s.heap.get? K = some oK) (hd : oK.data = .cls cd) (hm : cd.mro = [.ref K, .type "object"])
    (hR : ∀ h', h'.get? so = some { cls := .type "super", dict := none, data := .fields #[.ref K, .ref K, .ref K], slots := #[] } → Heap.SameBut so s.heap h' → R (.ok (.ret .none)) { s with heap := h' }) :
    codeAny (model prog w) A (.call (.builtin "super.__init__") ⟨[.ref so, .ref K, .ref K], []⟩) R s := by
  obtain ⟨h, g, d, tk, os⟩ := s
  refine codeAny_call_builtin F.ks_slot_super_init.plain F.ks_entry_super_init (F.ks_slot_super_init.check _ _ _ _ _ _ _ _ ⟨_, hso, rfl⟩ (F.ks_initArgs_super _ _ _) ?_)
  unfold Builtin.«super.__init__» noKeywords
  repeat (first | (with_reducible refine ks_wpAny_isType_cls hK hd ?_) | (with_reducible refine isSub_self hK hd hm ?_) | (with_reducible refine super_set3 hso ?_) | wp_step)
  all_goals first
    | (intro h' e k; exact hR h' e k)
    | (refine super_set3 hso ?_; intro h' e k; exact hR h' e k)

theorem code_cmget {K : Addr} {oK : Obj} {cd : ClassData} {R : Result → Shared → Prop} (hK : s.heap.get? K = some oK) (hd : oK.data = .cls cd) (hm : cd.mro = [.ref K, .type "object"])
    (hR : ∀ h', h'.get? s.heap.objs.size = some { cls := .type "builtin_function_or_method", data := .fields #[.builtin "object.__init_subclass__", .ref K] } → (∀ b o, s.heap.get? b = some o → h'.get? b = some o) → h'.objs.size = s.heap.objs.size + 1 →
      R (.ok (.ret (.ref s.heap.objs.size))) { s with heap := h' }) :
    codeAny (model prog w) A (.call (.builtin "classmethod_descriptor.__get__") ⟨[.builtin "object.__init_subclass__", .none, .ref K], []⟩) R s := by
  obtain ⟨h, g, d, tk, os⟩ := s
  obtain ⟨oc, od, odt, osl⟩ := oK
  obtain rfl : odt = .cls cd := hd
  cases cd
  simp only at hm
  subst hm
  have H : Here h.objs.size h h 0 [(K, _)] := ⟨by intro p hp; simp only [List.mem_singleton] at hp; subst hp; exact hK, by simp, rfl, fun b o _ e => e⟩
  refine go_code (engine 4 [0, 0] H (by kernel_rfl) ?_)
  intro h' H'
  refine go_fin (v := .ref (h.objs.size + 0)) (by kernel_rfl) ?_
  have G := H'.get
  refine hR h' ?_ (fun b o e => ?_) H'.size
  · exact G (h.objs.size + 0, { cls := .type "builtin_function_or_method", data := .fields #[.builtin "object.__init_subclass__", .ref K] }) (.tail _ (.head _))
  · rcases Nat.decEq b K with hb | hb
    · refine H'.keep b o ?_ e
      show b ∉ [K, h.objs.size + 0]
      have := Heap.lt_size e
      simp only [List.mem_cons, List.not_mem_nil, or_false, Nat.add_zero]
      rintro (q | q)
      · exact hb q
      · exact absurd q (Nat.ne_of_lt this)
    · subst hb
      rw [hK] at e
      cases e
      exact G _ (.head _)

theorem Here.grow {n : Addr} {h0 h h' : Heap} {i : Nat} {st : List (Addr × Obj)} {o : Obj} (H : Here n h0 h i st) (e : h'.get? h.objs.size = some o) (k : ∀ b o, h.get? b = some o → h'.get? b = some o) (hs : h'.objs.size = h.objs.size + 1) :
    Here n h0 h' (i + 1) (st ++ [(n + i, o)]) := by
  refine ⟨fun q hq => ?_, ?_, by rw [hs, H.size]; rfl, fun b o' hb ho => ?_⟩
  · rcases List.mem_append.mp hq with hq | hq
    · exact k _ _ (H.get q hq)
    · simp only [List.mem_singleton] at hq; subst hq; rw [← H.size]; exact e
  · rw [List.map_append]
    refine List.nodup_append.mpr ⟨H.nd, by simp, fun a ha b hb => ?_⟩
    simp only [List.map_cons, List.map_nil, List.mem_singleton] at hb
    subst hb
    obtain ⟨q, hq, rfl⟩ := List.mem_map.mp ha
    have := Heap.lt_size (H.get q hq)
    rw [H.size] at this
    exact Nat.ne_of_lt this
  · rw [List.map_append, List.mem_append, not_or] at hb
    exact k _ _ (H.keep b o' hb.1 ho)
theorem Here.same {n : Addr} {h0 h h' : Heap} {i : Nat} {st : List (Addr × Obj)} {o : Obj} (H : Here n h0 h i st) {j : Nat} {p : Addr × Obj} (ej : st[j]? = some p) (e : h'.get? p.1 = some o) (hs : Heap.SameBut p.1 h h') : Here n h0 h' i (st.set j (p.1, o)) := by
  have hm := List.mem_of_getElem? ej
  refine ⟨fun q hq => ?_, by rw [set_map_fst ej]; exact H.nd, by rw [hs.1]; exact H.size, fun b o' hb ho => ?_⟩
  · obtain ⟨k, hk, hq⟩ := List.getElem_of_mem hq
    rw [List.getElem_set] at hq
    split at hq
    · subst hq; exact e
    · rename_i hjk
      have hk' : k < st.length := by simpa using hk
      have hq' : st[k] = q := hq
      have hne : q.1 ≠ p.1 := by
        intro hpq
        obtain ⟨hj, hje⟩ := List.getElem?_eq_some_iff.mp ej
        have := List.pairwise_iff_getElem.mp H.nd
        rcases Nat.lt_or_gt_of_ne hjk with hlt | hlt
        · have z := this j k (by simpa using hj) (by simpa using hk') hlt
          simp only [List.getElem_map, hje, hq'] at z; exact z hpq.symm
        · have z := this k j (by simpa using hk') (by simpa using hj) hlt
          simp only [List.getElem_map, hje, hq'] at z; exact z hpq
      rw [hs.2 _ hne]; exact H.get q (hq' ▸ List.getElem_mem hk')
  · rw [set_map_fst ej] at hb
    rw [hs.2 b (fun hpb => hb (List.mem_map.mpr ⟨p, hm, hpb.symm⟩))]; exact H.keep b o' hb ho

theorem looks_mro {M : Model} {h : Heap} {K : Addr} {oK : Obj} {cd : ClassData} (hK : h.get? K = some oK) (hd : oK.data = .cls cd) : Looks M h (mroOf (.ref K)) cd.mro := by
  intro A Q E s k q
  unfold mroOf classData
  refine wpAny_bind (wpAny_bind (wpAny_load (k _ _ hK) ?_))
  rw [hd]
  exact wpAny_pure (wpAny_pure q)
theorem slot_cmget : typeLookup (.type "classmethod_descriptor") "__get__" = pure (some (.builtin "classmethod_descriptor.__get__")) := by rw [typeLookup_type, builtinLookup_eq_fast]; kernel_rfl
theorem type_isc : typeOf (.builtin "object.__init_subclass__") = pure (.type "classmethod_descriptor") := by kernel_rfl
theorem own_isc : classOwn (.type "object") "__init_subclass__" = pure (some (.builtin "object.__init_subclass__")) := by kernel_rfl

theorem code_super_ga {so K : Addr} {oK : Obj} {cd : ClassData} {tk : Tok} {R : Result → Shared → Prop} (hso : s.heap.get? so = some { cls := .type "super", dict := none, data := .fields #[.ref K, .ref K, .ref K], slots := #[] })
    (hK : s.heap.get? K = some oK) (hd : oK.data = .cls cd) (hm : cd.mro = [.ref K, .type "object"]) (hno : Looks (model prog w) s.heap (opaqueClassAbove (.ref K)) none)
    (hR : ∀ h', h'.get? s.heap.objs.size = some { cls := .type "builtin_function_or_method", data := .fields #[.builtin "object.__init_subclass__", .ref K] } → (∀ b o, s.heap.get? b = some o → h'.get? b = some o) → h'.objs.size = s.heap.objs.size + 1 →
      R (.ok (.ret (.ref s.heap.objs.size))) { s with heap := h' }) :
    codeAny (model prog w) A (.call (.builtin "super.__getattribute__") ⟨[.ref so, .str "__init_subclass__" tk], []⟩) R s := by
  obtain ⟨h, g, d, t, os⟩ := s
  refine codeAny_call_builtin F.ks_slot_super_ga.plain F.ks_entry_super_ga (F.ks_slot_super_ga.check _ _ _ _ _ _ _ _ ⟨_, hso, rfl⟩ (F.ks_gaArgs_super _ _) ?_)
  have hdt : ({ cls := .type "super", dict := none, data := .fields #[.ref K, .ref K, .ref K], slots := #[] } : Obj).data = .fields #[.ref K, .ref K, .ref K] := rfl
  have f0 : (#[.ref K, .ref K, .ref K] : Array Value)[0]? = some (.ref K) := rfl
  have f1 : (#[.ref K, .ref K, .ref K] : Array Value)[1]? = some (.ref K) := rfl
  have f2 : (#[.ref K, .ref K, .ref K] : Array Value)[2]? = some (.ref K) := rfl
  have hC := looks_mro (M := model prog w) hK hd
  rw [hm] at hC
  have hl : (([.ref K, .type "object"] : List Value).dropWhile (· != .ref K)).drop 1 = [.type "object"] := by simp
  have hn : (("__init_subclass__" : Str) == ("__class__" : Str)) = false := by decide +kernel
  have hlk := slot_cmget
  have hty := type_isc
  have how := own_isc
  unfold Builtin.«super.__getattribute__»
  repeat (first
    | (with_reducible refine wpAny_field hso hdt f0 ?_) | (with_reducible refine wpAny_field hso hdt f1 ?_) | (with_reducible refine wpAny_field hso hdt f2 ?_)
    | (with_reducible refine ks_wpAny_notOpaque hno ?_)
    | (with_reducible refine Looks.at hC ?_; rw [hl])
    | (simp only [hn, Bool.or_false, Bool.false_eq_true, if_false])
    | wp_step
    | dsimp only)
  rw [show (if (Value.ref K == Value.ref K) = true then Value.none else Value.ref K) = Value.none by simp]
  refine code_cmget hK hd hm fun h' e k hs => ?_
  repeat wp_step
  exact hR h' e k hs
end
end

section
set_option maxRecDepth 100000
open PySem PySem.W PyProof.Rows PySem.Calls PySem.W.X
noncomputable def start (g : Setting) (n : Addr) (f : Nat) (js : List Nat) (i tk : Nat) (st : List (Addr × Obj)) (A : Around) (c : Code) : Cfg := drive denZ g n f js i tk st [] A c [] (denZ c)
noncomputable def resume (g : Setting) (n : Addr) (f : Nat) (js : List Nat) (i tk : Nat) (st : List (Addr × Obj)) (x : Cfg) (r : Result) : Cfg := drive denZ g n f js i tk st [] x.A x.c x.stk (callK x.t r)
noncomputable def runT (g : Setting) (n : Addr) (f : Nat) (js : List Nat) (i tk : Nat) (st : List (Addr × Obj)) (A : Around) (c : Code) (t : Sem Fin) : Cfg := drive denZ g n f js i tk st [] A c [] t
noncomputable def stkNil : Stk → Bool
  | [] => true
  | _ => false
/-- what is wanted at a stop before a call -/
noncomputable abbrev Wants (M : Model) (R : Result → Shared → Prop) (x : Cfg) : Result → Shared → Prop := Up M R ((callK x.t, x.A, x.c) :: x.stk)
noncomputable abbrev AtC (x : Cfg) : Around := (x.A.under x.c).mark none
section
variable {prog : Program} {w : World} {R : Result → Shared → Prop} {A : Around} {c c' : Code} {s : Shared} {n : Addr} {h0 h : Heap} {gs : Array GenState} {d : Drawn} {os : OsState} {i tk : Nat} {st : List (Addr × Obj)} {x : Cfg} {r : Result} {v : Value}
theorem start_call (f : Nat) (js : List Nat) (i' tk' : Nat) {α : Type} (zf : List (Addr × Obj) → α) (st' : α → List (Addr × Obj)) (c' : Code) (H : Here n h0 h i st)
    (e : (start ⟨prog, w.params⟩ n f js i tk st A c).eqs = ((start ⟨prog, w.params⟩ n f js i tk st A c).eqs.map Prod.fst).map fun x => (x, x))
    (ei : (start ⟨prog, w.params⟩ n f js i tk st A c).i = i') (et : (start ⟨prog, w.params⟩ n f js i tk st A c).tk = tk') (es : (start ⟨prog, w.params⟩ n f js i tk st A c).st = st' (zf (start ⟨prog, w.params⟩ n f js i tk st A c).st))
    (ec : callCode (start ⟨prog, w.params⟩ n f js i tk st A c).t = some c')
    (k : ∀ z h' x, x = start ⟨prog, w.params⟩ n f js i tk st A c → Here n h0 h' i' (st' z) → codeAny (model prog w) (AtC x) c' (Wants (model prog w) R x) ⟨h', gs, d, tk', os⟩) :
    codeAny (model prog w) A c R ⟨h, gs, d, tk, os⟩ := by
  refine go_code (engine f js H e fun h' H' => ?_)
  refine go_call ec ?_
  have z := k _ h' _ rfl (show Here n h0 h' i' (st' (zf _)) from es ▸ ei ▸ H')
  rw [← et] at z
  exact z
theorem tree_call {t : Sem Fin} (f : Nat) (js : List Nat) (i' tk' : Nat) {α : Type} (zf : List (Addr × Obj) → α) (st' : α → List (Addr × Obj)) (c' : Code) (H : Here n h0 h i st)
    (e : (runT ⟨prog, w.params⟩ n f js i tk st A c t).eqs = ((runT ⟨prog, w.params⟩ n f js i tk st A c t).eqs.map Prod.fst).map fun x => (x, x))
    (ei : (runT ⟨prog, w.params⟩ n f js i tk st A c t).i = i') (et : (runT ⟨prog, w.params⟩ n f js i tk st A c t).tk = tk') (es : (runT ⟨prog, w.params⟩ n f js i tk st A c t).st = st' (zf (runT ⟨prog, w.params⟩ n f js i tk st A c t).st))
    (ec : callCode (runT ⟨prog, w.params⟩ n f js i tk st A c t).t = some c')
    (k : ∀ z h' x, x = runT ⟨prog, w.params⟩ n f js i tk st A c t → Here n h0 h' i' (st' z) → codeAny (model prog w) (AtC x) c' (Wants (model prog w) R x) ⟨h', gs, d, tk', os⟩) :
    Go (model prog w) R A c [] t ⟨h, gs, d, tk, os⟩ := by
  refine engine f js H e fun h' H' => ?_
  refine go_call ec ?_
  have z := k _ h' _ rfl (show Here n h0 h' i' (st' (zf _)) from es ▸ ei ▸ H')
  rw [← et] at z
  exact z
theorem start_end (f : Nat) (js : List Nat) (i' tk' : Nat) {α : Type} (zf : List (Addr × Obj) → α) (st' : α → List (Addr × Obj)) (v : Value) (H : Here n h0 h i st)
    (e : (start ⟨prog, w.params⟩ n f js i tk st A c).eqs = ((start ⟨prog, w.params⟩ n f js i tk st A c).eqs.map Prod.fst).map fun x => (x, x))
    (ei : (start ⟨prog, w.params⟩ n f js i tk st A c).i = i') (et : (start ⟨prog, w.params⟩ n f js i tk st A c).tk = tk') (es : (start ⟨prog, w.params⟩ n f js i tk st A c).st = st' (zf (start ⟨prog, w.params⟩ n f js i tk st A c).st))
    (ec : finOf (start ⟨prog, w.params⟩ n f js i tk st A c).t = some v) (ek : stkNil (start ⟨prog, w.params⟩ n f js i tk st A c).stk = true)
    (k : ∀ z h', Here n h0 h' i' (st' z) → R (.ok (.ret v)) ⟨h', gs, d, tk', os⟩) :
    codeAny (model prog w) A c R ⟨h, gs, d, tk, os⟩ := by
  refine go_code (engine f js H e fun h' H' => ?_)
  have z := k _ h' (show Here n h0 h' i' (st' (zf _)) from es ▸ ei ▸ H')
  rw [← et] at z
  unfold start at ek ec z
  generalize drive denZ ⟨prog, w.params⟩ n f js i tk st [] A c [] (denZ c) = y at *
  obtain ⟨_, _, _, _, _, _, stk, _⟩ := y
  cases stk with
  | nil => exact go_fin ec z
  | cons a b => cases ek
theorem resume_call (f : Nat) (js : List Nat) (i' tk' : Nat) {α : Type} (zf : List (Addr × Obj) → α) (st' : α → List (Addr × Obj)) (c' : Code) (H : Here n h0 h i st)
    (e : (resume ⟨prog, w.params⟩ n f js i tk st x r).eqs = ((resume ⟨prog, w.params⟩ n f js i tk st x r).eqs.map Prod.fst).map fun x => (x, x))
    (ei : (resume ⟨prog, w.params⟩ n f js i tk st x r).i = i') (et : (resume ⟨prog, w.params⟩ n f js i tk st x r).tk = tk') (es : (resume ⟨prog, w.params⟩ n f js i tk st x r).st = st' (zf (resume ⟨prog, w.params⟩ n f js i tk st x r).st))
    (ec : callCode (resume ⟨prog, w.params⟩ n f js i tk st x r).t = some c')
    (k : ∀ z h' y, y = resume ⟨prog, w.params⟩ n f js i tk st x r → Here n h0 h' i' (st' z) → codeAny (model prog w) (AtC y) c' (Wants (model prog w) R y) ⟨h', gs, d, tk', os⟩) :
    Wants (model prog w) R x r ⟨h, gs, d, tk, os⟩ := by
  refine engine (A := x.A) (c := x.c) (stk := x.stk) (t := callK x.t r) f js H e fun h' H' => ?_
  refine go_call ec ?_
  have z := k _ h' _ rfl (show Here n h0 h' i' (st' (zf _)) from es ▸ ei ▸ H')
  rw [← et] at z
  exact z
theorem resume_end (f : Nat) (js : List Nat) (i' tk' : Nat) {α : Type} (zf : List (Addr × Obj) → α) (st' : α → List (Addr × Obj)) (v : Value) (H : Here n h0 h i st)
    (e : (resume ⟨prog, w.params⟩ n f js i tk st x r).eqs = ((resume ⟨prog, w.params⟩ n f js i tk st x r).eqs.map Prod.fst).map fun x => (x, x))
    (ei : (resume ⟨prog, w.params⟩ n f js i tk st x r).i = i') (et : (resume ⟨prog, w.params⟩ n f js i tk st x r).tk = tk') (es : (resume ⟨prog, w.params⟩ n f js i tk st x r).st = st' (zf (resume ⟨prog, w.params⟩ n f js i tk st x r).st))
    (ec : finOf (resume ⟨prog, w.params⟩ n f js i tk st x r).t = some v) (ek : stkNil (resume ⟨prog, w.params⟩ n f js i tk st x r).stk = true)
    (k : ∀ z h', Here n h0 h' i' (st' z) → R (.ok (.ret v)) ⟨h', gs, d, tk', os⟩) :
    Wants (model prog w) R x r ⟨h, gs, d, tk, os⟩ := by
  refine engine (A := x.A) (c := x.c) (stk := x.stk) (t := callK x.t r) f js H e fun h' H' => ?_
  have z := k _ h' (show Here n h0 h' i' (st' (zf _)) from es ▸ ei ▸ H')
  rw [← et] at z
  unfold resume at ek ec z
  generalize drive denZ ⟨prog, w.params⟩ n f js i tk st [] x.A x.c x.stk (callK x.t r) = y at *
  obtain ⟨_, _, _, _, _, _, stk, _⟩ := y
  cases stk with
  | nil => exact go_fin ec z
  | cons a b => cases ek
end
end

section
set_option maxRecDepth 100000
open PySem PySem.W PyProof.Rows PySem.Calls PySem.W.X

theorem Here.ext {n : Addr} {h0 h : Heap} {i : Nat} {st0 news : List (Addr × Obj)} (H : Here n h0 h i (st0 ++ news)) (g : ∀ p ∈ st0, h0.get? p.1 = some p.2) (hn : h0.objs.size = n) (hnew : ∀ p ∈ news, n ≤ p.1) (b : Addr) (o : Obj) (e : h0.get? b = some o) : h.get? b = some o := by
  by_cases hb : b ∈ (st0 ++ news).map (·.1)
  · rw [List.map_append, List.mem_append] at hb
    rcases hb with hb | hb
    · obtain ⟨p, hp, rfl⟩ := List.mem_map.mp hb
      rw [g p hp] at e
      cases e
      exact H.get p (List.mem_append_left _ hp)
    · obtain ⟨p, hp, rfl⟩ := List.mem_map.mp hb
      have h1 := Heap.lt_size e
      have h2 := hnew p hp
      rw [hn] at h1
      exact absurd h1 (Nat.not_lt.mpr h2)
  · exact H.keep b o hb e
theorem Here.begin {h : Heap} {st : List (Addr × Obj)} (g : ∀ p ∈ st, h.get? p.1 = some p.2) (nd : (st.map (·.1)).Nodup) : Here h.objs.size h h 0 st := ⟨g, nd, rfl, fun _ _ _ e => e⟩

noncomputable def sQual : Str := ⟨#[99, 109, 112, 95, 116, 111, 95, 107, 101, 121, 46, 60, 108, 111, 99, 97, 108, 115, 62, 46, 75]⟩
noncomputable def sObj : Str := ⟨#[111, 98, 106]⟩
noncomputable def sK : Str := ⟨#[75]⟩
/-- the names of the class's own methods -/
structure Fs where
  init : Addr
  lt : Addr
  gt : Addr
  eq : Addr
  le : Addr
  ge : Addr
structure Tks where
  (u1 u2 u3 u4 u5 u6 u7 u8 u9 u10 u11 u12 v1 v2 v3 : Tok)
  (h1 h2 h3 h4 h5 h6 h7 h8 h9 h10 h11 h12 : Int)
noncomputable def eMod (T : Tks) : DictEntry := ⟨T.h1, .str ⟨#[95, 95, 109, 111, 100, 117, 108, 101, 95, 95]⟩ T.u1, .str ⟨#[99, 112, 121, 51, 49, 51, 46, 102, 117, 110, 99, 116, 111, 111, 108, 115]⟩ T.v1⟩
noncomputable def eQual (T : Tks) : DictEntry := ⟨T.h2, .str ⟨#[95, 95, 113, 117, 97, 108, 110, 97, 109, 101, 95, 95]⟩ T.u2, .str sQual T.v2⟩
noncomputable def eTail (T : Tks) (F : Fs) (L SA : Addr) : List DictEntry := [
  ⟨T.h3, .str ⟨#[95, 95, 102, 105, 114, 115, 116, 108, 105, 110, 101, 110, 111, 95, 95]⟩ T.u3, .int 65 T.v3⟩,
  ⟨T.h4, .str ⟨#[95, 95, 115, 108, 111, 116, 115, 95, 95]⟩ T.u4, .ref L⟩,
  ⟨T.h5, .str ⟨#[95, 95, 105, 110, 105, 116, 95, 95]⟩ T.u5, .ref F.init⟩,
  ⟨T.h6, .str ⟨#[95, 95, 108, 116, 95, 95]⟩ T.u6, .ref F.lt⟩,
  ⟨T.h7, .str ⟨#[95, 95, 103, 116, 95, 95]⟩ T.u7, .ref F.gt⟩,
  ⟨T.h8, .str ⟨#[95, 95, 101, 113, 95, 95]⟩ T.u8, .ref F.eq⟩,
  ⟨T.h9, .str ⟨#[95, 95, 108, 101, 95, 95]⟩ T.u9, .ref F.le⟩,
  ⟨T.h10, .str ⟨#[95, 95, 103, 101, 95, 95]⟩ T.u10, .ref F.ge⟩,
  ⟨T.h11, .str ⟨#[95, 95, 104, 97, 115, 104, 95, 95]⟩ T.u11, .none⟩,
  ⟨T.h12, .str ⟨#[95, 95, 115, 116, 97, 116, 105, 99, 95, 97, 116, 116, 114, 105, 98, 117, 116, 101, 115, 95, 95]⟩ T.u12, .ref SA⟩]
noncomputable def bodyNs (T : Tks) (F : Fs) (L SA : Addr) (ep : Nat) : Obj := ⟨.type "dict", none, .dict ⟨eMod T :: eQual T :: eTail T F L SA⟩ ep, #[]⟩
/-- the class's namespace: descriptor D of the slot; x, y: hashes; t: tokens -/
noncomputable def kNs (T : Tks) (F : Fs) (L SA D : Addr) (x y : Int) (t t' : Tok) : Obj :=
  ⟨.type "dict", none, .dict ⟨eMod T :: (eTail T F L SA ++ [⟨x, .str sObj t, .ref D⟩, ⟨y, .str ⟨#[95, 95, 100, 111, 99, 95, 95]⟩ t', .none⟩])⟩ 3, #[]⟩
noncomputable def kCls (K NS B : Addr) (t0 v2 : Tok) : Obj :=
  ⟨.type "type", none, .cls { name := sK, bases := [.type "object"], mro := [.ref K, .type "object"], ns := NS, qualname := sQual, hasDict := false, slotNames := [sObj] },
    #[some (.ref B), none, some (.str sK t0), some (.str sQual v2), some (.builtin "object.__new__"), some (.bool false)]⟩
noncomputable def kDesc (K : Addr) (t : Tok) : Obj := ⟨.type "member_descriptor", none, .fields #[.str sObj t, .ref K, .builtin "proto.slot", .builtin "proto.slot#set", .int 0 0], #[]⟩
noncomputable def fnObj (d : FuncData) : Obj := ⟨.type "function", none, .func d, #[]⟩
noncomputable def objList (w1 : Tok) (e : Nat) : Obj := ⟨.type "list", none, .seq #[.str sObj w1] e, #[]⟩
noncomputable def objTup (w2 : Tok) : Obj := ⟨.type "tuple", none, .seq #[.str sObj w2] 0, #[]⟩
noncomputable def st0 (B NS L SA : Addr) (F : Fs) (T : Tks) (ep : Nat) (w1 w2 : Tok) (d1 d2 d3 d4 d5 d6 : FuncData) : List (Addr × Obj) := [
  (B, ⟨.type "tuple", none, .seq #[.type "object"] 0, #[]⟩), (NS, bodyNs T F L SA ep), (L, objList w1 0),
  (F.init, fnObj d1), (F.lt, fnObj d2), (F.gt, fnObj d3), (F.eq, fnObj d4), (F.le, fnObj d5), (F.ge, fnObj d6), (SA, objTup w2)]
noncomputable def supObj (v : Value) : Obj := ⟨.type "super", none, .fields #[v, v, v], #[]⟩
noncomputable def hashAt (j e : Nat) (st : List (Addr × Obj)) : Int := match st[j]? with
  | some (_, ⟨_, _, .dict es _, _⟩) => match es.toList[e]? with | some x => x.hash | none => 0
  | _ => 0
end

section
set_option maxRecDepth 100000
set_option maxHeartbeats 1000000
open PySem PySem.W PyProof.Rows PySem.Calls PySem.W.X
theorem tn_ext : Builtin.extendedBase [.type "object"] = pure (.type "object") := by kernel_rfl
theorem tn_best : Builtin.Slots.bestBase [.type "object"] = pure (.type "object") := by kernel_rfl
theorem tn_turn : Builtin.notOverATurnedClass [.type "object"] = pure () := by kernel_rfl
theorem tn_names : Builtin.Slots.slotNamesOf (.type "object") = pure [] := by kernel_rfl
theorem tn_dict : Builtin.Slots.givesDict (.type "object") = pure false := by kernel_rfl
theorem tn_weak : Builtin.Slots.givesWeak (.type "object") = pure false := by kernel_rfl
theorem tn_var : Builtin.Slots.varSize (.type "object") = pure false := by kernel_rfl
theorem tn_made : Bind.madeBy (.type "object") = pure (some "object.__new__") := by kernel_rfl
theorem tn_lin : Builtin.linearize [.type "object"] mroOf = pure [.type "object"] := by kernel_rfl
theorem tn_hook : Builtin.mroHook? (.type "type") = pure none := by kernel_rfl

theorem tn_tup : isSubtype (.type "tuple") (.type "tuple") = pure true := by kernel_rfl
theorem tn_dct : isSubtype (.type "dict") (.type "dict") = pure true := by kernel_rfl
theorem tn_typ : isSubtype (.type "type") (.type "type") = pure true := by kernel_rfl
theorem tn_isT : isType (.type "object") = pure true := by kernel_rfl
theorem tn_to : typeOf (.type "object") = pure (.type "type") := by kernel_rfl
theorem tn_iter : typeLookup (.type "dict") "__iter__" = pure (some (.builtin "dict.__iter__")) := by rw [typeLookup_type, builtinLookup_eq_fast]; kernel_rfl
section
variable {prog : Program} {w : World} {A : Around} {h : Heap} {gs : Array GenState} {d : Drawn} {os : OsState} {tk : Nat} {Q : Fin → Shared → Prop} {E : Value → Shared → Prop}
theorem by_skim {α : Type} {s : Shared} {t : Sem α} {v : α} {Q : α → Shared → Prop} (n : Nat) (e : skim ⟨prog, w.params⟩ n t = .pure v) (hq : Q v s) : wpAny (model prog w) A t Q E s := by
  refine x_skim n ?_
  rw [e]
  exact wpAny_pure hq
theorem read_K {L SA : Addr} {F : Fs} {T : Tks} {w1 : Tok} {Q : Builtin.Slots.Plan → Shared → Prop} (hL : h.get? L = some (objList w1 0))
    (hq : Q { names := [sObj], dict := false, weak := false, inherited := [] } ⟨(h.push { cls := .type "list", data := .seq #[] }).update h.objs.size (Obj.mapSeq (· ++ #[.str sObj w1])), gs, d, tk, os⟩) :
    wpAny (model prog w) A (Builtin.Slots.read sK [.type "object"] ⟨eMod T :: eQual T :: eTail T F L SA⟩) Q E ⟨h, gs, d, tk, os⟩ := by
  have e2 := tn_best
  have e4 := tn_names
  have e5 := tn_dict
  have e6 := tn_weak
  have e7 := tn_var
  have hf : (⟨eMod T :: eQual T :: eTail T F L SA⟩ : Array DictEntry).find? (·.key.isStr "__slots__") = some ⟨T.h4, .str ⟨#[95, 95, 115, 108, 111, 116, 115, 95, 95]⟩ T.u4, .ref L⟩ := by kernel_rfl
  have ho : Looks (model prog w) h (asStr? (.ref L)) none := by
    intro A Q E s k q
    unfold asStr?
    refine wpAny_bind (wpAny_load (k _ _ hL) ?_)
    exact wpAny_pure q
  have hc : ∀ {Q : List Value → Shared → Prop} {E : Value → Shared → Prop}, Q [.str sObj w1] ⟨(h.push { cls := .type "list", data := .seq #[] }).update h.objs.size (Obj.mapSeq (· ++ #[.str sObj w1])), gs, d, tk, os⟩ → wpAny (model prog w) A (collect (.ref L)) Q E ⟨h, gs, d, tk, os⟩ := by
    intro Q E hq
    unfold collect
    refine wpAny_bind (wpAny_runValue (code_collect hL rfl rfl (by simp [sizeLine]) ?_))
    show wpAny _ A (load h.objs.size >>= _) _ _ _
    refine wpAny_bind (wpAny_load (Heap.get?_update_self _ (Heap.get?_push_size _ rfl) rfl) ?_)
    exact wpAny_pure hq
  unfold Builtin.Slots.read
  simp only [hf]
  repeat (first
    | (with_reducible refine Looks.at ho ?_)
    | (with_reducible refine hc ?_; exact by_skim 300 (by kernel_rfl) hq)
    | wp_step
    | dsimp only)
end
end

section
set_option maxRecDepth 100000
set_option maxHeartbeats 1000000
open PySem PySem.W PyProof.Rows PySem.Calls PySem.W.X
section
variable {prog : Program} {w : World} {A : Around} {h : Heap} {gs : Array GenState} {d : Drawn} {os : OsState} {tk : Nat} {R : Result → Shared → Prop} {E : Value → Shared → Prop}
theorem entry_tn : entryFor table "type.__new__" = some Builtin.«type.__new__» := entryFor_of_tree (by kernel_rfl)
theorem newDictH {n i : Nat} {h0 h : Heap} {st : List (Addr × Obj)} {es : Array DictEntry} {Q : Value → Shared → Prop} (H : Here n h0 h i st) (hs : es.size ≤ 100) (hq : ∀ h', Here n h0 h' (i + 1) (st ++ [(n + i, ⟨.type "dict", none, .dict es 0, #[]⟩)]) → Q (.ref (n + i)) ⟨h', gs, d, tk, os⟩) :
    wpAny (model prog w) A (newObj (.type "dict") (.dict es)) Q E ⟨h, gs, d, tk, os⟩ := by
  unfold newObj newObjAsIs
  have : ¬ es.size > sizeLine + 1 := by simp [sizeLine]; omega
  simp only [this, if_false]
  refine wpAny_bind (wpAny_alloc (wpAny_pure ?_))
  show Q (.ref h.objs.size) _
  rw [H.size]
  exact hq _ (H.add rfl)
theorem allocH {n i : Nat} {h0 h : Heap} {st : List (Addr × Obj)} {o : Obj} {Q : Addr → Shared → Prop} (H : Here n h0 h i st) (hf : o.isFreed = false) (hq : ∀ h', Here n h0 h' (i + 1) (st ++ [(n + i, o)]) → Q (n + i) ⟨h', gs, d, tk, os⟩) :
    wpAny (model prog w) A (alloc o) Q E ⟨h, gs, d, tk, os⟩ := by
  refine wpAny_alloc ?_
  show Q h.objs.size _
  rw [H.size]
  exact hq _ (H.add hf)
theorem setSlotH {n i : Nat} {h0 h : Heap} {st : List (Addr × Obj)} {a : Addr} {o : Obj} {k : Nat} {v : Option Value} {Q : Unit → Shared → Prop} (H : Here n h0 h i st) (j : Nat) (ej : st[j]? = some (a, o)) (hk : k < 10) (hf : ({ o with slots := (o.slots ++ Array.replicate (k + 1 - o.slots.size) none).setIfInBounds k v } : Obj).isFreed = false)
    (hq : ∀ h', Here n h0 h' i (st.set j (a, { o with slots := (o.slots ++ Array.replicate (k + 1 - o.slots.size) none).setIfInBounds k v })) → Q () ⟨h', gs, d, tk, os⟩) :
    wpAny (model prog w) A (setSlotAt a k v) Q E ⟨h, gs, d, tk, os⟩ := by
  unfold setSlotAt
  have : ¬ k ≥ sizeLine := by simp [sizeLine]; omega
  simp only [this, if_false]
  refine wpAny_updatePart (H.get _ (List.mem_of_getElem? ej)) ?_
  exact hq _ (H.put ej _ hf)
theorem nsGetH {n i : Nat} {h0 h : Heap} {st : List (Addr × Obj)} {a : Addr} {o : Obj} {name : Str} {Q : Option Value → Shared → Prop} (H : Here n h0 h i st) (j : Nat) (v : Option Value) (ej : st[j]? = some (a, o)) (e : nsLook name o = .pure v) (hq : Q v ⟨h, gs, d, tk, os⟩) :
    wpAny (model prog w) A (nsGet a name) Q E ⟨h, gs, d, tk, os⟩ := by
  unfold nsGet
  refine wpAny_bind (wpAny_loadPart (H.get _ (List.mem_of_getElem? ej)) ?_)
  rw [e]
  exact wpAny_pure hq
theorem nsDelH {n i : Nat} {h0 h : Heap} {st : List (Addr × Obj)} {a : Addr} {o : Obj} {name : Str} {Q : Bool → Shared → Prop} (H : Here n h0 h i st) (j : Nat) (ej : st[j]? = some (a, o)) (e : nsHas name o = .pure true) (hf : (Obj.dropName name o).isFreed = false)
    (hq : ∀ h', Here n h0 h' i (st.set j (a, Obj.dropName name o)) → Q true ⟨h', gs, d, tk, os⟩) :
    wpAny (model prog w) A (nsDel a name) Q E ⟨h, gs, d, tk, os⟩ := by
  unfold nsDel
  refine wpAny_bind (wpAny_loadPart (H.get _ (List.mem_of_getElem? ej)) ?_)
  rw [e]
  refine wpAny_bind (wpAny_pure ?_)
  rw [if_pos rfl]
  refine wpAny_bind (wpAny_updatePart (H.get _ (List.mem_of_getElem? ej)) ?_)
  exact wpAny_pure (hq _ (H.put ej _ hf))
theorem new_K {B NS L SA : Addr} {F : Fs} {T : Tks} {ep : Nat} {w1 w2 t0 : Tok} {d1 d2 d3 d4 d5 d6 : FuncData} (hNS : (NS == sysModules) = false)
    (hst : ∀ p ∈ st0 B NS L SA F T ep w1 w2 d1 d2 d3 d4 d5 d6, h.get? p.1 = some p.2)
    (hnd : ((st0 B NS L SA F T ep w1 w2 d1 d2 d3 d4 d5 d6).map (·.1)).Nodup)
    (hno : ∀ K, Looks (model prog w) h (opaqueClassAbove (.ref K)) none)
    (hR : ∀ x y h', (∀ a o, h.get? a = some o → h'.get? a = some o) → h'.get? (h.objs.size + 2) = some (kCls (h.objs.size + 2) (h.objs.size + 1) B t0 T.v2) →
      h'.get? (h.objs.size + 1) = some (kNs T F L SA (h.objs.size + 3) x y (tk + 1) (tk + 2)) → h'.get? (h.objs.size + 3) = some (kDesc (h.objs.size + 2) tk) →
      R (.ok (.ret (.ref (h.objs.size + 2)))) ⟨h', gs, d, tk + 4, os⟩) :
    codeAny (model prog w) A (.builtin "type.__new__" ⟨[.type "type", .str sK t0, .ref B, .ref NS], []⟩) R ⟨h, gs, d, tk, os⟩ := by
  have hB : h.get? B = some ⟨.type "tuple", none, .seq #[.type "object"] 0, #[]⟩ := hst (B, _) (.head _)
  have hN : h.get? NS = some (bodyNs T F L SA ep) := hst (NS, _) (.tail _ (.head _))
  have hL : h.get? L = some (objList w1 0) := hst (L, _) (.tail _ (.tail _ (.head _)))
  have hTB : Shared.TypeIs ⟨h, gs, d, tk, os⟩ (.ref B) "tuple" := ⟨_, hB, rfl⟩
  have hTN : Shared.TypeIs ⟨h, gs, d, tk, os⟩ (.ref NS) "dict" := ⟨_, hN, rfl⟩
  have e11 := tn_tup
  have e12 := tn_dct
  have e13 := tn_typ
  have e14 := tn_isT
  have e15 := tn_to
  have e16 := tn_iter
  refine codeAny_builtin entry_tn ?_
  unfold Builtin.«type.__new__»
  repeat ((fail_if_success (with_reducible show wpAny _ _ (Builtin.Slots.read _ _ _) _ _ _)); (first
    | ((with_reducible show wpAny _ _ (Builtin.notOverATurnedClass _) _ _ _); refine wpAny_of_eq tn_turn ?_)
    | ((with_reducible show wpAny _ _ (Builtin.extendedBase _) _ _ _); refine wpAny_of_eq tn_ext ?_)
    | (with_reducible refine wpAny_loadPart_at hB ?_)
    | (with_reducible refine wpAny_loadPart_at hN ?_)
    | wp_step
    | dsimp only))
  refine read_K hL ?_
  have H1 := ((Here.begin hst hnd).add (o := { cls := .type "list", data := .seq #[] }) rfl).put (j := 10) (p := (h.objs.size + 0, { cls := .type "list", data := .seq #[] })) rfl (Obj.mapSeq (· ++ #[.str sObj w1])) rfl
  generalize hn : h.objs.size = n at H1
  replace H1 : Here n h ((h.push { cls := .type "list", data := .seq #[] }).update (n + 0) (Obj.mapSeq (· ++ #[.str sObj w1]))) 1 (st0 B NS L SA F T ep w1 w2 d1 d2 d3 d4 d5 d6 ++ [(n + 0, objList w1 1)]) := H1
  show wpAny _ _ _ _ _ ⟨(h.push { cls := .type "list", data := .seq #[] }).update (n + 0) (Obj.mapSeq (· ++ #[.str sObj w1])), gs, d, tk, os⟩
  generalize (h.push { cls := .type "list", data := .seq #[] }).update (n + 0) (Obj.mapSeq (· ++ #[.str sObj w1])) = h1 at H1 ⊢
  refine wpAny_bind (newDictH H1 (by show 12 ≤ 100; omega) fun h2 H2 => ?_)
  repeat ((fail_if_success (with_reducible show wpAny _ _ (List.anyM _ _) _ _ _)); (first
    | ((with_reducible show wpAny _ _ (nsGet _ (Str.ofString "__qualname__")) _ _ _); refine nsGetH (H := by assumption) 11 (some (.str sQual T.v2)) (ej := by rfl) (e := by kernel_rfl) ?_)
    | ((with_reducible show wpAny _ _ (nsGet _ _) _ _ _); refine nsGetH (H := by assumption) 11 none (ej := by rfl) (e := by kernel_rfl) ?_)
    | ((with_reducible show wpAny _ _ (nsDel _ _) _ _ _); refine nsDelH (H := by assumption) 11 (ej := by rfl) (e := by kernel_rfl) (hf := by rfl) ?_; intro _ _)
    | ((with_reducible show wpAny _ _ (alloc _) _ _ _); refine allocH (H := by assumption) (hf := by rfl) ?_; intro _ _)
    | ((with_reducible show wpAny _ _ (setSlotAt _ _ _) _ _ _); refine setSlotH (H := by assumption) 12 (ej := by rfl) (hk := by omega) (hf := by rfl) ?_; intro _ _)
    | ((with_reducible show wpAny _ _ (Builtin.mroHook? _) _ _ _); refine wpAny_of_eq tn_hook ?_)
    | ((with_reducible show wpAny _ _ (Builtin.linearize _ _) _ _ _); refine wpAny_of_eq tn_lin ?_)
    | wp_step
    | ((with_reducible apply wpAny_ite_false); focus (kernel_rfl; done))))
  refine by_skim (v := false) 10 (by rw [show List.filter (fun x => x != Value.ref (n + (1 + 1))) [Value.ref (n + (1 + 1)), Value.type "object"] = [Value.type "object"] by simp]; kernel_rfl) ?_
  refine tree_call 47 [12, 12, 12, 12, 12, 12, 12, 11, 11, 11, 11, 11, 12, 12, 12, 12, 11, 11, 11, 11, 11, 11, 11, 2, 3, 4, 5, 6, 7, 8, 9, 13, 12, 14, 14] 5 (tk + 3)
    (fun st => (hashAt 11 11 st, hashAt 11 12 st)) (fun z : Int × Int => st0 B NS L SA F T ep w1 w2 d1 d2 d3 d4 d5 d6 ++ [(n + 0, objList w1 1),
      (n + 1, kNs T F L SA (n + 3) z.1 z.2 (tk + 1) (tk + 2)), (n + 2, kCls (n + 2) (n + 1) B t0 T.v2), (n + 3, kDesc (n + 2) tk), (n + 4, supObj .none)])
    (.call (.builtin "super.__init__") ⟨[.ref (n + 4), .ref (n + 2), .ref (n + 2)], []⟩) (H := by assumption)
    (by kernel_rfl) (by kernel_rfl) (by kernel_rfl) (by kernel_rfl) (by kernel_rfl) ?_
  intro z h3 x3 hx3 H3
  subst hx3
  have g3 := H3.get
  refine code_super_init (g3 (n + 4, supObj .none) (by simp [st0])) (g3 (n + 2, kCls (n + 2) (n + 1) B t0 T.v2) (by simp [st0])) rfl rfl ?_
  intro h4 e4 sb4
  have H4 := H3.same (j := 14) (p := (n + 4, supObj .none)) rfl e4 sb4
  replace H4 : Here n h h4 5 (st0 B NS L SA F T ep w1 w2 d1 d2 d3 d4 d5 d6 ++ [(n + 0, objList w1 1),
      (n + 1, kNs T F L SA (n + 3) z.1 z.2 (tk + 1) (tk + 2)), (n + 2, kCls (n + 2) (n + 1) B t0 T.v2), (n + 3, kDesc (n + 2) tk), (n + 4, supObj (.ref (n + 2)))]) := H4
  refine resume_call 3 [14] 5 (tk + 4) (fun _ => ()) (fun _ => st0 B NS L SA F T ep w1 w2 d1 d2 d3 d4 d5 d6 ++ [(n + 0, objList w1 1),
      (n + 1, kNs T F L SA (n + 3) z.1 z.2 (tk + 1) (tk + 2)), (n + 2, kCls (n + 2) (n + 1) B t0 T.v2), (n + 3, kDesc (n + 2) tk), (n + 4, supObj (.ref (n + 2)))])
    (.call (.builtin "super.__getattribute__") ⟨[.ref (n + 4), .str "__init_subclass__" (tk + 3)], []⟩) H4
    (by kernel_rfl) (by kernel_rfl) (by kernel_rfl) (by kernel_rfl) (by kernel_rfl) ?_
  intro _ h5 x5 hx5 H5
  subst hx5
  have ext5 := H5.ext hst hn (by intro p hp; simp at hp; rcases hp with rfl | rfl | rfl | rfl | rfl <;> simp)
  refine code_super_ga (H5.get (n + 4, supObj (.ref (n + 2))) (by simp [st0])) (H5.get (n + 2, kCls (n + 2) (n + 1) B t0 T.v2) (by simp [st0])) rfl rfl ((hno _).keeps ext5) ?_
  intro h6 e6 k6 s6
  have H6 := H5.grow e6 k6 s6
  show Wants _ _ _ (.ok (.ret (.ref h5.objs.size))) _
  rw [H5.size]
  refine resume_end 15 [15, 12, 12, 12, 12, 12, 12, 12] 6 (tk + 4) (fun _ => ()) (fun _ => st0 B NS L SA F T ep w1 w2 d1 d2 d3 d4 d5 d6 ++ [(n + 0, objList w1 1),
      (n + 1, kNs T F L SA (n + 3) z.1 z.2 (tk + 1) (tk + 2)), (n + 2, kCls (n + 2) (n + 1) B t0 T.v2), (n + 3, kDesc (n + 2) tk), (n + 4, supObj (.ref (n + 2))), (n + 5, ⟨.type "builtin_function_or_method", none, .fields #[.builtin "object.__init_subclass__", .ref (n + 2)], #[]⟩)])
    (.ref (n + 2)) H6 (by kernel_rfl) (by kernel_rfl) (by kernel_rfl) (by kernel_rfl) (by kernel_rfl) (by kernel_rfl) ?_
  intro _ h7 H7
  have ext7 := H7.ext hst hn (by intro p hp; simp at hp; rcases hp with rfl | rfl | rfl | rfl | rfl | rfl <;> simp)
  have k2 := H7.get (n + 2, kCls (n + 2) (n + 1) B t0 T.v2) (by simp [st0])
  have k1 := H7.get (n + 1, kNs T F L SA (n + 3) z.1 z.2 (tk + 1) (tk + 2)) (by simp [st0])
  have k3 := H7.get (n + 3, kDesc (n + 2) tk) (by simp [st0])
  subst hn
  exact hR z.1 z.2 h7 ext7 k2 k1 k3
end
end

section
set_option maxRecDepth 100000
set_option maxHeartbeats 1000000
open PySem PySem.W PyProof.Rows PySem.Calls PySem.W.X
section
variable {prog : Program} {w : World} {A : Around} {h : Heap} {gs : Array GenState} {d : Drawn} {os : OsState} {tk : Nat} {R : Result → Shared → Prop}
theorem chk_tn (t0 : Tok) (B NS : Addr) : checkBuiltinCall "type.__new__" ⟨[.type "type", .str sK t0, .ref B, .ref NS], []⟩ = pure () := by kernel_rfl
theorem call_type_K {B NS L SA : Addr} {F : Fs} {T : Tks} {ep : Nat} {w1 w2 t0 : Tok} {d1 d2 d3 d4 d5 d6 : FuncData} (hNS : (NS == sysModules) = false)
    (hst : ∀ p ∈ st0 B NS L SA F T ep w1 w2 d1 d2 d3 d4 d5 d6, h.get? p.1 = some p.2)
    (hnd : ((st0 B NS L SA F T ep w1 w2 d1 d2 d3 d4 d5 d6).map (·.1)).Nodup)
    (hno : ∀ K, Looks (model prog w) h (opaqueClassAbove (.ref K)) none)
    (hR : ∀ x y h', (∀ a o, h.get? a = some o → h'.get? a = some o) → h'.get? (h.objs.size + 2) = some (kCls (h.objs.size + 2) (h.objs.size + 1) B t0 T.v2) →
      h'.get? (h.objs.size + 1) = some (kNs T F L SA (h.objs.size + 3) x y (tk + 1) (tk + 2)) → h'.get? (h.objs.size + 3) = some (kDesc (h.objs.size + 2) tk) →
      R (.ok (.ret (.ref (h.objs.size + 2)))) ⟨h', gs, d, tk + 4, os⟩) :
    codeAny (model prog w) A (.call (.type "type") ⟨[.str sK t0, .ref B, .ref NS], []⟩) R ⟨h, gs, d, tk, os⟩ := by
  refine start_call 1 [] 0 tk (fun _ => ()) (fun _ => []) (.call (.builtin "type.__new__") ⟨[.type "type", .str sK t0, .ref B, .ref NS], []⟩) (Here.begin (st := []) (by simp) (by simp))
    (by kernel_rfl) (by kernel_rfl) (by kernel_rfl) (by kernel_rfl) (by kernel_rfl) ?_
  intro _ h1 x1 hx1 H1
  have k1 : ∀ b o, h.get? b = some o → h1.get? b = some o := fun b o e => H1.keep b o (by simp) e
  have s1 : h1.objs.size = h.objs.size := H1.size
  subst hx1
  refine codeAny_call_builtin_code (plainId_quiet (by decide +kernel) _) (wpAny_of_eq (chk_tn _ _ _) ?_)
  refine new_K hNS (fun p hp => k1 _ _ (hst p hp)) hnd (fun K => (hno K).keeps k1) ?_
  intro x y h2 k2 e2 e1 e3
  rw [s1] at e1 e2 e3 ⊢
  refine resume_end 6 [0, 0, 0] 0 (tk + 4) (fun _ => ()) (fun _ => [(h.objs.size + 2, kCls (h.objs.size + 2) (h.objs.size + 1) B t0 T.v2)]) (.ref (h.objs.size + 2))
    (Here.begin (st := [(h.objs.size + 2, kCls (h.objs.size + 2) (h.objs.size + 1) B t0 T.v2)]) (by intro p hp; simp only [List.mem_singleton] at hp; subst hp; exact e2) (by simp))
    (by kernel_rfl) (by kernel_rfl) (by kernel_rfl) (by kernel_rfl) (by kernel_rfl) (by kernel_rfl) ?_
  intro _ h3 H3
  have k3 := Here.ext (st0 := [(h.objs.size + 2, kCls (h.objs.size + 2) (h.objs.size + 1) B t0 T.v2)]) (news := []) H3 (by intro p hp; simp only [List.mem_singleton] at hp; subst hp; exact e2) rfl (by simp)
  exact hR x y h3 (fun a o e => k3 _ _ (k2 _ _ (k1 _ _ e))) (k3 _ _ e2) (k3 _ _ e1) (k3 _ _ e3)
end
end

section
set_option maxRecDepth 100000
open PySem PySem.W PyProof.Rows PySem.Calls PySem.W.X
/-- the engine for a piece of a tree that makes no call -/
structure CfV (α : Type) where
  i : Nat
  tk : Nat
  st : List (Addr × Obj)
  eqs : List (Nat × Nat)
  t : Sem α
noncomputable def driveV {α : Type} (g : Setting) (n : Addr) : Nat → List Nat → Nat → Nat → List (Addr × Obj) → List (Nat × Nat) → Sem α → CfV α
  | 0, _, i, tk, st, eqs, t => ⟨i, tk, st, eqs, t⟩
  | f + 1, js, i, tk, st, eqs, .rule _ k => driveV g n f js i tk st eqs (k ())
  | f + 1, js, i, tk, st, eqs, .at _ k => driveV g n f js i tk st eqs (k ())
  | f + 1, js, i, tk, st, eqs, .point _ k => driveV g n f js i tk st eqs (k ())
  | f + 1, js, i, tk, st, eqs, .ask k => driveV g n f js i tk st eqs (k g)
  | f + 1, js, i, tk, st, eqs, .fresh k => driveV g n f js i (tk + 1) st eqs (k tk)
  | f + 1, js, i, tk, st, eqs, .alloc o k => driveV g n f js (i + 1) tk (st ++ [(n + i, o)]) ((cond o.isFreed 1 0, 0) :: eqs) (k (n + i))
  | f + 1, j :: js, i, tk, st, eqs, .load a q k => match st[j]? with
    | some p => driveV g n f js i tk st ((a, p.1) :: eqs) (k p.2)
    | none => ⟨i, tk, st, eqs, .load a q k⟩
  | f + 1, j :: js, i, tk, st, eqs, .update a q u k => match st[j]? with
    | some p => driveV g n f js i tk (st.set j (p.1, u p.2)) ((a, p.1) :: (cond (u p.2).isFreed 1 0, 0) :: eqs) (k ())
    | none => ⟨i, tk, st, eqs, .update a q u k⟩
  | _ + 1, _, i, tk, st, eqs, t => ⟨i, tk, st, eqs, t⟩
theorem driveV_load {α : Type} (g : Setting) (n : Addr) (f j : Nat) (js : List Nat) (i tk : Nat) (st : List (Addr × Obj)) (eqs : List (Nat × Nat)) (a : Addr) (q : Option Value) (k : Obj → Sem α) :
    driveV g n (f + 1) (j :: js) i tk st eqs (.load a q k) = match st[j]? with
      | some p => driveV g n f js i tk st ((a, p.1) :: eqs) (k p.2)
      | none => ⟨i, tk, st, eqs, .load a q k⟩ := rfl
theorem driveV_upd {α : Type} (g : Setting) (n : Addr) (f j : Nat) (js : List Nat) (i tk : Nat) (st : List (Addr × Obj)) (eqs : List (Nat × Nat)) (a : Addr) (q : Option Value) (u : Obj → Obj) (k : Unit → Sem α) :
    driveV g n (f + 1) (j :: js) i tk st eqs (.update a q u k) = match st[j]? with
      | some p => driveV g n f js i tk (st.set j (p.1, u p.2)) ((a, p.1) :: (cond (u p.2).isFreed 1 0, 0) :: eqs) (k ())
      | none => ⟨i, tk, st, eqs, .update a q u k⟩ := rfl
theorem driveV_mono {α : Type} (g : Setting) (n : Addr) : ∀ (f : Nat) (js : List Nat) (i tk : Nat) (st : List (Addr × Obj)) (eqs : List (Nat × Nat)) (t : Sem α) (p : Nat × Nat), p ∈ eqs → p ∈ (driveV g n f js i tk st eqs t).eqs := by
  intro f
  induction f with
  | zero => intro js i tk st eqs t p hp; exact hp
  | succ f ih =>
    intro js i tk st eqs t p hp
    have h1 : ∀ q : Nat × Nat, p ∈ q :: eqs := fun q => List.mem_cons_of_mem _ hp
    have h2 : ∀ q r : Nat × Nat, p ∈ q :: r :: eqs := fun q r => List.mem_cons_of_mem _ (List.mem_cons_of_mem _ hp)
    cases t with
    | rule tag kk => exact ih _ _ _ _ _ _ _ hp
    | «at» pos kk => exact ih _ _ _ _ _ _ _ hp
    | point l kk => exact ih _ _ _ _ _ _ _ hp
    | ask kk => exact ih _ _ _ _ _ _ _ hp
    | fresh kk => exact ih _ _ _ _ _ _ _ hp
    | alloc o kk => exact ih _ _ _ _ _ _ _ (h1 _)
    | load a q kk =>
      cases js with
      | nil => exact hp
      | cons j js =>
        cases ej : st[j]? with
        | none => simp only [driveV_load, ej]; exact hp
        | some p => simp only [driveV_load, ej]; exact ih _ _ _ _ _ _ _ (h1 _)
    | update a q u kk =>
      cases js with
      | nil => exact hp
      | cons j js =>
        cases ej : st[j]? with
        | none => simp only [driveV_upd, ej]; exact hp
        | some p => simp only [driveV_upd, ej]; exact ih _ _ _ _ _ _ _ (h2 _ _)
    | _ => cases js <;> exact hp
theorem driveV_sound {α : Type} {prog : Program} {w : World} {A : Around} {Q : α → Shared → Prop} {E : Value → Shared → Prop} {n : Addr} {h0 : Heap} {gs : Array GenState} {d : Drawn} {os : OsState} :
    ∀ (f : Nat) (js : List Nat) (i tk : Nat) (st : List (Addr × Obj)) (eqs : List (Nat × Nat)) (t : Sem α) (h : Heap), Here n h0 h i st →
      (∀ p ∈ (driveV ⟨prog, w.params⟩ n f js i tk st eqs t).eqs, p.1 = p.2) →
      (∀ h', Here n h0 h' (driveV ⟨prog, w.params⟩ n f js i tk st eqs t).i (driveV ⟨prog, w.params⟩ n f js i tk st eqs t).st →
        wpAny (model prog w) A (driveV ⟨prog, w.params⟩ n f js i tk st eqs t).t Q E ⟨h', gs, d, (driveV ⟨prog, w.params⟩ n f js i tk st eqs t).tk, os⟩) →
      wpAny (model prog w) A t Q E ⟨h, gs, d, tk, os⟩ := by
  intro f
  induction f with
  | zero => intro js i tk st eqs t h H _ k; exact k h H
  | succ f ih =>
    intro js i tk st eqs t h H he k
    cases t with
    | rule tag kk => exact fun Γ p hΓ => (ih js i tk st eqs (kk ()) h H he k) Γ p hΓ
    | «at» pos kk => exact fun Γ p hΓ => (ih js i tk st eqs (kk ()) h H he k) Γ pos hΓ
    | point l kk => exact fun Γ p hΓ => (ih js i tk st eqs (kk ()) h H he k) Γ p hΓ
    | ask kk => exact fun Γ p hΓ => (ih js i tk st eqs (kk ⟨prog, w.params⟩) h H he k) Γ p hΓ
    | fresh kk => exact fun Γ p hΓ => (ih js i (tk + 1) st eqs (kk tk) h H he k) Γ p hΓ
    | alloc o kk =>
      have hz := he _ (driveV_mono ⟨prog, w.params⟩ n f js (i + 1) tk (st ++ [(n + i, o)]) ((cond o.isFreed 1 0, 0) :: eqs) (kk (n + i)) _ (.head _))
      have hf : o.isFreed = false := by cases q : o.isFreed with | true => rw [q] at hz; cases hz | false => rfl
      refine wp_alloc' ?_
      show wpAny _ _ (kk h.objs.size) _ _ _
      rw [H.size]
      exact ih js (i + 1) tk _ _ (kk (n + i)) (h.push o) (H.add hf) he k
    | load a q kk =>
      cases js with
      | nil => exact k h H
      | cons j js =>
        cases ej : st[j]? with
        | none =>
          have ed : driveV ⟨prog, w.params⟩ n (f + 1) (j :: js) i tk st eqs (.load a q kk) = ⟨i, tk, st, eqs, .load a q kk⟩ := by simp only [driveV_load, ej]
          rw [ed] at k; exact k h H
        | some p =>
          have ed : driveV ⟨prog, w.params⟩ n (f + 1) (j :: js) i tk st eqs (.load a q kk) = driveV ⟨prog, w.params⟩ n f js i tk st ((a, p.1) :: eqs) (kk p.2) := by simp only [driveV_load, ej]
          rw [ed] at he k
          have hz : a = p.1 := he _ (driveV_mono ⟨prog, w.params⟩ n f js i tk st ((a, p.1) :: eqs) (kk p.2) _ (.head _))
          refine wp_load' (o := p.2) ?_ (ih js i tk st _ (kk p.2) h H he k)
          show h.get? a = some p.2
          rw [hz]; exact H.get p (List.mem_of_getElem? ej)
    | update a q u kk =>
      cases js with
      | nil => exact k h H
      | cons j js =>
        cases ej : st[j]? with
        | none =>
          have ed : driveV ⟨prog, w.params⟩ n (f + 1) (j :: js) i tk st eqs (.update a q u kk) = ⟨i, tk, st, eqs, .update a q u kk⟩ := by simp only [driveV_upd, ej]
          rw [ed] at k; exact k h H
        | some p =>
          have ed : driveV ⟨prog, w.params⟩ n (f + 1) (j :: js) i tk st eqs (.update a q u kk) = driveV ⟨prog, w.params⟩ n f js i tk (st.set j (p.1, u p.2)) ((a, p.1) :: (cond (u p.2).isFreed 1 0, 0) :: eqs) (kk ()) := by simp only [driveV_upd, ej]
          rw [ed] at he k
          have hm := driveV_mono ⟨prog, w.params⟩ n f js i tk (st.set j (p.1, u p.2)) ((a, p.1) :: (cond (u p.2).isFreed 1 0, 0) :: eqs) (kk ())
          have hz : a = p.1 := he _ (hm _ (.head _))
          have hy := he _ (hm _ (.tail _ (.head _)))
          have hf : (u p.2).isFreed = false := by cases q : (u p.2).isFreed with | true => rw [q] at hy; cases hy | false => rfl
          subst hz
          exact wp_update' (o := p.2) (H.get p (List.mem_of_getElem? ej)) (ih js i tk _ _ (kk ()) (h.update p.1 u) (H.put ej u hf) he k)
    | _ => cases js <;> exact k h H
noncomputable def valOf {α : Type} : Sem α → Option α
  | .pure v => some v
  | _ => none
section
variable {prog : Program} {w : World} {A : Around} {E : Value → Shared → Prop} {n : Addr} {h0 h : Heap} {gs : Array GenState} {d : Drawn} {os : OsState} {i tk : Nat} {st : List (Addr × Obj)}
theorem mini {α : Type} {Q : α → Shared → Prop} {t : Sem α} (f : Nat) (js : List Nat) (i' tk' : Nat) {β : Type} (zf : List (Addr × Obj) → β) (st' : β → List (Addr × Obj)) (v : α) (H : Here n h0 h i st)
    (e : (driveV ⟨prog, w.params⟩ n f js i tk st [] t).eqs = ((driveV ⟨prog, w.params⟩ n f js i tk st [] t).eqs.map Prod.fst).map fun x => (x, x))
    (ei : (driveV ⟨prog, w.params⟩ n f js i tk st [] t).i = i') (et : (driveV ⟨prog, w.params⟩ n f js i tk st [] t).tk = tk')
    (es : (driveV ⟨prog, w.params⟩ n f js i tk st [] t).st = st' (zf (driveV ⟨prog, w.params⟩ n f js i tk st [] t).st))
    (ev : (driveV ⟨prog, w.params⟩ n f js i tk st [] t).t = .pure v)
    (k : ∀ z h', Here n h0 h' i' (st' z) → Q v ⟨h', gs, d, tk', os⟩) : wpAny (model prog w) A t Q E ⟨h, gs, d, tk, os⟩ := by
  refine driveV_sound f js i tk st [] t h H (eqs_ok e) fun h' H' => ?_
  rw [ev, et]
  exact wpAny_pure (k _ h' (show Here n h0 h' i' (st' (zf _)) from es ▸ ei ▸ H'))
end
end

section
set_option maxRecDepth 100000
open PySem PySem.W PyProof.Rows PySem.Calls PySem.W.X
/-- the parts of the program's text that cmp_to_key reaches -/
noncomputable def defBody : List Stmt := match (thePr.main.body[14]? : Option Stmt) with
  | some (Stmt.FunctionDef _ _ b _ _ _ _ _ _ _) => b
  | _ => []
noncomputable def clsParts : List Stmt × Scope := match defBody with
  | .ClassDef _ _ _ b _ _ sc _ _ _ _ :: _ => (b, sc)
  | _ => ([], default)
noncomputable def kBody : List Stmt := clsParts.1
noncomputable def kScope : Scope := clsParts.2
structure DefP where
  name : Str
  params : Arguments
  body : List Stmt
  scope : Scope
  deriving Inhabited
noncomputable def defAt (k : Nat) : DefP := match (kBody[k]? : Option Stmt) with
  | some (.FunctionDef n a b _ _ _ sc _ _ _) => ⟨n, a, b, sc⟩
  | _ => default
noncomputable def o3 (P : Params) : Obj := ((hd.heap_39 P).lookup 3).getD default
theorem o3_at (P : Params) : (hd.heap_39 P).lookup 3 = some (o3 P) := by kernel_rfl
noncomputable def doneOf : Sem Fin → Option Flow
  | .pure (.done f) => some f
  | _ => none
section
variable {prog : Program} {w : World} {R : Result → Shared → Prop} {A : Around} {c : Code} {s : Shared} {n : Addr} {h0 h : Heap} {gs : Array GenState} {d : Drawn} {os : OsState} {i tk : Nat} {st : List (Addr × Obj)}
theorem go_done {t : Sem Fin} {v : Flow} (e : doneOf t = some v) (k : R (.ok v) s) : Go (model prog w) R A c [] t s := by
  unfold doneOf at e
  split at e
  · cases e; exact wpAny_pure k
  · cases e
/-- a whole run, whose store is looked at afterwards -/
theorem start_done (f : Nat) (js : List Nat) (v : Flow) (H : Here n h0 h i st)
    (e : (start ⟨prog, w.params⟩ n f js i tk st A c).eqs = ((start ⟨prog, w.params⟩ n f js i tk st A c).eqs.map Prod.fst).map fun x => (x, x))
    (ec : doneOf (start ⟨prog, w.params⟩ n f js i tk st A c).t = some v) (ek : stkNil (start ⟨prog, w.params⟩ n f js i tk st A c).stk = true)
    (k : ∀ h' x, x = start ⟨prog, w.params⟩ n f js i tk st A c → Here n h0 h' x.i x.st → R (.ok v) ⟨h', gs, d, x.tk, os⟩) :
    codeAny (model prog w) A c R ⟨h, gs, d, tk, os⟩ := by
  refine go_code (engine f js H e fun h' H' => ?_)
  have z := k h' _ rfl H'
  unfold start at ek ec z
  generalize drive denZ ⟨prog, w.params⟩ n f js i tk st [] A c [] (denZ c) = y at *
  obtain ⟨_, _, _, _, _, _, stk, _⟩ := y
  cases stk with
  | nil => exact go_done ec z
  | cons a b => cases ek
end
noncomputable def sFile : Str := ⟨#[47, 99, 108, 97, 105, 109, 47, 99, 117, 116, 46, 112, 121]⟩
noncomputable def kCode (fv tab : Addr) (a b c e : Tok) (m : Int) : Obj := ⟨.type "code", none, .fields #[.str sK a, .str sQual b, .str sFile c, .int 65 0, .int 0 0, .int 0 0, .int 0 0, .int 0 0, .ref fv, .bool true, .int 276 0, .ref tab, .none, .none, .none, .none, .int m 0, .int 65 0, .str sFile e], #[]⟩
noncomputable def sMycmp : Str := ⟨#[109, 121, 99, 109, 112]⟩
noncomputable def kEnv (NS code frame cell : Addr) : Env := { scope := kScope, locals := NS, globals := 3, cells := [(sMycmp, cell)], qual := sQual ++ (⟨#[46]⟩ : Str), code := .ref code, frame := some frame, builtins := 0 }
noncomputable def ns3 (T : Tks) : Obj := ⟨.type "dict", none, .dict #[⟨T.h1, .str ⟨#[95, 95, 109, 111, 100, 117, 108, 101, 95, 95]⟩ T.u1, .str ⟨#[108, 97, 119, 95, 110, 98, 48, 49, 50, 49, 95, 48, 49]⟩ T.v1⟩, eQual T, ⟨T.h3, .str ⟨#[95, 95, 102, 105, 114, 115, 116, 108, 105, 110, 101, 110, 111, 95, 95]⟩ T.u3, .int 65 T.v3⟩] 3, #[]⟩
noncomputable abbrev jsBody : List Nat := [0, 0, 0, 0, 0, 0, 1, 2, 2, 2, 2, 3, 4, 3, 0, 0, 0, 1, 2, 2, 2, 2, 3, 4, 3, 0, 0, 0, 1, 2, 2, 2, 2, 3, 4, 3, 0, 0, 0, 1, 2, 2, 2, 2, 3, 4, 3, 0, 0, 0, 1, 2, 2, 2, 2, 3, 4, 3, 0, 0, 0, 1, 2, 2, 2, 2, 3, 4, 3, 0, 0, 0, 0, 0, 0]
noncomputable def stB (P : Params) (NS code fv tab : Addr) (T : Tks) (sl : Array (Option Value)) (a b c e : Tok) (m : Int) : List (Addr × Obj) :=
  [(NS, ns3 T), (code, kCode fv tab a b c e m), (tab, tabObj #[]), (3, o3 P), (4, ⟨.type "module", some 0, .plain, sl⟩)]
section
variable {w : World} {A : Around} {h : Heap} {gs : Array GenState} {d : Drawn} {os : OsState} {tk : Nat} {R : Result → Shared → Prop}
noncomputable def keyTok : Value → Tok
  | .str _ t => t
  | .int _ t => t
  | _ => 0
noncomputable def entAt (j e : Nat) (st : List (Addr × Obj)) : DictEntry := match st[j]? with
  | some (_, ⟨_, _, .dict es _, _⟩) => (es.toList[e]?).getD ⟨0, .none, .none⟩
  | _ => ⟨0, .none, .none⟩
/-- the tokens and hashes of a namespace that stands at a store's place -/
noncomputable def tksAt (j : Nat) (st : List (Addr × Obj)) : Tks where
  u1 := keyTok (entAt j 0 st).key
  u2 := keyTok (entAt j 1 st).key
  u3 := keyTok (entAt j 2 st).key
  u4 := keyTok (entAt j 3 st).key
  u5 := keyTok (entAt j 4 st).key
  u6 := keyTok (entAt j 5 st).key
  u7 := keyTok (entAt j 6 st).key
  u8 := keyTok (entAt j 7 st).key
  u9 := keyTok (entAt j 8 st).key
  u10 := keyTok (entAt j 9 st).key
  u11 := keyTok (entAt j 10 st).key
  u12 := keyTok (entAt j 11 st).key
  v1 := keyTok (entAt j 0 st).val
  v2 := keyTok (entAt j 1 st).val
  v3 := keyTok (entAt j 2 st).val
  h1 := (entAt j 0 st).hash
  h2 := (entAt j 1 st).hash
  h3 := (entAt j 2 st).hash
  h4 := (entAt j 3 st).hash
  h5 := (entAt j 4 st).hash
  h6 := (entAt j 5 st).hash
  h7 := (entAt j 6 st).hash
  h8 := (entAt j 7 st).hash
  h9 := (entAt j 8 st).hash
  h10 := (entAt j 9 st).hash
  h11 := (entAt j 10 st).hash
  h12 := (entAt j 11 st).hash
noncomputable def ns11 (T : Tks) (F : Fs) (L : Addr) (ep : Nat) : Obj := ⟨.type "dict", none, .dict ⟨eMod T :: eQual T :: (eTail T F L 0).take 9⟩ ep, #[]⟩
noncomputable def pm0 : Value := .str ⟨#[108, 97, 119, 95, 110, 98, 48, 49, 50, 49, 95, 48, 49]⟩ 500
noncomputable def mQual (k : Nat) : Str := sQual ++ (⟨#[46]⟩ : Str) ++ (defAt k).name
noncomputable def mFn (k : Nat) (cl : List (Str × Addr)) (code : Addr) (ct : Value) : FuncData :=
  { name := (defAt k).name, qualname := mQual k, params := (defAt k).params, body := .stmts (defAt k).body, scope := (defAt k).scope, globals := 3, closure := cl, defaults := .none, kwdefaults := .none, pyModule := pm0, code := .ref code, closureTuple := ct, builtins := 0 }
noncomputable def isCode1 (q : Str) : Obj → Bool
  | ⟨.type "code", none, .fields vs, _⟩ => match (vs.toList[1]? : Option Value) with
    | some (.str q' _) => q'.cps.toList == q.cps.toList
    | _ => false
  | _ => false
theorem isCode1_rec {q : Str} {c : Addr} {o : Obj} {h : Heap} (e : h.get? c = some o) (hc : isCode1 q o = true) : h.CodeRec (.ref c) q := by
  unfold isCode1 at hc
  split at hc
  · rename_i vs sl
    split at hc
    · rename_i q' t hv
      have : q' = q := by
        have := eq_of_beq hc
        obtain ⟨⟨a⟩⟩ := q'
        obtain ⟨⟨b⟩⟩ := q
        simpa using this
      subst this
      exact ⟨c, _, vs, t, rfl, e, rfl, by rw [← Array.getElem?_toList]; exact hv⟩
    · cases hc
  · cases hc
theorem Here.code {n : Addr} {h0 h : Heap} {i : Nat} {st : List (Addr × Obj)} (H : Here n h0 h i st) (j : Nat) {q : Str} {c : Addr} (e : (st[j]?).map (fun p => (p.1, isCode1 q p.2)) = some (c, true)) : h.CodeRec (.ref c) q := by
  obtain ⟨p, hp, hq⟩ := Option.map_eq_some_iff.mp e
  obtain ⟨a, o⟩ := p
  obtain ⟨rfl, h2⟩ := Prod.mk.inj hq
  exact isCode1_rec (H.get _ (List.mem_of_getElem? hp)) h2
theorem Here.but {n : Addr} {h0 h : Heap} {i : Nat} {st : List (Addr × Obj)} (H : Here n h0 h i st) (hn : h0.objs.size = n) (k m : Nat) (ch : List Addr) (e1 : ((st.drop k).map (·.1)) = (List.range m).map (n + ·))
    (e2 : ∀ p ∈ st.take k, p.1 ∈ ch ∨ h0.get? p.1 = some p.2) (b : Addr) (o : Obj) (hb : b ∉ ch) (eb : h0.get? b = some o) : h.get? b = some o := by
  by_cases hm : b ∈ st.map (·.1)
  · obtain ⟨p, hp, rfl⟩ := List.mem_map.mp hm
    rw [← List.take_append_drop k st, List.mem_append] at hp
    rcases hp with hp | hp
    · rcases e2 p hp with h1 | h1
      · exact absurd h1 hb
      · rw [h1] at eb; cases eb
        exact H.get p (List.mem_of_mem_take hp)
    · have : p.1 ∈ (st.drop k).map (·.1) := List.mem_map_of_mem hp
      rw [e1] at this
      obtain ⟨y, _, hy⟩ := List.mem_map.mp this
      have hl := Heap.lt_size eb
      rw [hn, ← hy] at hl
      exact absurd hl (Nat.not_lt.mpr (Nat.le_add_right n y))
  · exact H.keep b o hm eb
noncomputable def fsOf (n : Addr) : Fs := ⟨n + 7, n + 15, n + 23, n + 31, n + 39, n + 47⟩
theorem body_K {NS code frame cell fv tab : Addr} {T : Tks} {sl : Array (Option Value)} {a b c e : Tok} {m : Int}
    (hst : ∀ p ∈ stB w.params NS code fv tab T sl a b c e m, h.get? p.1 = some p.2) (hnd : ((stB w.params NS code fv tab T sl a b c e m).map (·.1)).Nodup)
    (hR : ∀ T' h', (∀ q o, q ≠ NS → q ≠ tab → h.get? q = some o → h'.get? q = some o) → h'.objs.size = h.objs.size + 48 → h'.get? NS = some (ns11 T' (fsOf h.objs.size) (h.objs.size + 0) 11) →
      h'.get? (h.objs.size + 0) = some (objList (tk + 2) 0) →
      h'.get? (h.objs.size + 7) = some (fnObj (mFn 2 [] (h.objs.size + 6) .none)) →
      h'.get? (h.objs.size + 15) = some (fnObj (mFn 3 [(sMycmp, cell)] (h.objs.size + 14) (.ref (h.objs.size + 8)))) →
      h'.get? (h.objs.size + 23) = some (fnObj (mFn 4 [(sMycmp, cell)] (h.objs.size + 22) (.ref (h.objs.size + 16)))) →
      h'.get? (h.objs.size + 31) = some (fnObj (mFn 5 [(sMycmp, cell)] (h.objs.size + 30) (.ref (h.objs.size + 24)))) →
      h'.get? (h.objs.size + 39) = some (fnObj (mFn 6 [(sMycmp, cell)] (h.objs.size + 38) (.ref (h.objs.size + 32)))) →
      h'.get? (h.objs.size + 47) = some (fnObj (mFn 7 [(sMycmp, cell)] (h.objs.size + 46) (.ref (h.objs.size + 40)))) →
      h'.CodeRec (.ref (h.objs.size + 6)) (mQual 2) → h'.CodeRec (.ref (h.objs.size + 14)) (mQual 3) → h'.CodeRec (.ref (h.objs.size + 22)) (mQual 4) → h'.CodeRec (.ref (h.objs.size + 30)) (mQual 5) →
      h'.CodeRec (.ref (h.objs.size + 38)) (mQual 6) → h'.CodeRec (.ref (h.objs.size + 46)) (mQual 7) →
      R (.ok .next) ⟨h', gs, d, tk + 58, os⟩) :
    codeAny (model thePr w) A (.body kBody (kEnv NS code frame cell)) R ⟨h, gs, d, tk, os⟩ := by
  refine start_done 400 jsBody .next (Here.begin hst hnd) (by kernel_rfl) (by kernel_rfl) (by kernel_rfl) ?_
  intro h' x hx H
  have ei : x.i = 48 := by rw [hx]; kernel_rfl
  have et : x.tk = tk + 58 := by rw [hx]; kernel_rfl
  have g0 : x.st[0]? = some (NS, ns11 (tksAt 0 x.st) (fsOf h.objs.size) (h.objs.size + 0) 11) := by rw [hx]; kernel_rfl
  have g5 : x.st[5]? = some (h.objs.size + 0, objList (tk + 2) 0) := by rw [hx]; kernel_rfl
  have g12 : x.st[12]? = some (h.objs.size + 7, fnObj (mFn 2 [] (h.objs.size + 6) .none)) := by rw [hx]; kernel_rfl
  have g20 : x.st[20]? = some (h.objs.size + 15, fnObj (mFn 3 [(sMycmp, cell)] (h.objs.size + 14) (.ref (h.objs.size + 8)))) := by rw [hx]; kernel_rfl
  have g28 : x.st[28]? = some (h.objs.size + 23, fnObj (mFn 4 [(sMycmp, cell)] (h.objs.size + 22) (.ref (h.objs.size + 16)))) := by rw [hx]; kernel_rfl
  have g36 : x.st[36]? = some (h.objs.size + 31, fnObj (mFn 5 [(sMycmp, cell)] (h.objs.size + 30) (.ref (h.objs.size + 24)))) := by rw [hx]; kernel_rfl
  have g44 : x.st[44]? = some (h.objs.size + 39, fnObj (mFn 6 [(sMycmp, cell)] (h.objs.size + 38) (.ref (h.objs.size + 32)))) := by rw [hx]; kernel_rfl
  have g52 : x.st[52]? = some (h.objs.size + 47, fnObj (mFn 7 [(sMycmp, cell)] (h.objs.size + 46) (.ref (h.objs.size + 40)))) := by rw [hx]; kernel_rfl
  have c2 : (x.st[11]?).map (fun p => (p.1, isCode1 (mQual 2) p.2)) = some (h.objs.size + 6, true) := by rw [hx]; kernel_rfl
  have c3 : (x.st[19]?).map (fun p => (p.1, isCode1 (mQual 3) p.2)) = some (h.objs.size + 14, true) := by rw [hx]; kernel_rfl
  have c4 : (x.st[27]?).map (fun p => (p.1, isCode1 (mQual 4) p.2)) = some (h.objs.size + 22, true) := by rw [hx]; kernel_rfl
  have c5 : (x.st[35]?).map (fun p => (p.1, isCode1 (mQual 5) p.2)) = some (h.objs.size + 30, true) := by rw [hx]; kernel_rfl
  have c6 : (x.st[43]?).map (fun p => (p.1, isCode1 (mQual 6) p.2)) = some (h.objs.size + 38, true) := by rw [hx]; kernel_rfl
  have c7 : (x.st[51]?).map (fun p => (p.1, isCode1 (mQual 7) p.2)) = some (h.objs.size + 46, true) := by rw [hx]; kernel_rfl
  have ed : ((x.st.drop 5).map (·.1)) = (List.range 48).map (h.objs.size + ·) := by rw [hx]; kernel_rfl
  have e0 : x.st.take 5 = [(NS, ns11 (tksAt 0 x.st) (fsOf h.objs.size) (h.objs.size + 0) 11), (code, kCode fv tab a b c e m), (tab, ((x.st[2]?).getD default).2), (3, o3 w.params), (4, ⟨.type "module", some 0, .plain, sl⟩)] := by rw [hx]; kernel_rfl
  clear hx
  have gm := fun {p : Addr × Obj} {j : Nat} (e : x.st[j]? = some p) => H.get p (List.mem_of_getElem? e)
  rw [et]
  refine hR (tksAt 0 x.st) h' (fun q o h1 h2 eq => ?_) (by rw [H.size, ei]) (gm g0) (gm g5) (gm g12) (gm g20) (gm g28) (gm g36) (gm g44) (gm g52) (H.code 11 c2) (H.code 19 c3) (H.code 27 c4) (H.code 35 c5) (H.code 43 c6) (H.code 51 c7)
  refine H.but rfl 5 48 [NS, tab] ed (fun p hp => ?_) q o (by simp [h1, h2]) eq
  rw [e0] at hp
  simp only [List.mem_cons, List.not_mem_nil, or_false] at hp
  rcases hp with rfl | rfl | rfl | rfl | rfl
  · exact .inl (by simp)
  · exact .inr (hst (code, kCode fv tab a b c e m) (by simp [stB]))
  · exact .inl (by simp)
  · exact .inr (hst (3, o3 w.params) (by simp [stB]))
  · exact .inr (hst (4, ⟨.type "module", some 0, .plain, sl⟩) (by simp [stB]))
end
end

section
set_option maxRecDepth 100000
set_option maxHeartbeats 1000000
open PySem PySem.W PyProof.Rows PySem.Calls PySem.W.X
section
variable {prog : Program} {w : World} {A : Around} {h : Heap} {gs : Array GenState} {d : Drawn} {os : OsState} {tk : Nat} {E : Value → Shared → Prop}
theorem tn_toT' : typeOf (.type "type") = pure (.type "type") := by kernel_rfl
theorem tn_ga : typeLookup (.type "type") "__getattribute__" = pure (some (.builtin "type.__getattribute__")) := by rw [typeLookup_type, builtinLookup_eq_fast]; kernel_rfl
theorem tn_bs : bindSpecial (.builtin "type.__getattribute__") (.type "type") = pure (.builtin "type.__getattribute__", [.type "type"]) := by kernel_rfl
theorem prep_K {n i : Nat} {h0 : Heap} {st : List (Addr × Obj)} {Q : Option Value → Shared → Prop} (H : Here n h0 h i st)
    (hq : ∀ h', Here n h0 h' (i + 1) (st ++ [(n + i, ⟨.type "builtin_function_or_method", none, .fields #[.builtin "type.__prepare__", .type "type"], #[]⟩)]) → Q (some (.ref (n + i))) ⟨h', gs, d, tk + 1, os⟩) :
    wpAny (model prog w) A (getAttr? (.type "type") "__prepare__") Q E ⟨h, gs, d, tk, os⟩ := by
  have e1 := tn_toT'
  have e2 := tn_ga
  unfold getAttr?
  have e3 := tn_bs
  repeat wp_step
  refine start_end 20 [] (i + 1) (tk + 1) (fun _ => ()) (fun _ => st ++ [(n + i, ⟨.type "builtin_function_or_method", none, .fields #[.builtin "type.__prepare__", .type "type"], #[]⟩)]) (.ref (n + i)) H
    (by kernel_rfl) (by kernel_rfl) (by kernel_rfl) (by kernel_rfl) (by kernel_rfl) (by kernel_rfl) ?_
  intro _ h' H'
  have hT := H'.get (n + i, ⟨.type "builtin_function_or_method", none, .fields #[.builtin "type.__prepare__", .type "type"], #[]⟩) (by simp)
  show wpAny _ _ _ _ _ _
  repeat wp_step
  exact hq h' H'
end
end

section
set_option maxRecDepth 100000
set_option maxHeartbeats 1000000
open PySem PySem.W PyProof.Rows PySem.Calls PySem.W.X
noncomputable def fScope : Scope := match (thePr.main.body[14]? : Option Stmt) with
  | some (Stmt.FunctionDef _ _ _ _ _ _ sc _ _ _) => sc
  | _ => default
noncomputable def clsMore : List Str × Pos := match defBody with
  | .ClassDef _ _ _ _ _ _ _ _ _ st pos :: _ => (st, pos)
  | _ => ([], default)
noncomputable def kStatics : List Str := clsMore.1
noncomputable def kPos : Pos := clsMore.2
noncomputable def fEnv (L cell : Addr) : Env := { scope := fScope, locals := L, globals := 3, cells := [(sMycmp, cell)], qual := ⟨#[99, 109, 112, 95, 116, 111, 95, 107, 101, 121, 46, 60, 108, 111, 99, 97, 108, 115, 62, 46]⟩, func := some 122, code := .ref 121, frame := some L, builtins := 0 }
noncomputable def o121 (P : Params) : Obj := ((hd.heap_39 P).lookup 121).getD default
theorem o121_at (P : Params) : (hd.heap_39 P).lookup 121 = some (o121 P) := by kernel_rfl
theorem tn_isTT : isType (.type "type") = pure true := by kernel_rfl
theorem tn_toT : typeOf (.type "type") = pure (.type "type") := by kernel_rfl
theorem tn_getitem : typeLookup (.type "dict") "__getitem__" = pure (some (.builtin "dict.__getitem__")) := by rw [typeLookup_type, builtinLookup_eq_fast]; kernel_rfl
section
variable {w : World} {A : Around} {h : Heap} {gs : Array GenState} {d : Drawn} {os : OsState} {tk : Nat} {Q : Value → Shared → Prop} {E : Value → Shared → Prop}
theorem newTupH {prog : Program} {n i : Nat} {h0 h : Heap} {st : List (Addr × Obj)} {vs : List Value} {Q : Value → Shared → Prop} (H : Here n h0 h i st) (hs : vs.length ≤ 100) (hq : ∀ h', Here n h0 h' (i + 1) (st ++ [(n + i, ⟨.type "tuple", none, .seq vs.toArray 0, #[]⟩)]) → Q (.ref (n + i)) ⟨h', gs, d, tk, os⟩) :
    wpAny (model prog w) A (newTuple vs) Q E ⟨h, gs, d, tk, os⟩ := by
  refine wpAny_newTuple ?_ (by simp [sizeLine]; omega)
  show Q (.ref h.objs.size) _
  rw [H.size]
  exact hq _ (H.add rfl)
/-- the class that cmp_to_key makes: where its parts lie -/
structure KP where
  (K NS D B L SA cell : Addr)
  (F : Fs)
  (T : Tks)
  (x y : Int)
  (t0 t1 t2 td : Tok)
  (c2 c3 c4 c5 c6 c7 : Addr)
  (q3 q4 q5 q6 q7 : Value)
structure KAt (k : KP) (h : Heap) : Prop where
  cls : h.get? k.K = some (kCls k.K k.NS k.B k.t0 k.T.v2)
  ns : h.get? k.NS = some (kNs k.T k.F k.L k.SA k.D k.x k.y k.t1 k.t2)
  desc : h.get? k.D = some (kDesc k.K k.td)
  init : h.get? k.F.init = some (fnObj (mFn 2 [] k.c2 .none))
  lt : h.get? k.F.lt = some (fnObj (mFn 3 [(sMycmp, k.cell)] k.c3 k.q3))
  gt : h.get? k.F.gt = some (fnObj (mFn 4 [(sMycmp, k.cell)] k.c4 k.q4))
  eq : h.get? k.F.eq = some (fnObj (mFn 5 [(sMycmp, k.cell)] k.c5 k.q5))
  le : h.get? k.F.le = some (fnObj (mFn 6 [(sMycmp, k.cell)] k.c6 k.q6))
  ge : h.get? k.F.ge = some (fnObj (mFn 7 [(sMycmp, k.cell)] k.c7 k.q7))
  r2 : h.CodeRec (.ref k.c2) (mQual 2)
  r3 : h.CodeRec (.ref k.c3) (mQual 3)
  r4 : h.CodeRec (.ref k.c4) (mQual 4)
  r5 : h.CodeRec (.ref k.c5) (mQual 5)
  r6 : h.CodeRec (.ref k.c6) (mQual 6)
  r7 : h.CodeRec (.ref k.c7) (mQual 7)
theorem KAt.keeps {k : KP} {h h' : Heap} (X : KAt k h) (e : ∀ b o, h.get? b = some o → h'.get? b = some o) : KAt k h' :=
  ⟨e _ _ X.cls, e _ _ X.ns, e _ _ X.desc, e _ _ X.init, e _ _ X.lt, e _ _ X.gt, e _ _ X.eq, e _ _ X.le, e _ _ X.ge, X.r2.keeps e, X.r3.keeps e, X.r4.keeps e, X.r5.keeps e, X.r6.keeps e, X.r7.keeps e⟩
structure KP.Above (n : Nat) (k : KP) : Prop where
  K : n ≤ k.K
  NS : n ≤ k.NS
  D : n ≤ k.D
  f1 : n ≤ k.F.init
  f2 : n ≤ k.F.lt
  f3 : n ≤ k.F.gt
  f4 : n ≤ k.F.eq
  f5 : n ≤ k.F.le
  f6 : n ≤ k.F.ge
  c2 : n ≤ k.c2
  c3 : n ≤ k.c3
  c4 : n ≤ k.c4
  c5 : n ≤ k.c5
  c6 : n ≤ k.c6
  c7 : n ≤ k.c7
theorem codeRec_at {h h' : Heap} {c : Addr} {q : Str} (x : h.CodeRec (.ref c) q) (e : ∀ o, h.get? c = some o → h'.get? c = some o) : h'.CodeRec (.ref c) q := by
  obtain ⟨c', o, vs, t, e1, g, r⟩ := x
  cases e1
  exact ⟨c, o, vs, t, rfl, e _ g, r⟩
theorem KAt.above {k : KP} {n : Nat} {h h' : Heap} (X : KAt k h) (ab : k.Above n) (e : ∀ b o, n ≤ b → h.get? b = some o → h'.get? b = some o) : KAt k h' :=
  ⟨e _ _ ab.K X.cls, e _ _ ab.NS X.ns, e _ _ ab.D X.desc, e _ _ ab.f1 X.init, e _ _ ab.f2 X.lt, e _ _ ab.f3 X.gt, e _ _ ab.f4 X.eq, e _ _ ab.f5 X.le, e _ _ ab.f6 X.ge,
    codeRec_at X.r2 fun o => e _ o ab.c2, codeRec_at X.r3 fun o => e _ o ab.c3, codeRec_at X.r4 fun o => e _ o ab.c4, codeRec_at X.r5 fun o => e _ o ab.c5, codeRec_at X.r6 fun o => e _ o ab.c6, codeRec_at X.r7 fun o => e _ o ab.c7⟩
theorem codeBody_eq {prog : Program} {kb : List Stmt} {cenv : Env} {NS code frame cell : Addr} {R : Result → Shared → Prop} {s : Shared} (h1 : kb = kBody) (h2 : cenv = kEnv NS code frame cell) (k : codeAny (model prog w) A (.body kBody (kEnv NS code frame cell)) R s) : codeAny (model prog w) A (.body kb cenv) R s := by
  subst h1 h2; exact k
theorem notMods {prog : Program} {who : String} {a : Addr} {Q : Unit → Shared → Prop} {s : Shared} (hm : (a == sysModules) = false) (hq : Q () s) : wpAny (model prog w) A (notTheModulesDict who a) Q E s := by
  unfold notTheModulesDict
  rw [if_neg (by simp [hm])]
  exact wpAny_pure hq
noncomputable def bound0 : Obj := ⟨.type "builtin_function_or_method", none, .fields #[.builtin "type.__prepare__", .type "type"], #[]⟩
noncomputable def tup0 : Obj := ⟨.type "tuple", none, .seq #[.type "object"] 0, #[]⟩
noncomputable def fvT (t : Tok) : Obj := ⟨.type "tuple", none, .seq #[.str sMycmp t] 0, #[]⟩
noncomputable def kFrame (code NS : Addr) : Obj := ⟨.type "frame", none, .plain, #[some (.ref code), some (.ref 3), some (.ref NS), none, some pm0, none, some (.ref 0)]⟩
noncomputable def tab117 (code : Addr) : Obj := tabObj #[.int 65 0, .int 4 0, .ref code]
structure Parts (kb : List Stmt) (sc : Scope) (sts : List Str) (env : Env) (pos : Pos) (L cell : Addr) : Prop where
  kb : kb = kBody
  sc : sc = kScope
  sts : sts = kStatics
  env : env = fEnv L cell
  pos : pos = kPos
theorem build_K {kb : List Stmt} {sc : Scope} {sts : List Str} {env : Env} {pos : Pos} {L cell : Addr} {sl : Array (Option Value)} (hp : Parts kb sc sts env pos L cell) (hn : 226 ≤ h.objs.size)
    (hst : ∀ p ∈ [(121, o121 w.params), (117, tabObj #[]), (3, o3 w.params), (4, ⟨.type "module", some 0, .plain, sl⟩)], h.get? p.1 = some p.2)
    (hA : A.depth < recursionLimit) (hl : ∀ h' : Heap, (∀ b o, b ≠ 117 → h.get? b = some o → h'.get? b = some o) → h'.NoLimit) (hno : ∀ (K : Addr) (h' : Heap), (∀ b o, b ≠ 117 → h.get? b = some o → h'.get? b = some o) → Looks (model thePr w) h' (opaqueClassAbove (.ref K)) none)
    (hQ : ∀ (k : KP) (h' : Heap) (tk' : Nat), tk ≤ tk' → (∀ b o, b ≠ 117 → h.get? b = some o → h'.get? b = some o) → k.cell = cell → k.Above h.objs.size → KAt k h' → (∃ ps, h'.get? 117 = some (tabObj ps)) → Q (.ref k.K) ⟨h', gs, d, tk', os⟩) :
    wpAny (model thePr w) A (buildClass sK sQual [.type "object"] [] kb sc sts 65 env pos none) Q E ⟨h, gs, d, tk, os⟩ := by
  have H0 := Here.begin hst (by simp)
  clear hst
  generalize hnn : h.objs.size = n at H0 hn
  have hc1 : (sc.names.lookup ("__class__" : Str) == some NameKind.cell) = false := by rw [hp.sc]; kernel_rfl
  have hc2 : (sc.names.lookup ("__classdict__" : Str) == some NameKind.cell) = false := by rw [hp.sc]; kernel_rfl
  have e13 := tn_typ
  have e14 := tn_isT
  have e15 := tn_to
  have e16 := tn_getitem
  have e17 := tn_isTT
  have e18 := tn_toT
  unfold buildClass
  refine wpAny_bind (newTupH H0 (by simp) ?_)
  intro h1 H1
  refine wpAny_bind (by_skim (v := ([.type "object"], false)) 50 (by kernel_rfl) ?_)
  wp_delta
  refine wpAny_bind (wpAny_of_eq tn_to ?_)
  wp_delta
  refine wpAny_bind (wpAny_of_eq tn_isTT ?_)
  wp_delta
  rw [if_pos rfl]
  refine wpAny_bind (by_skim (v := .type "type") 50 (by kernel_rfl) ?_)
  wp_delta
  refine wpAny_bind (wpAny_mkText ?_)
  wp_delta
  rw [if_neg (by simp)]
  show wpAny _ _ _ _ _ ⟨h1, gs, d, tk + 1, os⟩
  refine wpAny_bind (wpAny_pure ?_)
  wp_delta
  refine wpAny_holding ?_
  refine wpAny_bind (prep_K H1 ?_)
  intro h2 H2
  wp_delta
  refine wpAny_bind (wpAny_call ?_)
  refine start_end 20 [5] 3 (tk + 2) (fun _ => ()) (fun _ => [(121, o121 w.params), (117, tabObj #[]), (3, o3 w.params), (4, ⟨.type "module", some 0, .plain, sl⟩), (n + 0, ⟨.type "tuple", none, .seq #[.type "object"] 0, #[]⟩),
      (n + 1, ⟨.type "builtin_function_or_method", none, .fields #[.builtin "type.__prepare__", .type "type"], #[]⟩), (n + 2, ⟨.type "dict", none, .dict #[] 0, #[]⟩)]) (.ref (n + 2)) H2
    (by kernel_rfl) (by kernel_rfl) (by kernel_rfl) (by kernel_rfl) (by kernel_rfl) (by kernel_rfl) ?_
  intro _ h3 H3
  have hT3 : Shared.TypeIs ⟨h3, gs, d, tk + 2, os⟩ (.ref (n + 2)) "dict" := ⟨_, H3.get (n + 2, ⟨.type "dict", none, .dict #[] 0, #[]⟩) (by simp), rfl⟩
  have hm3 : (n + 2 == sysModules) = false := by simp [sysModules]
  show wpAny _ _ _ _ _ _
  wp_delta
  refine wpAny_bind (notMods hm3 ?_)
  refine wpAny_bind (wpAny_specialOf hT3 tn_getitem ?_)
  wp_delta
  rw [if_neg (by simp)]
  refine wpAny_holding ?_
  wp_delta
  rw [hc1, if_neg (by simp)]
  refine wpAny_bind (wpAny_pure ?_)
  wp_delta
  rw [hc2, if_neg (by simp)]
  refine wpAny_bind (wpAny_pure ?_)
  wp_delta
  refine wpAny_bind (mini 60 [0, 1, 1, 1, 1] 6 (tk + 8) (fun _ => ()) (fun _ => [(121, o121 w.params), (117, tab117 (n + 5)), (3, o3 w.params), (4, ⟨.type "module", some 0, .plain, sl⟩), (n + 0, tup0), (n + 1, bound0), (n + 2, ⟨.type "dict", none, .dict #[] 0, #[]⟩),
    (n + 3, fvT (tk + 5)), (n + 4, tabObj #[]), (n + 5, kCode (n + 3) (n + 4) (tk + 2) (tk + 3) (tk + 4) (tk + 7) (Int.ofNat (tk + 6)))]) (.ref (n + 5)) H3
    (by obtain ⟨rfl, rfl, rfl, rfl, rfl⟩ := hp; kernel_rfl) (by obtain ⟨rfl, rfl, rfl, rfl, rfl⟩ := hp; kernel_rfl) (by obtain ⟨rfl, rfl, rfl, rfl, rfl⟩ := hp; kernel_rfl) (by obtain ⟨rfl, rfl, rfl, rfl, rfl⟩ := hp; kernel_rfl) (by obtain ⟨rfl, rfl, rfl, rfl, rfl⟩ := hp; kernel_rfl) ?_)
  intro _ h4 H4
  refine wpAny_bind (mini 60 [2, 3] 6 (tk + 8) (fun _ => ()) (fun _ => [(121, o121 w.params), (117, tab117 (n + 5)), (3, o3 w.params), (4, ⟨.type "module", some 0, .plain, sl⟩), (n + 0, tup0), (n + 1, bound0), (n + 2, ⟨.type "dict", none, .dict #[] 0, #[]⟩),
    (n + 3, fvT (tk + 5)), (n + 4, tabObj #[]), (n + 5, kCode (n + 3) (n + 4) (tk + 2) (tk + 3) (tk + 4) (tk + 7) (Int.ofNat (tk + 6)))]) 0 H4
    (by obtain ⟨rfl, rfl, rfl, rfl, rfl⟩ := hp; kernel_rfl) (by obtain ⟨rfl, rfl, rfl, rfl, rfl⟩ := hp; kernel_rfl) (by obtain ⟨rfl, rfl, rfl, rfl, rfl⟩ := hp; kernel_rfl) (by obtain ⟨rfl, rfl, rfl, rfl, rfl⟩ := hp; kernel_rfl) (by obtain ⟨rfl, rfl, rfl, rfl, rfl⟩ := hp; kernel_rfl) ?_)
  intro _ h5 H5
  refine wpAny_bind (mini 60 [2] 7 (tk + 8) (fun _ => ()) (fun _ => [(121, o121 w.params), (117, tab117 (n + 5)), (3, o3 w.params), (4, ⟨.type "module", some 0, .plain, sl⟩), (n + 0, tup0), (n + 1, bound0), (n + 2, ⟨.type "dict", none, .dict #[] 0, #[]⟩),
    (n + 3, fvT (tk + 5)), (n + 4, tabObj #[]), (n + 5, kCode (n + 3) (n + 4) (tk + 2) (tk + 3) (tk + 4) (tk + 7) (Int.ofNat (tk + 6))), (n + 6, kFrame (n + 5) (n + 2))]) (n + 6) H5
    (by obtain ⟨rfl, rfl, rfl, rfl, rfl⟩ := hp; kernel_rfl) (by obtain ⟨rfl, rfl, rfl, rfl, rfl⟩ := hp; kernel_rfl) (by obtain ⟨rfl, rfl, rfl, rfl, rfl⟩ := hp; kernel_rfl) (by obtain ⟨rfl, rfl, rfl, rfl, rfl⟩ := hp; kernel_rfl) (by obtain ⟨rfl, rfl, rfl, rfl, rfl⟩ := hp; kernel_rfl) ?_)
  intro _ h6 H6
  refine wpAny_bind (by_skim (v := [(sMycmp, cell)]) 50 (by obtain ⟨rfl, rfl, rfl, rfl, rfl⟩ := hp; kernel_rfl) ?_)
  wp_delta
  refine wpAny_holding ?_
  have k6 := fun b o (hb : b ≠ 117) => H6.but hnn 4 7 [117] rfl (by
    intro p hp'
    simp only [List.take, List.mem_cons, List.not_mem_nil, or_false] at hp'
    rcases hp' with rfl | rfl | rfl | rfl
    · exact .inr (H0.get (121, o121 w.params) (by simp))
    · exact .inl (by simp)
    · exact .inr (H0.get (3, o3 w.params) (by simp))
    · exact .inr (H0.get (4, ⟨.type "module", some 0, .plain, sl⟩) (by simp))) b o (by simpa using hb)
  refine wpAny_bind (wpAny_enterFrame (hl h6 k6) hA ?_)
  refine wpAny_bind (mini 200 [6, 6, 2, 6, 6, 6, 6, 6, 6, 6, 6, 6] 7 (tk + 13) (tksAt 6) (fun T => [(121, o121 w.params), (117, tab117 (n + 5)), (3, o3 w.params), (4, ⟨.type "module", some 0, .plain, sl⟩), (n + 0, tup0), (n + 1, bound0), (n + 2, ns3 T),
    (n + 3, fvT (tk + 5)), (n + 4, tabObj #[]), (n + 5, kCode (n + 3) (n + 4) (tk + 2) (tk + 3) (tk + 4) (tk + 7) (Int.ofNat (tk + 6))), (n + 6, kFrame (n + 5) (n + 2))]) () H6
    (by obtain ⟨rfl, rfl, rfl, rfl, rfl⟩ := hp; kernel_rfl) (by obtain ⟨rfl, rfl, rfl, rfl, rfl⟩ := hp; kernel_rfl) (by obtain ⟨rfl, rfl, rfl, rfl, rfl⟩ := hp; kernel_rfl) (by obtain ⟨rfl, rfl, rfl, rfl, rfl⟩ := hp; kernel_rfl) (by obtain ⟨rfl, rfl, rfl, rfl, rfl⟩ := hp; kernel_rfl) ?_)
  intro T h7 H7
  wp_delta
  have k7 := fun b o (hb : b ≠ 117) => H7.but hnn 4 7 [117] rfl (by
    intro p hp'
    simp only [List.take, List.mem_cons, List.not_mem_nil, or_false] at hp'
    rcases hp' with rfl | rfl | rfl | rfl
    · exact .inr (H0.get (121, o121 w.params) (by simp))
    · exact .inl (by simp)
    · exact .inr (H0.get (3, o3 w.params) (by simp))
    · exact .inr (H0.get (4, ⟨.type "module", some 0, .plain, sl⟩) (by simp))) b o (by simpa using hb)
  refine wpAny_bind (wpAny_run ?_)
  refine codeBody_eq (NS := n + 2) (code := n + 5) (frame := n + 6) (cell := cell) hp.kb (by obtain ⟨rfl, rfl, rfl, rfl, rfl⟩ := hp; kernel_rfl) ?_
  have g7 := H7.get
  refine body_K (fv := n + 3) (tab := n + 4) (T := T) (sl := sl) (a := tk + 2) (b := tk + 3) (c := tk + 4) (e := tk + 7) (m := Int.ofNat (tk + 6)) (by
    intro p hp'
    simp only [stB, List.mem_cons, List.not_mem_nil, or_false] at hp'
    rcases hp' with rfl | rfl | rfl | rfl | rfl
    · exact g7 (n + 2, ns3 T) (by simp)
    · exact g7 (n + 5, kCode (n + 3) (n + 4) (tk + 2) (tk + 3) (tk + 4) (tk + 7) (Int.ofNat (tk + 6))) (by simp)
    · exact g7 (n + 4, tabObj #[]) (by simp)
    · exact g7 (3, o3 w.params) (by simp)
    · exact g7 (4, ⟨.type "module", some 0, .plain, sl⟩) (by simp)) (by simp [stB]; omega) ?_
  have s7 : h7.objs.size = n + 7 := H7.size
  rw [s7]
  intro T8 h8 k8 s8 f0 f1 f2 f3 f4 f5 f6 f7 r2 r3 r4 r5 r6 r7
  show wpAny _ _ _ _ _ _
  have H8 : Here h8.objs.size h8 h8 0 [(n + 2, ns11 T8 (fsOf (n + 7)) (n + 7 + 0) 11)] := Here.begin (by intro p hp'; simp only [List.mem_singleton] at hp'; subst hp'; exact f0) (by simp)
  generalize hm8 : h8.objs.size = m at H8
  refine wpAny_bind (mini 200 [0, 0, 0] 1 (tk + 73) (tksAt 0) (fun T => [(n + 2, bodyNs T (fsOf (n + 7)) (n + 7 + 0) (m + 0) 12), (m + 0, objTup (tk + 71))]) () H8
    (by obtain ⟨rfl, rfl, rfl, rfl, rfl⟩ := hp; kernel_rfl) (by obtain ⟨rfl, rfl, rfl, rfl, rfl⟩ := hp; kernel_rfl) (by obtain ⟨rfl, rfl, rfl, rfl, rfl⟩ := hp; kernel_rfl) (by obtain ⟨rfl, rfl, rfl, rfl, rfl⟩ := hp; kernel_rfl) (by obtain ⟨rfl, rfl, rfl, rfl, rfl⟩ := hp; kernel_rfl) ?_)
  intro T9 h9 H9
  have k9 := fun b o (hb : b ≠ n + 2) => H9.but hm8 1 1 [n + 2] rfl (by
    intro p hp'
    simp only [List.take, List.mem_cons, List.not_mem_nil, or_false] at hp'
    subst hp'
    exact .inl (by simp)) b o (by simpa using hb)
  wp_delta
  rw [if_neg (by simp)]
  refine wpAny_bind (wpAny_call ?_)
  have hsz : ∀ b o, h.get? b = some o → b < n := fun b o e => hnn ▸ Heap.lt_size e
  have k89 : ∀ b o, b ≠ n + 2 → b ≠ n + 4 → h7.get? b = some o → h9.get? b = some o := fun b o e1 e2 e => k9 b o e1 (k8 b o e1 e2 e)
  have kall : ∀ b o, b ≠ 117 → h.get? b = some o → h9.get? b = some o := fun b o hb e => k89 b o (Nat.ne_of_lt (Nat.lt_of_lt_of_le (hsz _ _ e) (Nat.le_add_right n 2))) (Nat.ne_of_lt (Nat.lt_of_lt_of_le (hsz _ _ e) (Nat.le_add_right n 4))) (k7 b o hb e)
  have hms : m = n + 55 := by rw [← hm8, s8]
  refine call_type_K (B := n + 0) (NS := n + 2) (L := n + 7 + 0) (SA := m + 0) (F := fsOf (n + 7)) (T := T9) (ep := 12) (w1 := tk + 13 + 2) (w2 := tk + 71) (d1 := mFn 2 [] (n + 7 + 6) .none) (d2 := mFn 3 [(sMycmp, cell)] (n + 7 + 14) (.ref (n + 7 + 8))) (d3 := mFn 4 [(sMycmp, cell)] (n + 7 + 22) (.ref (n + 7 + 16)))
    (d4 := mFn 5 [(sMycmp, cell)] (n + 7 + 30) (.ref (n + 7 + 24))) (d5 := mFn 6 [(sMycmp, cell)] (n + 7 + 38) (.ref (n + 7 + 32))) (d6 := mFn 7 [(sMycmp, cell)] (n + 7 + 46) (.ref (n + 7 + 40))) hm3 ?_ ?_ (fun K => hno K h9 kall) ?_
  · intro p hp'
    simp only [st0, fsOf, List.mem_cons, List.not_mem_nil, or_false] at hp'
    rcases hp' with rfl | rfl | rfl | rfl | rfl | rfl | rfl | rfl | rfl | rfl
    · exact k89 _ _ (by simp) (by simp) (g7 (n + 0, tup0) (by simp))
    · exact H9.get (n + 2, bodyNs T9 (fsOf (n + 7)) (n + 7 + 0) (m + 0) 12) (by simp)
    · exact k9 _ _ (by simp) f1
    · exact k9 _ _ (by simp) f2
    · exact k9 _ _ (by simp) f3
    · exact k9 _ _ (by simp) f4
    · exact k9 _ _ (by simp) f5
    · exact k9 _ _ (by simp) f6
    · exact k9 _ _ (by simp) f7
    · exact H9.get (m + 0, objTup (tk + 71)) (by simp)
  · subst hms
    simp [st0, fsOf]
    refine ⟨?_, ?_, ?_, ?_, ?_, ?_⟩ <;> exact Nat.ne_of_lt (by simp only [Nat.add_assoc]; exact Nat.lt_add_of_pos_right (by decide))
  · intro x y h10 k10 e2 e1 e3
    show wpAny _ _ _ _ _ _
    wp_delta
    refine wpAny_pure (hQ ⟨h9.objs.size + 2, h9.objs.size + 1, h9.objs.size + 3, n + 0, n + 7 + 0, m + 0, cell, fsOf (n + 7), T9, x, y, tk, tk + 73 + 1, tk + 73 + 2, tk + 73, n + 7 + 6, n + 7 + 14, n + 7 + 22, n + 7 + 30, n + 7 + 38, n + 7 + 46,
      .ref (n + 7 + 8), .ref (n + 7 + 16), .ref (n + 7 + 24), .ref (n + 7 + 32), .ref (n + 7 + 40)⟩ h10 (tk + 73 + 4) (by omega) (fun b o hb e => k10 _ _ (kall b o hb e)) rfl ?_ ?_ ⟨_, k10 _ _ (k89 117 _ (Nat.ne_of_lt (Nat.lt_of_lt_of_le (by decide : 117 < 226) (Nat.le_trans hn (Nat.le_add_right n 2)))) (Nat.ne_of_lt (Nat.lt_of_lt_of_le (by decide : 117 < 226) (Nat.le_trans hn (Nat.le_add_right n 4)))) (g7 (117, tab117 (n + 5)) (by simp)))⟩)
    · have hs9 : h9.objs.size = m + 1 := H9.size
      rw [hnn]
      constructor <;> (simp only [fsOf, hs9, hms, Nat.add_assoc]; exact Nat.le_add_right _ _)
    have kr : ∀ {c : Addr} {q : Str}, h8.CodeRec (.ref c) q → c ≠ n + 2 → h10.CodeRec (.ref c) q := fun ⟨c', o, vs, t, e, g, r⟩ hc => ⟨c', o, vs, t, e, k10 _ _ (k9 _ _ (by cases e; exact hc) g), r⟩
    exact ⟨e2, e1, e3, k10 _ _ (k9 _ _ (by simp [fsOf]) f2), k10 _ _ (k9 _ _ (by simp [fsOf]) f3), k10 _ _ (k9 _ _ (by simp [fsOf]) f4), k10 _ _ (k9 _ _ (by simp [fsOf]) f5), k10 _ _ (k9 _ _ (by simp [fsOf]) f6), k10 _ _ (k9 _ _ (by simp [fsOf]) f7),
      kr r2 (by simp), kr r3 (by simp), kr r4 (by simp), kr r5 (by simp), kr r6 (by simp), kr r7 (by simp)⟩
end
end

section
set_option maxRecDepth 100000
set_option maxHeartbeats 1000000
open PySem PySem.W PyProof.Rows PySem.Calls PySem.W.X
noncomputable def sObject : Str := "object"
theorem boot_bc : bootBuiltins "__build_class__" = some (.builtin "__build_class__") := by kernel_rfl
theorem boot_obj : bootBuiltins sObject = some (.type "object") := by kernel_rfl
section
variable {w : World} {A : Around} {h : Heap} {gs : Array GenState} {d : Drawn} {os : OsState} {tk : Nat} {E : Value → Shared → Prop} {mg mb : Str → Option Value}
theorem guard_K {prog : Program} {env : Env} {Q : Unit → Shared → Prop} {s : Shared} (hb : s.heap.Ns env.builtins mb) (hv : mb "__build_class__" = some (.builtin "__build_class__")) (hq : Q () s) : wpAny (model prog w) A (buildClassGuard env) Q E s := by
  unfold buildClassGuard
  refine wpAny_bind (wpAny_nsGet hb ?_)
  rw [hv]
  exact wpAny_pure hq
theorem args_K {prog : Program} {env : Env} {pos pB : Pos} {Q : Args → Shared → Prop} {s : Shared} (he : ∀ {Q' : Value → Shared → Prop}, Q' (.type "object") s → wpAny (model prog w) A (eval (.Name sObject pB) env) Q' E s) (hq : Q ⟨[.type "object"], []⟩ s) :
    wpAny (model prog w) A (evalArgs (.builtin "__build_class__") false (backTo pos (starEach [.Name sObject pB] env)) (backToKw pos (keywordEach [] env))) Q E s := by
  unfold evalArgs
  repeat (first | (with_reducible refine he ?_) | wp_step | dsimp only)
  exact hq
theorem exec_cls {kb : List Stmt} {sc : Scope} {sts : List Str} {env : Env} {pos pB : Pos} {ts : Option Scope} {L cell : Addr} {m : Str → Option Value} {sl : Array (Option Value)} {Q : Flow → Shared → Prop} (hp : Parts kb sc sts env pos L cell) (hn : 226 ≤ h.objs.size)
    (hst : ∀ p ∈ [(121, o121 w.params), (117, tabObj #[]), (3, o3 w.params), (4, ⟨.type "module", some 0, .plain, sl⟩)], h.get? p.1 = some p.2)
    (hA : A.depth < recursionLimit) (hl : ∀ h' : Heap, (∀ b o, b ≠ 117 → h.get? b = some o → h'.get? b = some o) → h'.NoLimit) (hno : ∀ (K : Addr) (h' : Heap), (∀ b o, b ≠ 117 → h.get? b = some o → h'.get? b = some o) → Looks (model thePr w) h' (opaqueClassAbove (.ref K)) none)
    (hg : h.Ns 3 mg) (hb : h.Ns 0 mb) (hgo : mg sObject = none) (hbo : mb sObject = some (.type "object")) (hbc : mb "__build_class__" = some (.builtin "__build_class__"))
    (hL : h.Ns L m) (hLk : L ≠ 117) (hLo : 226 ≤ L)
    (hQ : ∀ (k : KP) (h' : Heap) (tk' : Nat), tk ≤ tk' → (∀ b o, b ≠ 117 → b ≠ L → h.get? b = some o → h'.get? b = some o) → h'.Ns L (fun x => if x = sK then some (.ref k.K) else m x) → k.cell = cell → k.Above h.objs.size → KAt k h' → (∃ ps, h'.get? 117 = some (tabObj ps)) → Q .next ⟨h', gs, d, tk', os⟩) :
    wpAny (model thePr w) A (exec (.ClassDef sK [.Name sObject pB] [] kb [] [] sc ts sK sts pos) env) Q E ⟨h, gs, d, tk, os⟩ := by
  have h1 : env.builtins = 0 := by rw [hp.env]; kernel_rfl
  have h2 : env.globals = 3 := by rw [hp.env]; kernel_rfl
  have h3 : env.scope.kind = .function := by rw [hp.env]; kernel_rfl
  have h4 : env.kindOf sObject = some .globalImplicit := by rw [hp.env]; kernel_rfl
  have h5 : qualnameIn env sK sK = sQual := by rw [hp.env]; kernel_rfl
  have h6 : firstLineOf [] pos = 65 := by rw [hp.pos]; kernel_rfl
  have h7 : env.kindOf sK = some .local := by rw [hp.env]; kernel_rfl
  have h8 : env.locals = L := by rw [hp.env]; rfl
  rw [arm_exec_ClassDef]
  refine wpAny_bind (by_skim (v := []) 10 (by kernel_rfl) ?_)
  refine wpAny_bind (wpAny_standAt ?_)
  refine wpAny_bind (guard_K (by rw [h1]; exact hb) hbc ?_)
  refine wpAny_bind (wpAny_holding ?_)
  refine wpAny_bind (args_K (fun q => Name_function_global h3 h4 (loadGlobal_builtin (by rw [h2]; exact hg) hgo (by rw [h1]; exact hb) hbo q) (by decide +kernel)) ?_)
  refine wpAny_bind (wpAny_standAt ?_)
  refine wpAny_holding ?_
  rw [h5, h6]
  refine build_K hp hn hst hA hl hno ?_
  intro k h' tk' ht kk hc ab KA g117
  refine wpAny_bind (by_skim (v := .ref k.K) 10 (by kernel_rfl) ?_)
  refine wpAny_bind (wpAny_standAt ?_)
  have hLh : h'.Ns L m := hL.at fun o e => kk _ _ hLk e
  have hlt := hL.lt
  unfold bindName
  refine wpAny_bind (wpAny_bind (wpAny_holding (wpAny_point (wpAny_bind (wpAny_storeName_local h7 (by rw [h8]; exact hLh) ?_ (by rw [h3]; rfl))))))
  rw [h8]
  intro h'' hN hs
  refine wpAny_point (wpAny_pure ?_)
  refine hQ k h'' (tk' + 1) (Nat.le_succ_of_le ht) (fun b o b1 b2 e => (hs.2 b b2).trans (kk b o b1 e)) hN hc ab (KA.above ab fun b o hb e => (hs.2 b ?_).trans e) (by obtain ⟨ps, e⟩ := g117; exact ⟨ps, (hs.2 117 (Ne.symm hLk)).trans e⟩)
  exact fun q => absurd hlt (Nat.not_lt.mpr (q ▸ hb))
end
end

section
set_option maxRecDepth 100000
set_option maxHeartbeats 1000000
open PySem PySem.W PyProof.Rows PySem.Calls PySem.W.X
noncomputable def clsTs : Option Scope := match defBody with
  | .ClassDef _ _ _ _ _ _ _ ts _ _ _ :: _ => ts
  | _ => none
noncomputable def posB : Pos := match defBody with
  | .ClassDef _ [.Name _ p] _ _ _ _ _ _ _ _ _ :: _ => p
  | _ => default
noncomputable def posR : Pos × Pos := match defBody with
  | [_, .Return (some (.Name _ p)) q] => (p, q)
  | _ => default
theorem defBody_eq : defBody = [.ClassDef sK [.Name sObject posB] [] kBody [] [] kScope clsTs sK kStatics kPos, .Return (some (.Name sK posR.1)) posR.2] := by kernel_rfl
noncomputable def o122 (P : Params) : Obj := ((hd.heap_39 P).lookup 122).getD default
theorem o122_at (P : Params) : (hd.heap_39 P).lookup 122 = some (o122 P) := by kernel_rfl
noncomputable def fdC (P : Params) : FuncData := match (o122 P).data with
  | .func f => f
  | _ => default
theorem fdC_data (P : Params) : (o122 P).data = .func (fdC P) := by kernel_rfl
noncomputable def o2 (P : Params) : Obj := ((hd.heap_39 P).lookup 2).getD default
theorem o2_at (P : Params) : (hd.heap_39 P).lookup 2 = some (o2 P) := by kernel_rfl
theorem fdC_body (P : Params) : (fdC P).body = .stmts defBody := by kernel_rfl
theorem fdC_code (P : Params) : (fdC P).code = .ref 121 := by kernel_rfl
theorem fdC_is (P : Params) : isCode1 (fdC P).qualname (o121 P) = true := by kernel_rfl
theorem fdC_bind (P : Params) : bindArgs (fdC P) ⟨[.ref 201], []⟩ = pure [(sMycmp, .ref 201)] := by kernel_rfl
theorem fdC_env (P : Params) (L : Addr) : callEnvC (fdC P) L 122 = fEnv L (L + 1) := by kernel_rfl
theorem fdC_kind (P : Params) (n : Nat) : (fdC P).scope.names.lookup sMycmp = some .cell ∧ ((cellsFrom n (fdC P).scope.names []).lookup sMycmp).isSome = true := ⟨by kernel_rfl, by kernel_rfl⟩
theorem opq (P : Params) : nsIn [(2, o2 P)] cStatics "thirdparty.any" = some none := by kernel_rfl
theorem g_obj (P : Params) : nsIn (hd.heap_39 P) mainGlobals sObject = some none := by kernel_rfl
theorem g_bi (P : Params) : nsIn (hd.heap_39 P) mainGlobals "__builtins__" = some (some (.ref 4)) := by kernel_rfl
section
variable {w : World} {p : Program} {loose : List Str} {mean : ExcName → Option Value} {mg mb : Str → Option Value} {A : Around} {s : Shared} {Q E : Value → Shared → Prop}
theorem cmp_K (B : Bs w p loose mean mg mb s.heap) (h117 : s.heap.get? 117 = some (tabObj #[])) (hn : 226 ≤ s.heap.objs.size) (hA : A.depth + 1 < recursionLimit)
    (hQ : ∀ (k : KP) (h' : Heap) (tk' : Nat), (∀ b o, b ≠ 117 → s.heap.get? b = some o → h'.get? b = some o) → h'.IsCell k.cell (some (.ref 201)) → k.Above s.heap.objs.size → s.heap.objs.size ≤ k.cell → KAt k h' → (∃ ps, h'.get? 117 = some (tabObj ps)) → Q (.ref k.K) { s with heap := h', toks := tk' }) :
    wpAny (model thePr w) A (call (.ref 122) [.ref 201]) Q E s := by
  obtain ⟨h, gs, d, tk, os⟩ := s
  have hc : h.CodeRec (fdC w.params).code (fdC w.params).qualname := by
    rw [fdC_code]
    exact isCode1_rec (B.K _ _ (o121_at _)) (fdC_is _)
  refine wpAny_call (codeAny_call_cells (fd := fdC w.params) (body := defBody) (binds := [(sMycmp, .ref 201)]) (by omega) (B.K _ _ (o122_at _)) (fdC_data _) B.T.nolimit hc (fdC_body _) (fdC_bind _) (by kernel_rfl) ?_ ?_ (by kernel_rfl) (by kernel_rfl) (by kernel_rfl))
  · intro x hx
    simp only [List.mem_singleton] at hx
    subst hx
    exact .inr (fdC_kind _ _)
  intro s₁ X
  obtain ⟨h1, tk1, rfl⟩ := X.toInCall.same
  have hk := X.toInCall.keep
  have hns := X.toInCall.ns
  have hcl := X.cell
  have hab := X.above
  rw [fdC_env] at hns hcl hab ⊢
  generalize hL : (⟨h, gs, d, tk, os⟩ : Shared).heap.objs.size = L at *
  have hcell : h1.IsCell (L + 1) (some (.ref 201)) := by
    have q := hcl sMycmp (L + 1) (by kernel_rfl)
    rw [show bindC (fEnv L (L + 1)).kindOf [(sMycmp, Value.ref 201)] (fun _ => none) sMycmp = some (.ref 201) by kernel_rfl] at q
    exact q
  replace hk : ∀ b o, h.get? b = some o → h1.get? b = some o := hk
  replace hns : h1.Ns L (bindL (fEnv L (L + 1)).kindOf [(sMycmp, Value.ref 201)] fun x => none) := hns
  have hfr : ∀ b o, h.get? b = some o → b < L := fun b o e => hL ▸ Heap.lt_size e
  have hk1 : (fEnv L (L + 1)).scope.kind = .function := by kernel_rfl
  have hk2 : (fEnv L (L + 1)).kindOf sK = some .local := by kernel_rfl
  have hk3 : (fEnv L (L + 1)).locals = L := by kernel_rfl
  have hp : Parts kBody kScope kStatics (fEnv L (L + 1)) kPos L (L + 1) := ⟨rfl, rfl, rfl, rfl, rfl⟩
  clear hcl hab X
  generalize fEnv L (L + 1) = env at *
  obtain ⟨bm, ob, b1, b2, b3, b4, b5, b6⟩ := B.T.bmain
  have e4 := mg_of B.K B.T.g (g_bi _)
  rw [b1] at e4
  cases e4
  obtain ⟨oc, od, odt, osl⟩ := ob
  simp only at b4 b5 b6
  subst b4 b5 b6
  rw [defBody_eq]
  refine wpAny_execs_cons ?_
  have hL1 : 226 ≤ L := hn
  refine exec_cls (mg := mg) (mb := mb) (sl := osl) hp (Nat.le_trans hL1 (Nat.le_of_lt hns.lt)) ?_ ?_ ?_ ?_ ((B.T.g).keeps hk) ((B.T.b).keeps hk) (mg_none_of B.K B.T.g (g_obj _)) ((B.T.builtins _ (by decide +kernel)).trans boot_obj) ((B.T.builtins _ (by decide +kernel)).trans boot_bc) hns (fun q => by rw [q] at hL1; exact absurd hL1 (by decide)) hL1 ?_
  · intro q hq
    simp only [List.mem_cons, List.not_mem_nil, or_false] at hq
    rcases hq with rfl | rfl | rfl | rfl
    · exact hk _ _ (B.K _ _ (o121_at _))
    · exact hk _ _ h117
    · exact hk _ _ (B.K _ _ (o3_at _))
    · exact hk _ _ b3
  · rw [depth_deeper]; exact hA
  · intro h' k
    obtain ⟨mc, n1, n2⟩ := B.T.nolimit
    exact ⟨mc, n1.at fun o e => k _ _ (by decide) (hk _ _ e), n2⟩
  · intro K h' k
    refine looks_opaque (K := [(2, o2 w.params)]) (fun a o e => ?_) (opq _)
    have : a = 2 ∧ o = o2 w.params := by
      simp only [List.lookup] at e
      split at e
      · rename_i hq; cases e; exact ⟨eq_of_beq hq, rfl⟩
      · cases e
    obtain ⟨rfl, rfl⟩ := this
    exact k _ _ (by decide) (hk _ _ (B.K _ _ (o2_at _)))
  · intro k h' tk' _ kk hN hcc ab KA g117
    show wpAny _ _ (execs [_] env) _ _ _
    refine wpAny_execs_cons (wpAny_Return_some (wpAny_Name (wpAny_loadName_local hk1 hk2 (by rw [hk3]; exact hN) (v := .ref k.K) (by simp) ?_) (by decide +kernel)))
    have hLn : L ≤ h1.objs.size := Nat.le_of_lt hns.lt
    refine hQ k h' tk' (fun b o hb e => kk b o hb (Nat.ne_of_lt (hfr b o e)) (hk b o e)) ?_ ?_ ?_ KA g117
    · rw [hcc]
      obtain ⟨o, g1, g2⟩ := hcell
      exact ⟨o, kk _ _ (Nat.ne_of_gt (Nat.lt_of_lt_of_le (by decide : 117 < 226) (Nat.le_succ_of_le hL1))) (Nat.ne_of_gt (Nat.lt_succ_self L)) g1, g2⟩
    · exact ⟨Nat.le_trans hLn ab.K, Nat.le_trans hLn ab.NS, Nat.le_trans hLn ab.D, Nat.le_trans hLn ab.f1, Nat.le_trans hLn ab.f2, Nat.le_trans hLn ab.f3, Nat.le_trans hLn ab.f4, Nat.le_trans hLn ab.f5, Nat.le_trans hLn ab.f6, Nat.le_trans hLn ab.c2, Nat.le_trans hLn ab.c3, Nat.le_trans hLn ab.c4, Nat.le_trans hLn ab.c5, Nat.le_trans hLn ab.c6, Nat.le_trans hLn ab.c7⟩
    · rw [hcc]; exact Nat.le_succ L
end
end

section
set_option maxRecDepth 100000
set_option maxHeartbeats 1000000
open PySem PySem.W PyProof.Rows PySem.Calls PySem.W.X
noncomputable def kst (k : KP) : List (Addr × Obj) := [(k.K, kCls k.K k.NS k.B k.t0 k.T.v2), (k.NS, kNs k.T k.F k.L k.SA k.D k.x k.y k.t1 k.t2)]
noncomputable abbrev nsO (k : KP) : Obj := kNs k.T k.F k.L k.SA k.D k.x k.y k.t1 k.t2
section
variable {M : Model} {prog : Program} {w : World} {A : Around} {R : Result → Shared → Prop} {h : Heap} {gs : Array GenState} {d : Drawn} {os : OsState} {tk : Nat} {E : Value → Shared → Prop} {k : KP}
theorem KAt.ne (X : KAt k h) : k.K ≠ k.NS := by
  intro q
  have h1 := X.cls
  rw [q, X.ns] at h1
  simp [kCls, kNs] at h1
theorem KAt.here (X : KAt k h) : Here h.objs.size h h 0 (kst k) := by
  refine Here.begin (by intro p hp; simp only [kst, List.mem_cons, List.not_mem_nil, or_false] at hp; rcases hp with rfl | rfl; exact X.cls; exact X.ns) ?_
  simp only [kst, List.map_cons, List.map_nil, List.nodup_cons, List.mem_singleton, List.not_mem_nil, not_false_eq_true, List.nodup_nil, and_true]
  exact X.ne
theorem KAt.extend (X : KAt k h) {h' : Heap} {i : Nat} {news : List (Addr × Obj)} (H : Here h.objs.size h h' i (kst k ++ news)) (hn : ∀ p ∈ news, h.objs.size ≤ p.1) : ∀ b o, h.get? b = some o → h'.get? b = some o :=
  H.ext X.here.get rfl hn
theorem looks_mroK (X : KAt k h) : Looks M h (mroOf (.ref k.K)) [.ref k.K, .type "object"] := looks_mro X.cls rfl
theorem looks_own {name : Str} {v : Option Value} (X : KAt k h) (e : nsLook name (nsO k) = .pure v) : Looks M h (classOwn (.ref k.K) name) v := by
  intro A Q E s kk q
  unfold classOwn classData nsGet
  refine wpAny_bind (wpAny_bind (wpAny_load (kk _ _ X.cls) (wpAny_pure (wpAny_bind (wpAny_loadPart (kk _ _ X.ns) ?_)))))
  rw [e]
  exact wpAny_pure q
theorem tl_own {name : Str} {v : Value} (X : KAt k h) (e : nsLook name (nsO k) = .pure (some v)) : Looks M h (typeLookup (.ref k.K) name) (some v) := by
  intro A Q E s kk q
  unfold typeLookup
  refine wpAny_bind (looks_mroK X A _ _ _ kk ?_)
  rw [List.forIn_cons]
  refine wpAny_bind (wpAny_bind (wpAny_bind (looks_own X e A _ _ _ kk ?_)))
  exact wpAny_pure (wpAny_pure (wpAny_pure q))
theorem tl_obj {name : Str} {v : Option Value} (X : KAt k h) (e : nsLook name (nsO k) = .pure none) (e2 : builtinOwn "object" name = v) : Looks M h (typeLookup (.ref k.K) name) v := by
  intro A Q E s kk q
  unfold typeLookup
  refine wpAny_bind (looks_mroK X A _ _ _ kk ?_)
  rw [List.forIn_cons]
  refine wpAny_bind (wpAny_bind (wpAny_bind (looks_own X e A _ _ _ kk ?_)))
  refine wpAny_pure ?_
  show wpAny _ _ (forIn [Value.type "object"] _ _) _ _ _
  rw [List.forIn_cons]
  refine wpAny_bind (wpAny_bind (wpAny_of_eq (show classOwn (.type "object") name = pure v from (congrArg (fun x => (pure x : Sem (Option Value))) e2)) ?_))
  cases v with
  | none => exact wpAny_pure (wpAny_pure (wpAny_pure q))
  | some v => exact wpAny_pure (wpAny_pure (wpAny_pure q))
theorem looks_typeOf {ob : Addr} {oo : Obj} {c : Value} (ho : h.get? ob = some oo) (hc : oo.cls = c) : Looks M h (typeOf (.ref ob)) c := by
  intro A Q E s kk q
  subst hc
  unfold typeOf
  exact wpAny_bind (wpAny_loadPart (kk _ _ ho) (wpAny_pure q))
theorem looks_special {ob : Addr} {oo : Obj} {name : Str} {v : Option Value} (ho : h.get? ob = some oo) (hc : oo.cls = .ref k.K) (ht : Looks M h (typeLookup (.ref k.K) name) v) : Looks M h (specialOf (.ref ob) name) v := by
  intro A Q E s kk q
  unfold specialOf
  exact wpAny_bind (looks_typeOf ho hc A _ _ _ kk (ht A _ _ _ kk q))
theorem looks_isInst {ob : Addr} {oo : Obj} (X : KAt k h) (ho : h.get? ob = some oo) (hc : oo.cls = .ref k.K) : Looks M h (isInstance (.ref ob) (.ref k.K)) true := by
  intro A Q E s kk q
  unfold isInstance
  obtain ⟨h', g, d, t, os⟩ := s
  exact wpAny_bind (looks_typeOf ho hc A _ _ _ kk (isSub_self (kk _ _ X.cls) rfl rfl q))
end
end

section
set_option maxRecDepth 100000
set_option maxHeartbeats 1000000
open PySem PySem.W PyProof.Rows PySem.Calls PySem.W.X
/-- an object of class K, with its slot -/
noncomputable def instO (K D : Addr) (sl : Array (Option Value)) : Obj := ⟨.ref K, some D, .plain, sl⟩
theorem entry_mdg : entryFor table "member_descriptor.__get__" = some Builtin.«member_descriptor.__get__» := entryFor_of_tree (by kernel_rfl)
theorem entry_mds : entryFor table "member_descriptor.__set__" = some Builtin.«member_descriptor.__set__» := entryFor_of_tree (by kernel_rfl)
section
variable {M : Model} {prog : Program} {w : World} {A : Around} {R : Result → Shared → Prop} {h : Heap} {gs : Array GenState} {d : Drawn} {os : OsState} {tk : Nat} {E : Value → Shared → Prop} {k : KP} {ob dd : Addr} {sl : Array (Option Value)}
theorem KAt.hereD (X : KAt k h) (ho : h.get? ob = some (instO k.K dd sl)) : Here h.objs.size h h 0 [(k.D, kDesc k.K k.td), (k.K, kCls k.K k.NS k.B k.t0 k.T.v2), (ob, instO k.K dd sl), (k.NS, nsO k)] := by
  refine Here.begin (by intro p hp; simp only [List.mem_cons, List.not_mem_nil, or_false] at hp; rcases hp with rfl | rfl | rfl | rfl; exact X.desc; exact X.cls; exact ho; exact X.ns) ?_
  have n1 : k.D ≠ k.K := fun q => by have h1 := X.desc; rw [q, X.cls] at h1; simp [kCls, kDesc] at h1
  have n2 : k.D ≠ ob := fun q => by have h1 := X.desc; rw [q, ho] at h1; simp [instO, kDesc] at h1
  have n3 : k.K ≠ ob := fun q => by have h1 := X.cls; rw [q, ho] at h1; simp [instO, kCls] at h1
  have n4 : k.D ≠ k.NS := fun q => by have h1 := X.desc; rw [q, X.ns] at h1; simp [kNs, kDesc] at h1
  have n5 : ob ≠ k.NS := fun q => by rw [q, X.ns] at ho; simp [kNs, instO] at ho
  simp [n1, n2, n3, n4, n5, X.ne]
theorem desc_get {v : Value} (X : KAt k h) (ho : h.get? ob = some (instO k.K dd #[some v])) (hR : ∀ h', (∀ b o, h.get? b = some o → h'.get? b = some o) → R (.ok (.ret v)) ⟨h', gs, d, tk, os⟩) :
    codeAny (model prog w) A (.call (.builtin "member_descriptor.__get__") ⟨[.ref k.D, .ref ob, .ref k.K], []⟩) R ⟨h, gs, d, tk, os⟩ := by
  refine codeAny_call_builtin_code (plainId_quiet (by decide +kernel) _) ?_
  refine mini 40 [0] 0 tk (fun _ => ()) (fun _ => [(k.D, kDesc k.K k.td), (k.K, kCls k.K k.NS k.B k.t0 k.T.v2), (ob, instO k.K dd #[some v]), (k.NS, nsO k)]) () (X.hereD ho) (by kernel_rfl) (by kernel_rfl) (by kernel_rfl) (by kernel_rfl) (by kernel_rfl) ?_
  intro _ h1 H1
  have k1 := Here.ext (news := []) (by simpa using H1) (X.hereD ho).get rfl (by simp)
  have X1 := X.keeps k1
  have ho1 := k1 _ _ ho
  refine codeAny_builtin entry_mdg ?_
  unfold Builtin.«member_descriptor.__get__»
  have hi := looks_isInst (M := model prog w) X1 ho1 rfl
  have f0 : (#[.str sObj k.td, .ref k.K, .builtin "proto.slot", .builtin "proto.slot#set", .int 0 0] : Array Value)[0]? = some (.str sObj k.td) := rfl
  have f1 : (#[.str sObj k.td, .ref k.K, .builtin "proto.slot", .builtin "proto.slot#set", .int 0 0] : Array Value)[1]? = some (.ref k.K) := rfl
  have f2 : (#[.str sObj k.td, .ref k.K, .builtin "proto.slot", .builtin "proto.slot#set", .int 0 0] : Array Value)[2]? = some (.builtin "proto.slot") := rfl
  have hf : (kDesc k.K k.td).data = .fields #[.str sObj k.td, .ref k.K, .builtin "proto.slot", .builtin "proto.slot#set", .int 0 0] := rfl
  have hfs : Looks (model prog w) h1 (fieldsOf (.ref k.D)) #[.str sObj k.td, .ref k.K, .builtin "proto.slot", .builtin "proto.slot#set", .int 0 0] := by
    intro A Q E s kk q
    unfold fieldsOf
    exact wpAny_bind (wpAny_load (kk _ _ X1.desc) (wpAny_pure q))
  repeat (first | (with_reducible refine Looks.at hi ?_) | (with_reducible refine wpAny_field X1.desc hf f0 ?_) | (with_reducible refine wpAny_field X1.desc hf f1 ?_) | (with_reducible refine wpAny_field X1.desc hf f2 ?_) | (with_reducible refine Looks.at hfs ?_) | wp_step | dsimp only)
  refine ⟨plainId_quiet (by decide +kernel) _, ?_⟩
  refine start_end 40 [0, 0, 2, 1, 2] 0 tk (fun _ => ()) (fun _ => [(k.D, kDesc k.K k.td), (k.K, kCls k.K k.NS k.B k.t0 k.T.v2), (ob, instO k.K dd #[some v]), (k.NS, nsO k)]) v (X1.hereD ho1) (by kernel_rfl) (by kernel_rfl) (by kernel_rfl) (by kernel_rfl) (by kernel_rfl) (by kernel_rfl) ?_
  intro _ h2 H2
  have k2 := Here.ext (news := []) (by simpa using H2) (X1.hereD ho1).get rfl (by simp)
  exact hR h2 (fun b o e => k2 _ _ (k1 _ _ e))
theorem desc_set {v : Value} (X : KAt k h) (ho : h.get? ob = some (instO k.K dd #[])) (hR : ∀ h', (∀ b o, b ≠ ob → h.get? b = some o → h'.get? b = some o) → h'.get? ob = some (instO k.K dd #[some v]) → R (.ok (.ret .none)) ⟨h', gs, d, tk, os⟩) :
    codeAny (model prog w) A (.call (.builtin "member_descriptor.__set__") ⟨[.ref k.D, .ref ob, v], []⟩) R ⟨h, gs, d, tk, os⟩ := by
  refine codeAny_call_builtin_code (plainId_quiet (by decide +kernel) _) ?_
  refine mini 40 [0] 0 tk (fun _ => ()) (fun _ => [(k.D, kDesc k.K k.td), (k.K, kCls k.K k.NS k.B k.t0 k.T.v2), (ob, instO k.K dd #[]), (k.NS, nsO k)]) () (X.hereD ho) (by kernel_rfl) (by kernel_rfl) (by kernel_rfl) (by kernel_rfl) (by kernel_rfl) ?_
  intro _ h1 H1
  have k1 := Here.ext (news := []) (by simpa using H1) (X.hereD ho).get rfl (by simp)
  have X1 := X.keeps k1
  have ho1 := k1 _ _ ho
  refine codeAny_builtin entry_mds ?_
  unfold Builtin.«member_descriptor.__set__»
  have hi := looks_isInst (M := model prog w) X1 ho1 rfl
  have f0 : (#[.str sObj k.td, .ref k.K, .builtin "proto.slot", .builtin "proto.slot#set", .int 0 0] : Array Value)[0]? = some (.str sObj k.td) := rfl
  have f1 : (#[.str sObj k.td, .ref k.K, .builtin "proto.slot", .builtin "proto.slot#set", .int 0 0] : Array Value)[1]? = some (.ref k.K) := rfl
  have f2 : (#[.str sObj k.td, .ref k.K, .builtin "proto.slot", .builtin "proto.slot#set", .int 0 0] : Array Value)[2]? = some (.builtin "proto.slot") := rfl
  have f3 : (#[.str sObj k.td, .ref k.K, .builtin "proto.slot", .builtin "proto.slot#set", .int 0 0] : Array Value)[3]? = some (.builtin "proto.slot#set") := rfl
  have hf : (kDesc k.K k.td).data = .fields #[.str sObj k.td, .ref k.K, .builtin "proto.slot", .builtin "proto.slot#set", .int 0 0] := rfl
  have hfs : Looks (model prog w) h1 (fieldsOf (.ref k.D)) #[.str sObj k.td, .ref k.K, .builtin "proto.slot", .builtin "proto.slot#set", .int 0 0] := by
    intro A Q E s kk q
    unfold fieldsOf
    exact wpAny_bind (wpAny_load (kk _ _ X1.desc) (wpAny_pure q))
  repeat (first | (with_reducible refine Looks.at hi ?_) | (with_reducible refine wpAny_field X1.desc hf f0 ?_) | (with_reducible refine wpAny_field X1.desc hf f1 ?_) | (with_reducible refine wpAny_field X1.desc hf f2 ?_) | (with_reducible refine wpAny_field X1.desc hf f3 ?_) | (with_reducible refine Looks.at hfs ?_) | wp_step | dsimp only)
  refine ⟨plainId_quiet (by decide +kernel) _, ?_⟩
  refine start_end 40 [0, 0, 2, 1, 2] 0 tk (fun _ => ()) (fun _ => [(k.D, kDesc k.K k.td), (k.K, kCls k.K k.NS k.B k.t0 k.T.v2), (ob, instO k.K dd #[some v]), (k.NS, nsO k)]) .none (X1.hereD ho1) (by kernel_rfl) (by kernel_rfl) (by kernel_rfl) (by kernel_rfl) (by kernel_rfl) (by kernel_rfl) ?_
  intro _ h2 H2
  have hn := (X1.hereD ho1).nd
  refine hR h2 (fun b o hb e => ?_) (H2.get (ob, instO k.K dd #[some v]) (by simp))
  refine H2.but rfl 4 0 [ob] rfl (fun p hp => ?_) b o (by simpa using hb) (k1 _ _ e)
  simp only [List.take, List.mem_cons, List.not_mem_nil, or_false] at hp
  rcases hp with rfl | rfl | rfl | rfl
  · exact .inr X1.desc
  · exact .inr X1.cls
  · exact .inl (by simp)
  · exact .inr X1.ns
end
end

section
set_option maxRecDepth 100000
set_option maxHeartbeats 1000000
open PySem PySem.W PyProof.Rows PySem.Calls PySem.W.X
section
variable {M : Model} {prog : Program} {w : World} {A : Around} {R : Result → Shared → Prop} {h : Heap} {gs : Array GenState} {d : Drawn} {os : OsState} {tk : Nat} {E : Value → Shared → Prop} {k : KP} {ob dd : Addr} {sl : Array (Option Value)}
theorem look_ga (k : KP) : nsLook "__getattribute__" (nsO k) = .pure none := by kernel_rfl
theorem own_ga : builtinOwn "object" "__getattribute__" = some (.builtin "object.__getattribute__") := by kernel_rfl
theorem get_obj {it : Addr} {Q : Value → Shared → Prop} (X : KAt k h) (ho : h.get? ob = some (instO k.K dd #[some (.ref it)])) (hq : ∀ h', (∀ b o, h.get? b = some o → h'.get? b = some o) → Q (.ref it) ⟨h', gs, d, tk + 1, os⟩) :
    wpAny (model prog w) A (getAttr (.ref ob) "obj" true) Q E ⟨h, gs, d, tk, os⟩ := by
  have ht := looks_typeOf (M := model prog w) ho (c := .ref k.K) rfl
  have hl := tl_obj (M := model prog w) X (look_ga k) own_ga
  unfold getAttr
  repeat (first | (with_reducible refine Looks.at ht ?_) | (with_reducible refine Looks.at hl ?_) | wp_step)
  refine x_call ?_ (fun h => nomatch h)
  refine start_call 10 [2, 1, 1, 3, 0, 0, 1, 1, 3] 0 (tk + 1) (fun _ => ()) (fun _ => [(k.D, kDesc k.K k.td), (k.K, kCls k.K k.NS k.B k.t0 k.T.v2), (ob, instO k.K dd #[some (.ref it)]), (k.NS, nsO k)])
    (.call (.builtin "member_descriptor.__get__") ⟨[.ref k.D, .ref ob, .ref k.K], []⟩) (X.hereD ho) (by kernel_rfl) (by kernel_rfl) (by kernel_rfl) (by kernel_rfl) (by kernel_rfl) ?_
  intro _ h1 x1 hx1 H1
  have k1 := Here.ext (news := []) (by simpa using H1) (X.hereD ho).get rfl (by simp)
  have X1 := X.keeps k1
  refine desc_get X1 (k1 _ _ ho) ?_
  intro h2 k2
  have X2 := X1.keeps k2
  rw [hx1]
  refine resume_end 20 [] 0 (tk + 1) (fun _ => ()) (fun _ => []) (.ref it) (Here.begin (st := []) (by simp) (by simp)) (by kernel_rfl) (by kernel_rfl) (by kernel_rfl) (by kernel_rfl) (by kernel_rfl) (by kernel_rfl) ?_
  intro _ h3 H3
  have k3 : ∀ b o, h2.get? b = some o → h3.get? b = some o := fun b o e => H3.keep b o (by simp) e
  refine by_skim (v := .ref it) 1 (by kernel_rfl) ?_
  exact wpAny_pure (hq h3 fun b o e => k3 _ _ (k2 _ _ (k1 _ _ e)))
end
end

section
set_option maxRecDepth 100000
set_option maxHeartbeats 1000000
open PySem PySem.W PyProof.Rows PySem.Calls PySem.W.X
section
variable {M : Model} {prog : Program} {w : World} {A : Around} {R : Result → Shared → Prop} {h : Heap} {gs : Array GenState} {d : Drawn} {os : OsState} {tk : Nat} {E : Value → Shared → Prop} {k : KP} {ob dd : Addr} {sl : Array (Option Value)}
theorem look_sa (k : KP) : nsLook "__setattr__" (nsO k) = .pure none := by kernel_rfl
theorem own_sa : builtinOwn "object" "__setattr__" = some (.builtin "object.__setattr__") := by kernel_rfl
theorem bs_sa (v : Value) : bindSpecial (.builtin "object.__setattr__") v = pure (.builtin "object.__setattr__", [v]) := by kernel_rfl
theorem set_obj {it : Addr} {Q : Unit → Shared → Prop} (X : KAt k h) (ho : h.get? ob = some (instO k.K dd #[])) (hq : ∀ h', (∀ b o, b ≠ ob → h.get? b = some o → h'.get? b = some o) → h'.get? ob = some (instO k.K dd #[some (.ref it)]) → Q () ⟨h', gs, d, tk + 1, os⟩) :
    wpAny (model prog w) A (setAttr (.ref ob) "obj" (.ref it)) Q E ⟨h, gs, d, tk, os⟩ := by
  have hs := looks_special (M := model prog w) ho (k := k) rfl (tl_obj X (look_sa k) own_sa)
  unfold setAttr callSpecial?
  have e1 := bs_sa (.ref ob)
  repeat (first | (with_reducible refine Looks.at hs ?_) | wp_step)
  refine start_call (c := .call (.builtin "object.__setattr__") ⟨[.ref ob, .str "obj" tk, .ref it], []⟩) 12 [2, 1, 2, 1, 2, 1, 1, 3, 0, 0] 0 (tk + 1) (fun _ => ()) (fun _ => [(k.D, kDesc k.K k.td), (k.K, kCls k.K k.NS k.B k.t0 k.T.v2), (ob, instO k.K dd #[]), (k.NS, nsO k)])
    (.call (.builtin "member_descriptor.__set__") ⟨[.ref k.D, .ref ob, .ref it], []⟩) (X.hereD ho) (by kernel_rfl) (by kernel_rfl) (by kernel_rfl) (by kernel_rfl) (by kernel_rfl) ?_
  intro _ h1 x1 hx1 H1
  have k1 := Here.ext (news := []) (by simpa using H1) (X.hereD ho).get rfl (by simp)
  have X1 := X.keeps k1
  refine desc_set X1 (k1 _ _ ho) ?_
  intro h2 k2 o2
  rw [hx1]
  refine resume_end 20 [] 0 (tk + 1) (fun _ => ()) (fun _ => []) .none (Here.begin (st := []) (by simp) (by simp)) (by kernel_rfl) (by kernel_rfl) (by kernel_rfl) (by kernel_rfl) (by kernel_rfl) (by kernel_rfl) ?_
  intro _ h3 H3
  have k3 : ∀ b o, h2.get? b = some o → h3.get? b = some o := fun b o e => H3.keep b o (by simp) e
  exact wpAny_pure (wpAny_pure (hq h3 (fun b o hb e => k3 _ _ (k2 _ _ hb (k1 _ _ e))) (k3 _ _ o2)))
end
end

section
set_option maxRecDepth 100000
set_option maxHeartbeats 1000000
open PySem PySem.W PyProof.Rows PySem.Calls PySem.W.X
noncomputable def initPos : Pos × Pos × Pos × Pos := match (defAt 2).body with
  | [.Assign [.Attribute (.Name _ p1) _ p2] (.Name _ p3) p4] => (p1, p2, p3, p4)
  | _ => default
noncomputable def sSelf : Str := "self"
theorem init_body : (defAt 2).body = [.Assign [.Attribute (.Name sSelf initPos.1) "obj" initPos.2.1] (.Name "obj" initPos.2.2.1) initPos.2.2.2] := by kernel_rfl
theorem init_bind (c : Addr) (a b : Value) : bindArgs (mFn 2 [] c .none) ⟨[a, b], []⟩ = pure [(sSelf, a), ("obj", b)] := by kernel_rfl
theorem init_names : ((defAt 2).scope.names.all fun x => x.2 != .cell) = true := by kernel_rfl
theorem init_l1 : (defAt 2).scope.names.lookup sSelf = some .local := by kernel_rfl
theorem init_l2 : (defAt 2).scope.names.lookup ("obj" : Str) = some .local := by kernel_rfl
theorem init_kind : (defAt 2).scope.kind = .function := by kernel_rfl
theorem init_co : (defAt 2).scope.isCoroutine = false := by kernel_rfl
theorem init_gen : (defAt 2).scope.isGenerator = false := by kernel_rfl
section
variable {M : Model} {prog : Program} {w : World} {A : Around} {R : Result → Shared → Prop} {h : Heap} {gs : Array GenState} {d : Drawn} {os : OsState} {tk : Nat} {E : Value → Shared → Prop} {k : KP} {ob dd : Addr} {sl : Array (Option Value)}
theorem swaps_init (c L f : Addr) : swapsWith (.Name "obj" initPos.2.2.1) (some (.Attribute (.Name sSelf initPos.1) "obj" initPos.2.1)) initPos.2.2.2.line (callEnv (mFn 2 [] c .none) L f) = pure false := by kernel_rfl
theorem kind_init1 (c L f : Addr) : (callEnv (mFn 2 [] c .none) L f).kindOf sSelf = some .local := by kernel_rfl
theorem kind_init2 (c L f : Addr) : (callEnv (mFn 2 [] c .none) L f).kindOf "obj" = some .local := by kernel_rfl
theorem init_K {it : Addr} (X : KAt k h) (ho : h.get? ob = some (instO k.K dd #[])) (hlim : h.NoLimit) (hA : A.depth < recursionLimit)
    (hR : ∀ h' tk', (∀ b o, b ≠ ob → h.get? b = some o → h'.get? b = some o) → h'.get? ob = some (instO k.K dd #[some (.ref it)]) → R (.ok (.ret .none)) ⟨h', gs, d, tk', os⟩) :
    codeAny (model prog w) A (.call (.ref k.F.init) ⟨[.ref ob, .ref it], []⟩) R ⟨h, gs, d, tk, os⟩ := by
  refine codeAny_call_def (fd := mFn 2 [] k.c2 .none) (body := (defAt 2).body) (binds := [(sSelf, .ref ob), ("obj", .ref it)]) hA X.init rfl hlim X.r2 rfl (BindsTo.of_eq (init_bind _ _ _)) ?_ ?_ ?_ init_co init_gen init_kind
  · intro x hx q
    have := List.all_eq_true.mp init_names x hx
    rw [q] at this
    exact absurd this (by decide)
  · intro x hx
    simp only [List.mem_cons, List.not_mem_nil, or_false] at hx
    rcases hx with rfl | rfl
    · exact init_l1
    · exact init_l2
  intro h1 hns k1
  have X1 := X.keeps k1
  have ho1 := k1 _ _ ho
  have e1 := kind_init1 k.c2 h.objs.size k.F.init
  have e2 := kind_init2 k.c2 h.objs.size k.F.init
  have e3 := swaps_init k.c2 h.objs.size k.F.init
  have e4 : (callEnv (mFn 2 [] k.c2 .none) h.objs.size k.F.init).scope.kind = .function := init_kind
  have e5 : (callEnv (mFn 2 [] k.c2 .none) h.objs.size k.F.init).locals = h.objs.size := rfl
  rw [init_body]
  refine wpAny_execs_cons ?_
  rw [plainObj_exec_Assign_Attribute _ _ _ _ _ e3]
  refine wpAny_bind (wpAny_standAt ?_)
  refine wpAny_bind (wpAny_Name (wpAny_loadName_local e4 e2 (by rw [e5]; exact hns) (v := .ref it) (by kernel_rfl) ?_) (by decide +kernel))
  rw [assign_Attribute]
  refine wpAny_bind ?_
  repeat (first | (with_reducible refine wpAny_Name (wpAny_loadName_local e4 e1 (by rw [e5]; exact hns) (v := .ref ob) (by kernel_rfl) ?_) (by decide +kernel)) | (with_reducible refine set_obj X1 ho1 ?_) | (with_reducible refine wpAny_bind ?_) | (with_reducible refine wpAny_holding ?_) | (with_reducible refine wpAny_standAt ?_))
  intro h2 k2 o2
  refine by_skim (v := ()) 5 (by kernel_rfl) ?_
  refine wpAny_pure (wpAny_execs_nil ?_)
  exact hR h2 _ (fun b o hb e => k2 _ _ hb (k1 _ _ e)) o2
theorem look_init (k : KP) : nsLook "__init__" (nsO k) = .pure (some (.ref k.F.init)) := by kernel_rfl
theorem entry_tc : entryFor table "type.__call__" = some Builtin.«type.__call__» := entryFor_of_tree (by kernel_rfl)
theorem code_new {it : Addr} (X : KAt k h)
    (hR : ∀ h', Here h.objs.size h h' 2 (kst k ++ [(h.objs.size + 0, ⟨.type "dict", none, .dict #[] 0, #[]⟩), (h.objs.size + 1, instO k.K (h.objs.size + 0) #[])]) → R (.ok (.ret (.ref (h.objs.size + 1)))) ⟨h', gs, d, tk, os⟩) :
    codeAny (model prog w) A (.call (.builtin "object.__new__") ⟨[.ref k.K, .ref it], []⟩) R ⟨h, gs, d, tk, os⟩ := by
  refine start_end 100 [0, 0, 0, 0, 0, 0, 0, 0, 0, 0, 0, 0, 0, 0, 0, 0, 0, 1, 0, 0] 2 tk (fun _ => ()) (fun _ => kst k ++ [(h.objs.size + 0, ⟨.type "dict", none, .dict #[] 0, #[]⟩), (h.objs.size + 1, instO k.K (h.objs.size + 0) #[])]) (.ref (h.objs.size + 1)) X.here
    (by kernel_rfl) (by kernel_rfl) (by kernel_rfl) (by kernel_rfl) (by kernel_rfl) (by kernel_rfl) ?_
  intro _ h' H
  exact hR h' H
theorem looks_bindF {f : Addr} {fd : FuncData} {v : Value} (hf : h.get? f = some (fnObj fd)) : Looks M h (bindSpecial (.ref f) v) (.ref f, [v]) := by
  intro A Q E s kk q
  unfold bindSpecial
  refine wpAny_bind (looks_typeOf hf rfl A _ _ _ kk ?_)
  exact wpAny_pure q
theorem code_key {it : Addr} (X : KAt k h) (hlim : h.NoLimit) (hA : A.depth + 1 < recursionLimit)
    (hR : ∀ ob dd h' tk', (∀ b o, h.get? b = some o → h'.get? b = some o) → h'.get? ob = some (instO k.K dd #[some (.ref it)]) → h.objs.size ≤ ob → R (.ok (.ret (.ref ob))) ⟨h', gs, d, tk', os⟩) :
    codeAny (model prog w) A (.builtin "type.__call__" ⟨[.ref k.K, .ref it], []⟩) R ⟨h, gs, d, tk, os⟩ := by
  refine codeAny_builtin entry_tc ?_
  unfold Builtin.«type.__call__»
  have hC := looks_mroK (M := model prog w) X
  repeat ((fail_if_success (with_reducible show wpAny _ _ (Bind.madeBy _) _ _ _)); (first | (with_reducible refine Looks.at hC ?_) | wp_step))
  refine mini 30 [0, 0] 0 tk (fun _ => ()) (fun _ => kst k) (some "object.__new__") X.here (by kernel_rfl) (by kernel_rfl) (by kernel_rfl) (by kernel_rfl) (by kernel_rfl) ?_
  intro _ h1 H1
  have k1 := X.extend (news := []) H1 (by simp)
  have s1 : h1.objs.size = h.objs.size := H1.size
  have X1 := X.keeps k1
  wp_delta
  refine wpAny_bind (wpAny_pure ?_)
  wp_delta
  refine wpAny_bind (wpAny_holding (wpAny_call (code_new X1 ?_)))
  intro h2 H2
  have k2 := X1.extend H2 (by intro p hp; simp only [List.mem_cons, List.not_mem_nil, or_false] at hp; rcases hp with rfl | rfl <;> exact Nat.le_add_right _ _)
  have X2 := X1.keeps k2
  have ho := H2.get (h1.objs.size + 1, instO k.K (h1.objs.size + 0) #[]) (by simp)
  have hi := looks_isInst (M := model prog w) X2 ho rfl
  have hs := looks_special (M := model prog w) ho (k := k) rfl (tl_own X2 (look_init k))
  have hb := looks_bindF (M := model prog w) (v := .ref (h1.objs.size + 1)) X2.init
  show wpAny _ _ _ _ _ _
  refine wpAny_bind (Looks.at hi ?_)
  rw [if_neg (by simp)]
  unfold callSpecial?
  refine wpAny_bind (wpAny_holding (wpAny_bind (Looks.at hs (wpAny_holding (wpAny_bind (Looks.at hb (wpAny_bind (wpAny_call ?_))))))))
  refine init_K (it := it) X2 ho ((hlim.keeps k1).keeps k2) ?_ ?_
  · rw [depth_under_make]; exact hA
  intro h3 tk3 k3 o3
  refine wpAny_pure ?_
  wp_delta
  rw [if_neg (by simp)]
  refine wpAny_pure (hR _ _ h3 tk3 (fun b o e => k3 _ _ ?_ (k2 _ _ (k1 _ _ e))) o3 ?_)
  · have := Heap.lt_size e
    rw [s1]
    exact Nat.ne_of_lt (Nat.lt_succ_of_lt this)
  · rw [s1]; exact Nat.le_succ _
noncomputable def againOf : Sem Fin → Option Code
  | .pure (.again c) => some c
  | _ => none
theorem start_again {n : Addr} {h0 : Heap} {i : Nat} {st : List (Addr × Obj)} {c : Code} (f : Nat) (js : List Nat) (i' tk' : Nat) {α : Type} (zf : List (Addr × Obj) → α) (st' : α → List (Addr × Obj)) (c' : Code) (H : Here n h0 h i st)
    (e : (start ⟨prog, w.params⟩ n f js i tk st A c).eqs = ((start ⟨prog, w.params⟩ n f js i tk st A c).eqs.map Prod.fst).map fun x => (x, x))
    (ei : (start ⟨prog, w.params⟩ n f js i tk st A c).i = i') (et : (start ⟨prog, w.params⟩ n f js i tk st A c).tk = tk') (es : (start ⟨prog, w.params⟩ n f js i tk st A c).st = st' (zf (start ⟨prog, w.params⟩ n f js i tk st A c).st))
    (ec : againOf (start ⟨prog, w.params⟩ n f js i tk st A c).t = some c') (ek : stkNil (start ⟨prog, w.params⟩ n f js i tk st A c).stk = true) (eA : (start ⟨prog, w.params⟩ n f js i tk st A c).A = A) (hq : c'.quiet = true)
    (k : ∀ z h', Here n h0 h' i' (st' z) → codeAny (model prog w) A c' R ⟨h', gs, d, tk', os⟩) :
    codeAny (model prog w) A c R ⟨h, gs, d, tk, os⟩ := by
  refine go_code (engine f js H e fun h' H' => ?_)
  have z := k _ h' (show Here n h0 h' i' (st' (zf _)) from es ▸ ei ▸ H')
  rw [← et] at z
  unfold start at ek ec z eA
  clear e ei et es k
  revert ek ec z eA
  generalize drive denZ ⟨prog, w.params⟩ n f js i tk st [] A c [] (denZ c) = y
  obtain ⟨_, _, _, _, A', _, stk, t⟩ := y
  intro ec ek eA z
  simp only at eA ec ek z ⊢
  subst eA
  cases stk with
  | nil =>
    unfold againOf at ec
    split at ec
    · cases ec
      exact wpAny_pure ⟨hq, z⟩
    · cases ec
  | cons a b => cases ek
theorem call_key {it : Addr} {Q : Value → Shared → Prop} (X : KAt k h) (hlim : h.NoLimit) (hA : A.depth + 1 < recursionLimit)
    (hQ : ∀ ob dd h' tk', (∀ b o, h.get? b = some o → h'.get? b = some o) → h'.get? ob = some (instO k.K dd #[some (.ref it)]) → h.objs.size ≤ ob → Q (.ref ob) ⟨h', gs, d, tk', os⟩) :
    wpAny (model prog w) A (call (.ref k.K) [.ref it]) Q E ⟨h, gs, d, tk, os⟩ := by
  refine wpAny_call ?_
  refine start_again 4 [0, 0, 0] 0 tk (fun _ => ()) (fun _ => kst k) (.builtin "type.__call__" ⟨[.ref k.K, .ref it], []⟩) X.here (by kernel_rfl) (by kernel_rfl) (by kernel_rfl) (by kernel_rfl) (by kernel_rfl) (by kernel_rfl) (by kernel_rfl) (Code.quiet_builtin _ (by decide +kernel)) ?_
  intro _ h1 H1
  have k1 := X.extend (news := []) H1 (by simp)
  have s1 : h1.objs.size = h.objs.size := H1.size
  refine code_key (X.keeps k1) (hlim.keeps k1) hA ?_
  intro ob dd h2 tk2 k2 o2 l2
  exact hQ ob dd h2 tk2 (fun b o e => k2 _ _ (k1 _ _ e)) o2 (s1 ▸ l2)
end
end

section
set_option maxRecDepth 100000
set_option maxHeartbeats 1000000
open PySem PySem.W PyProof.Rows PySem.Calls PySem.W.X
structure MPos where
  (p1 p2 p3 p4 p5 p6 p7 p8 p9 : Pos)
  x : Int
noncomputable def sOther : Str := "other"
noncomputable def mPos (m : Nat) : MPos := match (defAt m).body with
  | [.Return (some (.Compare (.Call (.Name _ p1) [.Attribute (.Name _ p2) _ p3, .Attribute (.Name _ p4) _ p5] [] p6) [_] [.Constant _ _ p7] p8)) p9] => { p1, p2, p3, p4, p5, p6, p7, p8, p9, x := 0 }
  | _ => ⟨default, default, default, default, default, default, default, default, default, 0⟩

/-- the facts of one of K's comparing methods -/
structure MethF (m : Nat) (op : CmpOp) : Prop where
  body : (defAt m).body = [.Return (some (.Compare (.Call (.Name sMycmp (mPos m).p1) [.Attribute (.Name sSelf (mPos m).p2) "obj" (mPos m).p3, .Attribute (.Name sOther (mPos m).p4) "obj" (mPos m).p5] [] (mPos m).p6) [op] [.Constant (.int 0) 0 (mPos m).p7] (mPos m).p8)) (mPos m).p9]
  bind : ∀ (cl : List (Str × Addr)) (c : Addr) (ct a b : Value), bindArgs (mFn m cl c ct) ⟨[a, b], []⟩ = pure [(sSelf, a), (sOther, b)]
  names : ((defAt m).scope.names.all fun x => x.2 != .cell) = true
  l1 : (defAt m).scope.names.lookup sSelf = some .local
  l2 : (defAt m).scope.names.lookup sOther = some .local
  kind : (defAt m).scope.kind = .function
  co : (defAt m).scope.isCoroutine = false
  gen : (defAt m).scope.isGenerator = false
  k1 : ∀ (cl : List (Str × Addr)) (c L f : Addr) (ct : Value), (callEnv (mFn m cl c ct) L f).kindOf sSelf = some .local
  k2 : ∀ (cl : List (Str × Addr)) (c L f : Addr) (ct : Value), (callEnv (mFn m cl c ct) L f).kindOf sOther = some .local
  k3 : ∀ (cl : List (Str × Addr)) (c L f : Addr) (ct : Value), (callEnv (mFn m cl c ct) L f).kindOf sMycmp = some .free
theorem methF3 : MethF 3 .Lt := ⟨by kernel_rfl, fun _ _ _ _ _ => by kernel_rfl, by kernel_rfl, by kernel_rfl, by kernel_rfl, by kernel_rfl, by kernel_rfl, by kernel_rfl, fun _ _ _ _ _ => by kernel_rfl, fun _ _ _ _ _ => by kernel_rfl, fun _ _ _ _ _ => by kernel_rfl⟩
theorem methF4 : MethF 4 .Gt := ⟨by kernel_rfl, fun _ _ _ _ _ => by kernel_rfl, by kernel_rfl, by kernel_rfl, by kernel_rfl, by kernel_rfl, by kernel_rfl, by kernel_rfl, fun _ _ _ _ _ => by kernel_rfl, fun _ _ _ _ _ => by kernel_rfl, fun _ _ _ _ _ => by kernel_rfl⟩
theorem methF5 : MethF 5 .Eq := ⟨by kernel_rfl, fun _ _ _ _ _ => by kernel_rfl, by kernel_rfl, by kernel_rfl, by kernel_rfl, by kernel_rfl, by kernel_rfl, by kernel_rfl, fun _ _ _ _ _ => by kernel_rfl, fun _ _ _ _ _ => by kernel_rfl, fun _ _ _ _ _ => by kernel_rfl⟩
theorem methF6 : MethF 6 .LtE := ⟨by kernel_rfl, fun _ _ _ _ _ => by kernel_rfl, by kernel_rfl, by kernel_rfl, by kernel_rfl, by kernel_rfl, by kernel_rfl, by kernel_rfl, fun _ _ _ _ _ => by kernel_rfl, fun _ _ _ _ _ => by kernel_rfl, fun _ _ _ _ _ => by kernel_rfl⟩
theorem methF7 : MethF 7 .GtE := ⟨by kernel_rfl, fun _ _ _ _ _ => by kernel_rfl, by kernel_rfl, by kernel_rfl, by kernel_rfl, by kernel_rfl, by kernel_rfl, by kernel_rfl, fun _ _ _ _ _ => by kernel_rfl, fun _ _ _ _ _ => by kernel_rfl, fun _ _ _ _ _ => by kernel_rfl⟩
end

section
set_option maxRecDepth 100000
set_option maxHeartbeats 1000000
open PySem PySem.W PyProof.Rows PySem.Calls PySem.W.X
section
variable {M : Model} {prog : Program} {w : World} {A : Around} {R : Result → Shared → Prop} {h : Heap} {gs : Array GenState} {d : Drawn} {os : OsState} {tk : Nat} {E : Value → Shared → Prop} {k : KP} {ob dd : Addr} {sl : Array (Option Value)}
theorem eval_attr {env : Env} {x : Str} {p1 p2 : Pos} {it : Addr} {Q : Value → Shared → Prop} (X : KAt k h) (ho : h.get? ob = some (instO k.K dd #[some (.ref it)]))
    (he : ∀ {Q' : Value → Shared → Prop}, Q' (.ref ob) ⟨h, gs, d, tk, os⟩ → wpAny (model prog w) A (eval (.Name x p1) env) Q' E ⟨h, gs, d, tk, os⟩)
    (hq : ∀ h' tk', (∀ b o, h.get? b = some o → h'.get? b = some o) → Q (.ref it) ⟨h', gs, d, tk', os⟩) :
    wpAny (model prog w) A (eval (.Attribute (.Name x p1) "obj" p2) env) Q E ⟨h, gs, d, tk, os⟩ := by
  rw [arm_eval_Attribute]
  refine wpAny_bind ?_
  show wpAny _ _ (eval (.Name x p1) env) _ _ _
  refine he ?_
  refine wpAny_bind (wpAny_standAt (wpAny_bind (wpAny_holding (get_obj X ho ?_))))
  intro h' k1
  exact wpAny_bind (wpAny_letTemporaryGo (wpAny_pure (hq h' _ k1)))
noncomputable def cmpZ : CmpOp → Int → Bool
  | .Lt, z => decide (z < 0)
  | .Gt, z => decide (z > 0)
  | .Eq, z => z == 0
  | .LtE, z => decide (z ≤ 0)
  | .GtE, z => decide (z ≥ 0)
  | _, _ => false
/-- what the comparison's call gives -/
noncomputable def CmpGives (prog : Program) (w : World) (A : Around) (gs : Array GenState) (d : Drawn) (os : OsState) (h : Heap) (f : Addr) (a b : Addr) (z : Int) : Prop :=
  ∀ (A' : Around) (h1 : Heap) (t1 : Nat) (Q E : Value → Shared → Prop), A'.handled = A.handled → A'.depth ≤ A.depth + 1 → A'.units ≤ A.units + 10 → (∀ b o, h.get? b = some o → h1.get? b = some o) →
    (∀ h2 t2 t, (∀ b o, h1.get? b = some o → h2.get? b = some o) → Q (.int z t) ⟨h2, gs, d, t2, os⟩) → wpAny (model prog w) A' (call (.ref f) [.ref a, .ref b]) Q E ⟨h1, gs, d, t1, os⟩
theorem meth_K {m : Nat} {op : CmpOp} (F : MethF m op) (hop : op = .Lt ∨ op = .Gt ∨ op = .Eq ∨ op = .LtE ∨ op = .GtE) {f c : Addr} {ct : Value} {cell o1 o2 dd1 dd2 a b : Addr} {z : Int} {fd : FuncData}
    (hf : h.get? f = some (fnObj (mFn m [(sMycmp, cell)] c ct))) (hr : h.CodeRec (.ref c) (mQual m)) (X : KAt k h) (hcell : h.IsCell cell (some (.ref 201)))
    (ho1 : h.get? o1 = some (instO k.K dd1 #[some (.ref a)])) (ho2 : h.get? o2 = some (instO k.K dd2 #[some (.ref b)])) (hlim : h.NoLimit) (hA : A.depth < recursionLimit)
    (h201 : FnAt 201 h) (hcmp : CmpGives prog w A gs d os h 201 a b z)
    (hR : ∀ h' tk', (∀ b o, h.get? b = some o → h'.get? b = some o) → R (.ok (.ret (.bool (cmpZ op z)))) ⟨h', gs, d, tk', os⟩) :
    codeAny (model prog w) A (.call (.ref f) ⟨[.ref o1, .ref o2], []⟩) R ⟨h, gs, d, tk, os⟩ := by
  refine codeAny_call_def (fd := mFn m [(sMycmp, cell)] c ct) (body := (defAt m).body) (binds := [(sSelf, .ref o1), (sOther, .ref o2)]) hA hf rfl hlim hr rfl (BindsTo.of_eq (F.bind _ _ _ _ _)) ?_ ?_ ?_ F.co F.gen F.kind
  · intro x hx q
    have := List.all_eq_true.mp F.names x hx
    rw [q] at this
    exact absurd this (by decide)
  · intro x hx
    simp only [List.mem_cons, List.not_mem_nil, or_false] at hx
    rcases hx with rfl | rfl
    · exact F.l1
    · exact F.l2
  intro h1 hns k1
  have e1 := F.k1 [(sMycmp, cell)] c h.objs.size f ct
  have e2 := F.k2 [(sMycmp, cell)] c h.objs.size f ct
  have e3 := F.k3 [(sMycmp, cell)] c h.objs.size f ct
  have e4 : (callEnv (mFn m [(sMycmp, cell)] c ct) h.objs.size f).scope.kind = .function := F.kind
  have e5 : (callEnv (mFn m [(sMycmp, cell)] c ct) h.objs.size f).locals = h.objs.size := rfl
  have e6 : (callEnv (mFn m [(sMycmp, cell)] c ct) h.objs.size f).cells.lookup sMycmp = some cell := by kernel_rfl
  rw [F.body]
  refine wpAny_execs_cons (wpAny_Return_some (wpAny_Compare1 ?_ (by rcases hop with rfl | rfl | rfl | rfl | rfl <;> rfl)))
  have L1 : h1.Ns (callEnv (mFn m [(sMycmp, cell)] c ct) h.objs.size f).locals _ := hns
  refine wpAny_Call_NameR ?_
  refine wpAny_Name (wpAny_loadName_free e4 e3 e6 (hcell.keeps k1) ?_ (by decide +kernel)) (by decide +kernel)
  have X1 := X.keeps k1
  have o11 := k1 _ _ ho1
  have o21 := k1 _ _ ho2
  have f1 : FnAt 201 h1 := by obtain ⟨a, b, c, d, e⟩ := h201; exact ⟨a, b, c, d, k1 _ _ e⟩
  have A1 : (A.deeper (callEnv (mFn m [(sMycmp, cell)] c ct) h.objs.size f)).handled = A.handled := rfl
  have A2 : (A.deeper (callEnv (mFn m [(sMycmp, cell)] c ct) h.objs.size f)).depth ≤ A.depth + 1 := Nat.le_of_eq (depth_deeper _ _)
  have A3 : (A.deeper (callEnv (mFn m [(sMycmp, cell)] c ct) h.objs.size f)).units ≤ A.units + 10 := by rw [Around.deeper_units]; omega
  have sv : (fun y => ([(sSelf, Value.ref o1), (sOther, .ref o2)] : List (Str × Value)).reverse.lookup y) sSelf = some (.ref o1) := by kernel_rfl
  have ov : (fun y => ([(sSelf, Value.ref o1), (sOther, .ref o2)] : List (Str × Value)).reverse.lookup y) sOther = some (.ref o2) := by kernel_rfl
  show wpAny _ (A.deeper (callEnv (mFn m [(sMycmp, cell)] c ct) h.objs.size f)) _ _ _ ⟨h1, gs, d, _, os⟩
  revert A1 A2 A3 L1 e1 e2 e4
  generalize callEnv (mFn m [(sMycmp, cell)] c ct) h.objs.size f = env
  intro e1 e2 e4 L1 A1 A2 A3
  have n1 : ∀ {h' : Heap} {t : Nat} {Q' E' : Value → Shared → Prop} {p : Pos}, (∀ b o, h1.get? b = some o → h'.get? b = some o) → Q' (.ref o1) ⟨h', gs, d, t, os⟩ → wpAny (model prog w) (A.deeper env) (eval (.Name sSelf p) env) Q' E' ⟨h', gs, d, t, os⟩ :=
    fun kk q => wpAny_Name (wpAny_loadName_local e4 e1 (L1.keeps kk) sv q) (by decide +kernel)
  have n2 : ∀ {h' : Heap} {t : Nat} {Q' E' : Value → Shared → Prop} {p : Pos}, (∀ b o, h1.get? b = some o → h'.get? b = some o) → Q' (.ref o2) ⟨h', gs, d, t, os⟩ → wpAny (model prog w) (A.deeper env) (eval (.Name sOther p) env) Q' E' ⟨h', gs, d, t, os⟩ :=
    fun kk q => wpAny_Name (wpAny_loadName_local e4 e2 (L1.keeps kk) ov q) (by decide +kernel)
  refine callWith_F f1 ?_
  repeat (first
    | (refine eval_attr X1 o11 (n1 fun _ _ e => e) ?_; intro h2 t2 k2)
    | (refine eval_attr (X1.keeps k2) (k2 _ _ o21) (n2 k2) ?_; intro h3 t3 k3)
    | wp_step)
  refine ⟨by obtain ⟨x1, x2, x3, x4, e⟩ := f1; exact ⟨x1, x2, x3, x4, k3 _ _ (k2 _ _ e)⟩, hcmp _ h3 t3 _ _ A1 A2 A3 (fun b o e => k3 _ _ (k2 _ _ (k1 _ _ e))) ?_⟩
  intro h4 t4 t k4
  have kk : ∀ b o, h.get? b = some o → h4.get? b = some o := fun b o e => k4 _ _ (k3 _ _ (k2 _ _ (k1 _ _ e)))
  refine wpAny_Constant_int ?_
  rcases hop with rfl | rfl | rfl | rfl | rfl
  · exact P.lt_int (hR h4 _ kk)
  · exact P.gt_int (hR h4 _ kk)
  · exact P.eq_int (hR h4 _ kk)
  · exact P.le_int (hR h4 _ kk)
  · exact P.ge_int (hR h4 _ kk)
end
end

section
set_option maxRecDepth 100000
set_option maxHeartbeats 1000000
open PySem PySem.W PyProof.Rows PySem.Calls PySem.W.X Builtin
/-- the facts of one of the five names, on the class K and on type -/
structure NmF (name : Str) (g : String) (f : KP → Addr) : Prop where
  mt : typeLookup (.type "type") name = pure (some (.builtin g))
  ty : typeOf (.builtin g) = pure (.type "wrapper_descriptor")
  own : ∀ k : KP, nsLook name (nsO k) = .pure (some (.ref (f k)))
  held : ∀ a : Addr, heldUnderItsOwnName name (.ref a) = false
theorem nm_lt : NmF "__lt__" "object.__lt__" (fun k => k.F.lt) := ⟨by rw [typeLookup_type, builtinLookup_eq_fast]; kernel_rfl, by kernel_rfl, fun _ => by kernel_rfl, fun _ => by kernel_rfl⟩
theorem nm_gt : NmF "__gt__" "object.__gt__" (fun k => k.F.gt) := ⟨by rw [typeLookup_type, builtinLookup_eq_fast]; kernel_rfl, by kernel_rfl, fun _ => by kernel_rfl, fun _ => by kernel_rfl⟩
theorem nm_le : NmF "__le__" "object.__le__" (fun k => k.F.le) := ⟨by rw [typeLookup_type, builtinLookup_eq_fast]; kernel_rfl, by kernel_rfl, fun _ => by kernel_rfl, fun _ => by kernel_rfl⟩
theorem nm_ge : NmF "__ge__" "object.__ge__" (fun k => k.F.ge) := ⟨by rw [typeLookup_type, builtinLookup_eq_fast]; kernel_rfl, by kernel_rfl, fun _ => by kernel_rfl, fun _ => by kernel_rfl⟩
theorem wd_get : typeLookup (.type "wrapper_descriptor") "__get__" = pure (some (.builtin "wrapper_descriptor.__get__")) := by rw [typeLookup_type, builtinLookup_eq_fast]; kernel_rfl
theorem wd_set : typeLookup (.type "wrapper_descriptor") "__set__" = pure none := by rw [typeLookup_type, builtinLookup_eq_fast]; kernel_rfl
theorem wd_del : typeLookup (.type "wrapper_descriptor") "__delete__" = pure none := by rw [typeLookup_type, builtinLookup_eq_fast]; kernel_rfl
theorem looks_spW {M : Model} {h : Heap} {g : String} {n : Str} {r : Option Value} (ty : typeOf (.builtin g) = pure (.type "wrapper_descriptor")) (e : typeLookup (.type "wrapper_descriptor") n = pure r) : Looks M h (specialOf (.builtin g) n) r :=
  Looks.of_pure (by unfold specialOf; rw [ty]; exact e)
section
variable {prog : Program} {w : World} {A : Around} {E : Value → Shared → Prop} {h : Heap} {gs : Array GenState} {d : Drawn} {os : OsState} {tk : Nat} {k : KP}
theorem tga_K {name : Str} {g : String} {f : KP → Addr} {t : Tok} {fd : FuncData} {Q : Fin → Shared → Prop} (N : NmF name g f) (X : KAt k h) (hf : h.get? (f k) = some (fnObj fd)) (ho : Looks (model prog w) h (opaqueClassAbove (.ref k.K)) none)
    (hq : Q (.done (.ret (.ref (f k)))) ⟨h, gs, d, tk, os⟩) : wpAny (model prog w) A (Builtin.«type.__getattribute__» ⟨[.ref k.K, .str name t], []⟩) Q E ⟨h, gs, d, tk, os⟩ := by
  have ht := looks_typeOf (M := model prog w) X.cls (c := .type "type") rfl
  have h1 : Looks (model prog w) h (typeLookup (.type "type") name) _ := Looks.of_pure N.mt
  have h2 := looks_spW (M := model prog w) (h := h) N.ty wd_get
  have h3 := looks_spW (M := model prog w) (h := h) N.ty wd_set
  have h4 := looks_spW (M := model prog w) (h := h) N.ty wd_del
  have h5 := tl_own (M := model prog w) X (N.own k)
  have h6 := looks_typeOf (M := model prog w) hf (c := .type "function") rfl
  unfold Builtin.«type.__getattribute__»
  refine wpAny_bind (wpAny_pure (wpAny_bind (ho.at (wpAny_bind (ht.at (wpAny_bind (h1.at (wpAny_bind (h2.at ?_)))))))))
  refine wpAny_bind (h3.at (wpAny_bind (h4.at (wpAny_bind (wpAny_pure ?_)))))
  refine wpAny_bind (h5.at ?_)
  show wpAny _ _ (if heldUnderItsOwnName name (.ref (f k)) = true then _ else _) _ _ _
  rw [N.held, if_neg (by simp)]
  refine wpAny_bind (h6.at ?_)
  exact wpAny_pure hq
theorem getAttr_K {name : Str} {g : String} {f : KP → Addr} {fd : FuncData} {ex : Bool} {Q : Value → Shared → Prop} (N : NmF name g f) (X : KAt k h) (hf : h.get? (f k) = some (fnObj fd)) (ho : Looks (model prog w) h (opaqueClassAbove (.ref k.K)) none)
    (hq : Q (.ref (f k)) ⟨h, gs, d, tk + 1, os⟩) : wpAny (model prog w) A (getAttr (.ref k.K) name ex) Q E ⟨h, gs, d, tk, os⟩ := by
  have ht := looks_typeOf (M := model prog w) X.cls (c := .type "type") rfl
  have hg : Looks (model prog w) h (typeLookup (.type "type") "__getattribute__") _ := Looks.of_pure tn_ga
  refine wpAny_bind (wpAny_mkText (wpAny_holding (wpAny_bind (ht _ _ _ _ (fun _ _ e => e) (wpAny_bind (hg _ _ _ _ (fun _ _ e => e) ?_))))))
  dsimp only
  rw [if_neg (by decide +kernel)]
  refine wpAny_bind (wpAny_pure (wpAny_bind (wpAny_attempt (wpAny_holding ?_))))
  unfold callGetattribute
  rw [show (ex && onTheHeap (Value.builtin "type.__getattribute__")) = false from Bool.and_false _, if_neg (by decide)]
  unfold boundAndCalled
  rw [KF.slot_tga.bind]
  refine wpAny_bind (wpAny_pure ?_)
  show wpAny _ _ (call (.builtin "type.__getattribute__") [.ref k.K, .str name tk]) _ _ _
  refine wpAny_call_entry KF.slot_tga ⟨_, X.cls, rfl⟩ KF.entry_tga (tga_K N X hf ho ⟨_, rfl, ?_⟩) (KF.args_tga _ _)
  exact wpAny_pure hq
end
end

section
set_option maxRecDepth 100000
set_option maxHeartbeats 1000000
open PySem PySem.W PyProof.Rows PySem.Calls PySem.W.X Builtin
theorem canon_tga : (Manifest.canonical "type.__getattribute__" != "object.__getattribute__") = true := by decide +kernel
theorem look_eq (k : KP) : nsLook "__eq__" (nsO k) = .pure (some (.ref k.F.eq)) := by kernel_rfl
theorem look_lt (k : KP) : nsLook "__lt__" (nsO k) = .pure (some (.ref k.F.lt)) := by kernel_rfl
theorem look_ne (k : KP) : nsLook "__ne__" (nsO k) = .pure none := by kernel_rfl
theorem own_ne : builtinOwn "object" "__ne__" = some (.builtin "object.__ne__") := by kernel_rfl
theorem bs_ne (v : Value) : bindSpecial (.builtin "object.__ne__") v = pure (.builtin "object.__ne__", [v]) := by kernel_rfl
theorem entry_ne : entryFor table "object.__ne__" = some Builtin.«object.__ne__» := entryFor_of_tree (by kernel_rfl)
theorem args_ne (a b : Value) : argsOk "object.__ne__" ⟨[a, b], []⟩ := by unfold argsOk; kernel_rfl
section
variable {M : Model} {prog : Program} {w : World} {A : Around} {E : Value → Shared → Prop} {h : Heap} {gs : Array GenState} {d : Drawn} {os : OsState} {tk : Nat} {k : KP}
theorem getMethod_K {name : Str} {g : String} {f : KP → Addr} {fd : FuncData} {pl : Sem Bool} {Q : Value × List Value → Shared → Prop} (N : NmF name g f) (X : KAt k h) (hf : h.get? (f k) = some (fnObj fd)) (ho : Looks (model prog w) h (opaqueClassAbove (.ref k.K)) none)
    (hq : Q (.ref (f k), []) ⟨h, gs, d, tk + 1, os⟩) : wpAny (model prog w) A (getMethod (.ref k.K) name pl) Q E ⟨h, gs, d, tk, os⟩ := by
  have ht := looks_typeOf (M := model prog w) X.cls (c := .type "type") rfl
  have hg : Looks (model prog w) h (typeLookup (.type "type") "__getattribute__") _ := Looks.of_pure tn_ga
  have hs : Looks (model prog w) h (specialOf (.ref k.K) "__getattribute__") (some (.builtin "type.__getattribute__")) := by
    intro A Q E s kk q
    unfold specialOf
    exact wpAny_bind (ht A _ _ _ kk (hg A _ _ _ kk q))
  unfold getMethod
  refine wpAny_bind (hs _ _ _ _ (fun _ _ e => e) ?_)
  dsimp only
  rw [if_pos canon_tga]
  exact wpAny_bind (getAttr_K N X hf ho (wpAny_pure hq))
theorem looks_subObj (X : KAt k h) : Looks M h (isSubtype (.ref k.K) (.type "object")) true := by
  intro A Q E s kk q
  unfold isSubtype
  refine wpAny_bind (looks_mroK X A _ _ _ kk ?_)
  exact wpAny_pure q
theorem looks_instObj {ob : Addr} {oo : Obj} (X : KAt k h) (ho : h.get? ob = some oo) (hc : oo.cls = .ref k.K) : Looks M h (isInstance (.ref ob) (.type "object")) true := by
  intro A Q E s kk q
  unfold isInstance
  exact wpAny_bind (looks_typeOf ho hc A _ _ _ kk (looks_subObj X A _ _ _ kk q))
theorem ifBound_dyn {x : Addr} {oo : Obj} {f : Addr} {fd : FuncData} {name : Str} {args : List Value} {Q : Option Value → Shared → Prop} (ho : h.get? x = some oo) (hc : oo.cls = .ref k.K)
    (hs : Looks M h (typeLookup (.ref k.K) name) (some (.ref f))) (hf : h.get? f = some (fnObj fd))
    (hcall : wpAny M A (call (.ref f) (.ref x :: args)) (fun v => Q (some v)) E ⟨h, gs, d, tk, os⟩) : wpAny M A (callSpecialIfBound? (.ref x) name args) Q E ⟨h, gs, d, tk, os⟩ := by
  simp only [callSpecialIfBound?, bindSpecialIfBound?]
  refine wpAny_holding (wpAny_bind (wpAny_bind (wpAny_bind ((looks_typeOf ho hc).at (hs.at ?_)))))
  refine wpAny_bind (wpAny_askSetting (wpAny_ite ?_))
  have fin : wpAny M A (call (.ref f) ([.ref x] ++ args) >>= fun v => pure (some v)) Q E ⟨h, gs, d, tk, os⟩ := wpAny_bind (wpAny_mono hcall (fun v s' h' => wpAny_pure h') fun _ _ h' => h')
  have hb := looks_bindF (M := M) (v := .ref x) hf
  split
  · exact wpAny_bind (hb.at (wpAny_pure (by exact fin)))
  · exact wpAny_tryCatch (wpAny_bind (hb.at (wpAny_pure (by exact fin))))
theorem ifBound_ne {x : Addr} {oo : Obj} {args : List Value} {Q : Option Value → Shared → Prop} (X : KAt k h) (ho : h.get? x = some oo) (hc : oo.cls = .ref k.K)
    (hcall : wpAny M A (call (.builtin "object.__ne__") (.ref x :: args)) (fun v => Q (some v)) E ⟨h, gs, d, tk, os⟩) : wpAny M A (callSpecialIfBound? (.ref x) "__ne__" args) Q E ⟨h, gs, d, tk, os⟩ := by
  have hs := tl_obj (M := M) X (look_ne k) own_ne
  simp only [callSpecialIfBound?, bindSpecialIfBound?]
  refine wpAny_holding (wpAny_bind (wpAny_bind (wpAny_bind ((looks_typeOf ho hc).at (hs.at ?_)))))
  refine wpAny_bind (wpAny_askSetting (wpAny_ite ?_))
  have fin : wpAny M A (call (.builtin "object.__ne__") ([.ref x] ++ args) >>= fun v => pure (some v)) Q E ⟨h, gs, d, tk, os⟩ := wpAny_bind (wpAny_mono hcall (fun v s' h' => wpAny_pure h') fun _ _ h' => h')
  rw [bs_ne]
  split
  · exact wpAny_bind (wpAny_pure (wpAny_pure (by exact fin)))
  · exact wpAny_tryCatch (wpAny_bind (wpAny_pure (wpAny_pure (by exact fin))))
theorem try_bool {x : Addr} {oo : Obj} {f : Addr} {fd : FuncData} {name : Str} {b : Value} {Q : Option Value → Shared → Prop} (ho : h.get? x = some oo) (hc : oo.cls = .ref k.K)
    (hs : Looks M h (typeLookup (.ref k.K) name) (some (.ref f))) (hf : h.get? f = some (fnObj fd))
    (hcall : wpAny M A (call (.ref f) [.ref x, b]) (fun v s' => ∃ r, v = .bool r ∧ Q (some (.bool r)) s') E ⟨h, gs, d, tk, os⟩) : wpAny M A (tryCompare (.ref x) name b) Q E ⟨h, gs, d, tk, os⟩ := by
  unfold tryCompare
  refine wpAny_bind (ifBound_dyn ho hc hs hf (wpAny_mono hcall (fun v s' hv => ?_) fun _ _ e => e))
  obtain ⟨r, rfl, hq⟩ := hv
  exact wpAny_pure hq
theorem rich_K {op : CmpOp} {x y : Addr} {ox oy : Obj} {Q : Value → Shared → Prop} (hu : A.units < cLine) (ho : h.get? x = some ox) (hc : ox.cls = .ref k.K) (ho2 : h.get? y = some oy) (hc2 : oy.cls = .ref k.K)
    (one : wpAny M A (tryCompare (.ref x) (cmpInfo op).2.1 (.ref y)) (fun r s' => ∃ v, r = some v ∧ Q v s') E ⟨h, gs, d, tk, os⟩) : wpAny M A (richCompare op (.ref x) (.ref y)) Q E ⟨h, gs, d, tk, os⟩ := by
  unfold richCompare
  simp only [oneThing_ref]
  refine wpAny_holding (wpAny_bind (wpAny_cRoomFor hu ?_))
  refine wpAny_bind ((looks_typeOf ho hc).at (wpAny_bind ((looks_typeOf ho2 hc2).at ?_)))
  rw [if_neg (by simp)]
  refine wpAny_bind (wpAny_pure ?_)
  simp only [Bool.false_eq_true, if_false]
  refine wpAny_bind (wpAny_mono one (fun r s' z => ?_) fun _ _ e => e)
  obtain ⟨v, rfl, hq⟩ := z
  exact wpAny_pure hq
/-- x != y of two instances, by __eq__ -/
theorem ne_K {x y : Addr} {ox oy : Obj} {fd : FuncData} {Q : Value → Shared → Prop} (hu : A.units + 20 < cLine) (X : KAt k h) (hf : h.get? k.F.eq = some (fnObj fd)) (ho : h.get? x = some ox) (hc : ox.cls = .ref k.K) (ho2 : h.get? y = some oy) (hc2 : oy.cls = .ref k.K)
    (hcall : wpAny (model prog w) A.in1 (call (.ref k.F.eq) [.ref x, .ref y]) (fun v s' => ∃ r, v = .bool r ∧ Q (.bool (!r)) s') E ⟨h, gs, d, tk, os⟩) : wpAny (model prog w) A (richCompare .NotEq (.ref x) (.ref y)) Q E ⟨h, gs, d, tk, os⟩ := by
  refine rich_K (by omega) ho hc ho2 hc2 ?_
  show wpAny _ _ (tryCompare (.ref x) "__ne__" (.ref y)) _ _ _
  unfold tryCompare
  refine wpAny_bind (ifBound_ne X ho hc ?_)
  refine wpAny_call (codeAny_call_builtin (by decide +kernel) entry_ne ?_)
  refine check_slot (owner := "object") (n := "__ne__") (by decide +kernel) (by decide +kernel) (looks_instObj X ho hc) (args_ne _ _) ?_
  unfold Builtin.«object.__ne__»
  refine wpAny_bind (m := slotArgs "__ne__" 1 _) (wpAny_pure ?_)
  refine wpAny_bind (wpAny_cRoomFor ?_ ?_)
  · show A.in1.units < cLine
    exact Nat.lt_of_le_of_lt (by show A.units + 1 ≤ A.units + 20; omega) hu
  refine wpAny_bind (ifBound_dyn ho hc (tl_own X (look_eq k)) hf (wpAny_mono hcall (fun v s' hv => ?_) fun _ _ e => e))
  obtain ⟨r, rfl, hq⟩ := hv
  refine wpAny_bind (wpAny_truthy_bool ?_)
  exact wpAny_pure (wpAny_pure ⟨_, rfl, hq⟩)
end
end

section
set_option maxRecDepth 100000
set_option maxHeartbeats 4000000
open PySem PySem.W PyProof.Rows PySem.Calls
theorem fillKN3 : PySem.Challenge.rw_nb0121_01 = PySem.Challenge.rw_nb0121_01 ∧ hd.heap_39 = hd.heap_39 := by (k_fill; exact ⟨rfl, rfl⟩)
theorem kwKN3 : True := by
  k_with_none
  k_with "call ref" => ((with_reducible show wpAny _ _ (call (Value.ref _) _) _ _ _); refine halt ?_)
  k_with "call builtin:str.join" => ((with_reducible show wpAny _ _ (call (Value.builtin "str.join") _) _ _ _); refine halt ?_)
  k_with "eval Name" => ((with_reducible show wpAny _ _ (eval (Expr.Name _ _) (compEnv _ _ _)) _ _ _); (with_reducible rename Fr _ _ _ _ => kF); refine nameB_G kF (by assumption) (by assumption) (by k_is) (by boot_by_name) (by decide) ?_ rfl rfl rfl rfl (by decide))
  w_top off
  exact trivial
section
variable {w : World} {p : Program} {loose : List Str} {mean : ExcName → Option Value} {mg mb : Str → Option Value} {A : Around} {h : Heap} {gs : Array GenState} {d : Drawn} {tk : Nat} {os : OsState} {Q E : Value → Shared → Prop}
/-- an item of the sorted list: a text and its place -/
noncomputable def IT (h : Heap) (a : Addr) (x : Str) (i : Int) : Prop := ∃ tx ti, h.get? a = some ⟨.type "tuple", none, .seq #[.str x tx, .int i ti] 0, #[]⟩
theorem IT.keeps {h h' : Heap} {a : Addr} {x : Str} {i : Int} (H : IT h a x i) (k : Kp h h') : IT h' a x i := by
  obtain ⟨tx, ti, e⟩ := H
  exact ⟨tx, ti, k _ _ e⟩
noncomputable def cmpOf (x y : Str) (i : Int) : Int := (2 + i) * (b2i (decide (cpl y < cpl x)) - b2i (decide (cpl x < cpl y)))
theorem pc_compare {x y : Str} {i j : Int} {a b : Addr} (B : Bs w p loose mean mg mb h) (hA : A.depth ≤ 900) (h0 : 0 ≤ i) (h1 : i ≤ 4) (ha : IT h a x i) (hb : IT h b y j)
    (hQ : ∀ h' tk' t', Kp h h' → Q (.int (cmpOf x y i) t') ⟨h', gs, d, tk', os⟩) :
    wpAny (model thePr w) A (call (.ref 201) [.ref a, .ref b]) Q E ⟨h, gs, d, tk, os⟩ := by
  refine enterS (Str.ofString "left", .ref a) [(Str.ofString "right", .ref b)] B (by k_is) (by k_is) (by simp only [recursionLimit]; omega) (BindsTo.of_eq rfl) (locs rfl) ?_ rfl rfl rfl (by decide)
  intro L h₁ t₁ ht F N X T
  obtain ⟨tx, ti, ha⟩ := ha
  obtain ⟨ty, tj, hb⟩ := hb
  have ta : IsTup h₁ a #[.str x tx, .int i ti] := ⟨_, F.keep _ _ ha, rfl, 0, rfl⟩
  have tb : IsTup h₁ b #[.str y ty, .int j tj] := ⟨_, F.keep _ _ hb, rfl, 0, rfl⟩
  k_steps
  exact hQ _ _ _ F.keep
theorem cmp_gives {x y : Str} {i j : Int} {a b : Addr} (B : Bs w p loose mean mg mb h) (hA : A.depth ≤ 890) (h0 : 0 ≤ i) (h1 : i ≤ 4) (ha : IT h a x i) (hb : IT h b y j) :
    CmpGives thePr w A gs d os h 201 a b (cmpOf x y i) := by
  intro A' h1' t1 Q E _ hd _ hk hq
  refine pc_compare (B.keeps hk) (by omega) h0 h1 (ha.keeps hk) (hb.keeps hk) ?_
  intro h2 t2 t k2
  exact hq h2 t2 t k2
theorem lt_asymm' {a b : List Nat} (h1 : a < b) (h2 : b < a) : False := List.lt_irrefl a (List.lt_trans h1 h2)
theorem cmp_lt {x y : Str} {i : Int} (h0 : 0 ≤ i) : cmpZ .Lt (cmpOf x y i) = decide (cpl x < cpl y) := by
  unfold cmpZ cmpOf
  by_cases h1 : cpl x < cpl y <;> by_cases h2 : cpl y < cpl x
  · exact (lt_asymm' h1 h2).elim
  all_goals simp [h1, h2, b2i]
  all_goals omega
theorem cmp_gt {x y : Str} {i : Int} (h0 : 0 ≤ i) : cmpZ .Gt (cmpOf x y i) = decide (cpl y < cpl x) := by
  unfold cmpZ cmpOf
  by_cases h1 : cpl x < cpl y <;> by_cases h2 : cpl y < cpl x
  · exact (lt_asymm' h1 h2).elim
  all_goals simp [h1, h2, b2i]
  all_goals omega
theorem cmp_le {x y : Str} {i : Int} (h0 : 0 ≤ i) : cmpZ .LtE (cmpOf x y i) = !decide (cpl y < cpl x) := by
  unfold cmpZ cmpOf
  by_cases h1 : cpl x < cpl y <;> by_cases h2 : cpl y < cpl x
  · exact (lt_asymm' h1 h2).elim
  all_goals simp [h1, h2, b2i]
  all_goals omega
theorem cmp_ge {x y : Str} {i : Int} (h0 : 0 ≤ i) : cmpZ .GtE (cmpOf x y i) = !decide (cpl x < cpl y) := by
  unfold cmpZ cmpOf
  by_cases h1 : cpl x < cpl y <;> by_cases h2 : cpl y < cpl x
  · exact (lt_asymm' h1 h2).elim
  all_goals simp [h1, h2, b2i]
  all_goals omega
theorem cmp_eq {x y : Str} {i : Int} (h0 : 0 ≤ i) : cmpZ .Eq (cmpOf x y i) = (!decide (cpl x < cpl y) && !decide (cpl y < cpl x)) := by
  unfold cmpZ cmpOf
  by_cases h1 : cpl x < cpl y <;> by_cases h2 : cpl y < cpl x
  · exact (lt_asymm' h1 h2).elim
  all_goals simp [h1, h2, b2i]
  all_goals omega
end
end

section
set_option maxRecDepth 100000
set_option maxHeartbeats 4000000
open PySem PySem.W PyProof.Rows PySem.Calls
theorem fillKN4 : PySem.Challenge.rw_nb0121_01 = PySem.Challenge.rw_nb0121_01 ∧ hd.heap_39 = hd.heap_39 := by (k_fill; exact ⟨rfl, rfl⟩)
theorem kwKN4 : True := by
  k_with_none
  k_with "call ref" => ((with_reducible show wpAny _ _ (call (Value.ref _) _) _ _ _); refine halt ?_)
  k_with "call builtin:str.join" => ((with_reducible show wpAny _ _ (call (Value.builtin "str.join") _) _ _ _); refine halt ?_)
  k_with "eval Name" => ((with_reducible show wpAny _ _ (eval (Expr.Name _ _) (compEnv _ _ _)) _ _ _); (with_reducible rename Fr _ _ _ _ => kF); refine nameB_G kF (by assumption) (by assumption) (by k_is) (by boot_by_name) (by decide) ?_ rfl rfl rfl rfl (by decide))
  w_top off
  exact trivial
section
variable {w : World} {p : Program} {loose : List Str} {mean : ExcName → Option Value} {mg mb : Str → Option Value} {A : Around} {h : Heap} {gs : Array GenState} {d : Drawn} {tk : Nat} {os : OsState} {Q E : Value → Shared → Prop}
/-- what is known of the class K -/
structure KK (k : KP) (h : Heap) : Prop where
  at_ : KAt k h
  cell : h.IsCell k.cell (some (.ref 201))
theorem KK.keeps {k : KP} {h h' : Heap} (X : KK k h) (e : Kp h h') : KK k h' := ⟨X.at_.keeps e, X.cell.keeps e⟩
/-- a key of the text x at place i -/
noncomputable def KI (k : KP) (h : Heap) (o : Addr) (x : Str) (i : Int) : Prop := ∃ a dd, h.get? o = some (instO k.K dd #[some (.ref a)]) ∧ IT h a x i
theorem KI.keeps {k : KP} {h h' : Heap} {o : Addr} {x : Str} {i : Int} (X : KI k h o x i) (e : Kp h h') : KI k h' o x i := by
  obtain ⟨a, dd, e1, e2⟩ := X
  exact ⟨a, dd, e _ _ e1, e2.keeps e⟩
noncomputable def fd201 (P : Params) : FuncData := match (objAt P 201).data with
  | .func f => f
  | _ => default
theorem at201 (P : Params) : (hd.heap_39 P).lookup 201 = some ⟨(objAt P 201).cls, (objAt P 201).dict, .func (fd201 P), (objAt P 201).slots⟩ := by kernel_rfl
theorem call_op {m : Nat} {op : CmpOp} (MF : MethF m op) (hop : op = .Lt ∨ op = .Gt ∨ op = .Eq ∨ op = .LtE ∨ op = .GtE) {k : KP} {f c : Addr} {ct : Value} {o1 o2 : Addr} {x y : Str} {i j : Int} {r : Bool}
    (B : Bs w p loose mean mg mb h) (hA : A.depth ≤ 880) (X : KK k h) (h0 : 0 ≤ i) (h1 : i ≤ 4) (k1 : KI k h o1 x i) (k2 : KI k h o2 y j)
    (hf : h.get? f = some (fnObj (mFn m [(sMycmp, k.cell)] c ct))) (hr : h.CodeRec (.ref c) (mQual m)) (hz : cmpZ op (cmpOf x y i) = r)
    (hQ : ∀ h' tk', Kp h h' → Q (.bool r) ⟨h', gs, d, tk', os⟩) :
    wpAny (model thePr w) A (call (.ref f) [.ref o1, .ref o2]) Q E ⟨h, gs, d, tk, os⟩ := by
  obtain ⟨a, dd1, g1, i1⟩ := k1
  obtain ⟨b, dd2, g2, i2⟩ := k2
  subst hz
  refine wpAny_call (meth_K (fd := default) MF hop hf hr X.at_ X.cell g1 g2 B.T.nolimit (by simp only [recursionLimit]; omega) ?_ (cmp_gives B (by omega) h0 h1 i1 i2) ?_)
  · exact ⟨_, _, _, _, B.K _ _ (at201 _)⟩
  · intro h' tk' kk
    exact hQ h' tk' kk
end
end

section
set_option maxRecDepth 100000
set_option maxHeartbeats 4000000
open PySem PySem.W PyProof.Rows PySem.Calls
theorem fillKN5 : PySem.Challenge.rw_nb0121_01 = PySem.Challenge.rw_nb0121_01 ∧ hd.heap_39 = hd.heap_39 := by (k_fill; exact ⟨rfl, rfl⟩)
theorem kwKN5 : True := by
  k_with_none
  k_with "call ref" => ((with_reducible show wpAny _ _ (call (Value.ref _) _) _ _ _); refine halt ?_)
  k_with "call builtin:str.join" => ((with_reducible show wpAny _ _ (call (Value.builtin "str.join") _) _ _ _); refine halt ?_)
  k_with "eval Name" => ((with_reducible show wpAny _ _ (eval (Expr.Name _ _) (compEnv _ _ _)) _ _ _); (with_reducible rename Fr _ _ _ _ => kF); refine nameB_G kF (by assumption) (by assumption) (by k_is) (by boot_by_name) (by decide) ?_ rfl rfl rfl rfl (by decide))
  w_top off
  exact trivial
section
variable {w : World} {p : Program} {loose : List Str} {mean : ExcName → Option Value} {mg mb : Str → Option Value} {A : Around} {h : Heap} {gs : Array GenState} {d : Drawn} {tk : Nat} {os : OsState} {Q E : Value → Shared → Prop}
theorem opq39 (P : Params) : nsIn (hd.heap_39 P) cStatics "thirdparty.any" = some none := by kernel_rfl
theorem type_K {k : KP} {L : Addr} {h1 : Heap} {m : Str → Option Value} {o : Addr} {x : Str} {i : Int} (F : Fr h L h1 m) (k1 : KI k h o x i) (hq : Q (.ref k.K) ⟨h1, gs, d, tk, os⟩) : wpAny (model thePr w) A (call (.type "type") [.ref o]) Q E ⟨h1, gs, d, tk, os⟩ := by
  obtain ⟨a, dd, g, _⟩ := k1
  exact call_type_obj (F.keep _ _ g) (by rfl) hq
theorem getm_K {k : KP} {L : Addr} {h1 : Heap} {m : Str → Option Value} {name : Str} {g : String} {f : KP → Addr} {fd : FuncData} {pl : Sem Bool} {Q : Value × List Value → Shared → Prop} (NF : NmF name g f) (F : Fr h L h1 m) (B : Bs w p loose mean mg mb h) (XK : KK k h) (hf : h.get? (f k) = some (fnObj fd))
    (hq : Q (.ref (f k), []) ⟨h1, gs, d, tk + 1, os⟩) : wpAny (model thePr w) A (getMethod (.ref k.K) name pl) Q E ⟨h1, gs, d, tk, os⟩ :=
  getMethod_K NF (XK.at_.keeps F.keep) (F.keep _ _ hf) (looks_opaque (B.K.keeps F.keep) (opq39 _)) hq
theorem eqs_K {k : KP} {L : Addr} {h1 : Heap} {m : Str → Option Value} {o1 o2 : Addr} {x y : Str} {i j : Int} (F : Fr h L h1 m) (B : Bs w p loose mean mg mb h) (hA : A.depth ≤ 880) (hu : A.units ≤ 9000) (XK : KK k h) (h0 : 0 ≤ i) (h4 : i ≤ 4) (k1 : KI k h o1 x i) (k2 : KI k h o2 y j)
    (hq : ∀ h' tk', Kp h1 h' → Q (.bool (!decide (cpl x < cpl y) && !decide (cpl y < cpl x))) ⟨h', gs, d, tk', os⟩) : wpAny (model thePr w) A (compareOp .Eq (.ref o1) (.ref o2)) Q E ⟨h1, gs, d, tk, os⟩ := by
  have X1 := XK.keeps F.keep
  have j1 := k1.keeps F.keep
  have j2 := k2.keeps F.keep
  obtain ⟨a, dd1, g1, i1⟩ := id j1
  obtain ⟨b, dd2, g2, i2⟩ := id j2
  show wpAny _ _ (richCompare .Eq _ _) _ _ _
  refine rich_K (by show A.units < 9900; omega) g1 rfl g2 rfl ?_
  refine try_bool g1 rfl (tl_own X1.at_ (look_eq k)) X1.at_.eq ?_
  refine call_op methF5 (by simp) (B.keeps F.keep) hA X1 h0 h4 j1 j2 X1.at_.eq X1.at_.r5 (cmp_eq h0) ?_
  intro h' tk' kk
  exact ⟨_, rfl, _, rfl, hq h' tk' kk⟩
theorem nes_K {k : KP} {L : Addr} {h1 : Heap} {m : Str → Option Value} {o1 o2 : Addr} {x y : Str} {i j : Int} (F : Fr h L h1 m) (B : Bs w p loose mean mg mb h) (hA : A.depth ≤ 880) (hu : A.units ≤ 9000) (XK : KK k h) (h0 : 0 ≤ i) (h4 : i ≤ 4) (k1 : KI k h o1 x i) (k2 : KI k h o2 y j)
    (hq : ∀ h' tk', Kp h1 h' → Q (.bool (!(!decide (cpl x < cpl y) && !decide (cpl y < cpl x)))) ⟨h', gs, d, tk', os⟩) : wpAny (model thePr w) A (compareOp .NotEq (.ref o1) (.ref o2)) Q E ⟨h1, gs, d, tk, os⟩ := by
  have X1 := XK.keeps F.keep
  have j1 := k1.keeps F.keep
  have j2 := k2.keeps F.keep
  obtain ⟨a, dd1, g1, i1⟩ := id j1
  obtain ⟨b, dd2, g2, i2⟩ := id j2
  show wpAny _ _ (richCompare .NotEq _ _) _ _ _
  refine ne_K (by show A.units + 20 < 9900; omega) X1.at_ X1.at_.eq g1 rfl g2 rfl ?_
  refine call_op methF5 (by simp) (B.keeps F.keep) hA X1 h0 h4 j1 j2 X1.at_.eq X1.at_.r5 (cmp_eq h0) ?_
  intro h' tk' kk
  exact ⟨_, rfl, hq h' tk' kk⟩
end
end

section
set_option maxRecDepth 100000
set_option maxHeartbeats 1000000
open PySem PySem.W PyProof.Rows PySem.Calls
theorem type_call : typeLookup (.type "type") "__call__" = pure (some (.builtin "type.__call__")) := by rw [typeLookup_type, builtinLookup_eq_fast]; kernel_rfl
section
variable {M : Model} {A : Around} {E : Value → Shared → Prop} {s : Shared} {env : Env} {pos : Pos} {first : List Value} {Q : Value → Shared → Prop} {k : KP}
theorem keeps_KK (h : Heap) (X : KAt k h) : ∃ r, (r = Keeper.frame ∨ r = Keeper.machine ∨ r = Keeper.boundFrame) ∧ Looks M h (keeperOf (.ref k.K)) r := by
  refine ⟨.machine, .inr (.inl rfl), (Looks.ld (part := none) X.cls).andThen ?_⟩
  have ht := looks_typeOf (M := M) X.cls (c := .type "type") rfl
  have hg : Looks M h (typeLookup (.type "type") "__call__") _ := Looks.of_pure type_call
  have hs : Looks M h (specialOf (.ref k.K) "__call__") (some (.builtin "type.__call__")) := by
    intro A Q E s kk q
    unfold specialOf
    exact wpAny_bind (ht A _ _ _ kk (hg A _ _ _ kk q))
  intro A Q E s kk q
  refine wpAny_bind (hs A _ _ _ kk ?_)
  rw [if_pos (by simp)]
  exact wpAny_pure q
theorem callWith_KK {e : Expr} {rest : List Expr} (h : wpAny M A (spliced (backTo pos (starEach (e :: rest) env))) (fun vs s₁ => KAt k s₁.heap ∧ wpAny M A (call (.ref k.K) (first ++ vs)) Q E s₁) E s)
    (he : starEach (e :: rest) env = (false, eval e env) :: starEach rest env := by rfl) (hplain : (backTo pos (starEach rest env)).any (·.1) = false := by rfl) :
    wpAny M A (callWith pos (.ref k.K) first (backTo pos (starEach (e :: rest) env)) []) Q E s := by
  rw [he] at h ⊢
  exact callWith_of (by show ((false || (backTo pos (starEach rest env)).any (·.1)) || false) = false; rw [hplain]; rfl) keeps_KK (evalArgs_plain h)
end
end

section
set_option maxRecDepth 100000
set_option maxHeartbeats 4000000
open PySem PySem.W PyProof.Rows PySem.Calls
section
variable {w : World} {p : Program} {loose : List Str} {mean : ExcName → Option Value} {mg mb : Str → Option Value} {A : Around} {h : Heap} {gs : Array GenState} {d : Drawn} {tk : Nat} {os : OsState} {E : Value → Shared → Prop}
theorem keyLt_K {k : KP} {o1 o2 : Addr} {x y : Str} {i j : Int} {Q : Bool → Shared → Prop} (B : Bs w p loose mean mg mb h) (hA : A.depth ≤ 880) (hu : A.units < cLine) (XK : KK k h) (h0 : 0 ≤ i) (h4 : i ≤ 4) (k1 : KI k h o1 x i) (k2 : KI k h o2 y j)
    (hq : ∀ h' tk', Kp h h' → Q (decide (cpl x < cpl y)) ⟨h', gs, d, tk', os⟩) : wpAny (model thePr w) A (keyLt' oneType' (.ref o1) (.ref o2)) Q E ⟨h, gs, d, tk, os⟩ := by
  obtain ⟨a, dd1, g1, i1⟩ := id k1
  rw [keyLt'_oneType, oneLt'_eq]
  simp only [if_true]
  refine wpAny_bind (wpAny_cRoomFor hu ?_)
  refine wpAny_bind (ifBound_dyn g1 rfl (tl_own XK.at_ (look_lt k)) XK.at_.lt ?_)
  refine call_op methF3 (by simp) B hA XK h0 h4 k1 k2 XK.at_.lt XK.at_.r3 (cmp_lt h0) ?_
  intro h' tk' kk
  exact wpAny_truthy_bool (hq h' tk' kk)
/-- the keys that the sort has made so far -/
noncomputable def KeysOk (k : KP) (h : Heap) (xs : List Str) (keys : Array Value) : Prop := ∀ j, j < keys.size → ∃ o, keys[j]? = some (.ref o) ∧ KI k h o (xs.getD j Str.empty) j
theorem KeysOk.keeps {k : KP} {h h' : Heap} {xs : List Str} {keys : Array Value} (H : KeysOk k h xs keys) (e : Kp h h') : KeysOk k h' xs keys := by
  intro j hj
  obtain ⟨o, e1, e2⟩ := H j hj
  exact ⟨o, e1, e2.keeps e⟩
/-- the items: five tuples of a text and its place -/
noncomputable def ItemsOk (h : Heap) (vs : List Value) (xs : List Str) : Prop := vs.length = 5 ∧ ∀ j, j < 5 → ∃ a, vs[j]? = some (.ref a) ∧ IT h a (xs.getD j Str.empty) j
theorem ItemsOk.keeps {h h' : Heap} {vs : List Value} {xs : List Str} (H : ItemsOk h vs xs) (e : Kp h h') : ItemsOk h' vs xs := by
  refine ⟨H.1, fun j hj => ?_⟩
  obtain ⟨o, e1, e2⟩ := H.2 j hj
  exact ⟨o, e1, e2.keeps e⟩
theorem k_tail {prog : Program} {a kS : Addr} {keys : Array Value} {e e1 : Nat} {st : SortSt} {P : PySem.Fin → Shared → Prop} (gk : h.get? kS = some (seqObj "list" keys e)) (ga : h.get? a = some (seqObj "list" #[] e1)) (hka : kS ≠ a)
    (hsz : keys.size ≤ 100) (hsz2 : (arrOf st).size ≤ 100) (hf : failedOf st = none)
    (hq : ∀ h' c, (∀ b o, b ≠ kS → b ≠ a → h.get? b = some o → h'.get? b = some o) → h'.get? a = some (seqObj "list" ((arrOf st).map (·.2)) c) → P (.done (.ret .none)) ⟨h', gs, d, tk, os⟩) :
    wpAny (model prog w) A (ksk_tail a false e1 (.ref kS) st) P E ⟨h, gs, d, tk, os⟩ := by
  have s1 := Heap.SameBut.update h kS (Obj.mapSeq fun _ => (#[] : Array Value))
  have na1 : (h.update kS (Obj.mapSeq fun _ => (#[] : Array Value))).get? a = some (seqObj "list" #[] e1) := (s1.2 a hka.symm).trans ga
  have s2 := Heap.SameBut.update (h.update kS (Obj.mapSeq fun _ => (#[] : Array Value))) a (Obj.mapSeq fun _ => (arrOf st).map (·.2))
  obtain ⟨c2, hc2⟩ : ∃ c2, ((h.update kS (Obj.mapSeq fun _ => (#[] : Array Value))).update a (Obj.mapSeq fun _ => (arrOf st).map (·.2))).get? a = some (seqObj "list" ((arrOf st).map (·.2)) c2) :=
    ⟨_, get?_update_seq na1 fun _ => (arrOf st).map (·.2)⟩
  unfold ksk_tail
  try dsimp only
  refine wpAny_bind (listUpdate_at gk rfl ?_ (by rw [sizeLine_eq]; omega) (Nat.zero_le _))
  refine wpAny_bind (wpAny_letGo ?_)
  refine wpAny_bind (seqEpoch_at na1 rfl ?_)
  refine wpAny_bind (listUpdate_at na1 rfl ?_ (Nat.zero_le _) (by show (if false = true then _ else (arrOf st).map (·.2)).size ≤ _; simp only [Bool.false_eq_true, if_false, Array.size_map]; rw [sizeLine_eq]; omega))
  rw [hf]
  simp only [bne_self_eq_false, Bool.false_eq_true, if_false]
  refine wpAny_pure (hq _ c2 (fun b o n1 n2 q => ?_) hc2)
  exact s2.extBut b o n2 (s1.extBut b o n1 q)
theorem keyKind_K {k : KP} {xs : List Str} {keys : Array Value} {Q : SortKind → Shared → Prop} (H : KeysOk k h xs keys) (hs : 2 ≤ keys.size) (hq : Q oneType' ⟨h, gs, d, tk, os⟩) :
    wpAny (model thePr w) A (keyKind' keys) Q E ⟨h, gs, d, tk, os⟩ := by
  have e : keys = keys.toList.toArray := by simp
  rw [e]
  refine kas_kind (T := .ref k.K) (by simpa using hs) ?_ (by simp) (by simp) hq
  intro v hv
  obtain ⟨j, hj⟩ := List.mem_iff_getElem?.mp hv
  have hj' : keys[j]? = some v := by simpa using hj
  obtain ⟨o, e1, a, dd, g, _⟩ := H j (Array.getElem?_eq_some_iff.mp hj').1
  rw [hj'] at e1
  cases e1
  exact looks_typeOf g rfl
theorem k_end {k : KP} {a kS : Addr} {keys : Array Value} {e e1 : Nat} {vs : List Value} {xs : List Str} {P : PySem.Fin → Shared → Prop} (B : Bs w p loose mean mg mb h) (hA : A.depth ≤ 870) (hu : A.units ≤ 9000) (XK : KK k h) (H : KeysOk k h xs keys) (hks : keys.size = 5) (hv : vs.length = 5)
    (gk : h.get? kS = some (seqObj "list" keys e)) (ga : h.get? a = some (seqObj "list" #[] e1)) (hka : kS ≠ a)
    (hq : ∀ h' tk' out c, (∀ b o, b ≠ kS → b ≠ a → h.get? b = some o → h'.get? b = some o) → h'.get? a = some (seqObj "list" out c) → out.toList = (ordL (leS xs) 5).map (fun i => vs.getD i .none) → P (.done (.ret .none)) ⟨h', gs, d, tk', os⟩) :
    wpAny (model thePr w) A (ksk_end a false vs.toArray e1 (.ref kS) keys) P E ⟨h, gs, d, tk, os⟩ := by
  have hzs : (keys.zip vs.toArray).size = 5 := by rw [Array.size_zip, hks, List.size_toArray, hv]; rfl
  unfold ksk_end
  try dsimp only
  rw [if_neg (by simp)]
  have h2 : ¬ vs.toArray.size < 2 := by rw [List.size_toArray, hv]; decide
  rw [if_neg h2, if_neg h2]
  refine wpAny_bind (keyKind_K H (by omega) ?_)
  simp only [Bool.false_eq_true, if_false]
  have est : SortSt.mk' oneType' (keys.zip vs.toArray) #[] 7 none = kas_st oneType' (keys.zip vs.toArray) (List.toArray (List.range 5)) := by
    have e := kas_range (keys.zip vs.toArray)
    rw [hzs] at e
    show _ = SortSt.mk' oneType' ((List.toArray (List.range 5)).map (kas_item (keys.zip vs.toArray))) #[] 7 none
    rw [e]
  have item : ∀ i, i < 5 → ∃ o, kas_item (keys.zip vs.toArray) i = (.ref o, vs.getD i .none) ∧ KI k h o (xs.getD i Str.empty) i := by
    intro i hi
    obtain ⟨o, e1, e2⟩ := H i (by omega)
    refine ⟨o, ?_, e2⟩
    obtain ⟨h1, h2⟩ := Array.getElem?_eq_some_iff.mp e1
    have h3 : i < vs.length := by omega
    have h4 : i < (keys.zip vs.toArray).size := by omega
    unfold kas_item
    have e3 : (keys.zip vs.toArray).getD i (Value.none, Value.none) = (keys.zip vs.toArray)[i] := by unfold Array.getD; rw [dif_pos h4]; rfl
    rw [e3, Array.getElem_zip, h2]
    simp [h3]
  have ask : (kas_sort 5).kasWp (kas_cmp thePr w A oneType' (keys.zip vs.toArray)) (fun pp s' => pp = ev (fun i j => decide (cpl (xs.getD i Str.empty) < cpl (xs.getD j Str.empty))) (kas_sort 5) ∧ ∃ h' tk', s' = ⟨h', gs, d, tk', os⟩ ∧ Kp h h') ⟨h, gs, d, tk, os⟩ := by
    refine kas_ev (n := 5) (I := fun s' => ∃ h' tk', s' = ⟨h', gs, d, tk', os⟩ ∧ Kp h h') ?_ _ _ asks5 ⟨h, tk, rfl, fun _ _ e => e⟩ fun s' hI => ⟨rfl, hI⟩
    rintro i j s C hi hj ⟨h', tk', rfl, kk⟩ hC
    obtain ⟨o1, e1, k1⟩ := item i hi
    obtain ⟨o2, e2, k2⟩ := item j hj
    unfold kas_cmp
    rw [e1, e2]
    refine keyLt_K (B.keeps kk) (by omega) (by show A.units < 9900; omega) (XK.keeps kk) (by omega) (by omega) (k1.keeps kk) (k2.keeps kk) ?_
    intro h2 tk2 kk2
    exact hC _ ⟨h2, tk2, rfl, fun b o q => kk2 _ _ (kk _ _ q)⟩
  have run := kas_runs (E := E) (Q := fun _ st' s' => arrOf st' = (ev (fun i j => decide (cpl (xs.getD i Str.empty) < cpl (xs.getD j Str.empty))) (kas_sort 5)).map (kas_item (keys.zip vs.toArray)) ∧ failedOf st' = none ∧ (arrOf st').size = 5 ∧ ∃ h' tk', s' = ⟨h', gs, d, tk', os⟩ ∧ Kp h h')
    (by decide) (by decide) (fun p' st' s' a1 a2 a3 a4 => ⟨by rw [a2, a4.1], a3, by rw [a2, Array.size_map, a1], a4.2⟩) ask
  rw [← est] at run
  refine wpAny_bind (wpAny_mono run ?_ fun _ _ e => e)
  rintro ⟨⟨⟩, st'⟩ s' ⟨ha, hf, hz, h', tk', rfl, kk⟩
  try dsimp only
  refine k_tail (kk _ _ gk) (kk _ _ ga) hka (by omega) (Nat.le_trans (Nat.le_of_eq hz) (by decide)) hf ?_
  intro h3 c k3 g3
  refine hq h3 tk' _ c (fun b o n1 n2 q => k3 b o n1 n2 (kk _ _ q)) g3 ?_
  rw [ha, Array.map_map, Array.toList_map, ev_texts]
  refine List.map_congr_left fun i hi => ?_
  obtain ⟨o, e1, _⟩ := item i (ordL_lt _ _ i hi)
  show (kas_item _ i).2 = _
  rw [e1]
theorem k_rest {h₀ : Heap} {k : KP} {a kS : Addr} {e1 : Nat} {vs : List Value} {xs : List Str} {P : PySem.Fin → Shared → Prop} (B : Bs w p loose mean mg mb h₀) (hA : A.depth ≤ 870) (hu : A.units ≤ 9000) (XK : KK k h₀) (HI : ItemsOk h₀ vs xs) (k0 : Kp h₀ h) (n0 : h₀.get? kS = none)
    (gk : h.get? kS = some (seqObj "list" #[] 0)) (ga : h.get? a = some (seqObj "list" #[] e1)) (hka : kS ≠ a)
    (hq : ∀ h' tk' out c, (∀ b o, b ≠ kS → b ≠ a → h.get? b = some o → h'.get? b = some o) → h'.get? a = some (seqObj "list" out c) → out.toList = (ordL (leS xs) 5).map (fun i => vs.getD i .none) → P (.done (.ret .none)) ⟨h', gs, d, tk', os⟩) :
    wpAny (model thePr w) A (ksk_rest a (.ref k.K) false vs.toArray e1 (.ref kS)) P E ⟨h, gs, d, tk, os⟩ := by
  unfold ksk_rest
  refine wpAny_bind (wpAny_rule ?_)
  first
    | rw [List.forIn_toArray]
    | (rw [← Array.forIn_toList]; simp only [List.toList_toArray])
    | rw [← Array.forIn_toList]
  refine wpAny_bind (ksk_fold (fun i s' => ∃ h' tk' keys e, s' = ⟨h', gs, d, tk', os⟩ ∧ (∀ b o, b ≠ kS → h.get? b = some o → h'.get? b = some o) ∧ h'.get? kS = some (seqObj "list" keys e) ∧ keys.size = i ∧ KeysOk k h' xs keys) vs 0 ⟨h, gs, d, tk, os⟩ ?i0 ?step ?done)
  case i0 =>
    exact ⟨h, tk, #[], 0, rfl, fun _ _ _ e => e, gk, rfl, fun j hj => by simp at hj⟩
  case step =>
    rintro j v s' hv ⟨h', tk', keys, e, rfl, kk, gk', hks, hko⟩
    simp only [Nat.zero_add] at hks ⊢
    have k1 : Kp h₀ h' := fun b o q => kk b o (fun z => by rw [z, n0] at q; cases q) (k0 _ _ q)
    have B' := B.keeps k1
    have XK' := XK.keeps k1
    have HI' := HI.keeps k1
    have hj : j < 5 := by rw [← HI.1]; exact (List.getElem?_eq_some_iff.mp hv).1
    obtain ⟨it, ei, hit⟩ := HI'.2 j hj
    rw [hv] at ei
    cases ei
    refine wpAny_bind (wpAny_attempt (call_key (E := fun _ _ => False) XK'.at_ B'.T.nolimit (by simp only [recursionLimit]; omega) ?_ |> fun z => wpAny_mono z (fun _ _ q => q) fun _ _ q => q.elim))
    intro ob dd h2 tk2 kk2 go2 hsz
    dsimp only
    have gk2 := kk2 _ _ gk'
    have ne : ob ≠ kS := fun q => absurd (Heap.lt_size gk') (by rw [q] at hsz; exact Nat.not_lt.mpr hsz)
    have s1 := Heap.SameBut.update h2 kS (Obj.mapSeq (·.push (.ref ob)))
    obtain ⟨c2, hc2⟩ : ∃ c2, (h2.update kS (Obj.mapSeq (·.push (.ref ob)))).get? kS = some (seqObj "list" (keys.push (.ref ob)) c2) := ⟨_, get?_update_seq gk2 (·.push (.ref ob))⟩
    refine wpAny_bind (listUpdate_at gk2 rfl ?_ (by rw [sizeLine_eq]; omega) (Nat.le_trans (Nat.le_of_eq (Array.size_push ..)) (by rw [sizeLine_eq]; omega)))
    refine wpAny_pure ⟨rfl, _, tk2, keys.push (.ref ob), c2, rfl, fun b o hb q => s1.extBut b o hb (kk2 _ _ (kk b o hb q)), hc2, by rw [Array.size_push, hks], ?_⟩
    have up : ∀ {o x i}, o ≠ kS → KI k h2 o x i → KI k (h2.update kS (Obj.mapSeq (·.push (.ref ob)))) o x i := by
      rintro o x i no ⟨a', dd', g1, tx, ti, g2⟩
      refine ⟨a', dd', s1.extBut _ _ no g1, tx, ti, s1.extBut _ _ (fun q => ?_) g2⟩
      rw [q, gk2] at g2
      have z := congrArg Obj.cls (Option.some.inj g2)
      exact absurd (Value.type.inj z) (by decide)
    intro i hi
    rw [Array.size_push] at hi
    by_cases hlt : i < keys.size
    · obtain ⟨o, q1, q2⟩ := hko i hlt
      have q2' := q2.keeps kk2
      refine ⟨o, by rw [Array.getElem?_push_lt hlt]; rw [← q1]; simp [hlt], up (fun q => ?_) q2'⟩
      obtain ⟨a', dd', g1, _⟩ := q2'
      rw [q, gk2] at g1
      cases g1
    · have : i = keys.size := by omega
      subst this
      refine ⟨ob, by simp, up ne ⟨it, dd, go2, ?_⟩⟩
      rw [hks]
      exact hit.keeps kk2
  case done =>
    rintro s' ⟨h', tk', keys, e, rfl, kk, gk', hks, hko⟩
    have k1 : Kp h₀ h' := fun b o q => kk b o (fun z => by rw [z, n0] at q; cases q) (k0 _ _ q)
    have B' := B.keeps k1
    have XK' := XK.keeps k1
    have HI' := HI.keeps k1
    try dsimp only
    refine wpAny_bind (listItems_at gk' rfl ?_)
    refine k_end B' hA hu XK' hko (by rw [hks, HI.1]) HI.1 gk' (kk _ _ hka.symm ga) hka ?_
    intro h2 tk2 out c k2 g2 e2
    exact hq h2 tk2 out c (fun b o n1 n2 q => k2 b o n1 n2 (kk b o n1 q)) g2 e2
theorem sorted_K {k : KP} {l : Addr} {vs : List Value} {xs : List Str} {Q : Value → Shared → Prop} (B : Bs w p loose mean mg mb h) (hA : A.depth ≤ 870) (hu : A.units ≤ 8000) (XK : KK k h) (HI : ItemsOk h vs xs) (hl : h.IsList l vs.toArray)
    (hQ : ∀ D out n h' tk', Kp h h' → h.get? D = none → h'.get? D = some (listOf out n) → out.toList = (ordL (leS xs) 5).map (fun i => vs.getD i .none) → Q (.ref D) ⟨h', gs, d, tk', os⟩) :
    wpAny (model thePr w) A (call (.builtin "sorted") [.ref l] [(Str.ofString "key", .ref k.K)]) Q E ⟨h, gs, d, tk, os⟩ := by
  refine call_function_entry_kw kind_sorted plain_sorted entry_sorted (ksk_s1 _ _) ?_
  unfold Builtin.«sorted»
  refine wpAny_bind (m := checkCount "sorted" 1 1 _) (wpAny_pure ?_)
  refine wpAny_bind (collect_list hl ?_ (by rw [sizeLine_eq, HI.1]; omega))
  refine wpAny_bind (wpAny_newList ?_ (by rw [sizeLine_eq, HI.1]; omega))
  have hsz : ((h.push (seqObj "list" #[] 0)).update h.objs.size (Obj.mapSeq (· ++ vs.toArray))).objs.size = h.objs.size + 1 := by
    rw [Heap.size_update, size_push']
  have hoL : (((h.push (seqObj "list" #[] 0)).update h.objs.size (Obj.mapSeq (· ++ vs.toArray))).push (seqObj "list" vs.toArray 0)).get? (h.objs.size + 1) = some (seqObj "list" vs.toArray 0) := by
    rw [← hsz]; exact Heap.get?_push_size _ rfl
  have keep : ∀ b o, h.get? b = some o → (((h.push (seqObj "list" #[] 0)).update h.objs.size (Obj.mapSeq (· ++ vs.toArray))).push (seqObj "list" vs.toArray 0)).get? b = some o := fun b o q => by
    have hlt : b < h.objs.size := Heap.lt_size q
    rw [Heap.get?_push_ne _ _ _ (by rw [hsz]; exact Nat.ne_of_lt (Nat.lt_succ_of_lt hlt)), Heap.get?_update_ne _ _ _ _ (Nat.ne_of_lt hlt), Heap.get?_push_ne _ _ _ (Nat.ne_of_lt hlt)]
    exact q
  show wpAny _ _ _ _ _ ⟨((h.push (seqObj "list" #[] 0)).update h.objs.size (Obj.mapSeq (· ++ vs.toArray))).push (seqObj "list" vs.toArray 0), gs, d, _, os⟩
  have hnew : ∀ a, h.objs.size ≤ a → h.get? a = none := fun a ha => Heap.get?_none_of_le ha
  rw [hsz]
  generalize ((h.push (seqObj "list" #[] 0)).update h.objs.size (Obj.mapSeq (· ++ vs.toArray))).push (seqObj "list" vs.toArray 0) = h1 at hoL keep
  refine wpAny_bind (wpAny_holding (wpAny_call_entry_kw slot_list_sort ⟨_, hoL, rfl⟩ entry_list_sort ?body (ksk_l1 _ _)))
  case body =>
    show wpAny (model thePr w) A.in1.in1 (Builtin.«list.sort» ⟨[.ref (h.objs.size + 1)], [(Str.ofString "key", .ref k.K)]⟩) _ _ _
    rw [ksk_t1]
    obtain ⟨e1, ho1⟩ : ∃ e1, (h1.update (h.objs.size + 1) (Obj.mapSeq fun _ => (#[] : Array Value))).get? (h.objs.size + 1) = some (seqObj "list" #[] e1) := ⟨_, get?_update_seq hoL fun _ => #[]⟩
    have s1 := Heap.SameBut.update h1 (h.objs.size + 1) (Obj.mapSeq fun _ => (#[] : Array Value))
    have keep1 : Kp h (h1.update (h.objs.size + 1) (Obj.mapSeq fun _ => (#[] : Array Value))) := fun b o q => s1.extBut b o (fun z => by rw [z, hnew _ (Nat.le_succ _)] at q; cases q) (keep _ _ q)
    have hz1 : h.objs.size + 1 < (h1.update (h.objs.size + 1) (Obj.mapSeq fun _ => (#[] : Array Value))).objs.size := Heap.lt_size ho1
    unfold ksk_tree
    refine wpAny_bind (listItems_at hoL rfl ?_)
    refine wpAny_bind (listUpdate_at hoL rfl ?_ (by rw [List.size_toArray, sizeLine_eq, HI.1]; omega) (Nat.zero_le _))
    refine wpAny_bind (seqEpoch_at ho1 rfl ?_)
    refine wpAny_bind (wpAny_newTuple ?_ (by show vs.length ≤ _; rw [sizeLine_eq, HI.1]; omega))
    refine wpAny_bind (wpAny_newList ?_ (Nat.zero_le _))
    refine wpAny_holding ?_
    dsimp only
    generalize h1.update (h.objs.size + 1) (Obj.mapSeq fun _ => (#[] : Array Value)) = h2 at ho1 keep1 hz1 ⊢
    refine k_rest (h₀ := h) B ?_ ?_ XK HI ?_ ?_ ?_ ?_ ?_ ?_
    · exact hA
    · show A.units + 1 + 1 ≤ 9000; omega
    · exact fun b o q => Heap.get?_push_of_some _ (Heap.get?_push_of_some _ (keep1 _ _ q))
    · exact hnew _ (by rw [size_push']; omega)
    · exact Heap.get?_push_size _ rfl
    · exact Heap.get?_push_of_some _ (Heap.get?_push_of_some _ ho1)
    · show (h2.push _).objs.size ≠ h.objs.size + 1
      rw [size_push']
      omega
    · intro h' tk' out c kk go eo
      refine ⟨_, rfl, ?_⟩
      refine wpAny_pure ⟨_, rfl, hQ (h.objs.size + 1) out c h' tk' (fun b o q => ?_) (hnew _ (Nat.le_succ _)) go eo⟩
      have hb := Heap.lt_size q
      refine kk b o ?_ (Nat.ne_of_lt (Nat.lt_succ_of_lt hb)) (Heap.get?_push_of_some _ (Heap.get?_push_of_some _ (keep1 _ _ q)))
      show b ≠ (h2.push _).objs.size
      rw [size_push']
      exact Nat.ne_of_lt (Nat.lt_succ_of_lt (Nat.lt_trans hb (Nat.lt_trans (Nat.lt_succ_self _) hz1)))
end
end

section
set_option maxRecDepth 100000
set_option maxHeartbeats 4000000
open PySem PySem.W PyProof.Rows PySem.Calls
theorem fillKO1 : PySem.Challenge.rw_nb0121_01 = PySem.Challenge.rw_nb0121_01 ∧ hd.heap_39 = hd.heap_39 := by (k_fill; exact ⟨rfl, rfl⟩)
theorem kwKO1 : True := by
  k_with_none
  k_with "call ref" => ((with_reducible show wpAny _ _ (call (Value.ref _) _) _ _ _); refine halt ?_)
  k_with "call builtin:str.join" => ((with_reducible show wpAny _ _ (call (Value.builtin "str.join") _) _ _ _); refine halt ?_)
  k_with "eval Name" => ((with_reducible show wpAny _ _ (eval (Expr.Name _ _) (compEnv _ _ _)) _ _ _); (with_reducible rename Fr _ _ _ _ => kF); refine nameB_G kF (by assumption) (by assumption) (by k_is) (by boot_by_name) (by decide) ?_ rfl rfl rfl rfl (by decide))
  k_with "eval Name" => ((with_reducible show wpAny _ _ (eval (Expr.Name (Str.ofString "NotImplemented") _) _) _ _ _); (with_reducible rename Fr _ _ _ _ => kF); with_reducible refine nameB_G kF (by assumption) (by assumption) (by k_is) (by boot_by_name) (by decide) ?_ rfl rfl rfl rfl (by decide))
  k_with "call type:type" => ((with_reducible show wpAny _ _ (call (Value.type "type") _) _ _ _); refine halt ?_)
  k_with "compareOp Is bool" => ((with_reducible show wpAny _ _ (compareOp CmpOp.Is _ _) _ _ _); refine halt ?_)
  k_with "compareOp Is" => ((with_reducible show wpAny _ _ (compareOp CmpOp.Is _ _) _ _ _); refine halt ?_)
  k_with "compareOp NotEq ref ref" => ((with_reducible show wpAny _ _ (compareOp CmpOp.NotEq _ _) _ _ _); refine halt ?_)
  k_with "compareOp Eq ref ref" => ((with_reducible show wpAny _ _ (compareOp CmpOp.Eq _ _) _ _ _); refine halt ?_)
  k_with "compareOp Eq ref" => ((with_reducible show wpAny _ _ (compareOp CmpOp.Eq _ _) _ _ _); refine halt ?_)
  k_with "compareOp NotEq ref" => ((with_reducible show wpAny _ _ (compareOp CmpOp.NotEq _ _) _ _ _); refine halt ?_)
  w_top off
  exact trivial
section
variable {w : World} {p : Program} {loose : List Str} {mean : ExcName → Option Value} {mg mb : Str → Option Value} {A : Around} {h : Heap} {gs : Array GenState} {d : Drawn} {tk : Nat} {os : OsState} {Q E : Value → Shared → Prop}
theorem ea1 {a b : List Nat} (h : a < b) : (!decide (a < b)) = decide (b < a) := by have : ¬ b < a := fun q => lt_asymm' h q; simp [h, this]
theorem ea2 {a b : List Nat} (h : ¬ a < b) : (!(!decide (a < b) && !decide (b < a))) = decide (b < a) := by simp [h]
theorem ea3 {a b : List Nat} (h : a < b) : decide (a < b) = !decide (b < a) := by have : ¬ b < a := fun q => lt_asymm' h q; simp [h, this]
theorem ea4 {a b : List Nat} (h : ¬ a < b) : (!decide (a < b) && !decide (b < a)) = !decide (b < a) := by simp [h]
theorem ea5 {a b : List Nat} (h : b < a) : (!!decide (b < a)) = !decide (a < b) := by have : ¬ a < b := fun q => lt_asymm' h q; simp [h, this]
theorem ea6 {a b : List Nat} (h : ¬ b < a) : (!decide (a < b) && !decide (b < a)) = !decide (a < b) := by simp [h]
theorem ea7 {a b : List Nat} (h : b < a) : (!decide (b < a)) = decide (a < b) := by have : ¬ a < b := fun q => lt_asymm' h q; simp [h, this]
theorem ea8 {a b : List Nat} (h : ¬ b < a) : (!(!decide (a < b) && !decide (b < a))) = decide (a < b) := by simp [h]
theorem ea9 {a b : List Nat} (h : b < a) : decide (b < a) = !decide (a < b) := by have : ¬ a < b := fun q => lt_asymm' h q; simp [h, this]
theorem ea10 {a b : List Nat} (h : a < b) : (!!decide (a < b)) = !decide (b < a) := by have : ¬ b < a := fun q => lt_asymm' h q; simp [h, this]

theorem fl38 {k : KP} {o1 o2 : Addr} {x y : Str} {i j : Int} (B : Bs w p loose mean mg mb h) (hA : A.depth ≤ 870) (hu : A.units ≤ 8000) (XK : KK k h) (h0 : 0 ≤ i) (h1 : i ≤ 4) (k1 : KI k h o1 x i) (k2 : KI k h o2 y j)
    (hQ : ∀ h' tk' r, r = decide (cpl y < cpl x) → Kp h h' → Q (.bool r) ⟨h', gs, d, tk', os⟩) :
    wpAny (model thePr w) A (call (.ref 38) [.ref o1, .ref o2]) Q E ⟨h, gs, d, tk, os⟩ := by
  refine enterS (Str.ofString "self", .ref o1) [(Str.ofString "other", .ref o2)] B (by k_is) (by k_is) (by simp only [recursionLimit]; omega) (BindsTo.of_eq rfl) (locs rfl) ?_ rfl rfl rfl (by decide)
  intro L h₁ t₁ ht F N X T
  k_steps
  refine go (type_K F k1 ?_)
  refine getm_K nm_lt F B XK XK.at_.lt ?_
  have fA : FnAt k.F.lt h₁ := ⟨_, _, _, _, F.keep _ _ XK.at_.lt⟩
  refine callWith_F fA ?_
  k_steps
  · exact fA
  refine go (call_op methF3 (by simp) (B.keeps F.keep) (by rw [depth_deeper]; omega) (XK.keeps F.keep) h0 h1 (k1.keeps F.keep) (k2.keeps F.keep) (F.keep _ _ XK.at_.lt) (XK.at_.r3.keeps F.keep) (cmp_lt h0) ?_)
  intro h2 tk2 kk2
  have F2 := F.kept kk2
  have N2 := N.grown kk2
  clear F N
  k_steps
  refine go (wpAny_is_other (by rfl) (by intro q; cases q) ?_)
  k_steps
  · rename_i ha
    (with_reducible rename Fr _ _ _ _ => F3)
    exact hQ _ _ _ (ea1 ha) F3.keep
  · rename_i ha
    (with_reducible rename Fr _ _ _ _ => F3)
    refine go (nes_K F3 B (by rw [depth_deeper]; omega) (by rw [units_deeper]; omega) XK h0 h1 k1 k2 ?_)
    intro h4 tk4 kk4
    exact hQ _ _ _ (ea2 ha) (fun _ _ e => kk4 _ _ (F3.keep _ _ e))
theorem fl45 {k : KP} {o1 o2 : Addr} {x y : Str} {i j : Int} (B : Bs w p loose mean mg mb h) (hA : A.depth ≤ 870) (hu : A.units ≤ 8000) (XK : KK k h) (h0 : 0 ≤ i) (h1 : i ≤ 4) (k1 : KI k h o1 x i) (k2 : KI k h o2 y j)
    (hQ : ∀ h' tk' r, r = (!decide (cpl y < cpl x)) → Kp h h' → Q (.bool r) ⟨h', gs, d, tk', os⟩) :
    wpAny (model thePr w) A (call (.ref 45) [.ref o1, .ref o2]) Q E ⟨h, gs, d, tk, os⟩ := by
  refine enterS (Str.ofString "self", .ref o1) [(Str.ofString "other", .ref o2)] B (by k_is) (by k_is) (by simp only [recursionLimit]; omega) (BindsTo.of_eq rfl) (locs rfl) ?_ rfl rfl rfl (by decide)
  intro L h₁ t₁ ht F N X T
  k_steps
  refine go (type_K F k1 ?_)
  refine getm_K nm_lt F B XK XK.at_.lt ?_
  have fA : FnAt k.F.lt h₁ := ⟨_, _, _, _, F.keep _ _ XK.at_.lt⟩
  refine callWith_F fA ?_
  k_steps
  · exact fA
  refine go (call_op methF3 (by simp) (B.keeps F.keep) (by rw [depth_deeper]; omega) (XK.keeps F.keep) h0 h1 (k1.keeps F.keep) (k2.keeps F.keep) (F.keep _ _ XK.at_.lt) (XK.at_.r3.keeps F.keep) (cmp_lt h0) ?_)
  intro h2 tk2 kk2
  have F2 := F.kept kk2
  have N2 := N.grown kk2
  clear F N
  k_steps
  refine go (wpAny_is_other (by rfl) (by intro q; cases q) ?_)
  k_steps
  · rename_i ha
    (with_reducible rename Fr _ _ _ _ => F3)
    exact hQ _ _ _ (ea3 ha) F3.keep
  · rename_i ha
    (with_reducible rename Fr _ _ _ _ => F3)
    refine go (eqs_K F3 B (by rw [depth_deeper]; omega) (by rw [units_deeper]; omega) XK h0 h1 k1 k2 ?_)
    intro h4 tk4 kk4
    exact hQ _ _ _ (ea4 ha) (fun _ _ e => kk4 _ _ (F3.keep _ _ e))
theorem fl52 {k : KP} {o1 o2 : Addr} {x y : Str} {i j : Int} (B : Bs w p loose mean mg mb h) (hA : A.depth ≤ 870) (hu : A.units ≤ 8000) (XK : KK k h) (h0 : 0 ≤ i) (h1 : i ≤ 4) (k1 : KI k h o1 x i) (k2 : KI k h o2 y j)
    (hQ : ∀ h' tk' r, r = (!decide (cpl x < cpl y)) → Kp h h' → Q (.bool r) ⟨h', gs, d, tk', os⟩) :
    wpAny (model thePr w) A (call (.ref 52) [.ref o1, .ref o2]) Q E ⟨h, gs, d, tk, os⟩ := by
  refine enterS (Str.ofString "self", .ref o1) [(Str.ofString "other", .ref o2)] B (by k_is) (by k_is) (by simp only [recursionLimit]; omega) (BindsTo.of_eq rfl) (locs rfl) ?_ rfl rfl rfl (by decide)
  intro L h₁ t₁ ht F N X T
  k_steps
  refine go (type_K F k1 ?_)
  refine getm_K nm_lt F B XK XK.at_.lt ?_
  have fA : FnAt k.F.lt h₁ := ⟨_, _, _, _, F.keep _ _ XK.at_.lt⟩
  refine callWith_F fA ?_
  k_steps
  · exact fA
  refine go (call_op methF3 (by simp) (B.keeps F.keep) (by rw [depth_deeper]; omega) (XK.keeps F.keep) h0 h1 (k1.keeps F.keep) (k2.keeps F.keep) (F.keep _ _ XK.at_.lt) (XK.at_.r3.keeps F.keep) (cmp_lt h0) ?_)
  intro h2 tk2 kk2
  have F2 := F.kept kk2
  have N2 := N.grown kk2
  clear F N
  k_steps
  refine go (wpAny_is_other (by rfl) (by intro q; cases q) ?_)
  k_steps
  (with_reducible rename Fr _ _ _ _ => F3)
  exact hQ _ _ _ (rfl) F3.keep
theorem fl59 {k : KP} {o1 o2 : Addr} {x y : Str} {i j : Int} (B : Bs w p loose mean mg mb h) (hA : A.depth ≤ 870) (hu : A.units ≤ 8000) (XK : KK k h) (h0 : 0 ≤ i) (h1 : i ≤ 4) (k1 : KI k h o1 x i) (k2 : KI k h o2 y j)
    (hQ : ∀ h' tk' r, r = (!decide (cpl x < cpl y)) → Kp h h' → Q (.bool r) ⟨h', gs, d, tk', os⟩) :
    wpAny (model thePr w) A (call (.ref 59) [.ref o1, .ref o2]) Q E ⟨h, gs, d, tk, os⟩ := by
  refine enterS (Str.ofString "self", .ref o1) [(Str.ofString "other", .ref o2)] B (by k_is) (by k_is) (by simp only [recursionLimit]; omega) (BindsTo.of_eq rfl) (locs rfl) ?_ rfl rfl rfl (by decide)
  intro L h₁ t₁ ht F N X T
  k_steps
  refine go (type_K F k1 ?_)
  refine getm_K nm_le F B XK XK.at_.le ?_
  have fA : FnAt k.F.le h₁ := ⟨_, _, _, _, F.keep _ _ XK.at_.le⟩
  refine callWith_F fA ?_
  k_steps
  · exact fA
  refine go (call_op methF6 (by simp) (B.keeps F.keep) (by rw [depth_deeper]; omega) (XK.keeps F.keep) h0 h1 (k1.keeps F.keep) (k2.keeps F.keep) (F.keep _ _ XK.at_.le) (XK.at_.r6.keeps F.keep) (cmp_le h0) ?_)
  intro h2 tk2 kk2
  have F2 := F.kept kk2
  have N2 := N.grown kk2
  clear F N
  k_steps
  refine go (wpAny_is_other (by rfl) (by intro q; cases q) ?_)
  k_steps
  · rename_i ha
    (with_reducible rename Fr _ _ _ _ => F3)
    exact hQ _ _ _ (ea5 ha) F3.keep
  · rename_i ha
    (with_reducible rename Fr _ _ _ _ => F3)
    refine go (eqs_K F3 B (by rw [depth_deeper]; omega) (by rw [units_deeper]; omega) XK h0 h1 k1 k2 ?_)
    intro h4 tk4 kk4
    exact hQ _ _ _ (ea6 ha) (fun _ _ e => kk4 _ _ (F3.keep _ _ e))
theorem fl66 {k : KP} {o1 o2 : Addr} {x y : Str} {i j : Int} (B : Bs w p loose mean mg mb h) (hA : A.depth ≤ 870) (hu : A.units ≤ 8000) (XK : KK k h) (h0 : 0 ≤ i) (h1 : i ≤ 4) (k1 : KI k h o1 x i) (k2 : KI k h o2 y j)
    (hQ : ∀ h' tk' r, r = decide (cpl x < cpl y) → Kp h h' → Q (.bool r) ⟨h', gs, d, tk', os⟩) :
    wpAny (model thePr w) A (call (.ref 66) [.ref o1, .ref o2]) Q E ⟨h, gs, d, tk, os⟩ := by
  refine enterS (Str.ofString "self", .ref o1) [(Str.ofString "other", .ref o2)] B (by k_is) (by k_is) (by simp only [recursionLimit]; omega) (BindsTo.of_eq rfl) (locs rfl) ?_ rfl rfl rfl (by decide)
  intro L h₁ t₁ ht F N X T
  k_steps
  refine go (type_K F k1 ?_)
  refine getm_K nm_le F B XK XK.at_.le ?_
  have fA : FnAt k.F.le h₁ := ⟨_, _, _, _, F.keep _ _ XK.at_.le⟩
  refine callWith_F fA ?_
  k_steps
  · exact fA
  refine go (call_op methF6 (by simp) (B.keeps F.keep) (by rw [depth_deeper]; omega) (XK.keeps F.keep) h0 h1 (k1.keeps F.keep) (k2.keeps F.keep) (F.keep _ _ XK.at_.le) (XK.at_.r6.keeps F.keep) (cmp_le h0) ?_)
  intro h2 tk2 kk2
  have F2 := F.kept kk2
  have N2 := N.grown kk2
  clear F N
  k_steps
  refine go (wpAny_is_other (by rfl) (by intro q; cases q) ?_)
  k_steps
  · rename_i ha
    (with_reducible rename Fr _ _ _ _ => F3)
    exact hQ _ _ _ (ea7 ha) F3.keep
  · rename_i ha
    (with_reducible rename Fr _ _ _ _ => F3)
    refine go (nes_K F3 B (by rw [depth_deeper]; omega) (by rw [units_deeper]; omega) XK h0 h1 k1 k2 ?_)
    intro h4 tk4 kk4
    exact hQ _ _ _ (ea8 ha) (fun _ _ e => kk4 _ _ (F3.keep _ _ e))
theorem fl73 {k : KP} {o1 o2 : Addr} {x y : Str} {i j : Int} (B : Bs w p loose mean mg mb h) (hA : A.depth ≤ 870) (hu : A.units ≤ 8000) (XK : KK k h) (h0 : 0 ≤ i) (h1 : i ≤ 4) (k1 : KI k h o1 x i) (k2 : KI k h o2 y j)
    (hQ : ∀ h' tk' r, r = decide (cpl y < cpl x) → Kp h h' → Q (.bool r) ⟨h', gs, d, tk', os⟩) :
    wpAny (model thePr w) A (call (.ref 73) [.ref o1, .ref o2]) Q E ⟨h, gs, d, tk, os⟩ := by
  refine enterS (Str.ofString "self", .ref o1) [(Str.ofString "other", .ref o2)] B (by k_is) (by k_is) (by simp only [recursionLimit]; omega) (BindsTo.of_eq rfl) (locs rfl) ?_ rfl rfl rfl (by decide)
  intro L h₁ t₁ ht F N X T
  k_steps
  refine go (type_K F k1 ?_)
  refine getm_K nm_le F B XK XK.at_.le ?_
  have fA : FnAt k.F.le h₁ := ⟨_, _, _, _, F.keep _ _ XK.at_.le⟩
  refine callWith_F fA ?_
  k_steps
  · exact fA
  refine go (call_op methF6 (by simp) (B.keeps F.keep) (by rw [depth_deeper]; omega) (XK.keeps F.keep) h0 h1 (k1.keeps F.keep) (k2.keeps F.keep) (F.keep _ _ XK.at_.le) (XK.at_.r6.keeps F.keep) (cmp_le h0) ?_)
  intro h2 tk2 kk2
  have F2 := F.kept kk2
  have N2 := N.grown kk2
  clear F N
  k_steps
  refine go (wpAny_is_other (by rfl) (by intro q; cases q) ?_)
  k_steps
  (with_reducible rename Fr _ _ _ _ => F3)
  exact hQ _ _ _ (Bool.not_not _) F3.keep
theorem fl80 {k : KP} {o1 o2 : Addr} {x y : Str} {i j : Int} (B : Bs w p loose mean mg mb h) (hA : A.depth ≤ 870) (hu : A.units ≤ 8000) (XK : KK k h) (h0 : 0 ≤ i) (h1 : i ≤ 4) (k1 : KI k h o1 x i) (k2 : KI k h o2 y j)
    (hQ : ∀ h' tk' r, r = decide (cpl x < cpl y) → Kp h h' → Q (.bool r) ⟨h', gs, d, tk', os⟩) :
    wpAny (model thePr w) A (call (.ref 80) [.ref o1, .ref o2]) Q E ⟨h, gs, d, tk, os⟩ := by
  refine enterS (Str.ofString "self", .ref o1) [(Str.ofString "other", .ref o2)] B (by k_is) (by k_is) (by simp only [recursionLimit]; omega) (BindsTo.of_eq rfl) (locs rfl) ?_ rfl rfl rfl (by decide)
  intro L h₁ t₁ ht F N X T
  k_steps
  refine go (type_K F k1 ?_)
  refine getm_K nm_gt F B XK XK.at_.gt ?_
  have fA : FnAt k.F.gt h₁ := ⟨_, _, _, _, F.keep _ _ XK.at_.gt⟩
  refine callWith_F fA ?_
  k_steps
  · exact fA
  refine go (call_op methF4 (by simp) (B.keeps F.keep) (by rw [depth_deeper]; omega) (XK.keeps F.keep) h0 h1 (k1.keeps F.keep) (k2.keeps F.keep) (F.keep _ _ XK.at_.gt) (XK.at_.r4.keeps F.keep) (cmp_gt h0) ?_)
  intro h2 tk2 kk2
  have F2 := F.kept kk2
  have N2 := N.grown kk2
  clear F N
  k_steps
  refine go (wpAny_is_other (by rfl) (by intro q; cases q) ?_)
  k_steps
  · rename_i ha
    (with_reducible rename Fr _ _ _ _ => F3)
    exact hQ _ _ _ (ea7 ha) F3.keep
  · rename_i ha
    (with_reducible rename Fr _ _ _ _ => F3)
    refine go (nes_K F3 B (by rw [depth_deeper]; omega) (by rw [units_deeper]; omega) XK h0 h1 k1 k2 ?_)
    intro h4 tk4 kk4
    exact hQ _ _ _ (ea8 ha) (fun _ _ e => kk4 _ _ (F3.keep _ _ e))
theorem fl87 {k : KP} {o1 o2 : Addr} {x y : Str} {i j : Int} (B : Bs w p loose mean mg mb h) (hA : A.depth ≤ 870) (hu : A.units ≤ 8000) (XK : KK k h) (h0 : 0 ≤ i) (h1 : i ≤ 4) (k1 : KI k h o1 x i) (k2 : KI k h o2 y j)
    (hQ : ∀ h' tk' r, r = (!decide (cpl x < cpl y)) → Kp h h' → Q (.bool r) ⟨h', gs, d, tk', os⟩) :
    wpAny (model thePr w) A (call (.ref 87) [.ref o1, .ref o2]) Q E ⟨h, gs, d, tk, os⟩ := by
  refine enterS (Str.ofString "self", .ref o1) [(Str.ofString "other", .ref o2)] B (by k_is) (by k_is) (by simp only [recursionLimit]; omega) (BindsTo.of_eq rfl) (locs rfl) ?_ rfl rfl rfl (by decide)
  intro L h₁ t₁ ht F N X T
  k_steps
  refine go (type_K F k1 ?_)
  refine getm_K nm_gt F B XK XK.at_.gt ?_
  have fA : FnAt k.F.gt h₁ := ⟨_, _, _, _, F.keep _ _ XK.at_.gt⟩
  refine callWith_F fA ?_
  k_steps
  · exact fA
  refine go (call_op methF4 (by simp) (B.keeps F.keep) (by rw [depth_deeper]; omega) (XK.keeps F.keep) h0 h1 (k1.keeps F.keep) (k2.keeps F.keep) (F.keep _ _ XK.at_.gt) (XK.at_.r4.keeps F.keep) (cmp_gt h0) ?_)
  intro h2 tk2 kk2
  have F2 := F.kept kk2
  have N2 := N.grown kk2
  clear F N
  k_steps
  refine go (wpAny_is_other (by rfl) (by intro q; cases q) ?_)
  k_steps
  · rename_i ha
    (with_reducible rename Fr _ _ _ _ => F3)
    exact hQ _ _ _ (ea9 ha) F3.keep
  · rename_i ha
    (with_reducible rename Fr _ _ _ _ => F3)
    refine go (eqs_K F3 B (by rw [depth_deeper]; omega) (by rw [units_deeper]; omega) XK h0 h1 k1 k2 ?_)
    intro h4 tk4 kk4
    exact hQ _ _ _ (ea6 ha) (fun _ _ e => kk4 _ _ (F3.keep _ _ e))
theorem fl94 {k : KP} {o1 o2 : Addr} {x y : Str} {i j : Int} (B : Bs w p loose mean mg mb h) (hA : A.depth ≤ 870) (hu : A.units ≤ 8000) (XK : KK k h) (h0 : 0 ≤ i) (h1 : i ≤ 4) (k1 : KI k h o1 x i) (k2 : KI k h o2 y j)
    (hQ : ∀ h' tk' r, r = (!decide (cpl y < cpl x)) → Kp h h' → Q (.bool r) ⟨h', gs, d, tk', os⟩) :
    wpAny (model thePr w) A (call (.ref 94) [.ref o1, .ref o2]) Q E ⟨h, gs, d, tk, os⟩ := by
  refine enterS (Str.ofString "self", .ref o1) [(Str.ofString "other", .ref o2)] B (by k_is) (by k_is) (by simp only [recursionLimit]; omega) (BindsTo.of_eq rfl) (locs rfl) ?_ rfl rfl rfl (by decide)
  intro L h₁ t₁ ht F N X T
  k_steps
  refine go (type_K F k1 ?_)
  refine getm_K nm_gt F B XK XK.at_.gt ?_
  have fA : FnAt k.F.gt h₁ := ⟨_, _, _, _, F.keep _ _ XK.at_.gt⟩
  refine callWith_F fA ?_
  k_steps
  · exact fA
  refine go (call_op methF4 (by simp) (B.keeps F.keep) (by rw [depth_deeper]; omega) (XK.keeps F.keep) h0 h1 (k1.keeps F.keep) (k2.keeps F.keep) (F.keep _ _ XK.at_.gt) (XK.at_.r4.keeps F.keep) (cmp_gt h0) ?_)
  intro h2 tk2 kk2
  have F2 := F.kept kk2
  have N2 := N.grown kk2
  clear F N
  k_steps
  refine go (wpAny_is_other (by rfl) (by intro q; cases q) ?_)
  k_steps
  (with_reducible rename Fr _ _ _ _ => F3)
  exact hQ _ _ _ (rfl) F3.keep
theorem fl101 {k : KP} {o1 o2 : Addr} {x y : Str} {i j : Int} (B : Bs w p loose mean mg mb h) (hA : A.depth ≤ 870) (hu : A.units ≤ 8000) (XK : KK k h) (h0 : 0 ≤ i) (h1 : i ≤ 4) (k1 : KI k h o1 x i) (k2 : KI k h o2 y j)
    (hQ : ∀ h' tk' r, r = (!decide (cpl y < cpl x)) → Kp h h' → Q (.bool r) ⟨h', gs, d, tk', os⟩) :
    wpAny (model thePr w) A (call (.ref 101) [.ref o1, .ref o2]) Q E ⟨h, gs, d, tk, os⟩ := by
  refine enterS (Str.ofString "self", .ref o1) [(Str.ofString "other", .ref o2)] B (by k_is) (by k_is) (by simp only [recursionLimit]; omega) (BindsTo.of_eq rfl) (locs rfl) ?_ rfl rfl rfl (by decide)
  intro L h₁ t₁ ht F N X T
  k_steps
  refine go (type_K F k1 ?_)
  refine getm_K nm_ge F B XK XK.at_.ge ?_
  have fA : FnAt k.F.ge h₁ := ⟨_, _, _, _, F.keep _ _ XK.at_.ge⟩
  refine callWith_F fA ?_
  k_steps
  · exact fA
  refine go (call_op methF7 (by simp) (B.keeps F.keep) (by rw [depth_deeper]; omega) (XK.keeps F.keep) h0 h1 (k1.keeps F.keep) (k2.keeps F.keep) (F.keep _ _ XK.at_.ge) (XK.at_.r7.keeps F.keep) (cmp_ge h0) ?_)
  intro h2 tk2 kk2
  have F2 := F.kept kk2
  have N2 := N.grown kk2
  clear F N
  k_steps
  refine go (wpAny_is_other (by rfl) (by intro q; cases q) ?_)
  k_steps
  · rename_i ha
    (with_reducible rename Fr _ _ _ _ => F3)
    exact hQ _ _ _ (ea10 ha) F3.keep
  · rename_i ha
    (with_reducible rename Fr _ _ _ _ => F3)
    refine go (eqs_K F3 B (by rw [depth_deeper]; omega) (by rw [units_deeper]; omega) XK h0 h1 k1 k2 ?_)
    intro h4 tk4 kk4
    exact hQ _ _ _ (ea4 ha) (fun _ _ e => kk4 _ _ (F3.keep _ _ e))
theorem fl108 {k : KP} {o1 o2 : Addr} {x y : Str} {i j : Int} (B : Bs w p loose mean mg mb h) (hA : A.depth ≤ 870) (hu : A.units ≤ 8000) (XK : KK k h) (h0 : 0 ≤ i) (h1 : i ≤ 4) (k1 : KI k h o1 x i) (k2 : KI k h o2 y j)
    (hQ : ∀ h' tk' r, r = decide (cpl y < cpl x) → Kp h h' → Q (.bool r) ⟨h', gs, d, tk', os⟩) :
    wpAny (model thePr w) A (call (.ref 108) [.ref o1, .ref o2]) Q E ⟨h, gs, d, tk, os⟩ := by
  refine enterS (Str.ofString "self", .ref o1) [(Str.ofString "other", .ref o2)] B (by k_is) (by k_is) (by simp only [recursionLimit]; omega) (BindsTo.of_eq rfl) (locs rfl) ?_ rfl rfl rfl (by decide)
  intro L h₁ t₁ ht F N X T
  k_steps
  refine go (type_K F k1 ?_)
  refine getm_K nm_ge F B XK XK.at_.ge ?_
  have fA : FnAt k.F.ge h₁ := ⟨_, _, _, _, F.keep _ _ XK.at_.ge⟩
  refine callWith_F fA ?_
  k_steps
  · exact fA
  refine go (call_op methF7 (by simp) (B.keeps F.keep) (by rw [depth_deeper]; omega) (XK.keeps F.keep) h0 h1 (k1.keeps F.keep) (k2.keeps F.keep) (F.keep _ _ XK.at_.ge) (XK.at_.r7.keeps F.keep) (cmp_ge h0) ?_)
  intro h2 tk2 kk2
  have F2 := F.kept kk2
  have N2 := N.grown kk2
  clear F N
  k_steps
  refine go (wpAny_is_other (by rfl) (by intro q; cases q) ?_)
  k_steps
  · rename_i ha
    (with_reducible rename Fr _ _ _ _ => F3)
    exact hQ _ _ _ (ea1 ha) F3.keep
  · rename_i ha
    (with_reducible rename Fr _ _ _ _ => F3)
    refine go (nes_K F3 B (by rw [depth_deeper]; omega) (by rw [units_deeper]; omega) XK h0 h1 k1 k2 ?_)
    intro h4 tk4 kk4
    exact hQ _ _ _ (ea2 ha) (fun _ _ e => kk4 _ _ (F3.keep _ _ e))
theorem fl115 {k : KP} {o1 o2 : Addr} {x y : Str} {i j : Int} (B : Bs w p loose mean mg mb h) (hA : A.depth ≤ 870) (hu : A.units ≤ 8000) (XK : KK k h) (h0 : 0 ≤ i) (h1 : i ≤ 4) (k1 : KI k h o1 x i) (k2 : KI k h o2 y j)
    (hQ : ∀ h' tk' r, r = decide (cpl x < cpl y) → Kp h h' → Q (.bool r) ⟨h', gs, d, tk', os⟩) :
    wpAny (model thePr w) A (call (.ref 115) [.ref o1, .ref o2]) Q E ⟨h, gs, d, tk, os⟩ := by
  refine enterS (Str.ofString "self", .ref o1) [(Str.ofString "other", .ref o2)] B (by k_is) (by k_is) (by simp only [recursionLimit]; omega) (BindsTo.of_eq rfl) (locs rfl) ?_ rfl rfl rfl (by decide)
  intro L h₁ t₁ ht F N X T
  k_steps
  refine go (type_K F k1 ?_)
  refine getm_K nm_ge F B XK XK.at_.ge ?_
  have fA : FnAt k.F.ge h₁ := ⟨_, _, _, _, F.keep _ _ XK.at_.ge⟩
  refine callWith_F fA ?_
  k_steps
  · exact fA
  refine go (call_op methF7 (by simp) (B.keeps F.keep) (by rw [depth_deeper]; omega) (XK.keeps F.keep) h0 h1 (k1.keeps F.keep) (k2.keeps F.keep) (F.keep _ _ XK.at_.ge) (XK.at_.r7.keeps F.keep) (cmp_ge h0) ?_)
  intro h2 tk2 kk2
  have F2 := F.kept kk2
  have N2 := N.grown kk2
  clear F N
  k_steps
  refine go (wpAny_is_other (by rfl) (by intro q; cases q) ?_)
  k_steps
  (with_reducible rename Fr _ _ _ _ => F3)
  exact hQ _ _ _ (Bool.not_not _) F3.keep
end
end

section
set_option maxRecDepth 100000
set_option maxHeartbeats 4000000
open PySem PySem.W PyProof.Rows PySem.Calls
theorem fillKR1 : PySem.Challenge.rw_nb0121_01 = PySem.Challenge.rw_nb0121_01 ∧ hd.heap_39 = hd.heap_39 := by (k_fill; exact ⟨rfl, rfl⟩)
theorem kwKR1 : True := by
  k_with_none
  k_with "call ref" => ((with_reducible show wpAny _ _ (call (Value.ref _) _) _ _ _); refine halt ?_)
  k_with "call builtin:str.join" => ((with_reducible show wpAny _ _ (call (Value.builtin "str.join") _) _ _ _); refine halt ?_)
  k_with "eval Name" => ((with_reducible show wpAny _ _ (eval (Expr.Name _ _) (compEnv _ _ _)) _ _ _); (with_reducible rename Fr _ _ _ _ => kF); refine nameB_G kF (by assumption) (by assumption) (by k_is) (by boot_by_name) (by decide) ?_ rfl rfl rfl rfl (by decide))
  k_with "compareOp NotEq ref ref" => ((with_reducible show wpAny _ _ (compareOp CmpOp.NotEq _ _) _ _ _); refine halt ?_)
  k_with "compareOp Eq ref ref" => ((with_reducible show wpAny _ _ (compareOp CmpOp.Eq _ _) _ _ _); refine halt ?_)
  w_top off
  exact trivial
section
variable {w : World} {p : Program} {loose : List Str} {mean : ExcName → Option Value} {mg mb : Str → Option Value} {A : Around} {h : Heap} {gs : Array GenState} {d : Drawn} {tk : Nat} {os : OsState} {Q E : Value → Shared → Prop}
theorem pc_told {k : KP} {o1 o2 : Addr} {x y : Str} {i j : Int} (B : Bs w p loose mean mg mb h) (hA : A.depth ≤ 860) (hu : A.units ≤ 7000) (XK : KK k h) (h0 : 0 ≤ i) (h1 : i ≤ 4) (k1 : KI k h o1 x i) (k2 : KI k h o2 y j)
    (hQ : ∀ D n h' tk', Kp h h' → h.get? D = none → h'.get? D = some (listOf ((told x y).map Value.bool).toArray n) → Q (.ref D) ⟨h', gs, d, tk', os⟩) :
    wpAny (model thePr w) A (call (.ref 213) [.ref o1, .ref o2]) Q E ⟨h, gs, d, tk, os⟩ := by
  refine enterS (Str.ofString "left", .ref o1) [(Str.ofString "right", .ref o2)] B (by k_is) (by k_is) (by simp only [recursionLimit]; omega) (BindsTo.of_eq rfl) (locs rfl) ?_ rfl rfl rfl (by decide)
  intro L h₁ t₁ ht F N X T
  k_steps
  refine go (fl66 (B.keeps F.keep) (by rw [depth_deeper]; omega) (by rw [units_deeper]; omega) (XK.keeps F.keep) h0 h1 (k1.keeps F.keep) (k2.keeps F.keep) ?_)
  rintro h2 tk2 _ rfl kk2
  have F2 := F.kept kk2
  have N2 := N.grown kk2
  clear F N
  k_steps
  refine go (fl80 (B.keeps F2.keep) (by rw [depth_deeper]; omega) (by rw [units_deeper]; omega) (XK.keeps F2.keep) h0 h1 (k1.keeps F2.keep) (k2.keeps F2.keep) ?_)
  rintro h3 tk3 _ rfl kk3
  have F3 := F2.kept kk3
  have N3 := N2.grown kk3
  clear F2 N2
  k_steps
  refine go (fl115 (B.keeps F3.keep) (by rw [depth_deeper]; omega) (by rw [units_deeper]; omega) (XK.keeps F3.keep) h0 h1 (k1.keeps F3.keep) (k2.keeps F3.keep) ?_)
  rintro h4 tk4 _ rfl kk4
  have F4 := F3.kept kk4
  have N4 := N3.grown kk4
  clear F3 N3
  k_steps
  refine go (fl45 (B.keeps F4.keep) (by rw [depth_deeper]; omega) (by rw [units_deeper]; omega) (XK.keeps F4.keep) h0 h1 (k1.keeps F4.keep) (k2.keeps F4.keep) ?_)
  rintro h5 tk5 _ rfl kk5
  have F5 := F4.kept kk5
  have N5 := N4.grown kk5
  clear F4 N4
  k_steps
  refine go (fl94 (B.keeps F5.keep) (by rw [depth_deeper]; omega) (by rw [units_deeper]; omega) (XK.keeps F5.keep) h0 h1 (k1.keeps F5.keep) (k2.keeps F5.keep) ?_)
  rintro h6 tk6 _ rfl kk6
  have F6 := F5.kept kk6
  have N6 := N5.grown kk6
  clear F5 N5
  k_steps
  refine go (fl101 (B.keeps F6.keep) (by rw [depth_deeper]; omega) (by rw [units_deeper]; omega) (XK.keeps F6.keep) h0 h1 (k1.keeps F6.keep) (k2.keeps F6.keep) ?_)
  rintro h7 tk7 _ rfl kk7
  have F7 := F6.kept kk7
  have N7 := N6.grown kk7
  clear F6 N6
  k_steps
  refine go (fl38 (B.keeps F7.keep) (by rw [depth_deeper]; omega) (by rw [units_deeper]; omega) (XK.keeps F7.keep) h0 h1 (k1.keeps F7.keep) (k2.keeps F7.keep) ?_)
  rintro h8 tk8 _ rfl kk8
  have F8 := F7.kept kk8
  have N8 := N7.grown kk8
  clear F7 N7
  k_steps
  refine go (fl73 (B.keeps F8.keep) (by rw [depth_deeper]; omega) (by rw [units_deeper]; omega) (XK.keeps F8.keep) h0 h1 (k1.keeps F8.keep) (k2.keeps F8.keep) ?_)
  rintro h9 tk9 _ rfl kk9
  have F9 := F8.kept kk9
  have N9 := N8.grown kk9
  clear F8 N8
  k_steps
  refine go (fl108 (B.keeps F9.keep) (by rw [depth_deeper]; omega) (by rw [units_deeper]; omega) (XK.keeps F9.keep) h0 h1 (k1.keeps F9.keep) (k2.keeps F9.keep) ?_)
  rintro h10 tk10 _ rfl kk10
  have F10 := F9.kept kk10
  have N10 := N9.grown kk10
  clear F9 N9
  k_steps
  refine go (fl52 (B.keeps F10.keep) (by rw [depth_deeper]; omega) (by rw [units_deeper]; omega) (XK.keeps F10.keep) h0 h1 (k1.keeps F10.keep) (k2.keeps F10.keep) ?_)
  rintro h11 tk11 _ rfl kk11
  have F11 := F10.kept kk11
  have N11 := N10.grown kk11
  clear F10 N10
  k_steps
  refine go (fl59 (B.keeps F11.keep) (by rw [depth_deeper]; omega) (by rw [units_deeper]; omega) (XK.keeps F11.keep) h0 h1 (k1.keeps F11.keep) (k2.keeps F11.keep) ?_)
  rintro h12 tk12 _ rfl kk12
  have F12 := F11.kept kk12
  have N12 := N11.grown kk12
  clear F11 N11
  k_steps
  refine go (fl87 (B.keeps F12.keep) (by rw [depth_deeper]; omega) (by rw [units_deeper]; omega) (XK.keeps F12.keep) h0 h1 (k1.keeps F12.keep) (k2.keeps F12.keep) ?_)
  rintro h13 tk13 _ rfl kk13
  have F13 := F12.kept kk13
  have N13 := N12.grown kk13
  clear F12 N12
  k_steps
  refine go (eqs_K F13 B (by rw [depth_deeper]; omega) (by rw [units_deeper]; omega) XK h0 h1 k1 k2 ?_)
  intro h14 tk14 kk14
  have F14 := F13.kept kk14
  have N14 := N13.grown kk14
  clear F13 N13
  k_steps
  refine go (nes_K F14 B (by rw [depth_deeper]; omega) (by rw [units_deeper]; omega) XK h0 h1 k1 k2 ?_)
  intro h15 tk15 kk15
  have F15 := F14.kept kk15
  have N15 := N14.grown kk15
  clear F14 N14
  k_steps
  (with_reducible rename Fr _ _ _ _ => Fz)
  (with_reducible rename News _ _ _ _ => Nz)
  exact hQ _ 0 _ _ Fz.keep (News.fresh Nz (.head _)) (News.get Nz (.head _))
end
end

section
set_option maxRecDepth 100000
set_option maxHeartbeats 1000000
open PySem PySem.W PyProof.Rows PySem.Calls PySem.W.X Builtin
theorem tn_str : typeOf (.type "str") = pure (.type "type") := by kernel_rfl
/-- the facts of one of the names, on str -/
structure StF (name : Str) (g f : String) : Prop where
  mt : typeLookup (.type "type") name = pure (some (.builtin g))
  ty : typeOf (.builtin g) = pure (.type "wrapper_descriptor")
  own : typeLookup (.type "str") name = pure (some (.builtin f))
  held : heldUnderItsOwnName name (.builtin f) = false
  fty : typeOf (.builtin f) = pure (.type "wrapper_descriptor")
  hand : handedOut (.builtin f) = pure (.builtin f)
theorem st_lt : StF "__lt__" "object.__lt__" "str.__lt__" := ⟨by rw [typeLookup_type, builtinLookup_eq_fast]; kernel_rfl, by kernel_rfl, by rw [typeLookup_type, builtinLookup_eq_fast]; kernel_rfl, by kernel_rfl, by kernel_rfl, by kernel_rfl⟩
theorem st_gt : StF "__gt__" "object.__gt__" "str.__gt__" := ⟨by rw [typeLookup_type, builtinLookup_eq_fast]; kernel_rfl, by kernel_rfl, by rw [typeLookup_type, builtinLookup_eq_fast]; kernel_rfl, by kernel_rfl, by kernel_rfl, by kernel_rfl⟩
theorem st_le : StF "__le__" "object.__le__" "str.__le__" := ⟨by rw [typeLookup_type, builtinLookup_eq_fast]; kernel_rfl, by kernel_rfl, by rw [typeLookup_type, builtinLookup_eq_fast]; kernel_rfl, by kernel_rfl, by kernel_rfl, by kernel_rfl⟩
theorem st_ge : StF "__ge__" "object.__ge__" "str.__ge__" := ⟨by rw [typeLookup_type, builtinLookup_eq_fast]; kernel_rfl, by kernel_rfl, by rw [typeLookup_type, builtinLookup_eq_fast]; kernel_rfl, by kernel_rfl, by kernel_rfl, by kernel_rfl⟩
theorem bty {f : String} {h : Heap} {M : Model} (e : typeOf (.builtin f) = pure (.type "wrapper_descriptor")) : Looks M h (typeOf (.builtin f)) (.type "wrapper_descriptor") := Looks.of_pure e
section
variable {prog : Program} {w : World} {A : Around} {E : Value → Shared → Prop} {h : Heap} {gs : Array GenState} {d : Drawn} {os : OsState} {tk : Nat}
theorem tga_str {name : Str} {g f : String} {t : Tok} {Q : Fin → Shared → Prop} (N : StF name g f) (ho : Looks (model prog w) h (opaqueClassAbove (.type "str")) none)
    (hq : Q (.done (.ret (.builtin f))) ⟨h, gs, d, tk, os⟩) : wpAny (model prog w) A (Builtin.«type.__getattribute__» ⟨[.type "str", .str name t], []⟩) Q E ⟨h, gs, d, tk, os⟩ := by
  have ht : Looks (model prog w) h (typeOf (.type "str")) _ := Looks.of_pure tn_str
  have h1 : Looks (model prog w) h (typeLookup (.type "type") name) _ := Looks.of_pure N.mt
  have h2 := looks_spW (M := model prog w) (h := h) N.ty wd_get
  have h3 := looks_spW (M := model prog w) (h := h) N.ty wd_set
  have h4 := looks_spW (M := model prog w) (h := h) N.ty wd_del
  have h5 : Looks (model prog w) h (typeLookup (.type "str") name) _ := Looks.of_pure N.own
  have h6 := bty (M := model prog w) (h := h) N.fty
  unfold Builtin.«type.__getattribute__»
  refine wpAny_bind (wpAny_pure (wpAny_bind (ho.at (wpAny_bind (ht.at (wpAny_bind (h1.at (wpAny_bind (h2.at ?_)))))))))
  refine wpAny_bind (h3.at (wpAny_bind (h4.at (wpAny_bind (wpAny_pure ?_)))))
  refine wpAny_bind (h5.at ?_)
  show wpAny _ _ (if heldUnderItsOwnName name (.builtin f) = true then _ else _) _ _ _
  rw [N.held, if_neg (by simp)]
  refine wpAny_bind (h6.at ?_)
  exact wpAny_pure hq
theorem getMethod_str {name : Str} {g f : String} {pl : Sem Bool} {Q : Value × List Value → Shared → Prop} (N : StF name g f) (ho : Looks (model prog w) h (opaqueClassAbove (.type "str")) none)
    (hq : Q (.builtin f, []) ⟨h, gs, d, tk + 1, os⟩) : wpAny (model prog w) A (getMethod (.type "str") name pl) Q E ⟨h, gs, d, tk, os⟩ := by
  have ht : Looks (model prog w) h (typeOf (.type "str")) _ := Looks.of_pure tn_str
  have hg : Looks (model prog w) h (typeLookup (.type "type") "__getattribute__") _ := Looks.of_pure tn_ga
  have hs : Looks (model prog w) h (specialOf (.type "str") "__getattribute__") (some (.builtin "type.__getattribute__")) := by
    intro A Q E s kk q
    unfold specialOf
    exact wpAny_bind (ht A _ _ _ kk (hg A _ _ _ kk q))
  unfold getMethod
  refine wpAny_bind (hs _ _ _ _ (fun _ _ e => e) ?_)
  dsimp only
  rw [if_pos canon_tga]
  refine wpAny_bind ?_
  refine wpAny_bind (wpAny_mkText (wpAny_holding (wpAny_bind (ht _ _ _ _ (fun _ _ e => e) (wpAny_bind (hg _ _ _ _ (fun _ _ e => e) ?_))))))
  dsimp only
  rw [if_neg (by decide +kernel)]
  refine wpAny_bind (wpAny_pure (wpAny_bind (wpAny_attempt (wpAny_holding ?_))))
  unfold callGetattribute
  rw [show (false && onTheHeap (Value.builtin "type.__getattribute__")) = false from rfl, if_neg (by decide)]
  unfold boundAndCalled
  rw [KF.slot_tga.bind]
  refine wpAny_bind (wpAny_pure ?_)
  show wpAny _ _ (call (.builtin "type.__getattribute__") [.type "str", .str name tk]) _ _ _
  refine wpAny_call_entry KF.slot_tga ?_ KF.entry_tga (tga_str N ho ⟨_, rfl, ?_⟩) (KF.args_tga _ _)
  · exact tn_str
  show wpAny _ _ (handedOut (.builtin f)) _ _ _
  rw [N.hand]
  exact wpAny_pure (wpAny_pure hq)
theorem opq_str {M : Model} {h : Heap} : Looks M h (opaqueClassAbove (.type "str")) none := Looks.of_pure (by kernel_rfl)
theorem str_ni {f : String} {x : Str} {t u : Tok} {i : Int} {Q : Value → Shared → Prop} (hf : f = "str.__lt__" ∨ f = "str.__gt__" ∨ f = "str.__le__" ∨ f = "str.__ge__") (hq : ∀ h', Kp h h' → Q .notImplemented ⟨h', gs, d, tk, os⟩) :
    wpAny (model prog w) A (call (.builtin f) [.str x t, .int i u]) Q E ⟨h, gs, d, tk, os⟩ := by
  refine wpAny_call ?_
  rcases hf with rfl | rfl | rfl | rfl
  all_goals
    refine start_end 40 [] 0 tk (fun _ => ()) (fun _ => []) .notImplemented (Here.begin (st := []) (by simp) (by simp)) (by kernel_rfl) (by kernel_rfl) (by kernel_rfl) (by kernel_rfl) (by kernel_rfl) (by kernel_rfl) ?_
    intro _ h1 H1
    exact hq h1 (fun b o e => H1.keep b o (by simp) e)
end
end

section
set_option maxRecDepth 100000
set_option maxHeartbeats 4000000
open PySem PySem.W PyProof.Rows PySem.Calls
theorem fillKO3 : PySem.Challenge.rw_nb0121_01 = PySem.Challenge.rw_nb0121_01 ∧ hd.heap_39 = hd.heap_39 := by (k_fill; exact ⟨rfl, rfl⟩)
theorem kwKO3 : True := by
  k_with_none
  k_with "call ref" => ((with_reducible show wpAny _ _ (call (Value.ref _) _) _ _ _); refine halt ?_)
  k_with "call builtin:str.join" => ((with_reducible show wpAny _ _ (call (Value.builtin "str.join") _) _ _ _); refine halt ?_)
  k_with "eval Name" => ((with_reducible show wpAny _ _ (eval (Expr.Name _ _) (compEnv _ _ _)) _ _ _); (with_reducible rename Fr _ _ _ _ => kF); refine nameB_G kF (by assumption) (by assumption) (by k_is) (by boot_by_name) (by decide) ?_ rfl rfl rfl rfl (by decide))
  k_with "eval Name" => ((with_reducible show wpAny _ _ (eval (Expr.Name (Str.ofString "NotImplemented") _) _) _ _ _); (with_reducible rename Fr _ _ _ _ => kF); with_reducible refine nameB_G kF (by assumption) (by assumption) (by k_is) (by boot_by_name) (by decide) ?_ rfl rfl rfl rfl (by decide))
  k_with "call type:type" => ((with_reducible show wpAny _ _ (call (Value.type "type") _) _ _ _); refine halt ?_)
  k_with "compareOp Is bool" => ((with_reducible show wpAny _ _ (compareOp CmpOp.Is _ _) _ _ _); refine halt ?_)
  k_with "compareOp Is" => ((with_reducible show wpAny _ _ (compareOp CmpOp.Is _ _) _ _ _); refine halt ?_)
  k_with "compareOp NotEq ref ref" => ((with_reducible show wpAny _ _ (compareOp CmpOp.NotEq _ _) _ _ _); refine halt ?_)
  k_with "compareOp Eq ref ref" => ((with_reducible show wpAny _ _ (compareOp CmpOp.Eq _ _) _ _ _); refine halt ?_)
  k_with "compareOp Eq ref" => ((with_reducible show wpAny _ _ (compareOp CmpOp.Eq _ _) _ _ _); refine halt ?_)
  k_with "compareOp NotEq ref" => ((with_reducible show wpAny _ _ (compareOp CmpOp.NotEq _ _) _ _ _); refine halt ?_)
  k_with "getMethod type:str" => ((with_reducible show wpAny _ _ (getMethod (Value.type "str") _ _) _ _ _); refine halt ?_)
  k_with "getMethod type" => ((with_reducible show wpAny _ _ (getMethod (Value.type "str") _ _) _ _ _); refine halt ?_)
  k_with "getMethod" => ((with_reducible show wpAny _ _ (getMethod (Value.type "str") _ _) _ _ _); refine halt ?_)
  w_top off
  exact trivial
section
variable {w : World} {p : Program} {loose : List Str} {mean : ExcName → Option Value} {mg mb : Str → Option Value} {A : Around} {h : Heap} {gs : Array GenState} {d : Drawn} {tk : Nat} {os : OsState} {Q E : Value → Shared → Prop}
theorem fs38 {x : Str} {t u : Tok} {i : Int} (B : Bs w p loose mean mg mb h) (hA : A.depth ≤ 870)
    (hQ : ∀ h' tk', Kp h h' → Q .notImplemented ⟨h', gs, d, tk', os⟩) :
    wpAny (model thePr w) A (call (.ref 38) [.str x t, .int i u]) Q E ⟨h, gs, d, tk, os⟩ := by
  refine enterS (Str.ofString "self", .str x t) [(Str.ofString "other", .int i u)] B (by k_is) (by k_is) (by simp only [recursionLimit]; omega) (BindsTo.of_eq rfl) (locs rfl) ?_ rfl rfl rfl (by decide)
  intro L h₁ t₁ ht F N X T
  k_steps
  refine go (call_type_of (typeIs_str _ _ _) (by rfl) ?_)
  with_reducible refine getMethod_str st_lt opq_str ?_
  k_steps
  refine str_ni (by simp) ?_
  intro h2 kk2
  have F2 := F.kept kk2
  have N2 := N.grown kk2
  clear F N
  k_steps
  (with_reducible rename Fr _ _ _ _ => F3)
  exact hQ _ _ F3.keep
theorem fs45 {x : Str} {t u : Tok} {i : Int} (B : Bs w p loose mean mg mb h) (hA : A.depth ≤ 870)
    (hQ : ∀ h' tk', Kp h h' → Q .notImplemented ⟨h', gs, d, tk', os⟩) :
    wpAny (model thePr w) A (call (.ref 45) [.str x t, .int i u]) Q E ⟨h, gs, d, tk, os⟩ := by
  refine enterS (Str.ofString "self", .str x t) [(Str.ofString "other", .int i u)] B (by k_is) (by k_is) (by simp only [recursionLimit]; omega) (BindsTo.of_eq rfl) (locs rfl) ?_ rfl rfl rfl (by decide)
  intro L h₁ t₁ ht F N X T
  k_steps
  refine go (call_type_of (typeIs_str _ _ _) (by rfl) ?_)
  with_reducible refine getMethod_str st_lt opq_str ?_
  k_steps
  refine str_ni (by simp) ?_
  intro h2 kk2
  have F2 := F.kept kk2
  have N2 := N.grown kk2
  clear F N
  k_steps
  (with_reducible rename Fr _ _ _ _ => F3)
  exact hQ _ _ F3.keep
theorem fs52 {x : Str} {t u : Tok} {i : Int} (B : Bs w p loose mean mg mb h) (hA : A.depth ≤ 870)
    (hQ : ∀ h' tk', Kp h h' → Q .notImplemented ⟨h', gs, d, tk', os⟩) :
    wpAny (model thePr w) A (call (.ref 52) [.str x t, .int i u]) Q E ⟨h, gs, d, tk, os⟩ := by
  refine enterS (Str.ofString "self", .str x t) [(Str.ofString "other", .int i u)] B (by k_is) (by k_is) (by simp only [recursionLimit]; omega) (BindsTo.of_eq rfl) (locs rfl) ?_ rfl rfl rfl (by decide)
  intro L h₁ t₁ ht F N X T
  k_steps
  refine go (call_type_of (typeIs_str _ _ _) (by rfl) ?_)
  with_reducible refine getMethod_str st_lt opq_str ?_
  k_steps
  refine str_ni (by simp) ?_
  intro h2 kk2
  have F2 := F.kept kk2
  have N2 := N.grown kk2
  clear F N
  k_steps
  (with_reducible rename Fr _ _ _ _ => F3)
  exact hQ _ _ F3.keep
theorem fs59 {x : Str} {t u : Tok} {i : Int} (B : Bs w p loose mean mg mb h) (hA : A.depth ≤ 870)
    (hQ : ∀ h' tk', Kp h h' → Q .notImplemented ⟨h', gs, d, tk', os⟩) :
    wpAny (model thePr w) A (call (.ref 59) [.str x t, .int i u]) Q E ⟨h, gs, d, tk, os⟩ := by
  refine enterS (Str.ofString "self", .str x t) [(Str.ofString "other", .int i u)] B (by k_is) (by k_is) (by simp only [recursionLimit]; omega) (BindsTo.of_eq rfl) (locs rfl) ?_ rfl rfl rfl (by decide)
  intro L h₁ t₁ ht F N X T
  k_steps
  refine go (call_type_of (typeIs_str _ _ _) (by rfl) ?_)
  with_reducible refine getMethod_str st_le opq_str ?_
  k_steps
  refine str_ni (by simp) ?_
  intro h2 kk2
  have F2 := F.kept kk2
  have N2 := N.grown kk2
  clear F N
  k_steps
  (with_reducible rename Fr _ _ _ _ => F3)
  exact hQ _ _ F3.keep
theorem fs66 {x : Str} {t u : Tok} {i : Int} (B : Bs w p loose mean mg mb h) (hA : A.depth ≤ 870)
    (hQ : ∀ h' tk', Kp h h' → Q .notImplemented ⟨h', gs, d, tk', os⟩) :
    wpAny (model thePr w) A (call (.ref 66) [.str x t, .int i u]) Q E ⟨h, gs, d, tk, os⟩ := by
  refine enterS (Str.ofString "self", .str x t) [(Str.ofString "other", .int i u)] B (by k_is) (by k_is) (by simp only [recursionLimit]; omega) (BindsTo.of_eq rfl) (locs rfl) ?_ rfl rfl rfl (by decide)
  intro L h₁ t₁ ht F N X T
  k_steps
  refine go (call_type_of (typeIs_str _ _ _) (by rfl) ?_)
  with_reducible refine getMethod_str st_le opq_str ?_
  k_steps
  refine str_ni (by simp) ?_
  intro h2 kk2
  have F2 := F.kept kk2
  have N2 := N.grown kk2
  clear F N
  k_steps
  (with_reducible rename Fr _ _ _ _ => F3)
  exact hQ _ _ F3.keep
theorem fs73 {x : Str} {t u : Tok} {i : Int} (B : Bs w p loose mean mg mb h) (hA : A.depth ≤ 870)
    (hQ : ∀ h' tk', Kp h h' → Q .notImplemented ⟨h', gs, d, tk', os⟩) :
    wpAny (model thePr w) A (call (.ref 73) [.str x t, .int i u]) Q E ⟨h, gs, d, tk, os⟩ := by
  refine enterS (Str.ofString "self", .str x t) [(Str.ofString "other", .int i u)] B (by k_is) (by k_is) (by simp only [recursionLimit]; omega) (BindsTo.of_eq rfl) (locs rfl) ?_ rfl rfl rfl (by decide)
  intro L h₁ t₁ ht F N X T
  k_steps
  refine go (call_type_of (typeIs_str _ _ _) (by rfl) ?_)
  with_reducible refine getMethod_str st_le opq_str ?_
  k_steps
  refine str_ni (by simp) ?_
  intro h2 kk2
  have F2 := F.kept kk2
  have N2 := N.grown kk2
  clear F N
  k_steps
  (with_reducible rename Fr _ _ _ _ => F3)
  exact hQ _ _ F3.keep
theorem fs80 {x : Str} {t u : Tok} {i : Int} (B : Bs w p loose mean mg mb h) (hA : A.depth ≤ 870)
    (hQ : ∀ h' tk', Kp h h' → Q .notImplemented ⟨h', gs, d, tk', os⟩) :
    wpAny (model thePr w) A (call (.ref 80) [.str x t, .int i u]) Q E ⟨h, gs, d, tk, os⟩ := by
  refine enterS (Str.ofString "self", .str x t) [(Str.ofString "other", .int i u)] B (by k_is) (by k_is) (by simp only [recursionLimit]; omega) (BindsTo.of_eq rfl) (locs rfl) ?_ rfl rfl rfl (by decide)
  intro L h₁ t₁ ht F N X T
  k_steps
  refine go (call_type_of (typeIs_str _ _ _) (by rfl) ?_)
  with_reducible refine getMethod_str st_gt opq_str ?_
  k_steps
  refine str_ni (by simp) ?_
  intro h2 kk2
  have F2 := F.kept kk2
  have N2 := N.grown kk2
  clear F N
  k_steps
  (with_reducible rename Fr _ _ _ _ => F3)
  exact hQ _ _ F3.keep
theorem fs87 {x : Str} {t u : Tok} {i : Int} (B : Bs w p loose mean mg mb h) (hA : A.depth ≤ 870)
    (hQ : ∀ h' tk', Kp h h' → Q .notImplemented ⟨h', gs, d, tk', os⟩) :
    wpAny (model thePr w) A (call (.ref 87) [.str x t, .int i u]) Q E ⟨h, gs, d, tk, os⟩ := by
  refine enterS (Str.ofString "self", .str x t) [(Str.ofString "other", .int i u)] B (by k_is) (by k_is) (by simp only [recursionLimit]; omega) (BindsTo.of_eq rfl) (locs rfl) ?_ rfl rfl rfl (by decide)
  intro L h₁ t₁ ht F N X T
  k_steps
  refine go (call_type_of (typeIs_str _ _ _) (by rfl) ?_)
  with_reducible refine getMethod_str st_gt opq_str ?_
  k_steps
  refine str_ni (by simp) ?_
  intro h2 kk2
  have F2 := F.kept kk2
  have N2 := N.grown kk2
  clear F N
  k_steps
  (with_reducible rename Fr _ _ _ _ => F3)
  exact hQ _ _ F3.keep
theorem fs94 {x : Str} {t u : Tok} {i : Int} (B : Bs w p loose mean mg mb h) (hA : A.depth ≤ 870)
    (hQ : ∀ h' tk', Kp h h' → Q .notImplemented ⟨h', gs, d, tk', os⟩) :
    wpAny (model thePr w) A (call (.ref 94) [.str x t, .int i u]) Q E ⟨h, gs, d, tk, os⟩ := by
  refine enterS (Str.ofString "self", .str x t) [(Str.ofString "other", .int i u)] B (by k_is) (by k_is) (by simp only [recursionLimit]; omega) (BindsTo.of_eq rfl) (locs rfl) ?_ rfl rfl rfl (by decide)
  intro L h₁ t₁ ht F N X T
  k_steps
  refine go (call_type_of (typeIs_str _ _ _) (by rfl) ?_)
  with_reducible refine getMethod_str st_gt opq_str ?_
  k_steps
  refine str_ni (by simp) ?_
  intro h2 kk2
  have F2 := F.kept kk2
  have N2 := N.grown kk2
  clear F N
  k_steps
  (with_reducible rename Fr _ _ _ _ => F3)
  exact hQ _ _ F3.keep
theorem fs101 {x : Str} {t u : Tok} {i : Int} (B : Bs w p loose mean mg mb h) (hA : A.depth ≤ 870)
    (hQ : ∀ h' tk', Kp h h' → Q .notImplemented ⟨h', gs, d, tk', os⟩) :
    wpAny (model thePr w) A (call (.ref 101) [.str x t, .int i u]) Q E ⟨h, gs, d, tk, os⟩ := by
  refine enterS (Str.ofString "self", .str x t) [(Str.ofString "other", .int i u)] B (by k_is) (by k_is) (by simp only [recursionLimit]; omega) (BindsTo.of_eq rfl) (locs rfl) ?_ rfl rfl rfl (by decide)
  intro L h₁ t₁ ht F N X T
  k_steps
  refine go (call_type_of (typeIs_str _ _ _) (by rfl) ?_)
  with_reducible refine getMethod_str st_ge opq_str ?_
  k_steps
  refine str_ni (by simp) ?_
  intro h2 kk2
  have F2 := F.kept kk2
  have N2 := N.grown kk2
  clear F N
  k_steps
  (with_reducible rename Fr _ _ _ _ => F3)
  exact hQ _ _ F3.keep
theorem fs108 {x : Str} {t u : Tok} {i : Int} (B : Bs w p loose mean mg mb h) (hA : A.depth ≤ 870)
    (hQ : ∀ h' tk', Kp h h' → Q .notImplemented ⟨h', gs, d, tk', os⟩) :
    wpAny (model thePr w) A (call (.ref 108) [.str x t, .int i u]) Q E ⟨h, gs, d, tk, os⟩ := by
  refine enterS (Str.ofString "self", .str x t) [(Str.ofString "other", .int i u)] B (by k_is) (by k_is) (by simp only [recursionLimit]; omega) (BindsTo.of_eq rfl) (locs rfl) ?_ rfl rfl rfl (by decide)
  intro L h₁ t₁ ht F N X T
  k_steps
  refine go (call_type_of (typeIs_str _ _ _) (by rfl) ?_)
  with_reducible refine getMethod_str st_ge opq_str ?_
  k_steps
  refine str_ni (by simp) ?_
  intro h2 kk2
  have F2 := F.kept kk2
  have N2 := N.grown kk2
  clear F N
  k_steps
  (with_reducible rename Fr _ _ _ _ => F3)
  exact hQ _ _ F3.keep
theorem fs115 {x : Str} {t u : Tok} {i : Int} (B : Bs w p loose mean mg mb h) (hA : A.depth ≤ 870)
    (hQ : ∀ h' tk', Kp h h' → Q .notImplemented ⟨h', gs, d, tk', os⟩) :
    wpAny (model thePr w) A (call (.ref 115) [.str x t, .int i u]) Q E ⟨h, gs, d, tk, os⟩ := by
  refine enterS (Str.ofString "self", .str x t) [(Str.ofString "other", .int i u)] B (by k_is) (by k_is) (by simp only [recursionLimit]; omega) (BindsTo.of_eq rfl) (locs rfl) ?_ rfl rfl rfl (by decide)
  intro L h₁ t₁ ht F N X T
  k_steps
  refine go (call_type_of (typeIs_str _ _ _) (by rfl) ?_)
  with_reducible refine getMethod_str st_ge opq_str ?_
  k_steps
  refine str_ni (by simp) ?_
  intro h2 kk2
  have F2 := F.kept kk2
  have N2 := N.grown kk2
  clear F N
  k_steps
  (with_reducible rename Fr _ _ _ _ => F3)
  exact hQ _ _ F3.keep
end
end

section
set_option maxRecDepth 100000
set_option maxHeartbeats 4000000
open PySem PySem.W PyProof.Rows PySem.Calls
theorem fillKR2 : PySem.Challenge.rw_nb0121_01 = PySem.Challenge.rw_nb0121_01 ∧ hd.heap_39 = hd.heap_39 := by (k_fill; exact ⟨rfl, rfl⟩)
theorem kwKR2 : True := by
  k_with_none
  k_with "call ref" => ((with_reducible show wpAny _ _ (call (Value.ref _) _) _ _ _); refine halt ?_)
  k_with "call builtin:str.join" => ((with_reducible show wpAny _ _ (call (Value.builtin "str.join") _) _ _ _); refine halt ?_)
  k_with "eval Name" => ((with_reducible show wpAny _ _ (eval (Expr.Name _ _) (compEnv _ _ _)) _ _ _); (with_reducible rename Fr _ _ _ _ => kF); refine nameB_G kF (by assumption) (by assumption) (by k_is) (by boot_by_name) (by decide) ?_ rfl rfl rfl rfl (by decide))
  w_top off
  exact trivial
section
variable {w : World} {p : Program} {loose : List Str} {mean : ExcName → Option Value} {mg mb : Str → Option Value} {A : Around} {h : Heap} {gs : Array GenState} {d : Drawn} {tk : Nat} {os : OsState} {Q E : Value → Shared → Prop}
theorem pc_toldS {x : Str} {t u : Tok} {i : Int} (B : Bs w p loose mean mg mb h) (hA : A.depth ≤ 860)
    (hQ : ∀ D n h' tk', Kp h h' → h.get? D = none → h'.get? D = some (listOf #[.notImplemented, .notImplemented, .notImplemented, .notImplemented, .notImplemented, .notImplemented, .notImplemented, .notImplemented, .notImplemented, .notImplemented, .notImplemented, .notImplemented, .bool false, .bool true] n) → Q (.ref D) ⟨h', gs, d, tk', os⟩) :
    wpAny (model thePr w) A (call (.ref 213) [.str x t, .int i u]) Q E ⟨h, gs, d, tk, os⟩ := by
  refine enterS (Str.ofString "left", .str x t) [(Str.ofString "right", .int i u)] B (by k_is) (by k_is) (by simp only [recursionLimit]; omega) (BindsTo.of_eq rfl) (locs rfl) ?_ rfl rfl rfl (by decide)
  intro L h₁ t₁ ht F N X T
  k_steps
  refine go (fs66 (B.keeps F.keep) (by rw [depth_deeper]; omega) ?_)
  intro h2 tk2 kk2
  have F2 := F.kept kk2
  have N2 := N.grown kk2
  clear F N
  k_steps
  refine go (fs80 (B.keeps F2.keep) (by rw [depth_deeper]; omega) ?_)
  intro h3 tk3 kk3
  have F3 := F2.kept kk3
  have N3 := N2.grown kk3
  clear F2 N2
  k_steps
  refine go (fs115 (B.keeps F3.keep) (by rw [depth_deeper]; omega) ?_)
  intro h4 tk4 kk4
  have F4 := F3.kept kk4
  have N4 := N3.grown kk4
  clear F3 N3
  k_steps
  refine go (fs45 (B.keeps F4.keep) (by rw [depth_deeper]; omega) ?_)
  intro h5 tk5 kk5
  have F5 := F4.kept kk5
  have N5 := N4.grown kk5
  clear F4 N4
  k_steps
  refine go (fs94 (B.keeps F5.keep) (by rw [depth_deeper]; omega) ?_)
  intro h6 tk6 kk6
  have F6 := F5.kept kk6
  have N6 := N5.grown kk6
  clear F5 N5
  k_steps
  refine go (fs101 (B.keeps F6.keep) (by rw [depth_deeper]; omega) ?_)
  intro h7 tk7 kk7
  have F7 := F6.kept kk7
  have N7 := N6.grown kk7
  clear F6 N6
  k_steps
  refine go (fs38 (B.keeps F7.keep) (by rw [depth_deeper]; omega) ?_)
  intro h8 tk8 kk8
  have F8 := F7.kept kk8
  have N8 := N7.grown kk8
  clear F7 N7
  k_steps
  refine go (fs73 (B.keeps F8.keep) (by rw [depth_deeper]; omega) ?_)
  intro h9 tk9 kk9
  have F9 := F8.kept kk9
  have N9 := N8.grown kk9
  clear F8 N8
  k_steps
  refine go (fs108 (B.keeps F9.keep) (by rw [depth_deeper]; omega) ?_)
  intro h10 tk10 kk10
  have F10 := F9.kept kk10
  have N10 := N9.grown kk10
  clear F9 N9
  k_steps
  refine go (fs52 (B.keeps F10.keep) (by rw [depth_deeper]; omega) ?_)
  intro h11 tk11 kk11
  have F11 := F10.kept kk11
  have N11 := N10.grown kk11
  clear F10 N10
  k_steps
  refine go (fs59 (B.keeps F11.keep) (by rw [depth_deeper]; omega) ?_)
  intro h12 tk12 kk12
  have F12 := F11.kept kk12
  have N12 := N11.grown kk12
  clear F11 N11
  k_steps
  refine go (fs87 (B.keeps F12.keep) (by rw [depth_deeper]; omega) ?_)
  intro h13 tk13 kk13
  have F13 := F12.kept kk13
  have N13 := N12.grown kk13
  clear F12 N12
  k_steps
  (with_reducible rename Fr _ _ _ _ => Fz)
  (with_reducible rename News _ _ _ _ => Nz)
  exact hQ _ 0 _ _ Fz.keep (News.fresh Nz (.head _)) (News.get Nz (.head _))

end
end

section
set_option maxRecDepth 100000
set_option maxHeartbeats 4000000
open PySem PySem.W PyProof.Rows PySem.Calls
theorem fillKR3 : PySem.Challenge.rw_nb0121_01 = PySem.Challenge.rw_nb0121_01 ∧ hd.heap_39 = hd.heap_39 := by (k_fill; exact ⟨rfl, rfl⟩)
theorem kwKR3 : True := by
  k_with_none
  k_with "call ref" => ((with_reducible show wpAny _ _ (call (Value.ref _) _) _ _ _); refine halt ?_)
  k_with "call builtin:str.join" => ((with_reducible show wpAny _ _ (call (Value.builtin "str.join") _) _ _ _); refine halt ?_)
  k_with "eval Name" => ((with_reducible show wpAny _ _ (eval (Expr.Name _ _) (compEnv _ _ _)) _ _ _); (with_reducible rename Fr _ _ _ _ => kF); refine nameB_G kF (by assumption) (by assumption) (by k_is) (by boot_by_name) (by decide) ?_ rfl rfl rfl rfl (by decide))
  w_top off
  exact trivial
section
variable {w : World} {p : Program} {loose : List Str} {mean : ExcName → Option Value} {mg mb : Str → Option Value} {A : Around} {h : Heap} {gs : Array GenState} {d : Drawn} {tk : Nat} {os : OsState} {Q E : Value → Shared → Prop}
theorem pc_astexts {x y : Str} {t u : Tok} (B : Bs w p loose mean mg mb h) (hA : A.depth ≤ 860)
    (hQ : ∀ D n h' tk', Kp h h' → h.get? D = none → h'.get? D = some (listOf ((told x y).map Value.bool).toArray n) → Q (.ref D) ⟨h', gs, d, tk', os⟩) :
    wpAny (model thePr w) A (call (.ref 220) [.str x t, .str y u]) Q E ⟨h, gs, d, tk, os⟩ := by
  refine enterS (Str.ofString "one", .str x t) [(Str.ofString "other", .str y u)] B (by k_is) (by k_is) (by simp only [recursionLimit]; omega) (BindsTo.of_eq rfl) (locs rfl) ?_ rfl rfl rfl (by decide)
  intro L h₁ t₁ ht F N X T
  k_steps
  (with_reducible rename Fr _ _ _ _ => Fz)
  (with_reducible rename News _ _ _ _ => Nz)
  have z := News.get Nz (.head _)
  refine hQ _ 0 _ _ Fz.keep (News.fresh Nz (.head _)) ?_
  rw [z, show (x != y) = !(x == y) from rfl, beq_str]
  rfl
end
end

section
set_option maxRecDepth 100000
set_option maxHeartbeats 4000000
open PySem PySem.W PyProof.Rows PySem.Calls
theorem fillKT1 : PySem.Challenge.rw_nb0121_01 = PySem.Challenge.rw_nb0121_01 ∧ hd.heap_39 = hd.heap_39 := by (k_fill; exact ⟨rfl, rfl⟩)
theorem kwKT1 : True := by
  k_with_none
  k_with "call ref" => ((with_reducible show wpAny _ _ (call (Value.ref _) _) _ _ _); refine halt ?_)
  k_with "call builtin:str.join" => ((with_reducible show wpAny _ _ (call (Value.builtin "str.join") _) _ _ _); refine halt ?_)
  k_with "eval Name" => ((with_reducible show wpAny _ _ (eval (Expr.Name _ _) (compEnv _ _ _)) _ _ _); (with_reducible rename Fr _ _ _ _ => kF); refine nameB_G kF (by assumption) (by assumption) (by k_is) (by boot_by_name) (by decide) ?_ rfl rfl rfl rfl (by decide))
  k_with "exec Assign cons ListComp" => ((with_reducible show wpAny _ _ (exec (Stmt.Assign _ (Expr.ListComp _ _ _ _) _) _) _ _ _); refine halt ?_)
  k_with "exec Assign" => ((with_reducible show wpAny _ _ (exec (Stmt.Assign _ (Expr.ListComp _ _ _ _) _) _) _ _ _); refine halt ?_)
  k_with "call type:enumerate" => ((with_reducible show wpAny _ _ (call (Value.type "enumerate") _) _ _ _); refine halt ?_)
  k_with "subscriptTail Name Slice ref ref" => ((with_reducible show wpAny _ _ (subscriptTail (Expr.Name _ _) (Expr.Slice _ _ _ _) (Value.ref _) _) _ _ _); refine halt ?_)
  k_with "eval ListComp" => ((with_reducible show wpAny _ _ (eval (Expr.ListComp _ _ _ _) _) _ _ _); refine halt ?_)
  k_with "call builtin:list.append" => ((with_reducible show wpAny _ _ (call (Value.builtin "list.append") _) _ _ _); refine halt ?_)
  k_with "subscriptTail" => ((with_reducible show wpAny _ _ (subscriptTail _ _ (Value.ref _) (Value.int _ _)) _ _ _); refine halt ?_)
  k_with "binaryOp Add str str" => ((with_reducible show wpAny _ _ (binaryOp Operator.Add (Value.str _ _) (Value.str _ _)) _ _ _); refine halt ?_)
  k_with "inplaceOp Add str str" => ((with_reducible show wpAny _ _ (inplaceOp Operator.Add (Value.str _ _) (Value.str _ _)) _ _ _); refine halt ?_)
  k_with "subscriptTail Name Constant ref int" => ((with_reducible show wpAny _ _ (subscriptTail _ _ (Value.ref _) (Value.int _ _)) _ _ _); refine halt ?_)
  k_with "subscriptTail Name Name ref int" => ((with_reducible show wpAny _ _ (subscriptTail _ _ (Value.ref _) (Value.int _ _)) _ _ _); refine halt ?_)
  k_with "binaryOp Pow int int" => ((with_reducible show wpAny _ _ (binaryOp Operator.Pow (Value.int _ _) (Value.int (_ - _) _)) _ _ _); refine halt ?_)
  k_with "exec For Name Call cons nil" => ((with_reducible show wpAny _ _ (exec (Stmt.For _ _ _ _ _) _) _ _ _); refine halt ?_)
  k_with "exec For" => ((with_reducible show wpAny _ _ (exec (Stmt.For _ _ _ _ _) _) _ _ _); refine halt ?_)
  w_top off
  exact trivial
section
variable {w : World} {p : Program} {loose : List Str} {mean : ExcName → Option Value} {mg mb : Str → Option Value} {A : Around} {h : Heap} {gs : Array GenState} {d : Drawn} {tk : Nat} {os : OsState} {Q E : Value → Shared → Prop}
theorem fr_stab {h h1 h2 : Heap} {L I : Addr} {m : Str → Option Value} (F : Fr h L h1 m) (hI : h.get? I = none) (hIL : I ≠ L) (hk : ∀ b o, b ≠ I → h1.get? b = some o → h2.get? b = some o) : Fr h L h2 m :=
  ⟨F.ns.at' fun o e => hk _ _ hIL.symm e, fun b o e => hk _ _ (fun q => by rw [q, hI] at e; cases e) (F.keep _ _ e), F.above⟩
theorem news_stab {h h1 h2 : Heap} {L I : Addr} {news : List (Addr × Obj)} (N : News h L h1 news) (hn : ∀ q ∈ news.map (·.1), q ≠ I) (hk : ∀ b o, b ≠ I → h1.get? b = some o → h2.get? b = some o) : News h L h2 news :=
  fun q hq => ⟨hk _ _ (hn _ (List.mem_map_of_mem hq)) (N q hq).1, (N q hq).2⟩
theorem fr_set {h h1 h2 : Heap} {L c : Addr} {m : Str → Option Value} (F : Fr h L h1 m) (hs : Heap.SameBut c h1 h2) (hL : c ≠ L) (h0 : h.get? c = none) : Fr h L h2 m :=
  ⟨F.ns.sameBut hs (Ne.symm hL), fun b o e => (hs.2 b (fun q => by rw [q, h0] at e; cases e)).trans (F.keep b o e), F.above⟩
theorem intsAt {vs : List Value} {ns : List Int} (h : IntsAre vs ns) : ∀ {i : Nat} {v : Value}, vs[i]? = some v → ∃ n t, v = .int n t ∧ ns[i]? = some n := by
  induction h with
  | nil => intro i v e; simp at e
  | cons x t h ih =>
    intro i v e
    cases i with
    | zero => simp at e; exact ⟨x, t, e.symm, rfl⟩
    | succ i => exact ih (by simpa using e)
theorem fm8 (z : Int) : 0 ≤ z.fmod 8 ∧ z.fmod 8 < 8 := by
  rw [Int.fmod_eq_emod_of_nonneg _ (by decide)]
  omega
theorem fm3 (z : Int) : 0 ≤ z.fmod 3 ∧ z.fmod 3 < 3 := by
  rw [Int.fmod_eq_emod_of_nonneg _ (by decide)]
  omega
theorem fm256 (z : Int) : (z.fmod 256).toNat < 256 := by
  rw [Int.fmod_eq_emod_of_nonneg _ (by decide)]
  omega
theorem apart_of {h h' : Heap} {L : Addr} {news : List (Addr × Obj)} (N : News h L h' news) {p q : Addr × Obj} (hp : p ∈ news) (hq : q ∈ news) (hd : p.2.data ≠ q.2.data) : p.1 ≠ q.1 := by
  intro e
  have z := (N p hp).1
  rw [e, (N q hq).1] at z
  exact hd (congrArg Obj.data (Option.some.inj z)).symm
theorem apart_cell {h h' : Heap} {L a c n : Nat} {news : List (Addr × Obj)} {vs : Array Value} {oc : Obj} {v : Option Value} (N : News h L h' news) (hp : (a, listOf vs n) ∈ news) (hq : (c, oc) ∈ news) (hd : oc.data = .cell v) : a ≠ c :=
  apart_of N hp hq (by show (listOf vs n).data ≠ oc.data; rw [hd]; intro q; cases q)
theorem fr_eq {h h' : Heap} {L : Addr} {m m' : Str → Option Value} (F : Fr h L h' m) (e : ∀ y, m y = m' y) : Fr h L h' m' := by
  have : m = m' := funext e
  rw [← this]
  exact F
theorem small9 : ∀ n : Nat, n < 10 → Builtin.Range.small 1 n 1 = true := by decide +kernel
theorem rsize9 : ∀ n : Nat, n < 10 → Builtin.Range.rangeSize 1 n 1 = ((n - 1 : Nat) : Int) := by decide +kernel
theorem pc_mails {vs : List Value} {ns : List Int} {a : Addr} (B : Bs w p loose mean mg mb h) (hA : A.depth ≤ 860) (hh : A.handled = none) (hl : h.IsList a vs.toArray) (hi : IntsAre vs ns) (hn : ns.length ≤ 63)
    (hQ : ∀ D xs h' tk', Kp h h' → h.get? D = none → SL h' D xs → xs.length = 5 → (∀ x ∈ xs, OkT 400 x) → Q (.ref D) ⟨h', gs, d, tk', os⟩) :
    wpAny (model thePr w) A (call (.ref 170) [.ref a]) Q E ⟨h, gs, d, tk, os⟩ := by
  refine enterC [(Str.ofString "script", .ref a)] B (by k_is) (by k_is) (by simp only [recursionLimit]; omega) (BindsTo.of_eq rfl) (by intro n x hx; simp only [List.mem_singleton] at hx; subst hx; exact .inr ⟨rfl, rfl⟩) (by decide +kernel) ?_ rfl rfl rfl
  intro L h₁ t₁ cells F N Y X T
  k_cells Y
  rename_i opc odr osc d1 d2 d3
  k_steps
  refine go (assign_enum (by kernel_rfl) rfl (by decide) rfl (by decide) rfl rfl (by decide) (show (A.deeper _).handled = none from hh) rfl rfl ?_ (by intro _; rfl))
  k_steps
  rename_i l0 h2 F2 N2 l1
  refine go (call_enumerate_1 (News.get N2 (.head _)) ?_)
  intro h3 hE hI hz kk3
  simp only at hE hI hz kk3
  show EnSrcA _ _ _ _ _ _ _ _ _ _ _ _ ⟨h3, gs, d, _, os⟩
  have F3 := F2.kept kk3
  have N3 := N2.grown kk3
  have g0 := News.get N3 (.head _)
  have l2 : l0 < h2.objs.size := Heap.lt_size (News.get N2 (.head _))
  have lL : L < h2.objs.size := F2.ns.lt
  refine ⟨h2.objs.size + 1, h2.objs.size, l0, _, fun _ ys _ => ∃ zs : List Int, IntsAre ys zs, _, rfl, Nat.ne_of_gt (Nat.lt_succ_self _), Nat.ne_of_lt (Nat.lt_succ_of_lt l2), Nat.ne_of_lt l2, ?_, ⟨_, hE⟩, hI, ⟨_, g0, rfl, _, rfl⟩, Nat.ne_of_lt (Nat.lt_succ_of_lt lL), Nat.ne_of_lt lL, F3.ns, fun _ => ⟨[], .nil⟩, fun _ _ _ _ q _ => q, ?_, ?_⟩
  · show 5 ≤ 1000; decide
  · rintro C i v1 v2 ys h4 k4 m4 Q' E' hi4 ⟨t4, rfl, hv2⟩ hns hm1 hm2 hk4 hz4 ⟨zs, hzs⟩ hyl hq'
    obtain ⟨z2, t2, rfl⟩ : ∃ z t, v2 = .int z t := by
      have hi5 : i < 5 := hi4
      match i, hi5, hv2 with
      | 0, _, hv2 => exact ⟨_, _, (Option.some.inj hv2).symm⟩
      | 1, _, hv2 => exact ⟨_, _, (Option.some.inj hv2).symm⟩
      | 2, _, hv2 => exact ⟨_, _, (Option.some.inj hv2).symm⟩
      | 3, _, hv2 => exact ⟨_, _, (Option.some.inj hv2).symm⟩
      | 4, _, hv2 => exact ⟨_, _, (Option.some.inj hv2).symm⟩
    have hi5 : i < 5 := hi4
    have keep4 : ∀ b o, b ≠ h2.objs.size + 1 → b ≠ h2.objs.size → h3.get? b = some o → h4.get? b = some o := fun b o q1 q2 e => hk4 b o (by simp [q1, q2]) e
    have F4 : Fr h L h4 _ := ⟨F3.ns.at' fun o e => keep4 _ o (Nat.ne_of_lt (Nat.lt_succ_of_lt lL)) (Nat.ne_of_lt lL) e, fun b o e => by
      have lb := Heap.lt_size (F2.keep b o e)
      exact keep4 b o (Nat.ne_of_lt (Nat.lt_succ_of_lt lb)) (Nat.ne_of_lt lb) (F3.keep b o e), F3.above⟩
    have N4 : News h L h4 _ := fun q hq => by
      have lb := Heap.lt_size (N2 q hq).1
      exact ⟨keep4 _ _ (Nat.ne_of_lt (Nat.lt_succ_of_lt lb)) (Nat.ne_of_lt lb) (N3 q hq).1, (N3 q hq).2⟩
    clear F2 N2 F3 N3
    have hl4 : h4.IsList a vs.toArray := hl.at fun o e => F4.keep _ _ e
    dsimp only at hk4 hz4 hq' ⊢
    k_steps
    refine go (slice_listK hl4 (.int _ _) .none (.int _ _) (by decide) ?_ ?_)
    · rw [List.size_toArray, hi.length]; omega
    intro h5 D5 kk5 hD5 g5
    have F5 := F4.kept kk5
    have N5 := N4.grown kk5
    clear F4 N4
    k_steps
    refine sum_Kp (vs := (slicePick vs.toArray (some (i : Int)) none (some 5)).toList) (show (A.deeper _).handled = none from hh) ⟨_, by simpa using g5, rfl, _, rfl⟩ (hi.pick _ _ _) ?_
    intro h6 k6 t6 kk6
    k_steps
    exact hq' _ _ _ ⟨_, ints_app hzs (.cons _ _ .nil)⟩ fun _ _ e => kk6 _ _ (kk5 _ _ e)
  · intro D h4 tk4 ys hD hpl hJ hsz hns hk4
    obtain ⟨nD, gD⟩ := hpl
    obtain ⟨zs, hzs⟩ := hJ
    have keep4 : ∀ b o, b ≠ L → b ≠ h2.objs.size + 1 → b ≠ h2.objs.size → h3.get? b = some o → h4.get? b = some o := fun b o q0 q1 q2 e => hk4 b o q0 (by simp [q1, q2]) e
    have hLh : h.get? L = none := Heap.get?_none_of_le F2.above
    have F4 : Fr h L h4 _ := ⟨hns, fun b o e => by
      have lb := Heap.lt_size (F2.keep b o e)
      exact keep4 b o (fun q => by rw [q, hLh] at e; cases e) (Nat.ne_of_lt (Nat.lt_succ_of_lt lb)) (Nat.ne_of_lt lb) (F3.keep b o e), F3.above⟩
    have N4 : News h L h4 [(D, listOf ys nD), (L + 1 + 1 + 1, opc), (L + 1 + 1, odr), (L + 1, osc)] := fun q hq => by
      rcases List.mem_cons.mp hq with rfl | hq
      · refine ⟨gD, ?_, ?_⟩
        · rintro rfl
          obtain ⟨oL, _, _, hL, _⟩ := F3.ns
          rw [hD] at hL
          cases hL
        · exact fresh_of F3 hD
      · have lb := Heap.lt_size (N2 q (.tail _ hq)).1
        exact ⟨keep4 _ _ (N2 q (.tail _ hq)).2.1 (Nat.ne_of_lt (Nat.lt_succ_of_lt lb)) (Nat.ne_of_lt lb) (N3 q (.tail _ hq)).1, (N3 q (.tail _ hq)).2⟩
    clear F2 N2 F3 N3 hk4 keep4 hE hI kk3 g0 hns gD
    have hy5 : ys.size = 5 := hsz
    k_steps
    rename_i lm _ lt _ _ _
    refine wpAny_For ?_
    k_steps
    (with_reducible rename Fr _ _ _ _ => F5)
    (with_reducible rename News _ _ _ _ => N5)
    refine go (slice_listK (items := ys) ⟨_, News.get N5 (.tail _ (.head _)), rfl, _, rfl⟩ .none (.int _ _) .none (by simp) (by omega) ?_)
    intro h6 D3 kk6 hD3 g3
    have nlm : D3 ≠ lm := fun e => by
      have z := News.get N5 (.head _)
      rw [← e] at z
      exact absurd (z.symm.trans hD3) (by simp)
    have N6 := news_add F5 N5 kk6 hD3 g3
    have F6 := F5.kept kk6
    clear F5 N5
    have e3 := hzs.pick none (some 3) none
    refine wpAny_pyIter_list (items := slicePick ys none (some 3) none) ⟨_, g3, rfl, _, rfl⟩ ?_
    have hIn : h.get? h6.objs.size = none := by
      cases e : h.get? h6.objs.size with
      | none => rfl
      | some o => exact absurd (Heap.lt_size (F6.keep _ _ e)) (Nat.lt_irrefl _)
    have hIL : h6.objs.size ≠ L := fun q => absurd F6.ns.lt (by rw [← q]; exact Nat.lt_irrefl _)
    have hIs : ∀ q ∈ [D3, lm, D, L + 1 + 1 + 1, L + 1 + 1, L + 1], q ≠ h6.objs.size := by
      intro q hq e
      have hq' : q ∈ (([(D3, listOf (slicePick ys none (some 3) none) 0), (lm, listOf #[] 0), (D, listOf ys nD), (L + 1 + 1 + 1, opc), (L + 1 + 1, odr), (L + 1, osc)] : List (Addr × Obj)).map (·.1)) := hq
      obtain ⟨z, hz, rfl⟩ := List.mem_map.mp hq'
      exact absurd (Heap.lt_size (N6 z hz).1) (by rw [e]; exact Nat.lt_irrefl _)
    have e4 : (slicePick ys none (some 3) none).size = 3 := by
      rw [show (some (3 : Int)) = some ((3 : Nat) : Int) from rfl, slicePick_upto ys 3 (by omega)]
      simp [hy5]
    show codeAny _ _ _ _ ⟨h6.push _, gs, d, _, os⟩
    refine for_walk (fun i h7 => ∃ ms nm op od v1 v2 xs, Fr h L h7 (fun y => if y = Str.ofString "mails" then some (Value.ref lm) else if y = Str.ofString "draws" then some (Value.ref D) else none) ∧ News h L h7 [(D3, listOf (slicePick ys none (some 3) none) 0), (lm, listOf ms nm), (D, listOf ys nD), (L + 1 + 1 + 1, op), (L + 1 + 1, od), (L + 1, osc)] ∧ op.data = .cell v1 ∧ od.data = .cell v2 ∧ StrsAre ms.toList xs ∧ xs.length = i ∧ ∀ x ∈ xs, OkT 8 x)
      (Walks.list (show (A.deeper _).handled = none from hh) h6.objs.size D3 (hIs _ (.head _)) (slicePick ys none (some 3) none)) ?_ ?_ ?_ ?_ ?_
    · exact ⟨⟨_, Heap.get?_push_size _ rfl, rfl, rfl⟩, ⟨_, Heap.get?_push_of_some _ g3, rfl, _, rfl⟩⟩
    · exact ⟨#[], 0, opc, odr, _, _, [], F6.kept (fun b o e => Heap.get?_push_of_some _ e), N6.grown (fun b o e => Heap.get?_push_of_some _ e), d1, d2, .nil, rfl, fun x hx => by cases hx⟩
    · rintro i h7 h8 ⟨ms, nm, op, od, v1, v2, xs, FJ, NJ, r⟩ hk
      exact ⟨ms, nm, op, od, v1, v2, xs, fr_stab FJ hIn hIL hk, news_stab NJ hIs hk, r⟩
    · rintro i v h7 tk7 hi7 hv7 ⟨ms, nm, op, od, v1, v2, xs, FJ, NJ, c1, c2, hms, hxl, hxs⟩ ⟨hit, hil⟩ Q' hnx hret hbrk
      obtain ⟨oI, hoI⟩ : ∃ oI, h7.get? h6.objs.size = some oI := by obtain ⟨o, e, _⟩ := hit; exact ⟨o, e⟩
      obtain ⟨zv, tv, rfl⟩ : ∃ z t, v = .int z t := by
        obtain ⟨z, t, e, _⟩ := intsAt e3 (i := i) (v := v) (by simpa using hv7)
        exact ⟨z, t, e⟩
      have cm := NJ (L + 1 + 1, od) (.tail _ (.tail _ (.tail _ (.tail _ (.head _)))))
      refine wpAny_storeName_cell (c := L + 1 + 1) rfl rfl rfl ⟨od, cm.1, c2⟩ ?_
      rintro h8 ⟨o8, g8, e8⟩ hs8
      have F8 := fr_set FJ hs8 cm.2.1 cm.2.2
      have dn : ∀ q ∈ [(D3, listOf (slicePick ys none (some 3) none) 0), (lm, listOf ms nm), (D, listOf ys nD)], q.1 ≠ L + 1 + 1 := by
        intro q hq e
        have z := (NJ q (by simp only [List.mem_cons, List.not_mem_nil, or_false] at hq ⊢; rcases hq with rfl | rfl | rfl <;> simp)).1
        rw [e, cm.1] at z
        have z2 : od = q.2 := Option.some.inj z
        simp only [List.mem_cons, List.not_mem_nil, or_false] at hq
        rcases hq with rfl | rfl | rfl <;> (rw [z2] at c2; cases c2)
      have N8 : News h L h8 [(h6.objs.size, oI), (D3, listOf (slicePick ys none (some 3) none) 0), (lm, listOf ms nm), (D, listOf ys nD), (L + 1 + 1 + 1, op), (L + 1 + 1, o8), (L + 1, osc)] := by
        have NI : News h L h7 [(h6.objs.size, oI), (D3, listOf (slicePick ys none (some 3) none) 0), (lm, listOf ms nm), (D, listOf ys nD), (L + 1 + 1 + 1, op), (L + 1 + 1, od), (L + 1, osc)] := by
          intro q hq
          rcases List.mem_cons.mp hq with rfl | hq
          · exact ⟨hoI, hIL, hIn⟩
          · exact NJ q hq
        refine news_set (pre := [(h6.objs.size, oI), (D3, listOf (slicePick ys none (some 3) none) 0), (lm, listOf ms nm), (D, listOf ys nD), (L + 1 + 1 + 1, op)]) (post := [(L + 1, osc)]) NI ?_ ?_ hs8 g8
        · intro q hq
          rcases List.mem_cons.mp hq with rfl | hq
          · exact Ne.symm (hIs _ (by simp))
          · rcases List.mem_append.mp (show q ∈ [(D3, listOf (slicePick ys none (some 3) none) 0), (lm, listOf ms nm), (D, listOf ys nD)] ++ [(L + 1 + 1 + 1, op)] from hq) with hq | hq
            · exact dn q hq
            · rw [List.mem_singleton.mp hq]; exact Nat.ne_of_gt (Nat.lt_succ_self _)
        · intro q hq
          rw [List.mem_singleton.mp hq]; exact Nat.ne_of_lt (Nat.lt_succ_self _)
      have gD3 := (NJ _ (.head _)).1
      clear FJ NJ cm
      k_steps
      rename_i lp h9 F9 N9 l9
      have cp := N9 (L + 1 + 1 + 1, op) (.tail _ (.tail _ (.tail _ (.tail _ (.tail _ (.head _))))))
      refine wpAny_storeName_cell (c := L + 1 + 1 + 1) rfl rfl rfl ⟨op, cp.1, c1⟩ ?_
      rintro h10 ⟨o10, g10, e10⟩ hs10
      have F10 := fr_set F9 hs10 cp.2.1 cp.2.2
      have dn2 : ∀ q ∈ [(D3, listOf (slicePick ys none (some 3) none) 0), (lm, listOf ms nm), (D, listOf ys nD)], q.1 ≠ L + 1 + 1 + 1 := by
        intro q hq e
        have z := (N9 q (by simp only [List.mem_cons, List.not_mem_nil, or_false] at hq ⊢; rcases hq with rfl | rfl | rfl <;> simp)).1
        rw [e, cp.1] at z
        have z2 : op = q.2 := Option.some.inj z
        simp only [List.mem_cons, List.not_mem_nil, or_false] at hq
        rcases hq with rfl | rfl | rfl <;> (rw [z2] at c1; cases c1)
      have gp := (N9 _ (.head _)).1
      have ep : h10.get? lp = _ := (hs10.2 lp (fun e => by rw [e, cp.1] at gp; have z2 : op = _ := Option.some.inj gp; rw [z2] at c1; cases c1)).trans gp
      have N10 : News h L h10 [(h6.objs.size, oI), (D3, listOf (slicePick ys none (some 3) none) 0), (lm, listOf ms nm), (D, listOf ys nD), (L + 1 + 1 + 1, o10), (L + 1 + 1, o8), (L + 1, osc)] := by
        refine news_set (pre := [(h6.objs.size, oI), (D3, listOf (slicePick ys none (some 3) none) 0), (lm, listOf ms nm), (D, listOf ys nD)]) (post := [(L + 1 + 1, o8), (L + 1, osc)]) (fun q hq => N9 q (.tail _ hq)) ?_ ?_ hs10 g10
        · intro q hq
          rcases List.mem_cons.mp hq with rfl | hq
          · exact Ne.symm (hIs _ (by simp))
          · exact dn2 q hq
        · intro q hq
          rcases List.mem_cons.mp hq with rfl | hq
          · exact Nat.ne_of_lt (Nat.lt_succ_self _)
          · rw [List.mem_singleton.mp hq]; exact Nat.ne_of_lt (Nat.lt_succ_of_lt (Nat.lt_succ_self _))
      clear F9 N9 cp
      k_steps
      have la : ∀ h', Kp h10 h' → h'.IsList lp _ := fun h' k => ⟨_, k _ _ ep, rfl, _, rfl⟩
      have hpc : ∀ v ∈ (#[Value.str (Str.ofString "") tk7, Value.str (Str.ofString ".") (tk7 + 1),
        Value.str (Str.ofString "a") (tk7 + 1 + 1), Value.str (Str.ofString "\x0d") (tk7 + 1 + 1 + 1),
        Value.str (Str.ofString "\n") (tk7 + 1 + 1 + 1 + 1),
        Value.str (Str.ofString "\x0d\n") (tk7 + 1 + 1 + 1 + 1 + 1),
        Value.str (Str.ofString "\x0b") (tk7 + 1 + 1 + 1 + 1 + 1 + 1),
        Value.str { cps := #[((zv.fdiv 4096).fmod 256).toNat] } (tk7 + 1 + 1 + 1 + 1 + 1 + 1 + 1 + 1 + 1 + 1 + 1)] : Array Value).toList, isT 2 v := by
        intro v hv
        simp only [List.mem_cons, List.not_mem_nil, or_false] at hv
        rcases hv with rfl | rfl | rfl | rfl | rfl | rfl | rfl | rfl
        · exact ⟨_, _, rfl, by unfold OkT; decide +kernel⟩
        · exact ⟨_, _, rfl, by unfold OkT; decide +kernel⟩
        · exact ⟨_, _, rfl, by unfold OkT; decide +kernel⟩
        · exact ⟨_, _, rfl, by unfold OkT; decide +kernel⟩
        · exact ⟨_, _, rfl, by unfold OkT; decide +kernel⟩
        · exact ⟨_, _, rfl, by unfold OkT; decide +kernel⟩
        · exact ⟨_, _, rfl, by unfold OkT; decide +kernel⟩
        · refine ⟨_, _, rfl, by show 1 ≤ 2; decide, fun c hc => ?_⟩
          have : c = ((zv.fdiv 4096).fmod 256).toNat := by simpa using hc
          rw [this]
          exact fm256 _
      refine go (range_free (fun i r => isT 2 r) rfl (by decide) rfl (by decide) rfl (by intro _; rfl) (show (A.deeper _).handled = none from hh) ?_ ?_ ?_)
      · intro Q1 q1
        k_steps
        exact q1 _ _ _ _ _ _ (by assumption) (by assumption)
      · intro C i3 t3 h₃ g₃ d₃ k₃ o₃ m₃ Q1 E1 hi3 hns hm hk hq1
        have F11 := F10.kept hk
        have N11 := N10.grown hk
        have la3 := la h₃ hk
        clear F10 N10 la
        match i3, hi3, hm, hq1 with
        | 0, _, hm, hq1 =>
          replace hm : m₃ (Str.ofString "figure") = some (.int 0 t3) := hm
          k_steps
          refine go (item_of (P := isT 2) la3 (fm8 _).1 (fm8 _).2 (by show 8 ≤ 1000; decide) hpc ?_)
          intro v pv
          exact hq1 _ _ _ pv fun _ _ e => e
        | 1, _, hm, hq1 =>
          replace hm : m₃ (Str.ofString "figure") = some (.int 1 t3) := hm
          k_steps
          refine go (item_of (P := isT 2) la3 (fm8 _).1 (fm8 _).2 (by show 8 ≤ 1000; decide) hpc ?_)
          intro v pv
          exact hq1 _ _ _ pv fun _ _ e => e
        | 2, _, hm, hq1 =>
          replace hm : m₃ (Str.ofString "figure") = some (.int 2 t3) := hm
          k_steps
          refine go (item_of (P := isT 2) la3 (fm8 _).1 (fm8 _).2 (by show 8 ≤ 1000; decide) hpc ?_)
          intro v pv
          exact hq1 _ _ _ pv fun _ _ e => e
        | 3, _, hm, hq1 =>
          replace hm : m₃ (Str.ofString "figure") = some (.int 3 t3) := hm
          k_steps
          refine go (item_of (P := isT 2) la3 (fm8 _).1 (fm8 _).2 (by show 8 ≤ 1000; decide) hpc ?_)
          intro v pv
          exact hq1 _ _ _ pv fun _ _ e => e
      · intro D11 ys11 h11 tk11 hD11 hpl11 hy11 hP11 hk11
        obtain ⟨n11, hpl11⟩ := hpl11
        obtain ⟨xs4, hs4, ok4⟩ := strs_of (n := 2) (vs := ys11.toList) (by
          intro v hv
          obtain ⟨i, e⟩ := List.mem_iff_getElem?.mp hv
          exact hP11 i v (by simpa using e))
        have hx4 : xs4.length = 4 := by rw [← strs_len hs4, Array.length_toList, hy11]
        have F11 := F10.kept hk11
        have N11 := N10.grown hk11
        clear F10 N10 la
        k_steps
        refine go (join_listC (items := ys11) ⟨_, hpl11, rfl, _, rfl⟩ hs4 (by decide) (join_fits (n := 4) (k := 2) (by omega) (fun x hx => (ok4 x hx).1) (by decide)) ?_)
        intro t12 k12
        have okm := join_ok (k := 8) ok4 hx4 (by decide)
        k_steps
        have em := N11 (lm, listOf ms nm) (.tail _ (.tail _ (.head _)))
        have hmz : ms.size = i := by rw [← Array.length_toList, strs_len hms, hxl]
        refine go (append_at (its := ms) (n := nm) em.1 ?_ (by rw [hmz, sizeLine_eq]; omega))
        intro h12 hs12 g12
        have F12 := fr_set F11 hs12 em.2.1 em.2.2
        have N12 : News h L h12 [(h6.objs.size, oI), (D3, listOf (slicePick ys none (some 3) none) 0), (lm, listOf (ms.push (.str (Txt.join (Str.ofString "") xs4) t12)) (nm + 1)), (D, listOf ys nD), (L + 1 + 1 + 1, o10), (L + 1 + 1, o8), (L + 1, osc)] := by
          refine news_set (pre := [(h6.objs.size, oI), (D3, listOf (slicePick ys none (some 3) none) 0)]) (post := [(D, listOf ys nD), (L + 1 + 1 + 1, o10), (L + 1 + 1, o8), (L + 1, osc)]) N11 ?_ ?_ hs12 g12
          · intro q hq
            simp only [List.mem_cons, List.not_mem_nil, or_false] at hq
            rcases hq with rfl | rfl
            · exact Ne.symm (hIs _ (by simp))
            · exact nlm
          · intro q hq
            simp only [List.mem_cons, List.not_mem_nil, or_false] at hq
            rcases hq with rfl | rfl | rfl | rfl
            · exact Nat.ne_of_lt lt.1
            · exact Nat.ne_of_lt lt.2.1
            · exact Nat.ne_of_lt lt.2.2.1
            · exact Nat.ne_of_lt lt.2.2.2
        clear F11 N11 em
        k_steps
        refine hnx _ _ _ (.inl rfl) ⟨_, _, o10, o8, _, _, xs ++ [Txt.join (Str.ofString "") xs4], F12, fun q hq => N12 q (.tail _ hq), e10, e8, ?_, by rw [List.length_append, hxl]; rfl, ?_⟩ ?_
        · rw [Array.toList_push]
          exact strs_snoc hms _ _
        · intro x hx
          rcases List.mem_append.mp hx with hx | hx
          · exact hxs x hx
          · rw [List.mem_singleton.mp hx]; exact okm
        · intro b hb o e
          simp only [List.mem_cons, List.not_mem_nil, or_false] at hb
          rcases hb with rfl | rfl
          · rw [hoI] at e
            cases e
            exact (N12 _ (.head _)).1
          · rw [gD3] at e
            cases e
            exact (N12 _ (.tail _ (.head _))).1
    · rintro h7 tk7 ⟨ms, nm, op, od, v1, v2, xs, FJ, NJ, c1, c2, hms, hxl, hxs⟩
      have hmz : ms.size = 3 := by rw [← Array.length_toList, strs_len hms, hxl, e4]
      dsimp only
      k_steps
      refine go (item_of (P := isT 8) ⟨_, News.get NJ (.tail _ (.head _)), rfl, _, rfl⟩ (by decide) (by rw [hmz]; decide) (by omega) (is_of_strs hms hxs) ?_)
      rintro _ ⟨x0, tx0, rfl, ok0⟩
      k_steps
      refine go (pc_rows (B.keeps FJ.keep) (by rw [depth_deeper]; omega) (Nat.le_trans ok0.1 (by decide)) ?_)
      intro Dr h8 k8 kk8 hDr hSr
      obtain ⟨rs, nr, gr, hrs⟩ := hSr
      have N8 := news_add FJ NJ kk8 hDr gr
      have F8 := FJ.kept kk8
      have nDr : Dr ≠ lm := fun e => by
        have z := (NJ (lm, listOf ms nm) (.tail _ (.head _))).1
        rw [← e] at z
        exact absurd (z.symm.trans hDr) (by simp)
      clear FJ NJ
      have okr := rowsS_ok ok0
      have hrz : rs.size < 10 := by
        have z1 := strs_len hrs
        have z2 := rowsS_len x0
        have z3 := ok0.1
        rw [Array.length_toList] at z1
        omega
      have hr0 : 0 < rs.size := by
        have z1 := strs_len hrs
        have z2 := rowsS_pos x0
        rw [Array.length_toList] at z1
        omega
      k_steps
      (with_reducible rename Fr _ _ _ _ => F9)
      (with_reducible rename News _ _ _ _ => N9)
      refine go (wpAny_For ?_)
      k_steps
      (with_reducible rename Fr _ _ _ _ => F10)
      (with_reducible rename News _ _ _ _ => N10)
      refine go (slice_listK (items := ys) ⟨_, News.get N10 (.tail _ (.tail _ (.tail _ (.head _)))), rfl, _, rfl⟩ (.int _ _) .none .none (by simp) (by omega) ?_)
      intro h11 D4 kk11 hD4 g4
      have nlm4 : D4 ≠ lm := fun e => by
        have z := News.get N10 (.tail _ (.tail _ (.head _)))
        rw [← e] at z
        exact absurd (z.symm.trans hD4) (by simp)
      have N11 := news_add F10 N10 kk11 hD4 g4
      have F11 := F10.kept kk11
      clear F10 N10
      have e5 := hzs.pick (some 3) none none
      have e6 : (slicePick ys (some 3) none none).size = 2 := by
        rw [show (some (3 : Int)) = some ((3 : Nat) : Int) from rfl, slicePick_from ys 3 (by omega)]
        simp [hy5]
      refine wpAny_pyIter_list (items := slicePick ys (some 3) none none) ⟨_, g4, rfl, _, rfl⟩ ?_
      have hIn2 : h.get? h11.objs.size = none := by
        cases e : h.get? h11.objs.size with
        | none => rfl
        | some o => exact absurd (Heap.lt_size (F11.keep _ _ e)) (Nat.lt_irrefl _)
      have hIL2 : h11.objs.size ≠ L := fun q => absurd F11.ns.lt (by rw [← q]; exact Nat.lt_irrefl _)
      have hIs2 : ∀ q ∈ [D4, Dr, D3, lm, D, L + 1 + 1 + 1, L + 1 + 1, L + 1], q ≠ h11.objs.size := by
        intro q hq e
        have hq' : q ∈ (([(D4, listOf (slicePick ys (some 3) none none) 0), (Dr, listOf rs nr), (D3, listOf (slicePick ys none (some 3) none) 0), (lm, listOf ms nm), (D, listOf ys nD), (L + 1 + 1 + 1, op), (L + 1 + 1, od), (L + 1, osc)] : List (Addr × Obj)).map (·.1)) := hq
        obtain ⟨z, hz, rfl⟩ := List.mem_map.mp hq'
        exact absurd (Heap.lt_size (N11 z hz).1) (by rw [e]; exact Nat.lt_irrefl _)
      show codeAny _ _ _ _ ⟨h11.push _, gs, d, _, os⟩
      refine for_walk (fun i h12 => ∃ ms2 nm2 od2 v3 mv pv xs2, Fr h L h12 (fun y => if y = Str.ofString "mail" then mv else if y = Str.ofString "place" then pv else if y = Str.ofString "rows" then some (Value.ref Dr) else if y = Str.ofString "mails" then some (Value.ref lm) else if y = Str.ofString "draws" then some (Value.ref D) else none) ∧
          News h L h12 [(D4, listOf (slicePick ys (some 3) none none) 0), (Dr, listOf rs nr), (D3, listOf (slicePick ys none (some 3) none) 0), (lm, listOf ms2 nm2), (D, listOf ys nD), (L + 1 + 1 + 1, op), (L + 1 + 1, od2), (L + 1, osc)] ∧
          od2.data = .cell v3 ∧ StrsAre ms2.toList xs2 ∧ xs2.length = 3 + i ∧ ∀ x ∈ xs2, OkT 400 x)
        (Walks.list (show (A.deeper _).handled = none from hh) h11.objs.size D4 (hIs2 _ (.head _)) (slicePick ys (some 3) none none)) ?_ ?_ ?_ ?_ ?_
      · exact ⟨⟨_, Heap.get?_push_size _ rfl, rfl, rfl⟩, ⟨_, Heap.get?_push_of_some _ g4, rfl, _, rfl⟩⟩
      · refine ⟨ms, nm, od, v2, none, none, xs, fr_eq (F11.kept (fun b o e => Heap.get?_push_of_some _ e)) ?_, N11.grown (fun b o e => Heap.get?_push_of_some _ e), c2, hms, by rw [hxl, e4], fun x hx => ok_mono (hxs x hx) (by decide)⟩
        intro y
        by_cases a1 : y = Str.ofString "mail"
        · subst a1; kernel_rfl
        · by_cases a2 : y = Str.ofString "place"
          · subst a2; kernel_rfl
          · simp only [if_neg a1, if_neg a2]
      · rintro i h12 h13 ⟨ms2, nm2, od2, v3, mv, pv, xs2, FJ, NJ, r⟩ hk
        exact ⟨ms2, nm2, od2, v3, mv, pv, xs2, fr_stab FJ hIn2 hIL2 hk, news_stab NJ hIs2 hk, r⟩
      · rintro i v h12 tk12 hi12 hv12 ⟨ms2, nm2, od2, v3, mv, pv, xs2, FJ, NJ, c3, hms2, hxl2, hxs2⟩ ⟨hit, hil⟩ Q' hnx hret hbrk
        obtain ⟨oI, hoI⟩ : ∃ oI, h12.get? h11.objs.size = some oI := by obtain ⟨o, e, _⟩ := hit; exact ⟨o, e⟩
        obtain ⟨zv, tv, rfl⟩ : ∃ z t, v = .int z t := by
          obtain ⟨z, t, e, _⟩ := intsAt e5 (i := i) (v := v) (by simpa using hv12)
          exact ⟨z, t, e⟩
        have gD4 := (NJ _ (.head _)).1
        have cm := NJ (L + 1 + 1, od2) (.tail _ (.tail _ (.tail _ (.tail _ (.tail _ (.tail _ (.head _)))))))
        refine wpAny_storeName_cell (c := L + 1 + 1) rfl rfl rfl ⟨od2, cm.1, c3⟩ ?_
        rintro h13 ⟨o13, g13, e13⟩ hs13
        have F13 := fr_set FJ hs13 cm.2.1 cm.2.2
        have N13 : News h L h13 [(h11.objs.size, oI), (D4, listOf (slicePick ys (some 3) none none) 0), (Dr, listOf rs nr), (D3, listOf (slicePick ys none (some 3) none) 0), (lm, listOf ms2 nm2), (D, listOf ys nD), (L + 1 + 1 + 1, op), (L + 1 + 1, o13), (L + 1, osc)] := by
          have NI : News h L h12 [(h11.objs.size, oI), (D4, listOf (slicePick ys (some 3) none none) 0), (Dr, listOf rs nr), (D3, listOf (slicePick ys none (some 3) none) 0), (lm, listOf ms2 nm2), (D, listOf ys nD), (L + 1 + 1 + 1, op), (L + 1 + 1, od2), (L + 1, osc)] := by
            intro q hq
            rcases List.mem_cons.mp hq with rfl | hq
            · exact ⟨hoI, hIL2, hIn2⟩
            · exact NJ q hq
          refine news_set (pre := [(h11.objs.size, oI), (D4, listOf (slicePick ys (some 3) none none) 0), (Dr, listOf rs nr), (D3, listOf (slicePick ys none (some 3) none) 0), (lm, listOf ms2 nm2), (D, listOf ys nD), (L + 1 + 1 + 1, op)]) (post := [(L + 1, osc)]) NI ?_ ?_ hs13 g13
          · intro q hq
            simp only [List.mem_cons, List.not_mem_nil, or_false] at hq
            rcases hq with rfl | rfl | rfl | rfl | rfl | rfl | rfl
            · exact Ne.symm (hIs2 _ (by simp))
            · exact apart_cell NI (.tail _ (.head _)) (.tail _ (.tail _ (.tail _ (.tail _ (.tail _ (.tail _ (.tail _ (.head _)))))))) c3
            · exact apart_cell NI (.tail _ (.tail _ (.head _))) (.tail _ (.tail _ (.tail _ (.tail _ (.tail _ (.tail _ (.tail _ (.head _)))))))) c3
            · exact apart_cell NI (.tail _ (.tail _ (.tail _ (.head _)))) (.tail _ (.tail _ (.tail _ (.tail _ (.tail _ (.tail _ (.tail _ (.head _)))))))) c3
            · exact apart_cell NI (.tail _ (.tail _ (.tail _ (.tail _ (.head _))))) (.tail _ (.tail _ (.tail _ (.tail _ (.tail _ (.tail _ (.tail _ (.head _)))))))) c3
            · exact apart_cell NI (.tail _ (.tail _ (.tail _ (.tail _ (.tail _ (.head _)))))) (.tail _ (.tail _ (.tail _ (.tail _ (.tail _ (.tail _ (.tail _ (.head _)))))))) c3
            · exact Nat.ne_of_gt (Nat.lt_succ_self _)
          · intro q hq
            rw [List.mem_singleton.mp hq]; exact Nat.ne_of_lt (Nat.lt_succ_self _)
        clear FJ NJ cm
        k_steps
        refine go (item_of (P := isT 8) ⟨_, News.get N13 (.tail _ (.tail _ (.head _))), rfl, _, rfl⟩ (by decide) (by omega) (by omega) (is_of_strs hrs okr) ?_)
        rintro _ ⟨x1, tx1, rfl, ok1⟩
        k_steps
        (with_reducible rename Fr _ _ _ _ => F14)
        (with_reducible rename News _ _ _ _ => N14)
        refine go (wpAny_For ?_)
        k_steps
        (with_reducible rename Fr _ _ _ _ => F15)
        (with_reducible rename News _ _ _ _ => N15)
        (with_reducible rename IsRange _ _ _ _ _ _ _ _ => hr)
        rename_i h15 tk15 _ _ _ _
        refine wpAny_pyIter_range hr (small9 _ hrz) ?_
        rw [rsize9 _ hrz]
        have hIn3 : h.get? h15.objs.size = none := by
          cases e : h.get? h15.objs.size with
          | none => rfl
          | some o => exact absurd (Heap.lt_size (F15.keep _ _ e)) (Nat.lt_irrefl _)
        have hIL3 : h15.objs.size ≠ L := fun q => absurd F15.ns.lt (by rw [← q]; exact Nat.lt_irrefl _)
        have hIs3 : ∀ q ∈ [h11.objs.size, D4, Dr, D3, lm, D, L + 1 + 1 + 1, L + 1 + 1, L + 1], q ≠ h15.objs.size := by
          intro q hq e
          have hq' : q ∈ (([(h11.objs.size, oI), (D4, listOf (slicePick ys (some 3) none none) 0), (Dr, listOf rs nr), (D3, listOf (slicePick ys none (some 3) none) 0), (lm, listOf ms2 nm2), (D, listOf ys nD), (L + 1 + 1 + 1, op), (L + 1 + 1, o13), (L + 1, osc)] : List (Addr × Obj)).map (·.1)) := hq
          obtain ⟨z, hz, rfl⟩ := List.mem_map.mp hq'
          exact absurd (Heap.lt_size (N15 z hz).1) (by rw [e]; exact Nat.lt_irrefl _)
        show codeAny _ _ _ _ ⟨h15.push _, gs, d, tk15, os⟩
        refine for_walk (fun j h16 => ∃ pv y ty, Fr h L h16 (fun y' => if y' = Str.ofString "mail" then some (Value.str y ty) else if y' = Str.ofString "place" then pv else if y' = Str.ofString "rows" then some (Value.ref Dr) else if y' = Str.ofString "mails" then some (Value.ref lm) else if y' = Str.ofString "draws" then some (Value.ref D) else none) ∧
            News h L h16 [(h11.objs.size, oI), (D4, listOf (slicePick ys (some 3) none none) 0), (Dr, listOf rs nr), (D3, listOf (slicePick ys none (some 3) none) 0), (lm, listOf ms2 nm2), (D, listOf ys nD), (L + 1 + 1 + 1, op), (L + 1 + 1, o13), (L + 1, osc)] ∧ OkT (8 + 10 * j) y)
          (Walks.range (show (A.deeper _).handled = none from hh) h15.objs.size 1 1 (rs.size - 1)) ?_ ?_ ?_ ?_ ?_
        · show IsRangeIter _ _ _ _ _
          have e0 : (1 : Int) + ((0 : Nat) : Int) * 1 = 1 := by decide
          have e1 : ((rs.size - 1 : Nat) : Int) - ((0 : Nat) : Int) = ((rs.size - 1 : Nat) : Int) := by omega
          rw [e0, e1]
          exact Heap.get?_push_size _ rfl
        · refine ⟨pv, x1, tx1, fr_eq (F15.kept (fun b o e => Heap.get?_push_of_some _ e)) ?_, N15.grown (fun b o e => Heap.get?_push_of_some _ e), ok1⟩
          intro y
          by_cases a1 : y = Str.ofString "mail"
          · simp only [if_pos a1]
          · simp only [if_neg a1]
        · rintro j h16 h17 ⟨pv', y, ty, FK, NK, oky⟩ hk
          exact ⟨pv', y, ty, fr_stab FK hIn3 hIL3 hk, news_stab NK hIs3 hk, oky⟩
        · rintro j v h16 tk16 hj ⟨tj, rfl⟩ ⟨pv', y, ty, FK, NK, oky⟩ hit2 Q2 hn2 hret2 hbrk2
          obtain ⟨oI2, hoI2⟩ : ∃ oI, h16.get? h15.objs.size = some oI := ⟨_, hit2⟩
          have N16 : News h L h16 ((h15.objs.size, oI2) :: [(h11.objs.size, oI), (D4, listOf (slicePick ys (some 3) none none) 0), (Dr, listOf rs nr), (D3, listOf (slicePick ys none (some 3) none) 0), (lm, listOf ms2 nm2), (D, listOf ys nD), (L + 1 + 1 + 1, op), (L + 1 + 1, o13), (L + 1, osc)]) := by
            intro q hq
            rcases List.mem_cons.mp hq with rfl | hq
            · exact ⟨hoI2, hIL3, hIn3⟩
            · exact NK q hq
          clear NK
          have oky1 : y.length ≤ 8 + 10 * j := oky.1
          have hjr : j + 1 < rs.size := by omega
          k_steps
          refine go (pow3 (by omega) (by omega) ?_)
          intro P3 hP0 hP1
          k_steps
          (with_reducible rename News _ _ _ _ => N17)
          refine go (item_of (P := isT 2) ⟨_, News.get N17 (.head _), rfl, _, rfl⟩ (fm3 _).1 (fm3 _).2 (by show 3 ≤ 1000; decide) ?_ ?_)
          · intro v hv
            simp only [List.mem_cons, List.not_mem_nil, or_false] at hv
            rcases hv with rfl | rfl | rfl
            · exact ⟨_, _, rfl, by unfold OkT; decide +kernel⟩
            · exact ⟨_, _, rfl, by unfold OkT; decide +kernel⟩
            · exact ⟨_, _, rfl, by unfold OkT; decide +kernel⟩
          rintro _ ⟨x2, tx2, rfl, ok2⟩
          k_steps
          refine go (item_of (P := isT 8) ⟨_, News.get N17 (.tail _ (.tail _ (.tail _ (.tail _ (.head _))))), rfl, _, rfl⟩ (by omega) (by omega) (by omega) (is_of_strs hrs okr) ?_)
          rintro _ ⟨x3, tx3, rfl, ok3⟩
          k_steps
          refine go (SBL.add (fun t5 k5 _ => ?_) (by have := ok2.1; have := ok3.1; rw [sizeLine_eq]; omega))
          have ok4 := add_ok (k := 10) ok2 ok3 (by decide)
          k_steps
          refine go (SBL.iadd (fun t6 k6 _ => ?_) (by have := ok4.1; rw [sizeLine_eq]; omega))
          have ok5 := add_ok (k := 8 + 10 * (j + 1)) oky ok4 (by omega)
          walk1
          dsimp only
          refine wpAny_execs_nil ?_
          (with_reducible rename Fr _ _ _ _ => F18)
          (with_reducible rename News _ _ _ _ => N18)
          refine hn2 _ _ _ (.inl rfl) ⟨some (.int (1 + (j : Int) * 1) tj), y ++ (x2 ++ x3), t6, fr_eq F18 ?_, fun q hq => N18 q (.tail _ (.tail _ hq)), ok5⟩ ?_
          · intro y'
            by_cases a1 : y' = Str.ofString "mail"
            · simp only [if_pos a1]
            · by_cases a2 : y' = Str.ofString "place"
              · simp only [if_neg a1, if_pos a2]
              · simp only [if_neg a1, if_neg a2]
          · intro b hb o e
            rw [List.mem_singleton.mp hb] at e ⊢
            rw [hoI2] at e
            cases e
            exact (N18 _ (.tail _ (.head _))).1
        · rintro h16 tk16 ⟨pv', y, ty, FK, NK, oky⟩
          k_steps
          have em := NK (lm, listOf ms2 nm2) (.tail _ (.tail _ (.tail _ (.tail _ (.head _)))))
          have hmz2 : ms2.size = 3 + i := by rw [← Array.length_toList, strs_len hms2, hxl2]
          have hi2 : i < 2 := by rw [← e6]; exact hi12
          refine go (append_at (its := ms2) (n := nm2) em.1 ?_ (by rw [hmz2, sizeLine_eq]; omega))
          intro h17 hs17 g17
          have F17 := fr_set FK hs17 em.2.1 em.2.2
          have N17 : News h L h17 [(h11.objs.size, oI), (D4, listOf (slicePick ys (some 3) none none) 0), (Dr, listOf rs nr), (D3, listOf (slicePick ys none (some 3) none) 0), (lm, listOf (ms2.push (.str y ty)) (nm2 + 1)), (D, listOf ys nD), (L + 1 + 1 + 1, op), (L + 1 + 1, o13), (L + 1, osc)] := by
            refine news_set (pre := [(h11.objs.size, oI), (D4, listOf (slicePick ys (some 3) none none) 0), (Dr, listOf rs nr), (D3, listOf (slicePick ys none (some 3) none) 0)]) (post := [(D, listOf ys nD), (L + 1 + 1 + 1, op), (L + 1 + 1, o13), (L + 1, osc)]) NK ?_ ?_ hs17 g17
            · intro q hq
              simp only [List.mem_cons, List.not_mem_nil, or_false] at hq
              rcases hq with rfl | rfl | rfl | rfl
              · exact Ne.symm (hIs2 _ (by simp))
              · exact nlm4
              · exact nDr
              · exact nlm
            · intro q hq
              simp only [List.mem_cons, List.not_mem_nil, or_false] at hq
              rcases hq with rfl | rfl | rfl | rfl
              · exact Nat.ne_of_lt lt.1
              · exact Nat.ne_of_lt lt.2.1
              · exact Nat.ne_of_lt lt.2.2.1
              · exact Nat.ne_of_lt lt.2.2.2
          clear FK NK em
          k_steps
          refine hnx _ _ _ (.inl rfl) ⟨_, _, o13, _, _, pv', xs2 ++ [y], F17, fun q hq => N17 q (.tail _ hq), e13, ?_, by rw [List.length_append, hxl2]; rfl, ?_⟩ ?_
          · rw [Array.toList_push]
            exact strs_snoc hms2 _ _
          · intro x hx
            rcases List.mem_append.mp hx with hx | hx
            · exact hxs2 x hx
            · rw [List.mem_singleton.mp hx]; exact ok_mono oky (by omega)
          · intro b hb o e
            simp only [List.mem_cons, List.not_mem_nil, or_false] at hb
            rcases hb with rfl | rfl
            · rw [hoI] at e
              cases e
              exact (N17 _ (.head _)).1
            · rw [gD4] at e
              cases e
              exact (N17 _ (.tail _ (.head _))).1
      · rintro h12 tk12 ⟨ms2, nm2, od2, v3, mv, pv, xs2, FJ, NJ, c3, hms2, hxl2, hxs2⟩
        k_steps
        exact hQ lm xs2 _ _ FJ.keep (NJ (lm, listOf ms2 nm2) (.tail _ (.tail _ (.tail _ (.head _))))).2.2 ⟨ms2, nm2, (NJ (lm, listOf ms2 nm2) (.tail _ (.tail _ (.tail _ (.head _))))).1, hms2⟩ (by rw [hxl2, e6]) hxs2
end
end

section
set_option maxRecDepth 100000
set_option maxHeartbeats 4000000
open PySem PySem.W PyProof.Rows PySem.Calls
theorem fillKS1 : PySem.Challenge.rw_nb0121_01 = PySem.Challenge.rw_nb0121_01 ∧ hd.heap_39 = hd.heap_39 := by (k_fill; exact ⟨rfl, rfl⟩)
theorem kwKS1 : True := by
  k_with_none
  k_with "call ref" => ((with_reducible show wpAny _ _ (call (Value.ref _) _) _ _ _); refine halt ?_)
  k_with "call builtin:str.join" => ((with_reducible show wpAny _ _ (call (Value.builtin "str.join") _) _ _ _); refine halt ?_)
  k_with "eval Name" => ((with_reducible show wpAny _ _ (eval (Expr.Name _ _) (compEnv _ _ _)) _ _ _); (with_reducible rename Fr _ _ _ _ => kF); refine nameB_G kF (by assumption) (by assumption) (by k_is) (by boot_by_name) (by decide) ?_ rfl rfl rfl rfl (by decide))
  w_top off
  exact trivial
section
variable {w : World} {p : Program} {loose : List Str} {mean : ExcName → Option Value} {mg mb : Str → Option Value} {A : Around} {h : Heap} {gs : Array GenState} {d : Drawn} {tk : Nat} {os : OsState} {Q E : Value → Shared → Prop}
theorem ints_get {vs : List Value} {ns : List Int} (h : IntsAre vs ns) : ∀ {i : Nat} {v : Value}, vs[i]? = some v → ∃ n t, v = .int n t ∧ ns[i]? = some n := by
  induction h with
  | nil => intro i v e; simp at e
  | cons x t h ih =>
    intro i v e
    cases i with
    | zero => simp at e; exact ⟨x, t, e.symm, rfl⟩
    | succ i => exact ih (by simpa using e)
theorem strs_at {vs : List Value} {xs : List Str} (h : StrsAre vs xs) : ∀ {o : Nat}, o < xs.length → ∃ t, vs[o]? = some (.str (xs.getD o Str.empty) t) := by
  induction h with
  | nil => intro o q; simp at q
  | cons x t h ih =>
    intro o q
    cases o with
    | zero => exact ⟨t, rfl⟩
    | succ o => obtain ⟨u, e⟩ := ih (by simpa using q); exact ⟨u, by simpa using e⟩
theorem paired_eq : ∀ {l m : List Value}, Paired (fun v r => r = v) l m → m = l
  | _, _, .nil => rfl
  | _, _, .cons h t => by rw [h, paired_eq t]
theorem filter_len {vs : List Value} {ns : List Nat} (h : IntsAre vs (ns.map fun x : Nat => (x : Int))) (p : Value → Bool) (q : Nat → Bool) (e : ∀ (z : Nat) t, p (.int (z : Int) t) = q z) : (vs.filter p).length = (ns.filter q).length := by
  induction ns generalizing vs with
  | nil => cases h; rfl
  | cons a r ih =>
    cases h with
    | cons n t h' =>
      have := ih h'
      rw [List.filter_cons, List.filter_cons, e]
      split <;> simp [this]
noncomputable def ordP (xs : List Str) (i : Nat) : Value → Bool
  | .int o _ => leS xs o.toNat i
  | _ => false
theorem pc_ordered {xs : List Str} {a : Addr} (B : Bs w p loose mean mg mb h) (hA : A.depth ≤ 860) (hh : A.handled = none) (hl : SL h a xs) (hx : xs.length = 5) (hx2 : ∀ x ∈ xs, x.length ≤ 2000)
    (hQ : ∀ D vs n h' tk', Kp h h' → h.get? D = none → h'.get? D = some (listOf vs n) → IntsAre vs.toList ((ordL (leS xs) 5).map fun x : Nat => (x : Int)) → Q (.ref D) ⟨h', gs, d, tk', os⟩) :
    wpAny (model thePr w) A (call (.ref 206) [.ref a]) Q E ⟨h, gs, d, tk, os⟩ := by
  refine enterC [(Str.ofString "plain", .ref a)] B (by k_is) (by k_is) (by simp only [recursionLimit]; omega) (BindsTo.of_eq rfl) (by intro n x hx; simp only [List.mem_singleton] at hx; subst hx; exact .inr ⟨rfl, rfl⟩) (by decide +kernel) ?_ rfl rfl rfl
  intro L h₁ t₁ cells F N Y X T
  k_cells Y
  rename_i op0 ocp d1 d2
  obtain ⟨vs, n, hg, hs⟩ := hl
  have hvs : vs.size = 5 := by rw [← Array.length_toList, strs_len hs, hx]
  k_steps
  rename_i lo _ l1 _ _ _
  refine wpAny_For ?_
  k_steps
  (with_reducible rename Fr _ _ _ _ => F2)
  (with_reducible rename News _ _ _ _ => N2)
  refine call_len_list (items := vs) ⟨_, F2.keep _ _ hg, rfl, _, rfl⟩ (by rw [hvs]; decide) ?_
  rw [hvs]
  k_steps
  (with_reducible rename Fr _ _ _ _ => F3)
  (with_reducible rename News _ _ _ _ => N3)
  (with_reducible rename IsRange _ _ _ _ _ _ _ _ => hr)
  rename_i h3 tk3 _ _ _ _
  refine wpAny_pyIter_range hr (by decide +kernel) ?_
  have hIn : h.get? h3.objs.size = none := by
    cases e : h.get? h3.objs.size with
    | none => rfl
    | some o => exact absurd (Heap.lt_size (F3.keep _ _ e)) (Nat.lt_irrefl _)
  have hIL : h3.objs.size ≠ L := fun q => absurd F3.ns.lt (by rw [← q]; exact Nat.lt_irrefl _)
  have hIs : ∀ q ∈ [(lo, listOf #[] 0), (L + 1 + 1, op0), (L + 1, ocp)], q.1 ≠ h3.objs.size := fun q hq e => absurd (Heap.lt_size (N3 q hq).1) (by rw [e]; exact Nat.lt_irrefl _)
  have nlo := hIs _ (.head _)
  have nc1 := hIs _ (.tail _ (.head _))
  have nc2 := hIs _ (.tail _ (.tail _ (.head _)))
  show codeAny _ _ _ _ ⟨h3.push _, gs, d, tk3, os⟩
  refine for_walk (fun i h4 => ∃ vs1 n1 op v0, Fr h L h4 (fun y => if y = Str.ofString "ordered" then some (Value.ref lo) else none) ∧ News h L h4 [(lo, listOf vs1 n1), (L + 1 + 1, op), (L + 1, ocp)] ∧ op.data = .cell v0 ∧ IntsAre vs1.toList ((ordL (leS xs) i).map fun x : Nat => (x : Int)))
    (Walks.range (show (A.deeper _).handled = none from hh) h3.objs.size 0 1 5) ?_ ?_ ?_ ?_ ?_
  · exact Heap.get?_push_size _ rfl
  · refine ⟨#[], 0, op0, _, ?_, N3.grown (fun b o e => Heap.get?_push_of_some _ e), d1, .nil⟩
    exact F3.kept (fun b o e => Heap.get?_push_of_some _ e)
  · rintro i h4 h5 ⟨vs1, n1, op, v0, FJ, NJ, e1, e2⟩ hk
    refine ⟨vs1, n1, op, v0, ⟨FJ.ns.at' fun o e => hk _ _ hIL.symm e, fun b o e => hk _ _ (fun q => by rw [q, hIn] at e; cases e) (FJ.keep _ _ e), FJ.above⟩, fun q hq => ⟨hk _ _ ?_ (NJ q hq).1, (NJ q hq).2⟩, e1, e2⟩
    simp only [List.mem_cons, List.not_mem_nil, or_false] at hq
    rcases hq with rfl | rfl | rfl
    · exact nlo
    · exact nc1
    · exact nc2
  · rintro i v h4 tk4 hi ⟨tv, rfl⟩ ⟨vs1, n1, op, v0, FJ, NJ, e1, e2⟩ hit Q' hn hret hbrk
    clear F3 N3
    obtain ⟨oI, hoI⟩ : ∃ oI, h4.get? h3.objs.size = some oI := ⟨_, hit⟩
    have NI : News h L h4 [(h3.objs.size, oI), (lo, listOf vs1 n1), (L + 1 + 1, op), (L + 1, ocp)] := by
      intro q hq
      rcases List.mem_cons.mp hq with rfl | hq
      · exact ⟨hoI, hIL, hIn⟩
      · exact NJ q hq
    clear NJ
    have cm := (NI (L + 1 + 1, op) (.tail _ (.tail _ (.head _))))
    refine wpAny_storeName_cell (c := L + 1 + 1) rfl rfl rfl ⟨op, cm.1, e1⟩ ?_
    rintro h5 ⟨o5, g5, e5⟩ hs5
    have F5 : Fr h L h5 (fun y => if y = Str.ofString "ordered" then some (Value.ref lo) else none) := ⟨FJ.ns.sameBut hs5 (Ne.symm cm.2.1), fun b o e => (hs5.2 b (fun q => by rw [q, cm.2.2] at e; cases e)).trans (FJ.keep b o e), FJ.above⟩
    have N5 : News h L h5 [(h3.objs.size, oI), (lo, listOf vs1 n1), (L + 1 + 1, o5), (L + 1, ocp)] := by
      intro q hq
      simp only [List.mem_cons, List.not_mem_nil, or_false] at hq
      rcases hq with rfl | rfl | rfl | rfl
      · exact ⟨(hs5.2 _ (Ne.symm nc1)).trans (NI _ (.head _)).1, (NI _ (.head _)).2⟩
      · exact ⟨(hs5.2 _ (Nat.ne_of_gt l1.1)).trans (NI _ (.tail _ (.head _))).1, (NI _ (.tail _ (.head _))).2⟩
      · exact ⟨g5, cm.2⟩
      · exact ⟨(hs5.2 _ (Nat.ne_of_lt (Nat.lt_succ_self _))).trans (NI _ (.tail _ (.tail _ (.tail _ (.head _))))).1, (NI _ (.tail _ (.tail _ (.tail _ (.head _))))).2⟩
    clear FJ NI cm
    k_steps
    refine comp_free (cl := [(Str.ofString "plain", L + 1), (Str.ofString "place", L + 1 + 1)]) (vs := vs1.toList) (l := lo) (ordP xs i) (fun v r => r = v) rfl (by decide) rfl (by decide) rfl (by intro _; rfl) ?_ (show (A.deeper _).handled = none from hh) ⟨_, by simpa using News.get N5 (.tail _ (.head _)), rfl, _, rfl⟩ ?_ ?_ ?_ ?_
    · intro Q1 q1
      k_steps
      exact q1
    · rw [e2.length, List.length_map, ordL_len, sizeLine_eq]; omega
    · intro C j v h₃ g₃ d₃ k₃ o₃ m₃ Q1 E1 hv hns hm hk hq1
      have F6 := F5.kept hk
      have N6 := N5.grown hk
      clear F5 N5
      show wpAny _ _ (forIn [_] true _) _ _ _
      rw [List.forIn_cons]
      refine wpAny_bind ?_
      rw [if_pos rfl]
      refine wpAny_bind ?_
      obtain ⟨z, tz, rfl, hz⟩ := ints_get e2 hv
      rw [List.getElem?_map] at hz
      obtain ⟨o, ho, rfl⟩ := Option.map_eq_some_iff.mp hz
      have ho5 : o < i := ordL_lt _ _ _ (List.mem_of_getElem? ho)
      obtain ⟨t1, w1⟩ := strs_at hs (o := o) (by omega)
      obtain ⟨t2, w2⟩ := strs_at hs (o := i) (by omega)
      have la : h₃.IsList a vs := ⟨_, F6.keep _ _ hg, rfl, _, rfl⟩
      have ez : (0 + (i : Int) * 1) = (i : Int) := by omega
      rw [ez] at e5
      k_steps
      refine wpAny_pure ?_
      show wpAny _ _ (forIn [] _ _) _ _ _
      rw [List.forIn_nil]
      exact wpAny_pure (hq1 _ _ fun _ _ e => e)
    · intro C j v h₃ g₃ d₃ k₃ o₃ m₃ Q1 E1 hv hp hns hm hk hq1
      have F6 := F5.kept hk
      have N6 := N5.grown hk
      clear F5 N5
      k_steps
      exact hq1 _ _ _ rfl fun _ _ e => e
    · intro D ys h6 tk6 hD hpl hP hk
      obtain ⟨n6, hpl⟩ := hpl
      have N6 := news_add F5 N5 hk hD hpl
      have F6 := F5.kept hk
      clear F5 N5
      have eys : ys.toList = vs1.toList.filter (ordP xs i) := paired_eq hP
      have ecnt : ys.size = ((ordL (leS xs) i).filter fun o => leS xs o i).length := by
        rw [← Array.length_toList, eys]
        exact filter_len e2 _ _ (fun z t => rfl)
      have ele := List.length_filter_le (fun o => leS xs o i) (ordL (leS xs) i)
      rw [← ecnt, ordL_len] at ele
      k_steps
      have hvs1 : vs1.size = i := by rw [← Array.length_toList, e2.length, List.length_map, ordL_len]
      have gl := News.get N6 (a := lo) (o := listOf vs1 n1) (.tail _ (.tail _ (.head _)))
      rw [← ecnt]
      refine insert_at gl (by rw [hvs1]; exact ele) (by omega) ?_
      intro h7 n7 its eits g7 hs7
      have em := (N6 (lo, listOf vs1 n1) (.tail _ (.tail _ (.head _))))
      have F7 : Fr h L h7 (fun y => if y = Str.ofString "ordered" then some (Value.ref lo) else none) := ⟨F6.ns.sameBut hs7 (Ne.symm em.2.1), fun b o e => (hs7.2 b (fun q => by rw [q, em.2.2] at e; cases e)).trans (F6.keep b o e), F6.above⟩
      have N7 : News h L h7 [(lo, listOf its n7), (L + 1 + 1, o5), (L + 1, ocp)] := by
        intro q hq
        simp only [List.mem_cons, List.not_mem_nil, or_false] at hq
        rcases hq with rfl | rfl | rfl
        · exact ⟨g7, em.2⟩
        · exact ⟨(hs7.2 _ (Nat.ne_of_lt l1.1)).trans (N6 _ (.tail _ (.tail _ (.tail _ (.head _))))).1, (N6 _ (.tail _ (.tail _ (.tail _ (.head _))))).2⟩
        · exact ⟨(hs7.2 _ (Nat.ne_of_lt l1.2)).trans (N6 _ (.tail _ (.tail _ (.tail _ (.tail _ (.head _)))))).1, (N6 _ (.tail _ (.tail _ (.tail _ (.tail _ (.head _)))))).2⟩
      have hI7 : h7.get? h3.objs.size = some oI := (hs7.2 _ (Ne.symm nlo)).trans (N6 _ (.tail _ (.head _))).1
      clear F6 N6 em
      k_steps
      refine hn _ _ _ (.inl rfl) ⟨its, n7, o5, _, F7, N7, e5, ?_⟩ ?_
      · rw [eits, ecnt]
        have z := ints_app (ints_take e2 ((ordL (leS xs) i).filter fun o => leS xs o i).length) (IntsAre.cons (0 + (i : Int) * 1) tv (ints_drop e2 ((ordL (leS xs) i).filter fun o => leS xs o i).length))
        rw [show (0 + (i : Int) * 1) = (i : Int) by omega] at z ⊢
        show IntsAre _ ((ordS (leS xs) (ordL (leS xs) i) i).map _)
        unfold ordS
        rw [List.map_append, List.map_cons, List.map_take, List.map_drop]
        exact z
      · intro b hb o e
        rw [List.mem_singleton.mp hb] at e ⊢
        rw [hoI] at e
        cases e
        exact hI7
  · rintro h4 tk4 ⟨vs1, n1, op, v0, FJ, NJ, e1, e2⟩
    clear F3 N3
    k_steps
    exact hQ _ vs1 n1 _ _ FJ.keep (News.fresh NJ (.head _)) (News.get NJ (.head _)) e2
end
end

section
set_option maxRecDepth 100000
set_option maxHeartbeats 40000000
open PySem PySem.W PyProof.Rows PySem.Calls
theorem kwLW1 : True := by
  k_with_none
  k_with "call ref" => ((with_reducible show wpAny _ _ (call (Value.ref _) _) _ _ _); refine halt ?_)
  k_with "eval Name" => ((with_reducible show wpAny _ _ (eval (Expr.Name _ _) (compEnv _ _ _)) _ _ _); (with_reducible rename Fr _ _ _ _ => kF); refine nameB_G kF (by assumption) (by assumption) (by k_is) (by boot_by_name) (by decide) ?_ rfl rfl rfl rfl (by decide))
  k_with "exec Assign cons ListComp" => ((with_reducible show wpAny _ _ (exec (Stmt.Assign _ (Expr.ListComp _ _ _ _) _) _) _ _ _); refine halt ?_)
  k_with "call type:enumerate" => ((with_reducible show wpAny _ _ (call (Value.type "enumerate") _) _ _ _); refine halt ?_)
  k_with "eval ListComp" => ((with_reducible show wpAny _ _ (eval (Expr.ListComp _ _ _ _) _) _ _ _); refine halt ?_)
  k_with "subscriptTail" => ((with_reducible show wpAny _ _ (subscriptTail _ _ (Value.ref _) (Value.int _ _)) _ _ _); refine halt ?_)
  k_with "subscriptTail Name Name ref int" => ((with_reducible show wpAny _ _ (subscriptTail _ _ (Value.ref _) (Value.int _ _)) _ _ _); refine halt ?_)
  k_with "exec For Name Call cons nil" => ((with_reducible show wpAny _ _ (exec (Stmt.For _ _ _ _ _) _) _ _ _); refine halt ?_)
  k_with "exec For Tuple Call cons nil" => ((with_reducible show wpAny _ _ (exec (Stmt.For _ _ _ _ _) _) _ _ _); refine halt ?_)
  k_with "compareOp NotEq ref ref" => ((with_reducible show wpAny _ _ (compareOp CmpOp.NotEq (Value.ref _) (Value.ref _)) _ _ _); refine halt ?_)
  k_with "call builtin:sorted" => ((with_reducible show wpAny _ _ (call (Value.builtin "sorted") _ _) _ _ _); refine halt ?_)
  k_with "newTuple" => ((with_reducible show wpAny _ _ (newTuple _) _ _ _); refine halt ?_)
  k_with "subscriptTail Call Name cons nil Slice ref ref" => ((with_reducible show wpAny _ _ (subscriptTail _ (Expr.Slice _ _ _ _) (Value.ref _) _) _ _ _); refine halt ?_)
  k_with "eval Name" => ((first | (with_reducible show wpAny _ _ (eval (Expr.Name (Str.ofString "NotImplemented") _) _) _ _ _) | (with_reducible show wpAny _ _ (eval (Expr.Name (Str.ofString "enumerate") _) _) _ _ _) | (with_reducible show wpAny _ _ (eval (Expr.Name (Str.ofString "sorted") _) _) _ _ _) | (with_reducible show wpAny _ _ (eval (Expr.Name (Str.ofString "range") _) _) _ _ _) | (with_reducible show wpAny _ _ (eval (Expr.Name (Str.ofString "len") _) _) _ _ _)); with_reducible refine nameB_G (by with_reducible assumption) (by assumption) (by assumption) (by k_is) (by boot_by_name) (by decide) ?_ rfl rfl rfl rfl (by decide))
  w_top off
  exact trivial
theorem o225at (P : Params) : (hd.heap_39 P).lookup 225 = some (objAt P 225) := by kernel_rfl
theorem KK.but {k : KP} {n : Nat} {h h' : Heap} (X : KK k h) (ab : k.Above n) (hc : n ≤ k.cell) (e : ∀ b o, n ≤ b → h.get? b = some o → h'.get? b = some o) : KK k h' := by
  refine ⟨X.at_.above ab e, ?_⟩
  obtain ⟨o, g1, g2⟩ := X.cell
  exact ⟨o, e _ _ hc g1, g2⟩
theorem fr_asg {g h h' : Heap} {L : Addr} {m m' : Str → Option Value} (F : Fr g L h m) (hN : h'.Ns L m') (hk : ∀ b o, b ≠ L → h.get? b = some o → h'.get? b = some o) : Fr g L h' m' :=
  ⟨hN, fun b o e => hk b o (fun q => by rw [q, Heap.get?_none_of_le F.above] at e; cases e) (F.keep b o e), F.above⟩
theorem news_asg {g h h' : Heap} {L : Addr} {news : List (Addr × Obj)} (N : News g L h news) (hk : ∀ b o, b ≠ L → h.get? b = some o → h'.get? b = some o) : News g L h' news :=
  fun q hq => ⟨hk _ _ (N q hq).2.1 (N q hq).1, (N q hq).2⟩
theorem ints_of_items {h : Heap} {vs : List Value} {ws : List Str} (HI : ItemsOk h vs ws) : ∀ {l : List Nat} {zs : List Value}, (∀ j ∈ l, j < 5) → Paired (fun v r => ∀ a x (j : Nat), v = Value.ref a → IT h a x (j : Int) → ∃ t, r = Value.int (j : Int) t) (l.map fun i => vs.getD i .none) zs → IntsAre zs (l.map fun x : Nat => (x : Int))
  | [], _, _, .nil => .nil
  | j :: l, _, hl, .cons (b := r) hG t => by
    obtain ⟨a, e1, e2⟩ := HI.2 j (hl j (.head _))
    obtain ⟨u, e3⟩ := hG a _ j (by show vs.getD j .none = _; rw [List.getD_eq_getElem?_getD, e1]; rfl) e2
    rw [e3]
    exact .cons _ _ (ints_of_items HI (fun i hi => hl i (.tail _ hi)) t)
theorem fr_on {g h : Heap} {L : Addr} {M : Str → Option Value} {x : Str} {v : Value} (F : Fr g L h M) (e : M x = some v) : Fr g L h (fun y => if y = x then some v else M y) :=
  fr_eq F fun y => by
    by_cases a : y = x
    · subst a; rw [if_pos rfl]; exact e
    · rw [if_neg a]
theorem it_kb {ex : List Addr} {L : Addr} {h h' : Heap} {a : Addr} {x : Str} {i : Int} (kb : Kb ex L h h') (n1 : a ≠ L) (n2 : a ∉ ex) (H : IT h a x i) : IT h' a x i := by
  obtain ⟨tx, ti, e⟩ := H
  exact ⟨tx, ti, kb _ _ n1 n2 e⟩
theorem map_getD (f : Str → Str) {xs : List Str} {j : Nat} (h : j < xs.length) : (xs.map f).getD j Str.empty = f (xs.getD j Str.empty) := by
  simp [h]
theorem ofI_len (f : Str → Str) (xs : List Str) : (xs.map f).length = xs.length := List.length_map ..
theorem law_holds : PySem.Challenge.rw_nb0121_01.Holds := by
  refine hd ?_
  k_go0
  all_goals try k_fold
  (with_reducible rename Fr _ _ _ _ => F0)
  (with_reducible rename News _ _ _ _ => N0)
  (with_reducible rename Top _ _ _ _ _ _ => T0)
  (with_reducible rename IntsAre _ _ => hi0)
  (with_reducible rename Heap.IsList _ _ _ => hl0)
  (with_reducible rename Frag.In _ _ => X0)
  have B0 := Bs.mk X0 T0
  have g0 := (N0 (117, tabObj #[]) (.tail _ (.head _))).2.2
  rename (117 < _) => l117
  rename Shared => s1
  rename Obj => ow
  obtain ⟨vc0, hvc0⟩ : ∃ v, ow.data = .cell v := ⟨_, by assumption⟩
  k_steps
  refine go (pc_mails (B0.keeps F0.keep) (by simp only [depth_deeper, depth_caller]; decide) rfl (hl0.at fun o e => F0.keep _ _ e) hi0 (by omega) ?_)
  intro Dm xs h1 tk1 kk1 hDm hSm hxl hxo
  obtain ⟨mv, mn, gm, hms⟩ := id hSm
  have N1 := news_add F0 N0 kk1 hDm gm
  have F1 := F0.kept kk1
  clear F0 N0 kk1 hDm gm hSm
  k_steps
  (with_reducible rename Fr _ _ _ _ => F2)
  (with_reducible rename News _ _ _ _ => N2)
  have hn2 := Heap.lt_size (F2.keep _ _ (X0 _ _ (o225at _)))
  have nDm : Dm ≠ 117 := apart_of N2 (p := (Dm, listOf mv mn)) (q := (117, tabObj #[])) (.head _) (.tail _ (.tail _ (.head _))) (by intro q; cases q)
  refine go (cmp_K (s := ⟨_, _, _, _, _⟩) (B0.keeps F2.keep) (N2 (117, tabObj #[]) (.tail _ (.tail _ (.head _)))).1 hn2 (by simp only [depth_deeper, depth_caller]; decide) ?_)
  intro k h3 tk3 kk3 hcell hab hcc hKA g117
  dsimp only at kk3 hab hcc ⊢
  have F3 := fr_stab F2 g0 (Nat.ne_of_lt l117) kk3
  have N3 := news_stab (news := [_, _]) (fun q hq => N2 q (by
    rcases List.mem_cons.mp hq with rfl | hq
    · exact .head _
    · rw [List.mem_singleton.mp hq]; exact .tail _ (.head _))) (I := 117) (by
    intro q hq
    rcases List.mem_cons.mp hq with rfl | hq
    · exact nDm
    · rw [List.mem_singleton.mp hq]; exact Nat.ne_of_gt (Nat.lt_succ_of_lt l117)) kk3
  have XK3 : KK k h3 := ⟨hKA, hcell⟩
  have hLn := F2.ns.lt
  have hcn := Heap.lt_size (N2 _ (.tail _ (.head _))).1
  have gm3 : h3.get? Dm = some (listOf mv mn) := (N3 _ (.head _)).1
  have hDL : Dm ≠ s1.heap.objs.size := (N3 _ (.head _)).2.1
  have hDc : Dm ≠ s1.heap.objs.size + 1 := apart_cell N3 (.head _) (.tail _ (.head _)) hvc0
  obtain ⟨rest3, NR3, nex3, KR3⟩ := absorb F3 [s1.heap.objs.size + 1]
  have N3' : News (ghostOf s1.heap [(121, 117)]) s1.heap.objs.size h3 ((s1.heap.objs.size + 1, ow) :: rest3) := by
    intro q hq
    rcases List.mem_cons.mp hq with rfl | hq
    · exact N3 _ (.tail _ (.head _))
    · exact NR3 q hq
  clear F2 N2 kk3 hKA hcell nDm hn2 N3 NR3
  k_steps
  refine go (wpAny_For ?_)
  k_steps
  (with_reducible rename Fr _ _ _ _ => F4)
  (with_reducible rename News _ _ _ _ => N4)
  rename_i l4 h4 l4l
  obtain ⟨its, nn, gL, t0, t1, t2, eits⟩ : ∃ its nn, h4.get? l4 = some (listOf its nn) ∧ ∃ t0 t1 t2, its = #[Value.str (wn 0) t0, Value.str (wn 1) t1, Value.str (wn 2) t2] := ⟨_, _, News.get N4 (.head _), _, _, _, rfl⟩
  have hits : its.size = 3 := by rw [eits]; rfl
  refine go (call_enumerate_1 gL ?_)
  intro h5 hE hI hz kk5
  simp only at hE hI hz kk5
  have F5 := F4.kept kk5
  have N5 := N4.grown kk5
  have K4 := KR3 _ _ F4 (fun q hq => N4 q (.tail _ (.tail _ hq)))
  have hl4 : l4 < h4.objs.size := Heap.lt_size (News.get N4 (.head _))
  have hL4 : s1.heap.objs.size < h4.objs.size := F4.ns.lt
  have hc4 : s1.heap.objs.size + 1 < h4.objs.size := Heap.lt_size (News.get N4 (.tail _ (.head _)))
  have hlow : ∀ b, b < h4.objs.size → b ∉ [h4.objs.size + 1, h4.objs.size] := by
    intro b hb hm
    simp only [List.mem_cons, List.not_mem_nil, or_false] at hm
    rcases hm with rfl | rfl
    · exact absurd hb (Nat.not_lt.mpr (Nat.le_succ _))
    · exact Nat.lt_irrefl _ hb
  refine wpAny_pyIter_enum hE ?_
  show codeAny _ _ _ _ ⟨h5, _, _, _, _⟩
  refine for_pairs (fun i h => ∃ (m : Str → Option Value) (oc : Obj) (vc : Option Value), Fr (ghostOf s1.heap [(121, 117)]) s1.heap.objs.size h (fun y => if y = Str.ofString "key" then some (Value.ref k.K) else if y = Str.ofString "mails" then some (Value.ref Dm) else m y) ∧
      News (ghostOf s1.heap [(121, 117)]) s1.heap.objs.size h [(s1.heap.objs.size + 1, oc)] ∧ oc.data = .cell vc ∧ (∀ b o, b ≠ s1.heap.objs.size → b ≠ s1.heap.objs.size + 1 → h3.get? b = some o → h.get? b = some o))
    (WalksT.enumerate rfl (h4.objs.size + 1) h4.objs.size l4 (Nat.ne_of_gt (Nat.lt_succ_self _)) (Nat.ne_of_lt (Nat.lt_succ_of_lt hl4)) (Nat.ne_of_lt hl4) its) rfl ?_ ?_ ?_ ?_ ?_ ?_
  · rintro i vals ⟨t, x, _, rfl⟩
    exact ⟨_, _, rfl⟩
  · exact ⟨⟨_, hE⟩, hI, ⟨_, kk5 _ _ gL, rfl, _, rfl⟩⟩
  · refine ⟨_, ow, vc0, F5, fun q hq => N5 q (.tail _ (by rw [List.mem_singleton.mp hq]; exact .head _)), hvc0, fun b o b1 b2 e => kk5 _ _ (K4 b o b1 (by simpa using b2) e)⟩
  · rintro i h6 h7 ⟨m, oc, vc, F6, N6, c6, K6⟩ hk
    refine ⟨m, oc, vc, ⟨F6.ns.at' fun o e => hk _ _ (hlow _ hL4) e, fun b o e => hk _ _ (hlow _ (Heap.lt_size (F4.keep _ _ e))) (F6.keep _ _ e), F6.above⟩, fun q hq => ⟨hk _ _ (by rw [List.mem_singleton.mp hq]; exact hlow _ hc4) (N6 q hq).1, (N6 q hq).2⟩, c6, fun b o b1 b2 e => hk _ _ (hlow _ (Heap.lt_size (K4 b o b1 (by simpa using b2) e))) (K6 b o b1 b2 e)⟩
  · rintro i v1 v2 h6 tk6 hi6 ⟨ti, xv, hxv, hvals⟩ ⟨m, oc, vc, F6, N6, c6, K6⟩ hst6 Q' hnx hret hbrk
    clear F5 N5 F4 N4
    have hi3 : i < 3 := by rw [← hits]; exact hi6
    obtain ⟨rfl, rfl⟩ : v1 = .int (i : Int) ti ∧ v2 = xv := by
      have := congrArg Array.toList hvals
      simpa using this
    obtain ⟨tw, rfl⟩ : ∃ tw, v2 = .str (wn i) tw := by
      rw [eits] at hxv
      match i, hi3, hxv with
      | 0, _, hxv => exact ⟨_, (Option.some.inj hxv).symm⟩
      | 1, _, hxv => exact ⟨_, (Option.some.inj hxv).symm⟩
      | 2, _, hxv => exact ⟨_, (Option.some.inj hxv).symm⟩
    refine wpAny_storeName_local rfl F6.ns (fun h7 hn7 hs7 => ?_) rfl
    have F7 := fr_asg F6 hn7 (fun b o hb e => hs7.extBut b o hb e)
    have N7 := news_asg N6 (fun b o hb e => hs7.extBut b o hb e)
    have K7 : ∀ b o, b ≠ s1.heap.objs.size → b ≠ s1.heap.objs.size + 1 → h3.get? b = some o → h7.get? b = some o := fun b o b1 b2 e => hs7.extBut b o b1 (K6 b o b1 b2 e)
    have cm := N7 _ (.head _)
    refine wpAny_storeName_cell (c := s1.heap.objs.size + 1) rfl rfl rfl ⟨oc, cm.1, c6⟩ ?_
    rintro h8 ⟨o8, g8, e8⟩ hs8
    have F8 := fr_set F7 hs8 cm.2.1 cm.2.2
    have K8 : ∀ b o, b ≠ s1.heap.objs.size → b ≠ s1.heap.objs.size + 1 → h3.get? b = some o → h8.get? b = some o := fun b o b1 b2 e => hs8.extBut b o b2 (K7 b o b1 b2 e)
    have XK8 : KK k h8 := XK3.but hab hcc fun b o hb e => K8 b o (Nat.ne_of_gt (Nat.lt_of_lt_of_le hLn hb)) (Nat.ne_of_gt (Nat.lt_of_lt_of_le hcn hb)) e
    have gm8 : h8.get? Dm = some (listOf mv mn) := K8 _ _ hDL hDc gm3
    obtain ⟨rest, NR8, nex8, KR8⟩ := absorb F8 [s1.heap.objs.size + 1]
    have N8 : News (ghostOf s1.heap [(121, 117)]) s1.heap.objs.size h8 ((s1.heap.objs.size + 1, o8) :: rest) := by
      intro q hq
      rcases List.mem_cons.mp hq with rfl | hq
      · exact ⟨g8, cm.2⟩
      · exact NR8 q hq
    have hfp8 : ∀ b ∈ [h4.objs.size + 1, h4.objs.size, l4], b ≠ s1.heap.objs.size ∧ b ≠ s1.heap.objs.size + 1 ∧ ∀ o, h6.get? b = some o → h8.get? b = some o := by
      intro b hb
      have hb2 : b ≠ s1.heap.objs.size ∧ b ≠ s1.heap.objs.size + 1 := by
        simp only [List.mem_cons, List.not_mem_nil, or_false] at hb
        rcases hb with rfl | rfl | rfl
        · exact ⟨Nat.ne_of_gt (Nat.lt_succ_of_lt hL4), Nat.ne_of_gt (Nat.lt_succ_of_lt hc4)⟩
        · exact ⟨Nat.ne_of_gt hL4, Nat.ne_of_gt hc4⟩
        · exact ⟨Nat.ne_of_gt (Nat.lt_trans (Nat.lt_succ_self _) l4l.1), Nat.ne_of_gt l4l.1⟩
      exact ⟨hb2.1, hb2.2, fun o e => hs8.extBut b o hb2.2 (hs7.extBut b o hb2.1 e)⟩
    have AD : ∀ env : Env, (callerA.deeper env).depth ≤ 850 := fun env => by simp only [depth_deeper, depth_caller]; decide
    have AU : ∀ env : Env, (callerA.deeper env).units ≤ 6000 := fun env => by simp only [units_deeper, units_caller]; decide
    clear F6 N6 F7 N7 K6 K7 cm NR8 hn7 hs7 hs8
    k_steps
    refine go (assign_list (l := Dm) (vs := mv.toList) (fun v r => ∀ x t, v = .str x t → ∃ u, r = .str (Wt i x) u) (by kernel_rfl) rfl (by decide) rfl (by decide) rfl rfl rfl (by intro _; rfl) rfl ?_ ⟨_, by simpa using gm8, rfl, _, rfl⟩ ?_ F8.ns ?_ ?_)
    · intro Q1 q1
      k_steps
      exact q1
    · rw [strs_len hms, hxl, sizeLine_eq]; omega
    · intro C j v h₃ g₃ d₃ k₃ o₃ m₃ Q1 E1 hv hns hm hk hq1
      obtain ⟨x, t, rfl, hx⟩ := strs_get hms hv
      have F9 := F8.kept hk
      have N9 := N8.grown hk
      clear F8 N8
      k_steps
      refine go (pc_written hi3 (B0.keeps F9.keep) (Nat.le_trans (AD _) (by decide)) rfl (hxo x (List.mem_of_getElem? hx)) ?_)
      intro h' tk' t' kk
      exact hq1 _ _ _ (fun x' t'' e => by cases e; exact ⟨_, rfl⟩) kk
    · intro Dw wv h9 tk9 hDw hplw hPw hNw hkw
      have F9 := fr_asg F8 hNw hkw
      have N9 := news_asg N8 hkw
      have sw := strs_paired hms hPw
      obtain ⟨nw, gw9⟩ := hplw
      have gm9 := hkw _ _ hDL gm8
      have XK9 : KK k h9 := XK8.but hab hcc fun b o hb e => hkw b o (Nat.ne_of_gt (Nat.lt_of_lt_of_le hLn hb)) e
      have K9 : ∀ b o, b ≠ s1.heap.objs.size → b ≠ s1.heap.objs.size + 1 → h3.get? b = some o → h9.get? b = some o := fun b o b1 b2 e => hkw b o b1 (K8 b o b1 b2 e)
      have Z9 : ∀ b o, b ≠ s1.heap.objs.size → h8.get? b = some o → h9.get? b = some o := hkw
      have hDwL : Dw ≠ s1.heap.objs.size := fun q => by
        obtain ⟨oL, _, _, hL, _⟩ := F8.ns
        rw [q] at hDw
        exact absurd (hL.symm.trans hDw) (by simp)
      clear hkw hNw hPw F8 N8
      k_steps
      refine go (comp_free (l := Dm) (vs := mv.toList) (fun _ => true) (fun v r => ∀ x t, v = .str x t → ∃ u, r = .str (Wt i x) u) rfl (by decide) rfl (by decide) rfl (by intro _; rfl) ?_ rfl ⟨_, by simpa using gm9, rfl, _, rfl⟩ ?_ ?_ ?_ ?_)
      · intro Q1 q1
        k_steps
        exact q1
      · rw [strs_len hms, hxl, sizeLine_eq]; omega
      · intro C j v h₃ g₃ d₃ k₃ o₃ m₃ Q1 E1 hv hns hm hk hq1
        show wpAny _ _ (forIn [] _ _) _ _ _
        rw [List.forIn_nil]
        exact wpAny_pure (hq1 _ _ fun _ _ e => e)
      · intro C j v h₃ g₃ d₃ k₃ o₃ m₃ Q1 E1 hv hp' hns hm hk hq1
        obtain ⟨x, t, rfl, hx⟩ := strs_get hms hv
        have Fx := F9.kept hk
        have Nx := N9.grown hk
        clear F9 N9
        k_steps
        refine go (pc_due hi3 (B0.keeps Fx.keep) (Nat.le_trans (AD _) (by decide)) rfl (hxo x (List.mem_of_getElem? hx)) ?_)
        intro h' tk' t' kk
        exact hq1 _ _ _ (fun x' t'' e => by cases e; exact ⟨_, rfl⟩) kk
      · intro Dd dv h10 tk10 hDd hpld hPd kk10
        rw [List.filter_eq_self.mpr (fun _ _ => rfl)] at hPd
        have sd := strs_paired hms hPd
        obtain ⟨nd, gd10⟩ := hpld
        have F10 := F9.kept kk10
        have N10 := N9.grown kk10
        clear F9 N9
        k_steps
        refine go (ne_strs (ns := xs.map (Wt i)) (fun z hz => by obtain ⟨x, hx, rfl⟩ := List.mem_map.mp hz; exact Wt_ok i (hxo x hx)) (xs := wv.toList) (ys := dv.toList) ⟨_, by simpa using kk10 _ _ gw9, rfl, _, rfl⟩ ⟨_, by simpa using gd10, rfl, _, rfl⟩ sw sd (Nat.lt_of_le_of_lt (Nat.add_le_add_right (AU _) 64) (by decide)) ?_)
        have gm10 := kk10 _ _ gm9
        have gw10 := kk10 _ _ gw9
        have XK10 := XK9.keeps kk10
        have Z10 : ∀ b o, b ≠ s1.heap.objs.size → h8.get? b = some o → h10.get? b = some o := fun b o hb e => kk10 _ _ (Z9 b o hb e)
        clear XK8 XK9 gm8 gm9 gw9 gd10 sd hPd Z9 K9 kk10 hDd
        k_steps
        refine go (assign_list (l := Dm) (vs := mv.toList) (fun v r => ∀ x t, v = .str x t → ∃ u, r = .str (Pl i x) u) (by kernel_rfl) rfl (by decide) rfl (by decide) rfl rfl rfl (by intro _; rfl) rfl ?_ ⟨_, by simpa using gm10, rfl, _, rfl⟩ ?_ F10.ns ?_ ?_)
        · intro Q1 q1
          k_steps
          exact q1
        · rw [strs_len hms, hxl, sizeLine_eq]; omega
        · intro C j v h₃ g₃ d₃ k₃ o₃ m₃ Q1 E1 hv hns hm hk hq1
          obtain ⟨x, t, rfl, hx⟩ := strs_get hms hv
          have Fx := F10.kept hk
          have Nx := N10.grown hk
          clear F10 N10
          k_steps
          refine go (pc_plain_k hi3 (B0.keeps Fx.keep) (Nat.le_trans (AD _) (by decide)) rfl (hxo x (List.mem_of_getElem? hx)) ?_)
          intro h' tk' t' kk
          exact hq1 _ _ _ (fun x' t'' e => by cases e; exact ⟨_, rfl⟩) kk
        · intro Dp pv h11 tk11 hDp hplp hPp hNp hkp
          have F11 := fr_asg F10 hNp hkp
          have N11 := news_asg N10 hkp
          have sp := strs_paired hms hPp
          obtain ⟨np, gp11⟩ := hplp
          have gw11 := hkp _ _ hDwL gw10
          have XK11 : KK k h11 := XK10.but hab hcc fun b o hb e => hkp b o (Nat.ne_of_gt (Nat.lt_of_lt_of_le hLn hb)) e
          have Z11 : ∀ b o, b ≠ s1.heap.objs.size → h8.get? b = some o → h11.get? b = some o := fun b o hb e => hkp b o hb (Z10 b o hb e)
          have hDpL : Dp ≠ s1.heap.objs.size := fun q => by
            obtain ⟨oL, _, _, hL, _⟩ := F10.ns
            rw [q] at hDp
            exact absurd (hL.symm.trans hDp) (by simp)
          clear hkp hNp hPp F10 N10 XK10 Z10 gw10 gm10
          k_steps
          refine go (assign_enum (by kernel_rfl) rfl (by decide) rfl (by decide) rfl rfl (by decide) rfl rfl rfl ?_ (by intro _; rfl))
          k_steps
          refine go (call_enumerate_1 gw11 ?_)
          intro h12 hE2 hI2 hz2 kk12
          simp only at hE2 hI2 hz2 kk12
          show EnSrcA _ _ _ _ _ _ _ _ _ _ _ _ ⟨h12, _, _, _, _⟩
          have F12 := F11.kept kk12
          have N12 := N11.grown kk12
          have hwz : wv.size = 5 := by
            have := strs_len sw
            rw [Array.length_toList, List.length_map, hxl] at this
            exact this
          have lw := Heap.lt_size gw11
          have lL : s1.heap.objs.size < h11.objs.size := F11.ns.lt
          refine ⟨h11.objs.size + 1, h11.objs.size, Dw, wv, fun n ys h => ∀ j, j < n → ∃ a, ys[j]? = some (Value.ref a) ∧ h12.objs.size + 2 ≤ a ∧ IT h a ((xs.map (Wt i)).getD j Str.empty) (j : Int), _, rfl, Nat.ne_of_gt (Nat.lt_succ_self _), Nat.ne_of_lt (Nat.lt_succ_of_lt lw), Nat.ne_of_lt lw, ?_, ⟨_, hE2⟩, hI2, ⟨_, kk12 _ _ gw11, rfl, _, rfl⟩, Nat.ne_of_lt (Nat.lt_succ_of_lt lL), Nat.ne_of_lt lL, F12.ns, ?_, ?_, ?_, ?_⟩
          · rw [hwz]; decide
          · intro h' j hj
            exact absurd hj (Nat.not_lt_zero _)
          · intro n ys h1' h2' hJ hk j hj
            obtain ⟨a, e1, e2, tx, tj, e3⟩ := hJ j hj
            exact ⟨a, e1, e2, tx, tj, hk _ _ e2 e3⟩
          · rintro C n v1 v2 ys h13 k13 m13 Q1 E1 hn13 ⟨t13, rfl, hv2⟩ hns hm1 hm2 hk13 hz13 hJ hyl hq1
            obtain ⟨x2, t2', rfl, hx2⟩ := strs_get sw (i := n) (v := v2) (by simpa using hv2)
            have keep13 : ∀ b o, b < h11.objs.size → h12.get? b = some o → h13.get? b = some o := fun b o hb e => hk13 b o (by
              intro hm
              simp only [List.mem_cons, List.not_mem_nil, or_false] at hm
              rcases hm with rfl | rfl
              · exact absurd hb (Nat.not_lt.mpr (Nat.le_succ _))
              · exact Nat.lt_irrefl _ hb) e
            have F13 : Fr _ _ h13 _ := ⟨F12.ns.at' fun o e => keep13 _ o lL e, fun b o e => keep13 b o (Heap.lt_size (F11.keep b o e)) (F12.keep b o e), F12.above⟩
            have N13 : News _ _ h13 _ := fun q hq => ⟨keep13 _ _ (Heap.lt_size (N11 q hq).1) (N12 q hq).1, (N12 q hq).2⟩
            clear F11 N11 F12 N12
            dsimp only at hk13 hz13 hq1 ⊢
            k_steps
            refine go (wpAny_newTuple ?_ (by show 2 ≤ _; rw [sizeLine_eq]; omega))
            refine hq1 (.ref h13.objs.size) _ _ ?_ fun b o e => Heap.get?_push_of_some _ e
            intro j hj
            by_cases hjn : j < n
            · obtain ⟨a, e1, e2, e3⟩ := hJ j hjn
              exact ⟨a, by rw [List.getElem?_append_left (by omega)]; exact e1, e2, e3.keeps fun b o e => Heap.get?_push_of_some _ e⟩
            · have : j = n := by omega
              subst this
              refine ⟨h13.objs.size, by simp [hyl], hz13, t2', t13, ?_⟩
              have e5 : (xs.map (Wt i)).getD j Str.empty = x2 := by
                rw [List.getD_eq_getElem?_getD, hx2]
                rfl
              rw [e5]
              exact Heap.get?_push_size _ rfl
          · intro Di h14 tk14 ys hDi hpl hJ hsz hns hk14
            have keep14 : ∀ b o, b ≠ s1.heap.objs.size → h11.get? b = some o → h14.get? b = some o := fun b o hb e => hk14 b o hb (by
              have lb := Heap.lt_size e
              intro hm
              simp only [List.mem_cons, List.not_mem_nil, or_false] at hm
              rcases hm with rfl | rfl
              · exact absurd lb (Nat.not_lt.mpr (Nat.le_succ _))
              · exact Nat.lt_irrefl _ lb) (kk12 _ _ e)
            have F14 := fr_asg F11 hns keep14
            have N14 := news_asg N11 keep14
            have XK14 : KK k h14 := XK11.but hab hcc fun b o hb e => keep14 b o (Nat.ne_of_gt (Nat.lt_of_lt_of_le hLn hb)) e
            have Z14 : ∀ b o, b ≠ s1.heap.objs.size → h8.get? b = some o → h14.get? b = some o := fun b o hb e => keep14 b o hb (Z11 b o hb e)
            have gw14 := keep14 _ _ hDwL gw11
            have gp14 := keep14 _ _ hDpL gp11
            obtain ⟨ni, gi14⟩ := hpl
            have hDiL : Di ≠ s1.heap.objs.size := fun q => by
              obtain ⟨oL, _, _, hL, _⟩ := F12.ns
              rw [q] at hDi
              exact absurd (hL.symm.trans hDi) (by simp)
            have HI14 : ItemsOk h14 ys.toList (xs.map (Wt i)) := by
              refine ⟨by rw [Array.length_toList, hsz, hwz], fun j hj => ?_⟩
              obtain ⟨a, e1, _, e3⟩ := hJ j (by rw [hwz]; exact hj)
              exact ⟨a, e1, e3⟩
            have HP14 : ∀ j, j < 5 → ∃ a, ys[j]? = some (Value.ref a) ∧ a ≠ s1.heap.objs.size ∧ a ≠ s1.heap.objs.size + 1 ∧ IT h14 a ((xs.map (Wt i)).getD j Str.empty) (j : Int) := by
              intro j hj
              obtain ⟨a, e1, e2, e3⟩ := hJ j (by rw [hwz]; exact hj)
              have lc := Heap.lt_size (N12 _ (.head _)).1
              have lL2 := F12.ns.lt
              exact ⟨a, by simpa using e1, Nat.ne_of_gt (Nat.lt_of_lt_of_le lL2 (Nat.le_trans (Nat.le_add_right _ 2) e2)), Nat.ne_of_gt (Nat.lt_of_lt_of_le lc (Nat.le_trans (Nat.le_add_right _ 2) e2)), e3⟩
            have cm14 := N14 _ (.head _)
            have ncell : ∀ D its n, h14.get? D = some (listOf its n) → D ≠ s1.heap.objs.size + 1 := by
              intro D its n e q
              rw [q, cm14.1] at e
              have z : o8 = _ := Option.some.inj e
              rw [z] at e8
              cases e8
            have hDic := ncell _ _ _ gi14
            have hDpc := ncell _ _ _ gp14
            obtain ⟨rest2, NR14, nex14, KR14⟩ := absorb F14 [s1.heap.objs.size + 1]
            have N14' : News (ghostOf s1.heap [(121, 117)]) s1.heap.objs.size h14 ((s1.heap.objs.size + 1, o8) :: rest2) := by
              intro q hq
              rcases List.mem_cons.mp hq with rfl | hq
              · exact cm14
              · exact NR14 q hq
            clear F11 N11 F12 N12 N14 NR14 XK11 Z11 hk14 hns hJ hE2 hI2 hz2 kk12 keep14 gw11 gp11 hDi cm14
            k_steps
            refine go (comp_src (fun _ => true) (fun v r => ∀ a x (j : Nat), v = Value.ref a → IT h14 a x (j : Int) → ∃ t, r = Value.int (j : Int) t) rfl (by decide) rfl (by decide) rfl (by intro _; rfl) rfl ?_)
            k_steps
            refine go (sorted_K (B0.keeps F14.keep) (Nat.le_trans (AD _) (by decide)) (Nat.le_trans (AU _) (by decide)) XK14 HI14 ⟨_, by simpa using gi14, rfl, _, rfl⟩ ?_)
            intro Ds out ns15 h15 tk15 kk15 hDs gs15 eout
            have F15 := F14.kept kk15
            have N15 := N14'.grown kk15
            clear F14 N14'
            show LSrc _ _ _ _ _ _ _ _ _ _ _ _ _ ⟨h15, _, _, _, _⟩
            refine ⟨Ds, out.toList, rfl, ⟨_, by simpa using gs15, rfl, _, rfl⟩, ?_, ?_, ?_, ?_⟩
            · rw [eout, List.length_map, ordL_len, sizeLine_eq]; omega
            · intro C j v h₃ g₃ d₃ k₃ o₃ m₃ Q1 E1 hv hns hm hk hq1
              show wpAny _ _ (forIn [] _ _) _ _ _
              rw [List.forIn_nil]
              exact wpAny_pure (hq1 _ _ fun _ _ e => e)
            · intro C j v h₃ g₃ d₃ k₃ o₃ m₃ Q1 E1 hv hp' hns hm hk hq1
              have Fx := F15.kept hk
              have Nx := N15.grown hk
              clear F15 N15
              rw [eout, List.getElem?_map] at hv
              obtain ⟨j0, hj0, hv⟩ := Option.map_eq_some_iff.mp hv
              have hj5 : j0 < 5 := ordL_lt _ _ _ (List.mem_of_getElem? hj0)
              obtain ⟨a0, e1, e2⟩ := HI14.2 j0 hj5
              rw [List.getD_eq_getElem?_getD, e1] at hv
              have hv' : Value.ref a0 = v := hv
              subst hv'
              obtain ⟨tx0, tj0, ga0⟩ := id e2
              have ga3 := hk _ _ (kk15 _ _ ga0)
              have ta : IsTup h₃ a0 #[Value.str ((xs.map (Wt i)).getD j0 Str.empty) tx0, Value.int (j0 : Int) tj0] := ⟨_, ga3, rfl, 0, rfl⟩
              k_steps
              refine go (tup_at1 ta ?_)
              refine hq1 _ _ _ ?_ fun _ _ e => e
              intro a x j' ea hIT
              cases ea
              obtain ⟨tx1, tj1, ga1⟩ := hIT
              rw [ga0] at ga1
              have z := congrArg Obj.data (Option.some.inj ga1)
              simp only [Data.seq.injEq, Array.mk.injEq, List.cons.injEq, Value.str.injEq, Value.int.injEq, and_true] at z
              exact ⟨tj0, by rw [z.2.1]⟩
            · intro Dz zv h16 tk16 hDz hplz hPz kk16
              rw [List.filter_eq_self.mpr (fun _ _ => rfl), eout] at hPz
              have sz := ints_of_items HI14 (fun j hj => ordL_lt _ _ _ hj) hPz
              obtain ⟨nz, gz16⟩ := hplz
              have F16 := F15.kept kk16
              have N16 := N15.grown kk16
              have kk1416 : Kp h14 h16 := fun b o e => kk16 _ _ (kk15 _ _ e)
              clear F15 N15 hPz kk15 kk16 hDz hDs gs15 eout
              k_steps
              refine go (pc_ordered (xs := xs.map (Pl i)) (B0.keeps F16.keep) (Nat.le_trans (AD _) (by decide)) rfl ⟨pv, np, kk1416 _ _ gp14, sp⟩ (by rw [List.length_map, hxl]) ?_ ?_)
              · intro z hz
                obtain ⟨x, hx, rfl⟩ := List.mem_map.mp hz
                exact Nat.le_trans (Pl_len i x) (Nat.le_trans (hxo x hx).1 (by decide))
              intro Do ov no h17 tk17 kk17 hDo go17 so
              have F17 := F16.kept kk17
              have N17 := N16.grown kk17
              clear F16 N16
              k_steps
              rw [order_eq i hxl] at sz
              refine go (ne_ints (ns := (ordL (leS (xs.map (Pl i))) 5).map fun x : Nat => (x : Int)) (xs := zv.toList) (ys := ov.toList) ⟨_, by simpa using kk17 _ _ gz16, rfl, _, rfl⟩ ⟨_, by simpa using go17, rfl, _, rfl⟩ sz so (Nat.lt_of_le_of_lt (Nat.add_le_add_right (AU _) 64) (by decide)) ?_)
              have kk1417 : Kp h14 h17 := fun b o e => kk17 _ _ (kk1416 _ _ e)
              clear kk1416 kk17 gz16 go17 so sz hDo
              k_steps
              refine go (comp_src (fun v => match v with | .notImplemented => false | _ => true) (fun _ _ => True) rfl (by decide) rfl (by decide) rfl (by intro _; rfl) rfl ?_)
              k_steps
              refine go (item_of (P := fun v => ∃ x t, v = Value.str x t) ⟨_, kk1417 _ _ gw14, rfl, _, rfl⟩ (by omega) (by rw [hwz]; omega) (by rw [hwz]; decide) (strs_all sw) ?_)
              rintro _ ⟨x18, t18, rfl⟩
              k_steps
              refine go (pc_toldS (B0.keeps F17.keep) (Nat.le_trans (AD _) (by decide)) ?_)
              intro D18 n18 h18 tk18 kk18 hD18 g18
              have F18 := F17.kept kk18
              have N18 := N17.grown kk18
              clear F17 N17
              k_steps
              refine go (slice_listA ⟨_, g18, rfl, _, rfl⟩ .none (.int _ _) .none (by simp) (by decide) ?_)
              intro h19 D19 kk19 hD19 g19
              have F19 := F18.kept kk19
              have N19 := N18.grown kk19
              have e19 : (slicePick #[Value.notImplemented, .notImplemented, .notImplemented, .notImplemented, .notImplemented, .notImplemented, .notImplemented, .notImplemented, .notImplemented, .notImplemented, .notImplemented, .notImplemented, .bool false, .bool true] none (some 12) none).toList = [Value.notImplemented, .notImplemented, .notImplemented, .notImplemented, .notImplemented, .notImplemented, .notImplemented, .notImplemented, .notImplemented, .notImplemented, .notImplemented, .notImplemented] := by
                rw [show (some (12 : Int)) = some ((12 : Nat) : Int) from rfl, slicePick_upto _ 12 (by decide)]
                rfl
              clear F18 N18
              show LSrc _ _ _ _ _ _ _ _ _ _ _ _ _ ⟨h19, _, _, _, _⟩
              refine ⟨D19, (slicePick #[Value.notImplemented, .notImplemented, .notImplemented, .notImplemented, .notImplemented, .notImplemented, .notImplemented, .notImplemented, .notImplemented, .notImplemented, .notImplemented, .notImplemented, .bool false, .bool true] none (some 12) none).toList, rfl, ⟨_, by simpa using g19, rfl, _, rfl⟩, ?_, ?_, ?_, ?_⟩
              · rw [e19, sizeLine_eq]; decide
              · intro C j v h₃ g₃ d₃ k₃ o₃ m₃ Q1 E1 hv hns hm hk hq1
                have Fx := F19.kept hk
                have Nx := N19.grown hk
                clear F19 N19
                have hv' : v = .notImplemented := by
                  have := List.mem_of_getElem? hv
                  rw [e19] at this
                  simpa using this
                subst hv'
                show wpAny _ _ (forIn [_] true _) _ _ _
                rw [List.forIn_cons]
                refine wpAny_bind ?_
                rw [if_pos rfl]
                refine wpAny_bind ?_
                k_steps
                refine wpAny_pure ?_
                show wpAny _ _ (forIn [] _ _) _ _ _
                rw [List.forIn_nil]
                exact wpAny_pure (hq1 _ _ fun _ _ e => e)
              · intro C j v h₃ g₃ d₃ k₃ o₃ m₃ Q1 E1 hv hp' hns hm hk hq1
                have hv' : v = .notImplemented := by
                  have := List.mem_of_getElem? hv
                  rw [e19] at this
                  simpa using this
                subst hv'
                cases hp'
              · intro Dn nv h20 tk20 hDn hpln hPn kk20
                rw [e19] at hPn
                have hnv : nv.toList = [] := by
                  have := paired_len hPn
                  simpa using this.symm
                obtain ⟨nn20, gn20⟩ := hpln
                have F20 := F19.kept kk20
                have N20 := news_add F19 N19 kk20 hDn gn20
                have kk1420 : Kp h14 h20 := fun b o e => kk20 _ _ (kk19 _ _ (kk18 _ _ (kk1417 _ _ e)))
                clear F19 N19 hPn kk19 kk18 kk1417 kk20 e19 g19 g18 hD19 hD18
                k_steps
                (with_reducible rename News _ _ _ _ => N21a)
                refine go (ne_ints (ns := []) (xs := nv.toList) (ys := []) ⟨_, by simpa using News.get N21a (.tail _ (.head _)), rfl, _, rfl⟩ ⟨_, News.get N21a (.head _), rfl, _, rfl⟩ (by rw [hnv]; exact .nil) .nil (Nat.lt_of_le_of_lt (Nat.add_le_add_right (AU _) 64) (by decide)) ?_)
                have N21 : News (ghostOf s1.heap [(121, 117)]) s1.heap.objs.size _ ((s1.heap.objs.size + 1, o8) :: rest2) := fun q hq => N21a q (.tail _ (.tail _ hq))
                clear N21a
                k_steps
                refine go (wpAny_For ?_)
                k_steps
                (with_reducible rename Fr _ _ _ _ => F22)
                (with_reducible rename News _ _ _ _ => N22)
                (with_reducible rename IsRange _ _ _ _ _ _ _ _ => hr)
                rename_i h22 tk22 _ _ _ _
                refine wpAny_pyIter_range hr (by decide +kernel) ?_
                have hIn : (ghostOf s1.heap [(121, 117)]).get? h22.objs.size = none := by
                  cases e : (ghostOf s1.heap [(121, 117)]).get? h22.objs.size with
                  | none => rfl
                  | some o => exact absurd (Heap.lt_size (F22.keep _ _ e)) (Nat.lt_irrefl _)
                have hIL : h22.objs.size ≠ s1.heap.objs.size := fun q => absurd F22.ns.lt (by rw [← q]; exact Nat.lt_irrefl _)
                have hIs : ∀ q ∈ ((s1.heap.objs.size + 1, o8) :: rest2).map (·.1), q ≠ h22.objs.size := by
                  intro q hq e
                  obtain ⟨z, hz, rfl⟩ := List.mem_map.mp hq
                  exact absurd (Heap.lt_size (N22 z hz).1) (by rw [e]; exact Nat.lt_irrefl _)
                show codeAny _ _ _ _ ⟨h22.push _, _, _, tk22, _⟩
                refine for_walk (fun j h => ∃ m' : Str → Option Value, Fr (ghostOf s1.heap [(121, 117)]) s1.heap.objs.size h (fun y => if y = Str.ofString "items" then some (Value.ref Di) else if y = Str.ofString "plain" then some (Value.ref Dp) else if y = Str.ofString "shift" then some (Value.int (i : Int) ti) else if y = Str.ofString "key" then some (Value.ref k.K) else if y = Str.ofString "mails" then some (Value.ref Dm) else m' y) ∧
                    News (ghostOf s1.heap [(121, 117)]) s1.heap.objs.size h ((s1.heap.objs.size + 1, o8) :: rest2))
                  (Walks.range (show (callerA.deeper _).handled = none from rfl) h22.objs.size 0 1 5) ?_ ?_ ?_ ?_ ?_
                · exact Heap.get?_push_size _ rfl
                · exact ⟨_, fr_on (x := Str.ofString "items") (fr_on (x := Str.ofString "plain") (fr_on (x := Str.ofString "shift") (fr_on (x := Str.ofString "key") (fr_on (x := Str.ofString "mails") (F22.kept (fun b o e => Heap.get?_push_of_some _ e)) (by kernel_rfl)) (by kernel_rfl)) (by kernel_rfl)) (by kernel_rfl)) (by kernel_rfl), N22.grown (fun b o e => Heap.get?_push_of_some _ e)⟩
                · rintro j h23 h24 ⟨m', FK, NK⟩ hk
                  exact ⟨m', fr_stab FK hIn hIL hk, news_stab NK hIs hk⟩
                · rintro j v h23 tk23 hj ⟨tj, rfl⟩ ⟨m', FK, NK⟩ hit2 Q2 hn2 hret2 hbrk2
                  obtain ⟨oI2, hoI2⟩ : ∃ oI, h23.get? h22.objs.size = some oI := ⟨_, hit2⟩
                  have N23 : News (ghostOf s1.heap [(121, 117)]) s1.heap.objs.size h23 ((h22.objs.size, oI2) :: (s1.heap.objs.size + 1, o8) :: rest2) := by
                    intro q hq
                    rcases List.mem_cons.mp hq with rfl | hq
                    · exact ⟨hoI2, hIL, hIn⟩
                    · exact NK q hq
                  clear NK F22 N22
                  k_steps
                  refine callWith_KK ?_
                  k_steps
                  (with_reducible rename Fr _ _ _ _ => F24)
                  (with_reducible rename News _ _ _ _ => N24)
                  have kb24 := KR14 _ _ F24 (fun q hq => N24 q (.tail _ (.tail _ hq)))
                  obtain ⟨a1, ea1, na1, nb1, hI1⟩ := HP14 j hj
                  have gi24 := kb24 _ _ hDiL (by simpa using hDic) gi14
                  refine go (item_at (v := .ref a1) ⟨_, gi24, rfl, _, rfl⟩ (by omega) (by omega) (by rw [show ((0 : Int) + (j : Int) * 1).toNat = j by omega]; exact ea1) ?_)
                  have XK24 : KK k _ := XK14.but hab hcc fun b o hb e => kb24 b o (Nat.ne_of_gt (Nat.lt_of_lt_of_le hLn hb)) (by simpa using Nat.ne_of_gt (Nat.lt_of_lt_of_le hcn hb)) e
                  k_steps
                  · exact XK24.at_
                  refine go (call_key XK24.at_ (B0.keeps F24.keep).T.nolimit (by simp only [depth_deeper, depth_caller]; decide) ?_)
                  intro ob1 dd1 h25 tk25 kk25 go1 hs1
                  have N25 := news_add F24 N24 kk25 (Heap.get?_none_of_le hs1) go1
                  have F25 := F24.kept kk25
                  clear F24 N24 kb24 XK24 gi24 kk25
                  k_steps
                  refine callWith_KK ?_
                  k_steps
                  (with_reducible rename Fr _ _ _ _ => F26)
                  (with_reducible rename News _ _ _ _ => N26)
                  have kb26 := KR14 _ _ F26 (fun q hq => N26 q (.tail _ (.tail _ (.tail _ hq))))
                  obtain ⟨b5, hb5e⟩ : ∃ b5 : Nat, b5 = (j + 1 + i) % 5 := ⟨_, rfl⟩
                  have hb5 : b5 < 5 := by rw [hb5e]; exact Nat.mod_lt _ (by decide)
                  have eb5 : ((0 : Int) + (j : Int) * 1 + 1 + (i : Int)).fmod 5 = (b5 : Int) := by
                    rw [Int.fmod_eq_emod_of_nonneg _ (by decide)]
                    omega
                  obtain ⟨a2, ea2, na2, nb2, hI2⟩ := HP14 b5 hb5
                  have gi26 := kb26 _ _ hDiL (by simpa using hDic) gi14
                  refine go (item_at (v := .ref a2) ⟨_, gi26, rfl, _, rfl⟩ (by rw [eb5]; omega) (by rw [eb5]; omega) (by rw [eb5]; exact ea2) ?_)
                  have XK26 : KK k _ := XK14.but hab hcc fun b o hb e => kb26 b o (Nat.ne_of_gt (Nat.lt_of_lt_of_le hLn hb)) (by simpa using Nat.ne_of_gt (Nat.lt_of_lt_of_le hcn hb)) e
                  k_steps
                  · exact XK26.at_
                  refine go (call_key XK26.at_ (B0.keeps F26.keep).T.nolimit (by simp only [depth_deeper, depth_caller]; decide) ?_)
                  intro ob2 dd2 h27 tk27 kk27 go2 hs2
                  have N27 := news_add F26 N26 kk27 (Heap.get?_none_of_le hs2) go2
                  have F27 := F26.kept kk27
                  clear F26 N26 kb26 XK26 gi26 kk27
                  k_steps
                  (with_reducible rename Fr _ _ _ _ => F28)
                  (with_reducible rename News _ _ _ _ => N28)
                  have kb28 := KR14 _ _ F28 (fun q hq => N28 q (.tail _ (.tail _ (.tail _ (.tail _ hq)))))
                  have XK28 : KK k _ := XK14.but hab hcc fun b o hb e => kb28 b o (Nat.ne_of_gt (Nat.lt_of_lt_of_le hLn hb)) (by simpa using Nat.ne_of_gt (Nat.lt_of_lt_of_le hcn hb)) e
                  refine go (pc_told (i := (j : Int)) (j := (b5 : Int)) (B0.keeps F28.keep) (Nat.le_trans (AD _) (by decide)) (Nat.le_trans (AU _) (by decide)) XK28 (by omega) (by omega) ⟨a1, dd1, (N28 _ (.tail _ (.head _))).1, it_kb kb28 na1 (by simpa using nb1) hI1⟩ ⟨a2, dd2, (N28 _ (.head _)).1, it_kb kb28 na2 (by simpa using nb2) hI2⟩ ?_)
                  intro Dt n29 h29 tk29 kk29 hDt g29
                  have N29 := news_add F28 N28 kk29 hDt g29
                  have F29 := F28.kept kk29
                  clear F28 N28 kb28 XK28 kk29
                  k_steps
                  (with_reducible rename Fr _ _ _ _ => F30)
                  (with_reducible rename News _ _ _ _ => N30)
                  have kb30 := KR14 _ _ F30 (fun q hq => N30 q (.tail _ (.tail _ (.tail _ (.tail _ (.tail _ hq))))))
                  have gp30 := kb30 _ _ hDpL (by simpa using hDpc) gp14
                  obtain ⟨tp1, ep1⟩ := strs_at sp (o := j) (by rw [List.length_map, hxl]; omega)
                  obtain ⟨tp2, ep2⟩ := strs_at sp (o := b5) (by rw [List.length_map, hxl]; omega)
                  refine go (item_at (v := .str ((xs.map (Pl i)).getD j Str.empty) tp1) ⟨_, gp30, rfl, _, rfl⟩ (by omega) (by omega) (by rw [show ((0 : Int) + (j : Int) * 1).toNat = j by omega, ← Array.getElem?_toList]; exact ep1) ?_)
                  k_steps
                  refine go (item_at (v := .str ((xs.map (Pl i)).getD b5 Str.empty) tp2) ⟨_, gp30, rfl, _, rfl⟩ (by rw [eb5]; omega) (by rw [eb5]; omega) (by rw [eb5, ← Array.getElem?_toList]; exact ep2) ?_)
                  k_steps
                  refine go (pc_astexts (B0.keeps F30.keep) (Nat.le_trans (AD _) (by decide)) ?_)
                  intro Da n31 h31 tk31 kk31 hDa g31
                  have N31 := news_add F30 N30 kk31 hDa g31
                  have F31 := F30.kept kk31
                  clear F30 N30 kb30 gp30 kk31
                  k_steps
                  have et : told ((xs.map (Wt i)).getD j Str.empty) ((xs.map (Wt i)).getD b5 Str.empty) = told ((xs.map (Pl i)).getD j Str.empty) ((xs.map (Pl i)).getD b5 Str.empty) := by
                    rw [map_getD _ (by rw [hxl]; omega), map_getD _ (by rw [hxl]; omega), map_getD _ (by rw [hxl]; omega), map_getD _ (by rw [hxl]; omega)]
                    exact told_eq i _ _
                  (with_reducible rename News _ _ _ _ => N32)
                  have gDa := (N32 _ (.head _)).1
                  have gDt := (N32 _ (.tail _ (.head _))).1
                  rw [← et] at gDa
                  clear et
                  have htl : (told ((xs.map (Wt i)).getD j Str.empty) ((xs.map (Wt i)).getD b5 Str.empty)).length = 14 := rfl
                  generalize told ((xs.map (Wt i)).getD j Str.empty) ((xs.map (Wt i)).getD b5 Str.empty) = tl at gDa gDt N32 htl
                  refine go (ne_bools (ns := tl) ⟨_, gDt, rfl, _, rfl⟩ ⟨_, gDa, rfl, _, rfl⟩ (Nat.lt_of_le_of_lt (Nat.add_le_add_right (AU _) 64) (by decide)) ?_)
                  k_steps
                  (with_reducible rename Fr _ _ _ _ => F33)
                  (with_reducible rename News _ _ _ _ => N33)
                  refine go (comp_free (l := Dt) (vs := tl.map Value.bool) (fun v => match v with | .bool _ => false | _ => true) (fun _ _ => True) rfl (by decide) rfl (by decide) rfl (by intro _; rfl) ?_ rfl ⟨_, by simpa using (N33 _ (.tail _ (.head _))).1, rfl, _, rfl⟩ ?_ ?_ ?_ ?_)
                  · intro Q1 q1
                    k_steps
                    exact q1
                  · rw [List.length_map, htl, sizeLine_eq]; decide
                  · intro C n v h₃ g₃ d₃ k₃ o₃ m₃ Q1 E1 hv hns hm hk hq1
                    have Fx := F33.kept hk
                    have Nx := N33.grown hk
                    clear F33 N33
                    obtain ⟨r, _, rfl⟩ := List.mem_map.mp (List.mem_of_getElem? hv)
                    show wpAny _ _ (forIn [_] true _) _ _ _
                    rw [List.forIn_cons]
                    refine wpAny_bind ?_
                    rw [if_pos rfl]
                    refine wpAny_bind ?_
                    cases r
                    all_goals
                      k_steps
                      refine wpAny_pure ?_
                      show wpAny _ _ (forIn [] _ _) _ _ _
                      rw [List.forIn_nil]
                      exact wpAny_pure (hq1 _ _ fun _ _ e => e)
                  · intro C n v h₃ g₃ d₃ k₃ o₃ m₃ Q1 E1 hv hp' hns hm hk hq1
                    obtain ⟨r, _, rfl⟩ := List.mem_map.mp (List.mem_of_getElem? hv)
                    cases hp'
                  · intro Dn2 nv2 h34 tk34 hDn2 hpln2 hPn2 kk34
                    have hnv2 : nv2.toList = [] := by
                      have e1 : (tl.map Value.bool).filter (fun v => match v with | .bool _ => false | _ => true) = [] := by
                        rw [List.filter_eq_nil_iff]
                        intro v hv
                        obtain ⟨r, _, rfl⟩ := List.mem_map.mp hv
                        simp
                      rw [e1] at hPn2
                      have := paired_len hPn2
                      simpa using this.symm
                    obtain ⟨nn34, gn34⟩ := hpln2
                    have F34 := F33.kept kk34
                    have N34 := news_add F33 N33 kk34 hDn2 gn34
                    clear F33 N33 kk34
                    k_steps
                    (with_reducible rename News _ _ _ _ => N35)
                    refine go (ne_ints (ns := []) (xs := nv2.toList) (ys := []) ⟨_, by simpa using News.get N35 (.tail _ (.head _)), rfl, _, rfl⟩ ⟨_, News.get N35 (.head _), rfl, _, rfl⟩ (by rw [hnv2]; exact .nil) .nil (Nat.lt_of_le_of_lt (Nat.add_le_add_right (AU _) 64) (by decide)) ?_)
                    walk1
                    walk1
                    dsimp only
                    refine wpAny_execs_nil ?_
                    dsimp only
                    refine wpAny_execs_nil ?_
                    (with_reducible rename Fr _ _ _ _ => F35)
                    refine hn2 _ _ _ (.inl rfl) ⟨_, fr_on (x := Str.ofString "items") (fr_on (x := Str.ofString "plain") (fr_on (x := Str.ofString "shift") (fr_on (x := Str.ofString "key") (fr_on (x := Str.ofString "mails") F35 (by kernel_rfl)) (by kernel_rfl)) (by kernel_rfl)) (by kernel_rfl)) (by kernel_rfl), fun q hq => N35 q (.tail _ (.tail _ (.tail _ (.tail _ (.tail _ (.tail _ (.tail _ (hq))))))))⟩ ?_
                    intro b hb o e
                    rw [List.mem_singleton.mp hb] at e ⊢
                    rw [hoI2] at e
                    cases e
                    exact (N35 _ (.tail _ (.tail _ (.tail _ (.tail _ (.tail _ (.tail _ (.head _)))))))).1
                · rintro h23 tk23 ⟨m', FK, NK⟩
                  clear F22 N22
                  have kb23 := KR14 _ _ FK (fun q hq => NK q (.tail _ hq))
                  show wpAny _ _ (execs [] _) _ _ _
                  refine wpAny_execs_nil ?_
                  refine hnx _ _ _ (.inl rfl) ⟨_, o8, _, fr_on (x := Str.ofString "key") (fr_on (x := Str.ofString "mails") FK (by kernel_rfl)) (by kernel_rfl), fun q hq => by rw [List.mem_singleton.mp hq]; exact NK _ (.head _), e8, fun b o b1 b2 e => kb23 b o b1 (by simpa using b2) (Z14 b o b1 (K8 b o b1 b2 e))⟩ ?_
                  intro b hb o e
                  obtain ⟨b1, b2, b3⟩ := hfp8 b hb
                  exact kb23 b o b1 (by simpa using b2) (Z14 b o b1 (b3 o e))
  · rintro h6 tk6 ⟨m, oc, vc, F6, N6, c6, K6⟩
    obtain ⟨ps, g117⟩ := g117
    have N6' : News (ghostOf s1.heap [(121, 117)]) s1.heap.objs.size h6 [(117, tabObj ps)] := by
      intro q hq
      rw [List.mem_singleton.mp hq]
      exact ⟨K6 _ _ (Nat.ne_of_lt l117) (Nat.ne_of_lt (Nat.lt_succ_of_lt l117)) g117, Nat.ne_of_lt l117, g0⟩
    clear F5 N5 F4 N4 N6
    dsimp only
    k_steps
end
end Mine
set_option maxRecDepth 100000 in
set_option maxHeartbeats 8000000 in
theorem PySem.Challenge.cw_nb0121_01_holds : PySem.Challenge.rw_nb0121_01.Holds :=
  Mine.law_holds
