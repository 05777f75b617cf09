import PyProof.Rows.All
import Wide.All
import OpenK.AllK
import Wide.FinOn
import PySem.Challenge.RW_fc0077_01
set_option Elab.async false
set_option linter.all false

/-! ## Hd -/
section
open PySem PySem.W PyProof.Rows
namespace Mine
local macro_rules | `(tactic| k_head) => `(tactic| x_head)
set_option maxRecDepth 100000 in
set_option maxHeartbeats 8000000 in
open_top hd for PySem.Challenge.rw_fc0077_01
end Mine
end

/-! ## Base1 -/
section
open PySem PySem.W PyProof.Rows PySem.Calls PySem.Spec
set_option maxRecDepth 100000
namespace Mine
noncomputable abbrev LOOSE : List Str := looseW Mine.hd.view_39 [Str.ofString "SEQUENCE_TYPES", Str.ofString "to_unicode", Str.ofString "CaselessDict", Str.ofString "NAME",
        Str.ofString "param_value", Str.ofString "UNSAFE_CHAR", Str.ofString "QUNSAFE_CHAR",
        Str.ofString "validate_param_value", Str.ofString "QUOTABLE", Str.ofString "dquote", Str.ofString "q_split",
        Str.ofString "q_join", Str.ofString "Parameters", Str.ofString "WEEKDAY_RULE", Str.ofString "vWeekday"]

/-- the caller's side of a call: any function frame, any ledger -/
structure At (w : World) (mean : ExcName → Option Value) (mg mb : Str → Option Value) (cs : Scope) (outer : List Env) (A₀ : Around) (base h₀ : Heap) (L : Addr) (m : Str → Option Value) (news : List (Addr × Obj)) (s : Shared) : Prop where
  B : Below A₀ base outer h₀
  F : Fr h₀ L s.heap m
  X : (Mine.hd.heap_39 w.params).In h₀
  N : News h₀ L s.heap news
  T : Top Mine.hd.view_39 LOOSE mean mg mb h₀
  hk : cs.kind = .function
end Mine
end

/-! ## XB -/
section
open PySem PySem.W PySem.W.X PyProof.Rows PySem.Calls PySem.Spec
set_option maxRecDepth 100000
namespace Mine
theorem mem_keep {h₀ h : Heap} {nw : List (Addr × Obj)} (D : Mem h₀ h [] nw) : ∀ b o, h₀.get? b = some o → h.get? b = some o := fun b o e => D.keep b o e (by simp [away])
theorem mem_fr {h₀ g h : Heap} {L : Addr} {m : Str → Option Value} {nw : List (Addr × Obj)} (F : Fr h₀ L g m) (D : Mem g h [] nw) : Fr h₀ L h m := F.keeps (mem_keep D)
theorem mem_new {h₀ g h : Heap} {L : Addr} {m : Str → Option Value} {nw news : List (Addr × Obj)} (F : Fr h₀ L g m) (N : News h₀ L g news) (D : Mem g h [] nw) : News h₀ L h (nw ++ news) := by
  intro p hp
  rcases List.mem_append.mp hp with hp | hp
  · have z := D.nw p hp
    refine ⟨z.1, fun e => ?_, ?_⟩
    · obtain ⟨o, es, ep, ho, _⟩ := F.ns
      rw [e] at z
      rw [z.2] at ho; cases ho
    · cases q : h₀.get? p.1 with
      | none => rfl
      | some o => have := F.keep _ _ q; rw [z.2] at this; cases this
  · have z := N p hp
    exact ⟨mem_keep D _ _ z.1, z.2⟩
theorem mem_news {h₀ g h : Heap} {L : Addr} {m : Str → Option Value} {nw news : List (Addr × Obj)} (F : Fr h₀ L g m) (N : News h₀ L g news) (D : Mem g h [] nw) : News h₀ L h news := fun p hp => mem_new F N D p (List.mem_append_right _ hp)
end Mine
end

/-! ## FM0 -/
section
open PySem
set_option maxRecDepth 100000
namespace Mine
namespace RE
open PySem.Sre
def CODE : Array Nat := #[14, 4, 0, 2, 5, 17, 0, 24, 11, 0, 1, 13, 6, 16, 43, 16, 45, 0, 1, 17, 1, 17, 2, 24, 10, 0, 2, 13, 5, 22, 48, 57, 0, 1, 17, 3, 17, 4, 24, 9, 2, 2, 13, 4, 8, 14, 0, 1, 17, 5, 1]
/-- the sign, the digit, the word: the three tests of the rule -/
def okSign (c : Nat) : Bool := c == 43 || c == 45
def okDigit (c : Nat) : Bool := 48 ≤ c && c ≤ 57
theorem set_sign (c : Nat) (σ : Seen) : ∃ σ', accepts CODE 11 c σ = .ok (okSign c, σ') := by
  by_cases h : c = 43
  · subst h; exact ⟨_, rfl⟩
  · by_cases h2 : c = 45
    · subst h2; exact ⟨_, rfl⟩
    · have e : okSign c = false := by simp [okSign, h, h2]
      rw [e]
      have h' : (c == 43) = false := by simp [h]
      have h2' : (c == 45) = false := by simp [h2]
      show ∃ σ', inSet CODE c 51 13 true σ = Except.ok (false, σ')
      rw [inSet]
      show ∃ σ', (if (c == 43) = true then _ else inSet CODE c 50 15 true _) = Except.ok (false, σ')
      rw [h', if_neg (by decide)]
      rw [inSet]
      show ∃ σ', (if (c == 45) = true then _ else inSet CODE c 49 17 true _) = Except.ok (false, σ')
      rw [h2', if_neg (by decide)]
      exact ⟨_, rfl⟩
theorem set_digit (c : Nat) (σ : Seen) : ∃ σ', accepts CODE 27 c σ = .ok (okDigit c, σ') := by
  show ∃ σ', inSet CODE c 51 29 true σ = Except.ok (decide (48 ≤ c) && decide (c ≤ 57), σ')
  rw [inSet]
  show ∃ σ', (if (decide (48 ≤ c) && decide (c ≤ 57)) = true then _ else _) = Except.ok (decide (48 ≤ c) && decide (c ≤ 57), σ')
  cases (decide (48 ≤ c) && decide (c ≤ 57)) with
  | true => rw [if_pos rfl]; exact ⟨_, rfl⟩
  | false => rw [if_neg (by decide)]; exact ⟨_, rfl⟩
theorem set_word (c : Nat) (σ : Seen) : ∃ σ', accepts CODE 42 c σ = .ok (isWordUni c, σ') := by
  show ∃ σ', inSet CODE c 51 44 true σ = Except.ok (isWordUni c, σ')
  rw [inSet]
  show ∃ σ', (category 14 c >>= _) = Except.ok (isWordUni c, σ')
  unfold category
  show ∃ σ', ((Except.ok (isWordUni c)).map _ >>= _) = Except.ok (isWordUni c, σ')
  cases isWordUni c with
  | true => exact ⟨_, rfl⟩
  | false => exact ⟨_, rfl⟩
/-- two texts that the rule cannot tell apart -/
structure Alike (T T' : Array Nat) : Prop where
  s0 : okSign (T.getD 0 0) = okSign (T'.getD 0 0)
  dg : ∀ p, p < 3 → okDigit (T.getD p 0) = okDigit (T'.getD p 0)
  wd : ∀ p, p < 5 → isWordUni (T.getD p 0) = isWordUni (T'.getD p 0)
theorem run_alike {code T T' : Array Nat} {i : Nat} {ok : Nat → Bool} (ha : ∀ c σ, ∃ σ', accepts code i c σ = .ok (ok c, σ')) :
   ∀ n p, (∀ q, p ≤ q → q < p + n → ok (T.getD q 0) = ok (T'.getD q 0)) → ∀ found σ σ', ∃ k ρ ρ', Sre.run code T i n p found σ = .ok (k, ρ) ∧ Sre.run code T' i n p found σ' = .ok (k, ρ')
  | 0, p, _, found, σ, σ' => ⟨found, σ, σ', rfl, rfl⟩
  | n + 1, p, h, found, σ, σ' => by
    obtain ⟨τ, e⟩ := ha (T.getD p 0) σ
    obtain ⟨τ', e'⟩ := ha (T'.getD p 0) σ'
    have hp := h p (Nat.le_refl _) (by omega)
    rw [Sre.run, Sre.run, e, e']
    show ∃ k ρ ρ', (if ok (T.getD p 0) = true then Sre.run code T i n (p + 1) (found + 1) τ else pure (found, τ)) = _ ∧ (if ok (T'.getD p 0) = true then Sre.run code T' i n (p + 1) (found + 1) τ' else pure (found, τ')) = _
    rw [← hp]
    split
    · exact run_alike ha n (p + 1) (fun q h1 h2 => h q (by omega) (by omega)) (found + 1) τ τ'
    · exact ⟨found, τ, τ', rfl, rfl⟩
def goodPc (m : Sre.M) : Bool := m.pc == 5 || m.pc == 19 || m.pc == 21 || m.pc == 34 || m.pc == 36 || m.pc == 48 || (m.pc == 7 && m.pos == 0) || (m.pc == 23 && m.pos ≤ 1) || (m.pc == 38 && m.pos ≤ 3) || (m.pc == 50 && m.pos ≤ 5)
def good (m : Sre.M) : Bool := match m.answer, m.frames with
  | some _, [] => true
  | some _, f :: _ => (match f.wait with | .giveBack => true | _ => false)
  | none, _ => goodPc m
def Lims (l l' : Nat) : Prop := l = l' ∨ (6 ≤ l ∧ 6 ≤ l')
/-- the same state over the other text -/
def Twin (T : Array Nat) (t₀ : Array Nat) (l l₀ : Nat) (m m' : Sre.M) : Prop := ∃ σ, m' = { m with text := T, seen := σ, lim := l } ∧ m.code = CODE ∧ m.text = t₀ ∧ m.lim = l₀
theorem twin_attempt {T t₀ : Array Nat} {l l₀ : Nat} {m m' : Sre.M} (h : Twin T t₀ l l₀ m m') (f : Sre.Frame) (t p : Nat) (o : Bool) : Twin T t₀ l l₀ (m.attempt f t p o) (m'.attempt f t p o) := by
  obtain ⟨σ, rfl, hc, ht, hl⟩ := h
  unfold M.attempt
  dsimp only
  by_cases h : m.weight + 1 + f.kept.marks.size > 16777216
  · rw [if_pos h, if_pos h]; exact ⟨σ, rfl, hc, ht, hl⟩
  · rw [if_neg h, if_neg h]; exact ⟨σ, rfl, hc, ht, hl⟩
theorem twin_afterRun {T t₀ : Array Nat} {l l₀ : Nat} {m m' : Sre.M} (h : Twin T t₀ l l₀ m m') (w : Wait) (n : Int) (k : Sre.Kept) : Twin T t₀ l l₀ (m.afterRun w n k) (m'.afterRun w n k) := by
  obtain ⟨σ, rfl, hc, ht, hl⟩ := h
  unfold M.afterRun
  exact twin_attempt ⟨σ, rfl, hc, ht, hl⟩ _ _ _ _
theorem twin_ite {T t₀ : Array Nat} {l l₀ : Nat} {c c' : Prop} [Decidable c] [Decidable c'] {a b a' b' : Sre.M} (hc : c ↔ c') (h1 : c → Twin T t₀ l l₀ a a') (h2 : ¬ c → Twin T t₀ l l₀ b b') : Twin T t₀ l l₀ (if c then a else b) (if c' then a' else b') := by
  by_cases h : c
  · rw [if_pos h, if_pos (hc.mp h)]; exact h1 h
  · rw [if_neg h, if_neg (fun x => h (hc.mpr x))]; exact h2 h
theorem twin_repeat {T : Array Nat} {l : Nat} {m : Sre.M} {σ : Seen} {ok : Nat → Bool} (hc : m.code = CODE) (hop : ops[m.code.getD m.pc 0]? = some .REPEAT_ONE) (ha : ∀ c σ, ∃ σ', accepts m.code (m.pc + 4) c σ = .ok (ok c, σ'))
   (hT : ∀ q, m.pos ≤ q → q < m.pos + m.code.getD (m.pc + 3) 0 → ok (m.text.getD q 0) = ok (T.getD q 0)) (hl : Lims m.lim l) (hp : m.pos ≤ 3) (h2 : m.code.getD (m.pc + 2) 0 ≤ 2) (h3 : m.code.getD (m.pc + 3) 0 ≤ 2) : Twin T m.text l m.lim m.exec ({ m with text := T, seen := σ, lim := l } : Sre.M).exec := by
  unfold Sre.M.exec
  obtain ⟨code, text, lim, start, lastStart, wholeText, mustAdvance, pc, pos, handed, outermost, marks, lastmark, lastindex, loops, inner, frames, weight, answer, seen, outcome⟩ := m
  dsimp only [M.word] at hop ha hT hc hl hp h2 h3 ⊢
  rw [Nat.add_zero, hop]
  dsimp only
  refine twin_ite (by rcases hl with hl | hl <;> omega) (fun _ => ⟨_, rfl, hc, rfl, rfl⟩) (fun hroom => ?_)
  have hm : min (code.getD (pc + 3) 0) ((l : Int) - (pos : Int)).toNat = min (code.getD (pc + 3) 0) ((lim : Int) - (pos : Int)).toNat := by rcases hl with hl | hl <;> omega
  obtain ⟨k, ρ, ρ', e, e'⟩ := run_alike (T := text) (T' := T) ha (min (code.getD (pc + 3) 0) ((lim : Int) - (pos : Int)).toNat) pos (fun q h1 h2 => hT q h1 (by omega)) 0 ((seen.add (code.getD pc 0)).add (code.getD (pc + 4) 0)) ((σ.add (code.getD pc 0)).add (code.getD (pc + 4) 0))
  rw [if_neg (by decide), hm, e, e']
  dsimp only
  refine twin_ite Iff.rfl (fun _ => ⟨_, rfl, hc, rfl, rfl⟩) (fun _ => twin_afterRun ?_ _ _ _)
  exact ⟨ρ', rfl, hc, rfl, rfl⟩
theorem twin_step {T : Array Nat} {l : Nat} {m m' : Sre.M} (hA : Alike m.text T) (hl : Lims m.lim l) (hg : good m = true) (h : Twin T m.text l m.lim m m') : Twin T m.text l m.lim m.step m'.step := by
  obtain ⟨σ, rfl, hc, -⟩ := h
  unfold M.step
  dsimp only
  by_cases ho : m.outcome.isSome = true
  · rw [if_pos ho, if_pos ho]; exact ⟨σ, rfl, hc, rfl, rfl⟩
  rw [if_neg ho, if_neg ho]
  obtain ⟨code, text, lim, start, lastStart, wholeText, mustAdvance, pc, pos, handed, outermost, marks, lastmark, lastindex, loops, inner, frames, weight, answer, seen, outcome⟩ := m
  dsimp only at hc
  cases answer with
  | some yes =>
    cases frames with
    | nil => exact ⟨σ, rfl, hc, rfl, rfl⟩
    | cons f rest =>
      obtain ⟨wait, fpc, fpos, fo, count, kept, loop, began⟩ := f
      cases wait <;> first | exact (Bool.noConfusion (show false = true from hg)) | skip
      unfold M.resume
      dsimp only
      by_cases hy : yes = true
      · rw [if_pos hy, if_pos hy]; exact ⟨σ, rfl, hc, rfl, rfl⟩
      · rw [if_neg hy, if_neg hy]
        dsimp only [M.word]
        refine twin_ite Iff.rfl (fun _ => ⟨σ, rfl, hc, rfl, rfl⟩) (fun _ => twin_afterRun ?_ _ _ _)
        exact ⟨σ, rfl, hc, rfl, rfl⟩
  | none =>
    subst hc
    by_cases hs : pc < CODE.size
    · dsimp only
      rw [if_pos hs, if_pos hs]
      have hg' : goodPc (⟨CODE, text, lim, start, lastStart, wholeText, mustAdvance, pc, pos, handed, outermost, marks, lastmark, lastindex, loops, inner, frames, weight, none, seen, outcome⟩ : Sre.M) = true := hg
      simp only [goodPc, Bool.or_eq_true, Bool.and_eq_true, beq_iff_eq, decide_eq_true_eq] at hg'
      have hsucc : ∀ m : Sre.M, m.code = CODE → Lims m.lim l → m.pos ≤ 5 → ops[m.word 0]? = some .SUCCESS → Twin T m.text l m.lim m.exec ({ m with text := T, seen := σ, lim := l } : Sre.M).exec := by
        intro m hc hl hp hm
        unfold M.exec
        dsimp only [M.word] at hm ⊢
        rw [hm]
        dsimp only
        refine twin_ite ?_ (fun _ => ⟨_, rfl, hc, rfl, rfl⟩) (fun _ => ⟨_, rfl, hc, rfl, rfl⟩)
        rcases hl with hl | hl
        · rw [hl]
        · have e1 : (m.pos != m.lim) = true := by simp only [bne_iff_ne]; omega
          have e2 : (m.pos != l) = true := by simp only [bne_iff_ne]; omega
          rw [e1, e2]
      rcases hg' with (((((((((rfl | rfl) | rfl) | rfl) | rfl) | rfl) | ⟨rfl, rfl⟩) | ⟨rfl, hp⟩) | ⟨rfl, hp⟩) | ⟨rfl, hp⟩)
      · exact ⟨_, rfl, rfl, rfl, rfl⟩
      · exact ⟨_, rfl, rfl, rfl, rfl⟩
      · exact ⟨_, rfl, rfl, rfl, rfl⟩
      · exact ⟨_, rfl, rfl, rfl, rfl⟩
      · exact ⟨_, rfl, rfl, rfl, rfl⟩
      · exact ⟨_, rfl, rfl, rfl, rfl⟩
      · refine twin_repeat (m := (⟨CODE, text, lim, start, lastStart, wholeText, mustAdvance, 7, 0, handed, outermost, marks, lastmark, lastindex, loops, inner, frames, weight, none, seen, outcome⟩ : Sre.M)) (ok := okSign) ?_ ?_ ?_ ?_ hl ?_ ?_ ?_ <;> first | exact rfl | exact set_sign | exact Nat.le_of_ble_eq_true rfl | skip
        intro q h1 h2
        have : q < 0 + 1 := h2
        have : q = 0 := by omega
        subst this; exact hA.s0
      · refine twin_repeat (m := (⟨CODE, text, lim, start, lastStart, wholeText, mustAdvance, 23, pos, handed, outermost, marks, lastmark, lastindex, loops, inner, frames, weight, none, seen, outcome⟩ : Sre.M)) (ok := okDigit) ?_ ?_ ?_ ?_ hl (Nat.le_trans hp (Nat.le_of_ble_eq_true rfl)) ?_ ?_ <;> first | exact rfl | exact set_digit | exact Nat.le_of_ble_eq_true rfl | skip
        intro q h1 h2
        have : q < pos + 2 := h2
        exact hA.dg q (by omega)
      · refine twin_repeat (m := (⟨CODE, text, lim, start, lastStart, wholeText, mustAdvance, 38, pos, handed, outermost, marks, lastmark, lastindex, loops, inner, frames, weight, none, seen, outcome⟩ : Sre.M)) (ok := isWordUni) ?_ ?_ ?_ ?_ hl hp ?_ ?_ <;> first | exact rfl | exact set_word | exact Nat.le_of_ble_eq_true rfl | skip
        intro q h1 h2
        have : q < pos + 2 := h2
        exact hA.wd q (by omega)
      · exact hsucc (⟨CODE, text, lim, start, lastStart, wholeText, mustAdvance, 50, pos, handed, outermost, marks, lastmark, lastindex, loops, inner, frames, weight, none, seen, outcome⟩ : Sre.M) rfl hl hp rfl
    · dsimp only
      rw [if_neg hs, if_neg hs]; exact ⟨σ, rfl, rfl, rfl, rfl⟩
/-- n steps, all of them over good states -/
def goodRun : Nat → Sre.M → Bool
  | 0, _ => true
  | n + 1, m => m.outcome.isSome || (good m && goodRun n m.step)
theorem twin_run {T : Array Nat} {l : Nat} : ∀ (n : Nat) {m m' : Sre.M}, Alike m.text T → Lims m.lim l → goodRun n m = true → Twin T m.text l m.lim m m' → Twin T m.text l m.lim (m.runFor n) (m'.runFor n)
  | 0, _, _, _, _, _, h => h
  | n + 1, m, m', hA, hl, hg, h => by
    rw [M.runFor, M.runFor]
    obtain ⟨σ, rfl, hc, -⟩ := h
    dsimp only
    by_cases ho : m.outcome.isSome = true
    · rw [if_pos ho, if_pos ho]; exact ⟨σ, rfl, hc, rfl, rfl⟩
    rw [if_neg ho, if_neg ho]
    have hg' : good m = true ∧ goodRun n m.step = true := by
      rw [goodRun] at hg; simpa [ho] using hg
    have hs := twin_step hA hl hg'.1 ⟨σ, rfl, hc, rfl, rfl⟩
    have ht : m.step.text = m.text := by obtain ⟨_, _, _, h, _⟩ := hs; exact h
    have ht' : m.step.lim = m.lim := by obtain ⟨_, _, _, _, h⟩ := hs; exact h
    rw [← ht, ← ht']
    exact twin_run n (ht ▸ hA) (ht' ▸ hl) hg'.2 (ht'.symm ▸ ht.symm ▸ hs)
end RE
end Mine
end

/-! ## FM1 -/
section
open PySem
set_option maxRecDepth 100000
namespace Mine
namespace RE
open PySem.Sre
def tx (n c0 c1 c2 c3 c4 : Nat) : Array Nat := ((List.range n).map fun p => [c0, c1, c2, c3, c4].getD p 32).toArray
def fits (T : Array Nat) (n a : Nat) : Bool := a + 2 ≤ n && n ≤ a + 4 && (a == 0 || okSign (T.getD 0 0)) && (a + 2 == n || okDigit (T.getD a 0)) && (n ≤ a + 3 || okDigit (T.getD (a + 1) 0)) && isWordUni (T.getD (n - 2) 0) && isWordUni (T.getD (n - 1) 0)
def mach (T : Array Nat) (n : Nat) : Sre.M := forMatch CODE T 3 0 n true false
def marked (m : Sre.M) (a b n : Nat) : Bool := m.marks == #[some 0, some a, some a, some b, some b, some n] && m.lastmark == 5 && m.start == 0 && m.handed == n
def told (T : Array Nat) (n : Nat) (m : Sre.M) : Bool :=
  match m.outcome with
  | some .matched => if fits T n 0 then marked m 0 (n - 2) n else fits T n 1 && marked m 1 (n - 2) n
  | some .failed => !fits T n 0 && !fits T n 1
  | _ => false
def STEPS : Nat := 80
def check (n c0 c1 c2 c3 c4 : Nat) : Bool := let T := tx n c0 c1 c2 c3 c4; goodRun STEPS (mach T n) && told T n ((mach T n).runFor STEPS)
theorem m2 {P : Nat → Prop} {c : Nat} (h : c ∈ [65, 32]) (a : P 65) (b : P 32) : P c := by
  simp only [List.mem_cons, List.not_mem_nil, or_false] at h
  rcases h with rfl | rfl <;> assumption
theorem m3 {P : Nat → Prop} {c : Nat} (h : c ∈ [48, 65, 32]) (a : P 48) (b : P 65) (d : P 32) : P c := by
  simp only [List.mem_cons, List.not_mem_nil, or_false] at h
  rcases h with rfl | rfl | rfl <;> assumption
theorem m4 {P : Nat → Prop} {c : Nat} (h : c ∈ [43, 48, 65, 32]) (a : P 43) (b : P 48) (d : P 65) (e : P 32) : P c := by
  simp only [List.mem_cons, List.not_mem_nil, or_false] at h
  rcases h with rfl | rfl | rfl | rfl <;> assumption
set_option maxHeartbeats 0
theorem run0 (c0 c1 c2 c3 c4 : Nat) : check 0 c0 c1 c2 c3 c4 = true := by kernel_rfl
theorem run1_43 (c1 c2 c3 c4 : Nat) : check 1 43 c1 c2 c3 c4 = true := by kernel_rfl
theorem run1_48 (c1 c2 c3 c4 : Nat) : check 1 48 c1 c2 c3 c4 = true := by kernel_rfl
theorem run1_65 (c1 c2 c3 c4 : Nat) : check 1 65 c1 c2 c3 c4 = true := by kernel_rfl
theorem run1_32 (c1 c2 c3 c4 : Nat) : check 1 32 c1 c2 c3 c4 = true := by kernel_rfl
theorem run2_43_48 (c2 c3 c4 : Nat) : check 2 43 48 c2 c3 c4 = true := by kernel_rfl
theorem run2_43_65 (c2 c3 c4 : Nat) : check 2 43 65 c2 c3 c4 = true := by kernel_rfl
theorem run2_43_32 (c2 c3 c4 : Nat) : check 2 43 32 c2 c3 c4 = true := by kernel_rfl
theorem run2_48_48 (c2 c3 c4 : Nat) : check 2 48 48 c2 c3 c4 = true := by kernel_rfl
theorem run2_48_65 (c2 c3 c4 : Nat) : check 2 48 65 c2 c3 c4 = true := by kernel_rfl
theorem run2_48_32 (c2 c3 c4 : Nat) : check 2 48 32 c2 c3 c4 = true := by kernel_rfl
theorem run2_65_48 (c2 c3 c4 : Nat) : check 2 65 48 c2 c3 c4 = true := by kernel_rfl
theorem run2_65_65 (c2 c3 c4 : Nat) : check 2 65 65 c2 c3 c4 = true := by kernel_rfl
theorem run2_65_32 (c2 c3 c4 : Nat) : check 2 65 32 c2 c3 c4 = true := by kernel_rfl
theorem run2_32 (c1 c2 c3 c4 : Nat) : check 2 32 c1 c2 c3 c4 = true := by kernel_rfl
theorem run3_43_48_48 (c3 c4 : Nat) : check 3 43 48 48 c3 c4 = true := by kernel_rfl
theorem run3_43_48_65 (c3 c4 : Nat) : check 3 43 48 65 c3 c4 = true := by kernel_rfl
theorem run3_43_48_32 (c3 c4 : Nat) : check 3 43 48 32 c3 c4 = true := by kernel_rfl
theorem run3_43_65_48 (c3 c4 : Nat) : check 3 43 65 48 c3 c4 = true := by kernel_rfl
theorem run3_43_65_65 (c3 c4 : Nat) : check 3 43 65 65 c3 c4 = true := by kernel_rfl
theorem run3_43_65_32 (c3 c4 : Nat) : check 3 43 65 32 c3 c4 = true := by kernel_rfl
theorem run3_43_32 (c2 c3 c4 : Nat) : check 3 43 32 c2 c3 c4 = true := by kernel_rfl
theorem run3_48_48_48 (c3 c4 : Nat) : check 3 48 48 48 c3 c4 = true := by kernel_rfl
theorem run3_48_48_65 (c3 c4 : Nat) : check 3 48 48 65 c3 c4 = true := by kernel_rfl
theorem run3_48_48_32 (c3 c4 : Nat) : check 3 48 48 32 c3 c4 = true := by kernel_rfl
theorem run3_48_65_48 (c3 c4 : Nat) : check 3 48 65 48 c3 c4 = true := by kernel_rfl
theorem run3_48_65_65 (c3 c4 : Nat) : check 3 48 65 65 c3 c4 = true := by kernel_rfl
theorem run3_48_65_32 (c3 c4 : Nat) : check 3 48 65 32 c3 c4 = true := by kernel_rfl
theorem run3_48_32 (c2 c3 c4 : Nat) : check 3 48 32 c2 c3 c4 = true := by kernel_rfl
theorem run3_65_48 (c2 c3 c4 : Nat) : check 3 65 48 c2 c3 c4 = true := by kernel_rfl
theorem run3_65_65 (c2 c3 c4 : Nat) : check 3 65 65 c2 c3 c4 = true := by kernel_rfl
theorem run3_65_32 (c2 c3 c4 : Nat) : check 3 65 32 c2 c3 c4 = true := by kernel_rfl
theorem run3_32 (c1 c2 c3 c4 : Nat) : check 3 32 c1 c2 c3 c4 = true := by kernel_rfl
theorem run4_43_48_48_65 (c4 : Nat) : check 4 43 48 48 65 c4 = true := by kernel_rfl
theorem run4_43_48_48_32 (c4 : Nat) : check 4 43 48 48 32 c4 = true := by kernel_rfl
theorem run4_43_48_65_65 (c4 : Nat) : check 4 43 48 65 65 c4 = true := by kernel_rfl
theorem run4_43_48_65_32 (c4 : Nat) : check 4 43 48 65 32 c4 = true := by kernel_rfl
theorem run4_43_48_32 (c3 c4 : Nat) : check 4 43 48 32 c3 c4 = true := by kernel_rfl
theorem run4_43_65_48 (c3 c4 : Nat) : check 4 43 65 48 c3 c4 = true := by kernel_rfl
theorem run4_43_65_65 (c3 c4 : Nat) : check 4 43 65 65 c3 c4 = true := by kernel_rfl
theorem run4_43_65_32 (c3 c4 : Nat) : check 4 43 65 32 c3 c4 = true := by kernel_rfl
theorem run4_43_32 (c2 c3 c4 : Nat) : check 4 43 32 c2 c3 c4 = true := by kernel_rfl
theorem run4_48_48_48_65 (c4 : Nat) : check 4 48 48 48 65 c4 = true := by kernel_rfl
theorem run4_48_48_48_32 (c4 : Nat) : check 4 48 48 48 32 c4 = true := by kernel_rfl
theorem run4_48_48_65_65 (c4 : Nat) : check 4 48 48 65 65 c4 = true := by kernel_rfl
theorem run4_48_48_65_32 (c4 : Nat) : check 4 48 48 65 32 c4 = true := by kernel_rfl
theorem run4_48_48_32 (c3 c4 : Nat) : check 4 48 48 32 c3 c4 = true := by kernel_rfl
theorem run4_48_65_48 (c3 c4 : Nat) : check 4 48 65 48 c3 c4 = true := by kernel_rfl
theorem run4_48_65_65 (c3 c4 : Nat) : check 4 48 65 65 c3 c4 = true := by kernel_rfl
theorem run4_48_65_32 (c3 c4 : Nat) : check 4 48 65 32 c3 c4 = true := by kernel_rfl
theorem run4_48_32 (c2 c3 c4 : Nat) : check 4 48 32 c2 c3 c4 = true := by kernel_rfl
theorem run4_65_48 (c2 c3 c4 : Nat) : check 4 65 48 c2 c3 c4 = true := by kernel_rfl
theorem run4_65_65 (c2 c3 c4 : Nat) : check 4 65 65 c2 c3 c4 = true := by kernel_rfl
theorem run4_65_32 (c2 c3 c4 : Nat) : check 4 65 32 c2 c3 c4 = true := by kernel_rfl
theorem run4_32 (c1 c2 c3 c4 : Nat) : check 4 32 c1 c2 c3 c4 = true := by kernel_rfl
theorem run5_43_48_48_65_65 : check 5 43 48 48 65 65 = true := by kernel_rfl
theorem run5_43_48_48_65_32 : check 5 43 48 48 65 32 = true := by kernel_rfl
theorem run5_43_48_48_32 (c4 : Nat) : check 5 43 48 48 32 c4 = true := by kernel_rfl
theorem run5_43_48_65_65 (c4 : Nat) : check 5 43 48 65 65 c4 = true := by kernel_rfl
theorem run5_43_48_65_32 (c4 : Nat) : check 5 43 48 65 32 c4 = true := by kernel_rfl
theorem run5_43_48_32 (c3 c4 : Nat) : check 5 43 48 32 c3 c4 = true := by kernel_rfl
theorem run5_43_65_48 (c3 c4 : Nat) : check 5 43 65 48 c3 c4 = true := by kernel_rfl
theorem run5_43_65_65 (c3 c4 : Nat) : check 5 43 65 65 c3 c4 = true := by kernel_rfl
theorem run5_43_65_32 (c3 c4 : Nat) : check 5 43 65 32 c3 c4 = true := by kernel_rfl
theorem run5_43_32 (c2 c3 c4 : Nat) : check 5 43 32 c2 c3 c4 = true := by kernel_rfl
theorem run5_48_48_48_65 (c4 : Nat) : check 5 48 48 48 65 c4 = true := by kernel_rfl
theorem run5_48_48_48_32 (c4 : Nat) : check 5 48 48 48 32 c4 = true := by kernel_rfl
theorem run5_48_48_65_65 (c4 : Nat) : check 5 48 48 65 65 c4 = true := by kernel_rfl
theorem run5_48_48_65_32 (c4 : Nat) : check 5 48 48 65 32 c4 = true := by kernel_rfl
theorem run5_48_48_32 (c3 c4 : Nat) : check 5 48 48 32 c3 c4 = true := by kernel_rfl
theorem run5_48_65_48 (c3 c4 : Nat) : check 5 48 65 48 c3 c4 = true := by kernel_rfl
theorem run5_48_65_65 (c3 c4 : Nat) : check 5 48 65 65 c3 c4 = true := by kernel_rfl
theorem run5_48_65_32 (c3 c4 : Nat) : check 5 48 65 32 c3 c4 = true := by kernel_rfl
theorem run5_48_32 (c2 c3 c4 : Nat) : check 5 48 32 c2 c3 c4 = true := by kernel_rfl
theorem run5_65_48 (c2 c3 c4 : Nat) : check 5 65 48 c2 c3 c4 = true := by kernel_rfl
theorem run5_65_65 (c2 c3 c4 : Nat) : check 5 65 65 c2 c3 c4 = true := by kernel_rfl
theorem run5_65_32 (c2 c3 c4 : Nat) : check 5 65 32 c2 c3 c4 = true := by kernel_rfl
theorem run5_32 (c1 c2 c3 c4 : Nat) : check 5 32 c1 c2 c3 c4 = true := by kernel_rfl
theorem run6_43_48_48_65_65 : check 6 43 48 48 65 65 = true := by kernel_rfl
theorem run6_43_48_48_65_32 : check 6 43 48 48 65 32 = true := by kernel_rfl
theorem run6_43_48_48_32 (c4 : Nat) : check 6 43 48 48 32 c4 = true := by kernel_rfl
theorem run6_43_48_65_65 (c4 : Nat) : check 6 43 48 65 65 c4 = true := by kernel_rfl
theorem run6_43_48_65_32 (c4 : Nat) : check 6 43 48 65 32 c4 = true := by kernel_rfl
theorem run6_43_48_32 (c3 c4 : Nat) : check 6 43 48 32 c3 c4 = true := by kernel_rfl
theorem run6_43_65_48 (c3 c4 : Nat) : check 6 43 65 48 c3 c4 = true := by kernel_rfl
theorem run6_43_65_65 (c3 c4 : Nat) : check 6 43 65 65 c3 c4 = true := by kernel_rfl
theorem run6_43_65_32 (c3 c4 : Nat) : check 6 43 65 32 c3 c4 = true := by kernel_rfl
theorem run6_43_32 (c2 c3 c4 : Nat) : check 6 43 32 c2 c3 c4 = true := by kernel_rfl
theorem run6_48_48_48_65 (c4 : Nat) : check 6 48 48 48 65 c4 = true := by kernel_rfl
theorem run6_48_48_48_32 (c4 : Nat) : check 6 48 48 48 32 c4 = true := by kernel_rfl
theorem run6_48_48_65_65 (c4 : Nat) : check 6 48 48 65 65 c4 = true := by kernel_rfl
theorem run6_48_48_65_32 (c4 : Nat) : check 6 48 48 65 32 c4 = true := by kernel_rfl
theorem run6_48_48_32 (c3 c4 : Nat) : check 6 48 48 32 c3 c4 = true := by kernel_rfl
theorem run6_48_65_48 (c3 c4 : Nat) : check 6 48 65 48 c3 c4 = true := by kernel_rfl
theorem run6_48_65_65 (c3 c4 : Nat) : check 6 48 65 65 c3 c4 = true := by kernel_rfl
theorem run6_48_65_32 (c3 c4 : Nat) : check 6 48 65 32 c3 c4 = true := by kernel_rfl
theorem run6_48_32 (c2 c3 c4 : Nat) : check 6 48 32 c2 c3 c4 = true := by kernel_rfl
theorem run6_65_48 (c2 c3 c4 : Nat) : check 6 65 48 c2 c3 c4 = true := by kernel_rfl
theorem run6_65_65 (c2 c3 c4 : Nat) : check 6 65 65 c2 c3 c4 = true := by kernel_rfl
theorem run6_65_32 (c2 c3 c4 : Nat) : check 6 65 32 c2 c3 c4 = true := by kernel_rfl
theorem run6_32 (c1 c2 c3 c4 : Nat) : check 6 32 c1 c2 c3 c4 = true := by kernel_rfl
theorem ck0 {c0 c1 c2 c3 c4 : Nat} (h0 : c0 ∈ [43, 48, 65, 32]) (h1 : c1 ∈ [48, 65, 32]) (h2 : c2 ∈ [48, 65, 32]) (h3 : c3 ∈ [65, 32]) (h4 : c4 ∈ [65, 32]) : check 0 c0 c1 c2 c3 c4 = true :=
  (run0 c0 c1 c2 c3 c4)
theorem ck1 {c0 c1 c2 c3 c4 : Nat} (h0 : c0 ∈ [43, 48, 65, 32]) (h1 : c1 ∈ [48, 65, 32]) (h2 : c2 ∈ [48, 65, 32]) (h3 : c3 ∈ [65, 32]) (h4 : c4 ∈ [65, 32]) : check 1 c0 c1 c2 c3 c4 = true :=
  (m4 (P := fun c => check 1 c c1 c2 c3 c4 = true) h0 (run1_43 c1 c2 c3 c4) (run1_48 c1 c2 c3 c4) (run1_65 c1 c2 c3 c4) (run1_32 c1 c2 c3 c4))
theorem ck2 {c0 c1 c2 c3 c4 : Nat} (h0 : c0 ∈ [43, 48, 65, 32]) (h1 : c1 ∈ [48, 65, 32]) (h2 : c2 ∈ [48, 65, 32]) (h3 : c3 ∈ [65, 32]) (h4 : c4 ∈ [65, 32]) : check 2 c0 c1 c2 c3 c4 = true :=
  (m4 (P := fun c => check 2 c c1 c2 c3 c4 = true) h0 (m3 (P := fun c => check 2 43 c c2 c3 c4 = true) h1 (run2_43_48 c2 c3 c4) (run2_43_65 c2 c3 c4) (run2_43_32 c2 c3 c4)) (m3 (P := fun c => check 2 48 c c2 c3 c4 = true) h1 (run2_48_48 c2 c3 c4) (run2_48_65 c2 c3 c4) (run2_48_32 c2 c3 c4)) (m3 (P := fun c => check 2 65 c c2 c3 c4 = true) h1 (run2_65_48 c2 c3 c4) (run2_65_65 c2 c3 c4) (run2_65_32 c2 c3 c4)) (run2_32 c1 c2 c3 c4))
theorem ck3 {c0 c1 c2 c3 c4 : Nat} (h0 : c0 ∈ [43, 48, 65, 32]) (h1 : c1 ∈ [48, 65, 32]) (h2 : c2 ∈ [48, 65, 32]) (h3 : c3 ∈ [65, 32]) (h4 : c4 ∈ [65, 32]) : check 3 c0 c1 c2 c3 c4 = true :=
  (m4 (P := fun c => check 3 c c1 c2 c3 c4 = true) h0 (m3 (P := fun c => check 3 43 c c2 c3 c4 = true) h1 (m3 (P := fun c => check 3 43 48 c c3 c4 = true) h2 (run3_43_48_48 c3 c4) (run3_43_48_65 c3 c4) (run3_43_48_32 c3 c4)) (m3 (P := fun c => check 3 43 65 c c3 c4 = true) h2 (run3_43_65_48 c3 c4) (run3_43_65_65 c3 c4) (run3_43_65_32 c3 c4)) (run3_43_32 c2 c3 c4)) (m3 (P := fun c => check 3 48 c c2 c3 c4 = true) h1 (m3 (P := fun c => check 3 48 48 c c3 c4 = true) h2 (run3_48_48_48 c3 c4) (run3_48_48_65 c3 c4) (run3_48_48_32 c3 c4)) (m3 (P := fun c => check 3 48 65 c c3 c4 = true) h2 (run3_48_65_48 c3 c4) (run3_48_65_65 c3 c4) (run3_48_65_32 c3 c4)) (run3_48_32 c2 c3 c4)) (m3 (P := fun c => check 3 65 c c2 c3 c4 = true) h1 (run3_65_48 c2 c3 c4) (run3_65_65 c2 c3 c4) (run3_65_32 c2 c3 c4)) (run3_32 c1 c2 c3 c4))
theorem ck4 {c0 c1 c2 c3 c4 : Nat} (h0 : c0 ∈ [43, 48, 65, 32]) (h1 : c1 ∈ [48, 65, 32]) (h2 : c2 ∈ [48, 65, 32]) (h3 : c3 ∈ [65, 32]) (h4 : c4 ∈ [65, 32]) : check 4 c0 c1 c2 c3 c4 = true :=
  (m4 (P := fun c => check 4 c c1 c2 c3 c4 = true) h0 (m3 (P := fun c => check 4 43 c c2 c3 c4 = true) h1 (m3 (P := fun c => check 4 43 48 c c3 c4 = true) h2 (m2 (P := fun c => check 4 43 48 48 c c4 = true) h3 (run4_43_48_48_65 c4) (run4_43_48_48_32 c4)) (m2 (P := fun c => check 4 43 48 65 c c4 = true) h3 (run4_43_48_65_65 c4) (run4_43_48_65_32 c4)) (run4_43_48_32 c3 c4)) (m3 (P := fun c => check 4 43 65 c c3 c4 = true) h2 (run4_43_65_48 c3 c4) (run4_43_65_65 c3 c4) (run4_43_65_32 c3 c4)) (run4_43_32 c2 c3 c4)) (m3 (P := fun c => check 4 48 c c2 c3 c4 = true) h1 (m3 (P := fun c => check 4 48 48 c c3 c4 = true) h2 (m2 (P := fun c => check 4 48 48 48 c c4 = true) h3 (run4_48_48_48_65 c4) (run4_48_48_48_32 c4)) (m2 (P := fun c => check 4 48 48 65 c c4 = true) h3 (run4_48_48_65_65 c4) (run4_48_48_65_32 c4)) (run4_48_48_32 c3 c4)) (m3 (P := fun c => check 4 48 65 c c3 c4 = true) h2 (run4_48_65_48 c3 c4) (run4_48_65_65 c3 c4) (run4_48_65_32 c3 c4)) (run4_48_32 c2 c3 c4)) (m3 (P := fun c => check 4 65 c c2 c3 c4 = true) h1 (run4_65_48 c2 c3 c4) (run4_65_65 c2 c3 c4) (run4_65_32 c2 c3 c4)) (run4_32 c1 c2 c3 c4))
theorem ck5 {c0 c1 c2 c3 c4 : Nat} (h0 : c0 ∈ [43, 48, 65, 32]) (h1 : c1 ∈ [48, 65, 32]) (h2 : c2 ∈ [48, 65, 32]) (h3 : c3 ∈ [65, 32]) (h4 : c4 ∈ [65, 32]) : check 5 c0 c1 c2 c3 c4 = true :=
  (m4 (P := fun c => check 5 c c1 c2 c3 c4 = true) h0 (m3 (P := fun c => check 5 43 c c2 c3 c4 = true) h1 (m3 (P := fun c => check 5 43 48 c c3 c4 = true) h2 (m2 (P := fun c => check 5 43 48 48 c c4 = true) h3 (m2 (P := fun c => check 5 43 48 48 65 c = true) h4 run5_43_48_48_65_65 run5_43_48_48_65_32) (run5_43_48_48_32 c4)) (m2 (P := fun c => check 5 43 48 65 c c4 = true) h3 (run5_43_48_65_65 c4) (run5_43_48_65_32 c4)) (run5_43_48_32 c3 c4)) (m3 (P := fun c => check 5 43 65 c c3 c4 = true) h2 (run5_43_65_48 c3 c4) (run5_43_65_65 c3 c4) (run5_43_65_32 c3 c4)) (run5_43_32 c2 c3 c4)) (m3 (P := fun c => check 5 48 c c2 c3 c4 = true) h1 (m3 (P := fun c => check 5 48 48 c c3 c4 = true) h2 (m2 (P := fun c => check 5 48 48 48 c c4 = true) h3 (run5_48_48_48_65 c4) (run5_48_48_48_32 c4)) (m2 (P := fun c => check 5 48 48 65 c c4 = true) h3 (run5_48_48_65_65 c4) (run5_48_48_65_32 c4)) (run5_48_48_32 c3 c4)) (m3 (P := fun c => check 5 48 65 c c3 c4 = true) h2 (run5_48_65_48 c3 c4) (run5_48_65_65 c3 c4) (run5_48_65_32 c3 c4)) (run5_48_32 c2 c3 c4)) (m3 (P := fun c => check 5 65 c c2 c3 c4 = true) h1 (run5_65_48 c2 c3 c4) (run5_65_65 c2 c3 c4) (run5_65_32 c2 c3 c4)) (run5_32 c1 c2 c3 c4))
theorem ck6 {c0 c1 c2 c3 c4 : Nat} (h0 : c0 ∈ [43, 48, 65, 32]) (h1 : c1 ∈ [48, 65, 32]) (h2 : c2 ∈ [48, 65, 32]) (h3 : c3 ∈ [65, 32]) (h4 : c4 ∈ [65, 32]) : check 6 c0 c1 c2 c3 c4 = true :=
  (m4 (P := fun c => check 6 c c1 c2 c3 c4 = true) h0 (m3 (P := fun c => check 6 43 c c2 c3 c4 = true) h1 (m3 (P := fun c => check 6 43 48 c c3 c4 = true) h2 (m2 (P := fun c => check 6 43 48 48 c c4 = true) h3 (m2 (P := fun c => check 6 43 48 48 65 c = true) h4 run6_43_48_48_65_65 run6_43_48_48_65_32) (run6_43_48_48_32 c4)) (m2 (P := fun c => check 6 43 48 65 c c4 = true) h3 (run6_43_48_65_65 c4) (run6_43_48_65_32 c4)) (run6_43_48_32 c3 c4)) (m3 (P := fun c => check 6 43 65 c c3 c4 = true) h2 (run6_43_65_48 c3 c4) (run6_43_65_65 c3 c4) (run6_43_65_32 c3 c4)) (run6_43_32 c2 c3 c4)) (m3 (P := fun c => check 6 48 c c2 c3 c4 = true) h1 (m3 (P := fun c => check 6 48 48 c c3 c4 = true) h2 (m2 (P := fun c => check 6 48 48 48 c c4 = true) h3 (run6_48_48_48_65 c4) (run6_48_48_48_32 c4)) (m2 (P := fun c => check 6 48 48 65 c c4 = true) h3 (run6_48_48_65_65 c4) (run6_48_48_65_32 c4)) (run6_48_48_32 c3 c4)) (m3 (P := fun c => check 6 48 65 c c3 c4 = true) h2 (run6_48_65_48 c3 c4) (run6_48_65_65 c3 c4) (run6_48_65_32 c3 c4)) (run6_48_32 c2 c3 c4)) (m3 (P := fun c => check 6 65 c c2 c3 c4 = true) h1 (run6_65_48 c2 c3 c4) (run6_65_65 c2 c3 c4) (run6_65_32 c2 c3 c4)) (run6_32 c1 c2 c3 c4))
end RE
end Mine
end

/-! ## FM2 -/
section
open PySem
set_option maxRecDepth 100000
namespace Mine
namespace RE
open PySem.Sre
def k0 (c : Nat) : Nat := if okSign c then 43 else if okDigit c then 48 else if isWordUni c then 65 else 32
def kd (c : Nat) : Nat := if okDigit c then 48 else if isWordUni c then 65 else 32
def kw (c : Nat) : Nat := if isWordUni c then 65 else 32
theorem w43 : isWordUni 43 = false := by decide +kernel
theorem w45 : isWordUni 45 = false := by decide +kernel
theorem w48 : isWordUni 48 = true := by decide +kernel
theorem w65 : isWordUni 65 = true := by decide +kernel
theorem w32 : isWordUni 32 = false := by decide +kernel
theorem w0 : isWordUni 0 = false := by decide +kernel
theorem wdig : ∀ c, c < 58 → okDigit c = true → isWordUni c = true := by decide +kernel
theorem dig_word {c : Nat} (h : okDigit c = true) : isWordUni c = true := wdig c (by simp [okDigit] at h; omega) h
theorem sign_or {c : Nat} (h : okSign c = true) : c = 43 ∨ c = 45 := by simpa [okSign] using h
theorem kd_d (c : Nat) : okDigit (kd c) = okDigit c := by
  unfold kd
  cases h : okDigit c <;> simp
  · cases isWordUni c <;> simp <;> rfl
  · rfl
theorem kd_w (c : Nat) : isWordUni (kd c) = isWordUni c := by
  unfold kd
  cases h : okDigit c
  · cases isWordUni c <;> simp [w65, w32]
  · simp [w48, dig_word h]
theorem kw_w (c : Nat) : isWordUni (kw c) = isWordUni c := by
  unfold kw
  cases isWordUni c <;> simp [w65, w32]
theorem k0_s (c : Nat) : okSign (k0 c) = okSign c := by
  unfold k0
  cases okSign c
  · cases okDigit c
    · cases isWordUni c <;> simp <;> rfl
    · rfl
  · rfl
theorem k0_d (c : Nat) : okDigit (k0 c) = okDigit c := by
  unfold k0
  cases h : okSign c
  · exact kd_d c
  · rcases sign_or h with rfl | rfl <;> rfl
theorem k0_w (c : Nat) : isWordUni (k0 c) = isWordUni c := by
  unfold k0
  cases h : okSign c
  · exact kd_w c
  · rcases sign_or h with rfl | rfl
    · rfl
    · simp [w43, w45]
theorem k0_mem (c : Nat) : k0 c ∈ [43, 48, 65, 32] := by unfold k0; (cases okSign c <;> cases okDigit c <;> cases isWordUni c) <;> simp
theorem kd_mem (c : Nat) : kd c ∈ [48, 65, 32] := by unfold kd; (cases okDigit c <;> cases isWordUni c) <;> simp
theorem kw_mem (c : Nat) : kw c ∈ [65, 32] := by unfold kw; cases isWordUni c <;> simp
theorem tx_getD (n c0 c1 c2 c3 c4 p : Nat) : (tx n c0 c1 c2 c3 c4).getD p 0 = if p < n then [c0, c1, c2, c3, c4].getD p 32 else 0 := by
  unfold tx
  rw [Array.getD_eq_getD_getElem?]
  by_cases h : p < n
  · simp [h]
  · simp [h]
def twinOf (T : Array Nat) : Array Nat := tx (min T.size 6) (k0 (T.getD 0 0)) (kd (T.getD 1 0)) (kd (T.getD 2 0)) (kw (T.getD 3 0)) (kw (T.getD 4 0))
theorem getD_out {T : Array Nat} {p : Nat} (h : T.size ≤ p) : T.getD p 0 = 0 := by
  rw [Array.getD_eq_getD_getElem?]; simp [h]
theorem twin_at (T : Array Nat) (p : Nat) (h : p < 5) : (twinOf T).getD p 0 = if p < T.size then [k0 (T.getD 0 0), kd (T.getD 1 0), kd (T.getD 2 0), kw (T.getD 3 0), kw (T.getD 4 0)].getD p 32 else 0 := by
  rw [twinOf, tx_getD]
  by_cases hp : p < T.size
  · rw [if_pos hp, if_pos (by omega)]
  · rw [if_neg hp, if_neg (by omega)]
theorem alike_twin (T : Array Nat) : Alike (twinOf T) T := by
  refine ⟨?_, ?_, ?_⟩
  · rw [twin_at T 0 (by decide)]
    by_cases h : 0 < T.size
    · rw [if_pos h]; exact k0_s _
    · rw [if_neg h, getD_out (T := T) (by omega)]
  · intro p hp
    rw [twin_at T p (by omega)]
    by_cases h : p < T.size
    · rw [if_pos h]
      match p, hp with
      | 0, _ => exact k0_d _
      | 1, _ => exact kd_d _
      | 2, _ => exact kd_d _
    · rw [if_neg h, getD_out (T := T) (by omega)]
  · intro p hp
    rw [twin_at T p hp]
    by_cases h : p < T.size
    · rw [if_pos h]
      match p, hp with
      | 0, _ => exact k0_w _
      | 1, _ => exact kd_w _
      | 2, _ => exact kd_w _
      | 3, _ => exact kw_w _
      | 4, _ => exact kw_w _
    · rw [if_neg h, getD_out (T := T) (by omega)]
theorem all_ck (n : Nat) (h : n ≤ 6) {c0 c1 c2 c3 c4 : Nat} (h0 : c0 ∈ [43, 48, 65, 32]) (h1 : c1 ∈ [48, 65, 32]) (h2 : c2 ∈ [48, 65, 32]) (h3 : c3 ∈ [65, 32]) (h4 : c4 ∈ [65, 32]) : check n c0 c1 c2 c3 c4 = true := by
  match n, h with
  | 0, _ => exact ck0 h0 h1 h2 h3 h4
  | 1, _ => exact ck1 h0 h1 h2 h3 h4
  | 2, _ => exact ck2 h0 h1 h2 h3 h4
  | 3, _ => exact ck3 h0 h1 h2 h3 h4
  | 4, _ => exact ck4 h0 h1 h2 h3 h4
  | 5, _ => exact ck5 h0 h1 h2 h3 h4
  | 6, _ => exact ck6 h0 h1 h2 h3 h4
theorem twin_check (T : Array Nat) : goodRun STEPS (mach (twinOf T) (min T.size 6)) = true ∧ told (twinOf T) (min T.size 6) ((mach (twinOf T) (min T.size 6)).runFor STEPS) = true := by
  have h := all_ck (min T.size 6) (by omega) (k0_mem (T.getD 0 0)) (kd_mem (T.getD 1 0)) (kd_mem (T.getD 2 0)) (kw_mem (T.getD 3 0)) (kw_mem (T.getD 4 0))
  unfold check at h
  exact (Bool.and_eq_true _ _).mp h
theorem mach_twin (T : Array Nat) : Twin T (twinOf T) T.size (min T.size 6) (mach (twinOf T) (min T.size 6)) (mach T T.size) := by
  unfold mach forMatch
  dsimp only
  refine twin_ite (c := _) (c' := _) ?_ (fun _ => ?_) (fun _ => ?_)
  · show (_ && _ && decide (min T.size 6 - 0 < 2)) = true ↔ (_ && _ && decide (T.size - 0 < 2)) = true
    simp; omega
  · exact ⟨_, rfl, rfl, rfl, rfl⟩
  · exact ⟨_, rfl, rfl, rfl, rfl⟩
theorem run_twin (T : Array Nat) : Twin T (twinOf T) T.size (min T.size 6) ((mach (twinOf T) (min T.size 6)).runFor STEPS) ((mach T T.size).runFor STEPS) := by
  have h := mach_twin T
  have h' := h
  obtain ⟨σ, -, -, ht, hl⟩ := h'
  have := twin_run (T := T) (l := T.size) STEPS (m := mach (twinOf T) (min T.size 6)) (m' := mach T T.size) (by rw [ht]; exact alike_twin T) (by rw [hl]; unfold Lims; omega) (twin_check T).1 (by rw [ht, hl]; exact h)
  rw [ht, hl] at this
  exact this
theorem fits_alike {T T' : Array Nat} (h : Alike T' T) (n a : Nat) (ha : a ≤ 1) (hn : n ≤ 6) : fits T' n a = fits T n a := by
  unfold fits
  by_cases h5 : n ≤ a + 4
  · by_cases h2 : a + 2 ≤ n
    · rw [h.s0, h.dg a (by omega), h.dg (a + 1) (by omega), h.wd (n - 2) (by omega), h.wd (n - 1) (by omega)]
    · simp [h2]
  · simp [h5]
theorem fits_min (T : Array Nat) (a : Nat) (ha : a ≤ 1) : fits (twinOf T) (min T.size 6) a = fits T T.size a := by
  by_cases h : T.size ≤ 6
  · rw [Nat.min_eq_left h]; exact fits_alike (alike_twin T) _ _ ha h
  · unfold fits
    have e1 : ¬ (min T.size 6 ≤ a + 4) := by omega
    have e2 : ¬ (T.size ≤ a + 4) := by omega
    simp [e1, e2]
theorem told_T (T : Array Nat) : told T T.size ((mach T T.size).runFor STEPS) = true := by
  have h := (twin_check T).2
  obtain ⟨σ, e, -, -, -⟩ := run_twin T
  rw [e]
  generalize (mach (twinOf T) (min T.size 6)).runFor STEPS = m at h
  unfold told at h ⊢
  dsimp only
  rw [fits_min T 0 (by decide), fits_min T 1 (by decide)] at h
  by_cases hs : T.size ≤ 6
  · rw [Nat.min_eq_left hs] at h
    exact h
  · have f0 : fits T T.size 0 = false := by unfold fits; have : ¬ (T.size ≤ 0 + 4) := by omega
                                            simp [this]
    have f1 : fits T T.size 1 = false := by unfold fits; have : ¬ (T.size ≤ 1 + 4) := by omega
                                            simp [this]
    rw [f0, f1] at h ⊢
    exact h
end RE
end Mine
end

/-! ## R1 -/
section
open PySem PySem.W PySem.W.X PyProof.Rows PySem.Calls PySem.Spec
set_option maxRecDepth 100000
namespace Mine
abbrev PR : Program := PySem.Challenge.rw_fc0077_01.row.prog
noncomputable abbrev KH (w : World) : Frag := Mine.hd.heap_39 w.params
/-- a wide circle: no frame is named -/
abbrev ABig : Around := { handled := none, depth := 700, frames := none, guards := none, units := 3000 }
theorem wp_wide {α : Type} {M : Model} {A : Around} {t : Sem α} {Q : α → Shared → Prop} {E : Value → Shared → Prop} {s : Shared} (h1 : A.handled = none) (h2 : A.depth ≤ 700) (h3 : A.units ≤ 3000)
    (h : wpAny M ABig t Q E s) : wpAny M A t Q E s := fun Γ p hΓ => h Γ p ⟨by rw [hΓ.1, h1], Nat.le_trans hΓ.2.1 h2, fun l hl => (nomatch hl), fun g hg => (nomatch hg), Nat.le_trans hΓ.2.2.2.2 h3⟩
abbrev vwObj (d : Addr) (T : Str) (t : Tok) (sl : Array (Option Value)) : Obj := ⟨.ref 365, some d, .prim (.str T t), sl⟩
abbrev dict0 : Obj := ⟨.type "dict", none, .dict #[] 0, #[]⟩
theorem fillX : (fun (_ : Params → Frag) (_ : OpenLaw) => True) Mine.hd.heap_39 PySem.Challenge.rw_fc0077_01 := by k_fill; trivial
theorem lt_new {h₀ g h : Heap} {L : Addr} {m : Str → Option Value} {nw news : List (Addr × Obj)} (F : Fr h₀ L g m) (N : News h₀ L g news) (D : Mem g h [] nw) : ∀ q ∈ nw, ∀ p ∈ news, p.1 ≠ q.1 := by
  intro q hq p hp e
  have z := D.nw q hq
  have y := N p hp
  rw [e, z.2] at y
  cases y.1
section
variable {w : World} {h₀ : Heap} {L : Addr} {m : Str → Option Value} {news : List (Addr × Obj)} {s : Shared} {E : Value → Shared → Prop} {Q : Value → Shared → Prop}
local macro_rules | `(tactic| x_close) => `(tactic| ((rename (∀ (_ : Addr) (_ : Addr) (_ : Tok) (_ : Heap) (_ : Nat), _ → _ → _ → _) => hretX); refine hretX _ _ _ _ _ (mem_fr (by assumption) (by assumption)) (mem_new (nw := [_, _]) (by assumption) (by assumption) (by assumption)) (lt_new (nw := [_, _]) (by assumption) (by assumption) (by assumption) _ (List.Mem.head _))))
theorem x_strnew {T : Str} {t : Tok} (hT : T.length ≤ 40) (F : Fr h₀ L s.heap m) (KX : (Mine.hd.heap_39 w.params).In s.heap) (N : News h₀ L s.heap news)
   (hret : ∀ (x : Addr) (d : Addr) (t' : Tok) (h' : Heap) (tk' : Nat), Fr h₀ L h' m → News h₀ L h' ((x, vwObj d T t' #[]) :: (d, dict0) :: news) → (∀ p ∈ news, p.1 ≠ x) → Q (.ref x) { s with heap := h', toks := tk' }) :
   wpAny (model PySem.Challenge.rw_fc0077_01.row.prog w) ABig (call (.builtin "str.__new__") [.ref 365, .str T t]) Q E s := by
  x_run
end
section
variable {w : World} {h₀ : Heap} {L : Addr} {m : Str → Option Value} {news : List (Addr × Obj)} {s : Shared} {E : Value → Shared → Prop} {Q : Value → Shared → Prop}
local macro_rules | `(tactic| x_close) => `(tactic| ((rename (∀ (_ : Addr) (_ : Heap) (_ : Nat), _ → _ → _) => hretX); refine hretX _ _ _ (mem_fr (by assumption) (by assumption)) (mem_new (nw := [_]) (by assumption) (by assumption) (by assumption))))
abbrev supObj : Obj := ⟨.type "super", none, .fields #[.ref 365, .ref 365, .ref 365], #[]⟩
theorem x_super (F : Fr h₀ L s.heap m) (KX : (Mine.hd.heap_39 w.params).In s.heap) (N : News h₀ L s.heap news)
   (hret : ∀ (x : Addr) (h' : Heap) (tk' : Nat), Fr h₀ L h' m → News h₀ L h' ((x, supObj) :: news) → Q (.ref x) { s with heap := h', toks := tk' }) :
   wpAny (model PySem.Challenge.rw_fc0077_01.row.prog w) ABig (call (.type "super") [.ref 365, .ref 365]) Q E s := by
  x_run
end
section
variable {w : World} {h₀ : Heap} {L : Addr} {m : Str → Option Value} {news : List (Addr × Obj)} {s : Shared} {E : Value → Shared → Prop} {Q : Value → Shared → Prop}
local macro_rules | `(tactic| x_close) => `(tactic| (first | ((rename (∀ (_ : Tok) (_ : Nat), _) => hretX); exact hretX _ _)))
theorem x_strOf {T : Str} {t : Tok} {x d : Addr} {sl : Array (Option Value)} (hT : T.length ≤ 40) (KX : (Mine.hd.heap_39 w.params).In s.heap) (hx : s.heap.get? x = some ⟨.ref 365, some d, .prim (.str T t), sl⟩) (hd : s.heap.get? d = some ⟨.type "dict", none, .dict #[] 0, #[]⟩)
   (hret : ∀ (t' : Tok) (tk' : Nat), Q (.str T t') { s with toks := tk' }) :
   wpAny (model PySem.Challenge.rw_fc0077_01.row.prog w) ABig (call (.type "str") [.ref x]) Q E s := by
  x_run
end
end Mine
end

/-! ## R2 -/
section
open PySem PySem.W PySem.W.X PyProof.Rows PySem.Calls PySem.Spec
set_option maxRecDepth 100000
namespace Mine
theorem fillX2 : (fun (_ : Params → Frag) (_ : OpenLaw) => True) Mine.hd.heap_39 PySem.Challenge.rw_fc0077_01 := by k_fill; trivial
section
variable {w : World} {A : Around} {E : Value → Shared → Prop} {h : Heap} {g : Array GenState} {d : Drawn} {t : Nat} {os : OsState} {so : Addr}
theorem mro365 {M : Model} (X : (Mine.hd.heap_39 w.params).In h) : Looks M h (mroOf (.ref 365)) [.ref 365, .type "str", .type "object"] := by
  refine' Looks.andThen (looks_clsIn X ?hc) ?_
  case hc => k_is
  exact Looks.now
theorem own_str_new : classOwn (.type "str") "__new__" = pure (some (.builtin "str.__new__")) := by
  kernel_rfl
theorem ty_new : typeOf (.builtin "str.__new__") = pure (.type "builtin_function_or_method") := by kernel_rfl
theorem get_new : typeLookup (.type "builtin_function_or_method") "__get__" = pure none := by rw [typeLookup_type, builtinLookup_eq_fast]; kernel_rfl
set_option maxHeartbeats 2000000 in
theorem sga_new {tk : Tok} {Q : Fin → Shared → Prop} (hso : h.get? so = some supObj) (X : (Mine.hd.heap_39 w.params).In h)
    (hq : Q (.done (.ret (.builtin "str.__new__"))) ⟨h, g, d, t, os⟩) :
    wpAny (model PR w) A (Builtin.«super.__getattribute__» ⟨[.ref so, .str "__new__" tk], []⟩) Q E ⟨h, g, d, t, os⟩ := by
  have hdt : supObj.data = .fields #[.ref 365, .ref 365, .ref 365] := rfl
  have f0 : (#[.ref 365, .ref 365, .ref 365] : Array Value)[0]? = some (.ref 365) := rfl
  have f1 : (#[.ref 365, .ref 365, .ref 365] : Array Value)[1]? = some (.ref 365) := rfl
  have f2 : (#[.ref 365, .ref 365, .ref 365] : Array Value)[2]? = some (.ref 365) := rfl
  have hno : Looks (model PR w) h (opaqueClassAbove (.ref 365)) none := looks_opaque X (by k_is)
  have hn : (("__new__" : Str) == ("__class__" : Str)) = false := by decide +kernel
  unfold Builtin.«super.__getattribute__»
  repeat (first
    | (with_reducible refine wpAny_field hso hdt f0 ?_) | (with_reducible refine wpAny_field hso hdt f1 ?_) | (with_reducible refine wpAny_field hso hdt f2 ?_)
    | (with_reducible refine ks_wpAny_notOpaque hno ?_)
    | (with_reducible refine Looks.at (mro365 X) ?_)
    | (simp only [hn, Bool.or_false, Bool.false_eq_true, if_false])
    | wp_step
    | dsimp only)
  refine wpAny_of_eq (a := none) (by kernel_rfl) ?_
  dsimp only
  refine wpAny_bind (wpAny_of_eq (a := Value.builtin "str.__new__") (by kernel_rfl) ?_)
  repeat (first | wp_step | dsimp only)
  all_goals exact hq
theorem gm_super_new {pl : Sem Bool} {Q : Value × List Value → Shared → Prop} (hso : h.get? so = some supObj) (X : (Mine.hd.heap_39 w.params).In h)
    (hq : Q (.builtin "str.__new__", []) ⟨h, g, d, t + 1, os⟩) : wpAny (model PR w) A (getMethod (.ref so) "__new__" pl) Q E ⟨h, g, d, t, os⟩ := by
  have hlk := F.ks_slot_super_ga.lookup
  have hcan := F.ks_canon_super_ga
  have hT : ∀ t', (⟨h, g, d, t', os⟩ : Shared).TypeIs (.ref so) "super" := fun _ => ⟨_, hso, rfl⟩
  unfold getMethod
  refine wpAny_bind (wpAny_specialOf (hT _) hlk ?_)
  show wpAny _ _ (if (Manifest.canonical "super.__getattribute__" != "object.__getattribute__") = true then _ else _) _ _ _
  rw [if_pos hcan]
  unfold getAttr getAttrBy
  refine wpAny_bind (wpAny_bind (wpAny_mkText (wpAny_holding (wpAny_bind (wpAny_typeOf (hT _) (wpAny_bind (wpAny_of_eq hlk ?_)))))))
  show wpAny _ _ (getAttrByItsOwn (.ref so) (.str _ t) (.type "super") (.builtin "super.__getattribute__") true false) _ _ _
  unfold getAttrByItsOwn hookBefore callGetattribute boundAndCalled
  refine wpAny_bind (wpAny_of_eq (show (if onTheHeap (.type "super") then typeLookup (.type "super") "__getattr__" else pure none) = pure none from rfl) ?_)
  refine wpAny_bind (wpAny_attempt (wpAny_holding ?_))
  show wpAny _ _ (bindSpecial (.builtin "super.__getattribute__") (.ref so) >>= _) _ _ _
  refine wpAny_bind (wpAny_of_eq (F.ks_slot_super_ga.bind _) ?_)
  refine wpAny_mono (Q := fun v s' => v = .builtin "str.__new__" ∧ s' = ⟨h, g, d, t + 1, os⟩) (E := fun _ _ => False)
    (wpAny_call_entry F.ks_slot_super_ga (hT _) F.ks_entry_super_ga (sga_new hso X ⟨_, rfl, rfl, rfl⟩) (F.ks_gaArgs_super _ _)) (fun v s' hv => ?_) fun _ _ z => z.elim
  obtain ⟨rfl, rfl⟩ := hv
  exact wpAny_pure (wpAny_pure hq)
end
end Mine
end

/-! ## R3 -/
section
open PySem PySem.W PySem.W.X PyProof.Rows PySem.Calls PySem.Spec
set_option maxRecDepth 100000
namespace Mine
section
variable {w : World} {A : Around} {E : Value → Shared → Prop} {s : Shared} {h₀ : Heap} {L : Addr} {m mg mb : Str → Option Value} {news : List (Addr × Obj)} {p : Program} {loose : List Str} {mean : ExcName → Option Value} {f cc cda : Addr}
theorem sup_node {body : List Stmt} {q : Str} {scope : Scope} {p0 p1 : Pos} {attr : Str} {whole : Sem Value} {fd : FuncData} {ar : Arg} {vs : Array Value} {file : Str} {tf : Tok} {oc ccl cl : Value} {od cdd cld : Option Addr} {osl ccs csl : Array (Option Value)} {cdD : ClassData} {Q : Value → Shared → Prop}
    (a1 : A.handled = none) (a2 : A.depth ≤ 700) (a3 : A.units ≤ 3000)
    (F : Fr h₀ L s.heap m) (X₀ : (Mine.hd.heap_39 w.params).In h₀) (N : News h₀ L s.heap news) (T : Top p loose mean mg mb h₀)
    (hf : (Mine.hd.heap_39 w.params).lookup f = some ⟨oc, od, .func fd, osl⟩) (hp : (fd.params.posonlyargs ++ fd.params.args).head? = some ar) (hv : m ar.arg = some (.ref 365))
    (hcode : (Mine.hd.heap_39 w.params).lookup cda = some ⟨ccl, cdd, .fields vs, ccs⟩) (hvs : vs[2]? = some (.str file tf)) (hfile : ((PR.main.file : Str) == file) = true)
    (hcell : (Mine.hd.heap_39 w.params).lookup cc = some ⟨cl, cld, .cell (some (.ref 365)), csl⟩) (hD : clsIn (Mine.hd.heap_39 w.params) 365 = some cdD) (hsuper : nsIn (Mine.hd.heap_39 w.params) mainGlobals "super" = some none)
    (hat : (attr == ("__class__" : Str)) = false) (hks : scope.names.lookup ("super" : Str) = some .globalImplicit) (hkc : scope.names.lookup ("__class__" : Str) = some .free) (hka : scope.names.lookup ar.arg = some .local) (hk : scope.kind = .function)
    (htop : (PR.main.scope.names.lookup ("super" : Str)).isSome = false) (hboot : bootBuiltins "super" = some (.type "super"))
    (h : ∀ so h' tk', Fr h₀ L h' m → News h₀ L h' ((so, supObj) :: news) → Q (.ref so) { s with heap := h', toks := tk' }) :
    _root_.PySem.wpAt (model PR w) A (.func body (ksEnv q scope L f (.ref cda) cc)) (attributeBase (.Call (.Name "super" p0) [] [] p1) attr (ksEnv q scope L f (.ref cda) cc) whole) Q E s := by
  have X : (Mine.hd.heap_39 w.params).In s.heap := X₀.keeps F.keep
  obtain ⟨hh, g, d, t, os⟩ := s
  obtain ⟨oD, hD1, hD2⟩ : ∃ oD, hh.get? 365 = some oD ∧ oD.data = .cls cdD := by
    unfold clsIn at hD
    split at hD
    · rename_i c d cd' sl ho
      cases hD
      exact ⟨_, X _ _ ho, rfl⟩
    · cases hD
  refine ks_wpAt_super_base (env := ksEnv q scope L f (.ref cda) cc) hks hkc hat rfl (X _ _ hf) rfl hp rfl (X _ _ hcode) rfl hvs hfile htop ?_
  refine ks_loadName_global hk hks (loadGlobal_builtin (env := ksEnv q scope L f (.ref cda) cc) (T.g.keeps F.keep) (mg_none_of X₀ T.g hsuper) (T.b.keeps F.keep) ((T.builtins _ (by decide +kernel)).trans hboot) ⟨rfl, ?_⟩)
  refine wpAny_loadName_free hk hkc rfl ⟨_, X _ _ hcell, rfl⟩ ?_
  refine wpAny_loadName_local hk hka F.ns hv ?_
  refine ks_wpAny_isType_cls hD1 hD2 ⟨rfl, ?_⟩
  exact wp_wide a1 a2 a3 (x_super (s := ⟨hh, g, d, t, os⟩) F X N h)
end
end Mine
end

/-! ## R4 -/
section
open PySem PySem.W PySem.W.X PyProof.Rows PySem.Calls PySem.Spec
set_option maxRecDepth 100000
namespace Mine
section
variable {M : Model} {A : Around} {E : Value → Shared → Prop} {h : Heap} {g : Array GenState} {d : Drawn} {t : Nat} {os : OsState}
/-- a method of a built-in record without a dict -/
theorem gm_rec {a : Addr} {o : Obj} {T id : String} {name : Str} {pl : Sem Bool} {Q : Value × List Value → Shared → Prop} (ho : h.get? a = some o) (hc : o.cls = .type T) (hdn : o.dict = none)
    (h1 : typeLookup (.type T) "__getattribute__" = pure (some (.builtin "object.__getattribute__"))) (h2 : typeLookup (.type T) "__getattr__" = pure none) (h3 : typeLookup (.type T) name = pure (some (.builtin id)))
    (h4 : typeOf (.builtin id) = pure (.type "method_descriptor")) (hq : Q (.builtin id, [.ref a]) ⟨h, g, d, t, os⟩) : wpAny M A (getMethod (.ref a) name pl) Q E ⟨h, g, d, t, os⟩ := by
  have hT : (⟨h, g, d, t, os⟩ : Shared).TypeIs (.ref a) T := ⟨_, ho, hc⟩
  unfold getMethod
  refine wpAny_bind (wpAny_specialOf hT h1 ?_)
  show wpAny _ _ (if (Manifest.canonical "object.__getattribute__" != "object.__getattribute__") = true then _ else _) _ _ _
  rw [if_neg (by decide +kernel)]
  refine wpAny_bind (wpAny_specialOf hT h2 ?_)
  rw [if_neg (by decide)]
  refine wpAny_bind (wpAny_specialOf hT h3 ?_)
  refine wpAny_bind (wpAny_of_eq h4 ?_)
  rw [if_neg (by decide)]
  refine wpAny_bind (wpAny_loadPart_at ho ?_)
  rw [hdn]
  exact wpAny_bind (wpAny_rule (wpAny_pure hq))
theorem pat_ga : typeLookup (.type "re.Pattern") "__getattribute__" = pure (some (.builtin "object.__getattribute__")) := by rw [typeLookup_type, builtinLookup_eq_fast]; kernel_rfl
theorem pat_g : typeLookup (.type "re.Pattern") "__getattr__" = pure none := by rw [typeLookup_type, builtinLookup_eq_fast]; kernel_rfl
theorem pat_fm : typeLookup (.type "re.Pattern") "fullmatch" = pure (some (.builtin "re.Pattern.fullmatch")) := by rw [typeLookup_type, builtinLookup_eq_fast]; kernel_rfl
theorem ty_fm : typeOf (.builtin "re.Pattern.fullmatch") = pure (.type "method_descriptor") := by kernel_rfl
theorem mat_ga : typeLookup (.type "re.Match") "__getattribute__" = pure (some (.builtin "object.__getattribute__")) := by rw [typeLookup_type, builtinLookup_eq_fast]; kernel_rfl
theorem mat_g : typeLookup (.type "re.Match") "__getattr__" = pure none := by rw [typeLookup_type, builtinLookup_eq_fast]; kernel_rfl
theorem mat_gr : typeLookup (.type "re.Match") "groups" = pure (some (.builtin "re.Match.groups")) := by rw [typeLookup_type, builtinLookup_eq_fast]; kernel_rfl
theorem ty_gr : typeOf (.builtin "re.Match.groups") = pure (.type "method_descriptor") := by kernel_rfl
end
theorem in_get {K : Frag} {h : Heap} {a : Addr} {o : Obj} (X : K.In h) (e : K.lookup a = some o) : h.get? a = some o := X a o e
theorem fillR4 : (fun (_ : Params → Frag) (_ : OpenLaw) => True) Mine.hd.heap_39 PySem.Challenge.rw_fc0077_01 := by k_fill; trivial
section
variable {w : World} {A : Around} {E : Value → Shared → Prop} {s : Shared}
theorem gm_pat {M : Model} {pl : Sem Bool} {Q : Value × List Value → Shared → Prop} (X : (Mine.hd.heap_39 w.params).In s.heap) (hq : Q (.builtin "re.Pattern.fullmatch", [.ref 317]) s) : wpAny M A (getMethod (.ref 317) "fullmatch" pl) Q E s := by
  obtain ⟨h, g, d, t, os⟩ := s
  refine' gm_rec (in_get X ?e) ?c ?dd pat_ga pat_g pat_fm ty_fm hq
  case e => k_is
  case c => rfl
  case dd => rfl
theorem gm_groups {M : Model} {mo : Addr} {dt : Data} {sl : Array (Option Value)} {pl : Sem Bool} {Q : Value × List Value → Shared → Prop} (ho : s.heap.get? mo = some ⟨.type "re.Match", none, dt, sl⟩) (hq : Q (.builtin "re.Match.groups", [.ref mo]) s) : wpAny M A (getMethod (.ref mo) "groups" pl) Q E s := by
  obtain ⟨h, g, d, t, os⟩ := s
  exact gm_rec ho rfl rfl mat_ga mat_g mat_gr ty_gr hq
end
abbrev ri (n : Nat) : Value := rawInt (n : Int)
abbrev spans (n a b : Nat) : Obj := ⟨.type "tuple", none, .seq #[ri 0, ri n, ri 0, ri a, ri a, ri b, ri b, ri n] 0, #[]⟩
abbrev matchObj (x tp : Addr) (n : Nat) (li : Value) : Obj := ⟨.type "re.Match", none, .fields #[.ref x, .ref 317, ri 0, ri n, li, .ref tp], #[]⟩
end Mine
end

/-! ## X2 -/
section
open PySem PySem.W PySem.W.X PyProof.Rows PySem.Calls PySem.Spec
set_option maxRecDepth 100000
namespace Mine
theorem fillX9 : (fun (_ : Params → Frag) (_ : OpenLaw) => True) Mine.hd.heap_39 PySem.Challenge.rw_fc0077_01 := by k_fill; trivial
theorem str_two {T : Str} (h : T.cps.size = 2) : ∃ a b, T = ⟨⟨[a, b]⟩⟩ := by
  obtain ⟨⟨l⟩⟩ := T
  match l, h with
  | [a, b], _ => exact ⟨a, b, rfl⟩
theorem str_three {T : Str} (h : T.cps.size = 3) : ∃ a b c, T = ⟨⟨[a, b, c]⟩⟩ := by
  obtain ⟨⟨l⟩⟩ := T
  match l, h with
  | [a, b, c], _ => exact ⟨a, b, c, rfl⟩
theorem str_four {T : Str} (h : T.cps.size = 4) : ∃ a b c d, T = ⟨⟨[a, b, c, d]⟩⟩ := by
  obtain ⟨⟨l⟩⟩ := T
  match l, h with
  | [a, b, c, d], _ => exact ⟨a, b, c, d, rfl⟩
theorem str_five {T : Str} (h : T.cps.size = 5) : ∃ a b c d e, T = ⟨⟨[a, b, c, d, e]⟩⟩ := by
  obtain ⟨⟨l⟩⟩ := T
  match l, h with
  | [a, b, c, d, e], _ => exact ⟨a, b, c, d, e, rfl⟩
abbrev tup3 (u v w : Value) : Obj := ⟨.type "tuple", none, .seq #[u, v, w] 0, #[]⟩
def Shape (a b n : Nat) : Prop := (a = 0 ∧ b = 0 ∧ n = 2) ∨ (a = 0 ∧ b = 1 ∧ n = 3) ∨ (a = 0 ∧ b = 2 ∧ n = 4) ∨ (a = 1 ∧ b = 1 ∧ n = 3) ∨ (a = 1 ∧ b = 2 ∧ n = 4) ∨ (a = 1 ∧ b = 3 ∧ n = 5)
section
variable {w : World} {h₀ : Heap} {L : Addr} {m : Str → Option Value} {news : List (Addr × Obj)} {s : Shared} {E : Value → Shared → Prop} {Q : Value → Shared → Prop}
local macro_rules | `(tactic| x_close) => `(tactic| ((rename (∀ (_ : Addr) (_ : Tok) (_ : Tok) (_ : Tok) (_ : Heap) (_ : Nat), _ → _ → _) => hretX); (rename Mem _ _ _ _ => DX); (rename Shared => sX); (have e := mem_new (by assumption) (by assumption) DX); exact hretX _ sX.toks (sX.toks + 1) (sX.toks + 1 + 1) _ _ (mem_fr (by assumption) DX) (Eq.mp (by kernel_rfl) e)))
theorem groups_x {T : Str} {t : Tok} {x d mo tp : Addr} {sl : Array (Option Value)} {li : Value} {a b n : Nat} (hv : Shape a b n) (hT : T.cps.size = n) (F : Fr h₀ L s.heap m) (KX : (Mine.hd.heap_39 w.params).In s.heap) (N : News h₀ L s.heap news)
   (hx : s.heap.get? x = some ⟨.ref 365, some d, .prim (.str T t), sl⟩) (hm : s.heap.get? mo = some ⟨.type "re.Match", none, .fields #[.ref x, .ref 317, .int (Int.ofNat 0) 0, .int (Int.ofNat n) 0, li, .ref tp], #[]⟩)
   (ht : s.heap.get? tp = some ⟨.type "tuple", none, .seq #[.int (Int.ofNat 0) 0, .int (Int.ofNat n) 0, .int (Int.ofNat 0) 0, .int (Int.ofNat a) 0, .int (Int.ofNat a) 0, .int (Int.ofNat b) 0, .int (Int.ofNat b) 0, .int (Int.ofNat n) 0] 0, #[]⟩)
   (hret : ∀ (tu : Addr) (t1 t2 t3 : Tok) (h' : Heap) (tk' : Nat), Fr h₀ L h' m → News h₀ L h' ((tu, tup3 (.str ⟨T.cps.extract 0 a⟩ t1) (.str ⟨T.cps.extract a b⟩ t2) (.str ⟨T.cps.extract b n⟩ t3)) :: news) → Q (.ref tu) { s with heap := h', toks := tk' }) :
   wpAny (model PySem.Challenge.rw_fc0077_01.row.prog w) ABig (call (.builtin "re.Match.groups") [.ref mo]) Q E s := by
  rcases hv with ⟨rfl, rfl, rfl⟩ | ⟨rfl, rfl, rfl⟩ | ⟨rfl, rfl, rfl⟩ | ⟨rfl, rfl, rfl⟩ | ⟨rfl, rfl, rfl⟩ | ⟨rfl, rfl, rfl⟩
  · obtain ⟨c0, c1, rfl⟩ := str_two hT
    x_run
  · obtain ⟨c0, c1, c2, rfl⟩ := str_three hT
    x_run
  · obtain ⟨c0, c1, c2, c3, rfl⟩ := str_four hT
    x_run
  · obtain ⟨c0, c1, c2, rfl⟩ := str_three hT
    x_run
  · obtain ⟨c0, c1, c2, c3, rfl⟩ := str_four hT
    x_run
  · obtain ⟨c0, c1, c2, c3, c4, rfl⟩ := str_five hT
    x_run
end
theorem groups_c {w : World} {h₀ : Heap} {L : Addr} {m : Str → Option Value} {news : List (Addr × Obj)} {s : Shared} {A : Around} {E : Value → Shared → Prop} {Q : Value → Shared → Prop} (a1 : A.handled = none) (a2 : A.depth ≤ 700) (a3 : A.units ≤ 3000)
   {T : Str} {t : Tok} {x d mo tp : Addr} {sl : Array (Option Value)} {li : Value} {a b n : Nat} (hv : Shape a b n) (hT : T.cps.size = n) (F : Fr h₀ L s.heap m) (KX : (Mine.hd.heap_39 w.params).In s.heap) (N : News h₀ L s.heap news)
   (hm : (mo, matchObj x tp n li) ∈ news) (ht : (tp, spans n a b) ∈ news) (hx : (x, vwObj d T t sl) ∈ news)
   (hret : ∀ (sg rl wd : Str) (tu : Addr) (t1 t2 t3 : Tok) (h' : Heap) (tk' : Nat), sg = ⟨T.cps.extract 0 a⟩ → rl = ⟨T.cps.extract a b⟩ → wd = ⟨T.cps.extract b n⟩ → sg.length ≤ 1 → rl.length ≤ 2 → wd.length = 2 →
     Fr h₀ L h' m → News h₀ L h' ((tu, tup3 (.str sg t1) (.str rl t2) (.str wd t3)) :: news) → Q (.ref tu) { s with heap := h', toks := tk' }) :
   wpAny (model PySem.Challenge.rw_fc0077_01.row.prog w) A (call (.builtin "re.Match.groups") [.ref mo]) Q E s := by
  have l1 : a ≤ 1 ∧ b ≤ a + 2 ∧ n = b + 2 ∧ a ≤ b := by unfold Shape at hv; omega
  refine wp_wide a1 a2 a3 (groups_x hv hT F KX N (N _ hx).1 (N _ hm).1 (N _ ht).1 fun tu t1 t2 t3 h' tk' F' N' => hret _ _ _ tu t1 t2 t3 h' tk' rfl rfl rfl ?_ ?_ ?_ F' N')
  · show (T.cps.extract 0 a).size ≤ 1
    rw [Array.size_extract]; omega
  · show (T.cps.extract a b).size ≤ 2
    rw [Array.size_extract]; omega
  · show (T.cps.extract b n).size = 2
    rw [Array.size_extract]; omega
end Mine
end

/-! ## FM3 -/
section
open PySem PySem.W PySem.W.X PyProof.Rows PySem.Calls PySem.Spec
set_option maxRecDepth 100000
namespace Mine
open RE
theorem fillFM3 : (fun (_ : Params → Frag) (_ : OpenLaw) => True) Mine.hd.heap_39 PySem.Challenge.rw_fc0077_01 := by k_fill; trivial
theorem slot_fm : Slot "re.Pattern" "fullmatch" "re.Pattern.fullmatch" :=
  .of (owner := "re.Pattern") (n := "fullmatch") (by rw [typeLookup_type, builtinLookup_eq_fast]; kernel_rfl) (by decide +kernel) (by decide +kernel) (by decide +kernel)
    (by first | exact .inl (by decide +kernel) | exact .inr (by decide +kernel)) (by rw [isSubtype_type]; kernel_rfl)
theorem entry_fm : entryFor table "re.Pattern.fullmatch" = some Builtin.«re.Pattern.fullmatch» := entryFor_of_tree (by kernel_rfl)
theorem args_fm (a b : Value) : argsOk "re.Pattern.fullmatch" ⟨[a, b], []⟩ := by unfold argsOk; kernel_rfl
section
variable {w : World} {A : Around} {E : Value → Shared → Prop} {s : Shared}
theorem call_at {T : String} {name : Str} {id : String} {B : Builtin} {self : Value} {rest : List Value} {Q : Value → Shared → Prop} (slot : Slot T name id) (hT : s.TypeIs self T)
    (entry : entryFor table id = some B) (args : argsOk id ⟨self :: rest, []⟩) (h : wpAny (model PR w) A.in1 (B ⟨self :: rest, []⟩) (fun fin s' => ∃ v, fin = .done (.ret v) ∧ Q v s') E s) :
    wpAny (model PR w) A (call (.builtin id) (self :: rest)) Q E s :=
  call_meetsIn (S := fun A R s => wpAny (model PR w) A.in1 (B ⟨self :: rest, []⟩) (fun fin s' => ∃ v, fin = .done (.ret v) ∧ R (.ok (.ret v)) s') (fun e s' => R (.error e) s') s) slot hT entry args
    (MeetsIn.of_wp fun _ _ _ h => h) h
open PySem.Builtin.Re
theorem wp_drive {M : Model} {Q : Sre.M → Shared → Prop} : ∀ (k n : Nat) (m : Sre.M), k < n → (m.runFor (4 * (k + 1))).outcome.isSome = true → Q (m.runFor (4 * (k + 1))) s → wpAny M A (reDrive n m) Q E s := by
  have done : ∀ (j : Nat) (m : Sre.M), m.outcome.isSome = true → m.runFor j = m := by
    intro j m h
    cases j with
    | zero => rfl
    | succ j => rw [Sre.M.runFor, if_pos h]
  have add : ∀ (a b : Nat) (m : Sre.M), m.runFor (a + b) = (m.runFor a).runFor b := by
    intro a
    induction a with
    | zero => intro b m; rw [Nat.zero_add]; rfl
    | succ a ih =>
      intro b m
      rw [Nat.succ_add, Sre.M.runFor, Sre.M.runFor]
      by_cases h : m.outcome.isSome = true
      · rw [if_pos h, if_pos h, done b m h]
      · rw [if_neg h, if_neg h, ih]
  intro k
  induction k with
  | zero =>
    intro n m hn ho hq
    match n, hn with
    | n + 1, _ =>
      rw [reDrive]
      show wpAny M A (if (m.runFor 4).outcome.isSome = true then _ else _) _ _ _
      rw [if_pos ho]
      exact wpAny_pure hq
  | succ k ih =>
    intro n m hn ho hq
    match n, hn with
    | n + 1, hn =>
      rw [reDrive]
      show wpAny M A (if (m.runFor 4).outcome.isSome = true then pure (m.runFor 4) else (do rule "sre.turn"; reDrive n (m.runFor 4))) _ _ _
      have e : m.runFor (4 * (k + 1 + 1)) = (m.runFor 4).runFor (4 * (k + 1)) := by
        rw [← add]; congr 1; omega
      rw [e] at ho hq
      by_cases h : (m.runFor 4).outcome.isSome = true
      · rw [if_pos h]
        rw [done _ _ h] at hq
        exact wpAny_pure hq
      · rw [if_neg h]
        exact wpAny_bind (wpAny_rule (ih n (m.runFor 4) (by omega) ho hq))
theorem wp_seen {M : Model} {σ : Sre.Seen} {f : Nat → String} {Q : PUnit → Shared → Prop} : ∀ (l : List Nat), Q ⟨⟩ s → wpAny M A (forIn l PUnit.unit fun i _ => do
    if σ.has i then rule (f i)
    pure (ForInStep.yield PUnit.unit)) Q E s := by
  intro l
  induction l with
  | nil => intro h; exact wpAny_pure h
  | cons i l ih =>
    intro h
    rw [List.forIn_cons]
    by_cases hi : σ.has i = true
    · rw [if_pos hi]
      exact wpAny_bind (wpAny_bind (wpAny_rule (wpAny_pure (ih h))))
    · rw [if_neg hi]
      exact wpAny_bind (wpAny_pure (ih h))
theorem wp_end {M : Model} {m : Sre.M} {Q : Option Sre.M → Shared → Prop} (ho : (m.runFor STEPS).outcome.isSome = true)
   (h1 : (m.runFor STEPS).outcome matches some .matched → Q (some (m.runFor STEPS)) s) (h2 : (m.runFor STEPS).outcome matches some .failed → Q none s) (h3 : ∀ why, (m.runFor STEPS).outcome ≠ some (.stuck why)) : wpAny M A (reRunToEnd m) Q E s := by
  unfold reRunToEnd
  refine wpAny_bind (wp_drive 19 (2 ^ 64) m (by decide) ho ?_)
  show wpAny M A _ Q E s
  have e : m.runFor (4 * (19 + 1)) = m.runFor STEPS := rfl
  rw [e]
  refine wpAny_bind (wp_seen _ ?_)
  revert h1 h2 h3 ho
  cases hm : (m.runFor STEPS).outcome with
  | none => intro ho; cases ho
  | some o =>
    cases o with
    | matched => intro _ h1 _ _; exact wpAny_pure (h1 rfl)
    | failed => intro _ _ h2 _; exact wpAny_pure (h2 rfl)
    | stuck why => intro _ _ _ h3; exact absurd rfl (h3 why)
end
end Mine
end

/-! ## FM4 -/
section
open PySem PySem.W PySem.W.X PyProof.Rows PySem.Calls PySem.Spec
set_option maxRecDepth 100000
namespace Mine
open RE
open PySem.Builtin.Re
theorem fillFM4 : (fun (_ : Params → Frag) (_ : OpenLaw) => True) Mine.hd.heap_39 PySem.Challenge.rw_fc0077_01 := by k_fill; trivial
theorem named_fm (x : Value) : reNamed "re.Pattern.fullmatch" "fullmatch" ["string", "pos", "endpos"] 1 [x] [] = pure [some x, none, none] := by rfl
section
variable {w : World} {h₀ : Heap} {L : Addr} {m : Str → Option Value} {news : List (Addr × Obj)} {s : Shared} {A : Around} {E : Value → Shared → Prop} {Q : Value → Shared → Prop}
theorem fm_call {T : Str} {t : Tok} {x d : Addr} {sl : Array (Option Value)} (hn : T.cps.size ≤ 1000) (F : Fr h₀ L s.heap m) (KX : (Mine.hd.heap_39 w.params).In s.heap) (N : News h₀ L s.heap news) (hx : (x, vwObj d T t sl) ∈ news)
   (hsome : ∀ (a : Nat) (mo tp : Addr) (li : Value) (h' : Heap) (tk' : Nat), a ≤ 1 → fits T.cps T.cps.size a = true → Fr h₀ L h' m → News h₀ L h' ((mo, matchObj x tp T.cps.size li) :: (tp, spans T.cps.size a (T.cps.size - 2)) :: news) → Q (.ref mo) { s with heap := h', toks := tk' })
   (hnone : fits T.cps T.cps.size 0 = false → fits T.cps T.cps.size 1 = false → ∀ tk', Q .none { s with toks := tk' }) :
   wpAny (model PySem.Challenge.rw_fc0077_01.row.prog w) A (call (.builtin "re.Pattern.fullmatch") [.ref 317, .ref x]) Q E s := by
  have hxs := (N _ hx).1
  refine call_at slot_fm ⟨_, in_get KX (o := _) (by k_is), rfl⟩ entry_fm (args_fm _ _) ?_
  unfold Builtin.«re.Pattern.fullmatch»
  refine wpAny_bind (Q := _) ?_
  unfold reTarget
  dsimp only
  rw [named_fm]
  refine wpAny_bind (wpAny_pure ?_)
  dsimp only
  refine wpAny_bind (wpAny_pure (wpAny_bind (wpAny_pure ?_)))
  refine wpAny_bind (wpAny_fieldsOf (in_get KX (o := _) (by k_is)) rfl ?_)
  refine wpAny_bind (wpAny_mono (Q := fun r s' => r = (T.cps, 0) ∧ s = s') ?_ ?_ (fun _ _ h => h))
  · unfold reTextOf asStr?
    dsimp only
    refine wpAny_bind (wpAny_bind (wpAny_load hxs ?_))
    dsimp only
    refine wpAny_pure ?_
    dsimp only
    exact wpAny_pure ⟨rfl, rfl⟩
  rintro _ _ ⟨rfl, rfl⟩
  dsimp only
  rw [if_neg (by decide), if_neg (by decide)]
  unfold reNoCollectionInside
  rw [if_neg (by decide)]
  refine wpAny_bind (wpAny_pure ?_)
  refine wpAny_bind (wpAny_mono (Q := fun r s' => s = s' ∧ (r.map (·.toNat)) = CODE) ?_ ?_ (fun _ _ h => h))
  · show wpAny _ _ (reRawItems (.ref 316)) _ _ _
    unfold reRawItems
    refine wpAny_bind (wpAny_seqItems (in_get KX (o := _) (by k_is)) rfl ?_)
    exact wpAny_pure ⟨rfl, by kernel_rfl⟩
  rintro code _ ⟨rfl, hcode⟩
  refine wpAny_pure ?_
  dsimp only
  have em : Sre.forMatch (Array.map (fun x => x.toNat) code) T.cps 3 (min (Int.toNat 0) T.cps.size) (min (2 ^ 63 - 1 : Int).toNat T.cps.size) true false = mach T.cps T.cps.size := by
    have e1 : min (Int.toNat 0) T.cps.size = 0 := Nat.zero_min _
    have e2 : min (2 ^ 63 - 1 : Int).toNat T.cps.size = T.cps.size := Nat.min_eq_right (Nat.le_trans hn (by decide))
    rw [e1, e2, hcode]; rfl
  show wpAny _ _ (reAnswer _ (Sre.forMatch (Array.map (fun x => x.toNat) code) T.cps 3 (min (Int.toNat 0) T.cps.size) (min (2 ^ 63 - 1 : Int).toNat T.cps.size) true false)) _ _ _
  rw [em]
  have ht := told_T T.cps
  unfold told at ht
  unfold reAnswer
  refine wpAny_bind (wp_end ?_ ?_ ?_ ?_)
  · revert ht; cases ((mach T.cps T.cps.size).runFor STEPS).outcome with
    | none => intro h; cases h
    | some o => intro _; rfl
  · intro hm
    have ho : ((mach T.cps T.cps.size).runFor STEPS).outcome = some .matched := by
      revert hm; cases ((mach T.cps T.cps.size).runFor STEPS).outcome with
      | none => intro h; cases h
      | some o => cases o <;> intro h <;> first | rfl | cases h
    rw [ho] at ht
    dsimp only at ht
    have key : ∃ a, a ≤ 1 ∧ fits T.cps T.cps.size a = true ∧ marked ((mach T.cps T.cps.size).runFor STEPS) a (T.cps.size - 2) T.cps.size = true := by
      by_cases h0 : fits T.cps T.cps.size 0 = true
      · rw [if_pos h0] at ht; exact ⟨0, by decide, h0, ht⟩
      · rw [if_neg h0] at ht; rw [Bool.and_eq_true] at ht; exact ⟨1, by decide, ht.1, ht.2⟩
    obtain ⟨a, ha, hfit, hmk⟩ := key
    have hab : a + 2 ≤ T.cps.size := by
      unfold fits at hfit
      simp only [Bool.and_eq_true, decide_eq_true_eq] at hfit
      omega
    unfold marked at hmk
    simp only [Bool.and_eq_true, beq_iff_eq] at hmk
    obtain ⟨⟨⟨m1, m2⟩, m3⟩, m4⟩ := hmk
    dsimp only
    refine wpAny_bind ?_
    unfold reNewMatch
    dsimp only
    rw [m1, m2, m3, m4]
    rw [if_neg ?hc]
    case hc =>
      show ¬ (((true && decide (a < 0)) || ((true && decide (T.cps.size - 2 < a)) || ((true && decide (T.cps.size < T.cps.size - 2)) || false))) = true)
      simp only [Bool.true_and, Bool.or_false, Bool.or_eq_true, decide_eq_true_eq, not_or]
      omega
    have D : Mem s.heap ((s.heap.push (spans T.cps.size a (T.cps.size - 2))).push (matchObj x s.heap.objs.size T.cps.size (rawInt ((mach T.cps T.cps.size).runFor STEPS).lastindex))) [] _ := ((Mem.start s.heap).alloc (o := spans T.cps.size a (T.cps.size - 2)) rfl).alloc (o := matchObj x s.heap.objs.size T.cps.size (rawInt ((mach T.cps T.cps.size).runFor STEPS).lastindex)) rfl
    have e1 : min (Int.toNat 0) T.cps.size = 0 := Nat.zero_min _
    have e2 : min (2 ^ 63 - 1 : Int).toNat T.cps.size = T.cps.size := Nat.min_eq_right (Nat.le_trans hn (by decide))
    rw [e1, e2]
    refine wpAny_bind (wpAny_newTuple (items := [ri 0, ri T.cps.size, ri 0, ri a, ri a, ri (T.cps.size - 2), ri (T.cps.size - 2), ri T.cps.size]) ?_ (by show (8 : Nat) ≤ sizeLine; decide))
    refine wpAny_newObj_type ?_
    dsimp only
    refine wpAny_pure ⟨_, rfl, ?_⟩
    exact hsome a _ _ _ _ _ ha hfit (mem_fr F D) (mem_new F N D)
  · intro hm
    have ho : ((mach T.cps T.cps.size).runFor STEPS).outcome = some .failed := by
      revert hm; cases ((mach T.cps T.cps.size).runFor STEPS).outcome with
      | none => intro h; cases h
      | some o => cases o <;> intro h <;> first | rfl | cases h
    rw [ho] at ht
    dsimp only at ht
    simp only [Bool.and_eq_true, Bool.not_eq_true'] at ht
    exact wpAny_pure ⟨_, rfl, hnone ht.1 ht.2 _⟩
  · intro why hm
    rw [hm] at ht
    cases ht
end
end Mine
end

/-! ## R5 -/
section
open PySem PySem.W PySem.W.X PyProof.Rows PySem.Calls PySem.Spec
set_option maxRecDepth 100000
namespace Mine
open RE
theorem fillR5 : (fun (_ : Params → Frag) (_ : OpenLaw) => True) Mine.hd.heap_39 PySem.Challenge.rw_fc0077_01 := by k_fill; trivial
theorem shape_of {T : Array Nat} {a : Nat} (ha : a ≤ 1) (h : fits T T.size a = true) : Shape a (T.size - 2) T.size := by
  unfold fits at h
  simp only [Bool.and_eq_true, decide_eq_true_eq] at h
  unfold Shape
  omega
/-- the days that the class knows -/
def isDay (x : Str) : Bool := [Str.ofString "SU", Str.ofString "MO", Str.ofString "TU", Str.ofString "WE", Str.ofString "TH", Str.ofString "FR", Str.ofString "SA"].any fun y => y == x
theorem any_find {α β : Type} {f : α → β} {p : α → Bool} : ∀ l : List α, (Option.map f (l.find? p)).isSome = l.any p
  | [] => rfl
  | a :: l => by
    rw [List.find?_cons, List.any_cons]
    cases h : p a with
    | true => rfl
    | false => exact any_find l
section
variable {w : World} {A : Around} {E : Value → Shared → Prop} {s : Shared} {h₀ : Heap} {L : Addr} {m : Str → Option Value} {x : Str} {t : Tok}
theorem notIn_days {Q : Value → Shared → Prop} (F : Fr h₀ L s.heap m) (X₀ : (Mine.hd.heap_39 w.params).In h₀) (h : Q (.bool (!isDay x)) { s with toks := s.toks + 1 }) : wpAny (model PR w) A (compareOp .NotIn (.str x t) (.ref 327)) Q E s := by
  refine' wpAny_notIn_of (strKind_is PR w x t) (by decide) (mapOf_K (K := Mine.hd.heap_39 w.params) (X₀.keeps F.keep) (a := 327) ?hl ?hk) ?_
  case hl => k_is
  case hk => exact ⟨⟨_, _, rfl, rfl⟩, ⟨_, _, rfl, rfl⟩, ⟨_, _, rfl, rfl⟩, ⟨_, _, rfl, rfl⟩, ⟨_, _, rfl, rfl⟩, ⟨_, _, rfl, rfl⟩, ⟨_, _, rfl, rfl⟩, trivial⟩
  have e : ∀ r, r = isDay x → Q (.bool (!r)) { s with toks := s.toks + 1 } := fun r hr => hr ▸ h
  refine e _ ?_
  unfold findBy isDay
  rw [List.find?_toArray]
  rw [any_find]
  rfl
end
end Mine
end

/-! ## R6 -/
section
open PySem PySem.W PySem.W.X PyProof.Rows PySem.Calls PySem.Spec Builtin Builtin.ObjectAttr
set_option maxRecDepth 100000
namespace Mine
theorem fillR6 : (fun (_ : Params → Frag) (_ : OpenLaw) => True) Mine.hd.heap_39 PySem.Challenge.rw_fc0077_01 := by k_fill; trivial
theorem refuse365 (self : Value) : refuseLoop self "__setattr__" [.ref 365, .type "str", .type "object"] = pure () := by
  rw [refuseLoop_ref]
  have h : refuseLoop self "__setattr__" (.type "str" :: [.type "object"]) = refuseLoop self "__setattr__" [.type "object"] := by
    unfold refuseLoop
    simp only [List.forIn_cons]
    kernel_rfl
  rw [h]
  exact PySem.F.store_object.passes self
theorem notIns {α : Type} {l : List α} (h : l ≠ []) : l.isEmpty = false := by cases l <;> simp_all
section
variable {w : World} {A : Around} {s : Shared} {h₀ : Heap} {L x : Addr} {m : Str → Option Value} {news news' : List (Addr × Obj)} {R : Result → Shared → Prop} {E : Value → Shared → Prop}
theorem osa_open365 {ox : Obj} {od : Option Obj} {name : Str} {tk : Tok} {v : Value} {r : Option Value} (X : (Mine.hd.heap_39 w.params).In s.heap) (I : InstAt s.heap x ox 365 od) (ht : takerIn (Mine.hd.heap_39 w.params) 365 name = some r)
    (h : ∀ b, wpAny (model PR w) A.in1 (match r with | some a => setByDescriptor a (.ref x) v | none => storeInOwnDict (.ref x) (.ref 365) (.str name tk) name v b)
      (fun fin s' => match fin with | .done f => R (.ok f) s' | .again c' => c'.quiet = true ∧ codeAny (model PR w) A c' R s') (fun e s' => R (.error e) s') s) :
    codeAny (model PR w) A (.call (.builtin "object.__setattr__") ⟨[.ref x, .str name tk, v], []⟩) R s := by
  have SF := PySem.F.store_object
  have hm : Looks (model PR w) s.heap (mroOf (.ref 365)) [.ref 365, .type "str", .type "object"] := mro365 X
  have sub : Looks (model PR w) s.heap (isInstance (.ref x) (.type "object")) true := I.type.andThen (looks_subIn X (by k_is))
  refine codeAny_call_builtin SF.slot.plain SF.entry (@check_slot (model PR w) _ _ s "object.__setattr__" "object" "__setattr__" (.ref x) [.str name tk, v] [] _ SF.kind SF.split sub (SF.args (.ref x) (.str name tk) v) ?_)
  obtain ⟨attr, ha, hr⟩ := Option.bind_eq_some_iff.mp ht
  have L3 : Looks (model PR w) s.heap (storeTaker? attr) r := by
    cases attr with
    | none => cases hr; exact .now
    | some a =>
      obtain ⟨b, hb, rfl⟩ := Option.map_eq_some_iff.mp hr
      refine (looks_takesIn X hb).andThen ?_
      cases b <;> exact .now
  rw [osa_eq, refuse_eq]
  refine wpAny_bind (wpAny_bind (I.type.here (wpAny_bind (hm.here ?_))))
  rw [refuse365]
  refine wpAny_pure (wpAny_bind (I.type.here (wpAny_bind ((looks_findIn X ha).here (wpAny_bind (L3.here ?_))))))
  exact h _
theorem osa_descr365 {ox : Obj} {od : Option Obj} {name : Str} {tk : Tok} {v : Value} {p : Addr} {T i : String} (S : Slot T "__set__" i) (X : (Mine.hd.heap_39 w.params).In s.heap) (I : InstAt s.heap x ox 365 od) (ht : takerIn (Mine.hd.heap_39 w.params) 365 name = some (some (.ref p)))
    (hT : typeIn (Mine.hd.heap_39 w.params) (.ref p) = some (.type T)) (h : codeAny (model PR w) A.in1 (.call (.builtin i) ⟨[.ref p, .ref x, v], []⟩) (fun r s' => match r with | .ok (.ret _) => R (.ok (.ret .none)) s' | .ok _ => False | .error e => R (.error e) s') s) :
    codeAny (model PR w) A (.call (.builtin "object.__setattr__") ⟨[.ref x, .str name tk, v], []⟩) R s := by
  refine osa_open365 X I ht fun _ => ?_
  refine wpAny_bind (wpAny_rule (wpAny_bind (wpAny_holding (wpAny_bind (wpAny_bind ((looks_typeIn X hT).here ((Looks.of_pure S.lookup).here (wpAny_holding ?_))))))))
  rw [S.bind]
  refine wpAny_bind (wpAny_pure (wpAny_bind (wpAny_call (codeAny_mono h fun r s' z => ?_))))
  rcases r with e | (v | _ | _ | _) <;> first | exact z | exact wpAny_pure (wpAny_pure z)
theorem set_slot365 {ox ox' od : Obj} {name : Str} {v : Value} {p i : Nat} {Q : Unit → Shared → Prop} (F : Fr h₀ L s.heap m) (X₀ : (Mine.hd.heap_39 w.params).In h₀) (N : News h₀ L s.heap news) (I : InstAt s.heap x ox 365 (some od))
    (hs : findIn (Mine.hd.heap_39 w.params) (.ref 365) "__setattr__" = some (some (.builtin "object.__setattr__"))) (ht : takerIn (Mine.hd.heap_39 w.params) 365 name = some (some (.ref p))) (hT : typeIn (Mine.hd.heap_39 w.params) (.ref p) = some (.type "member_descriptor")) (hi : slotIn (Mine.hd.heap_39 w.params) p 365 = some i) (hz : i < 1000)
    (e : { ox with slots := (ox.slots ++ Array.replicate (i + 1 - ox.slots.size) none).setIfInBounds i (some v) } = ox') (hf : ox'.isFreed = false) (U : Upd x ox ox' news news')
    (h : ∀ h', Fr h₀ L h' m → News h₀ L h' news' → Q () { s with heap := h', toks := s.toks + 1 }) : wpAny (model PR w) A (setAttr (.ref x) name v) Q E s := by
  obtain ⟨pre, post, rfl, rfl, a, b⟩ := U.split
  exact set_plain (X₀.keeps F.keep) I hs (osa_descr365 (s := { s with toks := s.toks + 1 }) KF.slot_mset (X₀.keeps F.keep) I ht hT (slot_set (s := { s with toks := s.toks + 1 }) F N (X₀.keeps F.keep) I hi hz a b e hf fun h' F' N' => h h' F' N'))
end
end Mine
end

/-! ## R7 -/
section
open PySem PySem.W PySem.W.X PyProof.Rows PySem.Calls PySem.Spec
set_option maxRecDepth 100000
namespace Mine
open RE PySem.NumText PySem.W.KIN
theorem fillR7 : (fun (_ : Params → Frag) (_ : OpenLaw) => True) Mine.hd.heap_39 PySem.Challenge.rw_fc0077_01 := by k_fill; trivial
def SG (x : Str) : Prop := x = ⟨#[]⟩ ∨ x = ⟨#[43]⟩ ∨ x = ⟨#[45]⟩
section
variable {w : World} {A : Around} {E : Value → Shared → Prop} {s : Shared} {x : Str} {t u : Tok}
theorem sign_in {Q : Value → Shared → Prop} (hx : SG x) (h : Q (.bool false) s) : wpAny (model PR w) A (compareOp .NotIn (.str x t) (.str (Str.ofString "+-") u)) Q E s := by
  refine PyProof.Rows.notIn_str ?_
  have e : (!(!(Builtin.Str.occurrences (Str.ofString "+-") x 0 (Str.ofString "+-").length 1).isEmpty)) = false := by
    rcases hx with rfl | rfl | rfl <;> decide +kernel
  rw [e]
  exact h
theorem int_rl {Q : Value → Shared → Prop} (hd : ∀ c ∈ x.cps.toList, 48 ≤ c ∧ c ≤ 57) (hne : x.length ≠ 0) (hl : x.length ≤ 640) (h : Q (.int (digitsVal x.cps.toList : Nat) s.toks) { s with toks := s.toks + 1 }) : wpAny (model PR w) A (call (.type "int") [.str x t]) Q E s := by
  refine call_text (intText_digits hd ?_ (Nat.le_trans hl (by decide))) hl h
  intro e
  apply hne
  show x.cps.size = 0
  rw [← Array.length_toList, e]; rfl
end
theorem ex_getD {T : Array Nat} {a b i : Nat} (h : a + i < b) (hb : b ≤ T.size) : (T.extract a b).getD i 0 = T.getD (a + i) 0 := by
  rw [Array.getD_eq_getD_getElem?, Array.getD_eq_getD_getElem?, Array.getElem?_extract]
  rw [if_pos (by omega)]
theorem arr_mem {T : Array Nat} {c : Nat} (h : c ∈ T.toList) : ∃ i, i < T.size ∧ T.getD i 0 = c := by
  obtain ⟨i, hi, e⟩ := List.mem_iff_getElem.mp h
  refine ⟨i, by simpa using hi, ?_⟩
  rw [Array.getD_eq_getD_getElem?]
  simp at hi e
  simp [hi, e]
theorem fits_sg {T : Array Nat} {a : Nat} (ha : a ≤ 1) (h : fits T T.size a = true) : SG ⟨T.extract 0 a⟩ := by
  unfold fits at h
  simp only [Bool.and_eq_true, decide_eq_true_eq, Bool.or_eq_true, beq_iff_eq] at h
  obtain ⟨⟨⟨⟨⟨⟨h1, h2⟩, h3⟩, -⟩, -⟩, -⟩, -⟩ := h
  rcases h3 with rfl | h3
  · left; congr 1; simp
  · by_cases h0 : a = 0
    · subst h0; left; congr 1; simp
    · have : a = 1 := by omega
      subst this
      obtain ⟨l⟩ := T
      match l, h1, h3 with
      | c :: r, h1, h3 =>
        rcases sign_or h3 with e | e
        · have : c = 43 := e
          subst this; right; left; congr 1; simp
        · have : c = 45 := e
          subst this; right; right; congr 1; simp
theorem fits_dg {T : Array Nat} {a : Nat} (h : fits T T.size a = true) : ∀ c ∈ (T.extract a (T.size - 2)).toList, 48 ≤ c ∧ c ≤ 57 := by
  unfold fits at h
  simp only [Bool.and_eq_true, decide_eq_true_eq, Bool.or_eq_true, beq_iff_eq] at h
  obtain ⟨⟨⟨⟨⟨⟨h1, h2⟩, -⟩, h4⟩, h5⟩, -⟩, -⟩ := h
  intro c hc
  obtain ⟨i, hi, rfl⟩ := arr_mem hc
  rw [Array.size_extract] at hi
  rw [ex_getD (by omega) (by omega)]
  have hi' : i = 0 ∨ i = 1 := by omega
  rcases hi' with rfl | rfl
  · rcases h4 with h4 | h4
    · omega
    · simpa [okDigit] using h4
  · rcases h5 with h5 | h5
    · omega
    · simpa [okDigit] using h5
section
variable {w : World} {h₀ : Heap} {L : Addr} {m : Str → Option Value} {news : List (Addr × Obj)} {s : Shared} {A : Around} {E : Value → Shared → Prop} {Q : Value → Shared → Prop}
theorem groups_f (a1 : A.handled = none) (a2 : A.depth ≤ 700) (a3 : A.units ≤ 3000)
   {T : Str} {t : Tok} {x d mo tp : Addr} {sl : Array (Option Value)} {li : Value} {a : Nat} (ha : a ≤ 1) (hf : fits T.cps T.cps.size a = true) (F : Fr h₀ L s.heap m) (KX : (Mine.hd.heap_39 w.params).In s.heap) (N : News h₀ L s.heap news)
   (hm : (mo, matchObj x tp T.cps.size li) ∈ news) (ht : (tp, spans T.cps.size a (T.cps.size - 2)) ∈ news) (hx : (x, vwObj d T t sl) ∈ news)
   (hret : ∀ (sg rl wd : Str) (tu : Addr) (t1 t2 t3 : Tok) (h' : Heap) (tk' : Nat), sg = ⟨T.cps.extract 0 a⟩ → rl = ⟨T.cps.extract a (T.cps.size - 2)⟩ → wd = ⟨T.cps.extract (T.cps.size - 2) T.cps.size⟩ → sg.length ≤ 1 → rl.length ≤ 2 → wd.length = 2 → SG sg → (∀ c ∈ rl.cps.toList, 48 ≤ c ∧ c ≤ 57) →
     Fr h₀ L h' m → News h₀ L h' ((tu, tup3 (.str sg t1) (.str rl t2) (.str wd t3)) :: news) → Q (.ref tu) { s with heap := h', toks := tk' }) :
   wpAny (model PySem.Challenge.rw_fc0077_01.row.prog w) A (call (.builtin "re.Match.groups") [.ref mo]) Q E s :=
  groups_c a1 a2 a3 (shape_of ha hf) rfl F KX N hm ht hx fun sg rl wd tu t1 t2 t3 h' tk' e1 e2 e3 l1 l2 l3 F' N' => hret sg rl wd tu t1 t2 t3 h' tk' e1 e2 e3 l1 l2 l3 (e1 ▸ fits_sg ha hf) (e2 ▸ fits_dg hf) F' N'
end
end Mine
namespace Mine
section
variable {w : World} {A : Around} {E : Value → Shared → Prop} {s : Shared} {x : Str} {t : Tok}
theorem truthy_ne {Q : Bool → Shared → Prop} (hn : x.length ≠ 0) (hl : x.length ≤ 1000) (h : Q true { s with toks := s.toks + 1 + 1 }) : wpAny (model PR w) A (truthy (.str x t)) Q E s := by
  refine P.truthy_str (by have : (2:Int)^63 = 9223372036854775808 := by decide
                          omega) ?_
  have e : ((x.length : Int) != 0) = true := by simp only [bne_iff_ne]; omega
  rw [e]; exact h
end
end Mine
end

/-! ## R8 -/
section
open PySem PySem.W PySem.W.X PyProof.Rows PySem.Calls PySem.Spec
set_option maxRecDepth 100000
namespace Mine
theorem fillR8 : (fun (_ : Params → Frag) (_ : OpenLaw) => True) Mine.hd.heap_39 PySem.Challenge.rw_fc0077_01 := by k_fill; trivial
section
variable {w : World} {A : Around} {s : Shared} {h₀ : Heap} {L x d : Addr} {m : Str → Option Value} {news news' : List (Addr × Obj)} {E : Value → Shared → Prop} {T : Str} {t : Tok} {sl sl' : Array (Option Value)}
theorem inst365 (N : News h₀ L s.heap news) (hx : (x, vwObj d T t sl) ∈ news) (hd : (d, dict0) ∈ news) : InstAt s.heap x (vwObj d T t sl) 365 (some dict0) := ⟨(N _ hx).1, rfl, rfl, (N _ hd).1⟩
theorem set_weekday {v : Value} {Q : Unit → Shared → Prop} (F : Fr h₀ L s.heap m) (X₀ : (Mine.hd.heap_39 w.params).In h₀) (N : News h₀ L s.heap news) (hx : (x, vwObj d T t #[]) ∈ news) (hd : (d, dict0) ∈ news)
    (hn : ∀ p ∈ news', p.1 ≠ x) (hs : ∀ p ∈ news', p ∈ news)
    (h : ∀ h', Fr h₀ L h' m → News h₀ L h' ((x, vwObj d T t #[none, none, some v]) :: (d, dict0) :: news') → Q () { s with heap := h', toks := s.toks + 1 }) : wpAny (model PR w) A (setAttr (.ref x) "weekday" v) Q E s := by
  have hdx : d ≠ x := News.twoPlaces N hd hx (fun e => by cases e)
  have N2 : News h₀ L s.heap ((x, vwObj d T t #[]) :: (d, dict0) :: news') := fun p hp => by
    rcases List.mem_cons.mp hp with rfl | hp
    · exact N _ hx
    · rcases List.mem_cons.mp hp with rfl | hp
      · exact N _ hd
      · exact N _ (hs p hp)
  refine set_slot365 (p := 369) (i := 2) F X₀ N2 (inst365 N hx hd) ?h1 ?h2 ?h3 ?h4 (by decide) rfl rfl (Upd.head (List.forall_mem_cons.mpr ⟨hdx, hn⟩)) h
  case h1 => k_is
  case h2 => k_is
  case h3 => k_is
  case h4 => k_is
theorem set_relative {a b c : Option Value} {v : Value} {Q : Unit → Shared → Prop} (F : Fr h₀ L s.heap m) (X₀ : (Mine.hd.heap_39 w.params).In h₀) (N : News h₀ L s.heap news) (hx : (x, vwObj d T t #[a, b, c]) ∈ news) (hd : (d, dict0) ∈ news)
    (hn : ∀ p ∈ news', p.1 ≠ x) (hs : ∀ p ∈ news', p ∈ news)
    (h : ∀ h', Fr h₀ L h' m → News h₀ L h' ((x, vwObj d T t #[a, some v, c]) :: (d, dict0) :: news') → Q () { s with heap := h', toks := s.toks + 1 }) : wpAny (model PR w) A (setAttr (.ref x) "relative" v) Q E s := by
  have hdx : d ≠ x := News.twoPlaces N hd hx (fun e => by cases e)
  have N2 : News h₀ L s.heap ((x, vwObj d T t #[a, b, c]) :: (d, dict0) :: news') := fun p hp => by
    rcases List.mem_cons.mp hp with rfl | hp
    · exact N _ hx
    · rcases List.mem_cons.mp hp with rfl | hp
      · exact N _ hd
      · exact N _ (hs p hp)
  refine set_slot365 (p := 368) (i := 1) F X₀ N2 (inst365 N hx hd) ?h1 ?h2 ?h3 ?h4 (by decide) rfl rfl (Upd.head (List.forall_mem_cons.mpr ⟨hdx, hn⟩)) h
  case h1 => k_is
  case h2 => k_is
  case h3 => k_is
  case h4 => k_is
theorem set_params {a b c : Option Value} {v : Value} {Q : Unit → Shared → Prop} (F : Fr h₀ L s.heap m) (X₀ : (Mine.hd.heap_39 w.params).In h₀) (N : News h₀ L s.heap news) (hx : (x, vwObj d T t #[a, b, c]) ∈ news) (hd : (d, dict0) ∈ news)
    (hn : ∀ p ∈ news', p.1 ≠ x) (hs : ∀ p ∈ news', p ∈ news)
    (h : ∀ h', Fr h₀ L h' m → News h₀ L h' ((x, vwObj d T t #[some v, b, c]) :: (d, dict0) :: news') → Q () { s with heap := h', toks := s.toks + 1 }) : wpAny (model PR w) A (setAttr (.ref x) "params" v) Q E s := by
  have hdx : d ≠ x := News.twoPlaces N hd hx (fun e => by cases e)
  have N2 : News h₀ L s.heap ((x, vwObj d T t #[a, b, c]) :: (d, dict0) :: news') := fun p hp => by
    rcases List.mem_cons.mp hp with rfl | hp
    · exact N _ hx
    · rcases List.mem_cons.mp hp with rfl | hp
      · exact N _ hd
      · exact N _ (hs p hp)
  refine set_slot365 (p := 367) (i := 0) F X₀ N2 (inst365 N hx hd) ?h1 ?h2 ?h3 ?h4 (by decide) rfl rfl (Upd.head (List.forall_mem_cons.mpr ⟨hdx, hn⟩)) h
  case h1 => k_is
  case h2 => k_is
  case h3 => k_is
  case h4 => k_is
end
end Mine
end

/-! ## R9 -/
section
open PySem PySem.W PySem.W.X PyProof.Rows PySem.Calls PySem.Spec Builtin Builtin.ObjectAttr
set_option maxRecDepth 100000
namespace Mine
theorem fillR9 : (fun (_ : Params → Frag) (_ : OpenLaw) => True) Mine.hd.heap_39 PySem.Challenge.rw_fc0077_01 := by k_fill; trivial
section
variable {w : World} {A : Around} {s : Shared} {h₀ : Heap} {L x d : Addr} {m : Str → Option Value} {news : List (Addr × Obj)} {E : Value → Shared → Prop} {Q : Value → Shared → Prop} {expr : Bool}
theorem get_weekday {a b : Option Value} {v : Value} {T : Str} {t : Tok} (F : Fr h₀ L s.heap m) (X₀ : (Mine.hd.heap_39 w.params).In h₀) (N : News h₀ L s.heap news) (hx : (x, vwObj d T t #[a, b, some v]) ∈ news) (hd : (d, dict0) ∈ news) (hh : handedIn v = true)
    (h : Q v { s with toks := s.toks + 1 }) : wpAny (model PR w) A (getAttr (.ref x) "weekday" expr) Q E s := by
  refine get_slot (p := 369) (i := 2) F X₀ (inst365 N hx hd) ?h1 ?h2 ?h3 ?h4 ?h5 ?h6 rfl hh h
  case h1 => k_is
  case h2 => k_is
  case h3 => k_is
  case h4 => k_is
  case h5 => k_is
  case h6 => k_is
theorem get_relative {a b : Option Value} {v : Value} {T : Str} {t : Tok} (F : Fr h₀ L s.heap m) (X₀ : (Mine.hd.heap_39 w.params).In h₀) (N : News h₀ L s.heap news) (hx : (x, vwObj d T t #[a, some v, b]) ∈ news) (hd : (d, dict0) ∈ news) (hh : handedIn v = true)
    (h : Q v { s with toks := s.toks + 1 }) : wpAny (model PR w) A (getAttr (.ref x) "relative" expr) Q E s := by
  refine get_slot (p := 368) (i := 1) F X₀ (inst365 N hx hd) ?h1 ?h2 ?h3 ?h4 ?h5 ?h6 rfl hh h
  case h1 => k_is
  case h2 => k_is
  case h3 => k_is
  case h4 => k_is
  case h5 => k_is
  case h6 => k_is
/-- what the number says: none where no digits or noughts, else the digits with the sign -/
def relOf (sg rl : Str) (r : Value) : Prop :=
  if digitsVal' rl = 0 then r = .none else ∃ tk, r = .int (if sg = ⟨#[45]⟩ then -(digitsVal' rl : Int) else (digitsVal' rl : Int)) tk
where digitsVal' (rl : Str) : Nat := PySem.NumText.digitsVal rl.cps.toList
theorem relOf_handed {sg rl : Str} {r : Value} (h : relOf sg rl r) : handedIn r = true := by
  unfold relOf at h
  split at h
  · subst h; rfl
  · obtain ⟨tk, rfl⟩ := h; rfl
theorem truthy_z {x : Str} {t : Tok} {Q : Bool → Shared → Prop} (hn : x.length = 0) (h : Q false { s with toks := s.toks + 1 + 1 }) : wpAny (model PR w) A (truthy (.str x t)) Q E s := by
  refine P.truthy_str (by have : (2:Int)^63 = 9223372036854775808 := by decide
                          omega) ?_
  have e : ((x.length : Int) != 0) = false := by rw [hn]; rfl
  rw [e]; exact h
/-- the end of the two statements that set the number -/
structure RelEnd (h₀ : Heap) (L : Addr) (m : Str → Option Value) (x d : Addr) (T sg rl : Str) (t : Tok) (a b : Option Value) (news : List (Addr × Obj)) (s : Shared) (fl : Flow) (s' : Shared) : Prop where
  ends : fl = .next ∧ ∃ r h' tk', s' = { s with heap := h', toks := tk' } ∧ relOf sg rl r ∧ Fr h₀ L h' m ∧ News h₀ L h' ((x, vwObj d T t #[a, some r, b]) :: (d, dict0) :: news)
theorem rel_end {T sg rl : Str} {t : Tok} {a b : Option Value} {r : Value} {h' : Heap} {tk' : Nat} (N : News h₀ L h' ((x, vwObj d T t #[a, some r, b]) :: (d, dict0) :: news)) (F : Fr h₀ L h' m) (hr : relOf sg rl r) :
    RelEnd h₀ L m x d T sg rl t a b news s .next { s with heap := h', toks := tk' } := ⟨rfl, r, h', tk', rfl, hr, F, N⟩
theorem relA {sg rl : Str} (h : (rl.length : Int) = 0) : relOf sg rl .none := by
  have e : rl.cps.toList = [] := List.eq_nil_of_length_eq_zero (by rw [Array.length_toList]; exact Int.ofNat_inj.mp h)
  unfold relOf relOf.digitsVal'
  rw [e, if_pos (show PySem.NumText.digitsVal [] = 0 from rfl)]
theorem relB {sg rl : Str} (h : (PySem.NumText.digitsVal rl.cps.toList : Int) = 0) : relOf sg rl .none := by
  unfold relOf relOf.digitsVal'
  rw [if_pos (by omega)]
theorem relC {sg rl : Str} {tk : Tok} (h : ¬ (PySem.NumText.digitsVal rl.cps.toList : Int) = 0) (hs : (sg == Str.ofString "-") = false) : relOf sg rl (.int (PySem.NumText.digitsVal rl.cps.toList : Nat) tk) := by
  have hs' : sg ≠ ⟨#[45]⟩ := by intro e; subst e; exact absurd hs (by decide)
  unfold relOf relOf.digitsVal'
  rw [if_neg (by omega), if_neg hs']
  exact ⟨_, rfl⟩
theorem relD {sg rl : Str} {tk : Tok} (h : ¬ (PySem.NumText.digitsVal rl.cps.toList : Int) = 0) (hs : (sg == Str.ofString "-") = true) : relOf sg rl (.int ((PySem.NumText.digitsVal rl.cps.toList : Nat) * -1) tk) := by
  have hs' : sg = ⟨#[45]⟩ := eq_of_beq hs
  unfold relOf relOf.digitsVal'
  rw [if_neg (by omega), if_pos hs']
  refine ⟨tk, ?_⟩
  congr 1
  omega
theorem execs_split {env : Env} {rest : List Stmt} {M : Model} {Q : Flow → Shared → Prop} {l : List Stmt} {s : Shared} (h : wpAny M A (execs l env) (fun fl s' => match fl with | .next => wpAny M A (execs rest env) Q E s' | f => Q f s') E s) : wpAny M A (execs (l ++ rest) env) Q E s := by
  intro Γ p hΓ
  have h0 := h Γ p hΓ
  clear h
  revert h0
  generalize s = s0
  revert p s0
  induction l with
  | nil => intro p s h; exact h Γ p hΓ
  | cons st l ih =>
    intro p s h
    rw [execs_cons, Sem.wp_bind'] at h
    show Sem.wp M Γ (execs (st :: (l ++ rest)) env) _ _ p s
    rw [execs_cons, Sem.wp_bind']
    refine Sem.wp_mono M Γ _ (fun f p' s' h' => ?_) (fun _ _ _ h' => h') _ _ h
    cases f <;> first | exact ih p' s' h' | exact h'
theorem rel_cut {env : Env} {s1 s2 : Stmt} {s3 : Stmt} {rest : List Stmt} {T sg rl wd : Str} {t t3 : Tok} {a : Option Value} {M : Model} {Q : Flow → Shared → Prop} (_F : Fr h₀ L s.heap m) (_N : News h₀ L s.heap ((x, vwObj d T t #[a, none, some (.str wd t3)]) :: (d, dict0) :: news)) (_hsg : SG sg) (_hrl : ∀ c ∈ rl.cps.toList, 48 ≤ c ∧ c ≤ 57)
    (h1 : wpAny M A (execs [s1, s2] env) (RelEnd h₀ L m x d T sg rl t a (some (.str wd t3)) news s) E s)
    (h2 : ∀ r h' tk', relOf sg rl r → Fr h₀ L h' m → News h₀ L h' ((x, vwObj d T t #[a, some r, some (.str wd t3)]) :: (d, dict0) :: news) → wpAny M A (execs (s3 :: rest) env) Q E { s with heap := h', toks := tk' }) :
    wpAny M A (execs (s1 :: s2 :: s3 :: rest) env) Q E s := by
  refine execs_split (l := [s1, s2]) (wpAny_mono h1 (fun fl s' h => ?_) fun _ _ h => h)
  obtain ⟨rfl, r, h', tk', rfl, hr, F', N'⟩ := h
  exact h2 r h' tk' hr F' N'
end
end Mine
end

/-! ## R10 -/
section
open PySem PySem.W PySem.W.X PyProof.Rows PySem.Calls PySem.Spec
set_option maxRecDepth 100000
namespace Mine
theorem wp_deep {α : Type} {M : Model} {t : Sem α} {Q : α → Shared → Prop} {E : Value → Shared → Prop} {s : Shared} {d u D U : Nat} {gd : Option (List Code)} {cn : Str} {cs : Scope} {L a : Addr} {ccd : Value} {cl : List (Str × Addr)} {outer : List Env} (hd : d ≤ D) (hu : u ≤ U)
    (h : wpAny M (ktrTop D U gd cn cs L a ccd cl outer) t Q E s) : wpAny M (ktrTop d u gd cn cs L a ccd cl outer) t Q E s :=
  fun Γ p hΓ => h Γ p ⟨hΓ.1, Nat.le_trans hΓ.2.1 hd, hΓ.2.2.1, hΓ.2.2.2.1, Nat.le_trans hΓ.2.2.2.2 hu⟩
end Mine
end

/-! ## R11 -/
section
open PySem PySem.W PySem.W.X PyProof.Rows PySem.Calls PySem.Spec Builtin Builtin.ObjectAttr
set_option maxRecDepth 100000
namespace Mine
section
variable {w : World} {A : Around} {s : Shared} {C : Addr} {oc : Value} {od : Option Addr} {cd : ClassData} {sl : Array (Option Value)} {rest : List Value} {kw : List (Str × Value)} {R : Result → Shared → Prop} {made? : Option String}
theorem made_of {h : Heap} {M : Model} {v : Value} {r : Option String} (hC : h.get? C = some ⟨oc, od, .cls cd, sl⟩) (hl : cd.mro.isEmpty = false) (h4 : (sl.toList[4]?).join = some v) (hr : r = match v with | .builtin i => some i | _ => none) (hm : Looks M h (mroOf (.ref C)) cd.mro) : Looks M h (Bind.madeBy (.ref C)) r := by
  obtain ⟨c, l, hl⟩ : ∃ c l, cd.mro = c :: l := by cases q : cd.mro with | nil => rw [q] at hl; cases hl | cons c l => exact ⟨c, l, rfl⟩
  intro A Q E s k q
  unfold Bind.madeBy
  refine wpAny_bind (hm A _ E s k ?_)
  rw [hl, List.forIn_cons]
  refine wpAny_bind (wpAny_bind (wpAny_bind (wpAny_bind (wpAny_loadPart (k _ _ hC) (wpAny_pure ?_)))))
  dsimp only
  rw [← Array.getElem?_toList, h4]
  subst hr
  cases v <;> exact wpAny_pure (wpAny_pure (wpAny_pure q))
theorem class_call (hC : s.heap.get? C = some ⟨oc, od, .cls cd, sl⟩) (e4 : cd.mro.isEmpty = false) (call : Looks (model PR w) s.heap (specialOf (.ref C) "__call__") (some (.builtin "type.__call__"))) (typ : Looks (model PR w) s.heap (isInstance (.ref C) (.type "type")) true)
   (made : Looks (model PR w) s.heap (Bind.madeBy (.ref C)) made?)
   (h : wpAny (model PR w) (A.under (.builtin "type.__call__" ⟨.ref C :: rest, kw⟩)) (match made? with | some i => pure (.builtin i) | none => getAttr (.ref C) "__new__") (fun f s1 => wpAny (model PR w) (A.under (.builtin "type.__call__" ⟨.ref C :: rest, kw⟩)) (PySem.call f (.ref C :: rest) kw)
      (fun obj s2 => ∃ x, obj = .ref x ∧ Looks (model PR w) s2.heap (isInstance (.ref x) (.ref C)) true ∧ wpAny (model PR w) (A.under (.builtin "type.__call__" ⟨.ref C :: rest, kw⟩)) (callSpecial? (.ref x) "__init__" rest kw) (fun r s3 => (r = none ∨ r = some .none) ∧ R (.ok (.ret (.ref x))) s3) (fun e s' => R (.error e) s') s2) (fun e s' => R (.error e) s') s1) (fun e s' => R (.error e) s') s) :
   codeAny (model PR w) A (.call (.ref C) ⟨rest, kw⟩) R s := by
  obtain ⟨hh, g, d, t, os⟩ := s
  dsimp only at made call typ hC
  refine codeAny_of_tree ?_
  show wpAny _ _ (callAny (.ref C) _) _ _ _
  refine nd_load hC ?_
  show wpAny _ _ (callAny.viaDunder (.ref C) _) _ _ _
  unfold callAny.viaDunder
  refine wpAny_bind (call.at ?_)
  dsimp only
  rw [tc_bind]
  refine wpAny_bind (wpAny_pure (wpAny_bind (wpAny_pure ?_)))
  refine wpAny_pure (a := Fin.again (.call (.builtin "type.__call__") ⟨.ref C :: rest, kw⟩)) (And.intro rfl ?_)
  refine codeAny_call_builtin_at (Code.quiet_builtin _ (by decide +kernel)) entry_typeCall (check_slot tc_kind tc_split typ (tc_args _ _ _) ?_)
  unfold Builtin.«type.__call__»
  have hm : Looks (model PR w) hh (mroOf (.ref C)) cd.mro := ((Looks.ld (part := none) hC).andThen .now).andThen .now
  repeat (first | simp only [e4, Bool.false_eq_true, if_false] | lk)
  have key : ∀ f s1, wpAny (model PR w) (A.under (.builtin "type.__call__" ⟨.ref C :: rest, kw⟩)) (PySem.call f (.ref C :: rest) kw)
      (fun obj s2 => ∃ x, obj = .ref x ∧ Looks (model PR w) s2.heap (isInstance (.ref x) (.ref C)) true ∧ wpAny (model PR w) (A.under (.builtin "type.__call__" ⟨.ref C :: rest, kw⟩)) (callSpecial? (.ref x) "__init__" rest kw) (fun r s3 => (r = none ∨ r = some .none) ∧ R (.ok (.ret (.ref x))) s3) (fun e s' => R (.error e) s') s2) (fun e s' => R (.error e) s') s1 →
      wpAny (model PR w) (A.under (.builtin "type.__call__" ⟨.ref C :: rest, kw⟩)) (do
        let obj ← holding [f] (PySem.call f (.ref C :: rest) kw)
        if !(← isInstance obj (.ref C)) then rule "type.call.new-gave-other-type"; return ← ret obj
        match ← holding [obj] (callSpecial? obj "__init__" rest kw) with
        | none => ret obj
        | some r =>
          if r != .none then
            rule "type.call.init-returned-value"
            raiseError "TypeError" s!"__init__() should return None, not '{← PySem.typeNameOf r}'"
          ret obj) (fun fin s' => match fin with | .done f => R (.ok f) s' | .again c' => c'.quiet = true ∧ codeAny (model PR w) A c' R s') (fun e s' => R (.error e) s') s1 := by
    intro f s1 h1
    refine wpAny_bind (wpAny_holding (wpAny_mono h1 (fun obj s2 h2 => ?_) fun _ _ z => z))
    obtain ⟨x, rfl, hi, h3⟩ := h2
    refine wpAny_bind (hi.here ?_)
    simp only [Bool.not_true, Bool.false_eq_true, if_false]
    refine wpAny_bind (wpAny_holding (wpAny_mono h3 (fun r s3 h4 => ?_) fun _ _ z => z))
    obtain ⟨hr, h5⟩ := h4
    rcases hr with rfl | rfl
    · exact wpAny_pure h5
    · exact wpAny_pure h5
  cases made? with
  | some i => exact wpAny_bind (wpAny_mono h (fun f s1 h1 => key f s1 h1) fun _ _ z => z)
  | none => exact wpAny_bind (wpAny_mono h (fun f s1 h1 => key f s1 h1) fun _ _ z => z)
end
end Mine
end

/-! ## R12 -/
section
open PySem PySem.W PySem.W.X PyProof.Rows PySem.Calls PySem.Spec
set_option maxRecDepth 100000
namespace Mine
theorem fillR12 : (fun (_ : Params → Frag) (_ : OpenLaw) => True) Mine.hd.heap_39 PySem.Challenge.rw_fc0077_01 := by k_fill; trivial
abbrev paObj (d : Addr) : Obj := ⟨.ref 296, some d, .dict #[] 0, #[]⟩
section
variable {w : World} {h₀ : Heap} {L : Addr} {m : Str → Option Value} {news : List (Addr × Obj)} {s : Shared} {E : Value → Shared → Prop} {Q : Value → Shared → Prop}
local macro_rules | `(tactic| x_close) => `(tactic| ((rename (∀ (_ : Addr) (_ : Addr) (_ : Heap) (_ : Nat), _ → _ → _ → _) => hretX); refine hretX _ _ _ _ (mem_fr (by assumption) (by assumption)) (mem_new (nw := [_, _]) (by assumption) (by assumption) (by assumption)) (lt_new (nw := [_, _]) (by assumption) (by assumption) (by assumption) _ (List.Mem.head _))))
theorem x_dictnew (F : Fr h₀ L s.heap m) (KX : (Mine.hd.heap_39 w.params).In s.heap) (N : News h₀ L s.heap news)
   (hret : ∀ (x d : Addr) (h' : Heap) (tk' : Nat), Fr h₀ L h' m → News h₀ L h' ((x, paObj d) :: (d, dict0) :: news) → (∀ p ∈ news, p.1 ≠ x) → Q (.ref x) { s with heap := h', toks := tk' }) :
   wpAny (model PySem.Challenge.rw_fc0077_01.row.prog w) ABig (call (.builtin "dict.__new__") [.ref 296, .none]) Q E s := by
  x_run
end
end Mine
end

/-! ## P2 -/
section
open PySem PySem.W PySem.W.X PyProof.Rows PySem.Calls PySem.Spec
set_option maxRecDepth 100000
namespace Mine
theorem fillP2 : (fun (_ : Params → Frag) (_ : OpenLaw) => True) Mine.hd.heap_39 PySem.Challenge.rw_fc0077_01 := by k_fill; trivial
section
variable {w : World} {h₀ : Heap} {L : Addr} {m : Str → Option Value} {news : List (Addr × Obj)} {s : Shared} {E : Value → Shared → Prop} {Q : Value → Shared → Prop}
local macro_rules | `(tactic| x_close) => `(tactic| (first | ((rename (∀ (_ : Tok) (_ : Nat), _) => hretX); exact hretX _ _)))
set_option maxHeartbeats 0 in
theorem x_fmt {T : Str} {t t2 : Tok} {x d : Addr} {sl : Array (Option Value)} (hT : T.length ≤ 40) (KX : (Mine.hd.heap_39 w.params).In s.heap) (hx : s.heap.get? x = some ⟨.ref 365, some d, .prim (.str T t), sl⟩) (hd : s.heap.get? d = some ⟨.type "dict", none, .dict #[] 0, #[]⟩)
   (hret : ∀ (t' : Tok) (tk' : Nat), Q (.str T t') { s with toks := tk' }) :
   wpAny (model PySem.Challenge.rw_fc0077_01.row.prog w) ABig (call (.builtin "str.__format__") [.ref x, .str Str.empty t2]) Q E s := by
  x_run
end
end Mine
end

/-! ## P3 -/
section
open PySem PySem.W PySem.W.X PyProof.Rows PySem.Calls PySem.Spec
set_option maxRecDepth 100000
namespace Mine
theorem fillP3 : (fun (_ : Params → Frag) (_ : OpenLaw) => True) Mine.hd.heap_39 PySem.Challenge.rw_fc0077_01 := by k_fill; trivial
section
variable {w : World} {A : Around} {h₀ : Heap} {L : Addr} {m : Str → Option Value} {news : List (Addr × Obj)} {s : Shared} {E : Value → Shared → Prop} {Q : Value → Shared → Prop}
theorem bind_fmt (v : Value) : bindSpecial (.builtin "str.__format__") v = pure (.builtin "str.__format__", [v]) := by kernel_rfl
theorem format_x {T : Str} {t : Tok} {x d : Addr} {sl : Array (Option Value)} (a1 : A.handled = none) (a2 : A.depth ≤ 700) (a3 : A.units ≤ 3000) (hT : T.length ≤ 40) (F : Fr h₀ L s.heap m) (X₀ : (Mine.hd.heap_39 w.params).In h₀) (N : News h₀ L s.heap news) (hx : (x, vwObj d T t sl) ∈ news) (hd : (d, dict0) ∈ news)
   (h : ∀ (t' : Tok) (tk' : Nat), Q (.str T t') { s with toks := tk' }) : wpAny (model PR w) A (formatField (.ref x) Str.empty) Q E s := by
  have X := X₀.keeps F.keep
  have I := inst365 N hx hd
  show wpAny (model PR w) A (holding [Value.ref x] (pyFormat (.ref x) Str.empty)) Q E s
  refine wpAny_holding ?_
  unfold pyFormat
  refine wpAny_bind (wpAny_bind (wpAny_fresh (wpAny_pure ?_)))
  have hlk : findIn (Mine.hd.heap_39 w.params) (.ref 365) "__format__" = some (some (.builtin "str.__format__")) := by k_is
  unfold callSpecial?
  refine wpAny_bind (wpAny_bind (wpAny_bind (Looks.here (s := { s with toks := s.toks + 1 }) I.type (Looks.here (s := { s with toks := s.toks + 1 }) (looks_findIn X hlk) ?_))))
  refine wpAny_holding ?_
  rw [bind_fmt]
  refine wpAny_bind (wpAny_pure (wpAny_bind ?_))
  refine wp_wide a1 a2 a3 (x_fmt (s := { s with toks := s.toks + 1 }) hT X I.at_ (N _ hd).1 fun t' tk' => wpAny_pure ?_)
  dsimp only
  exact wpAny_bind (wpAny_isInstance (typeIs_str _ _ _) isSubtype_str_str (wpAny_pure (h t' tk')))
end
end Mine
end

/-! ## P4 -/
section
open PySem PySem.W PySem.W.X PyProof.Rows PySem.Calls PySem.Spec
set_option maxRecDepth 100000
namespace Mine
section
variable {M : Model} {A A₀ : Around} {E : Value → Shared → Prop} {s' : Shared} {base g g₂ h : Heap} {outer : List Env} {env : Env} {L e : Addr} {m : Str → Option Value} {Q : Unit → Shared → Prop} {news news' : List (Addr × Obj)}
theorem raised_sub {l : List Env} {cls : Value} (R : RaisedSN base g l e cls news h) (hs : ∀ q ∈ news', q ∈ news) : RaisedSN base g l e cls news' h := by
  obtain ⟨B, a0, h1, h2, h3, h4⟩ := R
  exact ⟨B, a0, h1, h2, fun q hq => h3 q (hs q hq), h4⟩
theorem frame_mem {b : Addr} (hf : env.frame = some L) (hm : b ∈ (env :: outer).filterMap (·.frame)) : b = L ∨ b ∈ outer.filterMap (·.frame) := by
  obtain ⟨v, hv, hb⟩ := List.mem_filterMap.mp hm
  rcases List.mem_cons.mp hv with rfl | hv
  · exact .inl (Option.some.inj (hb.symm.trans hf))
  · exact .inr (List.mem_filterMap.mpr ⟨v, hv, hb⟩)
/-- an exception made in a frame leaves it: any function's frame, with cells or without -/
theorem leave_newE {cls : String} (K : Below A base outer g) (hf : env.frame = some L) (hk : env.scope.kind = .function) (hx : Heap.NewExc h s'.heap e cls) (F : Fr g L h m) (N : News g L h news)
    (hQ : ∀ h', RaisedSN base g outer e (.type cls) news h' → g.UpToSlots h' → Q () { s' with heap := h' }) :
    wpAny M (A.deeper env) (leaving env (.ref e)) Q E s' := by
  have K' := pushX K F hf hk
  let fs := (env :: outer).filterMap (·.frame)
  have hin : ∀ v ∈ (env :: outer), ∀ b, v.frame = some b → b ∈ fs := fun v hv b hb => List.mem_filterMap.mpr ⟨v, hv, hb⟩
  have st : base.StaysIn (hideAll h fs) := fun b o q => hideAll_get _ (K'.stays b o q) fun hm => by
    rw [(K'.frames.mem hm).1] at q; cases q
  have sg : ∀ b o, g.get? b = some o → b ∉ outer.filterMap (·.frame) → (hideAll h fs).get? b = some o := fun b o q nm => hideAll_get _ (F.keep b o q) fun hm => by
    rcases frame_mem hf hm with rfl | z
    · rw [kts_self F] at q; cases q
    · exact nm z
  have hl : ∀ q ∈ news, (hideAll h fs).get? q.1 = some q.2 ∧ g.get? q.1 = none ∧ base.get? q.1 = none := fun q hq => by
    refine ⟨hideAll_get _ (N q hq).1 fun hm => ?_, (N q hq).2.2, fresh_of_stays K.stays (N q hq).2.2⟩
    rcases frame_mem hf hm with z | z
    · exact (N q hq).2.1 z
    · obtain ⟨v, hv, hb⟩ := List.mem_filterMap.mp z
      obtain ⟨o, ho, _⟩ := (K.frames.mem (List.mem_filterMap.mpr ⟨v, hv, hb⟩)).2
      rw [(N q hq).2.2] at ho; cases ho
  obtain ⟨ob, tp, he, hcls, hd⟩ := hx.there
  have hen : (hideAll h fs).get? e = none := by
    cases q : (hideAll h fs).get? e with
    | none => rfl
    | some o => have := of_hideAll _ q; rw [hx.new] at this; cases this
  refine wpAny_leaving_firstW (a0 := tp) K'.stack ((funFrames_hide K'.frames hin).of_keeps fun b o hb _ => ⟨o, hx.keeps b o hb, rfl⟩) hf he (fun b o hb => hx.keeps b o (of_hideAll _ hb)) hen hd rfl rfl fun h' hL => ?_
  obtain ⟨k1, ⟨_, _, k2⟩, k3, k4⟩ := hL
  exact hQ h' ⟨_, tp, st, sg, hl, k1, hen, k2, by rw [← hcls]; exact k3⟩ (((Heap.UpToSlots.of_keeps F.keep).trans (Heap.UpToSlots.of_keeps hx.keeps)).trans k4)
end
end Mine
end

/-! ## P5 -/
section
open PySem PySem.W PySem.W.X PyProof.Rows PySem.Calls PySem.Spec
set_option maxRecDepth 100000
namespace Mine
theorem fillP5 : (fun (_ : Params → Frag) (_ : OpenLaw) => True) Mine.hd.heap_39 PySem.Challenge.rw_fc0077_01 := by k_fill; trivial
section
variable {w : World} {A : Around} {h₀ : Heap} {L : Addr} {m : Str → Option Value} {news : List (Addr × Obj)} {s : Shared} {E : Value → Shared → Prop} {Q : Value → Shared → Prop}
local macro_rules | `(tactic| x_close) => `(tactic| (first | ((rename (∀ (_ : Nat), _) => hretX); exact hretX _)))
set_option maxHeartbeats 0 in
theorem x_oinit {T : Str} {t t2 : Tok} {x d : Addr} {sl : Array (Option Value)} (hT : T.length ≤ 40) (KX : (Mine.hd.heap_39 w.params).In s.heap) (hx : s.heap.get? x = some ⟨.ref 365, some d, .prim (.str T t), sl⟩) (hd : s.heap.get? d = some ⟨.type "dict", none, .dict #[] 0, #[]⟩)
   (hret : ∀ (tk' : Nat), Q .none { s with toks := tk' }) :
   wpAny (model PySem.Challenge.rw_fc0077_01.row.prog w) ABig (call (.builtin "object.__init__") [.ref x, .str T t2]) Q E s := by
  x_run
theorem bind_oinit (v : Value) : bindSpecial (.builtin "object.__init__") v = pure (.builtin "object.__init__", [v]) := by kernel_rfl
theorem init_x {T : Str} {t t2 : Tok} {x d : Addr} {sl : Array (Option Value)} {Q : Option Value → Shared → Prop} (a1 : A.handled = none) (a2 : A.depth ≤ 700) (a3 : A.units ≤ 3000) (hT : T.length ≤ 40) (X : (Mine.hd.heap_39 w.params).In s.heap) (N : News h₀ L s.heap news) (hx : (x, vwObj d T t sl) ∈ news) (hd : (d, dict0) ∈ news)
   (h : ∀ (tk' : Nat), Q (some .none) { s with toks := tk' }) : wpAny (model PR w) A (callSpecial? (.ref x) "__init__" [.str T t2]) Q E s := by
  have I := inst365 N hx hd
  have hlk : findIn (Mine.hd.heap_39 w.params) (.ref 365) "__init__" = some (some (.builtin "object.__init__")) := by k_is
  unfold callSpecial?
  refine wpAny_bind (wpAny_bind (I.type.here ((looks_findIn X hlk).here ?_)))
  refine wpAny_holding ?_
  rw [bind_oinit]
  refine wpAny_bind (wpAny_pure (wpAny_bind ?_))
  exact wp_wide a1 a2 a3 (x_oinit hT X I.at_ (N _ hd).1 fun tk' => wpAny_pure (h tk'))
end
theorem under_top {D U : Nat} {gd : Option (List Code)} {cn : Str} {cs : Scope} {L aa : Addr} {ccd : Value} {cl : List (Str × Addr)} {outer : List Env} {C : Addr} {args : List Value} : (ktrTop D U gd cn cs L aa ccd cl outer).under (.builtin "type.__call__" ⟨.ref C :: args, []⟩) = ktrTop (D + 1) (U + 1) gd cn cs L aa ccd cl outer := by
  kernel_rfl
section
variable {w : World} {mean : ExcName → Option Value} {mg mb : Str → Option Value}
/-- the call of the class: what `__new__` gives, or its exception -/
theorem vw_call {T : Str} {tt : Tok} (hT : T.length ≤ 40) {gd : Option (List Code)} {cn : Str} {cs : Scope} {L aa : Addr} {ccd : Value} {cl : List (Str × Addr)} {outer : List Env} {h₀ : Heap} {m : Str → Option Value} {s : Shared} {Q E : Value → Shared → Prop}
   (F : Fr h₀ L s.heap m) (X : (Mine.hd.heap_39 w.params).In h₀)
   (hnew : ∀ tk, wpAny (model PR w) (ktrTop 381 181 gd cn cs L aa ccd cl outer) (call (.ref 336) [.ref 365, .str T tt])
      (fun v s2 => ∃ x d t sl news, v = .ref x ∧ (Mine.hd.heap_39 w.params).In s2.heap ∧ News h₀ L s2.heap news ∧ (x, vwObj d T t sl) ∈ news ∧ (d, dict0) ∈ news ∧ ∀ tk', Q (.ref x) { s2 with toks := tk' }) E { s with toks := tk }) :
   wpAny (model PR w) (ktrTop 380 180 gd cn cs L aa ccd cl outer) (call (.ref 365) [.str T tt]) Q E s := by
  have XX := X.keeps F.keep
  refine wpAny_call ?_
  refine' class_call (in_get XX ?c1) ?c2 ?c3 ?c4 (made_of (in_get XX ?c1) ?c2 ?c5 ?c6 ?c7) ?_
  case c1 => k_is
  case c2 => rfl
  case c3 => exact looks_specialIn XX (by k_is)
  case c4 => exact looks_instIn XX (by k_is)
  case c5 => rfl
  case c6 => rfl
  case c7 => exact (looks_clsIn XX (by k_is)).andThen .now
  rw [under_top]
  dsimp only
  k_dflt (walk_at "getAttr ref")
  refine wpAny_mono (hnew _) (fun v s2 h2 => ?_) fun _ _ z => z
  obtain ⟨x, d, t, sl, news, rfl, X2, N2, hx, hd, hQ⟩ := h2
  refine ⟨x, rfl, ?_, ?_⟩
  · exact (inst365 N2 hx hd).type.andThen (looks_subIn X2 (by k_is))
  refine init_x (by rfl) (Nat.le_of_ble_eq_true rfl) (Nat.le_of_ble_eq_true rfl) hT X2 N2 hx hd (fun tk' => ⟨.inr rfl, ?_⟩)
  exact hQ tk'
end
end Mine
end

/-! ## X5 -/
section
open PySem PySem.W PySem.W.X PyProof.Rows PySem.Calls PySem.Spec
set_option maxRecDepth 100000
namespace Mine
theorem fillX5 : (fun (_ : Params → Frag) (_ : OpenLaw) => True) Mine.hd.heap_39 PySem.Challenge.rw_fc0077_01 := by k_fill; trivial
theorem tyo_dinit : typeOf (.builtin "dict.__init__") = pure (.type "wrapper_descriptor") := by kernel_rfl
theorem own_dinit : classOwn (.type "dict") "__init__" = pure (some (.builtin "dict.__init__")) := by kernel_rfl
theorem get_wd : typeLookup (.type "wrapper_descriptor") "__get__" = pure (some (.builtin "wrapper_descriptor.__get__")) := by rw [typeLookup_type, builtinLookup_eq_fast]; kernel_rfl
abbrev mwObj (x : Addr) : Obj := ⟨.type "method-wrapper", none, .fields #[.builtin "dict.__init__", .ref x], #[]⟩
section
variable {w : World} {h₀ : Heap} {L : Addr} {m : Str → Option Value} {news : List (Addr × Obj)} {s : Shared} {E : Value → Shared → Prop} {Q : Value → Shared → Prop}
local macro_rules | `(tactic| x_close) => `(tactic| ((rename (∀ (_ : Addr) (_ : Heap) (_ : Nat), _ → _ → _) => hretX); exact hretX _ _ _ (mem_fr (by assumption) (by assumption)) (mem_new (nw := [_]) (by assumption) (by assumption) (by assumption))))
set_option maxHeartbeats 0 in
theorem x_wget {x d : Addr} (F : Fr h₀ L s.heap m) (KX : (Mine.hd.heap_39 w.params).In s.heap) (N : News h₀ L s.heap news) (hx : s.heap.get? x = some ⟨.ref 296, some d, .dict #[] 0, #[]⟩) (hd : s.heap.get? d = some ⟨.type "dict", none, .dict #[] 0, #[]⟩) 
   (hret : ∀ (a : Addr) (h' : Heap) (tk' : Nat), Fr h₀ L h' m → News h₀ L h' ((a, mwObj x) :: news) → Q (.ref a) { s with heap := h', toks := tk' }) :
   wpAny (model PySem.Challenge.rw_fc0077_01.row.prog w) ABig (call (.builtin "wrapper_descriptor.__get__") [.builtin "dict.__init__", .ref x, .ref 296]) Q E s := by
  x_run
end
section
variable {w : World} {h₀ : Heap} {L : Addr} {m : Str → Option Value} {news : List (Addr × Obj)} {s : Shared} {E : Value → Shared → Prop} {Q : Value → Shared → Prop}
local macro_rules | `(tactic| x_close) => `(tactic| ((rename (∀ (_ : Heap) (_ : Nat), _ → _ → _) => hretX); exact hretX _ _ (mem_fr (by assumption) (by assumption)) (mem_news (by assumption) (by assumption) (by assumption))))
set_option maxHeartbeats 0 in
theorem x_upd143 {x d q : Addr} (F : Fr h₀ L s.heap m) (KX : (Mine.hd.heap_39 w.params).In s.heap) (N : News h₀ L s.heap news) (hx : s.heap.get? x = some ⟨.ref 296, some d, .dict #[] 0, #[]⟩) (hd : s.heap.get? d = some ⟨.type "dict", none, .dict #[] 0, #[]⟩) (hq : s.heap.get? q = some ⟨.type "method", none, .fields #[.ref 143, .ref x], #[]⟩)
   (hret : ∀ (h' : Heap) (tk' : Nat), Fr h₀ L h' m → News h₀ L h' news → Q .none { s with heap := h', toks := tk' }) :
   wpAny (model PySem.Challenge.rw_fc0077_01.row.prog w) ABig (call (.ref q) []) Q E s := by
  x_run
end
section
variable {w : World} {s : Shared} {E : Value → Shared → Prop} {Q : Value → Shared → Prop}
local macro_rules | `(tactic| x_close) => `(tactic| ((rename (∀ (_ : Nat), _) => hretX); exact hretX _))
set_option maxHeartbeats 0 in
theorem x_mw {x d a : Addr} (KX : (Mine.hd.heap_39 w.params).In s.heap) (hx : s.heap.get? x = some ⟨.ref 296, some d, .dict #[] 0, #[]⟩) (hd : s.heap.get? d = some ⟨.type "dict", none, .dict #[] 0, #[]⟩) (ha : s.heap.get? a = some ⟨.type "method-wrapper", none, .fields #[.builtin "dict.__init__", .ref x], #[]⟩)
   (hret : ∀ (tk' : Nat), Q .none { s with toks := tk' }) :
   wpAny (model PySem.Challenge.rw_fc0077_01.row.prog w) ABig (call (.ref a) []) Q E s := by
  x_run
end
end Mine
end

/-! ## Q1 -/
section
open PySem PySem.W PySem.W.X PyProof.Rows PySem.Calls PySem.Spec
set_option maxRecDepth 100000
namespace Mine
theorem fillQ1 : (fun (_ : Params → Frag) (_ : OpenLaw) => True) Mine.hd.heap_39 PySem.Challenge.rw_fc0077_01 := by k_fill; trivial
section
variable {w : World} {A : Around} {E : Value → Shared → Prop} {s : Shared} {h₀ : Heap} {L so x d : Addr} {m : Str → Option Value} {news : List (Addr × Obj)}
theorem mro296 {M : Model} {h : Heap} (X : (Mine.hd.heap_39 w.params).In h) : Looks M h (mroOf (.ref 296)) [.ref 296, .ref 174, .type "dict", .type "object"] := by
  refine' Looks.andThen (looks_clsIn X ?hc) ?_
  case hc => k_is
  exact Looks.now
theorem in296 (X : (Mine.hd.heap_39 w.params).In s.heap) : ∃ o cd, s.heap.get? 296 = some o ∧ o.data = .cls cd := by
  have h : (clsIn (Mine.hd.heap_39 w.params) 296).isSome = true := by
    show isClsIn (Mine.hd.heap_39 w.params) 296 = true
    k_is
  obtain ⟨cd, hc⟩ := Option.isSome_iff_exists.mp h
  unfold clsIn at hc
  split at hc
  · rename_i ho
    exact ⟨_, _, X _ _ ho, rfl⟩
  · cases hc
set_option maxHeartbeats 2000000 in
theorem sga_init (a1 : A.in1.handled = none) (a2 : A.in1.depth ≤ 700) (a3 : A.in1.units ≤ 3000) {tk : Tok} {Q : Fin → Shared → Prop} (F : Fr h₀ L s.heap m) (X : (Mine.hd.heap_39 w.params).In s.heap) (N : News h₀ L s.heap news) (hso : s.heap.get? so = some (ks_superObj 174 x 296)) (hx : s.heap.get? x = some (paObj d)) (hd : s.heap.get? d = some dict0)
    (hq : ∀ a h' tk', Fr h₀ L h' m → News h₀ L h' ((a, mwObj x) :: news) → Q (.done (.ret (.ref a))) { s with heap := h', toks := tk' }) :
    wpAny (model PR w) A.in1 (Builtin.«super.__getattribute__» ⟨[.ref so, .str "__init__" tk], []⟩) Q E s := by
  have hxC : x ≠ 296 := by
    rintro rfl
    obtain ⟨o, cd, h1, h2⟩ := in296 X
    rw [hx] at h1; cases h1; cases h2
  have hne : (Value.ref x == Value.ref 296) = false := by simp [hxC]
  have hdt : (ks_superObj 174 x 296).data = .fields #[.ref 174, .ref x, .ref 296] := rfl
  have f0 : (#[.ref 174, .ref x, .ref 296] : Array Value)[0]? = some (.ref 174) := rfl
  have f1 : (#[.ref 174, .ref x, .ref 296] : Array Value)[1]? = some (.ref x) := rfl
  have f2 : (#[.ref 174, .ref x, .ref 296] : Array Value)[2]? = some (.ref 296) := rfl
  have hno : Looks (model PR w) s.heap (opaqueClassAbove (.ref 296)) none := looks_opaque X (by k_is)
  have hn : (("__init__" : Str) == ("__class__" : Str)) = false := by decide +kernel
  obtain ⟨hh, g, dr, t, os⟩ := s
  unfold Builtin.«super.__getattribute__»
  repeat (first
    | (with_reducible refine wpAny_field hso hdt f0 ?_) | (with_reducible refine wpAny_field hso hdt f1 ?_) | (with_reducible refine wpAny_field hso hdt f2 ?_)
    | (with_reducible refine ks_wpAny_notOpaque hno ?_)
    | (with_reducible refine Looks.at (mro296 X) ?_)
    | (simp only [hn, Bool.or_false, Bool.false_eq_true, if_false])
    | wp_step
    | dsimp only)
  refine wpAny_of_eq (a := some (.builtin "wrapper_descriptor.__get__")) (by kernel_rfl) ?_
  simp only [hne, Bool.false_eq_true, if_false]
  refine wpAny_bind (wpAny_holding (wp_wide a1 a2 a3 (x_wget (s := ⟨hh, g, dr, t, os⟩) F X N hx hd fun a h' tk' F' N' => ?_)))
  repeat (first | wp_step | dsimp only)
  all_goals exact hq a h' tk' F' N'
end
end Mine
end

/-! ## Q2 -/
section
open PySem PySem.W PySem.W.X PyProof.Rows PySem.Calls PySem.Spec
set_option maxRecDepth 100000
namespace Mine
theorem fillQ2 : (fun (_ : Params → Frag) (_ : OpenLaw) => True) Mine.hd.heap_39 PySem.Challenge.rw_fc0077_01 := by k_fill; trivial
section
variable {w : World} {A : Around} {E : Value → Shared → Prop} {s : Shared} {h₀ : Heap} {L so x d a : Addr} {m : Str → Option Value} {news : List (Addr × Obj)}
theorem gm_super_init (a1 : A.in1.handled = none) (a2 : A.in1.depth ≤ 700) (a3 : A.in1.units ≤ 3000) {pl : Sem Bool} {Q : Value × List Value → Shared → Prop} (FF : Fr h₀ L s.heap m) (X₀ : (Mine.hd.heap_39 w.params).In h₀) (N : News h₀ L s.heap news) (hso : (so, ks_superObj 174 x 296) ∈ news) (hx : (x, paObj d) ∈ news) (hd : (d, dict0) ∈ news)
    (hq : ∀ a h' tk', Fr h₀ L h' m → News h₀ L h' ((a, mwObj x) :: news) → Q (.ref a, []) { s with heap := h', toks := tk' }) : wpAny (model PR w) A (getMethod (.ref so) "__init__" pl) Q E s := by
  have X := X₀.keeps FF.keep
  have hso := (N _ hso).1
  have hx := (N _ hx).1
  have hd := (N _ hd).1
  obtain ⟨h, g, dr, t, os⟩ := s
  have hlk := F.ks_slot_super_ga.lookup
  have hcan := F.ks_canon_super_ga
  have hT : ∀ t', (⟨h, g, dr, t', os⟩ : Shared).TypeIs (.ref so) "super" := fun _ => ⟨_, hso, rfl⟩
  unfold getMethod
  refine wpAny_bind (wpAny_specialOf (hT _) hlk ?_)
  show wpAny _ _ (if (Manifest.canonical "super.__getattribute__" != "object.__getattribute__") = true then _ else _) _ _ _
  rw [if_pos hcan]
  unfold getAttr getAttrBy
  refine wpAny_bind (wpAny_bind (wpAny_mkText (wpAny_holding (wpAny_bind (wpAny_typeOf (hT _) (wpAny_bind (wpAny_of_eq hlk ?_)))))))
  show wpAny _ _ (getAttrByItsOwn (.ref so) (.str _ t) (.type "super") (.builtin "super.__getattribute__") true false) _ _ _
  unfold getAttrByItsOwn hookBefore callGetattribute boundAndCalled
  refine wpAny_bind (wpAny_of_eq (show (if onTheHeap (.type "super") then typeLookup (.type "super") "__getattr__" else pure none) = pure none from rfl) ?_)
  refine wpAny_bind (wpAny_attempt (wpAny_holding ?_))
  show wpAny _ _ (bindSpecial (.builtin "super.__getattribute__") (.ref so) >>= _) _ _ _
  refine wpAny_bind (wpAny_of_eq (F.ks_slot_super_ga.bind _) ?_)
  refine wpAny_mono (Q := fun v s' => ∃ a h' tk', v = .ref a ∧ s' = ⟨h', g, dr, tk', os⟩ ∧ Fr h₀ L h' m ∧ News h₀ L h' ((a, mwObj x) :: news)) (E := fun _ _ => False)
    (wpAny_call_entry F.ks_slot_super_ga (hT _) F.ks_entry_super_ga (sga_init (s := ⟨h, g, dr, t + 1, os⟩) a1 a2 a3 FF X N hso hx hd fun a h' tk' F' N' => ⟨_, rfl, a, h', tk', rfl, rfl, F', N'⟩) (F.ks_gaArgs_super _ _)) (fun v s' hv => ?_) fun _ _ z => z.elim
  obtain ⟨a, h', tk', rfl, rfl, F', N'⟩ := hv
  exact wpAny_pure (wpAny_pure (hq a h' tk' F' N'))
/-- the call of the bound slot, no arguments -/
theorem callWith_mw {env : Env} {pos : Pos} {Q : Value → Shared → Prop} (a1 : A.handled = none) (a2 : A.depth ≤ 700) (a3 : A.units ≤ 3000) (F : Fr h₀ L s.heap m) (X₀ : (Mine.hd.heap_39 w.params).In h₀) (N : News h₀ L s.heap news) (ha : (a, mwObj x) ∈ news) (hx : (x, paObj d) ∈ news) (hd : (d, dict0) ∈ news)
    (hq : ∀ tk', Q .none { s with toks := tk' }) : wpAny (model PR w) A (callWith pos (.ref a) [] (backTo pos (starEach [] env)) []) Q E s := by
  refine callWith_of (P := fun h => h.get? a = some (mwObj x)) rfl (fun h e => ⟨.machine, .inr (.inl rfl), ?_⟩) (evalArgs_nil3 ⟨(N _ ha).1, ?_⟩)
  · exact (Looks.ld (part := none) e).andThen .now
  · exact wp_wide a1 a2 a3 (x_mw (X₀.keeps F.keep) (N _ hx).1 (N _ hd).1 (N _ ha).1 hq)
theorem merge_nil {M : Model} {e : Addr} {Q : Unit → Shared → Prop} (ha : s.heap.get? a = some dict0) (he : s.heap.get? e = some dict0) (hm : (a == sysModules) = false) (hq : Q () s) : wpAny M A (mergeMapping e (.ref a) true) Q E s := by
  obtain ⟨h, g, dr, t, os⟩ := s
  have hT : (⟨h, g, dr, t, os⟩ : Shared).TypeIs (.ref a) "dict" := ⟨_, ha, rfl⟩
  unfold mergeMapping
  repeat (first
    | (with_reducible refine wpAny_isInstance hT isSubtype_dict_dict ?_) | (with_reducible refine wpAny_specialOf hT PySem.F.slot_dict_iter.lookup ?_)
    | (simp only [if_true, hm, Bool.false_eq_true, if_false, beq_self_eq_true])
    | (with_reducible refine wpAny_dictEntries he rfl ?_) | (with_reducible refine wpAny_dictEntries ha rfl ?_) | (with_reducible refine wpAny_dictEpoch ha rfl ?_)
    | wp_step | dsimp only)
  all_goals exact hq
theorem merged_nil {f : Value} {y : Sem Value} {Q : Addr → Shared → Prop} (F : Fr h₀ L s.heap m) (N : News h₀ L s.heap news) (ha : (a, dict0) ∈ news) (hm : (a == sysModules) = false) (hY : ∀ s', s'.heap.get? a = some dict0 → Fr h₀ L s'.heap m → News h₀ L s'.heap news → wpAny (model PR w) A y (fun v s2 => v = .ref a ∧ s2 = s') E s')
    (hq : ∀ e h', Fr h₀ L h' m → News h₀ L h' ((e, dict0) :: news) → Q e { s with heap := h' }) : wpAny (model PR w) A (mergedKeywords f [(none, y)]) Q E s := by
  unfold mergedKeywords
  refine wpAny_bind (wpAny_alloc ?_)
  have F' := F.push dict0
  have N' := N.push F dict0 rfl
  have ga := (N' _ (List.Mem.tail _ ha)).1
  have ge := (N' _ (List.Mem.head _)).1
  refine wpAny_bind (wpAny_holding ?_)
  have Y := hY { s with heap := s.heap.push dict0 } ga F' (fun p hp => N' p (List.Mem.tail _ hp))
  refine wpAny_bind ?_
  rw [List.forIn_cons]
  refine wpAny_bind (wpAny_bind ?_)
  refine wpAny_of_eq (a := ()) rfl ?_
  refine (wpAny_bind (wpAny_mono Y (fun v s2 hv => ?_) fun _ _ e => e))
  obtain ⟨rfl, rfl⟩ := hv
  refine wpAny_bind (wpAny_onRaise (wpAny_holding (wpAny_tryCatch (wpAny_onRaise (merge_nil ga ge hm (wpAny_pure ?_))))))
  dsimp only
  rw [List.forIn_nil]
  refine wpAny_pure ?_
  refine wpAny_of_eq (a := ()) rfl (wpAny_pure ?_)
  exact hq _ _ F' N'
/-- `f(*args, **kwargs)` of a made tuple and an empty dict -/
theorem evalArgs_SK {f : Value} {x y : Sem Value} {t : Addr} {vs : List Value} {Q : Args → Shared → Prop} (F : Fr h₀ L s.heap m) (N : News h₀ L s.heap news) (ht : (t, ({ cls := .type "tuple", data := .seq vs.toArray } : Obj)) ∈ news) (ha : (a, dict0) ∈ news) (hm : (a == sysModules) = false) (hz : vs.length ≤ 100)
    (hX : wpAny (model PR w) A x (fun v s2 => v = .ref t ∧ s2 = s) E s)
    (hY : ∀ s', s'.heap.get? a = some dict0 → Fr h₀ L s'.heap m → News h₀ L s'.heap news → wpAny (model PR w) A y (fun v s2 => v = .ref a ∧ s2 = s') E s')
    (hq : ∀ h', Fr h₀ L h' m → News h₀ L h' news → Q ⟨vs, []⟩ { s with heap := h' }) : wpAny (model PR w) A (evalArgs f true [(true, x)] [(none, y)]) Q E s := by
  unfold evalArgs
  refine wpAny_bind (wpAny_mono hX (fun v s2 hv => ?_) fun _ _ e => e)
  obtain ⟨rfl, rfl⟩ := hv
  refine wpAny_bind (wpAny_pure (wpAny_holding ?_))
  dsimp only
  rw [if_neg (by simp)]
  refine wpAny_bind (merged_nil F N ha hm hY fun e h' F' N' => ?_)
  have S := star_seq (prog := PR) (w := w) (A := A) (E := E) (s := { s2 with heap := h' }) (o := ({ cls := .type "tuple", data := .seq vs.toArray } : Obj)) (ws := vs) (Q := fun us s3 => us = vs ∧ ∃ h2, s3 = { s2 with heap := h2 } ∧ Fr h₀ L h2 m ∧ News h₀ L h2 ((e, dict0) :: news)) F' N' (List.Mem.tail _ ht) rfl rfl (.inr rfl) (by simp) (by rw [sizeLine_eq]; simp; omega) (fun h2 F2 N2 => ⟨rfl, h2, rfl, F2, N2⟩)
  unfold StarOf at S
  refine wpAny_bind (wpAny_bind (wpAny_mono S (fun b s3 hb => ?_) fun _ _ e => e))
  obtain ⟨rfl, S2⟩ := hb
  rw [if_neg Bool.false_ne_true]
  refine wpAny_holding (wpAny_mono S2 (fun us s4 hu => ?_) fun _ _ e => e)
  obtain ⟨rfl, h2, rfl, F2, N2⟩ := hu
  refine wpAny_bind (wpAny_holding ?_)
  unfold keywordsIn
  refine wpAny_bind (wpAny_dictEntries (N2 _ (List.Mem.head _)).1 rfl ?_)
  refine wpAny_of_eq (a := []) rfl (wpAny_pure ?_)
  exact hq h2 F2 (fun p hp => N2 p (List.Mem.tail _ hp))
end
end Mine
end

/-! ## Q3 -/
section
open PySem PySem.W PySem.W.X PyProof.Rows PySem.Calls PySem.Spec
set_option maxRecDepth 100000
namespace Mine
theorem fillQ3 : (fun (_ : Params → Frag) (_ : OpenLaw) => True) Mine.hd.heap_39 PySem.Challenge.rw_fc0077_01 := by k_fill; trivial
section
variable {M : Model} {A : Around} {E : Value → Shared → Prop} {s : Shared}
theorem sk_call {f : Value} {first : List Value} {pos : Pos} {Q : Value → Shared → Prop} {P : Heap → Prop} {args : List (Bool × Sem Value)} {kws : List (Option Str × Sem Value)} (hst : args.any (·.1) = true)
    (hk : ∀ h, P h → ∃ k, (k = Keeper.frame ∨ k = Keeper.machine ∨ k = Keeper.boundFrame) ∧ Looks M h (keeperOf f) k)
    (h : wpAny M A (evalArgs f true args kws) (fun a s₁ => P s₁.heap ∧ wpAny M A (call f (first ++ a.pos) a.kw) Q E s₁) E s) : wpAny M A (callWith pos f first args kws) Q E s := by
  unfold callWith
  refine wpAny_bind (wpAny_holding (wpAny_mono h (fun a s₁ h₁ => wpAny_bind (wpAny_standAt ?_)) fun _ _ x => x))
  obtain ⟨k, hk', L⟩ := hk _ h₁.1
  simp only [hst, Bool.true_or]
  refine wpAny_bind (L.here ?_)
  have tail : ∀ {t : Sem Value}, wpAny M A t Q E s₁ → wpAny M A (t >>= fun r => holding [r] point >>= fun _ => pure r) Q E s₁ :=
    fun ht => wpAny_bind (wpAny_mono ht (fun r s₂ hr => wpAny_bind (wpAny_holding (wpAny_point (wpAny_pure hr)))) fun _ _ x => x)
  have marked (mk : Value) : wpAny M A (callMarked mk f (first ++ a.pos) a.kw) Q E s₁ := by unfold callMarked; exact Calls.wpAny_keep h₁.2
  rcases hk' with rfl | rfl | rfl <;> dsimp only <;> first | exact tail (marked _) | exact tail (wpAny_operating h₁.2)
theorem sk_method {env : Env} {x : Str} {px : Pos} {name : Str} {apos pos : Pos} {args : List PySem.Expr} {kws : List Keyword} {Q : Value → Shared → Prop}
    (h : wpAny M A (eval (.Name x px) env) (fun ov s₁ => wpAny M A (getAttr ov name true) (fun f s₂ => wpAny M A (callWith pos f [] (backTo pos (starEach args env)) (backToKw pos (keywordEach kws env))) Q E s₂) E s₁) E s)
    (he : eval (.Call (.Attribute (.Name x px) name apos) args kws pos) env = (do
      let ov ← eval (.Name x px) env
      standAt apos.atName
      let (f, first) ← holding [ov] (do pure (← getAttr ov name true, []))
      callWith pos f first (backTo pos (starEach args env)) (backToKw pos (keywordEach kws env)))) :
    wpAny M A (eval (.Call (.Attribute (.Name x px) name apos) args kws pos) env) Q E s := by
  rw [he]
  refine wpAny_bind (wpAny_mono h (fun ov s₁ h₁ => wpAny_bind (wpAny_standAt (wpAny_bind (wpAny_holding (wpAny_bind (wpAny_mono h₁ (fun f s₂ h₂ => wpAny_pure ?_) fun _ _ x => x)))))) fun _ _ x => x)
  exact h₂
theorem sk_methodAt {c : Code} {env : Env} {o : PySem.Expr} {name : Str} {apos pos : Pos} {args : List PySem.Expr} {kws : List Keyword} {Q : Value → Shared → Prop}
    (h : _root_.PySem.wpAt M A c (attributeBase o name env (eval o env)) (fun ov s₁ => wpAny M A (getAttr ov name true) (fun f s₂ => wpAny M A (callWith pos f [] (backTo pos (starEach args env)) (backToKw pos (keywordEach kws env))) Q E s₂) E s₁) E s)
    (he : eval (.Call (.Attribute o name apos) args kws pos) env = (do
      let ov ← attributeBase o name env (eval o env)
      standAt apos.atName
      let (f, first) ← holding [ov] (do pure (← getAttr ov name true, []))
      callWith pos f first (backTo pos (starEach args env)) (backToKw pos (keywordEach kws env)))) :
    _root_.PySem.wpAt M A c (eval (.Call (.Attribute o name apos) args kws pos) env) Q E s := by
  rw [he]
  refine PySem.wpAt_bind (PySem.wpAt_mono h (fun ov s₁ h₁ => PySem.wpAt_of_wpAny (wpAny_bind (wpAny_standAt (wpAny_bind (wpAny_holding (wpAny_bind (wpAny_mono h₁ (fun f s₂ h₂ => wpAny_pure ?_) fun _ _ x => x))))))) fun _ _ x => x)
  exact h₂
end
section
variable {prog : Program} {w : World} {A₀ A : Around} {s : Shared} {base h₀ : Heap} {outer : List Env} {L : Addr} {m mg mb : Str → Option Value} {env : Env} {news : List (Addr × Obj)} {K : Frag} {p : Program} {loose : List Str} {mean : ExcName → Option Value}
  {R : Result → Shared → Prop} {name qual : Str} {params : Arguments} {body : List Stmt} {scope : Scope} {cc : Addr} {dV kV doc pm cdv ct oc : Value} {an od : Option Addr} {osl : Array (Option Value)} {f : Addr} {args : Args} {binds : List (Str × Value)}
theorem bothS_frame {E : Value → Shared → Prop} (B : Below A₀ base outer h₀) (F : Fr h₀ L s.heap m) (N : News h₀ L s.heap news) (hlim : h₀.NoLimit) (hA : A.frames = some (env :: outer)) (hf : env.frame = some L) (hke : env.scope.kind = .function)
    (hloc : ∀ y ∈ binds, scope.names.lookup y.1 = some .local)
    (h : ∀ g L' h₁, Fr h₀ L g m → Fr g L' h₁ (fun y => binds.reverse.lookup y) → News g L' h₁ news → Below A base (env :: outer) g → h₀.StaysIn g →
      _root_.PySem.wpAt (model prog w) (A.deeper (ksEnv qual scope L' f cdv cc)) (.func body (ksEnv qual scope L' f cdv cc)) (execs body (ksEnv qual scope L' f cdv cc))
        (fun fl s' => LeaveK h₀ L m g R (match fl with | .ret v => v | _ => .none) s')
        (fun e s' => wpAny (model prog w) (A.deeper (ksEnv qual scope L' f cdv cc)) (leaving (ksEnv qual scope L' f cdv cc) e) (fun _ s'' => R (.error e) s'') (fun e' s'' => R (.error e') s'') s')
        { s with heap := h₁, toks := s.toks + binds.length })
    (hcell : ∀ x ∈ scope.names, x.2 ≠ .cell) (hk : scope.kind = .function) :
    wpAny (model prog w) A.in1 (newFunctionEnv scope mainGlobals [("__class__", cc)] binds (qual ++ ".<locals>.") (some f) cdv none builtinsNs) (fun env' s₂ => s₂.heap.NoLimit ∧ codeAny (model prog w) A (.func body env') R s₂) E s := by
  obtain ⟨FG, BG, st, lv⟩ := groundX (R := R) B F N hA hf hke
  refine wpAny_newFunctionEnv hcell hloc (fun h₁ hns hsb => ⟨(hlim.keeps F.keep).fresh _ hsb, ks_codeAny_funcAt ?_⟩) hk
  have hk₁ : ∀ b o, s.heap.get? b = some o → h₁.get? b = some o := fun b o e => hsb.extBut b o (Nat.ne_of_lt (Heap.lt_size e)) (Heap.get?_push_of_some _ e)
  exact ks_wpAt_mono (h _ s.heap.objs.size h₁ FG ⟨hns, fun b o e => hk₁ b o (of_hideAll _ e), Nat.le_of_eq (hideAll_size _ _)⟩
    (fun p hp => ⟨hk₁ _ _ (N p hp).1, Nat.ne_of_lt (Heap.lt_size (N p hp).1), hideAll_none _ (List.mem_map_of_mem hp)⟩) BG st) (fun fl s' hl => lv _ _ hl) fun _ _ y => y
/-- the entry of `def f(self, *args, **kwargs)` that closes over `__class__` -/
theorem bothS {vs : List Value} {g₁ : Addr → Sem (List (Str × Value))} {g₂ : Addr → Addr → Sem (List (Str × Value))} {bs : Addr → Addr → List (Str × Value)}
    (B : Below A₀ base outer h₀) (F : Fr h₀ L s.heap m) (X₀ : K.In h₀) (N : News h₀ L s.heap news) (T : Top p loose mean mg mb h₀) (hA : A.frames = some (env :: outer)) (hf : env.frame = some L) (hke : env.scope.kind = .function)
    (ho : K.lookup f = some ⟨oc, od, .func (ksFn name qual params body scope dV kV doc pm an cdv ct cc), osl⟩) (hcd : codeIn K cdv qual = true) (hroom : A.depth < recursionLimit)
    (hp : peekA K ⟨prog, w.params⟩ (bindArgs (ksFn name qual params body scope dV kV doc pm an cdv ct cc) args) = some (({ cls := .type "tuple", data := .seq vs.toArray } : Obj), g₁))
    (hp₂ : ∀ D, peekA K ⟨prog, w.params⟩ (g₁ D) = some (dictOf [] 0, g₂ D))
    (hk₂ : ∀ C D, g₂ C D = pure (bs C D))
    (hloc : ∀ C D, ∀ y ∈ bs C D, scope.names.lookup y.1 = some .local)
    (h : ∀ C D g L' h₁ tk, (D == sysModules) = false → Fr h₀ L g m → Fr g L' h₁ (fun y => (bs C D).reverse.lookup y) →
      News g L' h₁ ((D, dictOf [] 0) :: (C, ({ cls := .type "tuple", data := .seq vs.toArray } : Obj)) :: news) → Below A base (env :: outer) g → K.In g → Top p loose mean mg mb g →
      _root_.PySem.wpAt (model prog w) (A.deeper (ksEnv qual scope L' f cdv cc)) (.func body (ksEnv qual scope L' f cdv cc)) (execs body (ksEnv qual scope L' f cdv cc))
        (fun fl s' => LeaveK h₀ L m g R (match fl with | .ret v => v | _ => .none) s')
        (fun e s' => wpAny (model prog w) (A.deeper (ksEnv qual scope L' f cdv cc)) (leaving (ksEnv qual scope L' f cdv cc) e) (fun _ s'' => R (.error e) s'') (fun e' s'' => R (.error e') s'') s')
        { s with heap := h₁, toks := tk })
    (hcell : ∀ x ∈ scope.names, x.2 ≠ .cell) (hco : scope.isCoroutine = false) (hgen : scope.isGenerator = false) (hk : scope.kind = .function) : codeAny (model prog w) A (.call (.ref f) args) R s := by
  refine codeAny_call_function (fd := ksFn name qual params body scope dV kV doc pm an cdv ct cc) (body := body) hroom ((X₀.keeps F.keep) _ _ ho) rfl hco hgen rfl (codeRec_of (X₀.keeps F.keep) hcd) ?_
  refine wp_of_peekA (o := ({ cls := .type "tuple", data := .seq vs.toArray } : Obj)) F N (X₀.keeps F.keep) rfl _ g₁ hp fun h' F' N' l => ?_
  refine wp_of_peekA (s := { s with heap := h' }) (o := dictOf [] 0) F' N' (X₀.keeps F'.keep) rfl _ (g₂ s.heap.objs.size) (hp₂ _) fun h'' F'' N'' l' => ?_
  rw [hk₂]
  refine wpAny_pure ?_
  exact bothS_frame (s := { s with heap := h'' }) B F'' N'' T.nolimit hA hf hke (hloc _ _)
    (fun g L' h₁ FG FL NG BG st => h _ _ g L' h₁ _ (F'.notModules (modules_low T.nolimit)) FG FL NG BG (X₀.keeps st) (T.keeps st)) hcell hk
end
end Mine
end

/-! ## X6 -/
section
open PySem PySem.W PySem.W.X PyProof.Rows PySem.Calls PySem.Spec
set_option maxRecDepth 100000
namespace Mine
theorem fillX6 : (fun (_ : Params → Frag) (_ : OpenLaw) => True) Mine.hd.heap_39 PySem.Challenge.rw_fc0077_01 := by k_fill; trivial
section
variable {w : World} {h₀ : Heap} {L : Addr} {m : Str → Option Value} {news : List (Addr × Obj)} {s : Shared} {E : Value → Shared → Prop} {Q : Value → Shared → Prop}
local macro_rules | `(tactic| x_close) => `(tactic| ((rename (∀ (_ : Addr) (_ : Heap) (_ : Nat), _ → _ → _) => hretX); exact hretX _ _ _ (mem_fr (by assumption) (by assumption)) (mem_new (nw := [_]) (by assumption) (by assumption) (by assumption))))
set_option maxHeartbeats 0 in
theorem x_dga {x d : Addr} {t : Tok} (F : Fr h₀ L s.heap m) (KX : (Mine.hd.heap_39 w.params).In s.heap) (N : News h₀ L s.heap news) (hx : s.heap.get? x = some ⟨.ref 296, some d, .dict #[] 0, #[]⟩) (hd : s.heap.get? d = some ⟨.type "dict", none, .dict #[] 0, #[]⟩)
   (hret : ∀ (a : Addr) (h' : Heap) (tk' : Nat), Fr h₀ L h' m → News h₀ L h' ((a, methodObj (.ref 143) (.ref x)) :: news) → Q (.ref a) { s with heap := h', toks := tk' }) :
   wpAny (model PySem.Challenge.rw_fc0077_01.row.prog w) ABig (call (.builtin "dict.__getattribute__") [.ref x, .str (Str.ofString "update") t]) Q E s := by
  x_run
end
end Mine
end

/-! ## Q4a -/
section
open PySem PySem.W PySem.W.X PyProof.Rows PySem.Calls PySem.Spec
set_option maxRecDepth 100000
namespace Mine
theorem fillQ4a : (fun (_ : Params → Frag) (_ : OpenLaw) => True) Mine.hd.heap_39 PySem.Challenge.rw_fc0077_01 := by k_fill; trivial
section
variable {w : World} {s : Shared} {h₀ : Heap} {L x d : Addr} {m : Str → Option Value} {news : List (Addr × Obj)}
theorem inst296 (N : News h₀ L s.heap news) (hx : (x, paObj d) ∈ news) (hd : (d, dict0) ∈ news) : InstAt s.heap x (paObj d) 296 (some (dictOf [] 0)) := ⟨(N _ hx).1, rfl, rfl, (N _ hd).1⟩
theorem ga296 : findIn (Mine.hd.heap_39 w.params) (.ref 296) "__getattribute__" = some (some (.builtin "dict.__getattribute__")) := by k_is
theorem gh296 : findIn (Mine.hd.heap_39 w.params) (.ref 296) "__getattr__" = some none := by k_is
theorem get_update {A : Around} {E : Value → Shared → Prop} {expr : Bool} {Q : Value → Shared → Prop} (a1 : A.handled = none) (a2 : A.depth ≤ 700) (a3 : A.units ≤ 3000) (F : Fr h₀ L s.heap m) (X₀ : (Mine.hd.heap_39 w.params).In h₀) (N : News h₀ L s.heap news) (hx : (x, paObj d) ∈ news) (hd : (d, dict0) ∈ news)
    (h : ∀ q h' tk', Fr h₀ L h' m → News h₀ L h' ((q, methodObj (.ref 143) (.ref x)) :: news) → Q (.ref q) { s with heap := h', toks := tk' }) : wpAny (model PR w) A (getAttr (.ref x) "update" expr) Q E s := by
  have X := X₀.keeps F.keep
  have I := inst296 N hx hd
  obtain ⟨hh, g, dr, t, os⟩ := s
  unfold getAttr getAttrBy
  refine wpAny_bind (wpAny_mkText (wpAny_holding (wpAny_bind (Looks.at I.type (wpAny_bind (Looks.at (looks_findIn X ga296) ?_))))))
  show wpAny _ _ (getAttrByItsOwn (.ref x) (.str _ t) (.ref 296) (.builtin "dict.__getattribute__") true expr) _ _ _
  unfold getAttrByItsOwn hookBefore callGetattribute boundAndCalled
  refine wpAny_bind ?_
  rw [show onTheHeap (Value.ref 296) = true from rfl, if_pos rfl]
  refine Looks.at (looks_findIn X (gh296)) ?_
  rw [show (expr && onTheHeap (Value.builtin "dict.__getattribute__")) = false by rw [show onTheHeap (Value.builtin "dict.__getattribute__") = false from rfl, Bool.and_false], if_neg Bool.false_ne_true]
  refine wpAny_bind (wpAny_attempt (wpAny_holding ?_))
  refine wpAny_bind (wpAny_of_eq (by with_unfolding_all rfl) ?_)
  refine wpAny_mono (Q := fun v s' => ∃ a h' tk', v = .ref a ∧ s' = ⟨h', g, dr, tk', os⟩ ∧ Fr h₀ L h' m ∧ News h₀ L h' ((a, methodObj (.ref 143) (.ref x)) :: news)) (E := fun _ _ => False)
    (wp_wide a1 a2 a3 (x_dga (s := ⟨hh, g, dr, t + 1, os⟩) (t := t) F X N (N _ hx).1 (N _ hd).1 fun a h' tk' F' N' => ⟨a, h', tk', rfl, rfl, F', N'⟩)) (fun v s' hv => ?_) fun _ _ z => z.elim
  obtain ⟨a, h', tk', rfl, rfl, F', N'⟩ := hv
  exact wpAny_pure (h a h' tk' F' N')
end
end Mine
end

/-! ## Q4 -/
section
open PySem PySem.W PySem.W.X PyProof.Rows PySem.Calls PySem.Spec
set_option maxRecDepth 100000
namespace Mine
theorem fillQ4 : (fun (_ : Params → Frag) (_ : OpenLaw) => True) Mine.hd.heap_39 PySem.Challenge.rw_fc0077_01 := by k_fill; trivial
section
variable {w : World} {A : Around} {E : Value → Shared → Prop} {s : Shared} {h₀ : Heap} {L a : Addr} {m : Str → Option Value} {news : List (Addr × Obj)}
theorem callWith_SK {pos : Pos} {q f t : Addr} {self : Value} {x y : Sem Value} {vs : List Value} {Q : Value → Shared → Prop} (F : Fr h₀ L s.heap m) (X₀ : (Mine.hd.heap_39 w.params).In h₀) (N : News h₀ L s.heap news) (hf : fnIn (Mine.hd.heap_39 w.params) f = true) (hq : (q, methodObj (.ref f) self) ∈ news)
    (ht : (t, ({ cls := .type "tuple", data := .seq vs.toArray } : Obj)) ∈ news) (ha : (a, dict0) ∈ news) (hm : (a == sysModules) = false) (hz : vs.length ≤ 100)
    (hX : wpAny (model PR w) A x (fun v s2 => v = .ref t ∧ s2 = s) E s)
    (hY : ∀ s', s'.heap.get? a = some dict0 → Fr h₀ L s'.heap m → News h₀ L s'.heap news → wpAny (model PR w) A y (fun v s2 => v = .ref a ∧ s2 = s') E s')
    (hk : ∀ h', Fr h₀ L h' m → News h₀ L h' news → wpAny (model PR w) A (call (.ref q) vs []) Q E { s with heap := h' }) : wpAny (model PR w) A (callWith pos (.ref q) [] [(true, x)] [(none, y)]) Q E s := by
  refine sk_call (P := MethP (Mine.hd.heap_39 w.params) q f self) rfl (fun _ => keeps_M hf _) ?_
  refine evalArgs_SK F N ht ha hm hz hX hY fun h' F' N' => ⟨methP N' hq (X₀.keeps F'.keep), ?_⟩
  exact hk h' F' N'
end
theorem upd143_c {w : World} {s : Shared} {h₀ : Heap} {L x d q : Addr} {m : Str → Option Value} {news : List (Addr × Obj)} {E : Value → Shared → Prop} {Q : Value → Shared → Prop} (F : Fr h₀ L s.heap m) (KX : (Mine.hd.heap_39 w.params).In h₀) (N : News h₀ L s.heap news) (hx : (x, paObj d) ∈ news) (hd : (d, dict0) ∈ news) (hq : (q, methodObj (.ref 143) (.ref x)) ∈ news)
   (hret : ∀ (h' : Heap) (tk' : Nat), Fr h₀ L h' m → News h₀ L h' news → Q .none { s with heap := h', toks := tk' }) : wpAny (model PySem.Challenge.rw_fc0077_01.row.prog w) ABig (call (.ref q) []) Q E s :=
  x_upd143 F (KX.keeps F.keep) N (N _ hx).1 (N _ hd).1 (N _ hq).1 hret
local macro_rules | `(tactic| walk_at "my_step") => `(tactic| first | (k_unfold; (try dsimp only)) | (k_end; wrow_close) | walk1 | (dsimp only; walk1) | (leave1; walk_say "STEP leave1"; try dsimp only))
local macro_rules | `(tactic| k_inst) => `(tactic| (refine' inst296 ?N ?h1 ?h2; (case N => k_asm); (case h1 => (rename (_, paObj _) ∈ _ => hxM; (repeat (first | exact hxM | refine List.Mem.tail _ ?_)))); (case h2 => (rename (_, dict0) ∈ _ => hdM; (repeat (first | exact hdM | refine List.Mem.tail _ ?_))))))
local macro_rules | `(tactic| walk_at "getMethod ref") => `(tactic| (k_here; (with_reducible show wpAny _ _ (getMethod _ (Str.ofString "__init__") _) _ _ _); k_dflt (refine' gm_super_init ?a1 ?a2 ?a3 ?k1 ?k2 ?k3 ?k4 ?k5 ?k6 ?_; (case a1 => rfl); (case a2 => exact Nat.le_of_ble_eq_true rfl); (case a3 => exact Nat.le_of_ble_eq_true rfl); (case k1 => k_asm); (case k2 => k_asm); (case k3 => k_asm); (case k4 => k_mem); (case k5 => (rename (_, paObj _) ∈ _ => hxM; (repeat (first | exact hxM | refine List.Mem.tail _ ?_)))); (case k6 => (rename (_, dict0) ∈ _ => hdM; (repeat (first | exact hdM | refine List.Mem.tail _ ?_))))); intro a' h' tk' F' N'))
local macro_rules | `(tactic| walk_at "callWith ref") => `(tactic| (k_here; k_dflt (refine' callWith_mw ?a1 ?a2 ?a3 ?k1 ?k2 ?k3 ?k4 ?k5 ?k6 ?_; (case a1 => rfl); (case a2 => exact Nat.le_of_ble_eq_true rfl); (case a3 => exact Nat.le_of_ble_eq_true rfl); (case k1 => k_asm); (case k2 => k_asm); (case k3 => k_asm); (case k4 => k_mem); (case k5 => (rename (_, paObj _) ∈ _ => hxM; (repeat (first | exact hxM | refine List.Mem.tail _ ?_)))); (case k6 => (rename (_, dict0) ∈ _ => hdM; (repeat (first | exact hdM | refine List.Mem.tail _ ?_))))); intro tk'))
local macro_rules | `(tactic| walk_at "eval Call") => `(tactic| (k_here; (with_reducible show wpAny _ _ (eval (Expr.Call (Expr.Attribute (Expr.Name _ _) _ _) [Expr.Starred _ _] [_] _) _) _ _ _); k_dflt (refine sk_method ?_ rfl)))
local macro_rules | `(tactic| walk_at "callWith ref") => `(tactic| (k_here; (with_reducible show wpAny _ _ (callWith _ (Value.ref _) _ (backTo _ (starEach [Expr.Starred _ _] _)) (backToKw _ (keywordEach [_] _))) _ _ _); k_dflt (refine' callWith_SK ?k1 ?k2 ?k3 ?kf ?hq ?ht ?ha ?hm ?hz ?hX ?hY ?_; (case k1 => k_asm); (case k2 => k_asm); (case k3 => k_asm); (case hq => k_mem); (case kf => k_is); (case ht => k_mem); (case ha => k_mem); (case hm => assumption); (case hz => exact Nat.le_of_ble_eq_true rfl); (case hX => (refine wpAny_bind (nameX_L (by k_asm) rfl ?_); exact wpAny_bind (wpAny_standAt (wpAny_pure ⟨rfl, rfl⟩)))); (case hY => (intro s' ga F' N'; refine wpAny_bind (nameX_L F' rfl ?_); exact wpAny_bind (wpAny_standAt (wpAny_pure ⟨rfl, rfl⟩))))); intro h' F' N'))
local macro_rules | `(tactic| walk_at "call ref") => `(tactic| (k_here; k_dflt (refine' wp_wide (by rfl) (Nat.le_of_ble_eq_true rfl) (Nat.le_of_ble_eq_true rfl) (upd143_c ?k1 ?k2 ?k3 ?k4 ?k5 ?k6 ?_); (case k1 => k_asm); (case k2 => k_asm); (case k3 => k_asm); (case k4 => (rename (_, paObj _) ∈ _ => hxM;  (repeat (first | exact hxM | refine List.Mem.tail _ ?_)))); (case k5 => (rename (_, dict0) ∈ _ => hdM;  (repeat (first | exact hdM | refine List.Mem.tail _ ?_)))); (case k6 => k_mem)); intro h' tk' F' N'))
local macro_rules | `(tactic| walk_at "getAttr ref") => `(tactic| (k_here; (with_reducible show wpAny _ _ (getAttr _ (Str.ofString "update") _) _ _ _); k_dflt (refine' get_update ?a1 ?a2 ?a3 ?k1 ?k2 ?k3 ?k4 ?k5 ?_; (case a1 => rfl); (case a2 => exact Nat.le_of_ble_eq_true rfl); (case a3 => exact Nat.le_of_ble_eq_true rfl); (case k1 => k_asm); (case k2 => k_asm); (case k3 => k_asm); (case k4 => (rename (_, paObj _) ∈ _ => hxM; (repeat (first | exact hxM | refine List.Mem.tail _ ?_)))); (case k5 => (rename (_, dict0) ∈ _ => hdM; (repeat (first | exact hdM | refine List.Mem.tail _ ?_))))); intro q' h' tk' F' N'))
set_option maxHeartbeats 0 in
theorem init63 {w : World} {mean : ExcName → Option Value} {mg mb : Str → Option Value} {x d : Addr} {gd : Option (List Code)} {cn : Str} {cs : Scope} {aa : Addr} {ccd : Value} {cl : List (Str × Addr)} {outer : List Env} {A₀ : Around} {base h₀ : Heap} {L : Addr} {m : Str → Option Value} {news : List (Addr × Obj)} {s : Shared} {Q E : Value → Shared → Prop}
   (B : Below A₀ base outer h₀) (F : Fr h₀ L s.heap m) (X : (Mine.hd.heap_39 w.params).In h₀) (N : News h₀ L s.heap news) (T : Top Mine.hd.view_39 LOOSE mean mg mb h₀) (hk : cs.kind = .function) (hx : (x, paObj d) ∈ news) (hd : (d, dict0) ∈ news)
   (hret : ∀ h' tk', Fr h₀ L h' m → News h₀ L h' news → Q .none { s with heap := h', toks := tk' }) :
   codeAny (model PySem.Challenge.rw_fc0077_01.row.prog w) (ktrTop 470 280 gd cn cs L aa ccd cl outer) (.call (.ref 63) ⟨[.ref x], []⟩) (fun r s' => match r with | .ok (.ret v) => Q v s' | .ok _ => False | .error e => E e s') s := by
  k_dflt (
    refine' bothS B F X N T ?kA ?kF ?kK ?k6 ?k7 ?k8 ?hp ?hp2 ?hk2 ?hloc ?_ ?c1 ?c2 ?c3 ?c4
    case kA => exact rfl
    case kF => exact rfl
    case kK => exact hk
    case k6 => k_is
    case k7 => k_is
    case k8 => ktr_room
    case hp => exact rfl
    case hp2 => exact fun _ => rfl
    case hk2 => exact fun _ _ => rfl
    case hloc => exact fun _ _ => locs rfl
    case c1 => decide
    case c2 => exact rfl
    case c3 => exact rfl
    case c4 => exact rfl)
  intro C' D' g' L' h' tk' hDm FG' F' N' B' X' T'
  (try dsimp only)
  (try k_lift B')
  w_top off
  repeat' (walk_at "my_step")
  rename Fr h₀ L _ m => kF'
  rename News h₀ L _ _ => kN'
  refine hret _ _ kF' (fun p hp => kN' p ?_)
  repeat (first | exact hp | refine List.Mem.tail _ ?_)
end Mine
end

/-! ## Q5 -/
section
open PySem PySem.W PySem.W.X PyProof.Rows PySem.Calls PySem.Spec
set_option maxRecDepth 100000
namespace Mine
section
variable {prog : Program} {w : World} {A₀ A : Around} {s : Shared} {base h₀ : Heap} {outer : List Env} {L : Addr} {m mg mb : Str → Option Value} {env : Env} {news : List (Addr × Obj)} {K : Frag} {p : Program} {loose : List Str} {mean : ExcName → Option Value}
  {R : Result → Shared → Prop} {name qual : Str} {params : Arguments} {body : List Stmt} {scope : Scope} {cc : Addr} {dV kV doc pm cdv ct oc : Value} {an od : Option Addr} {osl : Array (Option Value)} {f : Addr} {args : Args}
abbrev cellEnv (qual : Str) (scope : Scope) (L a : Addr) (cd : Value) (kw : Str) (c cc : Addr) : Env := envX qual scope L a cd [(kw, c), ("__class__", cc)]
theorem bothC_frame {E : Value → Shared → Prop} {n1 n2 kw : Str} {v1 v2 vk : Value} (B : Below A₀ base outer h₀) (F : Fr h₀ L s.heap m) (N : News h₀ L s.heap news) (hlim : h₀.NoLimit) (hA : A.frames = some (env :: outer)) (hf : env.frame = some L) (hke : env.scope.kind = .function)
    (hcells : ∀ n, cellsFrom n scope.names [("__class__", cc)] = [(kw, n), ("__class__", cc)]) (hpush : ∀ h, pushCells h scope.names = h.push { cls := .type "cell", data := .cell none })
    (l1 : scope.names.lookup n1 = some .local) (l2 : scope.names.lookup n2 = some .local) (l3 : scope.names.lookup kw = some .cell)
    (h : ∀ g L' h₁ c o tk, Fr h₀ L g m → Fr g L' h₁ (fun y => if y = n2 then some v2 else if y = n1 then some v1 else none) → News g L' h₁ ((c, o) :: news) → o.data = .cell (some vk) → Below A base (env :: outer) g → h₀.StaysIn g →
      _root_.PySem.wpAt (model prog w) (A.deeper (cellEnv qual scope L' f cdv kw c cc)) (.func body (cellEnv qual scope L' f cdv kw c cc)) (execs body (cellEnv qual scope L' f cdv kw c cc))
        (fun fl s' => LeaveK h₀ L m g R (match fl with | .ret v => v | _ => .none) s')
        (fun e s' => wpAny (model prog w) (A.deeper (cellEnv qual scope L' f cdv kw c cc)) (leaving (cellEnv qual scope L' f cdv kw c cc) e) (fun _ s'' => R (.error e) s'') (fun e' s'' => R (.error e') s'') s')
        { s with heap := h₁, toks := tk })
    (hk : scope.kind = .function) :
    wpAny (model prog w) A.in1 (newFunctionEnv scope mainGlobals [("__class__", cc)] [(n1, v1), (n2, v2), (kw, vk)] (qual ++ ".<locals>.") (some f) cdv none builtinsNs) (fun env' s₂ => s₂.heap.NoLimit ∧ codeAny (model prog w) A (.func body env') R s₂) E s := by
  obtain ⟨FG, BG, st, lv⟩ := groundX (R := R) B F N hA hf hke
  simp only [newFunctionEnv, Option.isSome_none, Bool.false_eq_true, if_false]
  refine wpAny_bind (wpAny_alloc ?_)
  refine wpAny_bind (wpAny_layCells _ (fun name kind cells => by cases hkc : kind == NameKind.cell <;> simp [hkc]) _ _ _ _ ?_)
  rw [hcells, hpush]
  generalize hg : hideAll s.heap (news.map (·.1)) = g at FG BG st lv
  have hgs : g.objs.size = s.heap.objs.size := by rw [← hg]; exact hideAll_size _ _
  have F1 : Fr g s.heap.objs.size ((s.heap.push { cls := .type "frame", data := .dict #[] }).push { cls := .type "cell", data := .cell none }) (fun _ => none) :=
    ⟨(Heap.Ns.new s.heap (.type "frame")).keeps (fun b o e => Heap.get?_push_of_some _ e), fun b o e => Heap.get?_push_of_some _ (Heap.get?_push_of_some _ (of_hideAll _ (hg ▸ e))), by rw [hgs]; exact Nat.le_refl _⟩
  have hc : (s.heap.push { cls := .type "frame", data := .dict #[] }).objs.size = s.heap.objs.size + 1 := Heap.size_push ..
  have N1 : News g s.heap.objs.size ((s.heap.push { cls := .type "frame", data := .dict #[] }).push { cls := .type "cell", data := .cell none }) (((s.heap.push { cls := .type "frame", data := .dict #[] }).objs.size, { cls := .type "cell", data := .cell none }) :: news) := fun p hp => by
    rcases List.mem_cons.mp hp with rfl | hp
    · exact ⟨Heap.get?_push_size _ rfl, by rw [hc]; exact Nat.succ_ne_self _, Heap.get?_none_of_le (by rw [hgs, hc]; exact Nat.le_succ _)⟩
    · exact ⟨Heap.get?_push_of_some _ (Heap.get?_push_of_some _ (N p hp).1), Nat.ne_of_lt (Heap.lt_size (N p hp).1), hg ▸ hideAll_none _ (List.mem_map_of_mem hp)⟩
  have hU : ∀ p ∈ news, p.1 ≠ (s.heap.push { cls := .type "frame", data := .dict #[] }).objs.size := fun p hp => by
    rw [hc]; exact Nat.ne_of_lt (Nat.lt_succ_of_lt (Heap.lt_size (N p hp).1))
  rw [List.forIn_cons]
  refine wpAny_bind (wpAny_bind (wpAny_bind (storeX_L (cn := qual) (a := f) (ccd := cdv) F1 N1 (fun h2 F2 N2 => wpAny_pure ?_) hk l1)))
  dsimp only
  rw [List.forIn_cons]
  refine wpAny_bind (wpAny_bind (storeX_L (cn := qual) (a := f) (ccd := cdv) F2 N2 (fun h3 F3 N3 => wpAny_pure ?_) hk l2))
  dsimp only
  rw [List.forIn_cons]
  refine wpAny_bind (wpAny_bind (storeX_C (cn := qual) (a := f) (ccd := cdv) (c := (s.heap.push { cls := .type "frame", data := .dict #[] }).objs.size) F3 N3 (by simp) (.head hU) rfl (fun h4 o4 F4 N4 d4 => wpAny_pure ?_) hk l3))
  dsimp only
  rw [List.forIn_nil]
  refine wpAny_pure (wpAny_pure ?_)
  refine ⟨(hlim.keeps st).keeps F4.keep, ks_codeAny_funcAt ?_⟩
  exact ks_wpAt_mono (h g _ h4 _ o4 _ FG F4 N4 d4 BG st) (fun fl s' hl => lv _ _ hl) fun _ _ y => y
end
end Mine
end

/-! ## Q6 -/
section
open PySem PySem.W PySem.W.X PyProof.Rows PySem.Calls PySem.Spec
set_option maxRecDepth 100000
namespace Mine
theorem fillQ6 : (fun (_ : Params → Frag) (_ : OpenLaw) => True) Mine.hd.heap_39 PySem.Challenge.rw_fc0077_01 := by k_fill; trivial
section
variable {prog : Program} {w : World} {A₀ A : Around} {s : Shared} {base h₀ : Heap} {outer : List Env} {L : Addr} {m mg mb : Str → Option Value} {env : Env} {news : List (Addr × Obj)} {K : Frag} {p : Program} {loose : List Str} {mean : ExcName → Option Value}
  {R : Result → Shared → Prop} {name qual : Str} {params : Arguments} {body : List Stmt} {scope : Scope} {cc : Addr} {dV kV doc pm cdv ct oc : Value} {an od : Option Addr} {osl : Array (Option Value)} {f : Addr} {args : Args}
/-- the entry of `def f(self, *args, **kwargs)` that closes over `__class__`, with kwargs in a cell -/
theorem bothC {vs : List Value} {n1 n2 kw : Str} {v1 : Value} {g₁ : Addr → Sem (List (Str × Value))} {g₂ : Addr → Addr → Sem (List (Str × Value))}
    (B : Below A₀ base outer h₀) (F : Fr h₀ L s.heap m) (X₀ : K.In h₀) (N : News h₀ L s.heap news) (T : Top p loose mean mg mb h₀) (hA : A.frames = some (env :: outer)) (hf : env.frame = some L) (hke : env.scope.kind = .function)
    (ho : K.lookup f = some ⟨oc, od, .func (ksFn name qual params body scope dV kV doc pm an cdv ct cc), osl⟩) (hcd : codeIn K cdv qual = true) (hroom : A.depth < recursionLimit)
    (hp : peekA K ⟨prog, w.params⟩ (bindArgs (ksFn name qual params body scope dV kV doc pm an cdv ct cc) args) = some (({ cls := .type "tuple", data := .seq vs.toArray } : Obj), g₁))
    (hp₂ : ∀ D, peekA K ⟨prog, w.params⟩ (g₁ D) = some (dictOf [] 0, g₂ D))
    (hk₂ : ∀ C D, g₂ C D = pure [(n1, v1), (n2, .ref C), (kw, .ref D)])
    (hcells : ∀ n, cellsFrom n scope.names [("__class__", cc)] = [(kw, n), ("__class__", cc)]) (hpush : ∀ h, pushCells h scope.names = h.push { cls := .type "cell", data := .cell none })
    (l1 : scope.names.lookup n1 = some .local) (l2 : scope.names.lookup n2 = some .local) (l3 : scope.names.lookup kw = some .cell)
    (h : ∀ C D g L' h₁ c o tk, (D == sysModules) = false → Fr h₀ L g m → Fr g L' h₁ (fun y => if y = n2 then some (.ref C) else if y = n1 then some v1 else none) →
      News g L' h₁ ((c, o) :: (D, dictOf [] 0) :: (C, ({ cls := .type "tuple", data := .seq vs.toArray } : Obj)) :: news) → o.data = .cell (some (.ref D)) → Below A base (env :: outer) g → K.In g → Top p loose mean mg mb g →
      _root_.PySem.wpAt (model prog w) (A.deeper (cellEnv qual scope L' f cdv kw c cc)) (.func body (cellEnv qual scope L' f cdv kw c cc)) (execs body (cellEnv qual scope L' f cdv kw c cc))
        (fun fl s' => LeaveK h₀ L m g R (match fl with | .ret v => v | _ => .none) s')
        (fun e s' => wpAny (model prog w) (A.deeper (cellEnv qual scope L' f cdv kw c cc)) (leaving (cellEnv qual scope L' f cdv kw c cc) e) (fun _ s'' => R (.error e) s'') (fun e' s'' => R (.error e') s'') s')
        { s with heap := h₁, toks := tk })
    (hco : scope.isCoroutine = false) (hgen : scope.isGenerator = false) (hk : scope.kind = .function) : codeAny (model prog w) A (.call (.ref f) args) R s := by
  refine codeAny_call_function (fd := ksFn name qual params body scope dV kV doc pm an cdv ct cc) (body := body) hroom ((X₀.keeps F.keep) _ _ ho) rfl hco hgen rfl (codeRec_of (X₀.keeps F.keep) hcd) ?_
  refine wp_of_peekA (o := ({ cls := .type "tuple", data := .seq vs.toArray } : Obj)) F N (X₀.keeps F.keep) rfl _ g₁ hp fun h' F' N' l => ?_
  refine wp_of_peekA (s := { s with heap := h' }) (o := dictOf [] 0) F' N' (X₀.keeps F'.keep) rfl _ (g₂ s.heap.objs.size) (hp₂ _) fun h'' F'' N'' l' => ?_
  rw [hk₂]
  refine wpAny_pure ?_
  exact bothC_frame (s := { s with heap := h'' }) B F'' N'' T.nolimit hA hf hke hcells hpush l1 l2 l3
    (fun g L' h₁ c o tk FG FL NG d BG st => h _ _ g L' h₁ c o tk (F'.notModules (modules_low T.nolimit)) FG FL NG d BG (X₀.keeps st) (T.keeps st)) hk
end
section
variable {prog : Program} {w : World} {A : Around} {E : Value → Shared → Prop} {s : Shared} {h₀ : Heap} {L : Addr} {m mg mb : Str → Option Value} {news : List (Addr × Obj)} {K : Frag} {p : Program} {loose : List Str} {mean : ExcName → Option Value} {x C D f cc cda so : Addr} {ox : Obj} {odx : Option Obj}
/-- `super()` in a def whose kwargs lie in a cell -/
theorem node_C {kw : Str} {c : Addr} {body : List Stmt} {q : Str} {scope : Scope} {p0 p1 : Pos} {attr : Str} {whole : Sem Value} {fd : FuncData} {ar : Arg} {vs : Array Value} {file : Str} {tf : Tok} {oc ccl cl : Value} {od cdd cld : Option Addr} {osl ccs csl : Array (Option Value)} {cdD : ClassData} {Q : Value → Shared → Prop}
    (F : Fr h₀ L s.heap m) (X₀ : K.In h₀) (N : News h₀ L s.heap news) (T : Top p loose mean mg mb h₀) (I : InstAt s.heap x ox C odx) (hv : m ar.arg = some (.ref x))
    (hf : K.lookup f = some ⟨oc, od, .func fd, osl⟩) (hp : (fd.params.posonlyargs ++ fd.params.args).head? = some ar)
    (hcode : K.lookup cda = some ⟨ccl, cdd, .fields vs, ccs⟩) (hvs : vs[2]? = some (.str file tf)) (hfile : ((prog.main.file : Str) == file) = true)
    (hcell : K.lookup cc = some ⟨cl, cld, .cell (some (.ref D)), csl⟩) (hD : clsIn K D = some cdD) (hsub : mroIn K C (.ref D) = some true) (hsuper : nsIn K mainGlobals "super" = some none)
    (hat : (attr == ("__class__" : Str)) = false) (hks : scope.names.lookup ("super" : Str) = some .globalImplicit) (hkc : scope.names.lookup ("__class__" : Str) = some .free) (hka : scope.names.lookup ar.arg = some .local) (hk : scope.kind = .function)
    (hkw : (("__class__" : Str) == kw) = false) (htop : (prog.main.scope.names.lookup ("super" : Str)).isSome = false) (hboot : bootBuiltins "super" = some (.type "super"))
    (h : ∀ so h', Fr h₀ L h' m → News h₀ L h' ((so, ks_superObj D x C) :: news) → Q (.ref so) { s with heap := h' }) :
    _root_.PySem.wpAt (model prog w) A (.func body (cellEnv q scope L f (.ref cda) kw c cc)) (attributeBase (.Call (.Name "super" p0) [] [] p1) attr (cellEnv q scope L f (.ref cda) kw c cc) whole) Q E s := by
  have X : K.In s.heap := X₀.keeps F.keep
  obtain ⟨hh, g, d, t, os⟩ := s
  obtain ⟨oD, hD1, hD2⟩ : ∃ oD, hh.get? D = some oD ∧ oD.data = .cls cdD := by
    unfold clsIn at hD
    split at hD
    · rename_i ho
      cases hD
      exact ⟨_, X _ _ ho, rfl⟩
    · cases hD
  have hcl : ([(kw, c), ("__class__", cc)] : List (Str × Addr)).lookup ("__class__" : Str) = some cc := by
    rw [List.lookup_cons, hkw]; rfl
  refine ks_wpAt_super_base (env := cellEnv q scope L f (.ref cda) kw c cc) hks hkc hat rfl (X _ _ hf) rfl hp rfl (X _ _ hcode) rfl hvs hfile htop ?_
  refine ks_loadName_global hk hks (loadGlobal_builtin (env := cellEnv q scope L f (.ref cda) kw c cc) (T.g.keeps F.keep) (mg_none_of X₀ T.g hsuper) (T.b.keeps F.keep) ((T.builtins _ (by decide +kernel)).trans hboot) ⟨rfl, ?_⟩)
  refine wpAny_loadName_free hk hkc hcl ⟨_, X _ _ hcell, rfl⟩ ?_
  refine wpAny_loadName_local hk hka F.ns hv ?_
  refine ks_wpAny_isType_cls hD1 hD2 ⟨rfl, ?_⟩
  refine ks_wpAny_call_super hD1 hD2 I.at_ I.cls (fun c e => ?_) (looks_mroIn X hsub) (fun h' e k => ?_)
  · have := I.no
    unfold notCls at this
    rw [e] at this
    exact Bool.noConfusion this
  · obtain ⟨F', N', _⟩ := ks_newsPush (s := ⟨hh, g, d, t, os⟩) F N rfl e k
    exact h _ _ F' N'
/-- `super().name` -/
theorem get_super {f2 : Addr} {name : Str} {expr : Bool} {Q : Value → Shared → Prop} (FF : Fr h₀ L s.heap m) (X₀ : K.In h₀) (N : News h₀ L s.heap news) (hso : (so, ks_superObj D x C) ∈ news) (I : InstAt s.heap x ox C odx) (ho : nsIn K cStatics "thirdparty.any" = some none)
    (hm : ks_superIn K C D name = some (some (.ref f2))) (ht : typeIn K (.ref f2) = some (.type "function")) (hn : (name == ("__class__" : Str)) = false)
    (h : ∀ q h', Fr h₀ L h' m → News h₀ L h' ((q, methodObj (.ref f2) (.ref x)) :: news) → Q (.ref q) { s with heap := h', toks := s.toks + 1 }) : wpAny (model prog w) A (getAttr (.ref so) name expr) Q E s := by
  have X : K.In s.heap := X₀.keeps FF.keep
  obtain ⟨hh, g, d, t, os⟩ := s
  cases hc : clsIn K C with
  | none => unfold ks_superIn at hm; rw [hc] at hm; cases hm
  | some cd =>
    unfold ks_superIn at hm
    rw [hc] at hm
    obtain ⟨of, hof, hofc⟩ : ∃ of, hh.get? f2 = some of ∧ of.cls = .type "function" := by
      have ht' : (K.lookup f2).map (·.cls) = some (.type "function") := ht
      cases z : K.lookup f2 with
      | none => rw [z] at ht'; cases ht'
      | some of => rw [z] at ht'; exact ⟨of, X _ _ z, Option.some.inj ht'⟩
    have hso := (N _ hso).1
    have hlk := F.ks_slot_super_ga.lookup
    have hT : ∀ t', (⟨hh, g, d, t', os⟩ : Shared).TypeIs (.ref so) "super" := fun _ => ⟨_, hso, rfl⟩
    have hmr : Looks (model prog w) hh (mroOf (.ref C)) cd.mro := fun A Q E s k q => wpAny_bind ((looks_clsIn X hc) A _ E s k (wpAny_pure q))
    unfold getAttr getAttrBy
    refine wpAny_bind (wpAny_mkText (wpAny_holding (wpAny_bind (wpAny_typeOf (hT _) (wpAny_bind (wpAny_of_eq hlk ?_))))))
    show wpAny _ _ (getAttrByItsOwn (.ref so) (.str name t) (.type "super") (.builtin "super.__getattribute__") true expr) _ _ _
    unfold getAttrByItsOwn hookBefore callGetattribute boundAndCalled
    refine wpAny_bind (wpAny_of_eq (show (if onTheHeap (.type "super") then typeLookup (.type "super") "__getattr__" else pure none) = pure none from rfl) ?_)
    rw [show (expr && onTheHeap (Value.builtin "super.__getattribute__")) = false by rw [show onTheHeap (Value.builtin "super.__getattribute__") = false from rfl, Bool.and_false], if_neg Bool.false_ne_true]
    refine wpAny_bind (wpAny_attempt (wpAny_holding ?_))
    refine wpAny_bind (wpAny_of_eq (F.ks_slot_super_ga.bind _) ?_)
    refine wpAny_mono (Q := fun v s' => v = .ref hh.objs.size ∧ s' = ⟨hh.push { cls := .type "method", data := .fields #[.ref f2, .ref x] }, g, d, t + 1, os⟩) (E := fun _ _ => False)
      (wpAny_call_entry F.ks_slot_super_ga (hT _) F.ks_entry_super_ga (ks_wpAny_super_ga hso (looks_opaque X ho) hmr rfl X hm hof hofc (ks_ne X I hc) hn ⟨_, rfl, rfl, rfl⟩) (F.ks_gaArgs_super _ _)) (fun v s' hv => ?_) fun _ _ z => z.elim
    obtain ⟨rfl, rfl⟩ := hv
    obtain ⟨F', N', _⟩ := ks_newsPush (s := ⟨hh, g, d, t, os⟩) (o := methodObj (.ref f2) (.ref x)) FF N rfl (Heap.get?_push_at rfl rfl) (fun b o e => Heap.get?_push_of_some _ e)
    exact wpAny_pure (h _ _ F' N')
end
end Mine
end

/-! ## Q6b -/
section
open PySem PySem.W PySem.W.X PyProof.Rows PySem.Calls PySem.Spec PyProof.V
set_option maxRecDepth 100000
namespace Mine
section
variable {prog : Program} {w : World} {A : Around} {E : Value → Shared → Prop} {s : Shared} {h₀ : Heap} {L : Addr} {m : Str → Option Value} {env : Env}
def NilSrc (prog : Program) (w : World) (h₀ : Heap) (L : Addr) (m : Str → Option Value) (y : Str) (Q : Flow → Shared → Prop) (xv : Value) (s₁ : Shared) : Prop :=
  ∃ (ax : Addr) (o : Obj) (news : List (Addr × Obj)), xv = .ref ax ∧ (ax, o) ∈ news ∧ o.cls = .type "list" ∧ (∃ n, o.data = .seq #[] n) ∧ Fr h₀ L s₁.heap m ∧ News h₀ L s₁.heap news ∧
    (∀ D h' o tk, Fr h₀ L h' (fun z => if z = y then some (.ref D) else m z) → News h₀ L h' ((D, o) :: news) → (D == sysModules) = false → o.IsDictOf (strKind prog w) [] → FlatPairs PyData.str ([] : List (Str × Value)) [] → Q .next { s₁ with heap := h', toks := tk })
theorem NilSrc.intro {y : Str} {Q : Flow → Shared → Prop} {ax : Addr} {c : Nat} {s₁ : Shared} {news : List (Addr × Obj)} (F : Fr h₀ L s₁.heap m) (N : News h₀ L s₁.heap news) (hm : (ax, W.listOf #[] c) ∈ news)
    (fin : ∀ D h' o tk, Fr h₀ L h' (fun z => if z = y then some (.ref D) else m z) → News h₀ L h' ((D, o) :: news) → (D == sysModules) = false → o.IsDictOf (strKind prog w) [] → FlatPairs PyData.str ([] : List (Str × Value)) [] → Q .next { s₁ with heap := h', toks := tk }) :
    NilSrc prog w h₀ L m y Q (.ref ax) s₁ := ⟨ax, _, news, rfl, hm, rfl, ⟨c, rfl⟩, F, N, fin⟩
/-- `y = {k: v for x in list if ..}` of an empty list -/
theorem Assign_DictComp_nil {kx vx iter : PySem.Expr} {x y : Str} {px py : Pos} {ifs : List PySem.Expr} {scope : Scope} {cl : List (Str × Addr)} {pos spos : Pos} {Q : Flow → Shared → Prop} (_F₀ : Fr h₀ L s.heap m) (hmod : ∃ o, h₀.get? sysModules = some o) (hh : A.handled = none) (hL : env.locals = L)
    (hsw : swapsWith (.DictComp kx vx [⟨.Name x px, iter, ifs, 0⟩] scope pos) (some (.Name y py)) spos.line env = pure true)
    (hclos : closureFor scope env = pure cl) (hcell : ∀ y ∈ scope.names, y.2 ≠ .cell) (hkind : scope.kind = .function)
    (hnames : ∀ y ∈ scope.names, y.2 = .local → scope.names.lookup y.1 = some .local) (hx : scope.names.lookup x = some .local)
    (hy : env.kindOf y = some .local) (hp : (env.scope.kind == .class || (env.scope.kind == .module && env.locals != env.globals)) = false)
    (h : wpAny (model prog w) A (eval iter env) (NilSrc prog w h₀ L m y Q) E s) (hs : ∀ x, foldedSetIterable iter env x = pure x) :
    wpAny (model prog w) A (exec (.Assign [.Name y py] (.DictComp kx vx [⟨.Name x px, iter, ifs, 0⟩] scope pos) spos) env) Q E s := by
  subst hL
  rw [exec_Assign_Name_used _ _ _ _ hsw]
  refine wpAny_bind (wpAny_standAt (wpAny_bind ?_))
  show wpAny _ A (do let _ ← comprehension (.DictComp kx vx [⟨.Name x px, iter, ifs, 0⟩] scope pos) scope env _ newDict false (eval iter env) (some (assign (.Name y py) env))) _ _ s
  refine wpAny_bind (wpAny_mono (wpAny_comprehension_free (use := some (assign (.Name y py) env)) (Q := fun _ s' => Q .next s') rfl hs hclos hkind hnames
    (wpAny_mono h (fun xv s₁ h₁ => ?_) fun _ _ e => e)) (fun _ s' hq => wpAny_pure (wpAny_pure hq)) fun _ _ e => e)
  obtain ⟨ax, ol, news, rfl, hm, hlc, hld, F, N, fin⟩ := h₁
  have hl : s₁.heap.IsList ax #[] := ⟨ol, (N _ hm).1, hlc, hld⟩
  have hlt : ax < s₁.heap.objs.size := Heap.lt_size (N _ hm).1
  refine wpAny_pyIter_list hl ?_
  have none? : ∀ (i : Nat) (v : Value), ¬ ((#[] : Array Value)[i]? = some v) := fun i v e => by simp at e
  refine comp_block_walkCD (knd := strKind prog w) (RR := fun acc C => compPost (model prog w) A E (some (assign (.Name y py) env)) (fun _ s' => Q .next s') acc C) (Walks.list hh _ _ (Nat.ne_of_lt hlt) #[]) (by rw [sizeLine_eq]; decide) (fun _ => true)
    (fun _ _ => True) (fun _ _ => True) hcell hkind hx ⟨⟨_, Heap.get?_push_size _ rfl, rfl, rfl⟩, hl.push _⟩ ?_ ⟨fun C i v s₃ m₃ E' hP => absurd hP (none? i v), fun C i v s₃ m₃ E' hP => absurd hP (none? i v), fun C i v s₃ m₃ E' hP => absurd hP (none? i v)⟩ ?_
  · intro b hb
    show b < (s₁.heap.push _).objs.size
    rw [Heap.size_push]
    rcases List.mem_cons.mp hb with rfl | hb
    · exact Nat.lt_succ_self _
    · rw [List.mem_singleton.mp hb]; exact Nat.lt_succ_of_lt hlt
  · intro D C h' tk m' kvs vs hD hC hDC hnC hDo hlen hP hS hk
    obtain rfl : vs = [] := List.length_eq_zero_iff.mp hlen
    have hkv : kvs = [] := by
      cases kvs with
      | nil => rfl
      | cons q r => have := hS.length_le; simp at this
    subst hkv
    have keep : ∀ b o, s₁.heap.get? b = some o → h'.get? b = some o := fun b o e => hk b o (fun hb => by rw [List.mem_singleton.mp hb] at e; exact absurd (Heap.lt_size e) (Nat.lt_irrefl _)) (Heap.get?_push_of_some _ e)
    have nope : ∀ a, (s₁.heap.push { cls := .type "list_iterator", data := .fields #[.ref ax, .int 0 0] }).get? a = none → s₁.heap.get? a = none := fun a ha => by
      cases e : s₁.heap.get? a with
      | none => rfl
      | some o' => rw [Heap.get?_push_of_some _ e] at ha; cases ha
    have nD := nope D hD
    have nC := nope C hC
    have ofL : ∀ a, s₁.heap.get? a = none → env.locals ≠ a := fun a ha q => by
      obtain ⟨oL, es, ep, hL, _⟩ := F.ns
      rw [q, ha] at hL; cases hL
    have of0 : ∀ a, s₁.heap.get? a = none → h₀.get? a = none := fun a ha => by
      cases e : h₀.get? a with
      | none => rfl
      | some o' => have := F.keep a o' e; rw [ha] at this; cases this
    show wpAny _ A (assign (.Name y py) env (.ref D)) _ _ _
    refine wpAny_assign_Name (wpAny_storeName_local hy (F.ns.keeps keep) (fun h₂ hn₂ hs₂ => ?_) hp)
    refine ⟨m', hnC.sameBut hs₂ (Ne.symm (ofL C nC)), fun h₃ hs₃ => ?_⟩
    have keep3 : ∀ b o, b ≠ env.locals → s₁.heap.get? b = some o → h₃.get? b = some o := fun b o hb e =>
      hs₃.extBut b o (by rintro rfl; rw [e] at nC; cases nC) (hs₂.extBut b o hb (keep b o e))
    obtain ⟨o, ho, hio⟩ := Heap.dictOf_iff.mp ((hDo.extBut hs₂.extBut (Ne.symm (ofL D nD))).extBut hs₃.extBut hDC)
    refine fin D h₃ o _ ⟨hn₂.sameBut hs₃ (ofL C nC), fun b o e => keep3 b o (Nat.ne_of_lt (Nat.lt_of_lt_of_le (Heap.lt_size e) F.above)) (F.keep b o e), F.above⟩ (fun p hp => ?_) ?_ hio .nil
    · rcases List.mem_cons.mp hp with rfl | hp
      · exact ⟨ho, Ne.symm (ofL D nD), of0 D nD⟩
      · exact ⟨keep3 _ _ (N p hp).2.1 (N p hp).1, (N p hp).2⟩
    · cases q : (D == sysModules) with
      | false => rfl
      | true =>
        obtain ⟨o', e⟩ := hmod
        have := of0 D nD
        rw [beq_iff_eq.mp q, e] at this; cases this
end
end Mine
end

/-! ## Q6c -/
section
open PySem PySem.W PySem.W.X PyProof.Rows PySem.Calls PySem.Spec PyProof.V
set_option maxRecDepth 100000
namespace Mine
theorem fillQ6c : (fun (_ : Params → Frag) (_ : OpenLaw) => True) Mine.hd.heap_39 PySem.Challenge.rw_fc0077_01 := by k_fill; trivial
theorem some_of {K : Frag} {a : Addr} {o : Obj} {h : Heap} (X : K.In h) (e : K.lookup a = some o) : ∃ o, h.get? a = some o := ⟨o, X _ _ e⟩
theorem mods_in {w : World} {h : Heap} (X : (Mine.hd.heap_39 w.params).In h) : ∃ o, h.get? sysModules = some o := by
  refine' some_of X ?h
  case h => k_is
section
variable {prog : Program} {w : World} {A : Around} {E : Value → Shared → Prop} {s : Shared} {h₀ : Heap} {L : Addr} {m : Str → Option Value} {news : List (Addr × Obj)}
theorem slice_one {value slice : PySem.Expr} {C : Addr} {t : Tok} {ops : List Value} {Q : Value → Shared → Prop} (F : Fr h₀ L s.heap m) (N : News h₀ L s.heap news) (hc : (C, ({ cls := .type "tuple", data := .seq #[.none] } : Obj)) ∈ news)
    (h : ∀ q D h', Fr h₀ L h' m → News h₀ L h' ((D, ({ cls := .type "tuple", data := .seq #[] } : Obj)) :: (q, ({ cls := .type "slice", data := .fields #[.int 1 t, .none, .none] } : Obj)) :: news) → Q (.ref D) { s with heap := h' })
    (hs : subscripted slice false (.ref C) (.ref s.heap.objs.size) = operate ops (getItem (.ref C) (.ref s.heap.objs.size))) (ht : ∀ r, letTemporaryGo value (.ref C) r = pure ()) :
    wpAny (model prog w) A (subscriptTail value slice (.ref C) (.ref s.heap.objs.size)) Q E { s with heap := s.heap.push { cls := .type "slice", data := .fields #[.int 1 t, .none, .none] } } := by
  have tup : IsTup (s.heap.push { cls := .type "slice", data := .fields #[.int 1 t, .none, .none] }) C #[.none] := ⟨_, Heap.get?_push_of_some _ (N _ hc).1, rfl, ⟨_, rfl⟩⟩
  refine subscriptTail_ops (T := "tuple") (s := { s with heap := s.heap.push { cls := .type "slice", data := .fields #[.int 1 t, .none, .none] } }) tup.typeIs slot_tuple_getitem.lookup
    (getItem_tuple_from (a := 1) tup (Heap.IsSliceOf.new ..) (Nat.le_refl 1) (Nat.le_refl 1) ?_ (by rw [sizeLine_eq]; decide)) hs ht
  have N1 := N.push F ({ cls := .type "slice", data := .fields #[.int 1 t, .none, .none] } : Obj) rfl
  have N2 := N1.push (F.push _) ({ cls := .type "tuple", data := .seq #[] } : Obj) rfl
  exact h _ _ _ ((F.push _).push _) N2
theorem dict0_is {prog : Program} {w : World} (h : Heap) : (dictOf [] 0).IsDictOf (strKind prog w) ([] : List (Str × Value)) := by
  obtain ⟨o, ho, hi⟩ := Heap.dictOf_iff.mp (Heap.DictOf.new (knd := strKind prog w) h)
  rw [show (h.push { cls := .type "dict", dict := none, data := .dict #[] }).get? h.objs.size = some (dictOf [] 0) from Heap.get?_push_size _ rfl] at ho
  cases ho
  exact hi
end
theorem cd_deepQ {M : Model} {c : Code} {R : Result → Shared → Prop} {s : Shared} {d u D U : Nat} {gd : Option (List Code)} {cn : Str} {cs : Scope} {L a : Addr} {ccd : Value} {cl : List (Str × Addr)} {outer : List Env} (hd : d ≤ D) (hu : u ≤ U)
    (h : codeAny M (ktrTop D U gd cn cs L a ccd cl outer) c R s) : codeAny M (ktrTop d u gd cn cs L a ccd cl outer) c R s :=
  fun Γ p hc hΓ => h Γ p hc ⟨hΓ.1, Nat.le_trans hΓ.2.1 hd, hΓ.2.2.1, hΓ.2.2.2.1, Nat.le_trans hΓ.2.2.2.2 hu⟩
section
variable {prog : Program} {w : World} {A : Around} {E : Value → Shared → Prop} {s : Shared} {env : Env} {h₀ : Heap} {xk xv : Str} {body : List Stmt} {Q : Flow → Shared → Prop} {d vw : Addr} {news : List (Addr × Obj)} {m : Str → Option Value} {o : Obj}
theorem iter_nil (F : Fr h₀ env.locals s.heap m) (N : News h₀ env.locals s.heap news) (hv : (vw, ({ cls := .type "dict_items", data := .fields #[.ref d] } : Obj)) ∈ news) (hd : (d, o) ∈ news) (lo : (d == sysModules) = false) (hio : o.IsDictOf (strKind prog w) []) (hf : FlatPairs PyData.str ([] : List (Str × Value)) [])
    (hh : A.handled = none) (hxk : env.kindOf xk = some .local) (hxv : env.kindOf xv = some .local) (hp : (env.scope.kind == .class || (env.scope.kind == .module && env.locals != env.globals)) = false) (hE : PassesOwn (model prog w) A env E)
    (h : ∀ h' tk, Fr h₀ env.locals h' m → News h₀ env.locals h' news → Q .next { s with heap := h', toks := tk }) :
    wpAny (model prog w) A (pyIter (.ref vw)) (fun it s₂ => PairLoopAt prog w A h₀ env xk xv body Q E it s₂) E s :=
  Iter_strItems_unr (D := []) hh hxk hxv hp ⟨_, (N _ hv).1, rfl, rfl⟩ (TabAt.ofNews N hd lo hio hf) F N (.inr ⟨_, hd⟩) (UnrI.zero h) hE
end
end Mine
end

/-! ## Q7 -/
section
open PySem PySem.W PySem.W.X PyProof.Rows PySem.Calls PySem.Spec
set_option maxRecDepth 100000
namespace Mine
theorem fillQ7 : (fun (_ : Params → Frag) (_ : OpenLaw) => True) Mine.hd.heap_39 PySem.Challenge.rw_fc0077_01 := by k_fill; trivial
local macro_rules | `(tactic| walk_at "my_step") => `(tactic| first | (k_unfold; (try dsimp only)) | (k_end; wrow_close) | walk1 | (dsimp only; walk1) | (leave1; walk_say "STEP leave1"; try dsimp only))
local macro_rules | `(tactic| k_inst) => `(tactic| (refine' inst296 ?N ?h1 ?h2; (case N => k_asm); (case h1 => (rename (_, paObj _) ∈ _ => hxM; (repeat (first | exact hxM | refine List.Mem.tail _ ?_)))); (case h2 => (rename (_, dict0) ∈ _ => hdM; (repeat (first | exact hdM | refine List.Mem.tail _ ?_))))))
local macro_rules | `(tactic| walk_at "exec Assign cons DictComp") => `(tactic| (k_here; k_dflt (refine' Assign_DictComp_nil ?f0 ?hmd ?hh ?hL ?hsw ?hclos ?hcell ?hkind ?hnames ?hx ?hy ?hp ?_ ?hs; (case f0 => k_asm); (case hmd => exact mods_in (by k_asm)); (case hh => rfl); (case hL => rfl); (case hsw => with_unfolding_all rfl); (case hclos => with_unfolding_all rfl); (case hcell => decide); (case hkind => rfl); (case hnames => decide); (case hx => rfl); (case hy => rfl); (case hp => rfl); (case hs => (intro _; with_unfolding_all rfl)))))
local macro_rules | `(tactic| walk_at "subscriptTail") => `(tactic| (k_here; (with_reducible show wpAny _ _ (subscriptTail _ (Expr.Slice _ _ _ _) (Value.ref _) (Value.ref _)) _ _ _); k_dflt (refine' slice_one ?k1 ?k2 ?k3 ?_ ?hs ?ht; (case k1 => k_asm); (case k2 => k_asm); (case k3 => k_mem); (case hs => with_unfolding_all rfl); (case ht => (intro r'; with_unfolding_all rfl))); intro q' D' h' F' N'))
local macro_rules | `(tactic| walk_at "NilSrc") => `(tactic| (k_here; k_dflt (refine' NilSrc.intro ?kF ?kN ?km ?_; (case kF => k_asm); (case kN => k_asm); (case km => k_mem)); intro D' h' o' tk' F' N' hDm' hio' hfo'))
local macro_rules | `(tactic| walk_at "wpAt") => `(tactic| ((with_reducible show _root_.PySem.wpAt _ _ _ (eval (Expr.Call (Expr.Attribute (Expr.Call _ _ _ _) _ _) _ _ _) _) _ _ _); k_dflt (refine sk_methodAt ?_ rfl)))
local macro_rules | `(tactic| walk_at "wpAt") => `(tactic| ((with_reducible show _root_.PySem.wpAt _ _ _ (attributeBase _ _ _ _) _ _ _); k_here; k_dflt (refine' node_C ?a1 ?a2 ?a3 ?a4 ?a5 ?a6 ?a7 ?a8 ?b1 ?b2 ?b3 ?b4 ?b5 ?b6 ?b7 ?b8 ?b9 ?c1 ?c2 ?c3 ?c4 ?c5 ?c6 ?_; (case a1 => k_asm); (case a2 => k_asm); (case a3 => k_asm); (case a4 => k_asm); (case a5 => k_inst); (case a7 => k_is); (case a8 => rfl); (case a6 => rfl); (case b1 => k_is); (case b2 => rfl); (case b3 => first | rfl | decide +kernel); (case b4 => k_is); (case b5 => k_is); (case b6 => k_is); (case b7 => k_is); (case b8 => decide); (case b9 => rfl); (case c1 => rfl); (case c2 => rfl); (case c3 => rfl); (case c4 => decide); (case c5 => decide +kernel); (case c6 => first | boot_by_name | rfl | kernel_rfl)); intro so' h' F' N'))
local macro_rules | `(tactic| walk_at "getAttr ref") => `(tactic| (k_here; (with_reducible show wpAny _ _ (getAttr _ (Str.ofString "__init__") _) _ _ _); k_dflt (refine' get_super ?k1 ?k2 ?k3 ?k4 ?k5 ?k6 ?k7 ?k8 ?k9 ?_; (case k1 => k_asm); (case k2 => k_asm); (case k3 => k_asm); (case k4 => k_mem); (case k5 => k_inst); (case k6 => k_is); (case k7 => ks_is); (case k8 => k_is); (case k9 => decide)); intro q' h' F' N'))
local macro_rules | `(tactic| walk_at "callWith ref") => `(tactic| (k_here; (with_reducible show wpAny _ _ (callWith _ (Value.ref _) _ (backTo _ (starEach [Expr.Starred _ _] _)) (backToKw _ (keywordEach [_] _))) _ _ _); k_dflt (refine' callWith_SK (vs := []) ?k1 ?k2 ?k3 ?kf ?hq ?ht ?ha ?hm ?hz ?hX ?hY ?_; (case k1 => k_asm); (case k2 => k_asm); (case k3 => k_asm); (case hq => k_mem); (case kf => k_is); (case hX => (refine wpAny_bind (nameX_L (by k_asm) rfl ?_); exact wpAny_bind (wpAny_standAt (wpAny_pure ⟨rfl, rfl⟩)))); (case hY => (intro s' ga F' N'; refine wpAny_bind (nameX_C N' rfl (by k_mem) (by assumption) ?_); exact wpAny_bind (wpAny_standAt (wpAny_pure ⟨rfl, rfl⟩)))); (case ht => k_mem); (case ha => k_mem); (case hm => assumption); (case hz => exact Nat.le_of_ble_eq_true rfl)); intro h' F' N'))
local macro_rules | `(tactic| walk_at "call ref") => `(tactic| (k_here; k_dflt (refine' call_meth ?n1 ?n2 (cd_deepQ (D := 470) (U := 280) (Nat.le_of_ble_eq_true rfl) (Nat.le_of_ble_eq_true rfl) (init63 ?k1 ?k2 ?k3 ?k4 ?k5 ?k6 ?k7 ?k8 ?_)); (case n1 => k_asm); (case n2 => k_mem); (case k1 => k_asm); (case k2 => k_asm); (case k3 => k_asm); (case k4 => k_asm); (case k5 => k_asm); (case k6 => exact rfl); (case k7 => (rename (_, paObj _) ∈ _ => hxM; (repeat (first | exact hxM | refine List.Mem.tail _ ?_)))); (case k8 => (rename (_, dict0) ∈ _ => hdM; (repeat (first | exact hdM | refine List.Mem.tail _ ?_))))); intro h' tk' F' N'))
local macro_rules | `(tactic| walk_at "wpAt") => `(tactic| ((with_reducible show _root_.PySem.wpAt _ _ _ (execs (_ :: _) _) _ _ _); k_dflt (refine ks_wpAt_execs_cons ?_)))
local macro_rules | `(tactic| walk_at "wpAt") => `(tactic| ((with_reducible show _root_.PySem.wpAt _ _ _ (exec (Stmt.Expr (Expr.Call (Expr.Attribute (Expr.Call _ _ _ _) _ _) _ _ _) _) _) _ _ _); k_dflt (refine ks_wpAt_Expr_any ?_)))
local macro_rules | `(tactic| walk_at "exec For") => `(tactic| (k_here; k_dflt (refine' For_pair_unrF ?f0 ?_ ?hs; (case f0 => k_asm); (case hs => (intro _; with_unfolding_all rfl)))))
local macro_rules | `(tactic| walk_at "pyIter") => `(tactic| (k_here; k_dflt (refine' iter_nil ?F ?N ?hv ?hd ?lo ?hio ?hf ?i1 ?i2 ?i3 ?i4 ?hE ?_; (case F => k_asm); (case N => k_asm); (case hv => k_mem); (case hio => assumption); (case hd => k_mem); (case lo => assumption); (case hf => assumption); (case i1 => rfl); (case i2 => rfl); (case i3 => rfl); (case i4 => rfl); (case hE => first | passes_own | with_unfolding_all passes_own)); intro h' tk' F' N'))
set_option maxHeartbeats 0 in
theorem init257 {w : World} {mean : ExcName → Option Value} {mg mb : Str → Option Value} {x d : Addr} {t : Tok} {gd : Option (List Code)} {cn : Str} {cs : Scope} {aa : Addr} {ccd : Value} {cl : List (Str × Addr)} {outer : List Env} {A₀ : Around} {base h₀ : Heap} {L : Addr} {m : Str → Option Value} {news : List (Addr × Obj)} {s : Shared} {Q E : Value → Shared → Prop}
   (B : Below A₀ base outer h₀) (F : Fr h₀ L s.heap m) (X : (Mine.hd.heap_39 w.params).In h₀) (N : News h₀ L s.heap news) (T : Top Mine.hd.view_39 LOOSE mean mg mb h₀) (hk : cs.kind = .function) (hx : (x, paObj d) ∈ news) (hd : (d, dict0) ∈ news)
   (hret : ∀ h' tk', Fr h₀ L h' m → News h₀ L h' news → Q .none { s with heap := h', toks := tk' }) :
   codeAny (model PySem.Challenge.rw_fc0077_01.row.prog w) (ktrTop 460 270 gd cn cs L aa ccd cl outer) (.call (.ref 257) ⟨[.ref x, .none], []⟩) (fun r s' => match r with | .ok (.ret v) => Q v s' | .ok _ => False | .error e => E e s') s := by
  k_dflt (
    refine' bothC (vs := [Value.none]) B F X N T ?kA ?kF ?kK ?k6 ?k7 ?k8 ?hp ?hp2 ?hk2 ?hc ?hpu ?l1 ?l2 ?l3 ?_ ?c2 ?c3 ?c4
    case kA => exact rfl
    case kF => exact rfl
    case kK => exact hk
    case k6 => k_is
    case k7 => k_is
    case k8 => ktr_room
    case hp => exact rfl
    case hp2 => exact fun _ => rfl
    case hk2 => exact fun _ _ => rfl
    case hc => exact fun _ => rfl
    case hpu => exact fun _ => rfl
    case l1 => exact rfl
    case l2 => exact rfl
    case l3 => exact rfl
    case c2 => exact rfl
    case c3 => exact rfl
    case c4 => exact rfl)
  intro C' D' g' L' h' c' o' tk' hDm FG' F' N' hcell B' X' T'
  (try dsimp only)
  (try k_lift B')
  have hdz : (dictOf [] 0).IsDictOf (strKind PySem.Challenge.rw_fc0077_01.row.prog w) ([] : List (Str × Value)) := dict0_is h'
  have hfz : PyProof.V.FlatPairs PyData.str ([] : List (Str × Value)) [] := .nil
  w_top off
  repeat' (walk_at "my_step")
  rename Fr h₀ L _ m => kF'
  rename News h₀ L _ _ => kN'
  refine hret _ _ kF' (fun p hp => kN' p ?_)
  repeat (first | exact hp | refine List.Mem.tail _ ?_)
end Mine
end

/-! ## Q8 -/
section
open PySem PySem.W PySem.W.X PyProof.Rows PySem.Calls PySem.Spec
set_option maxRecDepth 100000
namespace Mine
theorem fillQ8 : (fun (_ : Params → Frag) (_ : OpenLaw) => True) Mine.hd.heap_39 PySem.Challenge.rw_fc0077_01 := by k_fill; trivial
theorem under_topQ {D U : Nat} {gd : Option (List Code)} {cn : Str} {cs : Scope} {L aa : Addr} {ccd : Value} {cl : List (Str × Addr)} {outer : List Env} {C : Addr} {args : List Value} : (ktrTop D U gd cn cs L aa ccd cl outer).under (.builtin "type.__call__" ⟨.ref C :: args, []⟩) = ktrTop (D + 1) (U + 1) gd cn cs L aa ccd cl outer := by
  kernel_rfl
section
variable {w : World} {mean : ExcName → Option Value} {mg mb : Str → Option Value}
theorem pa_instQ {h₀ h : Heap} {L x d : Addr} {news : List (Addr × Obj)} (N : News h₀ L h ((x, paObj d) :: (d, dict0) :: news)) : InstAt h x (paObj d) 296 (some dict0) := ⟨(N _ (List.Mem.head _)).1, rfl, rfl, (N _ (List.Mem.tail _ (List.Mem.head _))).1⟩
set_option maxHeartbeats 0 in
theorem params_c {gd : Option (List Code)} {cn : Str} {cs : Scope} {L aa : Addr} {ccd : Value} {cl : List (Str × Addr)} {outer : List Env} {A₀ : Around} {base h₀ : Heap} {m : Str → Option Value} {news : List (Addr × Obj)} {s : Shared} {Q E : Value → Shared → Prop}
   (B : Below A₀ base outer h₀) (F : Fr h₀ L s.heap m) (X : (Mine.hd.heap_39 w.params).In h₀) (N : News h₀ L s.heap news) (T : Top Mine.hd.view_39 LOOSE mean mg mb h₀) (hk : cs.kind = .function)
   (hret : ∀ p h' tk', Fr h₀ L h' m → News h₀ L h' news → Q (.ref p) { s with heap := h', toks := tk' }) :
   wpAny (model PySem.Challenge.rw_fc0077_01.row.prog w) (ktrTop 450 260 gd cn cs L aa ccd cl outer) (call (.ref 296) [.none]) Q E s := by
  have XX := X.keeps F.keep
  refine wpAny_call ?_
  refine' class_call (in_get XX ?c1) ?c2 ?c3 ?c4 (made_of (in_get XX ?c1) ?c2 ?c5 ?c6 ?c7) ?_
  case c1 => k_is
  case c2 => rfl
  case c3 => exact looks_specialIn XX (by k_is)
  case c4 => exact looks_instIn XX (by k_is)
  case c5 => rfl
  case c6 => rfl
  case c7 => exact (looks_clsIn XX (by k_is)).andThen .now
  refine wpAny_pure ?_
  refine wp_wide (by rfl) (Nat.le_of_ble_eq_true rfl) (Nat.le_of_ble_eq_true rfl) (x_dictnew F XX N fun x d h' tk' F' N' hx' => ⟨x, rfl, ?_, ?_⟩)
  · exact (pa_instQ N').type.andThen (looks_subIn (X.keeps F'.keep) (by k_is))
  refine special_fn (X.keeps F'.keep) (pa_instQ N') (by k_is) (by k_is) ?_
  refine wpAny_call ?_
  rw [under_topQ]
  refine cd_deepQ (D := 460) (U := 270) (Nat.le_of_ble_eq_true rfl) (Nat.le_of_ble_eq_true rfl) (init257 (t := 0) B F' X N' T hk (List.Mem.head _) (List.Mem.tail _ (List.Mem.head _)) fun h2 tk2 F2 N2 => ?_)
  exact ⟨.inr rfl, hret _ _ _ F2 fun p hp => N2 p (List.Mem.tail _ (List.Mem.tail _ hp))⟩
end
end Mine
end

/-! ## N1 -/
section
open PySem PySem.W PyProof.Rows PySem.Calls PySem.Spec
set_option maxRecDepth 100000
namespace Mine
open RE PySem.NumText PySem.W.KIN
theorem fillN1 : (fun (_ : Params → Frag) (_ : OpenLaw) => True) Mine.hd.heap_39 PySem.Challenge.rw_fc0077_01 := by k_fill; trivial
local macro_rules | `(tactic| walk_at "sub_mem") => `(tactic| (intro p hp; (repeat (first | exact hp | refine List.Mem.tail _ ?_))))
local macro_rules | `(tactic| walk_at "my_step") => `(tactic| first | (k_unfold; (try dsimp only)) | (k_end; wrow_close) | walk1 | (dsimp only; walk1) | (leave1; walk_say "STEP leave1"; try dsimp only))
local macro_rules | `(tactic| walk_at "my_enter") => `(tactic| (refine' ks_code_super ?k1 ?k2 ?k3 ?k4 ?k5 ?kA ?kF ?kK ?k6 ?k7 ?k8 ?k9 ?kB ?_ ?c1 ?c2 ?c3 ?c4; (case kA => exact rfl); (case kF => exact rfl); (case kK => first | exact rfl | assumption); (case k1 => k_asm); (case k2 => k_asm); (case k3 => k_asm); (case k4 => k_asm); (case k5 => k_asm); (case k6 => k_is); (case k7 => k_is); (case k8 => ktr_room); (case k9 => first | exact BindsTo.of_eq rfl | exact binds_K (by k_in) rfl (by k_is) rfl rfl rfl); (case kB => exact locs rfl); (case c1 => decide); (case c2 => exact rfl); (case c3 => exact rfl); (case c4 => exact rfl); intro g' L' h' FG' F' N' B' X' T' l1; (try k_lt l1); (try dsimp only); (try k_lift B')))
local macro_rules | `(tactic| walk_at "wpAt") => `(tactic| (ks_step "exec Assign"; k_dflt (refine ks_wpAt_Assign_Name ?_)))
local macro_rules | `(tactic| walk_at "wpAt") => `(tactic| (ks_step "eval Call"; k_dflt (refine ks_wpAt_MethodCall ?_)))
local macro_rules | `(tactic| walk_at "my_wide") => `(tactic| (refine wp_wide ?_ ?_ ?_ ?_; (case _ => exact rfl); (case _ => decide); (case _ => decide)))
local macro_rules | `(tactic| walk_at "wpAt") => `(tactic| (ks_step "attributeBase Call"; k_here; k_dflt (refine sup_node (by rfl) (Nat.le_of_ble_eq_true rfl) (Nat.le_of_ble_eq_true rfl) (by k_asm) (by k_asm) (by k_asm) (by k_asm) (by k_is) (by rfl) (by rfl) (by k_is) (by rfl) (by first | rfl | decide +kernel) (by k_is) (by k_is) (by k_is) (by decide) (by rfl) (by rfl) (by rfl) (by rfl) (by decide +kernel) (by first | boot_by_name | rfl | kernel_rfl) ?_; intro so' h' tk' F' N')))
local macro_rules | `(tactic| walk_at "getMethod ref") => `(tactic| (k_here; k_dflt (refine gm_super_new (News.get (by k_asm) (by k_mem)) (by k_in) ?_)))
local macro_rules | `(tactic| walk_at "call builtin:str.__new__") => `(tactic| (k_here; k_dflt (refine' wp_wide (by rfl) (Nat.le_of_ble_eq_true rfl) (Nat.le_of_ble_eq_true rfl) (x_strnew ?k1 ?k2 ?k3 ?k4 ?_); (case k1 => omega); (case k2 => k_asm); (case k3 => k_in); (case k4 => k_asm); intro x' d' t' h' tk' F' N' hxn')))
local macro_rules | `(tactic| walk_at "getMethod ref") => `(tactic| (k_here; k_dflt (refine gm_pat (by k_in) ?_)))
local macro_rules | `(tactic| walk_at "getMethod ref") => `(tactic| (k_here; k_dflt (refine gm_groups (News.get (by k_asm) (by k_mem)) ?_)))
local macro_rules | `(tactic| walk_at "call builtin:re.Pattern.fullmatch") => `(tactic| (k_here; k_dflt (refine' fm_call ?k1 ?k2 ?k3 ?k4 ?k5 ?_ ?k7; (case k1 => assumption); (case k2 => k_asm); (case k3 => k_in); (case k4 => k_asm); (case k5 => k_mem); (case k7 => (intro z0 z1; rename _ ∨ _ => hor; rcases hor with hor | hor; exact absurd (hor.symm.trans z0) (by decide); exact absurd (hor.symm.trans z1) (by decide))); intro a' mo' tp' li' h' tk' ha' hf' F' N')))
local macro_rules | `(tactic| walk_at "call builtin:re.Match.groups") => `(tactic| (k_here; k_dflt (refine' groups_f (by rfl) (Nat.le_of_ble_eq_true rfl) (Nat.le_of_ble_eq_true rfl) ?k1 ?k2 ?k3 ?k4 ?k5 ?k6 ?k7 ?k8 ?_; (case k1 => assumption); (case k2 => assumption); (case k3 => k_asm); (case k4 => k_in); (case k5 => k_asm); (case k6 => k_mem); (case k7 => k_mem); (case k8 => k_mem); intro sg' rl' wd' tu' t1' t2' t3' h' tk' esg' erl' ewd' lsg' lrl' lwd' hsg' hrl' F' N')))
theorem day_is {T0 wd : Str} (h : isDay (Txt.upper ⟨T0.cps.extract (T0.cps.size - 2) T0.cps.size⟩) = true) (e : wd = ⟨T0.cps.extract (T0.cps.size - 2) T0.cps.size⟩) : (!isDay (Txt.upper wd)) = false := by rw [e, h]; rfl
local macro_rules | `(tactic| walk_at "compareOp NotIn str ref") => `(tactic| (k_here; k_dflt (refine' notIn_days ?k1 ?k2 ?_; (case k1 => k_asm); (case k2 => k_asm)); rw [day_is (by assumption) (by assumption)]))
local macro_rules | `(tactic| walk_at "compareOp NotIn str str") => `(tactic| (k_here; k_dflt (refine' sign_in ?k1 ?_; (case k1 => assumption))))
local macro_rules | `(tactic| walk_at "call type:int") => `(tactic| (k_here; k_dflt (refine' int_rl ?k1 ?k2 ?k3 ?_; (case k1 => assumption); (case k2 => omega); (case k3 => omega))))
local macro_rules | `(tactic| walk_at "setAttr ref") => `(tactic| (k_here; first | ((with_reducible show wpAny _ _ (setAttr _ (Str.ofString "weekday") _) _ _ _); k_dflt (refine' set_weekday ?k1 ?k2 ?k3 ?k4 ?k5 ?k6 ?k7 ?_; (case k1 => k_asm); (case k2 => k_asm); (case k3 => k_asm); (case k4 => k_mem); (case k5 => k_mem); (case k6 => assumption); (case k7 => walk_at "sub_mem"); intro h' F' N')) | ((with_reducible show wpAny _ _ (setAttr _ (Str.ofString "relative") _) _ _ _); k_dflt (refine' set_relative ?k1 ?k2 ?k3 ?k4 ?k5 ?k6 ?k7 ?_; (case k1 => k_asm); (case k2 => k_asm); (case k3 => k_asm); (case k4 => k_mem); (case k5 => k_mem); (case k6 => assumption); (case k7 => walk_at "sub_mem"); intro h' F' N')) | ((with_reducible show wpAny _ _ (setAttr _ (Str.ofString "params") _) _ _ _); k_dflt (refine' set_params ?k1 ?k2 ?k3 ?k4 ?k5 ?k6 ?k7 ?_; (case k1 => k_asm); (case k2 => k_asm); (case k3 => k_asm); (case k4 => k_mem); (case k5 => k_mem); (case k6 => assumption); (case k7 => walk_at "sub_mem"); intro h' F' N'))))
local macro_rules | `(tactic| walk_at "truthy str") => `(tactic| (k_here; k_dflt (refine' truthy_ne ?k1 ?k2 ?_; (case k1 => omega); (case k2 => omega))))
local macro_rules | `(tactic| walk_at "execs cons") => `(tactic| (k_here; k_dflt (refine' rel_cut ?k1 ?k2 ?k3 ?k4 ?_ ?_; (case k1 => k_asm); (case k2 => k_asm); (case k3 => assumption); (case k4 => assumption)); rotate_left; intro r' h' tk' hr' F' N'; rotate_right))
local macro_rules | `(tactic| walk_at "getAttr ref") => `(tactic| (k_here; first | ((with_reducible show wpAny _ _ (getAttr _ (Str.ofString "weekday") _) _ _ _); k_dflt (refine' get_weekday ?k1 ?k2 ?k3 ?k4 ?k5 ?k6 ?_; (case k1 => k_asm); (case k2 => k_asm); (case k3 => k_asm); (case k4 => k_mem); (case k5 => k_mem); (case k6 => first | exact rfl | exact relOf_handed (by assumption)))) | ((with_reducible show wpAny _ _ (getAttr _ (Str.ofString "relative") _) _ _ _); k_dflt (refine' get_relative ?k1 ?k2 ?k3 ?k4 ?k5 ?k6 ?_; (case k1 => k_asm); (case k2 => k_asm); (case k3 => k_asm); (case k4 => k_mem); (case k5 => k_mem); (case k6 => first | exact rfl | exact relOf_handed (by assumption))))))
local macro_rules | `(tactic| walk_at "RelEnd") => `(tactic| (first | (exfalso; omega) | (refine' rel_end ?k1 ?k2 ?k3; (case k1 => k_asm); (case k2 => k_asm); (case k3 => first | exact relA (by omega) | exact relB (by omega) | exact relC (by omega) (by assumption) | exact relD (by omega) (by assumption)))))
local macro_rules | `(tactic| walk_at "truthy str") => `(tactic| (k_here; k_dflt (refine' truthy_z ?k1 ?_; (case k1 => omega))))
local macro_rules | `(tactic| walk_at "call ref") => `(tactic| (k_here; (with_reducible show wpAny _ _ (call (Value.ref 296) _) _ _ _); k_dflt (refine' wp_deep (Nat.le_of_ble_eq_true rfl) (Nat.le_of_ble_eq_true rfl) (params_c ?k1 ?k2 ?k3 ?k4 ?k5 ?k6 ?_); (case k1 => k_asm); (case k2 => k_asm); (case k3 => k_asm); (case k4 => k_asm); (case k5 => k_asm); (case k6 => exact rfl); intro p' h' tk' F' N')))
theorem mem_skip2 {α : Type} {p a b c : α} {l : List α} (h : p ∈ a :: b :: l) : p ∈ a :: b :: c :: l := by
  rcases List.mem_cons.mp h with rfl | h
  · exact List.mem_cons_self ..
  · rcases List.mem_cons.mp h with rfl | h
    · exact List.mem_cons_of_mem _ (List.mem_cons_self ..)
    · exact List.mem_cons_of_mem _ (List.mem_cons_of_mem _ (List.mem_cons_of_mem _ h))
set_option maxHeartbeats 0 in
theorem new_c {w : World} {mean : ExcName → Option Value} {mg mb : Str → Option Value} {T0 : Str} {tt : Tok} (hlen : T0.length ≤ 27) (hsz : T0.cps.size ≤ 1000) (hfit : fits T0.cps T0.cps.size 0 = true ∨ fits T0.cps T0.cps.size 1 = true) (hday : isDay (Txt.upper ⟨T0.cps.extract (T0.cps.size - 2) T0.cps.size⟩) = true)
   (gd : Option (List Code)) (cn : Str) (cs : Scope) (aa : Addr) (ccd : Value) (cl : List (Str × Addr)) (outer : List Env) (A₀ : Around) (base h₀ : Heap) (L : Addr) (m : Str → Option Value) (news : List (Addr × Obj)) (s : Shared) (Q E : Value → Shared → Prop)
   (B : Below A₀ base outer h₀) (F : Fr h₀ L s.heap m) (X : (Mine.hd.heap_39 w.params).In h₀) (N : News h₀ L s.heap news) (T : Top Mine.hd.view_39 LOOSE mean mg mb h₀) (hk : cs.kind = .function)
   (hret : ∀ sg rl wd x d t t3 pv r h' tk' a, a ≤ 1 → fits T0.cps T0.cps.size a = true → sg = ⟨T0.cps.extract 0 a⟩ → rl = ⟨T0.cps.extract a (T0.cps.size - 2)⟩ → wd = ⟨T0.cps.extract (T0.cps.size - 2) T0.cps.size⟩ → relOf sg rl r → Fr h₀ L h' m → News h₀ L h' ((x, vwObj d T0 t #[some pv, some r, some (.str wd t3)]) :: (d, dict0) :: news) → (∀ p ∈ news, p.1 ≠ x) → Q (.ref x) { s with heap := h', toks := tk' }) :
   wpAny (model PySem.Challenge.rw_fc0077_01.row.prog w) (ktrTop 400 200 gd cn cs L aa ccd cl outer) (call (.ref 336) [.ref 365, .str T0 tt]) Q E s := by
  refine wpAny_call ?_
  w_top off
  k_dflt (walk_at "my_enter")
  repeat' (walk_at "my_step")
  rename News h₀ L _ _ => kN'
  rename ∀ p ∈ (_ :: news), p.1 ≠ _ => hx'
  rename relOf _ _ _ => hrel'
  rename Fr h₀ L _ _ => kF'
  rename fits T0.cps T0.cps.size _ = true => hf'
  rename _ = (⟨T0.cps.extract 0 _⟩ : Str) => esg'
  rename _ = (⟨T0.cps.extract _ (T0.cps.size - 2)⟩ : Str) => erl'
  rename _ = (⟨T0.cps.extract (T0.cps.size - 2) T0.cps.size⟩ : Str) => ewd'
  exact hret _ _ _ _ _ _ _ _ _ _ _ _ (by assumption) hf' esg' erl' ewd' hrel' kF' (fun p hp => kN' p (mem_skip2 hp)) (fun p hp => hx' p (List.mem_cons_of_mem _ hp))
end Mine
end

/-! ## P7 -/
section
open PySem PySem.W PyProof.Rows PySem.Calls PySem.Spec
set_option maxRecDepth 100000
namespace Mine
/-- no exception stands behind this one -/
def NoCtx (e : Addr) (h : Heap) : Prop := ∃ o vs, h.get? e = some o ∧ o.data = .fields vs ∧ vs[2]? = some .none
/-- what changes no record's third field -/
def Slight (f : Obj → Obj) : Prop := ∀ o vs, o.data = .fields vs → vs[2]? = some .none → ∃ vs', (f o).data = .fields vs' ∧ vs'[2]? = some .none
def Tame {α : Type} : Sem α → Prop
  | .pure _ => True
  | .raise _ => True
  | .unsupported _ => True
  | .finish _ => True
  | .rule _ k => Tame (k ())
  | .at _ k => Tame (k ())
  | .load _ _ k => ∀ o, Tame (k o)
  | .update _ _ f k => Slight f ∧ Tame (k ())
  | .alloc _ k => ∀ a, Tame (k a)
  | .point _ k => Tame (k ())
  | .fresh k => ∀ t, Tame (k t)
  | .ask k => ∀ g, Tame (k g)
  | .handled _ k => ∀ v, Tame (k v)
  | .stack k => ∀ l, Tame (k l)
  | _ => False
theorem tame_bind' {α β : Type} {f : α → Sem β} (hf : ∀ a, Tame (f a)) {m : Sem α} : Tame m → Tame (m.bind f) := by
  induction m with
  | pure _ => exact fun _ => hf _
  | raise _ => exact fun _ => trivial
  | unsupported _ => exact fun _ => trivial
  | finish _ => exact fun _ => trivial
  | rule _ k ih => exact fun h => ih () h
  | «at» _ k ih => exact fun h => ih () h
  | load _ _ k ih => exact fun h o => ih o (h o)
  | update _ _ _ k ih => exact fun h => ⟨h.1, ih () h.2⟩
  | alloc _ k ih => exact fun h a => ih a (h a)
  | point _ k ih => exact fun h => ih () h
  | fresh k ih => exact fun h a => ih a (h a)
  | ask k ih => exact fun h a => ih a (h a)
  | handled _ k ih => exact fun h a => ih a (h a)
  | stack k ih => exact fun h a => ih a (h a)
  | _ => exact fun h => h.elim
theorem tame_bind {α β : Type} {m : Sem α} {f : α → Sem β} (h : Tame m) (hf : ∀ a, Tame (f a)) : Tame (m >>= f) := tame_bind' hf h
theorem noctx_update {e a : Addr} {h : Heap} {f : Obj → Obj} (hf : Slight f) (x : NoCtx e h) : NoCtx e (h.update a f) := by
  obtain ⟨o, vs, ho, hd, hv⟩ := x
  by_cases q : a = e
  · subst q
    obtain ⟨vs', hd', hv'⟩ := hf o vs hd hv
    exact ⟨f o, vs', Heap.get?_update_self f ho (Obj.isFreed_of_fields hd'), hd', hv'⟩
  · exact ⟨o, vs, (Heap.get?_update_other _ _ q).trans ho, hd, hv⟩
theorem tame_keeps {α : Type} {e : Addr} {M : Model} {Γ : PySem.Ctx} {Q : α → Pos → Shared → Prop} {E : Value → Pos → Shared → Prop} {t : Sem α} : ∀ {p : Pos} {s : Shared}, Tame t → NoCtx e s.heap → Sem.wp M Γ t Q E p s →
    Sem.wp M Γ t (fun a p' s' => NoCtx e s'.heap ∧ Q a p' s') (fun x p' s' => NoCtx e s'.heap ∧ E x p' s') p s := by
  induction t with
  | pure _ => exact fun _ hI h => ⟨hI, h⟩
  | raise _ => exact fun _ hI h => ⟨hI, h⟩
  | unsupported _ => exact fun _ _ h => h
  | finish _ => exact fun _ _ h => h
  | rule _ k ih => exact fun ht hI h => ih () ht hI h
  | «at» _ k ih => exact fun ht hI h => ih () ht hI h
  | load _ _ k ih => exact fun ht hI ⟨o, ho, h⟩ => ⟨o, ho, ih o (ht o) hI h⟩
  | update _ _ _ k ih => exact fun ht hI ⟨hs, h⟩ => ⟨hs, ih () ht.2 (noctx_update ht.1 hI) h⟩
  | alloc _ k ih => exact fun ht ⟨o, vs, ho, r⟩ h => ih _ (ht _) ⟨o, vs, Heap.get?_push_of_some _ ho, r⟩ h
  | point _ k ih => exact fun ht hI h => ih () ht hI h
  | fresh k ih => exact fun ht hI h => ih _ (ht _) hI h
  | ask k ih => exact fun ht hI h => ih _ (ht _) hI h
  | handled _ k ih => exact fun ht hI h => ih _ (ht _) hI h
  | stack k ih => exact fun ht hI h => ih _ (ht _) hI h
  | _ => exact fun ht => ht.elim
theorem wp_tame {α : Type} {e : Addr} {M : Model} {A : Around} {t : Sem α} {Q : α → Shared → Prop} {E : Value → Shared → Prop} {s : Shared} (ht : Tame t) (hI : NoCtx e s.heap)
    (h : wpAny M A t (fun a s' => NoCtx e s'.heap → Q a s') (fun x s' => NoCtx e s'.heap → E x s') s) : wpAny M A t Q E s := fun Γ p hΓ =>
  Sem.wp_mono M Γ t (fun _ _ _ z => z.2 z.1) (fun _ _ _ z => z.2 z.1) p s (tame_keeps ht hI (h Γ p hΓ))
theorem slight_slots {g : Obj → Array (Option Value)} : Slight (fun o => { o with slots := g o }) := fun _ vs hd hv => ⟨vs, hd, hv⟩
theorem slight_field {i : Nat} {v : Value} (hi : i ≠ 2) : Slight (Obj.mapFields (·.setIfInBounds i v)) := fun o vs hd hv =>
  ⟨_, Obj.data_mapFields hd _, by rw [Array.getElem?_setIfInBounds_ne hi]; exact hv⟩
theorem tame_fieldsOf {v : Value} : Tame (fieldsOf v) := by
  unfold fieldsOf
  split
  · refine tame_bind (fun o => trivial) (fun o => ?_)
    split <;> trivial
  · trivial
theorem tame_field {v : Value} {i : Nat} : Tame (field v i) := by
  unfold field
  refine tame_bind tame_fieldsOf (fun o => ?_)
  split <;> trivial
theorem tame_setField {v x : Value} {i : Nat} (hi : i ≠ 2) : Tame (setField v i x) := by
  unfold setField
  split
  · unfold updateField
    refine tame_bind (fun o => trivial) (fun o => ?_)
    split
    · split
      · exact ⟨slight_field hi, trivial⟩
      · trivial
    · trivial
  · trivial
theorem tame_setFlight {e : Value} {f : Option Addr} : Tame (setFlight e f) := by
  unfold setFlight
  refine tame_bind tame_field (fun tb => ?_)
  split
  · exact tame_setField (by decide)
  · trivial
theorem tame_readyFrames : ∀ (l : List Env), Tame (readyFrames l)
  | [] => trivial
  | env :: outer => by
    unfold readyFrames
    split
    · refine tame_bind (fun o => trivial) (fun o => ?_)
      split
      · trivial
      · refine tame_bind ?_ (fun b => ?_)
        · unfold behindIsImport
          split
          · trivial
          · split
            · trivial
            · exact tame_bind tame_field (fun _ => trivial)
        refine tame_bind ?_ (fun b => ?_)
        · unfold keptBack
          split
          · split
            · trivial
            · refine tame_bind ?_ (fun _ => trivial)
              unfold underTheClaimsCaller
              exact tame_bind (fun l => trivial) (fun _ => trivial)
          · trivial
        exact tame_bind ⟨slight_slots, trivial⟩ (fun _ => tame_readyFrames outer)
    · trivial
theorem tame_frameOf {env : Env} : Tame (PySem.frameOf env) := by
  unfold PySem.frameOf frameEnvs
  refine tame_bind (tame_bind (fun l => trivial) (fun _ => trivial)) (fun l => ?_)
  refine tame_bind ?_ (fun o => ?_)
  · unfold frameObject
    split
    · trivial
    · exact tame_bind (tame_readyFrames _) (fun _ => trivial)
  · split <;> trivial
theorem tame_newFields {ty : String} {vs : List Value} : Tame (newFields ty vs) := by
  unfold newFields newObj newObjAsIs
  dsimp only
  split
  · trivial
  · exact tame_bind (fun a => trivial) (fun a => trivial)
theorem tame_entryPlaceOf {f : Addr} {b : Bool} : Tame (entryPlaceOf f b) := by
  unfold entryPlaceOf
  refine tame_bind (fun l => trivial) (fun l => ?_)
  split <;> trivial
theorem tame_noteFrame {e : Value} {env : Env} : Tame (noteFrame e env) := by
  have key : ∀ (hd : Value) (d : Addr), Tame (do
      let a ← PySem.frameOf env
      let b ← entryPlaceOf d (hd != Value.none)
      let c ← EntryCells.newEntry hd a Value.none (rawInt ↑d) Value.none b
      setField e 1 c) := fun hd d =>
    tame_bind tame_frameOf (fun _ => tame_bind tame_entryPlaceOf (fun _ => tame_bind tame_newFields (fun _ => tame_setField (by decide))))
  unfold noteFrame
  split
  · refine tame_bind tame_field (fun hd => ?_)
    dsimp only
    split
    · refine tame_bind tame_field (fun x => ?_)
      split
      · trivial
      · exact tame_bind (tame_setField (by decide)) (fun _ => key _ _)
    · exact key _ _
  · trivial
theorem tame_leaving {e : Value} {env : Env} : Tame (leaving env e) := tame_bind tame_noteFrame (fun _ => tame_setFlight)
section
variable {M : Model} {A : Around} {E : Value → Shared → Prop} {s' : Shared} {base g h : Heap} {outer : List Env} {env : Env} {L e : Addr} {m : Str → Option Value} {Q : Unit → Shared → Prop} {news : List (Addr × Obj)}
theorem leave_newN {cls : String} (K : Below A base outer g) (hf : env.frame = some L) (hk : env.scope.kind = .function) (hx : Heap.NewExc h s'.heap e cls) (F : Fr g L h m) (N : News g L h news)
    (hQ : ∀ h', RaisedSN base g outer e (.type cls) news h' → g.UpToSlots h' → NoCtx e h' → Q () { s' with heap := h' }) :
    wpAny M (A.deeper env) (leaving env (.ref e)) Q E s' := by
  obtain ⟨ob, tp, he, hcls, hd⟩ := hx.there
  exact wp_tame tame_leaving ⟨ob, _, he, hd, rfl⟩ (leave_newE K hf hk hx F N fun h' R U I => hQ h' R U I)
end
end Mine
end

/-! ## N3 -/
section
open PySem PySem.W PyProof.Rows PySem.Calls PySem.Spec
set_option maxRecDepth 100000
namespace Mine
open RE PySem.NumText PySem.W.KIN
theorem fillN3 : (fun (_ : Params → Frag) (_ : OpenLaw) => True) Mine.hd.heap_39 PySem.Challenge.rw_fc0077_01 := by k_fill; trivial
local macro_rules | `(tactic| walk_at "sub_mem") => `(tactic| (intro p hp; (repeat (first | exact hp | refine List.Mem.tail _ ?_))))
local macro_rules | `(tactic| walk_at "my_step") => `(tactic| first | (k_unfold; (try dsimp only)) | (k_end; wrow_close) | walk1 | (dsimp only; walk1) | (leave1; walk_say "STEP leave1"; try dsimp only))
local macro_rules | `(tactic| walk_at "my_enter") => `(tactic| (refine' ks_code_super ?k1 ?k2 ?k3 ?k4 ?k5 ?kA ?kF ?kK ?k6 ?k7 ?k8 ?k9 ?kB ?_ ?c1 ?c2 ?c3 ?c4; (case kA => exact rfl); (case kF => exact rfl); (case kK => first | exact rfl | assumption); (case k1 => k_asm); (case k2 => k_asm); (case k3 => k_asm); (case k4 => k_asm); (case k5 => k_asm); (case k6 => k_is); (case k7 => k_is); (case k8 => ktr_room); (case k9 => first | exact BindsTo.of_eq rfl | exact binds_K (by k_in) rfl (by k_is) rfl rfl rfl); (case kB => exact locs rfl); (case c1 => decide); (case c2 => exact rfl); (case c3 => exact rfl); (case c4 => exact rfl); intro g' L' h' FG' F' N' B' X' T' l1; (try k_lt l1); (try dsimp only); (try k_lift B')))
local macro_rules | `(tactic| walk_at "wpAt") => `(tactic| (ks_step "exec Assign"; k_dflt (refine ks_wpAt_Assign_Name ?_)))
local macro_rules | `(tactic| walk_at "wpAt") => `(tactic| (ks_step "eval Call"; k_dflt (refine ks_wpAt_MethodCall ?_)))
local macro_rules | `(tactic| walk_at "my_wide") => `(tactic| (refine wp_wide ?_ ?_ ?_ ?_; (case _ => exact rfl); (case _ => decide); (case _ => decide)))
local macro_rules | `(tactic| walk_at "wpAt") => `(tactic| (ks_step "attributeBase Call"; k_here; k_dflt (refine sup_node (by rfl) (Nat.le_of_ble_eq_true rfl) (Nat.le_of_ble_eq_true rfl) (by k_asm) (by k_asm) (by k_asm) (by k_asm) (by k_is) (by rfl) (by rfl) (by k_is) (by rfl) (by first | rfl | decide +kernel) (by k_is) (by k_is) (by k_is) (by decide) (by rfl) (by rfl) (by rfl) (by rfl) (by decide +kernel) (by first | boot_by_name | rfl | kernel_rfl) ?_; intro so' h' tk' F' N')))
local macro_rules | `(tactic| walk_at "getMethod ref") => `(tactic| (k_here; k_dflt (refine gm_super_new (News.get (by k_asm) (by k_mem)) (by k_in) ?_)))
local macro_rules | `(tactic| walk_at "call builtin:str.__new__") => `(tactic| (k_here; k_dflt (refine' wp_wide (by rfl) (Nat.le_of_ble_eq_true rfl) (Nat.le_of_ble_eq_true rfl) (x_strnew ?k1 ?k2 ?k3 ?k4 ?_); (case k1 => omega); (case k2 => k_asm); (case k3 => k_in); (case k4 => k_asm); intro x' d' t' h' tk' F' N' hxn')))
local macro_rules | `(tactic| walk_at "getMethod ref") => `(tactic| (k_here; k_dflt (refine gm_pat (by k_in) ?_)))
local macro_rules | `(tactic| walk_at "getMethod ref") => `(tactic| (k_here; k_dflt (refine gm_groups (News.get (by k_asm) (by k_mem)) ?_)))
theorem fits_no {C : Array Nat} {n : Nat} {P : Nat → Addr → Addr → Value → Heap → Nat → Prop} (h0 : fits C n 0 = false) (h1 : fits C n 1 = false) : ∀ (a : Nat) (mo tp : Addr) (li : Value) (h' : Heap) (tk' : Nat), a ≤ 1 → fits C n a = true → P a mo tp li h' tk' := by
  intro a mo tp li h' tk' ha hf
  exfalso
  have : a = 0 ∨ a = 1 := by omega
  rcases this with rfl | rfl
  · rw [h0] at hf; cases hf
  · rw [h1] at hf; cases hf
local macro_rules | `(tactic| walk_at "call builtin:re.Pattern.fullmatch") => `(tactic| (k_here; k_dflt (refine' fm_call ?k1 ?k2 ?k3 ?k4 ?k5 ?ks ?_; (case k1 => assumption); (case k2 => k_asm); (case k3 => k_in); (case k4 => k_asm); (case k5 => k_mem); (case ks => intro a' mo' tp' li' h' tk' ha' hf'; exact (fits_no (P := fun _ _ _ _ _ _ => False) (by assumption) (by assumption) a' mo' tp' li' h' tk' ha' hf').elim); intro z0 z1 tk')))
local macro_rules | `(tactic| walk_at "call builtin:re.Match.groups") => `(tactic| (k_here; k_dflt (refine' groups_f (by rfl) (Nat.le_of_ble_eq_true rfl) (Nat.le_of_ble_eq_true rfl) ?k1 ?k2 ?k3 ?k4 ?k5 ?k6 ?k7 ?k8 ?_; (case k1 => assumption); (case k2 => assumption); (case k3 => k_asm); (case k4 => k_in); (case k5 => k_asm); (case k6 => k_mem); (case k7 => k_mem); (case k8 => k_mem); intro sg' rl' wd' tu' t1' t2' t3' h' tk' esg' erl' ewd' lsg' lrl' lwd' hsg' hrl' F' N')))
theorem day_isN3 {T0 wd : Str} (h : isDay (Txt.upper ⟨T0.cps.extract (T0.cps.size - 2) T0.cps.size⟩) = true) (e : wd = ⟨T0.cps.extract (T0.cps.size - 2) T0.cps.size⟩) : (!isDay (Txt.upper wd)) = false := by rw [e, h]; rfl
local macro_rules | `(tactic| walk_at "compareOp NotIn str ref") => `(tactic| (k_here; k_dflt (refine' notIn_days ?k1 ?k2 ?_; (case k1 => k_asm); (case k2 => k_asm)); rw [day_isN3 (by assumption) (by assumption)]))
local macro_rules | `(tactic| walk_at "compareOp NotIn str str") => `(tactic| (k_here; k_dflt (refine' sign_in ?k1 ?_; (case k1 => assumption))))
local macro_rules | `(tactic| walk_at "call type:int") => `(tactic| (k_here; k_dflt (refine' int_rl ?k1 ?k2 ?k3 ?_; (case k1 => assumption); (case k2 => omega); (case k3 => omega))))
local macro_rules | `(tactic| walk_at "setAttr ref") => `(tactic| (k_here; first | ((with_reducible show wpAny _ _ (setAttr _ (Str.ofString "weekday") _) _ _ _); k_dflt (refine' set_weekday ?k1 ?k2 ?k3 ?k4 ?k5 ?k6 ?k7 ?_; (case k1 => k_asm); (case k2 => k_asm); (case k3 => k_asm); (case k4 => k_mem); (case k5 => k_mem); (case k6 => assumption); (case k7 => walk_at "sub_mem"); intro h' F' N')) | ((with_reducible show wpAny _ _ (setAttr _ (Str.ofString "relative") _) _ _ _); k_dflt (refine' set_relative ?k1 ?k2 ?k3 ?k4 ?k5 ?k6 ?k7 ?_; (case k1 => k_asm); (case k2 => k_asm); (case k3 => k_asm); (case k4 => k_mem); (case k5 => k_mem); (case k6 => assumption); (case k7 => walk_at "sub_mem"); intro h' F' N')) | ((with_reducible show wpAny _ _ (setAttr _ (Str.ofString "params") _) _ _ _); k_dflt (refine' set_params ?k1 ?k2 ?k3 ?k4 ?k5 ?k6 ?k7 ?_; (case k1 => k_asm); (case k2 => k_asm); (case k3 => k_asm); (case k4 => k_mem); (case k5 => k_mem); (case k6 => assumption); (case k7 => walk_at "sub_mem"); intro h' F' N'))))
local macro_rules | `(tactic| walk_at "truthy str") => `(tactic| (k_here; k_dflt (refine' truthy_ne ?k1 ?k2 ?_; (case k1 => omega); (case k2 => omega))))
local macro_rules | `(tactic| walk_at "execs cons") => `(tactic| (k_here; k_dflt (refine' rel_cut ?k1 ?k2 ?k3 ?k4 ?_ ?_; (case k1 => k_asm); (case k2 => k_asm); (case k3 => assumption); (case k4 => assumption)); rotate_left; intro r' h' tk' hr' F' N'; rotate_right))
local macro_rules | `(tactic| walk_at "getAttr ref") => `(tactic| (k_here; first | ((with_reducible show wpAny _ _ (getAttr _ (Str.ofString "weekday") _) _ _ _); k_dflt (refine' get_weekday ?k1 ?k2 ?k3 ?k4 ?k5 ?k6 ?_; (case k1 => k_asm); (case k2 => k_asm); (case k3 => k_asm); (case k4 => k_mem); (case k5 => k_mem); (case k6 => first | exact rfl | exact relOf_handed (by assumption)))) | ((with_reducible show wpAny _ _ (getAttr _ (Str.ofString "relative") _) _ _ _); k_dflt (refine' get_relative ?k1 ?k2 ?k3 ?k4 ?k5 ?k6 ?_; (case k1 => k_asm); (case k2 => k_asm); (case k3 => k_asm); (case k4 => k_mem); (case k5 => k_mem); (case k6 => first | exact rfl | exact relOf_handed (by assumption))))))
local macro_rules | `(tactic| walk_at "RelEnd") => `(tactic| (first | (exfalso; omega) | (refine' rel_end ?k1 ?k2 ?k3; (case k1 => k_asm); (case k2 => k_asm); (case k3 => first | exact relA (by omega) | exact relB (by omega) | exact relC (by omega) (by assumption) | exact relD (by omega) (by assumption)))))
local macro_rules | `(tactic| walk_at "truthy str") => `(tactic| (k_here; k_dflt (refine' truthy_z ?k1 ?_; (case k1 => omega))))
local macro_rules | `(tactic| walk_at "call ref") => `(tactic| (k_here; (with_reducible show wpAny _ _ (call (Value.ref 296) _) _ _ _); k_dflt (refine' wp_deep (Nat.le_of_ble_eq_true rfl) (Nat.le_of_ble_eq_true rfl) (params_c ?k1 ?k2 ?k3 ?k4 ?k5 ?k6 ?_); (case k1 => k_asm); (case k2 => k_asm); (case k3 => k_asm); (case k4 => k_asm); (case k5 => k_asm); (case k6 => exact rfl); intro p' h' tk' F' N')))
theorem mem_skip2N3 {α : Type} {p a b c : α} {l : List α} (h : p ∈ a :: b :: l) : p ∈ a :: b :: c :: l := by
  rcases List.mem_cons.mp h with rfl | h
  · exact List.mem_cons_self ..
  · rcases List.mem_cons.mp h with rfl | h
    · exact List.mem_cons_of_mem _ (List.mem_cons_self ..)
    · exact List.mem_cons_of_mem _ (List.mem_cons_of_mem _ (List.mem_cons_of_mem _ h))
local macro_rules | `(tactic| walk_at "formatField ref") => `(tactic| (k_here; k_dflt (refine' format_x (by rfl) (Nat.le_of_ble_eq_true rfl) (Nat.le_of_ble_eq_true rfl) ?k1 ?k2 ?k3 ?k4 ?k5 ?k6 ?_; (case k2 => k_asm); (case k3 => k_asm); (case k4 => k_asm); (case k5 => k_mem); (case k6 => k_mem); (case k1 => omega); intro t' tk')))
local macro_rules | `(tactic| walk_at "exec Raise some none") => `(tactic| (k_here; k_dflt (refine Raise_new rfl ?_)))
set_option maxHeartbeats 0 in
theorem new_none {w : World} {mean : ExcName → Option Value} {mg mb : Str → Option Value} {T0 : Str} {tt : Tok} (hlen : T0.length ≤ 27) (hsz : T0.cps.size ≤ 1000) (hfit0 : fits T0.cps T0.cps.size 0 = false) (hfit1 : fits T0.cps T0.cps.size 1 = false)
   (gd : Option (List Code)) (cn : Str) (cs : Scope) (aa : Addr) (ccd : Value) (cl : List (Str × Addr)) (outer : List Env) (A₀ : Around) (base h₀ : Heap) (L : Addr) (m : Str → Option Value) (news : List (Addr × Obj)) (s : Shared) (Q E : Value → Shared → Prop)
   (B : Below A₀ base outer h₀) (F : Fr h₀ L s.heap m) (X : (Mine.hd.heap_39 w.params).In h₀) (N : News h₀ L s.heap news) (T : Top Mine.hd.view_39 LOOSE mean mg mb h₀) (hk : cs.kind = .function)
   (hE : ∀ g e h' tk', Fr h₀ L g m → RaisedSN base g (envX cn cs L aa ccd cl :: outer) e (.type "ValueError") news h' → g.UpToSlots h' → NoCtx e h' → E (.ref e) { s with heap := h', toks := tk' }) :
   wpAny (model PySem.Challenge.rw_fc0077_01.row.prog w) (ktrTop 400 200 gd cn cs L aa ccd cl outer) (call (.ref 336) [.ref 365, .str T0 tt]) Q E s := by
  refine wpAny_call ?_
  w_top off
  k_dflt (walk_at "my_enter")
  repeat' (walk_at "my_step")
  rename Fr h₀ L _ m => FG1
  rename Fr _ _ _ _ => FL1
  rename News _ _ _ _ => NL1
  rename Below _ _ (envX cn cs L aa ccd cl :: outer) _ => BL1
  rename Heap.NewExc _ _ _ _ => hx1
  refine leave_newN BL1 rfl rfl hx1 FL1 NL1 (fun h'' R U I => ?_)
  exact hE _ _ _ _ FG1 (raised_sub R (fun q hq => List.mem_append_right [_, _, _] hq)) U I
end Mine
end

/-! ## N4 -/
section
open PySem PySem.W PyProof.Rows PySem.Calls PySem.Spec
set_option maxRecDepth 100000
namespace Mine
open RE PySem.NumText PySem.W.KIN
theorem fillN4 : (fun (_ : Params → Frag) (_ : OpenLaw) => True) Mine.hd.heap_39 PySem.Challenge.rw_fc0077_01 := by k_fill; trivial
-- lines that say nothing: the walker keeps a table of its lines by their number, and this part must not meet the table of another
local macro_rules | `(tactic| walk_at "no line") => `(tactic| skip)
local macro_rules | `(tactic| walk_at "sub_mem") => `(tactic| (intro p hp; (repeat (first | exact hp | refine List.Mem.tail _ ?_))))
local macro_rules | `(tactic| walk_at "my_step") => `(tactic| first | (k_unfold; (try dsimp only)) | (k_end; wrow_close) | walk1 | (dsimp only; walk1) | (leave1; walk_say "STEP leave1"; try dsimp only))
local macro_rules | `(tactic| walk_at "my_enter") => `(tactic| (refine' ks_code_super ?k1 ?k2 ?k3 ?k4 ?k5 ?kA ?kF ?kK ?k6 ?k7 ?k8 ?k9 ?kB ?_ ?c1 ?c2 ?c3 ?c4; (case kA => exact rfl); (case kF => exact rfl); (case kK => first | exact rfl | assumption); (case k1 => k_asm); (case k2 => k_asm); (case k3 => k_asm); (case k4 => k_asm); (case k5 => k_asm); (case k6 => k_is); (case k7 => k_is); (case k8 => ktr_room); (case k9 => first | exact BindsTo.of_eq rfl | exact binds_K (by k_in) rfl (by k_is) rfl rfl rfl); (case kB => exact locs rfl); (case c1 => decide); (case c2 => exact rfl); (case c3 => exact rfl); (case c4 => exact rfl); intro g' L' h' FG' F' N' B' X' T' l1; (try k_lt l1); (try dsimp only); (try k_lift B')))
local macro_rules | `(tactic| walk_at "wpAt") => `(tactic| (ks_step "exec Assign"; k_dflt (refine ks_wpAt_Assign_Name ?_)))
local macro_rules | `(tactic| walk_at "wpAt") => `(tactic| (ks_step "eval Call"; k_dflt (refine ks_wpAt_MethodCall ?_)))
local macro_rules | `(tactic| walk_at "my_wide") => `(tactic| (refine wp_wide ?_ ?_ ?_ ?_; (case _ => exact rfl); (case _ => decide); (case _ => decide)))
local macro_rules | `(tactic| walk_at "wpAt") => `(tactic| (ks_step "attributeBase Call"; k_here; k_dflt (refine sup_node (by rfl) (Nat.le_of_ble_eq_true rfl) (Nat.le_of_ble_eq_true rfl) (by k_asm) (by k_asm) (by k_asm) (by k_asm) (by k_is) (by rfl) (by rfl) (by k_is) (by rfl) (by first | rfl | decide +kernel) (by k_is) (by k_is) (by k_is) (by decide) (by rfl) (by rfl) (by rfl) (by rfl) (by decide +kernel) (by first | boot_by_name | rfl | kernel_rfl) ?_; intro so' h' tk' F' N')))
local macro_rules | `(tactic| walk_at "getMethod ref") => `(tactic| (k_here; k_dflt (refine gm_super_new (News.get (by k_asm) (by k_mem)) (by k_in) ?_)))
local macro_rules | `(tactic| walk_at "call builtin:str.__new__") => `(tactic| (k_here; k_dflt (refine' wp_wide (by rfl) (Nat.le_of_ble_eq_true rfl) (Nat.le_of_ble_eq_true rfl) (x_strnew ?k1 ?k2 ?k3 ?k4 ?_); (case k1 => omega); (case k2 => k_asm); (case k3 => k_in); (case k4 => k_asm); intro x' d' t' h' tk' F' N' hxn')))
local macro_rules | `(tactic| walk_at "getMethod ref") => `(tactic| (k_here; k_dflt (refine gm_pat (by k_in) ?_)))
local macro_rules | `(tactic| walk_at "getMethod ref") => `(tactic| (k_here; k_dflt (refine gm_groups (News.get (by k_asm) (by k_mem)) ?_)))
local macro_rules | `(tactic| walk_at "call builtin:re.Pattern.fullmatch") => `(tactic| (k_here; k_dflt (refine' fm_call ?k1 ?k2 ?k3 ?k4 ?k5 ?_ ?k7; (case k1 => assumption); (case k2 => k_asm); (case k3 => k_in); (case k4 => k_asm); (case k5 => k_mem); (case k7 => (intro z0 z1; rename _ ∨ _ => hor; rcases hor with hor | hor; exact absurd (hor.symm.trans z0) (by decide); exact absurd (hor.symm.trans z1) (by decide))); intro a' mo' tp' li' h' tk' ha' hf' F' N')))
local macro_rules | `(tactic| walk_at "call builtin:re.Match.groups") => `(tactic| (k_here; k_dflt (refine' groups_f (by rfl) (Nat.le_of_ble_eq_true rfl) (Nat.le_of_ble_eq_true rfl) ?k1 ?k2 ?k3 ?k4 ?k5 ?k6 ?k7 ?k8 ?_; (case k1 => assumption); (case k2 => assumption); (case k3 => k_asm); (case k4 => k_in); (case k5 => k_asm); (case k6 => k_mem); (case k7 => k_mem); (case k8 => k_mem); intro sg' rl' wd' tu' t1' t2' t3' h' tk' esg' erl' ewd' lsg' lrl' lwd' hsg' hrl' F' N')))
theorem day_no {T0 wd : Str} (h : isDay (Txt.upper ⟨T0.cps.extract (T0.cps.size - 2) T0.cps.size⟩) = false) (e : wd = ⟨T0.cps.extract (T0.cps.size - 2) T0.cps.size⟩) : (!isDay (Txt.upper wd)) = true := by rw [e, h]; rfl
theorem day_isN4 {T0 wd : Str} (h : isDay (Txt.upper ⟨T0.cps.extract (T0.cps.size - 2) T0.cps.size⟩) = true) (e : wd = ⟨T0.cps.extract (T0.cps.size - 2) T0.cps.size⟩) : (!isDay (Txt.upper wd)) = false := by rw [e, h]; rfl
local macro_rules | `(tactic| walk_at "compareOp NotIn str ref") => `(tactic| (k_here; k_dflt (refine' notIn_days ?k1 ?k2 ?_; (case k1 => k_asm); (case k2 => k_asm)); rw [day_no (by assumption) (by assumption)]))
local macro_rules | `(tactic| walk_at "compareOp NotIn str str") => `(tactic| (k_here; k_dflt (refine' sign_in ?k1 ?_; (case k1 => assumption))))
local macro_rules | `(tactic| walk_at "call type:int") => `(tactic| (k_here; k_dflt (refine' int_rl ?k1 ?k2 ?k3 ?_; (case k1 => assumption); (case k2 => omega); (case k3 => omega))))
local macro_rules | `(tactic| walk_at "setAttr ref") => `(tactic| (k_here; first | ((with_reducible show wpAny _ _ (setAttr _ (Str.ofString "weekday") _) _ _ _); k_dflt (refine' set_weekday ?k1 ?k2 ?k3 ?k4 ?k5 ?k6 ?k7 ?_; (case k1 => k_asm); (case k2 => k_asm); (case k3 => k_asm); (case k4 => k_mem); (case k5 => k_mem); (case k6 => assumption); (case k7 => walk_at "sub_mem"); intro h' F' N')) | ((with_reducible show wpAny _ _ (setAttr _ (Str.ofString "relative") _) _ _ _); k_dflt (refine' set_relative ?k1 ?k2 ?k3 ?k4 ?k5 ?k6 ?k7 ?_; (case k1 => k_asm); (case k2 => k_asm); (case k3 => k_asm); (case k4 => k_mem); (case k5 => k_mem); (case k6 => assumption); (case k7 => walk_at "sub_mem"); intro h' F' N')) | ((with_reducible show wpAny _ _ (setAttr _ (Str.ofString "params") _) _ _ _); k_dflt (refine' set_params ?k1 ?k2 ?k3 ?k4 ?k5 ?k6 ?k7 ?_; (case k1 => k_asm); (case k2 => k_asm); (case k3 => k_asm); (case k4 => k_mem); (case k5 => k_mem); (case k6 => assumption); (case k7 => walk_at "sub_mem"); intro h' F' N'))))
local macro_rules | `(tactic| walk_at "truthy str") => `(tactic| (k_here; k_dflt (refine' truthy_ne ?k1 ?k2 ?_; (case k1 => omega); (case k2 => omega))))
local macro_rules | `(tactic| walk_at "execs cons") => `(tactic| (k_here; k_dflt (refine' rel_cut ?k1 ?k2 ?k3 ?k4 ?_ ?_; (case k1 => k_asm); (case k2 => k_asm); (case k3 => assumption); (case k4 => assumption)); rotate_left; intro r' h' tk' hr' F' N'; rotate_right))
local macro_rules | `(tactic| walk_at "getAttr ref") => `(tactic| (k_here; first | ((with_reducible show wpAny _ _ (getAttr _ (Str.ofString "weekday") _) _ _ _); k_dflt (refine' get_weekday ?k1 ?k2 ?k3 ?k4 ?k5 ?k6 ?_; (case k1 => k_asm); (case k2 => k_asm); (case k3 => k_asm); (case k4 => k_mem); (case k5 => k_mem); (case k6 => first | exact rfl | exact relOf_handed (by assumption)))) | ((with_reducible show wpAny _ _ (getAttr _ (Str.ofString "relative") _) _ _ _); k_dflt (refine' get_relative ?k1 ?k2 ?k3 ?k4 ?k5 ?k6 ?_; (case k1 => k_asm); (case k2 => k_asm); (case k3 => k_asm); (case k4 => k_mem); (case k5 => k_mem); (case k6 => first | exact rfl | exact relOf_handed (by assumption))))))
local macro_rules | `(tactic| walk_at "RelEnd") => `(tactic| (first | (exfalso; omega) | (refine' rel_end ?k1 ?k2 ?k3; (case k1 => k_asm); (case k2 => k_asm); (case k3 => first | exact relA (by omega) | exact relB (by omega) | exact relC (by omega) (by assumption) | exact relD (by omega) (by assumption)))))
local macro_rules | `(tactic| walk_at "truthy str") => `(tactic| (k_here; k_dflt (refine' truthy_z ?k1 ?_; (case k1 => omega))))
local macro_rules | `(tactic| walk_at "call ref") => `(tactic| (k_here; (with_reducible show wpAny _ _ (call (Value.ref 296) _) _ _ _); k_dflt (refine' wp_deep (Nat.le_of_ble_eq_true rfl) (Nat.le_of_ble_eq_true rfl) (params_c ?k1 ?k2 ?k3 ?k4 ?k5 ?k6 ?_); (case k1 => k_asm); (case k2 => k_asm); (case k3 => k_asm); (case k4 => k_asm); (case k5 => k_asm); (case k6 => exact rfl); intro p' h' tk' F' N')))
theorem mem_skip2N4 {α : Type} {p a b c : α} {l : List α} (h : p ∈ a :: b :: l) : p ∈ a :: b :: c :: l := by
  rcases List.mem_cons.mp h with rfl | h
  · exact List.mem_cons_self ..
  · rcases List.mem_cons.mp h with rfl | h
    · exact List.mem_cons_of_mem _ (List.mem_cons_self ..)
    · exact List.mem_cons_of_mem _ (List.mem_cons_of_mem _ (List.mem_cons_of_mem _ h))
local macro_rules | `(tactic| walk_at "formatField ref") => `(tactic| (k_here; k_dflt (refine' format_x (by rfl) (Nat.le_of_ble_eq_true rfl) (Nat.le_of_ble_eq_true rfl) ?k1 ?k2 ?k3 ?k4 ?k5 ?k6 ?_; (case k2 => k_asm); (case k3 => k_asm); (case k4 => k_asm); (case k5 => k_mem); (case k6 => k_mem); (case k1 => omega); intro t' tk')))
local macro_rules | `(tactic| walk_at "exec Raise some none") => `(tactic| (k_here; k_dflt (refine Raise_new rfl ?_)))
set_option maxHeartbeats 0 in
theorem new_badday {w : World} {mean : ExcName → Option Value} {mg mb : Str → Option Value} {T0 : Str} {tt : Tok} (hlen : T0.length ≤ 27) (hsz : T0.cps.size ≤ 1000) (hfit : fits T0.cps T0.cps.size 0 = true ∨ fits T0.cps T0.cps.size 1 = true) (hday : isDay (Txt.upper ⟨T0.cps.extract (T0.cps.size - 2) T0.cps.size⟩) = false)
   (gd : Option (List Code)) (cn : Str) (cs : Scope) (aa : Addr) (ccd : Value) (cl : List (Str × Addr)) (outer : List Env) (A₀ : Around) (base h₀ : Heap) (L : Addr) (m : Str → Option Value) (news : List (Addr × Obj)) (s : Shared) (Q E : Value → Shared → Prop)
   (B : Below A₀ base outer h₀) (F : Fr h₀ L s.heap m) (X : (Mine.hd.heap_39 w.params).In h₀) (N : News h₀ L s.heap news) (T : Top Mine.hd.view_39 LOOSE mean mg mb h₀) (hk : cs.kind = .function)
   (hE : ∀ g e h' tk', Fr h₀ L g m → RaisedSN base g (envX cn cs L aa ccd cl :: outer) e (.type "ValueError") news h' → g.UpToSlots h' → NoCtx e h' → E (.ref e) { s with heap := h', toks := tk' }) :
   wpAny (model PySem.Challenge.rw_fc0077_01.row.prog w) (ktrTop 400 200 gd cn cs L aa ccd cl outer) (call (.ref 336) [.ref 365, .str T0 tt]) Q E s := by
  refine wpAny_call ?_
  w_top off
  k_dflt (walk_at "my_enter")
  repeat' (walk_at "my_step")
  rename Fr h₀ L _ m => FG1
  rename Fr _ _ _ _ => FL1
  rename News _ _ _ _ => NL1
  rename Below _ _ (envX cn cs L aa ccd cl :: outer) _ => BL1
  rename Heap.NewExc _ _ _ _ => hx1
  refine leave_newN BL1 rfl rfl hx1 FL1 NL1 (fun h'' R U I => ?_)
  exact hE _ _ _ _ FG1 (raised_sub R (fun q hq => List.mem_append_right [_, _, _, _, _, _] hq)) U I
end Mine
end

/-! ## P6 -/
section
open PySem PySem.W PyProof.Rows PySem.Calls PySem.Spec
set_option maxRecDepth 100000
namespace Mine
open RE
/-- the text is one that the class takes -/
def good (T : Str) : Prop := (fits T.cps T.cps.size 0 = true ∨ fits T.cps T.cps.size 1 = true) ∧ isDay (Txt.upper ⟨T.cps.extract (T.cps.size - 2) T.cps.size⟩) = true
section
variable {w : World} {mean : ExcName → Option Value} {mg mb : Str → Option Value}
theorem vw_bad {T0 : Str} {tt : Tok} (hlen : T0.length ≤ 27) (hsz : T0.cps.size ≤ 1000) (hbad : ¬ good T0)
   {gd : Option (List Code)} {cn : Str} {cs : Scope} {aa : Addr} {ccd : Value} {cl : List (Str × Addr)} {outer : List Env} {A₀ : Around} {base h₀ : Heap} {L : Addr} {m : Str → Option Value} {news : List (Addr × Obj)} {s : Shared} {Q E : Value → Shared → Prop}
   (B : Below A₀ base outer h₀) (F : Fr h₀ L s.heap m) (X : (Mine.hd.heap_39 w.params).In h₀) (N : News h₀ L s.heap news) (T : Top Mine.hd.view_39 LOOSE mean mg mb h₀) (hk : cs.kind = .function)
   (hE : ∀ g e h' tk', Fr h₀ L g m → RaisedSN base g (envX cn cs L aa ccd cl :: outer) e (.type "ValueError") news h' → g.UpToSlots h' → NoCtx e h' → E (.ref e) { s with heap := h', toks := tk' }) :
   wpAny (model PySem.Challenge.rw_fc0077_01.row.prog w) (ktrTop 380 180 gd cn cs L aa ccd cl outer) (call (.ref 365) [.str T0 tt]) Q E s := by
  refine vw_call (by omega) F X fun tk => ?_
  refine wp_deep (D := 400) (U := 200) (by decide) (by decide) ?_
  by_cases h : fits T0.cps T0.cps.size 0 = true ∨ fits T0.cps T0.cps.size 1 = true
  · refine new_badday hlen hsz h ?_ gd cn cs aa ccd cl outer A₀ base h₀ L m news _ _ _ B F X N T hk (fun g e h' tk' a b c i => hE g e h' tk' a b c i)
    cases q : isDay (Txt.upper ⟨T0.cps.extract (T0.cps.size - 2) T0.cps.size⟩) with
    | false => rfl
    | true => exact absurd ⟨h, q⟩ hbad
  · refine new_none hlen hsz ?_ ?_ gd cn cs aa ccd cl outer A₀ base h₀ L m news _ _ _ B F X N T hk (fun g e h' tk' a b c i => hE g e h' tk' a b c i)
    · cases q : fits T0.cps T0.cps.size 0 with
      | false => rfl
      | true => exact absurd (.inl q) h
    · cases q : fits T0.cps T0.cps.size 1 with
      | false => rfl
      | true => exact absurd (.inr q) h
theorem vw_ok {T0 : Str} {tt : Tok} (hlen : T0.length ≤ 27) (hsz : T0.cps.size ≤ 1000) (hg : good T0)
   {gd : Option (List Code)} {cn : Str} {cs : Scope} {aa : Addr} {ccd : Value} {cl : List (Str × Addr)} {outer : List Env} {A₀ : Around} {base h₀ : Heap} {L : Addr} {m : Str → Option Value} {news : List (Addr × Obj)} {s : Shared} {Q E : Value → Shared → Prop}
   (B : Below A₀ base outer h₀) (F : Fr h₀ L s.heap m) (X : (Mine.hd.heap_39 w.params).In h₀) (N : News h₀ L s.heap news) (T : Top Mine.hd.view_39 LOOSE mean mg mb h₀) (hk : cs.kind = .function)
   (hret : ∀ sg rl wd x d t t3 pv r h' tk' a, a ≤ 1 → fits T0.cps T0.cps.size a = true → sg = ⟨T0.cps.extract 0 a⟩ → rl = ⟨T0.cps.extract a (T0.cps.size - 2)⟩ → wd = ⟨T0.cps.extract (T0.cps.size - 2) T0.cps.size⟩ → relOf sg rl r → Fr h₀ L h' m → News h₀ L h' ((x, vwObj d T0 t #[some pv, some r, some (.str wd t3)]) :: (d, dict0) :: news) → (∀ p ∈ news, p.1 ≠ x) → Q (.ref x) { s with heap := h', toks := tk' }) :
   wpAny (model PySem.Challenge.rw_fc0077_01.row.prog w) (ktrTop 380 180 gd cn cs L aa ccd cl outer) (call (.ref 365) [.str T0 tt]) Q E s := by
  refine vw_call (by omega) F X fun tk => ?_
  refine wp_deep (D := 400) (U := 200) (by decide) (by decide) ?_
  refine new_c hlen hsz hg.1 hg.2 gd cn cs aa ccd cl outer A₀ base h₀ L m news _ _ _ B F X N T hk ?_
  intro sg rl wd x d t t3 pv r h' tk' a h1 h2 h3 h4 h5 h6 F' N' hx
  exact ⟨x, d, t, _, _, rfl, X.keeps F'.keep, N', List.Mem.head _, List.Mem.tail _ (List.Mem.head _), fun tk'' => hret sg rl wd x d t t3 pv r h' tk'' a h1 h2 h3 h4 h5 h6 F' N' hx⟩
end
end Mine
end

/-! ## P8 -/
section
open PySem PySem.W PyProof.Rows PySem.Calls PySem.Spec PyProof.V
set_option maxRecDepth 100000
namespace Mine
section
variable {prog : Program} {w : World} {A₀ : Around} {E : Value → Shared → Prop} {s' : Shared} {base g g₀ G : Heap} {outer : List Env} {L a e : Addr} {m : Str → Option Value} {name : Str} {scope : Scope} {cd : Value}
  {n : Str} {b₀ : Stmt} {suite : List Stmt} {pos np : Pos} {rest : List ExceptHandler} {Q : Flow → Shared → Prop} {news : List (Addr × Obj)} {KF : Frag}
  {p : Program} {loose : List Str} {mean : ExcName → Option Value} {mg mb : Str → Option Value} {x : Str} {X T' : String}
/-- caught by name: the exception stays in the ledger, and no exception stands behind it -/
theorem caught_ctx (R : RaisedSN base G (envOf name scope L a cd :: outer) e (.type X) news s'.heap) (I : NoCtx e s'.heap) (F : Fr g L G m) (K : Below A₀ base outer g) (hsm : G.UpToSlots s'.heap) (XB : KF.In base) (TB : Top p loose mean mg mb base)
    (D : KtsDicts (outer.filterMap (·.frame)) g) (T0 : KtsTurn (outer.filterMap (·.frame)) g₀ g)
    (ex : nsIn KF mainGlobals x = some none) (hv : bootBuiltins x = some (.type T')) (hn' : x ≠ "__name__")
    (hexc : isSubtype (.type T') (.type "BaseException") = pure true) (hnt : isSubtype (.type ((Manifest.find? T').elim "type" fun y => y.metatype)) (.type "tuple") = pure false) (hsub : isSubtype (.type X) (.type T') = pure true)
    (k : ∀ h' g' oe ws tk, oe.cls = .type X → oe.data = .fields ws → ws[2]? = some .none → KtsTurn (outer.filterMap (·.frame)) g g' → KtsTurn (outer.filterMap (·.frame)) g₀ g' → Fr g' L h' (fun y => if y = n then some (.ref e) else m y) → News g' L h' ((e, oe) :: news) → Below A₀ base outer g' → KF.In g' → Top p loose mean mg mb g' → KtsDicts (outer.filterMap (·.frame)) g' →
      wpAny (model prog w) ((A₀.deeper (envOf name scope L a cd)).mark (some (.ref e))) (execs (b₀ :: suite) (envOf name scope L a cd))
        (fun f s₄ => wpAny (model prog w) (A₀.deeper (envOf name scope L a cd)) (do bindName (envOf name scope L a cd) n .none; unbindBehindTheSuite (envOf name scope L a cd) n pos) (fun _ s₅ => Q f s₅) E s₄)
        (AsSuiteRaised (model prog w) ((A₀.deeper (envOf name scope L a cd)).mark (some (.ref e))) (envOf name scope L a cd) n pos (notedBy (model prog w) ((A₀.deeper (envOf name scope L a cd)).mark (some (.ref e))) (envOf name scope L a cd) (cameBackBy (model prog w) (A₀.deeper (envOf name scope L a cd)) (envOf name scope L a cd) E)))
        { s' with heap := h', toks := tk })
    (hk : scope.kind = .function) (hlo : (envOf name scope L a cd).kindOf n = some .local) (hx : (envOf name scope L a cd).kindOf x = some .globalImplicit) (hd : (x == ("__debug__" : Str)) = false) :
    wpAny (model prog w) (A₀.deeper (envOf name scope L a cd)) (noteFrame (.ref e) (envOf name scope L a cd))
      (fun _ s₂ => wpAny (model prog w) (A₀.deeper (envOf name scope L a cd)) (setFlight (.ref e) none) (fun _ s₃ =>
        wpAny (model prog w) (A₀.deeper (envOf name scope L a cd)) (handleBy (.ref e) (envOf name scope L a cd) (.ExceptHandler (some (.Name x np)) (some n) (b₀ :: suite) pos :: rest)) Q E s₃) E s₂) E s' := by
  obtain ⟨B, a0, hB, hBG, hl, hfl⟩ := R
  have hL : B.get? L = none := by
    obtain ⟨_, ⟨L', _, hf, hn', _⟩, _⟩ := hfl.2.2.1
    obtain rfl : L = L' := Option.some.inj hf
    exact hn'
  refine wp_tame (e := e) tame_noteFrame I ?_
  refine wpAny_looks_onW (Around.frames_deeper K.stack) rfl hfl fun h₄ hheld₄ hsm₄ I₄ => ?_
  refine wp_tame (e := e) (s := { s' with heap := h₄ }) tame_setFlight I₄ ?_
  refine wpAny_landsW hheld₄ fun h₅ hheld hsm₅' I₅ => ?_
  have hsm₅ := hsm₄.trans hsm₅'
  obtain ⟨g₅, T₅, F₅, K₅⟩ := kts_ground K F hBG hheld.1 (hsm.trans hsm₅)
  have X₅ : KF.In g₅ := XB.keeps K₅.stays
  have P₅ : TopRead p loose mg mb g₅ := topRead_of (TB.keeps K₅.stays)
  obtain ⟨ob, hob, hobc⟩ := hheld.there
  refine wpAny_handleBy_builtin_as (X := X) (T := T') (b := true) hexc hnt hsub (name_B F₅ X₅ P₅ ex hv hn' ⟨rfl, ⟨ob, hob, hobc⟩, ?_⟩ hk hx hd)
  refine wp_tame (e := e) (s := { s' with heap := h₅ }) tame_setFlight I₅ ?_
  refine lands_againW hheld fun h₆ hfl₆ hsm₆ I₆ => ?_
  obtain ⟨g₆, T₆, F₆, K₆⟩ := kts_ground K F hBG hfl₆.1 ((hsm.trans hsm₅).trans hsm₆)
  obtain ⟨oe, ws, hoe, hoed, hw2⟩ := I₆
  have ne₆ : g₆.get? e = none := T₆.none_ _ (kts_fresh F hBG hfl₆.2.1 fun o ho hm => by
    obtain ⟨_, o', ho', hd⟩ := K.frames.mem hm
    rw [ho] at ho'
    cases ho'
    obtain ⟨sl, hs⟩ := ((hsm.trans hsm₅).trans hsm₆) _ _ (F.keep _ _ ho) hd
    rw [hoe] at hs
    cases hs
    exact hd _ hoed)
  have N₆ := News.more F₆ News.nil hoe (fun es n q => by rw [hoed] at q; cases q) ne₆
  have Nl : News g₆ L h₆ news := fun q hq => ⟨hfl₆.1 _ _ (hl q hq).1, (fun z => by have := (hl q hq).1; rw [z, hL] at this; cases this), T₆.none_ _ (kts_none F.keep (hl q hq).2.1)⟩
  have X₆ : KF.In g₆ := XB.keeps K₆.stays
  have P₆ : Top p loose mean mg mb g₆ := TB.keeps K₆.stays
  have D₆ : KtsDicts (outer.filterMap (·.frame)) g₆ := D.turn T₆
  refine stN F₆ (news := _ ++ news) (fun q hq => (List.mem_append.mp hq).elim (N₆ q) (Nl q)) (fun h₇ F₇ N₇ => ?_) hk hlo
  have hoc : oe.cls = .type X := by
    obtain ⟨ob₆, hob₆, hoc₆⟩ := hfl₆.there
    rw [hoe] at hob₆
    cases hob₆
    exact hoc₆
  exact k h₇ g₆ oe ws _ hoc hoed hw2 T₆ (T0.trans T₆) F₇ N₇ K₆ X₆ P₆ D₆
end
end Mine
end

/-! ## P9 -/
section
open PySem PySem.W PyProof.Rows PySem.Calls PySem.Spec PyProof.V
set_option maxRecDepth 100000
namespace Mine
structure NewE (h h' : Heap) (e : Addr) (cls : String) : Prop where
  keeps : ∀ b o, h.get? b = some o → h'.get? b = some o
  new : h.get? e = none
  there : ∃ ob vs a0, h'.get? e = some ob ∧ ob.cls = .type cls ∧ ob.data = .fields vs ∧ vs[1]? = some .none ∧ vs[0]? = some a0
theorem entry_unchain : entryFor table "proto.unchain" = some Builtin.«proto.unchain» := entryFor_of_tree (by kernel_rfl)
section
variable {prog : Program} {w : World} {A : Around} {E : Value → Shared → Prop} {s : Shared} {env : Env} {e1 e2 : Addr}
theorem unchain_none {oe : Obj} {ws : Array Value} {Q : Value → Shared → Prop} (he : s.heap.get? e1 = some oe) (hd : oe.data = .fields ws) (h2 : ws[2]? = some .none) (h : Q .none s) :
    wpAny (model prog w) A (runValue (.builtin "proto.unchain" ⟨[.ref e2, .ref e1, .ref e1, .bool false], []⟩)) Q E s := by
  refine wpAny_runValue (codeAny_builtin entry_unchain ?_)
  unfold Builtin.«proto.unchain»
  dsimp only
  refine wpAny_bind (wpAny_field he hd h2 ?_)
  rw [if_pos (by decide)]
  first
    | (refine wpAny_pure ?_; exact h)
    | (refine wpAny_bind ?_; refine wpAny_pure ?_; refine wpAny_pure ?_; exact h)
theorem notType_of {e : Addr} {oe : Obj} {ws : Array Value} {Q : Bool → Shared → Prop} (he : s.heap.get? e = some oe) (hd : oe.data = .fields ws) (h : Q false s) : wpAny (model prog w) A (isType (.ref e)) Q E s := by
  simp only [isType, loadHead]
  refine wpAny_bind (wpAny_loadPart he ?_)
  rw [hd]; exact wpAny_pure h
theorem exc_value {X N I : String} (hc : ExcClass X N I) {e : Addr} {oe : Obj} {ws : Array Value} {what : String} {Q : Value → Shared → Prop} (he : s.heap.get? e = some oe) (hcl : oe.cls = .type X) (hd : oe.data = .fields ws) (h : Q (.ref e) s) : wpAny (model prog w) A (excFromValue (.ref e) what) Q E s := by
  have hT : s.TypeIs (.ref e) X := ⟨oe, he, hcl⟩
  unfold excFromValue isExcClass
  refine wpAny_bind (wpAny_bind (notType_of he hd ?_))
  simp only [Bool.false_eq_true, if_false]
  refine wpAny_pure ?_
  simp only [Bool.false_eq_true, if_false]
  refine wpAny_bind (wpAny_isInstance hT hc.base ?_)
  simp only [if_true]
  exact wpAny_pure h
/-- what `raise x from c` needs of x -/
structure FromEnd (prog : Program) (w : World) (A : Around) (env : Env) (c : Expr) (e1 : Addr) (X : String) (E : Value → Shared → Prop) (v : Value) (s₁ : Shared) : Prop where
  ends : ∃ hs e2, v = .ref e2 ∧ e2 ≠ e1 ∧ Heap.NewExc hs s₁.heap e2 X ∧ (∃ oe ws, s₁.heap.get? e1 = some oe ∧ oe.cls = .type X ∧ oe.data = .fields ws ∧ ws[2]? = some .none) ∧
      wpAny (model prog w) A (eval c env) (fun v' s₂ => v' = .ref e1 ∧ s₂ = s₁ ∧ ∀ h3, NewE hs h3 e2 X → E (.ref e2) { s₁ with heap := h3 }) E s₁
theorem raise_from {X N I : String} (hc : ExcClass X N I) {x c : Expr} {pos : Pos} {Q : Flow → Shared → Prop} (hh : A.handled = some (.ref e1))
    (h : wpAny (model prog w) A (eval x env) (FromEnd prog w A env c e1 X E) E s) :
    wpAny (model prog w) A (exec (.Raise (some x) (some c) pos) env) Q E s := by
  show wpAny (model prog w) A (do standAt pos; raiseStmt env (some (do let v ← eval x env; standAt pos; pure v)) (some (do let v ← eval c env; standAt pos; pure v))) Q E s
  refine wpAny_bind (wpAny_standAt ?_)
  unfold raiseStmt
  dsimp only
  refine wpAny_bind (wpAny_bind (wpAny_mono h (fun v s₁ h₁ => wpAny_bind (wpAny_standAt (wpAny_pure ?_))) fun _ _ x => x))
  obtain ⟨hs, e2, rfl, hne, hx, ⟨oe, ws, he, hec, hed, hw2⟩, h₂⟩ := h₁.ends
  refine wpAny_bind (wpAny_holding (wpAny_bind (wpAny_mono h₂ (fun v' s₂ h₃ => wpAny_bind (wpAny_standAt (wpAny_pure ?_))) fun _ _ x => x)))
  obtain ⟨rfl, rfl, hE⟩ := h₃
  obtain ⟨ob, t, ha, hcls, hd⟩ := hx.there
  refine wpAny_bind (wpAny_pure ?_)
  refine wpAny_bind (wpAny_holding (exc_value hc ha hcls hd ?_))
  dsimp only
  rw [if_neg (by simp)]
  refine wpAny_bind (wpAny_holding (exc_value hc he hec hed ?_))
  refine wpAny_bind (wpAny_setField ha hd (by simp) ?_)
  have hd1 := Obj.data_mapFields hd (·.setIfInBounds 3 (Value.ref e1))
  have ha1 := Heap.get?_update_self (Obj.mapFields (·.setIfInBounds 3 (Value.ref e1))) ha (Obj.isFreed_of_fields hd1)
  refine wpAny_bind (wpAny_setField ha1 hd1 (by simp) ?_)
  have hd2 := Obj.data_mapFields hd1 (·.setIfInBounds 4 (Value.bool true))
  have ha2 := Heap.get?_update_self (Obj.mapFields (·.setIfInBounds 4 (Value.bool true))) ha1 (Obj.isFreed_of_fields hd2)
  have hcl2 : (Obj.mapFields (·.setIfInBounds 4 (Value.bool true)) (Obj.mapFields (·.setIfInBounds 3 (Value.ref e1)) ob)).cls = .type X := (Obj.cls_mapFields _ _).trans ((Obj.cls_mapFields _ _).trans hcls)
  refine wpAny_bind (notType_of ha2 hd2 ?_)
  simp only [Bool.false_eq_true, if_false]
  unfold raisedInstance
  refine wpAny_bind (wpAny_bind (wpAny_typeOf ⟨_, ha2, hcl2⟩ (wpAny_bind (m := typeOf (.type X)) (wpAny_pure ?_))))
  rw [if_pos hc.metaType]
  refine wpAny_pure ?_
  unfold setFlight raiseNew
  refine wpAny_bind (wpAny_bind (wpAny_field ha2 hd2 (x := .none) rfl ?_))
  rw [if_neg (by decide)]
  refine wpAny_pure (wpAny_bind (wpAny_handled ?_))
  rw [hh]
  dsimp only
  have he2 : ((s₂.heap.update e2 (Obj.mapFields (·.setIfInBounds 3 (Value.ref e1)))).update e2 (Obj.mapFields (·.setIfInBounds 4 (Value.bool true)))).get? e1 = some oe := by
    rw [Heap.get?_update_other _ _ hne, Heap.get?_update_other _ _ hne]; exact he
  rw [if_pos (by simp [Ne.symm hne])]
  refine wpAny_bind (wpAny_holding (unchain_none (s := { s₂ with heap := _ }) he2 hed hw2 ?_))
  refine wpAny_bind (m := setField (.ref e2) 2 (.ref e1)) (wpAny_setField (s := { s₂ with heap := _ }) ha2 hd2 (by simp) ?_)
  have hd3 := Obj.data_mapFields hd2 (·.setIfInBounds 2 (Value.ref e1))
  have ha3 := Heap.get?_update_self (Obj.mapFields (·.setIfInBounds 2 (Value.ref e1))) ha2 (Obj.isFreed_of_fields hd3)
  refine wpAny_throw (hE _ ⟨fun b o hb => ?_, hx.new, _, _, t, ha3, (Obj.cls_mapFields _ _).trans hcl2, hd3, by simp, by simp⟩)
  have hbe : e2 ≠ b := fun q => by rw [← q, hx.new] at hb; cases hb
  rw [Heap.get?_update_other _ _ hbe, Heap.get?_update_other _ _ hbe, Heap.get?_update_other _ _ hbe]
  exact hx.keeps b o hb
end
end Mine
end

/-! ## P10 -/
section
open PySem PySem.W PyProof.Rows PySem.Calls PySem.Spec PyProof.V
set_option maxRecDepth 100000
namespace Mine
theorem frames_change {base h h' : Heap} (k : ∀ b o, h.get? b = some o → (∀ vs, o.data ≠ .fields vs) → ∃ o', h'.get? b = some o' ∧ ∀ vs, o'.data ≠ .fields vs) : ∀ {l : List Env}, h.FunFrames base l → h'.FunFrames base l
  | [], _ => trivial
  | _ :: _, ⟨hk, ⟨L, o, hf, hn, ho, hd⟩, hr⟩ =>
    let ⟨o', ho', hd'⟩ := k L o ho hd
    ⟨hk, ⟨L, o', hf, hn, ho', hd'⟩, frames_change k hr⟩
section
variable {M : Model} {A : Around} {E : Value → Shared → Prop} {s : Shared}
theorem flight_at {base : Heap} {l : List Env} {e L : Addr} {cls a0 fl : Value} {Q : Unit → Shared → Prop}
    (hkb : base.StaysIn s.heap) (hl : s.heap.FunFrames base l) (ht : s.heap.TracedAtW base e cls a0 fl)
    (h : ∀ h', base.StaysIn h' → h'.FunFrames base l → h'.TracedAtW base e cls a0 (rawInt L) → (∀ b o, s.heap.get? b = some o → (∀ vs, o.data ≠ .fields vs) → h'.get? b = some o) → Q () { s with heap := h' }) :
    wpAny M A (setFlight (.ref e) (some L)) Q E s := by
  obtain ⟨oe, vs, T, oT, ts, he, hcls, hd, h1, hnT, hTe, hT, hdT, h3⟩ := ht
  have hsz : 3 < ts.size := (Array.getElem?_eq_some_iff.mp h3).1
  let f : Obj → Obj := Obj.mapFields (·.setIfInBounds 3 ((some L : Option Addr).elim Value.none fun f => rawInt f))
  have other : ∀ b, b ≠ T → (s.heap.update T f).get? b = s.heap.get? b := fun b hb => Heap.get?_update_other _ _ (Ne.symm hb)
  have far : ∀ b o, s.heap.get? b = some o → (∀ vs, o.data ≠ .fields vs) → b ≠ T := fun b o hb hnf q => by
    rw [q, hT] at hb; cases hb; exact hnf ts hdT
  unfold setFlight
  refine wpAny_bind (wpAny_field he hd h1 ?_)
  rw [if_pos (show (Value.ref T != Value.none) = true from by simp)]
  refine wpAny_setField hT hdT hsz (h _ (fun b o hbo => (other b fun q => by rw [q, hnT] at hbo; cases hbo).trans (hkb b o hbo))
    (hl.of_keeps fun b o hb hnf => ⟨o, (other b (far b o hb hnf)).trans hb, rfl⟩) ?_ fun b o hb hnf => (other b (far b o hb hnf)).trans hb)
  exact ⟨oe, vs, T, _, _, (other e (Ne.symm hTe)).trans he, hcls, hd, h1, hnT, hTe, Heap.get?_update_self _ hT (Obj.isFreed_of_fields (Obj.data_mapFields hdT _)), Obj.data_mapFields hdT _, by simp [hsz]⟩
end
section
variable {prog : Program} {w : World} {A₀ : Around} {E : Value → Shared → Prop} {s' : Shared} {base g hs : Heap} {outer : List Env} {L a e1 e2 : Addr} {m : Str → Option Value} {name : Str} {scope : Scope} {cd : Value} {news : List (Addr × Obj)} {n : Str} {pos : Pos} {X : String}
/-- an exception raised within the suite of `except .. as n` leaves the function -/
theorem suite_leaves (K : Below A₀ base outer g) (F : Fr g L hs m) (N : News g L hs news) (hx : NewE hs s'.heap e2 X) (hk : scope.kind = .function) (hlo : (envOf name scope L a cd).kindOf n = some .local)
    (hE : ∀ h' tk, RaisedSN base g outer e2 (.type X) news h' → g.UpToSlots h' → E (.ref e2) { s' with heap := h', toks := tk }) :
    AsSuiteRaised (model prog w) ((A₀.deeper (envOf name scope L a cd)).mark (some (.ref e1))) (envOf name scope L a cd) n pos
      (notedBy (model prog w) ((A₀.deeper (envOf name scope L a cd)).mark (some (.ref e1))) (envOf name scope L a cd)
        (cameBackBy (model prog w) (A₀.deeper (envOf name scope L a cd)) (envOf name scope L a cd)
          (fun e s' => wpAny (model prog w) (A₀.deeper (envOf name scope L a cd)) (leaving (envOf name scope L a cd) e) (fun _ s'' => E e s'') (fun e' s'' => E e' s'') s'))) (.ref e2) s' := by
  let env := envOf name scope L a cd
  have K' := K.push (name := name) (a := a) (cd := cd) F hk
  let fs := (env :: outer).filterMap (·.frame)
  have hin : ∀ v ∈ (env :: outer), ∀ b, v.frame = some b → b ∈ fs := fun v hv b hb => List.mem_filterMap.mpr ⟨v, hv, hb⟩
  let B := hideAll hs fs
  have st : base.StaysIn B := fun b o q => hideAll_get _ (K'.stays b o q) fun hm => by
    rw [(K'.frames.mem hm).1] at q; cases q
  have hBL : B.get? L = none := hideAll_none _ (hin env (.head _) L rfl)
  have gL : g.get? L = none := kts_self F
  have sg : ∀ b o, g.get? b = some o → b ∉ outer.filterMap (·.frame) → B.get? b = some o := fun b o q nm => hideAll_get _ (F.keep b o q) fun hm => by
    rcases kts_mem hm with z | z
    · rw [z, gL] at q; cases q
    · exact nm z
  have hl : ∀ q ∈ news, B.get? q.1 = some q.2 ∧ g.get? q.1 = none ∧ base.get? q.1 = none := fun q hq => by
    refine ⟨hideAll_get _ (N q hq).1 fun hm => ?_, (N q hq).2.2, fresh_of_stays K.stays (N q hq).2.2⟩
    rcases kts_mem hm with z | z
    · exact (N q hq).2.1 z
    · obtain ⟨v, hv, hb⟩ := List.mem_filterMap.mp z
      obtain ⟨o, ho, _⟩ := (K.frames.mem (List.mem_filterMap.mpr ⟨v, hv, hb⟩)).2
      rw [(N q hq).2.2] at ho; cases ho
  obtain ⟨ob, vs, t, ha, hcls, hd, h1, h0⟩ := hx.there
  have hen : B.get? e2 = none := by
    cases q : B.get? e2 with
    | none => rfl
    | some o => have := of_hideAll _ q; rw [hx.new] at this; cases this
  have kb : B.StaysIn s'.heap := fun b o hb => hx.keeps b o (of_hideAll _ hb)
  have ff : s'.heap.FunFrames B (env :: outer) := (funFrames_hide K'.frames hin).of_keeps fun b o hb _ => ⟨o, hx.keeps b o hb, rfl⟩
  have up0 : g.UpToSlots s'.heap := (Heap.UpToSlots.of_keeps F.keep).trans (Heap.UpToSlots.of_keeps hx.keeps)
  have hfr : ((A₀.deeper env).mark (some (.ref e1))).frames = some (env :: outer) := Around.frames_deeper K.stack
  show wpAny (model prog w) ((A₀.deeper env).mark (some (.ref e1))) (noteFrame (.ref e2) env) _ _ s'
  have goNote : ∀ {Q : Unit → Shared → Prop} {E' : Value → Shared → Prop}, (∀ h', Heap.NotedW B (env :: outer) e2 ob.cls t (rawInt L) s'.heap h' → Q () { s' with heap := h' }) → wpAny (model prog w) ((A₀.deeper env).mark (some (.ref e1))) (noteFrame (.ref e2) env) Q E' s' := by
    intro Q E' hQ
    unfold noteFrame
    simp only [show env.frame = some L from rfl]
    refine wpAny_bind (wpAny_field ha hd h1 ?_)
    rw [if_neg (by decide)]
    exact wpAny_entryW hfr ff rfl ha kb hen hd (Array.getElem?_eq_some_iff.mp h1).1 h0 hQ
  refine goNote fun h4 hN => ?_
  obtain ⟨k1, k2, k3, k4⟩ := hN
  have ns4 : h4.Ns L m := by
    obtain ⟨o, es, ep, ho, hod, r⟩ := F.ns
    obtain ⟨sl, hs4⟩ := k4 L o (hx.keeps _ _ ho) (fun vs q => by rw [hod] at q; cases q)
    exact ⟨_, es, ep, hs4, hod, r⟩
  refine wpAny_nameGoes (m := m) hlo ns4 (by show (scope.kind == .class || (scope.kind == .module && L != mainGlobals)) = false; rw [hk]; rfl) fun h5 m5 ns5 sb5 => ?_
  have st5 : B.StaysIn h5 := fun b o hb => (sb5.2 b (fun (q : b = L) => by rw [q, hBL] at hb; cases hb)).trans (k1 b o hb)
  have ff5 : h5.FunFrames B (env :: outer) := frames_change (fun b o hb hnf => by
    by_cases q : b = L
    · subst q
      obtain ⟨o5, es, ep, ho5, hod5, _⟩ := ns5
      exact ⟨o5, ho5, fun vs z => by rw [hod5] at z; cases z⟩
    · exact ⟨o, (sb5.2 b q).trans hb, hnf⟩) k2
  have tr5 : h5.TracedAtW B e2 ob.cls t (rawInt L) := by
    obtain ⟨oe, vs, T, oT, ts, he, hc, hd', h1', hnT, hTe, hT, hdT, h3⟩ := k3
    obtain ⟨o4, es, ep, ho4, hod4, _⟩ := ns4
    have eL : e2 ≠ L := fun q => by rw [q, ho4] at he; cases he; rw [hod4] at hd'; cases hd'
    have TL : T ≠ L := fun q => by rw [q, ho4] at hT; cases hT; rw [hod4] at hdT; cases hdT
    exact ⟨oe, vs, T, oT, ts, (sb5.2 e2 eL).trans he, hc, hd', h1', hnT, hTe, (sb5.2 T TL).trans hT, hdT, h3⟩
  have up4 : g.UpToSlots h4 := up0.trans k4
  have up5 : g.UpToSlots h5 := fun b o hb hnf => by
    obtain ⟨sl, h⟩ := up4 b o hb hnf
    exact ⟨sl, (sb5.2 b (fun (q : b = L) => by rw [q, gL] at hb; cases hb)).trans h⟩
  -- the name is gone: on with the exception
  have onward : ∀ {h : Heap} {tk : Nat} {Q : Unit → Shared → Prop} {E' : Value → Shared → Prop} {A' : Around}, B.StaysIn h → h.FunFrames B (env :: outer) → h.TracedAtW B e2 ob.cls t (rawInt L) → g.UpToSlots h →
      (∀ h', B.StaysIn h' → h'.FunFrames B (env :: outer) → h'.TracedAtW B e2 ob.cls t (rawInt L) → g.UpToSlots h' → Q () { s' with heap := h', toks := tk }) →
      wpAny (model prog w) A' (setFlight (.ref e2) (some L)) Q E' { s' with heap := h, toks := tk } := fun a b c d hQ =>
    flight_at a b c fun h' x1 x2 x3 x4 => hQ h' x1 x2 x3 (d.trans fun b o hb hnf => ⟨o.slots, x4 b o hb hnf⟩)
  have traced : ∀ {h : Heap} {tk : Nat} {Q : Value → Shared → Prop} {E' : Value → Shared → Prop} {A' : Around}, h.TracedAtW B e2 ob.cls t (rawInt L) → (∀ T, Q (.ref T) { s' with heap := h, toks := tk }) →
      wpAny (model prog w) A' (field (.ref e2) 1) Q E' { s' with heap := h, toks := tk } := by
    intro h tk Q E' A' ⟨oe, vs, T, oT, ts, he, hc, hd', h1', _⟩ hQ
    exact wpAny_field he hd' h1' (hQ T)
  unfold PySem.passOn
  refine wpAny_bind (traced tr5 fun T => ?_)
  rw [if_neg (by simp)]
  refine wpAny_bind (onward st5 ff5 tr5 up5 fun h6 st6 ff6 tr6 up6 => ?_)
  refine wpAny_throw ?_
  show wpAny (model prog w) ((A₀.deeper env).mark (some (.ref e1))) (noteFrame (.ref e2) env) _ _ _
  refine wpAny_noteFrame_againW rfl tr6 ?_
  show wpAny (model prog w) (A₀.deeper env) (do
    if (← field (.ref e2) 1) == .none then unsupported "frame.own-activation:exception-without-traceback"
    setFlight (.ref e2) (some L)) _ _ _
  refine wpAny_bind (traced tr6 fun T => ?_)
  dsimp only
  rw [if_neg (by simp)]
  refine onward st6 ff6 tr6 up6 fun h7 st7 ff7 tr7 up7 => ?_
  show wpAny (model prog w) (A₀.deeper env) (leaving env (.ref e2)) _ _ _
  unfold leaving
  refine wpAny_bind (wpAny_noteFrame_againW rfl tr7 ?_)
  refine wpAny_landsW (s := { s' with heap := h7, toks := _ }) ⟨st7, hen, ff7, tr7⟩ fun h8 hfl hsm => ?_
  obtain ⟨f1, f2, ⟨_, _, f3⟩, f4⟩ := hfl
  exact hE h8 _ ⟨B, t, st, sg, hl, f1, f2, f3, hcls ▸ f4⟩ (up7.trans hsm)
end
theorem turn_back {base g g' h : Heap} {l : List Env} {e : Addr} {cls : Value} {news : List (Addr × Obj)} (R : RaisedSN base g' l e cls news h) (T : KtsTurn (l.filterMap (·.frame)) g g') : RaisedSN base g l e cls news h := by
  obtain ⟨B, a0, h1, h2, h3, h4⟩ := R
  refine ⟨B, a0, h1, fun b o q nm => h2 b o (T.other b o q nm) nm, fun q hq => ⟨(h3 q hq).1, ?_, (h3 q hq).2.2⟩, h4⟩
  cases z : g.get? q.1 with
  | none => rfl
  | some o =>
    obtain ⟨sl, y⟩ := T.up z
    rw [(h3 q hq).2.1] at y; cases y
theorem up_back {fs : List Addr} {g g' h : Heap} (U : g'.UpToSlots h) (T : KtsTurn fs g g') : g.UpToSlots h := fun b o hb hn => by
  obtain ⟨sl, h1⟩ := T.up hb
  obtain ⟨s2, h2⟩ := U b _ h1 hn
  exact ⟨s2, h2⟩
theorem cd_deep {M : Model} {c : Code} {R : Result → Shared → Prop} {s : Shared} {d u D U : Nat} {gd : Option (List Code)} {cn : Str} {cs : Scope} {L a : Addr} {ccd : Value} {cl : List (Str × Addr)} {outer : List Env} (hd : d ≤ D) (hu : u ≤ U)
    (h : codeAny M (ktrTop D U gd cn cs L a ccd cl outer) c R s) : codeAny M (ktrTop d u gd cn cs L a ccd cl outer) c R s :=
  fun Γ p hc hΓ => h Γ p hc ⟨hΓ.1, Nat.le_trans hΓ.2.1 hd, hΓ.2.2.1, hΓ.2.2.2.1, Nat.le_trans hΓ.2.2.2.2 hu⟩
end Mine
end

/-! ## F1 -/
section
open PySem PySem.W PyProof.Rows PySem.Calls PySem.Spec
set_option maxRecDepth 100000
namespace Mine
theorem fillF1 : (fun (_ : Params → Frag) (_ : OpenLaw) => True) Mine.hd.heap_39 PySem.Challenge.rw_fc0077_01 := by k_fill; trivial
local macro_rules | `(tactic| walk_at "my_step") => `(tactic| first | (k_unfold; (try dsimp only)) | (k_end; wrow_close) | walk1 | (dsimp only; walk1) | (leave1; walk_say "STEP leave1"; try dsimp only))
local macro_rules | `(tactic| walk_at "my_enterS") => `(tactic| (refine' code_defS ?k1 ?k2 ?k3 ?k4 ?k5 ?XB ?TB ?D ?T0 ?kA ?k6 ?k7 ?k8 ?k9 ?kB ?_ ?cK ?c2 ?c3 ?c4 ?c5; (case kA => exact rfl); (case k2 => k_asm); (case k1 => k_asm); (case XB => assumption); (case TB => assumption); (case D => assumption); (case T0 => first | assumption | exact KtsTurn.refl); (case k3 => k_asm); (case k4 => k_asm); (case k5 => k_asm); (case k6 => k_is); (case k7 => k_is); (case k8 => ktr_room); (case k9 => first | exact binds_K (by k_in) rfl (by k_is) rfl rfl rfl | exact BindsTo.of_eq rfl); (case kB => exact locs rfl); (case cK => first | exact rfl | assumption); (case c2 => exact rfl); (case c3 => exact rfl); (case c4 => exact rfl); (case c5 => decide); intro g' L' h' FG' F' N' B' X' T' D'; (try dsimp only); (try k_lift B')))
local macro_rules | `(tactic| walk_at "call ref") => `(tactic| (k_here; (with_reducible show wpAny _ _ (call (Value.ref 365) _) _ _ _); k_dflt (refine' wp_deep (D := 380) (U := 180) (Nat.le_of_ble_eq_true rfl) (Nat.le_of_ble_eq_true rfl) (vw_bad ?h1 ?h2 ?h3 ?k1 ?k2 ?k3 ?k4 ?k5 ?k6 ?_); (case h1 => assumption); (case h2 => assumption); (case h3 => assumption); (case k1 => k_asm); (case k2 => k_asm); (case k3 => k_asm); (case k4 => k_asm); (case k5 => k_asm); (case k6 => exact rfl); intro gE e' h' tk' FE RE UE IE)))
local macro_rules | `(tactic| walk_at "noteFrame ref") => `(tactic| (k_here; k_dflt (refine' caught_ctx (T' := "Exception") ?R ?I ?F ?K ?U ?XB ?TB ?D ?T0 ?ex PyProof.Rows.Boot.«Exception» ?hn PySem.F.isExc_Exception PySem.F.notTuple_Exception ?hs ?_ rfl rfl rfl (by decide); (case R => assumption); (case I => assumption); (case F => assumption); (case K => assumption); (case U => assumption); (case XB => assumption); (case TB => assumption); (case D => assumption); (case T0 => first | assumption | exact KtsTurn.refl); (case hs => kts_sub); (case ex => k_is); (case hn => decide)); intro h' g' oe' ws' tk' hoc' hod' hw2' TT' T0' F' N' K' X' P' D'; (try k_lift K'); (try k_sweep)))
local macro_rules | `(tactic| walk_at "exec Raise some some") => `(tactic| (k_here; k_dflt (refine raise_from excClass_ValueError rfl ?_)))
local macro_rules | `(tactic| walk_at "call type:ValueError") => `(tactic| (k_here; k_dflt (refine' call_exc excClass_ValueError ?_ ?k1; (case k1 => size_fits)); intro h' e' hx'))
set_option maxHeartbeats 0 in
theorem fi_bad {w : World} {mean : ExcName → Option Value} {mg mb : Str → Option Value} {T0 : Str} {tt : Tok} (hT : T0.length ≤ 9) (hlen : (Txt.upper T0).length ≤ 27) (hsz : (Txt.upper T0).cps.size ≤ 1000) (hbad : ¬ good (Txt.upper T0))
   {gd : Option (List Code)} {cn : Str} {cs : Scope} {aa : Addr} {ccd : Value} {outer : List Env} {A₀ : Around} {base h₀ : Heap} {L : Addr} {m : Str → Option Value} {news : List (Addr × Obj)} {s : Shared} {Q E : Value → Shared → Prop}
   (B : Below A₀ base outer h₀) (F : Fr h₀ L s.heap m) (X : (Mine.hd.heap_39 w.params).In h₀) (N : News h₀ L s.heap news) (T : Top Mine.hd.view_39 LOOSE mean mg mb h₀) (hk : cs.kind = .function)
   (XB : (Mine.hd.heap_39 w.params).In base) (TB : Top Mine.hd.view_39 LOOSE mean mg mb base) (D : KtsDicts (outer.filterMap (·.frame)) h₀)
   (hE : ∀ g e h' tk', Fr h₀ L g m → RaisedSN base g (envX cn cs L aa ccd [] :: outer) e (.type "ValueError") news h' → g.UpToSlots h' → E (.ref e) { s with heap := h', toks := tk' }) :
   codeAny (model PySem.Challenge.rw_fc0077_01.row.prog w) (ktrTop 370 170 gd cn cs L aa ccd [] outer) (.call (.ref 350) ⟨[.ref 365, .str T0 tt], []⟩) (fun r s' => match r with | .ok (.ret v) => Q v s' | .ok _ => False | .error e => E e s') s := by
  w_top off
  k_dflt (walk_at "my_enterS")
  repeat' (walk_at "my_step")
  rename Heap.NewExc _ _ _ _ => hx1
  rename Below _ _ (envX cn cs L aa ccd [] :: outer) _ => KL
  rename News _ _ _ ((_, _) :: news) => NL
  rename Fr _ _ _ _ => FL
  rename KtsTurn _ _ _ => T0L
  rename KtsTurn _ _ _ => TTL
  rename Obj.cls _ = Value.type "ValueError" => hcL
  rename Obj.data _ = Data.fields _ => hdL
  rename _ = some Value.none => hwL
  rename Fr h₀ L _ m => FGL
  have n1 := NL _ (List.Mem.head _)
  refine ⟨⟨_, _, rfl, ?_, hx1, ⟨_, _, hx1.keeps _ _ n1.1, hcL, hdL, hwL⟩, ?_⟩⟩
  · intro q
    have z := hx1.new
    rw [q, n1.1] at z
    cases z
  · refine nameX_L (FL.keeps hx1.keeps) (if_pos rfl) ⟨rfl, rfl, fun h3 hN => ?_⟩ rfl rfl (by decide)
    exact suite_leaves KL FL (fun p hp => NL p (List.Mem.tail _ hp)) hN rfl rfl (fun h' tk R U => hE _ _ h' tk FGL (turn_back R TTL) (up_back U TTL))
end Mine
end

/-! ## F2 -/
section
open PySem PySem.W PyProof.Rows PySem.Calls PySem.Spec
set_option maxRecDepth 100000
namespace Mine
theorem fillF2 : (fun (_ : Params → Frag) (_ : OpenLaw) => True) Mine.hd.heap_39 PySem.Challenge.rw_fc0077_01 := by k_fill; trivial
local macro_rules | `(tactic| walk_at "my_step") => `(tactic| first | (k_unfold; (try dsimp only)) | (k_end; wrow_close) | walk1 | (dsimp only; walk1) | (leave1; walk_say "STEP leave1"; try dsimp only))
local macro_rules | `(tactic| walk_at "my_enterS") => `(tactic| (refine' code_defS ?k1 ?k2 ?k3 ?k4 ?k5 ?XB ?TB ?D ?T0 ?kA ?k6 ?k7 ?k8 ?k9 ?kB ?_ ?cK ?c2 ?c3 ?c4 ?c5; (case kA => exact rfl); (case k2 => k_asm); (case k1 => k_asm); (case XB => assumption); (case TB => assumption); (case D => assumption); (case T0 => first | assumption | exact KtsTurn.refl); (case k3 => k_asm); (case k4 => k_asm); (case k5 => k_asm); (case k6 => k_is); (case k7 => k_is); (case k8 => ktr_room); (case k9 => first | exact binds_K (by k_in) rfl (by k_is) rfl rfl rfl | exact BindsTo.of_eq rfl); (case kB => exact locs rfl); (case cK => first | exact rfl | assumption); (case c2 => exact rfl); (case c3 => exact rfl); (case c4 => exact rfl); (case c5 => decide); intro g' L' h' FG' F' N' B' X' T' D'; (try dsimp only); (try k_lift B')))
local macro_rules | `(tactic| walk_at "call ref") => `(tactic| (k_here; (with_reducible show wpAny _ _ (call (Value.ref 365) _) _ _ _); k_dflt (refine' wp_deep (D := 380) (U := 180) (Nat.le_of_ble_eq_true rfl) (Nat.le_of_ble_eq_true rfl) (vw_ok ?h1 ?h2 ?h3 ?k1 ?k2 ?k3 ?k4 ?k5 ?k6 ?_); (case h1 => assumption); (case h2 => assumption); (case h3 => assumption); (case k1 => k_asm); (case k2 => k_asm); (case k3 => k_asm); (case k4 => k_asm); (case k5 => k_asm); (case k6 => exact rfl); intro sg' rl' wd' x' d' t' t3' pv' r' h' tk' a' ha' hf' esg' erl' ewd' hrel' F' N' hx')))
set_option maxHeartbeats 0 in
theorem fi_ok {w : World} {mean : ExcName → Option Value} {mg mb : Str → Option Value} {T0 : Str} {tt : Tok} (hT : T0.length ≤ 9) (hlen : (Txt.upper T0).length ≤ 27) (hsz : (Txt.upper T0).cps.size ≤ 1000) (hgood : good (Txt.upper T0))
   {gd : Option (List Code)} {cn : Str} {cs : Scope} {aa : Addr} {ccd : Value} {outer : List Env} {A₀ : Around} {base h₀ : Heap} {L : Addr} {m : Str → Option Value} {news : List (Addr × Obj)} {s : Shared} {Q E : Value → Shared → Prop}
   (B : Below A₀ base outer h₀) (F : Fr h₀ L s.heap m) (X : (Mine.hd.heap_39 w.params).In h₀) (N : News h₀ L s.heap news) (T : Top Mine.hd.view_39 LOOSE mean mg mb h₀) (hk : cs.kind = .function)
   (XB : (Mine.hd.heap_39 w.params).In base) (TB : Top Mine.hd.view_39 LOOSE mean mg mb base) (D : KtsDicts (outer.filterMap (·.frame)) h₀)
   (hret : ∀ sg rl wd x d t t3 pv r h' tk' a, a ≤ 1 → RE.fits (Txt.upper T0).cps (Txt.upper T0).cps.size a = true → sg = ⟨(Txt.upper T0).cps.extract 0 a⟩ → rl = ⟨(Txt.upper T0).cps.extract a ((Txt.upper T0).cps.size - 2)⟩ → wd = ⟨(Txt.upper T0).cps.extract ((Txt.upper T0).cps.size - 2) (Txt.upper T0).cps.size⟩ → relOf sg rl r → Fr h₀ L h' m → News h₀ L h' ((x, vwObj d (Txt.upper T0) t #[some pv, some r, some (.str wd t3)]) :: (d, dict0) :: news) → (∀ p ∈ news, p.1 ≠ x) → Q (.ref x) { s with heap := h', toks := tk' }) :
   codeAny (model PySem.Challenge.rw_fc0077_01.row.prog w) (ktrTop 370 170 gd cn cs L aa ccd [] outer) (.call (.ref 350) ⟨[.ref 365, .str T0 tt], []⟩) (fun r s' => match r with | .ok (.ret v) => Q v s' | .ok _ => False | .error e => E e s') s := by
  w_top off
  k_dflt (walk_at "my_enterS")
  repeat' (walk_at "my_step")
  rename Fr h₀ L _ m => FL
  rename News h₀ L _ (_ :: _ :: news) => NL
  rename ∀ p ∈ news, p.1 ≠ _ => hxL
  rename relOf _ _ _ => hrL
  rename RE.fits _ _ _ = true => hfL
  exact hret _ _ _ _ _ _ _ _ _ _ _ _ (by assumption) hfL (by assumption) (by assumption) (by assumption) hrL FL NL hxL
end Mine
end

/-! ## F3 -/
section
open PySem PySem.W PyProof.Rows PySem.Calls PySem.Spec
set_option maxRecDepth 100000
namespace Mine
theorem fillF3 : (fun (_ : Params → Frag) (_ : OpenLaw) => True) Mine.hd.heap_39 PySem.Challenge.rw_fc0077_01 := by k_fill; trivial
-- lines that say nothing: the walker keeps a table of its lines by their number, and this part must not meet the table of another
local macro_rules | `(tactic| walk_at "no line") => `(tactic| skip)
local macro_rules | `(tactic| walk_at "my_step") => `(tactic| first | (k_unfold; (try dsimp only)) | (k_end; wrow_close) | walk1 | (dsimp only; walk1) | (leave1; walk_say "STEP leave1"; try dsimp only))
local macro_rules | `(tactic| walk_at "my_enterS") => `(tactic| (refine' code_defS ?k1 ?k2 ?k3 ?k4 ?k5 ?XB ?TB ?D ?T0 ?kA ?k6 ?k7 ?k8 ?k9 ?kB ?_ ?cK ?c2 ?c3 ?c4 ?c5; (case kA => exact rfl); (case k2 => k_asm); (case k1 => k_asm); (case XB => assumption); (case TB => assumption); (case D => assumption); (case T0 => first | assumption | exact KtsTurn.refl); (case k3 => k_asm); (case k4 => k_asm); (case k5 => k_asm); (case k6 => k_is); (case k7 => k_is); (case k8 => ktr_room); (case k9 => first | exact binds_K (by k_in) rfl (by k_is) rfl rfl rfl | exact BindsTo.of_eq rfl); (case kB => exact locs rfl); (case cK => first | exact rfl | assumption); (case c2 => exact rfl); (case c3 => exact rfl); (case c4 => exact rfl); (case c5 => decide); intro g' L' h' FG' F' N' B' X' T' D'; (try dsimp only); (try k_lift B')))
local macro_rules | `(tactic| walk_at "call ref") => `(tactic| (k_here; k_dflt (refine' call_meth ?n1 ?n2 (cd_deep (D := 370) (U := 170) (Nat.le_of_ble_eq_true rfl) (Nat.le_of_ble_eq_true rfl) (fi_bad ?h0 ?h1 ?h2 ?h3 ?k1 ?k2 ?k3 ?k4 ?k5 ?k6 ?XB ?TB ?D ?_)); (case n1 => k_asm); (case n2 => k_mem); (case h0 => assumption); (case h1 => assumption); (case h2 => assumption); (case h3 => assumption); (case k1 => k_asm); (case k2 => k_asm); (case k3 => k_asm); (case k4 => k_asm); (case k5 => k_asm); (case k6 => exact rfl); (case XB => assumption); (case TB => assumption); (case D => assumption); intro gE e' h' tk' FE RE UE)))
set_option maxHeartbeats 0 in
theorem told_bad {w : World} {mean : ExcName → Option Value} {mg mb : Str → Option Value} {T0 : Str} {tt : Tok} (hT : T0.length ≤ 9) (hlen : (Txt.upper T0).length ≤ 27) (hsz : (Txt.upper T0).cps.size ≤ 1000) (hbad : ¬ good (Txt.upper T0))
   {gd : Option (List Code)} {cn : Str} {cs : Scope} {aa : Addr} {ccd : Value} {outer : List Env} {A₀ : Around} {base h₀ : Heap} {L : Addr} {m : Str → Option Value} {news : List (Addr × Obj)} {s : Shared} {Q E : Value → Shared → Prop}
   (B : Below A₀ base outer h₀) (F : Fr h₀ L s.heap m) (X : (Mine.hd.heap_39 w.params).In h₀) (N : News h₀ L s.heap news) (T : Top Mine.hd.view_39 LOOSE mean mg mb h₀) (hk : cs.kind = .function)
   (XB : (Mine.hd.heap_39 w.params).In base) (TB : Top Mine.hd.view_39 LOOSE mean mg mb base) (D : KtsDicts (outer.filterMap (·.frame)) h₀)
   (hret : ∀ h₁ h' tk', KtsTurn (outer.filterMap (·.frame)) h₀ h₁ → Fr h₁ L h' m → News h₁ L h' news → Below A₀ base outer h₁ → (Mine.hd.heap_39 w.params).In h₁ → Top Mine.hd.view_39 LOOSE mean mg mb h₁ → KtsDicts (outer.filterMap (·.frame)) h₁ → Q .none { s with heap := h', toks := tk' }) :
   wpAny (model PySem.Challenge.rw_fc0077_01.row.prog w) (ktrTop 360 160 gd cn cs L aa ccd [] outer) (call (.ref 397) [.str T0 tt]) Q E s := by
  refine wpAny_call ?_
  w_top off
  k_dflt (walk_at "my_enterS")
  repeat' (walk_at "my_step")
  rename KtsDicts (outer.filterMap (·.frame)) _ => kD1
  rename Below A₀ base outer _ => kB1
  rename KtsTurn (outer.filterMap (·.frame)) h₀ _ => kT1
  rename Fr _ L _ m => kF1
  rename News _ L _ _ => kN1
  rename Top _ _ _ _ _ _ => kP1
  exact hret _ _ _ kT1 kF1 (fun p hp => kN1 p (by first | exact hp | exact List.Mem.tail _ hp | exact List.Mem.tail _ (List.Mem.tail _ hp))) kB1 (by assumption) kP1 kD1
end Mine
end

/-! ## F4 -/
section
open PySem PySem.W PyProof.Rows PySem.Calls PySem.Spec
set_option maxRecDepth 100000
namespace Mine
theorem fillF4 : (fun (_ : Params → Frag) (_ : OpenLaw) => True) Mine.hd.heap_39 PySem.Challenge.rw_fc0077_01 := by k_fill; trivial
-- lines that say nothing: the walker keeps a table of its lines by their number, and this part must not meet the table of another
local macro_rules | `(tactic| walk_at "no line") => `(tactic| skip)
local macro_rules | `(tactic| walk_at "no line") => `(tactic| skip)
local macro_rules | `(tactic| walk_at "my_step") => `(tactic| first | (k_unfold; (try dsimp only)) | (k_end; wrow_close) | walk1 | (dsimp only; walk1) | (leave1; walk_say "STEP leave1"; try dsimp only))
local macro_rules | `(tactic| walk_at "my_enterS") => `(tactic| (refine' code_defS ?k1 ?k2 ?k3 ?k4 ?k5 ?XB ?TB ?D ?T0 ?kA ?k6 ?k7 ?k8 ?k9 ?kB ?_ ?cK ?c2 ?c3 ?c4 ?c5; (case kA => exact rfl); (case k2 => k_asm); (case k1 => k_asm); (case XB => assumption); (case TB => assumption); (case D => assumption); (case T0 => first | assumption | exact KtsTurn.refl); (case k3 => k_asm); (case k4 => k_asm); (case k5 => k_asm); (case k6 => k_is); (case k7 => k_is); (case k8 => ktr_room); (case k9 => first | exact binds_K (by k_in) rfl (by k_is) rfl rfl rfl | exact BindsTo.of_eq rfl); (case kB => exact locs rfl); (case cK => first | exact rfl | assumption); (case c2 => exact rfl); (case c3 => exact rfl); (case c4 => exact rfl); (case c5 => decide); intro g' L' h' FG' F' N' B' X' T' D'; (try dsimp only); (try k_lift B')))
local macro_rules | `(tactic| walk_at "call ref") => `(tactic| (k_here; k_dflt (refine' call_meth ?n1 ?n2 (cd_deep (D := 370) (U := 170) (Nat.le_of_ble_eq_true rfl) (Nat.le_of_ble_eq_true rfl) (fi_ok ?h0 ?h1 ?h2 ?h3 ?k1 ?k2 ?k3 ?k4 ?k5 ?k6 ?XB ?TB ?D ?_)); (case n1 => k_asm); (case n2 => k_mem); (case h0 => assumption); (case h1 => assumption); (case h2 => assumption); (case h3 => assumption); (case k1 => k_asm); (case k2 => k_asm); (case k3 => k_asm); (case k4 => k_asm); (case k5 => k_asm); (case k6 => exact rfl); (case XB => assumption); (case TB => assumption); (case D => assumption); intro sg' rl' wd' x' d' t' t3' pv' r' h' tk' a' ha' hf' esg' erl' ewd' hrel' F' N' hx')))
set_option maxHeartbeats 0 in
theorem told_ok {w : World} {mean : ExcName → Option Value} {mg mb : Str → Option Value} {T0 : Str} {tt : Tok} (hT : T0.length ≤ 9) (hlen : (Txt.upper T0).length ≤ 27) (hsz : (Txt.upper T0).cps.size ≤ 1000) (hgood : good (Txt.upper T0))
   {gd : Option (List Code)} {cn : Str} {cs : Scope} {aa : Addr} {ccd : Value} {outer : List Env} {A₀ : Around} {base h₀ : Heap} {L : Addr} {m : Str → Option Value} {news : List (Addr × Obj)} {s : Shared} {Q E : Value → Shared → Prop}
   (B : Below A₀ base outer h₀) (F : Fr h₀ L s.heap m) (X : (Mine.hd.heap_39 w.params).In h₀) (N : News h₀ L s.heap news) (T : Top Mine.hd.view_39 LOOSE mean mg mb h₀) (hk : cs.kind = .function)
   (XB : (Mine.hd.heap_39 w.params).In base) (TB : Top Mine.hd.view_39 LOOSE mean mg mb base) (D : KtsDicts (outer.filterMap (·.frame)) h₀)
   (hret : ∀ sg rl wd x d t t3 pv r h' tk' a, a ≤ 1 → RE.fits (Txt.upper T0).cps (Txt.upper T0).cps.size a = true → sg = ⟨(Txt.upper T0).cps.extract 0 a⟩ → rl = ⟨(Txt.upper T0).cps.extract a ((Txt.upper T0).cps.size - 2)⟩ → wd = ⟨(Txt.upper T0).cps.extract ((Txt.upper T0).cps.size - 2) (Txt.upper T0).cps.size⟩ → relOf sg rl r → Fr h₀ L h' m → News h₀ L h' ((x, vwObj d (Txt.upper T0) t #[some pv, some r, some (.str wd t3)]) :: (d, dict0) :: news) → (∀ p ∈ news, p.1 ≠ x) → Q (.ref x) { s with heap := h', toks := tk' }) :
   wpAny (model PySem.Challenge.rw_fc0077_01.row.prog w) (ktrTop 360 160 gd cn cs L aa ccd [] outer) (call (.ref 397) [.str T0 tt]) Q E s := by
  refine wpAny_call ?_
  w_top off
  k_dflt (walk_at "my_enterS")
  repeat' (walk_at "my_step")
  rename Fr h₀ L _ m => FL
  rename News h₀ L _ (_ :: _ :: _ :: news) => NL
  rename ∀ p ∈ (_ :: news), p.1 ≠ _ => hxL
  rename relOf _ _ _ => hrL
  rename RE.fits _ _ _ = true => hfL
  exact hret _ _ _ _ _ _ _ _ _ _ _ _ (by assumption) hfL (by assumption) (by assumption) (by assumption) hrL FL (fun p hp => NL p (mem_skip2 hp)) (fun p hp => hxL p (List.Mem.tail _ hp))
end Mine
end

/-! ## L0 -/
section
open PySem PySem.W PySem.W.X PyProof.Rows PySem.Calls PySem.Spec
set_option maxRecDepth 100000
namespace Mine
theorem fillL0 : (fun (_ : Params → Frag) (_ : OpenLaw) => True) Mine.hd.heap_39 PySem.Challenge.rw_fc0077_01 := by k_fill; trivial
abbrev daysObj (t : Tok) : Obj := ⟨.type "list", none, .seq #[.str ⟨#[83, 85]⟩ t, .str ⟨#[77, 79]⟩ (t + 1), .str ⟨#[84, 85]⟩ (t + 1 + 1), .str ⟨#[87, 69]⟩ (t + 1 + 1 + 1), .str ⟨#[84, 72]⟩ (t + 1 + 1 + 1 + 1), .str ⟨#[70, 82]⟩ (t + 1 + 1 + 1 + 1 + 1), .str ⟨#[83, 65]⟩ (t + 1 + 1 + 1 + 1 + 1 + 1), .str ⟨#[88, 88]⟩ (t + 1 + 1 + 1 + 1 + 1 + 1 + 1), .str ⟨#[77]⟩ (t + 1 + 1 + 1 + 1 + 1 + 1 + 1 + 1), .str ⟨#[77, 79, 79]⟩ (t + 1 + 1 + 1 + 1 + 1 + 1 + 1 + 1 + 1), .str ⟨#[77, 49]⟩ (t + 1 + 1 + 1 + 1 + 1 + 1 + 1 + 1 + 1 + 1), .str ⟨#[83, 45]⟩ (t + 1 + 1 + 1 + 1 + 1 + 1 + 1 + 1 + 1 + 1 + 1)] 0, #[]⟩
section
variable {w : World} {h₀ : Heap} {L : Addr} {m : Str → Option Value} {news : List (Addr × Obj)} {s : Shared} {E : Value → Shared → Prop} {Q : Value → Shared → Prop}
theorem news_drop2 {h : Heap} {a b : Addr × Obj} (N : News h₀ L h (a :: b :: news)) : News h₀ L h (a :: news) := fun p hp => N p (by
  rcases List.mem_cons.mp hp with rfl | hp
  · exact List.Mem.head _
  · exact List.Mem.tail _ (List.Mem.tail _ hp))
local macro_rules | `(tactic| x_close) => `(tactic| ((rename (∀ (_ : Addr) (_ : Tok) (_ : Heap) (_ : Nat), _ → _ → _) => hretX); refine hretX _ _ _ _ (mem_fr (by assumption) (by assumption)) (news_drop2 (mem_new (nw := [_, _]) (by assumption) (by assumption) (by assumption)))))
set_option maxHeartbeats 0 in
theorem x_days (F : Fr h₀ L s.heap m) (KX : (Mine.hd.heap_39 w.params).In s.heap) (N : News h₀ L s.heap news) 
   (hret : ∀ (x : Addr) (t : Tok) (h' : Heap) (tk' : Nat), Fr h₀ L h' m → News h₀ L h' ((x, daysObj t) :: news) → Q (.ref x) { s with heap := h', toks := tk' }) :
   wpAny (model PySem.Challenge.rw_fc0077_01.row.prog w) ABig (call (.ref 378) []) Q E s := by
  x_run
end
end Mine
end

/-! ## L2 -/
section
open PySem PySem.W PyProof.Rows PySem.Calls PySem.Spec PySem.Builtin PySem.Builtin.Str
set_option maxRecDepth 100000
namespace Mine
def isDig (c : Nat) : Prop := 48 ≤ c ∧ c ≤ 57
abbrev DIG : Str := Str.ofString "0123456789"
section
variable {w : World} {A : Around} {E : Value → Shared → Prop} {s : Shared} {t u : Tok} {Q : Value → Shared → Prop}
theorem dig_mem (c : Nat) : decide (c ∈ DIG.cps.toList) = decide (48 ≤ c ∧ c ≤ 57) := by
  have e : DIG.cps.toList = [48, 49, 50, 51, 52, 53, 54, 55, 56, 57] := by decide +kernel
  rw [e]
  apply decide_eq_decide.mpr
  simp only [List.mem_cons, List.not_mem_nil, or_false]
  omega
theorem notIn_dig {c : Nat} (h : Q (.bool (!decide (48 ≤ c ∧ c ≤ 57))) s) : wpAny (model PR w) A (compareOp .NotIn (.str ⟨#[c]⟩ t) (.str DIG u)) Q E s := by
  refine PyProof.Rows.notIn_str ?_
  rw [StrLaws.found_one, dig_mem]
  exact h
theorem notIn_two {c : Nat} (h1 : isDig c → Q (.bool false) s) (h2 : ¬ isDig c → Q (.bool true) s) : wpAny (model PR w) A (compareOp .NotIn (.str ⟨#[c]⟩ t) (.str DIG u)) Q E s := by
  refine notIn_dig ?_
  by_cases h : 48 ≤ c ∧ c ≤ 57
  · rw [decide_eq_true h]; exact h1 h
  · rw [decide_eq_false h]; exact h2 h
theorem idx_dig {c : Nat} (hc : isDig c) (hA : A.handled = none) (h : Q (.int ((c : Int) - 48) s.toks) { s with toks := s.toks + 1 }) : wpAny (model PR w) A (call (.builtin "str.index") [.str DIG t, .str ⟨#[c]⟩ u]) Q E s := by
  have e : Txt.find DIG ⟨#[c]⟩ = (c : Int) - 48 := by
    obtain ⟨h1, h2⟩ := hc
    have : c = 48 ∨ c = 49 ∨ c = 50 ∨ c = 51 ∨ c = 52 ∨ c = 53 ∨ c = 54 ∨ c = 55 ∨ c = 56 ∨ c = 57 := by omega
    rcases this with rfl | rfl | rfl | rfl | rfl | rfl | rfl | rfl | rfl | rfl <;> decide +kernel
  refine index_or hA (fun z => ?_) (fun _ _ => ?_)
  · exfalso
    rw [e] at z
    have := hc.1
    omega
  · rw [e]; exact h
end
/-- what the loop reckons -/
def dv (l : List Nat) : Int := l.foldl (fun (a : Int) (c : Nat) => 10 * a + ((c : Int) - 48)) 0
theorem dv_snoc (l : List Nat) (c : Nat) : dv (l ++ [c]) = 10 * dv l + ((c : Int) - 48) := by simp [dv]
structure StepEnd (h₀ : Heap) (L : Addr) (m : Str → Option Value) (own news : List (Addr × Obj)) (v : Int) (c : Nat) (Q : Flow → Shared → Prop) (s : Shared) (f : Flow) (s₂ : Shared) : Prop where
  ends : (∃ r, f = .ret r ∧ Q (.ret r) s₂) ∨ (f = .next ∧ isDig c ∧ ∃ h' tk m₃, s₂ = { s with heap := h', toks := tk } ∧ Fr h₀ L h' m₃ ∧ News h₀ L h' (own ++ news) ∧ (∃ tk3, m₃ (Str.ofString "total") = some (.int (10 * v + ((c : Int) - 48)) tk3)) ∧ ∀ z, z ≠ Str.ofString "total" → z ≠ Str.ofString "sign" → m₃ z = m z)
section
variable {prog : Program} {w : World} {A : Around} {s : Shared} {env : Env} {h₀ : Heap} {E : Value → Shared → Prop} {Q : Flow → Shared → Prop} {m : Str → Option Value} {news : List (Addr × Obj)} {body : List Stmt} {y : Str} {t : Tok}
theorem for_dig {px pos : Pos} {iter : Expr} (_F : Fr h₀ env.locals s.heap m) (hx : env.kindOf (Str.ofString "sign") = some .local)
    (hp : (env.scope.kind == .class || (env.scope.kind == .module && env.locals != env.globals)) = false)
    (h : wpAny (model prog w) A (eval iter env) (fun xv s₁ => wpAny (model prog w) A (pyIter xv) (fun it s₂ => LoopAt3 prog w A h₀ env (Str.ofString "sign") body Q E it s₂) E s₁) E s)
    (hs : ∀ x, foldedSetIterable iter env x = pure x)
    (hE : PassesOwn (model prog w) A env E) :
    wpAny (model prog w) A (exec (.For (.Name (Str.ofString "sign") px) iter body [] pos) env) Q E s := For_inv3 h₀ hx hp h hs hE
theorem iter_dig (hh : A.handled = none) (F : Fr h₀ env.locals s.heap m) (N : News h₀ env.locals s.heap news) (h0 : ∃ tk, m (Str.ofString "total") = some (.int 0 tk))
    (step : ∀ i c u tk1 own h₁ tk2, y.cps.toList[i]? = some c → (∀ d ∈ y.cps.toList.take i, isDig d) →
      Fr h₀ env.locals h₁ (fun z => if z = Str.ofString "sign" then some (.str ⟨#[c]⟩ u) else if z = Str.ofString "total" then some (.int (dv (y.cps.toList.take i)) tk1) else m z) → News h₀ env.locals h₁ (own ++ news) →
      wpAny (model prog w) A (execs body env) (StepEnd h₀ env.locals m own news (dv (y.cps.toList.take i)) c Q { s with heap := h₁, toks := tk2 }) E { s with heap := h₁, toks := tk2 })
    (done : ∀ h' tk tk1 vl, (∀ d ∈ y.cps.toList, isDig d) → Fr h₀ env.locals h' (fun z => if z = Str.ofString "total" then some (.int (dv y.cps.toList) tk1) else if z = Str.ofString "sign" then vl else m z) → News h₀ env.locals h' news → Q .next { s with heap := h', toks := tk }) :
    wpAny (model prog w) A (pyIter (.str y t)) (fun it s₂ => LoopAt3 prog w A h₀ env (Str.ofString "sign") body Q E it s₂) E s := by
  refine Iter_signs3 hh F N (fun i m₁ news₁ => news₁ = news ∧ (∀ d ∈ y.cps.toList.take i, isDig d) ∧ (∃ tk, m₁ (Str.ofString "total") = some (.int (dv (y.cps.toList.take i)) tk)) ∧ ∀ z, z ≠ Str.ofString "total" → z ≠ Str.ofString "sign" → m₁ z = m z)
    ⟨rfl, fun d hd => by simp at hd, by simpa [dv] using h0, fun _ _ _ => rfl⟩ ?_ ?_
  · intro i k u m₁ news₁ s₁ own hs hk hJ hn hown F₁ N₁
    obtain ⟨hh₁, tk₁, rfl⟩ := hs
    obtain ⟨rfl, hd, ⟨tt, htot⟩, hoth⟩ := hJ
    obtain ⟨c, hc, rfl⟩ : ∃ c, y.cps.toList[i]? = some c ∧ k = ⟨#[c]⟩ := by
      unfold signs at hk
      rw [List.getElem?_map] at hk
      cases q : y.cps.toList[i]? with
      | none => rw [q] at hk; cases hk
      | some c => rw [q] at hk; exact ⟨c, rfl, (Option.some.inj hk).symm⟩
    have ef : (fun z => if z = Str.ofString "sign" then some (Value.str ⟨#[c]⟩ u) else m₁ z) = (fun z => if z = Str.ofString "sign" then some (Value.str ⟨#[c]⟩ u) else if z = Str.ofString "total" then some (.int (dv (y.cps.toList.take i)) tt) else m z) := by
      funext z
      by_cases z1 : z = Str.ofString "sign"
      · rw [if_pos z1, if_pos z1]
      · rw [if_neg z1, if_neg z1]
        by_cases z2 : z = Str.ofString "total"
        · rw [if_pos z2, z2]; exact htot
        · rw [if_neg z2]; exact hoth z z2 z1
    rw [ef] at F₁
    refine wpAny_mono (step i c u tt own hh₁ tk₁ hc hd F₁ N₁) (fun f s₂ hf => ?_) fun _ _ z => z
    rcases hf.ends with ⟨r, rfl, hq⟩ | ⟨rfl, hcd, h', tk, m₃, rfl, F₃, N₃, ⟨tk3, h3⟩, hoth3⟩
    · exact hq
    · refine ⟨rfl, h', tk, m₃, _, rfl, F₃, N₃, rfl, rfl, ?_, ?_, hoth3⟩
      · intro d hd'
        rw [List.take_add_one, hc] at hd'
        rcases List.mem_append.mp hd' with z | z
        · exact hd d z
        · have z2 : d = c := by simpa using z
          rw [z2]; exact hcd
      · refine ⟨tk3, ?_⟩
        rw [h3, List.take_add_one, hc]
        show some (Value.int (10 * dv (y.cps.toList.take i) + ((c : Int) - 48)) tk3) = some (.int (dv (y.cps.toList.take i ++ [c])) tk3)
        rw [dv_snoc]
  · intro h' tk m' news' F' N' hn hJ
    obtain ⟨hnn, hd, ⟨tt, htot⟩, hoth⟩ := hJ
    subst hnn
    have el : y.cps.toList.take (signs y).length = y.cps.toList := by
      rw [signs_length]
      show List.take y.cps.size _ = _
      rw [← Array.length_toList, List.take_length]
    rw [el] at hd htot
    refine done h' tk tt (m' (Str.ofString "sign")) hd ?_ N'
    have ef : (fun z => if z = Str.ofString "total" then some (Value.int (dv y.cps.toList) tt) else if z = Str.ofString "sign" then m' (Str.ofString "sign") else m z) = m' := by
      funext z
      by_cases z2 : z = Str.ofString "total"
      · rw [if_pos z2, z2, htot]
      · rw [if_neg z2]
        by_cases z1 : z = Str.ofString "sign"
        · rw [if_pos z1, z1]
        · rw [if_neg z1]; exact (hoth z z2 z1).symm
    rw [ef]; exact F'
end
/-! what `_law_read` reads, as plain words -/
abbrev PM : List Str := [Str.ofString "+", Str.ofString "-"]
abbrev days7 : List Str := [⟨#[83, 85]⟩, ⟨#[77, 79]⟩, ⟨#[84, 85]⟩, ⟨#[87, 69]⟩, ⟨#[84, 72]⟩, ⟨#[70, 82]⟩, ⟨#[83, 65]⟩]
def before (U : Str) : Str := if (PM.any fun x => x == Txt.slice U none (some 1)) = true then Txt.slice U none (some 1) else Str.empty
abbrev restK (U : Str) (k : Nat) : Str := Txt.slice U (some (k : Int)) none
def okK (U : Str) (k : Nat) : Prop := (days7.any fun x => x == Txt.slice (restK U k) (some (-2)) none) = true ∧ ¬ 4 < ((restK U k).length : Int) ∧ ∀ d ∈ (Txt.slice (restK U k) none (some (-2))).cps.toList, isDig d
def RVK (U b : Str) (k : Nat) (r : Value) : Prop := (dv (Txt.slice (restK U k) none (some (-2))).cps.toList = 0 ∧ r = .none) ∨
  (dv (Txt.slice (restK U k) none (some (-2))).cps.toList ≠ 0 ∧ ∃ tk, r = .int (if (b == Str.ofString "-") = true then 0 - dv (Txt.slice (restK U k) none (some (-2))).cps.toList else dv (Txt.slice (restK U k) none (some (-2))).cps.toList) tk)
theorem before_t {U : Str} (h : (PM.any fun x => x == Txt.slice U none (some 1)) = true) : before U = Txt.slice U none (some 1) := if_pos h
theorem before_f {U : Str} (h : (PM.any fun x => x == Txt.slice U none (some 1)) = false) : before U = Str.empty := if_neg (by rw [h]; decide)
theorem not1 {U : Str} {k : Nat} (h : (days7.any fun x => x == Txt.slice (restK U k) (some (-2)) none) = false) : ¬ okK U k := fun z => by rw [z.1] at h; cases h
theorem not2 {U : Str} {k : Nat} (h : 4 < ((restK U k).length : Int)) : ¬ okK U k := fun z => z.2.1 h
theorem not3 {U : Str} {k i c : Nat} (h : (Txt.slice (restK U k) none (some (-2))).cps.toList[i]? = some c) (hn : ¬ isDig c) : ¬ okK U k := fun z => hn (z.2.2 c (List.mem_of_getElem? h))
theorem ok_of {U : Str} {k : Nat} (h1 : (days7.any fun x => x == Txt.slice (restK U k) (some (-2)) none) = true) (h2 : ¬ 4 < ((restK U k).length : Int)) (h3 : ∀ d ∈ (Txt.slice (restK U k) none (some (-2))).cps.toList, isDig d) : okK U k := ⟨h1, h2, h3⟩
theorem rv_none {U b : Str} {k : Nat} (h : dv (Txt.slice (restK U k) none (some (-2))).cps.toList = 0) : RVK U b k .none := .inl ⟨h, rfl⟩
theorem rv_neg {U b : Str} {k : Nat} {tk : Tok} (h : ¬ dv (Txt.slice (restK U k) none (some (-2))).cps.toList = 0) (hb : (b == Str.ofString "-") = true) : RVK U b k (.int (0 - dv (Txt.slice (restK U k) none (some (-2))).cps.toList) tk) := .inr ⟨h, tk, by rw [if_pos hb]⟩
theorem rv_pos {U b : Str} {k : Nat} {tk : Tok} (h : ¬ dv (Txt.slice (restK U k) none (some (-2))).cps.toList = 0) (hb : (b == Str.ofString "-") = false) : RVK U b k (.int (dv (Txt.slice (restK U k) none (some (-2))).cps.toList) tk) := .inr ⟨h, tk, by rw [if_neg (by rw [hb]; decide)]⟩
theorem rv_neg' {U b : Str} {k : Nat} {tk : Tok} {v : Int} (h : ¬ dv (Txt.slice (restK U k) none (some (-2))).cps.toList = 0) (hb : (b == Str.ofString "-") = true) (hv : v = 0 - dv (Txt.slice (restK U k) none (some (-2))).cps.toList) : RVK U b k (.int v tk) := hv ▸ rv_neg h hb
theorem rv_pos' {U b : Str} {k : Nat} {tk : Tok} {v : Int} (h : ¬ dv (Txt.slice (restK U k) none (some (-2))).cps.toList = 0) (hb : (b == Str.ofString "-") = false) (hv : v = dv (Txt.slice (restK U k) none (some (-2))).cps.toList) : RVK U b k (.int v tk) := hv ▸ rv_pos h hb
abbrev tup2 (a b : Value) : Obj := { cls := .type "tuple", data := .seq #[a, b] }
end Mine
end

/-! ## L1 -/
section
open PySem PySem.W PyProof.Rows PySem.Calls PySem.Spec
set_option maxRecDepth 100000
namespace Mine
theorem fillL1 : (fun (_ : Params → Frag) (_ : OpenLaw) => True) Mine.hd.heap_39 PySem.Challenge.rw_fc0077_01 := by k_fill; trivial
local macro_rules | `(tactic| walk_at "my_step") => `(tactic| first | (k_unfold; (try dsimp only)) | (k_end; wrow_close) | walk1 | (dsimp only; walk1) | (leave1; walk_say "STEP leave1"; try dsimp only))
local macro_rules | `(tactic| walk_at "my_enterP") => `(tactic| (refine' code_def ?k1 ?k2 ?k3 ?k4 ?k5 ?kA ?kF ?kK ?k6 ?k7 ?k8 ?k9 ?kB ?_ ?c2 ?c3 ?c4 ?c5; (case kA => exact rfl); (case kF => exact rfl); (case kK => first | exact rfl | assumption); (case k1 => k_asm); (case k2 => k_asm); (case k3 => k_asm); (case k4 => k_asm); (case k5 => k_asm); (case k6 => k_is); (case k7 => k_is); (case k8 => ktr_room); (case k9 => first | exact BindsTo.of_eq rfl | exact binds_K (by k_in) rfl (by k_is) rfl rfl rfl); (case c5 => decide); (case kB => exact locs rfl); (case c2 => exact rfl); (case c3 => exact rfl); (case c4 => exact rfl); intro g' L' h' FG' F' N' B' X' T'; (try dsimp only); (try k_lift B')))
local macro_rules | `(tactic| walk_at "call ref") => `(tactic| (k_here; (with_reducible show wpAny _ _ (call (Value.ref 378) _) _ _ _); k_dflt (refine' wp_wide (by rfl) (Nat.le_of_ble_eq_true rfl) (Nat.le_of_ble_eq_true rfl) (x_days ?k1 ?k2 ?k3 ?_); (case k1 => k_asm); (case k2 => k_in); (case k3 => k_asm); intro x' t' h' tk' F' N')))
local macro_rules | `(tactic| walk_at "exec For Name Subscript cons nil") => `(tactic| (k_here; (rename Fr _ _ _ _ => lF'); k_dflt (refine' for_dig lF' ?k1 ?k2 ?_ ?k3 ?k4; (case k1 => exact rfl); (case k2 => exact rfl); (case k3 => exact fun _ => rfl); (case k4 => passes_own))))
local macro_rules | `(tactic| walk_at "pyIter str") => `(tactic| (k_here; (rename Fr _ _ _ _ => lF'); (rename News _ _ _ _ => lN'); k_dflt (refine' iter_dig ?k1 lF' lN' ?k2 ?_ ?_; (case k1 => exact rfl); (case k2 => exact ⟨_, rfl⟩)); rotate_left; (intro h' tk' tk1' vl' hd' F' N'); rotate_right; (intro i' c' u' tk1' own' h' tk2' hc' hd' F' N')))
local macro_rules | `(tactic| walk_at "compareOp NotIn str str") => `(tactic| (k_here; k_dflt (refine' notIn_two ?_ ?_); (intro hdg'); rotate_left; (intro hnd'); rotate_right))
local macro_rules | `(tactic| walk_at "call builtin:str.index") => `(tactic| (k_here; k_dflt (refine' idx_dig ?k1 ?k2 ?_; (case k2 => exact rfl); (case k1 => assumption))))
local macro_rules | `(tactic| walk_at "StepEnd") => `(tactic| (first
  | (refine ⟨.inl ⟨_, rfl, ?_⟩⟩)
  | (refine' ⟨.inr ⟨rfl, ?d, _, _, _, rfl, ?F, ?N, ⟨_, ?t⟩, ?o⟩⟩; (case d => assumption); (case F => k_asm); (case N => k_asm); (case t => rfl); (case o => intro z z1 z2; simp only [if_neg z1, if_neg z2]))))
theorem news_13 {h₀ h : Heap} {L : Addr} {a b c d : Addr × Obj} {news : List (Addr × Obj)} (N : News h₀ L h (a :: b :: c :: d :: news)) : News h₀ L h (a :: news) := fun p hp => N p (by
  rcases List.mem_cons.mp hp with rfl | hp
  · exact List.Mem.head _
  · exact List.Mem.tail _ (List.Mem.tail _ (List.Mem.tail _ (List.Mem.tail _ hp))))
set_option maxHeartbeats 0 in
theorem read_c {w : World} {mean : ExcName → Option Value} {mg mb : Str → Option Value} {T0 : Str} {tt : Tok} (hT : T0.length ≤ 9)
   {gd : Option (List Code)} {cn : Str} {cs : Scope} {aa : Addr} {ccd : Value} {cl : List (Str × Addr)} {outer : List Env} {A₀ : Around} {base h₀ : Heap} {L : Addr} {m : Str → Option Value} {news : List (Addr × Obj)} {s : Shared} {Q E : Value → Shared → Prop}
   (B : Below A₀ base outer h₀) (F : Fr h₀ L s.heap m) (X : (Mine.hd.heap_39 w.params).In h₀) (N : News h₀ L s.heap news) (T : Top Mine.hd.view_39 LOOSE mean mg mb h₀) (hk : cs.kind = .function)
   (hnone : ∀ b k h' tk', before (Txt.upper T0) = b → k = b.length → ¬ okK (Txt.upper T0) k → Fr h₀ L h' m → News h₀ L h' news → Q .none { s with heap := h', toks := tk' })
   (htup : ∀ b k D t r h' tk', before (Txt.upper T0) = b → k = b.length → okK (Txt.upper T0) k → RVK (Txt.upper T0) b k r → Fr h₀ L h' m → News h₀ L h' ((D, tup2 (.str (Txt.slice (restK (Txt.upper T0) k) (some (-2)) none) t) r) :: news) → Q (.ref D) { s with heap := h', toks := tk' }) :
   wpAny (model PySem.Challenge.rw_fc0077_01.row.prog w) (ktrTop 360 160 gd cn cs L aa ccd cl outer) (call (.ref 390) [.str T0 tt]) Q E s := by
  refine wpAny_call ?_
  w_top off
  k_dflt (walk_at "my_enterP")
  repeat' (walk_at "my_step")
  all_goals (with_reducible rename News h₀ L _ _ => NL; with_reducible rename Fr h₀ L _ m => FL)
  all_goals (first
    | (have hBL := before_t (U := Txt.upper T0) (by with_reducible assumption); first
      | (refine hnone _ _ _ _ hBL rfl ?_ FL (fun p hp => NL p (by repeat (first | exact hp | apply List.Mem.tail | apply List.mem_append_right))); first | exact not1 (by with_reducible assumption) | exact not2 (by with_reducible assumption) | (with_reducible rename ¬ isDig _ => hnL; with_reducible rename (Array.toList _)[_]? = some _ => hcL; exact not3 hcL hnL))
      | (refine htup _ _ _ _ _ _ _ hBL rfl (ok_of (by with_reducible assumption) (by with_reducible assumption) (by with_reducible assumption)) ?_ FL (news_13 NL); first | exact rv_none (by with_reducible assumption) | exact rv_neg' (by with_reducible assumption) (by with_reducible assumption) (by with_reducible rfl) | exact rv_pos' (by with_reducible assumption) (by with_reducible assumption) (by with_reducible rfl)))
    | (have hBL := before_f (U := Txt.upper T0) (by with_reducible assumption); first
      | (refine hnone Str.empty 0 _ _ hBL rfl ?_ FL (fun p hp => NL p (by repeat (first | exact hp | apply List.Mem.tail | apply List.mem_append_right))); first | exact not1 (by with_reducible assumption) | exact not2 (by with_reducible assumption) | (with_reducible rename ¬ isDig _ => hnL; with_reducible rename (Array.toList _)[_]? = some _ => hcL; exact not3 hcL hnL))
      | (refine htup Str.empty 0 _ _ _ _ _ hBL rfl (ok_of (by with_reducible assumption) (by with_reducible assumption) (by with_reducible assumption)) ?_ FL (news_13 NL); first | exact rv_none (by with_reducible assumption) | exact rv_pos' (by with_reducible assumption) (by decide) (by with_reducible rfl)))
    | fail "no end")
end Mine
end

/-! ## PL1 -/
section
open PySem PySem.W PyProof.Rows PySem.Calls PySem.Spec
set_option maxRecDepth 100000
namespace Mine
open RE
/-- the letters that stand after `upper` -/
def upc (c : Nat) : Prop := (65 ≤ c ∧ c ≤ 90) ∨ (48 ≤ c ∧ c ≤ 57) ∨ c = 43 ∨ c = 45 ∨ c = 32 ∨ c = 1633 ∨ c = 10 ∨ c = 95
def upa (c : Nat) : Nat := if c < 128 then up1 c else c
theorem upperOf_al {c : Nat} (h : c < 128 ∨ c = 1633) : Unicode.upperOf c = [upa c] := by
  rcases h with h | rfl
  · rw [upperOf_ascii c h]; unfold upa; rw [if_pos h]
  · decide +kernel
theorem upper_al {x : Str} (hA : ∀ c ∈ x.cps.toList, c < 128 ∨ c = 1633) : Txt.upper x = ⟨x.cps.map upa⟩ := by
  unfold Txt.upper
  rw [placed_single x _ upa fun i c hc => upperOf_al (hA c (List.mem_of_getElem? hc))]
theorem word_up {c : Nat} (h : upc c) : PySem.Sre.isWordUni c = true → c ≠ 43 ∧ c ≠ 45 := by
  intro hw
  constructor <;> (rintro rfl; revert hw; decide +kernel)
theorem first_eq : ∀ (l : List Nat), l.length ≤ 9 → Txt.slice ⟨⟨l⟩⟩ none (some 1) = ⟨⟨l.take 1⟩⟩
  | [], _ => by kernel_rfl
  | [a], _ => by kernel_rfl
  | [a, b], _ => by kernel_rfl
  | [a, b, c], _ => by kernel_rfl
  | [a, b, c, d], _ => by kernel_rfl
  | [a, b, c, d, e], _ => by kernel_rfl
  | [a, b, c, d, e, f], _ => by kernel_rfl
  | [a, b, c, d, e, f, g], _ => by kernel_rfl
  | [a, b, c, d, e, f, g, h], _ => by kernel_rfl
  | [a, b, c, d, e, f, g, h, i], _ => by kernel_rfl
  | _ :: _ :: _ :: _ :: _ :: _ :: _ :: _ :: _ :: _ :: _, h => by simp at h
theorem last2_eq : ∀ (l : List Nat), l.length ≤ 9 → Txt.slice ⟨⟨l⟩⟩ (some (-2)) none = ⟨⟨l.drop (l.length - 2)⟩⟩
  | [], _ => by kernel_rfl
  | [a], _ => by kernel_rfl
  | [a, b], _ => by kernel_rfl
  | [a, b, c], _ => by kernel_rfl
  | [a, b, c, d], _ => by kernel_rfl
  | [a, b, c, d, e], _ => by kernel_rfl
  | [a, b, c, d, e, f], _ => by kernel_rfl
  | [a, b, c, d, e, f, g], _ => by kernel_rfl
  | [a, b, c, d, e, f, g, h], _ => by kernel_rfl
  | [a, b, c, d, e, f, g, h, i], _ => by kernel_rfl
  | _ :: _ :: _ :: _ :: _ :: _ :: _ :: _ :: _ :: _ :: _, h => by simp at h
theorem init2_eq : ∀ (l : List Nat), l.length ≤ 9 → Txt.slice ⟨⟨l⟩⟩ none (some (-2)) = ⟨⟨l.take (l.length - 2)⟩⟩
  | [], _ => by kernel_rfl
  | [a], _ => by kernel_rfl
  | [a, b], _ => by kernel_rfl
  | [a, b, c], _ => by kernel_rfl
  | [a, b, c, d], _ => by kernel_rfl
  | [a, b, c, d, e], _ => by kernel_rfl
  | [a, b, c, d, e, f], _ => by kernel_rfl
  | [a, b, c, d, e, f, g], _ => by kernel_rfl
  | [a, b, c, d, e, f, g, h], _ => by kernel_rfl
  | [a, b, c, d, e, f, g, h, i], _ => by kernel_rfl
  | _ :: _ :: _ :: _ :: _ :: _ :: _ :: _ :: _ :: _ :: _, h => by simp at h
theorem rest0_eq : ∀ (l : List Nat), l.length ≤ 9 → restK ⟨⟨l⟩⟩ 0 = ⟨⟨l⟩⟩
  | [], _ => by kernel_rfl
  | [a], _ => by kernel_rfl
  | [a, b], _ => by kernel_rfl
  | [a, b, c], _ => by kernel_rfl
  | [a, b, c, d], _ => by kernel_rfl
  | [a, b, c, d, e], _ => by kernel_rfl
  | [a, b, c, d, e, f], _ => by kernel_rfl
  | [a, b, c, d, e, f, g], _ => by kernel_rfl
  | [a, b, c, d, e, f, g, h], _ => by kernel_rfl
  | [a, b, c, d, e, f, g, h, i], _ => by kernel_rfl
  | _ :: _ :: _ :: _ :: _ :: _ :: _ :: _ :: _ :: _ :: _, h => by simp at h
theorem rest1_eq : ∀ (l : List Nat), l.length ≤ 9 → restK ⟨⟨l⟩⟩ 1 = ⟨⟨l.drop 1⟩⟩
  | [], _ => by kernel_rfl
  | [a], _ => by kernel_rfl
  | [a, b], _ => by kernel_rfl
  | [a, b, c], _ => by kernel_rfl
  | [a, b, c, d], _ => by kernel_rfl
  | [a, b, c, d, e], _ => by kernel_rfl
  | [a, b, c, d, e, f], _ => by kernel_rfl
  | [a, b, c, d, e, f, g], _ => by kernel_rfl
  | [a, b, c, d, e, f, g, h], _ => by kernel_rfl
  | [a, b, c, d, e, f, g, h, i], _ => by kernel_rfl
  | _ :: _ :: _ :: _ :: _ :: _ :: _ :: _ :: _ :: _ :: _, h => by simp at h
end Mine
end

/-! ## PL2 -/
section
open PySem PySem.W PyProof.Rows PySem.Calls PySem.Spec
set_option maxRecDepth 100000
namespace Mine
open RE
theorem str_eq (l m : List Nat) : ((⟨⟨l⟩⟩ : Str) == ⟨⟨m⟩⟩) = decide (l = m) := by
  by_cases h : l = m
  · subst h; simp
  · rw [decide_eq_false h]
    exact beq_eq_false_iff_ne.mpr fun e => h (by injection e with e; injection e)
abbrev dayL (l : List Nat) : Prop := l = [83, 85] ∨ l = [77, 79] ∨ l = [84, 85] ∨ l = [87, 69] ∨ l = [84, 72] ∨ l = [70, 82] ∨ l = [83, 65]
theorem days7_iff (l : List Nat) : (days7.any fun x => x == (⟨⟨l⟩⟩ : Str)) = true ↔ dayL l := by
  simp only [List.any_cons, List.any_nil, Bool.or_false, Bool.or_eq_true]
  have h : ∀ m : List Nat, (((⟨⟨m⟩⟩ : Str) == ⟨⟨l⟩⟩) = true) ↔ l = m := fun m => by rw [str_eq]; simp [eq_comm]
  rw [h, h, h, h, h, h, h]
theorem isDay_iff (l : List Nat) : isDay (⟨⟨l⟩⟩ : Str) = true ↔ dayL l := by
  have e : isDay (⟨⟨l⟩⟩ : Str) = (days7.any fun x => x == (⟨⟨l⟩⟩ : Str)) := by
    unfold isDay
    rfl
  rw [e, days7_iff]
theorem day_word {a b : Nat} (h : dayL [a, b]) : PySem.Sre.isWordUni a = true ∧ PySem.Sre.isWordUni b = true := by
  rcases h with h | h | h | h | h | h | h <;> (injection h with h1 h2; injection h2 with h2 _; subst h1 h2; decide +kernel)
theorem upa_up {c : Nat} (h : upc c) : upa c = c := by
  unfold upa
  split
  · unfold up1
    rw [if_neg]
    rcases h with h | h | h | h | h | h | h | h <;> omega
  · rfl
theorem upper_up {l : List Nat} (h : ∀ c ∈ l, upc c) : Txt.upper ⟨⟨l⟩⟩ = ⟨⟨l⟩⟩ := by
  rw [upper_al (fun c hc => by rcases h c hc with h | h | h | h | h | h | h | h <;> omega)]
  congr 1
  apply Array.toList_inj.mp
  rw [Array.toList_map]
  show l.map upa = l
  conv => rhs; rw [← List.map_id l]
  exact List.map_congr_left fun c hc => upa_up (h c hc)
end Mine
end

/-! ## PL3 -/
section
open PySem PySem.W PyProof.Rows PySem.Calls PySem.Spec
set_option maxRecDepth 100000
namespace Mine
open RE
def sgn : List Nat → Nat
  | [] => 0
  | c :: _ => if c = 43 ∨ c = 45 then 1 else 0
theorem sgn_le (l : List Nat) : sgn l = 0 ∨ sgn l = 1 := by
  cases l with
  | nil => exact .inl rfl
  | cons c r =>
    show (if c = 43 ∨ c = 45 then 1 else 0) = 0 ∨ (if c = 43 ∨ c = 45 then 1 else 0) = 1
    by_cases h : c = 43 ∨ c = 45
    · rw [if_pos h]; exact .inr rfl
    · rw [if_neg h]; exact .inl rfl
theorem pm_any (l : List Nat) : (PM.any fun x => x == (⟨⟨l⟩⟩ : Str)) = decide (l = [43] ∨ l = [45]) := by
  have e : (PM.any fun x => x == (⟨⟨l⟩⟩ : Str)) = (((⟨⟨[43]⟩⟩ : Str) == ⟨⟨l⟩⟩) || ((⟨⟨[45]⟩⟩ : Str) == ⟨⟨l⟩⟩)) := by
    have h1 : Str.ofString "+" = ⟨⟨[43]⟩⟩ := by decide +kernel
    have h2 : Str.ofString "-" = ⟨⟨[45]⟩⟩ := by decide +kernel
    simp only [List.any_cons, List.any_nil, Bool.or_false, h1, h2]
  rw [e, str_eq, str_eq]
  simp only [eq_comm (a := l)]
  by_cases a : [43] = l <;> by_cases b : [45] = l <;> simp [a, b]
theorem before_eq {l : List Nat} (hl : l.length ≤ 9) : before ⟨⟨l⟩⟩ = ⟨⟨l.take (sgn l)⟩⟩ := by
  unfold before
  rw [first_eq l hl, pm_any]
  cases l with
  | nil => rfl
  | cons c r =>
    show (if decide ([c] = [43] ∨ [c] = [45]) = true then (⟨⟨[c]⟩⟩ : Str) else Str.empty) = _
    by_cases h : c = 43 ∨ c = 45
    · have : sgn (c :: r) = 1 := if_pos h
      rw [this, if_pos (by simpa using h)]; rfl
    · have : sgn (c :: r) = 0 := if_neg h
      rw [this, if_neg (by simpa using h)]; rfl
theorem before_len {l : List Nat} (hl : l.length ≤ 9) : (before ⟨⟨l⟩⟩).length = sgn l := by
  rw [before_eq hl]
  show (l.take (sgn l)).length = sgn l
  cases l with
  | nil => rfl
  | cons c r => rcases sgn_le (c :: r) with h | h <;> rw [h] <;> simp
theorem rest_eq {l : List Nat} (hl : l.length ≤ 9) : restK ⟨⟨l⟩⟩ (sgn l) = ⟨⟨l.drop (sgn l)⟩⟩ := by
  rcases sgn_le l with h | h <;> rw [h]
  · rw [rest0_eq l hl]; rfl
  · exact rest1_eq l hl
def okL (m : List Nat) : Prop := dayL (m.drop (m.length - 2)) ∧ m.length ≤ 4 ∧ ∀ d ∈ m.take (m.length - 2), isDig d
theorem ok_iff {l : List Nat} (hl : l.length ≤ 9) : okK ⟨⟨l⟩⟩ (sgn l) ↔ okL (l.drop (sgn l)) := by
  have hm : (l.drop (sgn l)).length ≤ 9 := by rw [List.length_drop]; omega
  unfold okK okL
  rw [rest_eq hl, last2_eq _ hm, init2_eq _ hm, days7_iff]
  refine and_congr Iff.rfl (and_congr ?_ Iff.rfl)
  show ¬ 4 < (((l.drop (sgn l)).length : Nat) : Int) ↔ _
  omega
def goodL (l : List Nat) : Prop := (fits ⟨l⟩ l.length 0 = true ∨ fits ⟨l⟩ l.length 1 = true) ∧ dayL (l.drop (l.length - 2))
theorem good_iff {l : List Nat} (hu : ∀ c ∈ l, upc c) : good ⟨⟨l⟩⟩ ↔ goodL l := by
  unfold good goodL
  have e : (⟨(⟨l⟩ : Array Nat).extract ((⟨l⟩ : Array Nat).size - 2) (⟨l⟩ : Array Nat).size⟩ : Str) = ⟨⟨l.drop (l.length - 2)⟩⟩ := by
    congr 1
    apply Array.toList_inj.mp
    rw [Array.toList_extract]
    show (l.drop (l.length - 2)).take (l.length - (l.length - 2)) = l.drop (l.length - 2)
    rw [List.take_of_length_le]
    rw [List.length_drop]
    exact Nat.le_refl _
  show (fits ⟨l⟩ l.length 0 = true ∨ fits ⟨l⟩ l.length 1 = true) ∧ isDay (Txt.upper _) = true ↔ _
  rw [e, upper_up (fun c hc => hu c (List.mem_of_mem_drop hc)), isDay_iff]
end Mine
end

/-! ## PL4 -/
section
open PySem PySem.W PyProof.Rows PySem.Calls PySem.Spec
set_option maxRecDepth 100000
namespace Mine
open RE
theorem isDig_iff (c : Nat) : okDigit c = true ↔ isDig c := by unfold okDigit isDig; simp
theorem okSign_iff (c : Nat) : okSign c = true ↔ (c = 43 ∨ c = 45) := by unfold okSign; simp
theorem sgn_yes {c : Nat} {r : List Nat} (h : c = 43 ∨ c = 45) : sgn (c :: r) = 1 := if_pos h
theorem sgn_no {c : Nat} {r : List Nat} (h : ¬ (c = 43 ∨ c = 45)) : sgn (c :: r) = 0 := if_neg h
theorem fits20 (a b : Nat) : fits ⟨[a, b]⟩ 2 0 = (PySem.Sre.isWordUni a && PySem.Sre.isWordUni b) := by unfold fits; simp
theorem fits30 (a b c : Nat) : fits ⟨[a, b, c]⟩ 3 0 = (okDigit a && PySem.Sre.isWordUni b && PySem.Sre.isWordUni c) := by unfold fits; simp
theorem fits31 (a b c : Nat) : fits ⟨[a, b, c]⟩ 3 1 = (okSign a && PySem.Sre.isWordUni b && PySem.Sre.isWordUni c) := by unfold fits; simp
theorem fits40 (a b c d : Nat) : fits ⟨[a, b, c, d]⟩ 4 0 = (okDigit a && okDigit b && PySem.Sre.isWordUni c && PySem.Sre.isWordUni d) := by unfold fits; simp
theorem fits41 (a b c d : Nat) : fits ⟨[a, b, c, d]⟩ 4 1 = (okSign a && okDigit b && PySem.Sre.isWordUni c && PySem.Sre.isWordUni d) := by unfold fits; simp
theorem fits51 (a b c d e : Nat) : fits ⟨[a, b, c, d, e]⟩ 5 1 = (okSign a && okDigit b && okDigit c && PySem.Sre.isWordUni d && PySem.Sre.isWordUni e) := by unfold fits; simp
theorem fits_long {l : Array Nat} {n a : Nat} (h : ¬ n ≤ a + 4) : fits l n a = false := by unfold fits; simp [h]
theorem fits_short {l : Array Nat} {n a : Nat} (h : ¬ a + 2 ≤ n) : fits l n a = false := by unfold fits; simp [h]
theorem word_sign {a : Nat} (h : a = 43 ∨ a = 45) : PySem.Sre.isWordUni a = false := by rcases h with rfl | rfl <;> decide +kernel
theorem dig_sign {a : Nat} (h : a = 43 ∨ a = 45) : okDigit a = false := by rcases h with rfl | rfl <;> decide +kernel
theorem sign_no {a : Nat} (h : ¬ (a = 43 ∨ a = 45)) : okSign a = false := by
  cases q : okSign a with
  | false => rfl
  | true => exact absurd ((okSign_iff a).mp q) h
theorem law_eq : ∀ (l : List Nat), okL (l.drop (sgn l)) ↔ goodL l
  | [] => by
    constructor
    · intro h; rcases h.1 with h | h | h | h | h | h | h <;> cases h
    · intro h; rcases h.2 with h | h | h | h | h | h | h <;> cases h
  | [a] => by
    constructor
    · intro h
      have h1 := h.1
      rcases sgn_le [a] with q | q <;> rw [q] at h1 <;> (rcases h1 with h | h | h | h | h | h | h <;> cases h)
    · intro h; rcases h.2 with h | h | h | h | h | h | h <;> cases h
  | [a, b] => by
    by_cases hs : a = 43 ∨ a = 45
    · rw [sgn_yes hs]
      constructor
      · intro h
        have h1 := h.1
        rcases h1 with h | h | h | h | h | h | h <;> cases h
      · intro h
        have h1 : dayL [a, b] := h.2
        have := (day_word h1).1
        rw [word_sign hs] at this; cases this
    · rw [sgn_no hs]
      constructor
      · intro h
        have h1 : dayL [a, b] := h.1
        refine ⟨.inl ?_, h1⟩
        show fits ⟨[a, b]⟩ 2 0 = true
        rw [fits20, (day_word h1).1, (day_word h1).2]; rfl
      · intro h
        exact ⟨h.2, by simp, fun d hd => by cases hd⟩
  | [a, b, c] => by
    by_cases hs : a = 43 ∨ a = 45
    · rw [sgn_yes hs]
      constructor
      · intro h
        have h1 : dayL [b, c] := h.1
        refine ⟨.inr ?_, h1⟩
        show fits ⟨[a, b, c]⟩ 3 1 = true
        rw [fits31, (day_word h1).1, (day_word h1).2, (okSign_iff a).mpr hs]; rfl
      · intro h
        exact ⟨h.2, by simp, fun d hd => by cases hd⟩
    · rw [sgn_no hs]
      constructor
      · intro h
        have h1 : dayL [b, c] := h.1
        have h2 : isDig a := h.2.2 a (List.Mem.head _)
        refine ⟨.inl ?_, h1⟩
        show fits ⟨[a, b, c]⟩ 3 0 = true
        rw [fits30, (day_word h1).1, (day_word h1).2, (isDig_iff a).mpr h2]; rfl
      · intro h
        have h3 : fits ⟨[a, b, c]⟩ 3 0 = true := h.1.resolve_right fun z => by
          have z : fits ⟨[a, b, c]⟩ 3 1 = true := z
          rw [fits31, sign_no hs] at z; cases z
        rw [fits30] at h3
        simp only [Bool.and_eq_true] at h3
        refine ⟨h.2, by simp, fun d hd => ?_⟩
        have hd : d ∈ [a] := hd
        rw [List.mem_singleton.mp hd]; exact (isDig_iff a).mp h3.1.1
  | [a, b, c, d] => by
    by_cases hs : a = 43 ∨ a = 45
    · rw [sgn_yes hs]
      constructor
      · intro h
        have h1 : dayL [c, d] := h.1
        have h2 : isDig b := h.2.2 b (List.Mem.head _)
        refine ⟨.inr ?_, h1⟩
        show fits ⟨[a, b, c, d]⟩ 4 1 = true
        rw [fits41, (day_word h1).1, (day_word h1).2, (okSign_iff a).mpr hs, (isDig_iff b).mpr h2]; rfl
      · intro h
        have h3 : fits ⟨[a, b, c, d]⟩ 4 1 = true := h.1.resolve_left fun z => by
          have z : fits ⟨[a, b, c, d]⟩ 4 0 = true := z
          rw [fits40, dig_sign hs] at z; cases z
        rw [fits41] at h3
        simp only [Bool.and_eq_true] at h3
        refine ⟨h.2, by simp, fun x hx => ?_⟩
        have hx : x ∈ [b] := hx
        rw [List.mem_singleton.mp hx]; exact (isDig_iff b).mp h3.1.1.2
    · rw [sgn_no hs]
      constructor
      · intro h
        have h1 : dayL [c, d] := h.1
        have h2 : isDig a := h.2.2 a (List.Mem.head _)
        have h4 : isDig b := h.2.2 b (List.Mem.tail _ (List.Mem.head _))
        refine ⟨.inl ?_, h1⟩
        show fits ⟨[a, b, c, d]⟩ 4 0 = true
        rw [fits40, (day_word h1).1, (day_word h1).2, (isDig_iff a).mpr h2, (isDig_iff b).mpr h4]; rfl
      · intro h
        have h3 : fits ⟨[a, b, c, d]⟩ 4 0 = true := h.1.resolve_right fun z => by
          have z : fits ⟨[a, b, c, d]⟩ 4 1 = true := z
          rw [fits41, sign_no hs] at z; cases z
        rw [fits40] at h3
        simp only [Bool.and_eq_true] at h3
        refine ⟨h.2, by simp, fun x hx => ?_⟩
        have hx : x ∈ [a, b] := hx
        rcases List.mem_cons.mp hx with rfl | hx
        · exact (isDig_iff _).mp h3.1.1.1
        · rw [List.mem_singleton.mp hx]; exact (isDig_iff b).mp h3.1.1.2
  | [a, b, c, d, e] => by
    by_cases hs : a = 43 ∨ a = 45
    · rw [sgn_yes hs]
      constructor
      · intro h
        have h1 : dayL [d, e] := h.1
        have h2 : isDig b := h.2.2 b (List.Mem.head _)
        have h4 : isDig c := h.2.2 c (List.Mem.tail _ (List.Mem.head _))
        refine ⟨.inr ?_, h1⟩
        show fits ⟨[a, b, c, d, e]⟩ 5 1 = true
        rw [fits51, (day_word h1).1, (day_word h1).2, (okSign_iff a).mpr hs, (isDig_iff b).mpr h2, (isDig_iff c).mpr h4]; rfl
      · intro h
        have h3 : fits ⟨[a, b, c, d, e]⟩ 5 1 = true := h.1.resolve_left fun z => by
          have z : fits ⟨[a, b, c, d, e]⟩ 5 0 = true := z
          rw [fits_long (by omega)] at z; cases z
        rw [fits51] at h3
        simp only [Bool.and_eq_true] at h3
        refine ⟨h.2, by simp, fun x hx => ?_⟩
        have hx : x ∈ [b, c] := hx
        rcases List.mem_cons.mp hx with rfl | hx
        · exact (isDig_iff _).mp h3.1.1.1.2
        · rw [List.mem_singleton.mp hx]; exact (isDig_iff c).mp h3.1.1.2
    · rw [sgn_no hs]
      constructor
      · intro h
        have h2 := h.2.1
        simp at h2
      · intro h
        exfalso
        rcases h.1 with z | z
        · have z : fits ⟨[a, b, c, d, e]⟩ 5 0 = true := z
          rw [fits_long (by omega)] at z; cases z
        · have z : fits ⟨[a, b, c, d, e]⟩ 5 1 = true := z
          rw [fits51, sign_no hs] at z; cases z
  | a :: b :: c :: d :: e :: f :: r => by
    constructor
    · intro h
      have h2 := h.2.1
      rw [List.length_drop] at h2
      have h3 : (a :: b :: c :: d :: e :: f :: r).length = r.length + 6 := by simp
      rcases sgn_le (a :: b :: c :: d :: e :: f :: r) with q | q <;> rw [q, h3] at h2 <;> omega
    · intro h
      exfalso
      have h3 : (a :: b :: c :: d :: e :: f :: r).length = r.length + 6 := by simp
      rcases h.1 with z | z
      · rw [fits_long (by rw [h3]; omega)] at z; cases z
      · rw [fits_long (by rw [h3]; omega)] at z; cases z
end Mine
end

/-! ## PL5 -/
section
open PySem PySem.W PyProof.Rows PySem.Calls PySem.Spec
set_option maxRecDepth 100000
namespace Mine
open RE
theorem fits_sgn : ∀ {l : List Nat} {a : Nat}, a ≤ 1 → fits ⟨l⟩ l.length a = true → a = sgn l
  | [], a, _, h => by rw [fits_short (by simp)] at h; cases h
  | [x], a, _, h => by rw [fits_short (by simp)] at h; cases h
  | x :: y :: r, a, ha, h => by
    by_cases hs : x = 43 ∨ x = 45
    · rw [sgn_yes hs]
      have : a = 0 ∨ a = 1 := by omega
      rcases this with rfl | rfl
      · exfalso
        unfold fits at h
        simp only [Bool.and_eq_true, Bool.or_eq_true] at h
        obtain ⟨⟨⟨⟨⟨⟨h1, h2⟩, h3⟩, h4⟩, h5⟩, h6⟩, h7⟩ := h
        cases r with
        | nil =>
          have h6 : PySem.Sre.isWordUni x = true := h6
          rw [word_sign hs] at h6; cases h6
        | cons z r =>
          rcases h4 with h4 | h4
          · simp at h4
          · have h4 : okDigit x = true := h4
            rw [dig_sign hs] at h4; cases h4
      · rfl
    · rw [sgn_no hs]
      have : a = 0 ∨ a = 1 := by omega
      rcases this with rfl | rfl
      · rfl
      · exfalso
        unfold fits at h
        simp only [Bool.and_eq_true, Bool.or_eq_true] at h
        obtain ⟨⟨⟨⟨⟨⟨h1, h2⟩, h3⟩, h4⟩, h5⟩, h6⟩, h7⟩ := h
        rcases h3 with h3 | h3
        · simp at h3
        · have h3 : okSign x = true := h3
          rw [sign_no hs] at h3; cases h3
end Mine
end

/-! ## PL6 -/
section
open PySem PySem.W PyProof.Rows PySem.Calls PySem.Spec
set_option maxRecDepth 100000
namespace Mine
open RE
theorem dv_from : ∀ (l : List Nat) (n : Nat), (∀ d ∈ l, isDig d) → l.foldl (fun (a : Int) (c : Nat) => 10 * a + ((c : Int) - 48)) (n : Int) = ((l.foldl (fun acc c => acc * 10 + (c - 48)) n : Nat) : Int)
  | [], _, _ => rfl
  | c :: r, n, h => by
    have hc := h c (List.Mem.head _)
    rw [List.foldl_cons, List.foldl_cons, ← dv_from r (n * 10 + (c - 48)) fun d hd => h d (List.Mem.tail _ hd)]
    congr 1
    have := hc.1
    omega
theorem dv_digits {l : List Nat} (h : ∀ d ∈ l, isDig d) : dv l = (PySem.NumText.digitsVal l : Int) := dv_from l 0 h
set_option maxHeartbeats 2000000 in
theorem rel_same {l : List Nat} (hl : l.length ≤ 9) (hok : okL (l.drop (sgn l))) {sg rl b : Str} {r r2 : Value} (hsg : sg = ⟨(⟨l⟩ : Array Nat).extract 0 (sgn l)⟩) (hrl : rl = ⟨(⟨l⟩ : Array Nat).extract (sgn l) ((⟨l⟩ : Array Nat).size - 2)⟩)
    (hb : before ⟨⟨l⟩⟩ = b) (h1 : relOf sg rl r) (h2 : RVK ⟨⟨l⟩⟩ b (sgn l) r2) : (r = .none ∧ r2 = .none) ∨ ∃ v t1 t2, r = .int v t1 ∧ r2 = .int v t2 := by
  have hm : (l.drop (sgn l)).length ≤ 9 := by rw [List.length_drop]; omega
  have ed : (Txt.slice (restK ⟨⟨l⟩⟩ (sgn l)) none (some (-2))).cps.toList = (l.drop (sgn l)).take ((l.drop (sgn l)).length - 2) := by
    rw [rest_eq hl, init2_eq _ hm]
  have er : rl.cps.toList = (l.drop (sgn l)).take ((l.drop (sgn l)).length - 2) := by
    rw [hrl]
    show ((⟨l⟩ : Array Nat).extract (sgn l) ((⟨l⟩ : Array Nat).size - 2)).toList = _
    rw [Array.toList_extract, List.extract_eq_take_drop, List.length_drop]
    have e3 : (⟨l⟩ : Array Nat).size - 2 - sgn l = l.length - sgn l - 2 := by
      show l.length - 2 - sgn l = _
      omega
    rw [e3]
  have es : sg = b := by
    have e1 : (⟨l⟩ : Array Nat).extract 0 (sgn l) = ⟨l.take (sgn l)⟩ := by
      apply Array.toList_inj.mp
      rw [Array.toList_extract, List.extract_eq_take_drop, List.drop_zero, Nat.sub_zero]
    rw [← hb, before_eq hl, hsg, e1]
  have ev : dv ((l.drop (sgn l)).take ((l.drop (sgn l)).length - 2)) = (PySem.NumText.digitsVal rl.cps.toList : Int) := by
    rw [er]; exact dv_digits hok.2.2
  have dash : (b == Str.ofString "-") = decide (sg = ⟨#[45]⟩) := by
    have h2 : Str.ofString "-" = ⟨#[45]⟩ := by decide +kernel
    rw [h2, es]
    by_cases q : b = ⟨#[45]⟩
    · rw [q]; decide
    · rw [decide_eq_false q]; exact beq_eq_false_iff_ne.mpr q
  unfold RVK at h2
  rw [ed, ev] at h2
  unfold relOf relOf.digitsVal' at h1
  by_cases z : PySem.NumText.digitsVal rl.cps.toList = 0
  · rw [if_pos z] at h1
    refine .inl ⟨h1, ?_⟩
    rcases h2 with ⟨_, h2⟩ | ⟨h2, _⟩
    · exact h2
    · exact absurd (by rw [z]; rfl) h2
  · rw [if_neg z] at h1
    obtain ⟨t1, h1⟩ := h1
    rcases h2 with ⟨h2, _⟩ | ⟨_, t2, h2⟩
    · exact absurd (by omega) z
    · refine .inr ⟨_, t1, t2, h1, ?_⟩
      rw [h2, dash]
      by_cases q : sg = ⟨#[45]⟩
      · rw [if_pos q, decide_eq_true q, if_pos rfl, Value.int.injEq]; exact ⟨by omega, rfl⟩
      · rw [if_neg q, decide_eq_false q, if_neg (by decide)]
end Mine
end

/-! ## H1 -/
section
open PySem PySem.W PyProof.Rows PySem.Calls PySem.Spec
set_option maxRecDepth 100000
namespace Mine
theorem fillH1 : (fun (_ : Params → Frag) (_ : OpenLaw) => True) Mine.hd.heap_39 PySem.Challenge.rw_fc0077_01 := by k_fill; trivial
-- lines that say nothing: the walker keeps a table of its lines by their number, and this part must not meet the table of another
local macro_rules | `(tactic| walk_at "no line") => `(tactic| skip)
local macro_rules | `(tactic| walk_at "no line") => `(tactic| skip)
local macro_rules | `(tactic| walk_at "no line") => `(tactic| skip)
local macro_rules | `(tactic| walk_at "no line") => `(tactic| skip)
local macro_rules | `(tactic| walk_at "no line") => `(tactic| skip)
local macro_rules | `(tactic| walk_at "my_step") => `(tactic| first | (k_unfold; (try dsimp only)) | (k_end; wrow_close) | walk1 | (dsimp only; walk1) | (leave1; walk_say "STEP leave1"; try dsimp only))
local macro_rules | `(tactic| walk_at "my_enterS") => `(tactic| (refine' code_defS ?k1 ?k2 ?k3 ?k4 ?k5 ?XB ?TB ?D ?T0 ?kA ?k6 ?k7 ?k8 ?k9 ?kB ?_ ?cK ?c2 ?c3 ?c4 ?c5; (case kA => exact rfl); (case k2 => k_asm); (case k1 => k_asm); (case XB => assumption); (case TB => assumption); (case D => assumption); (case T0 => first | assumption | exact KtsTurn.refl); (case k3 => k_asm); (case k4 => k_asm); (case k5 => k_asm); (case k6 => k_is); (case k7 => k_is); (case k8 => ktr_room); (case k9 => first | exact binds_K (by k_in) rfl (by k_is) rfl rfl rfl | exact BindsTo.of_eq rfl); (case kB => exact locs rfl); (case cK => first | exact rfl | assumption); (case c2 => exact rfl); (case c3 => exact rfl); (case c4 => exact rfl); (case c5 => decide); intro g' L' h' FG' F' N' B' X' T' D'; (try dsimp only); (try k_lift B')))
theorem no_ok {U b : Str} {k : Nat} (h : ∀ b k, before U = b → k = b.length → ¬ okK U k) (hb : before U = b) (hk : k = b.length) : ¬ okK U k := h b k hb hk
local macro_rules | `(tactic| walk_at "call ref") => `(tactic| (k_here; (with_reducible show wpAny _ _ (call (Value.ref 390) _) _ _ _); k_dflt (refine' wp_deep (D := 360) (U := 160) (Nat.le_of_ble_eq_true rfl) (Nat.le_of_ble_eq_true rfl) (read_c ?h0 ?k1 ?k2 ?k3 ?k4 ?k5 ?k6 ?kn ?kt); (case h0 => assumption); (case k1 => k_asm); (case k2 => k_asm); (case k3 => k_asm); (case k4 => k_asm); (case k5 => k_asm); (case k6 => exact rfl); (case kt => intro b k D t r h' tk' hb hk hok; exact absurd hok (no_ok (by assumption) hb hk))); intro b k h' tk' hb hk hno F' N'))
local macro_rules | `(tactic| walk_at "call ref") => `(tactic| (k_here; (with_reducible show wpAny _ _ (call (Value.ref 397) _) _ _ _); k_dflt (refine' wp_deep (D := 360) (U := 160) (Nat.le_of_ble_eq_true rfl) (Nat.le_of_ble_eq_true rfl) (told_bad ?h0 ?h1 ?h2 ?h3 ?k1 ?k2 ?k3 ?k4 ?k5 ?k6 ?XB ?TB ?D ?_); (case h0 => assumption); (case h1 => assumption); (case h2 => assumption); (case h3 => assumption); (case k1 => k_asm); (case k2 => k_asm); (case k3 => k_asm); (case k4 => k_asm); (case k5 => k_asm); (case k6 => exact rfl); (case XB => assumption); (case TB => assumption); (case D => assumption)); intro h₁ h' tk' KT F' N' B' X' T' D'; (try k_lift B')))
set_option maxHeartbeats 0 in
theorem holds_bad {w : World} {mean : ExcName → Option Value} {mg mb : Str → Option Value} {T0 : Str} {tt : Tok} (hT : T0.length ≤ 9) (hlen : (Txt.upper T0).length ≤ 27) (hsz : (Txt.upper T0).cps.size ≤ 1000) (hbad : ¬ good (Txt.upper T0))
   (hnok : ∀ b k, before (Txt.upper T0) = b → k = b.length → ¬ okK (Txt.upper T0) k)
   {gd : Option (List Code)} {cn : Str} {cs : Scope} {aa : Addr} {ccd : Value} {outer : List Env} {A₀ : Around} {base h₀ : Heap} {L : Addr} {m : Str → Option Value} {news : List (Addr × Obj)} {s : Shared} {Q E : Value → Shared → Prop}
   (B : Below A₀ base outer h₀) (F : Fr h₀ L s.heap m) (X : (Mine.hd.heap_39 w.params).In h₀) (N : News h₀ L s.heap news) (T : Top Mine.hd.view_39 LOOSE mean mg mb h₀) (hk : cs.kind = .function)
   (XB : (Mine.hd.heap_39 w.params).In base) (TB : Top Mine.hd.view_39 LOOSE mean mg mb base) (D : KtsDicts (outer.filterMap (·.frame)) h₀)
   (hret : ∀ h₁ h' tk', KtsTurn (outer.filterMap (·.frame)) h₀ h₁ → Fr h₁ L h' m → News h₁ L h' news → Below A₀ base outer h₁ → (Mine.hd.heap_39 w.params).In h₁ → Top Mine.hd.view_39 LOOSE mean mg mb h₁ → KtsDicts (outer.filterMap (·.frame)) h₁ → Q (.bool true) { s with heap := h', toks := tk' }) :
   wpAny (model PySem.Challenge.rw_fc0077_01.row.prog w) (ktrTop 350 150 gd cn cs L aa ccd [] outer) (call (.ref 404) [.str T0 tt]) Q E s := by
  refine wpAny_call ?_
  w_top off
  k_dflt (walk_at "my_enterS")
  repeat' (walk_at "my_step")
  rename KtsDicts (outer.filterMap (·.frame)) _ => kD1
  rename Below A₀ base outer _ => kB1
  rename KtsTurn (outer.filterMap (·.frame)) h₀ _ => kT1
  rename Fr _ L _ m => kF1
  rename News _ L _ _ => kN1
  rename Top _ _ _ _ _ _ => kP1
  exact hret _ _ _ kT1 kF1 (fun p hp => kN1 p (by first | exact hp | exact List.Mem.tail _ hp | exact List.Mem.tail _ (List.Mem.tail _ hp))) kB1 (by assumption) kP1 kD1
end Mine
end

/-! ## E1 -/
section
open PySem PySem.W PyProof.Rows PySem.Calls PySem.Spec
set_option maxRecDepth 100000
namespace Mine
open PySem.Builtin PySem.Builtin._codecs
def byt (l : List Nat) : List UInt8 := l.map (·.toUInt8)
theorem utf8_one {c : Nat} (h : c < 128) : Str.utf8Of c = [c.toUInt8] := by
  unfold Str.utf8Of
  rw [if_pos h]
theorem surr_no {c : Nat} (h : c < 128) : Str.isSurrogate c = false := by
  unfold Str.isSurrogate
  simp
  omega
theorem fold_byt : ∀ (l : List Nat) (acc : Array UInt8), (∀ c ∈ l, c < 128) → l.foldl (fun acc y => acc ++ (Str.utf8Of y).toArray) acc = acc ++ (byt l).toArray
  | [], acc, _ => by simp [byt]
  | c :: r, acc, h => by
    rw [List.foldl_cons, utf8_one (h c (List.Mem.head _)), fold_byt r _ fun d hd => h d (List.Mem.tail _ hd)]
    simp [byt]
theorem loop2 {σ : Type} {f : Nat → σ → Sem (ForInStep σ)} {a b : σ} {n : Nat} (h1 : ∀ i, f i a = pure (.yield b)) (h2 : ∀ i, f i b = pure (.done b)) : forIn (List.range' 0 (n + 1)) a f = pure b := by
  rw [List.range'_succ, List.forIn_cons, h1]
  show forIn (List.range' (0 + 1) n) b f = pure b
  cases n with
  | zero => rfl
  | succ n =>
    rw [List.range'_succ, List.forIn_cons, h2]
    rfl
theorem none_bad {l : List Nat} (h : ∀ c ∈ l, c < 128) : (⟨l⟩ : Array Nat).findIdx? Str.isSurrogate = none := by
  rw [Array.findIdx?_eq_none_iff]
  intro c hc
  exact surr_no (h c (by simpa using hc))
set_option maxHeartbeats 4000000 in
theorem enc_narrow {id : String} {self : Value} {l : List Nat} (hl : l.length ≤ 40) (h : ∀ c ∈ l, c < 128) : encodeNarrow id utf8Codec none self ⟨⟨l⟩⟩ = pure (byt l).toArray := by
  unfold encodeNarrow
  dsimp only
  simp only [Std.Legacy.Range.forIn_eq_forIn_range']
  cases l with
  | nil => rfl
  | cons c r =>
    have hs : [:(⟨⟨c :: r⟩⟩ : Str).length].size = r.length + 1 := by simp [Std.Legacy.Range.size, Str.length]
    rw [hs]
    have hc := h c (List.Mem.head _)
    rw [loop2 (b := (r.length + 1, (byt (c :: r)).toArray, ({} : Faults)))]
    · rfl
    · intro i
      dsimp only
      rw [if_neg (by rw [sizeLine_eq]; decide)]
      have e0 : (⟨⟨c :: r⟩⟩ : Str).cps[0]? = some c := rfl
      rw [e0]
      dsimp only
      have e1 : utf8Codec.bad c = false := surr_no hc
      rw [e1]
      have e2 : (⟨⟨c :: r⟩⟩ : Str).cps.extract 0 = ⟨c :: r⟩ := by simp
      rw [e2]
      have e3 : Array.findIdx? utf8Codec.bad ⟨c :: r⟩ = none := none_bad h
      rw [e3]
      have e4 : (⟨c :: r⟩ : Array Nat).extract 0 ((none : Option Nat).getD (⟨c :: r⟩ : Array Nat).size) = ⟨c :: r⟩ := by simp
      rw [e4]
      have e5 : Array.foldl (fun acc y => acc ++ (utf8Codec.bytesOf y).toArray) #[] ⟨c :: r⟩ = (byt (c :: r)).toArray := by
        rw [List.foldl_toArray]
        refine (fold_byt (c :: r) #[] h).trans ?_
        simp
      rw [e5]
      simp
    · intro i
      dsimp only
      have hz : (byt (c :: r)).toArray.size = r.length + 1 := by simp [byt]
      have hl' : r.length + 1 ≤ 40 := by simpa using hl
      rw [if_neg (by rw [hz, sizeLine_eq]; omega)]
      have e0 : (⟨⟨c :: r⟩⟩ : Str).cps[r.length + 1]? = none := by
        show (⟨c :: r⟩ : Array Nat)[r.length + 1]? = none
        simp
      rw [e0]
/-! reading back -/
theorem u8 {c : Nat} (h : c < 128) : c.toUInt8.toNat = c := by
  show c % 2 ^ 8 = c
  omega
theorem find_at {l : List Nat} {i c : Nat} (h : ∀ c ∈ l, c < 128) (hi : l[i]? = some c) : utf8Decoder.find true (byt l).toArray i = .text [c] (i + 1) := by
  have hc := h c (List.mem_of_getElem? hi)
  have e : ((byt l).toArray.getD i 0).toNat = c := by
    have : (byt l).toArray[i]? = some c.toUInt8 := by simp [byt, hi]
    rw [Array.getD_eq_getD_getElem?, this]
    exact u8 hc
  have e2 : Bytes.utf8At (byt l).toArray i = (.char c, i + 1) := by
    unfold Bytes.utf8At
    dsimp only
    rw [e, if_pos hc]
  have e3 : ∀ z, z = (Bytes.Piece.char c, i + 1) → (match z with | (.char c, nx) => Found.char c nx | (.bad _ stop reason, _) => Found.bad stop reason (reason == "unexpected end of data" || ((byt l).toArray.getD i 0 == 0xED && i + 2 == (byt l).toArray.size && 0xA0 ≤ (byt l).toArray.getD (i + 1) 0 && (byt l).toArray.getD (i + 1) 0 ≤ 0xBF))) = Found.text [c] (i + 1) := by
    rintro z rfl
    rfl
  exact e3 _ e2
theorem loopN {σ : Type} {f : Nat → σ → Sem (ForInStep σ)} {g : Nat → σ} {n : Nat} (h1 : ∀ i j, j < n → f i (g j) = pure (.yield (g (j + 1)))) : ∀ (k m : Nat), m + k = n → ∀ s, forIn (List.range' s k) (g m) f = pure (g n)
  | 0, m, hm, s => by
    have : m = n := by omega
    subst this; rfl
  | k + 1, m, hm, s => by
    rw [List.range'_succ, List.forIn_cons, h1 _ _ (by omega)]
    exact loopN h1 k (m + 1) (by omega) (s + 1)
set_option maxHeartbeats 4000000 in
theorem dec_all {id : String} {l : List Nat} (hl : l.length ≤ 40) (h : ∀ c ∈ l, c < 128) : runDecoder id utf8Decoder none true (byt l).toArray 0 [] = pure ((⟨l⟩ : Array Nat), l.length) := by
  unfold runDecoder
  simp only [Std.Legacy.Range.forIn_eq_forIn_range']
  have hs : [:(byt l).toArray.size].size = l.length := by simp [Std.Legacy.Range.size, byt]
  rw [hs]
  have e00 : ((0 : Nat), (#[] : Array Nat), ({ held := [] } : Faults)) = (fun j => (j, (⟨l.take j⟩ : Array Nat), ({ held := [] } : Faults))) 0 := rfl
  have key : ∀ {f : Nat → Nat × Array Nat × Faults → Sem (ForInStep (Nat × Array Nat × Faults))}, (∀ i j, j < l.length → f i (j, (⟨l.take j⟩ : Array Nat), ({ held := [] } : Faults)) = pure (.yield (j + 1, (⟨l.take (j + 1)⟩ : Array Nat), ({ held := [] } : Faults)))) →
      forIn (List.range' 0 l.length) ((0 : Nat), (#[] : Array Nat), ({ held := [] } : Faults)) f = pure (l.length, (⟨l.take l.length⟩ : Array Nat), ({ held := [] } : Faults)) := fun h1 => loopN (g := fun j => (j, (⟨l.take j⟩ : Array Nat), ({ held := [] } : Faults))) h1 l.length 0 (by omega) 0
  rw [key]
  · rw [List.take_length]; rfl
  · intro i j hj
    dsimp only
    have hz : (⟨l.take j⟩ : Array Nat).size = j := by
      show (l.take j).length = j
      rw [List.length_take]; omega
    rw [if_neg (by rw [hz, sizeLine_eq]; omega)]
    have hz2 : (byt l).toArray.size = l.length := by simp [byt]
    rw [if_neg (by rw [hz2]; omega)]
    rw [find_at h (List.getElem?_eq_getElem hj)]
    dsimp only
    have e1 : (⟨l.take j⟩ : Array Nat) ++ [l[j]].toArray = ⟨l.take (j + 1)⟩ := by
      apply Array.toList_inj.mp
      rw [Array.toList_append]
      show l.take j ++ [l[j]] = l.take (j + 1)
      rw [List.take_add_one, List.getElem?_eq_getElem hj]
      rfl
    rw [e1]
end Mine
end

/-! ## E2 -/
section
open PySem PySem.W PySem.W.X PyProof.Rows PySem.Calls PySem.Spec
set_option maxRecDepth 100000
namespace Mine
open PySem.Builtin PySem.Builtin._codecs
theorem fillE2 : (fun (_ : Params → Frag) (_ : OpenLaw) => True) Mine.hd.heap_39 PySem.Challenge.rw_fc0077_01 := by k_fill; trivial
theorem check_meth {M : Model} {A : Around} {E : Value → Shared → Prop} {s : Shared} {i owner n : String} {self : Value} {rest : List Value} {kw : List (Str × Value)} {Q : Unit → Shared → Prop}
    (hk : builtinKind i = some .method) (hs : splitId i = some (owner, n)) (hi : Looks M s.heap (isInstance self (.type owner)) true) (ha : argsOk i ⟨self :: rest, kw⟩) (q : Q () s) :
    wpAny M A (checkBuiltinCall i ⟨self :: rest, kw⟩) Q E s := by
  simp only [checkBuiltinCall, hk, hs]
  refine wpAny_bind (hi.here ?_)
  simp only [Bool.not_true, Bool.false_eq_true, if_false]
  cases hsig : Manifest.signature? i with
  | none => exact wpAny_pure q
  | some sig =>
    simp only [argsOk, hsig] at ha
    have h2 : Bind.checkArgs i sig ⟨self :: rest, kw⟩ = pure () := ha
    show wpAny M A (Bind.checkArgs i sig ⟨self :: rest, kw⟩) Q E s
    rw [h2]; exact wpAny_pure q
theorem kind_enc : builtinKind "str.encode" = some .method := by decide +kernel
theorem split_enc : splitId "str.encode" = some ("str", "encode") := by decide +kernel
theorem wp_eq {α : Type} {M : Model} {A : Around} {t t' : Sem α} {Q : α → Shared → Prop} {E : Value → Shared → Prop} {s : Shared} (e : t = t') (h : wpAny M A t' Q E s) : wpAny M A t Q E s := e ▸ h
section
variable {w : World} {A : Around} {E : Value → Shared → Prop} {s : Shared} {Q : Value → Shared → Prop} {h₀ : Heap} {L x d : Addr} {m : Str → Option Value} {news : List (Addr × Obj)}
theorem enc_body {v : Value} {t2 : Tok} {l : List Nat} {M : Model} {Q : Fin → Shared → Prop} (hl : l.length ≤ 40) (ha : ∀ c ∈ l, c < 128) (hv : wpAny M A (Str.textOf v) (fun z s' => z = ⟨⟨l⟩⟩ ∧ s' = s) E s)
    (h : Q (.done (.ret (.bytes (byt l).toArray s.toks))) { s with toks := s.toks + 1 }) : wpAny M A («str.encode» ⟨[v, .str (Str.ofString "utf-8") t2], []⟩) Q E s := by
  unfold «str.encode» Str.strSelf
  dsimp only
  refine wpAny_bind (wpAny_bind (wpAny_mono hv (fun z s' hz => ?_) fun _ _ e => e))
  obtain ⟨rfl, rfl⟩ := hz
  refine wpAny_pure ?_
  refine wp_eq (t' := encodeRoad "str.encode" v ⟨⟨l⟩⟩ (Str.ofString "utf-8") none >>= fun r => ret r) (by kernel_rfl) ?_
  rw [encodeRoad_utf8, enc_narrow hl ha]
  refine wpAny_bind ?_
  show wpAny M A (mkBytes (byt l).toArray) _ E _
  refine wpAny_mkBytes (wpAny_pure h) ?_
  have : (byt l).toArray.size = l.length := by simp [byt]
  rw [this, sizeLine_eq]; omega
theorem encode_ref {l : List Nat} {t t2 : Tok} {sl : Array (Option Value)} (hl : l.length ≤ 40) (ha : ∀ c ∈ l, c < 128) (F : Fr h₀ L s.heap m) (X₀ : (Mine.hd.heap_39 w.params).In h₀) (N : News h₀ L s.heap news) (hx : (x, vwObj d ⟨⟨l⟩⟩ t sl) ∈ news) (hd : (d, dict0) ∈ news)
    (h : ∀ t' tk', Q (.bytes (byt l).toArray t') { s with toks := tk' }) : wpAny (model PR w) A (call (.builtin "str.encode") [.ref x, .str (Str.ofString "utf-8") t2]) Q E s := by
  have I := inst365 N hx hd
  have sub : Looks (model PR w) s.heap (isInstance (.ref x) (.type "str")) true := I.type.andThen (looks_subIn (X₀.keeps F.keep) (by k_is))
  refine wpAny_call (codeAny_call_builtin PySem.F.slot_str_encode.plain PySem.F.entry_str_encode (check_meth kind_enc split_enc sub (PySem.F.args_str_encode_2 _ _) ?_))
  refine enc_body hl ha ?_ (h _ _)
  unfold Str.textOf asStr?
  exact wpAny_bind (wpAny_bind (wpAny_load I.at_ (wpAny_pure (wpAny_pure ⟨rfl, rfl⟩))))
theorem encode_str {l : List Nat} {t t2 : Tok} (hl : l.length ≤ 40) (ha : ∀ c ∈ l, c < 128) (h : ∀ t' tk', Q (.bytes (byt l).toArray t') { s with toks := tk' }) : wpAny (model PR w) A (call (.builtin "str.encode") [.str ⟨⟨l⟩⟩ t, .str (Str.ofString "utf-8") t2]) Q E s := by
  refine wpAny_call (codeAny_call_builtin PySem.F.slot_str_encode.plain PySem.F.entry_str_encode (PySem.F.slot_str_encode.check _ _ _ _ _ _ _ _ (typeIs_str _ _ _) (PySem.F.args_str_encode_2 _ _) ?_))
  refine enc_body hl ha ?_ (h _ _)
  exact wpAny_pure ⟨rfl, rfl⟩
/-! bytes.upper -/
theorem slot_up : Slot "bytes" "upper" "bytes.upper" :=
  .of (owner := "bytes") (n := "upper") (by rw [typeLookup_type, builtinLookup_eq_fast]; kernel_rfl) (by decide +kernel) (by decide +kernel) (by decide +kernel)
    (by first | exact .inl (by decide +kernel) | exact .inr (by decide +kernel)) (by rw [isSubtype_type]; kernel_rfl)
theorem entry_up : entryFor table "bytes.upper" = some Builtin.«bytes.upper» := entryFor_of_tree (by kernel_rfl)
theorem args_up (a : Value) : argsOk "bytes.upper" ⟨[a], []⟩ := by unfold argsOk; kernel_rfl
theorem type_up : typeOf (.builtin "bytes.upper") = pure (.type "method_descriptor") := by show builtinType _ = _; rw [builtinType_eq_fast]; kernel_rfl
theorem up_eq (b : Array UInt8) (t : Tok) : «bytes.upper» ⟨[.bytes b t], []⟩ = (mkBytes (b.toList.map Bytes.toUpper).toArray >>= fun r => ret r) := by kernel_rfl
theorem up_byt : ∀ {l : List Nat}, (∀ c ∈ l, c < 97) → (byt l).map Bytes.toUpper = byt l
  | [], _ => rfl
  | c :: r, h => by
    have hc := h c (List.Mem.head _)
    show Bytes.toUpper c.toUInt8 :: (byt r).map Bytes.toUpper = c.toUInt8 :: byt r
    rw [up_byt fun d hd => h d (List.Mem.tail _ hd)]
    congr 1
    unfold Bytes.toUpper Bytes.isLower
    have : ¬ (97 ≤ c.toUInt8) := by
      rw [UInt8.le_iff_toNat_le]
      rw [u8 (by omega)]
      show ¬ 97 ≤ c
      omega
    rw [decide_eq_false this]
    rfl
theorem upper_byt {l : List Nat} {t : Tok} (hl : l.length ≤ 40) (ha : ∀ c ∈ l, c < 97) (h : ∀ t' tk', Q (.bytes (byt l).toArray t') { s with toks := tk' }) : wpAny (model PR w) A (call (.builtin "bytes.upper") [.bytes (byt l).toArray t]) Q E s := by
  refine wpAny_call (codeAny_call_builtin slot_up.plain entry_up (slot_up.check _ _ _ _ _ _ _ _ (typeIs_bytes _ _ _) (args_up _) ?_))
  rw [up_eq]
  show wpAny _ _ (mkBytes ((byt l).map Bytes.toUpper).toArray >>= fun r => ret r) _ _ _
  rw [up_byt ha]
  refine wpAny_bind (wpAny_mkBytes (wpAny_pure (h _ _)) ?_)
  have : (byt l).toArray.size = l.length := by simp [byt]
  rw [this, sizeLine_eq]; omega
theorem gm_bup {M : Model} {b : Array UInt8} {t : Tok} {pl : Sem Bool} {Q : Value × List Value → Shared → Prop} (h : Q (.builtin "bytes.upper", [.bytes b t]) s) : wpAny M A (getMethod (.bytes b t) "upper" pl) Q E s := by
  with_reducible exact KBd.method_of (.bytes b t) (typeIs_bytes _ _ _) slot_up type_up KBd.noRef h
/-! bytes.decode('utf-8') -/
theorem args_dec2 (a b : Value) : argsOk "bytes.decode" ⟨[a, b], []⟩ := by unfold argsOk; kernel_rfl
theorem dec_eq (c : UInt8) (cs : List UInt8) (t u : Tok) : «bytes.decode» ⟨[.bytes (c :: cs).toArray t, .str (Str.ofString "utf-8") u], []⟩ = (mkStr (Str.ofString "utf-8") >>= fun _ => mkStr (Str.ofString "utf-8") >>= fun e => mkStr (Str.ofString "bytes.decode") >>= fun d =>
    call (.builtin "_codecs.decode.text") [.bytes (c :: cs).toArray t, e, .none, d] >>= fun v => ret v) := by kernel_rfl
theorem decode_str {c : Nat} {r : List Nat} {t u : Tok} (hl : (c :: r).length ≤ 40) (ha : ∀ d ∈ (c :: r), d < 128) (h : ∀ t' tk', Q (.str ⟨⟨c :: r⟩⟩ t') { s with toks := tk' }) :
    wpAny (model PR w) A (call (.builtin "bytes.decode") [.bytes (byt (c :: r)).toArray t, .str (Str.ofString "utf-8") u]) Q E s := by
  refine wpAny_call (codeAny_call_builtin FB.slot_bytes_decode.plain FB.entry_bytes_decode (FB.slot_bytes_decode.check _ _ _ _ _ _ _ _ (typeIs_bytes _ _ _) (args_dec2 _ _) ?_))
  show wpAny _ _ («bytes.decode» ⟨[.bytes (c.toUInt8 :: byt r).toArray t, .str (Str.ofString "utf-8") u], []⟩) _ _ _
  rw [dec_eq]
  refine wpAny_bind (wpAny_mkStr ?_ (by decide))
  refine wpAny_bind (wpAny_mkStr ?_ (by decide))
  refine wpAny_bind (wpAny_mkStr ?_ (by decide))
  have hd : ∀ id, runDecoder id utf8Decoder none true (c.toUInt8 :: byt r).toArray 0 [] = pure ((⟨⟨c :: r⟩⟩ : Str).cps, (c :: r).length) := fun id => dec_all hl ha
  refine wpAny_bind (call_function_meets KBd.kind_text KBd.plain_text KBd.entry_text (KBd.args_text _ _ _ _) (KBd.meets_text hd) ⟨?_, wpAny_pure (h _ _)⟩)
  show (c :: r).length ≤ sizeLine
  rw [sizeLine_eq]; omega
end
end Mine
end

/-! ## E3 -/
section
open PySem PySem.W PySem.W.X PyProof.Rows PySem.Calls PySem.Spec
set_option maxRecDepth 100000
namespace Mine
open PySem.Builtin
theorem fillE3 : (fun (_ : Params → Frag) (_ : OpenLaw) => True) Mine.hd.heap_39 PySem.Challenge.rw_fc0077_01 := by k_fill; trivial
section
variable {w : World} {A : Around} {E : Value → Shared → Prop} {s : Shared} {Q : Value → Shared → Prop} {h₀ : Heap} {L x d : Addr} {m : Str → Option Value} {news : List (Addr × Obj)} {K : Frag} {C : Addr} {ox : Obj} {od : Option Obj} {b tb : Value}
theorem ifBound_B {M : Model} {name : Str} {id : String} {args : List Value} {Q : Option Value → Shared → Prop} (X : K.In s.heap) (I : InstAt s.heap x ox C od) (hs : findIn K (.ref C) name = some (some (.builtin id))) (hb : ∀ self, bindSpecial (.builtin id) self = pure (.builtin id, [self]))
    (h : wpAny M A (call (.builtin id) (.ref x :: args)) (fun v => Q (some v)) E s) : wpAny M A (callSpecialIfBound? (.ref x) name args) Q E s := by
  simp only [callSpecialIfBound?, bindSpecialIfBound?]
  refine wpAny_holding (wpAny_bind (wpAny_bind (wpAny_bind (I.type.here ((looks_findIn X hs).here ?_)))))
  refine wpAny_bind (wpAny_askSetting (wpAny_ite ?_))
  have fin : wpAny M A (call (.builtin id) ([.ref x] ++ args) >>= fun v => pure (some v)) Q E s := wpAny_bind (wpAny_mono h (fun v s' h' => wpAny_pure h') fun _ _ h' => h')
  rw [hb]
  split
  · exact wpAny_bind (wpAny_pure (wpAny_pure (by exact fin)))
  · exact wpAny_tryCatch (wpAny_bind (wpAny_pure (wpAny_pure (by exact fin))))
theorem cmp_B {op : CmpOp} {id : String} {Q : Value → Shared → Prop} (hu : A.units < cLine) (X : K.In s.heap) (I : InstAt s.heap x ox C od) (hb : Looks (model PR w) s.heap (typeOf b) tb) (hn : notFirst K C tb = true)
    (hs : findIn K (.ref C) (cmpInfo op).2.1 = some (some (.builtin id))) (hbi : ∀ self, bindSpecial (.builtin id) self = pure (.builtin id, [self]))
    (h : wpAny (model PR w) A (call (.builtin id) [.ref x, b]) (W.CmpBack Q) E s) : wpAny (model PR w) A (richCompare op (.ref x) b) Q E s := by
  have one : wpAny (model PR w) A (tryCompare (.ref x) (cmpInfo op).2.1 b) (fun r s' => ∃ v, r = some v ∧ Q v s') E s := by
    unfold tryCompare
    refine wpAny_bind (ifBound_B X I hs hbi (wpAny_mono h (fun v s' hv => ?_) fun _ _ e => e))
    cases v <;> first | exact hv.elim | exact wpAny_pure ⟨_, rfl, hv⟩
  unfold richCompare
  simp only [oneThing_ref]
  refine wpAny_holding (wpAny_bind (wpAny_cRoomFor hu ?_))
  refine wpAny_bind (I.type.here (wpAny_bind (hb.here ?_)))
  split
  · rename_i q
    have e : subIn K tb (.ref C) = some false := by
      rcases Bool.or_eq_true_iff.mp hn with e | e
      · rw [beq_iff_eq.mp e] at q; simp at q
      · exact beq_iff_eq.mp e
    refine wpAny_bind ((looks_subIn X e).here ?_)
    simp only [Bool.false_eq_true, if_false]
    refine wpAny_bind (wpAny_mono one (fun r s' z => ?_) fun _ _ e => e)
    obtain ⟨v, rfl, hq⟩ := z
    exact wpAny_pure hq
  · refine wpAny_bind (wpAny_pure ?_)
    simp only [Bool.false_eq_true, if_false]
    refine wpAny_bind (wpAny_mono one (fun r s' z => ?_) fun _ _ e => e)
    obtain ⟨v, rfl, hq⟩ := z
    exact wpAny_pure hq
theorem kind_ne : builtinKind "str.__ne__" = some .slot := by decide +kernel
theorem split_ne : splitId "str.__ne__" = some ("str", "__ne__") := by decide +kernel
theorem kind_eq : builtinKind "str.__eq__" = some .slot := by decide +kernel
theorem split_eq : splitId "str.__eq__" = some ("str", "__eq__") := by decide +kernel
theorem textOf_x {T : Str} {t : Tok} {sl : Array (Option Value)} {M : Model} {Q : Str → Shared → Prop} (hx : s.heap.get? x = some (vwObj d T t sl)) (h : Q T s) : wpAny M A (Str.textOf (.ref x)) Q E s := by
  unfold Str.textOf asStr?
  exact wpAny_bind (wpAny_bind (wpAny_load hx (wpAny_pure (wpAny_pure h))))
theorem asStr_x {T : Str} {t : Tok} {sl : Array (Option Value)} {M : Model} {Q : Option Str → Shared → Prop} (hx : s.heap.get? x = some (vwObj d T t sl)) (h : Q (some T) s) : wpAny M A (asStr? (.ref x)) Q E s := by
  unfold asStr?
  exact wpAny_bind (wpAny_load hx (wpAny_pure h))
theorem cmp_body {mn : String} {f : List Nat → List Nat → Bool} {T U : Str} {a b : Value} {M : Model} {Q : Fin → Shared → Prop} (ha : wpAny M A (Str.textOf a) (fun z s' => z = T ∧ s' = s) E s) (hb : wpAny M A (asStr? b) (fun z s' => z = some U ∧ s' = s) E s)
    (h : Q (.done (.ret (.bool (f T.cps.toList U.cps.toList)))) s) : wpAny M A (Str.strCompare mn f ⟨[a, b], []⟩) Q E s := by
  unfold Str.strCompare Str.strSlot
  have e : slotArgs mn 1 ⟨[a, b], []⟩ = pure (a, [b]) := rfl
  rw [e]
  refine wpAny_bind (wpAny_bind (wpAny_pure (wpAny_bind (wpAny_mono ha (fun z s' hz => ?_) fun _ _ e => e))))
  obtain ⟨rfl, rfl⟩ := hz
  refine wpAny_pure ?_
  refine wpAny_bind (wpAny_mono hb (fun z s' hz => ?_) fun _ _ e => e)
  obtain ⟨rfl, rfl⟩ := hz
  exact wpAny_pure h
/-- the object against a plain text: they hold the same -/
theorem ne_plain {T U : Str} {t u : Tok} {sl : Array (Option Value)} (hu : A.units < cLine) (F : Fr h₀ L s.heap m) (X₀ : (Mine.hd.heap_39 w.params).In h₀) (N : News h₀ L s.heap news) (hx : (x, vwObj d T t sl) ∈ news) (hd : (d, dict0) ∈ news) (e : T = U)
    (h : Q (.bool false) s) : wpAny (model PR w) A (compareOp .NotEq (.ref x) (.str U u)) Q E s := by
  subst e
  have X := X₀.keeps F.keep
  have I := inst365 N hx hd
  have sub : Looks (model PR w) s.heap (isInstance (.ref x) (.type "str")) true := I.type.andThen (looks_subIn X (by k_is))
  show wpAny _ _ (richCompare .NotEq (.ref x) (.str T u)) Q E s
  refine cmp_B (id := "str.__ne__") hu X I (tb := .type "str") (Looks.of_pure rfl) (by k_is) (by k_is) PySem.F.slot_str_ne.bind ?_
  refine wpAny_call (codeAny_call_builtin PySem.F.slot_str_ne.plain PySem.F.entry_str_ne (check_slot kind_ne split_ne sub (PySem.F.args_str_ne_2 _ _) ?_))
  refine cmp_body (T := T) (U := T) (textOf_x I.at_ ⟨rfl, rfl⟩) (wpAny_pure ⟨rfl, rfl⟩) ?_
  rw [show (T.cps.toList != T.cps.toList) = false from by simp]
  exact h
/-- two objects that hold the same text -/
theorem eq_two {y d2 : Addr} {T U : Str} {t u : Tok} {sl sl2 : Array (Option Value)} (hu : A.units < cLine) (F : Fr h₀ L s.heap m) (X₀ : (Mine.hd.heap_39 w.params).In h₀) (N : News h₀ L s.heap news) (hx : (x, vwObj d T t sl) ∈ news) (hd : (d, dict0) ∈ news) (hy : (y, vwObj d2 U u sl2) ∈ news) (hd2 : (d2, dict0) ∈ news) (e : T = U)
    (h : Q (.bool true) s) : wpAny (model PR w) A (compareOp .Eq (.ref x) (.ref y)) Q E s := by
  subst e
  have X := X₀.keeps F.keep
  have I := inst365 N hx hd
  have J := inst365 N hy hd2
  have sub : Looks (model PR w) s.heap (isInstance (.ref x) (.type "str")) true := I.type.andThen (looks_subIn X (by k_is))
  show wpAny _ _ (richCompare .Eq (.ref x) (.ref y)) Q E s
  refine cmp_B (id := "str.__eq__") hu X I (tb := .ref 365) J.type (by k_is) (by k_is) PySem.F.slot_str_eq.bind ?_
  refine wpAny_call (codeAny_call_builtin PySem.F.slot_str_eq.plain PySem.F.entry_str_eq (check_slot kind_eq split_eq sub (PySem.F.args_str_eq_2 _ _) ?_))
  refine cmp_body (T := T) (U := T) (textOf_x I.at_ ⟨rfl, rfl⟩) (asStr_x J.at_ ⟨rfl, rfl⟩) ?_
  rw [show (T.cps.toList == T.cps.toList) = true from by simp]
  exact h
theorem ne_same {T U : Str} {t u : Tok} (e : T = U) (h : Q (.bool false) s) : wpAny (model PR w) A (compareOp .NotEq (.str T t) (.str U u)) Q E s := by
  subst e
  refine PyProof.Rows.ne_str ?_
  rw [show (T != T) = false from by simp]; exact h
theorem eq_same {T U : Str} {t u : Tok} (e : T = U) (h : Q (.bool true) s) : wpAny (model PR w) A (compareOp .Eq (.str T t) (.str U u)) Q E s := by
  subst e
  refine PyProof.Rows.eq_str ?_
  rw [show (T == T) = true from by simp]; exact h
theorem inst365' {T : Str} {t : Tok} {sl : Array (Option Value)} (N : News h₀ L s.heap news) (hx : (x, vwObj d T t sl) ∈ news) (hd : (d, dict0) ∈ news) : InstAt s.heap x (vwObj d T t sl) 365 (some (dictOf [] 0)) := inst365 N hx hd
/-- a method of str, met on the object -/
theorem gm_encode {T : Str} {t : Tok} {sl : Array (Option Value)} {pl : Sem Bool} {Q : Value × List Value → Shared → Prop} (F : Fr h₀ L s.heap m) (X₀ : (Mine.hd.heap_39 w.params).In h₀) (N : News h₀ L s.heap news) (hx : (x, vwObj d T t sl) ∈ news) (hd : (d, dict0) ∈ news)
    (h : Q (.builtin "str.encode", [.ref x]) s) : wpAny (model PR w) A (getMethod (.ref x) "encode" pl) Q E s := by
  have X := X₀.keeps F.keep
  have I := inst365' N hx hd
  have hg : plainGet (Mine.hd.heap_39 w.params) 365 "encode" = true := by k_is
  have hf : findIn (Mine.hd.heap_39 w.params) (.ref 365) "encode" = some (some (.builtin "str.encode")) := by k_is
  have hcan := PySem.F.canon_object_ga
  unfold getMethod specialOf
  refine wpAny_bind (wpAny_bind (I.type.here ((looks_findIn X (plainGet_of hg).1).here ?_)))
  dsimp only
  rw [hcan, if_neg (by decide)]
  refine wpAny_bind (wpAny_bind (I.type.here ((looks_findIn X (plainGet_of hg).2).here ?_)))
  refine wpAny_bind (wpAny_bind (I.type.here ((looks_findIn X hf).here ?_)))
  refine wpAny_bind (wpAny_of_eq PySem.F.type_str_encode ?_)
  rw [if_neg (by decide +kernel)]
  refine wpAny_bind (wpAny_loadPart I.at_ ?_)
  dsimp only
  refine wpAny_bind (wpAny_bind (wpAny_loadPart (N _ hd).1 ?_))
  have a : lookIn "encode" (dictOf [] 0) = some none := by rw [lookIn_dict]; rfl
  rw [nsLook_of a]
  refine wpAny_pure ?_
  exact wpAny_bind (wpAny_rule (wpAny_pure h))
end
end Mine
end

/-! ## E4 -/
section
open PySem PySem.W PySem.W.X PyProof.Rows PySem.Calls PySem.Spec
set_option maxRecDepth 100000
namespace Mine
theorem fillE4 : (fun (_ : Params → Frag) (_ : OpenLaw) => True) Mine.hd.heap_39 PySem.Challenge.rw_fc0077_01 := by k_fill; trivial
theorem get_prop2 {w : World} {A : Around} {s : Shared} {h₀ : Heap} {L x : Addr} {m : Str → Option Value} {E : Value → Shared → Prop} {name : Str} {K : Frag} {C : Addr} {ox od : Obj} {expr : Bool} {Q : Value → Shared → Prop} {p fget : Addr} {rest : List Value} (F : Fr h₀ L s.heap m) (X₀ : K.In h₀) (I : InstAt s.heap x ox C (some od)) (hg : plainGet K C name = true) (hh : isClsIn K C = true)
    (ha : findIn K (.ref C) name = some (some (.ref p))) (hn : specialIn K (.ref p) "__get__" = some (some (.builtin "property.__get__"))) (ht : takesIn K (.ref p) = some true) (hp : recIn K p "property" = some (.ref fget :: rest))
    (h : codeAny (model PR w) A.in1 (.call (.ref fget) ⟨[.ref x], []⟩) (fun r s' => match r with | .ok (.ret v) => wpAny (model PR w) A (handedOut v) Q E s' | .ok _ => False | .error e => wpAny (model PR w) A (noteIf true (.ref x) (.str name s.toks) e) (fun _ s'' => E e s'') E s') { s with toks := s.toks + 1 }) :
    wpAny (model PR w) A (getAttr (.ref x) name expr) Q E s :=
  get_bind (X₀.keeps F.keep) I (plainGet_of hg).1 (findObj_data hh ha hn ht) (plainGet_of hg).2 (wpAny_call (prop_get (s := { s with toks := s.toks + 1 }) (X₀.keeps F.keep) hp h))
-- lines that say nothing: the walker keeps a table of its lines by their number, and this part must not meet the table of another
local macro_rules | `(tactic| walk_at "no line") => `(tactic| skip)
local macro_rules | `(tactic| walk_at "no line") => `(tactic| skip)
local macro_rules | `(tactic| walk_at "no line") => `(tactic| skip)
local macro_rules | `(tactic| walk_at "no line") => `(tactic| skip)
local macro_rules | `(tactic| walk_at "no line") => `(tactic| skip)
local macro_rules | `(tactic| walk_at "no line") => `(tactic| skip)
local macro_rules | `(tactic| walk_at "no line") => `(tactic| skip)
local macro_rules | `(tactic| walk_at "my_step") => `(tactic| first | (k_unfold; (try dsimp only)) | (k_end; wrow_close) | walk1 | (dsimp only; walk1) | (leave1; walk_say "STEP leave1"; try dsimp only))
local macro_rules | `(tactic| walk_at "my_enterP") => `(tactic| (refine' code_def ?k1 ?k2 ?k3 ?k4 ?k5 ?kA ?kF ?kK ?k6 ?k7 ?k8 ?k9 ?kB ?_ ?c2 ?c3 ?c4 ?c5; (case kA => exact rfl); (case kF => exact rfl); (case kK => first | exact rfl | assumption); (case k1 => k_asm); (case k2 => k_asm); (case k3 => k_asm); (case k4 => k_asm); (case k5 => k_asm); (case k6 => k_is); (case k7 => k_is); (case k8 => ktr_room); (case k9 => first | exact BindsTo.of_eq rfl | exact binds_K (by k_in) rfl (by k_is) rfl rfl rfl); (case c5 => decide); (case kB => exact locs rfl); (case c2 => exact rfl); (case c3 => exact rfl); (case c4 => exact rfl); intro g' L' h' FG' F' N' B' X' T'; (try dsimp only); (try k_lift B')))
local macro_rules | `(tactic| walk_at "call type:str") => `(tactic| (k_here; (with_reducible show wpAny _ _ (call _ [Value.ref _]) _ _ _); k_dflt (refine' wp_wide (by rfl) (Nat.le_of_ble_eq_true rfl) (Nat.le_of_ble_eq_true rfl) (x_strOf ?k1 ?k2 ?k3 ?k4 ?_); (case k1 => assumption); (case k2 => k_in); (case k3 => exact News.get (by k_asm) (by k_mem)); (case k4 => exact News.get (by k_asm) (by k_mem)); intro t' tk')))
set_option maxHeartbeats 0 in
theorem ical_c {w : World} {mean : ExcName → Option Value} {mg mb : Str → Option Value} {T0 : Str} {t : Tok} {x d : Addr} {sl : Array (Option Value)} {expr : Bool} (hT : T0.length ≤ 40)
   {gd : Option (List Code)} {cn : Str} {cs : Scope} {aa : Addr} {ccd : Value} {cl : List (Str × Addr)} {outer : List Env} {A₀ : Around} {base h₀ : Heap} {L : Addr} {m : Str → Option Value} {news : List (Addr × Obj)} {s : Shared} {Q E : Value → Shared → Prop}
   (B : Below A₀ base outer h₀) (F : Fr h₀ L s.heap m) (X : (Mine.hd.heap_39 w.params).In h₀) (N : News h₀ L s.heap news) (T : Top Mine.hd.view_39 LOOSE mean mg mb h₀) (hk : cs.kind = .function) (hx : (x, vwObj d T0 t sl) ∈ news) (hd : (d, dict0) ∈ news)
   (hret : ∀ t' h' tk', Fr h₀ L h' m → News h₀ L h' news → Q (.str T0 t') { s with heap := h', toks := tk' }) :
   wpAny (model PySem.Challenge.rw_fc0077_01.row.prog w) (ktrTop 360 160 gd cn cs L aa ccd cl outer) (getAttr (.ref x) "ical_value" expr) Q E s := by
  refine' get_prop2 F X (inst365' N hx hd) ?k4 ?k5 ?k6 ?k7 ?k8 ?k9 ?_
  case k4 => k_is
  case k5 => k_is
  case k6 => k_is
  case k7 => k_is
  case k8 => k_is
  case k9 => k_is
  w_top off
  k_dflt (walk_at "my_enterP")
  repeat' (walk_at "my_step")
  rename Fr h₀ L _ m => FL
  rename News h₀ L _ news => NL
  exact hret _ _ _ FL NL
end Mine
end

/-! ## PL7 -/
section
open PySem PySem.W PyProof.Rows PySem.Calls PySem.Spec
set_option maxRecDepth 100000
namespace Mine
open RE
theorem sgn_take (l : List Nat) : ∀ c ∈ l.take (sgn l), c = 43 ∨ c = 45 := by
  cases l with
  | nil => intro c h; simp at h
  | cons a r =>
    intro c h
    by_cases hs : a = 43 ∨ a = 45
    · rw [sgn_yes hs] at h
      have : c = a := by simpa using h
      rw [this]; exact hs
    · rw [sgn_no hs] at h
      simp at h
theorem day_low {m : List Nat} (h : dayL m) : ∀ c ∈ m, c < 97 := by
  intro c hc
  rcases h with h | h | h | h | h | h | h <;> (subst h; rcases List.mem_cons.mp hc with rfl | hc <;> first | decide | (rw [List.mem_singleton.mp hc]; decide))
theorem ok_low {l : List Nat} (h : okL (l.drop (sgn l))) : ∀ c ∈ l, c < 97 := by
  intro c hc
  rw [← List.take_append_drop (sgn l) l] at hc
  rcases List.mem_append.mp hc with hc | hc
  · rcases sgn_take l c hc with rfl | rfl <;> decide
  · rw [← List.take_append_drop ((l.drop (sgn l)).length - 2) (l.drop (sgn l))] at hc
    rcases List.mem_append.mp hc with hc | hc
    · have := (h.2.2 c hc).2; omega
    · exact day_low h.1 c hc
theorem up_twice {T : Str} (h : ∀ c ∈ (Txt.upper T).cps.toList, upc c) : Txt.upper (Txt.upper T) = Txt.upper T := upper_up h
def SameNum (r r2 : Value) : Prop := (r = .none ∧ r2 = .none) ∨ ∃ v t1 t2, r = .int v t1 ∧ r2 = .int v t2
/-- what `_law_read` tells and what the object holds are the same -/
theorem same_facts {U b sg rl wd : Str} {r r2 : Value} {k a : Nat} (hl : U.length ≤ 9) (hb : before U = b) (hk : k = b.length) (hok : okK U k) (hrv : RVK U b k r2) (ha : a ≤ 1) (hf : fits U.cps U.cps.size a = true)
    (esg : sg = ⟨U.cps.extract 0 a⟩) (erl : rl = ⟨U.cps.extract a (U.cps.size - 2)⟩) (ewd : wd = ⟨U.cps.extract (U.cps.size - 2) U.cps.size⟩) (hrel : relOf sg rl r) :
    wd = Txt.slice (restK U k) (some (-2)) none ∧ SameNum r r2 := by
  obtain ⟨⟨l⟩⟩ := U
  have hl : l.length ≤ 9 := hl
  have ek : k = sgn l := by rw [hk, ← hb, before_len hl]
  subst ek
  have ea : a = sgn l := fits_sgn ha hf
  subst ea
  have hm : (l.drop (sgn l)).length ≤ 9 := by rw [List.length_drop]; omega
  have hokL := (ok_iff hl).mp hok
  refine ⟨?_, rel_same hl hokL esg erl hb hrel hrv⟩
  rw [rest_eq hl, last2_eq _ hm, ewd]
  congr 1
  apply Array.toList_inj.mp
  rw [Array.toList_extract]
  show (l.drop (l.length - 2)).take (l.length - (l.length - 2)) = (l.drop (sgn l)).drop ((l.drop (sgn l)).length - 2)
  rw [List.take_of_length_le (by rw [List.length_drop]; omega), List.drop_drop]
  congr 1
  have h2 : 2 ≤ (l.drop (sgn l)).length := by
    have hd := hokL.1
    have e2 : ((l.drop (sgn l)).drop ((l.drop (sgn l)).length - 2)).length = 2 := by
      rcases hd with h | h | h | h | h | h | h <;> rw [h] <;> rfl
    rw [List.length_drop] at e2
    omega
  rw [List.length_drop] at h2 ⊢
  omega
end Mine
end

/-! ## H2 -/
section
open PySem PySem.W PyProof.Rows PySem.Calls PySem.Spec
set_option maxRecDepth 100000
namespace Mine
theorem fillH2 : (fun (_ : Params → Frag) (_ : OpenLaw) => True) Mine.hd.heap_39 PySem.Challenge.rw_fc0077_01 := by k_fill; trivial
section
variable {w : World} {A : Around} {E : Value → Shared → Prop} {s : Shared} {Q : Value → Shared → Prop} {h₀ : Heap} {L x d : Addr} {m : Str → Option Value} {news : List (Addr × Obj)}
theorem encT_ref {T : Str} {t t2 : Tok} {sl : Array (Option Value)} (hl : T.length ≤ 9) (ha : ∀ c ∈ T.cps.toList, c < 97) (F : Fr h₀ L s.heap m) (X₀ : (Mine.hd.heap_39 w.params).In h₀) (N : News h₀ L s.heap news) (hx : (x, vwObj d T t sl) ∈ news) (hd : (d, dict0) ∈ news)
    (h : ∀ t' tk', Q (.bytes (byt T.cps.toList).toArray t') { s with toks := tk' }) : wpAny (model PR w) A (call (.builtin "str.encode") [.ref x, .str (Str.ofString "utf-8") t2]) Q E s :=
  encode_ref (l := T.cps.toList) (Nat.le_trans hl (by decide)) (fun c hc => Nat.lt_trans (ha c hc) (by decide)) F X₀ N hx hd h
theorem encT_str {T : Str} {t t2 : Tok} (hl : T.length ≤ 9) (ha : ∀ c ∈ T.cps.toList, c < 97) (h : ∀ t' tk', Q (.bytes (byt T.cps.toList).toArray t') { s with toks := tk' }) : wpAny (model PR w) A (call (.builtin "str.encode") [.str T t, .str (Str.ofString "utf-8") t2]) Q E s :=
  encode_str (l := T.cps.toList) (Nat.le_trans hl (by decide)) (fun c hc => Nat.lt_trans (ha c hc) (by decide)) h
theorem upT {T : Str} {t : Tok} (hl : T.length ≤ 9) (ha : ∀ c ∈ T.cps.toList, c < 97) (h : ∀ t' tk', Q (.bytes (byt T.cps.toList).toArray t') { s with toks := tk' }) : wpAny (model PR w) A (call (.builtin "bytes.upper") [.bytes (byt T.cps.toList).toArray t]) Q E s :=
  upper_byt (Nat.le_trans hl (by decide)) ha h
theorem decT {T : Str} {t u : Tok} (hl : T.length ≤ 9) (h0 : T.length ≠ 0) (ha : ∀ c ∈ T.cps.toList, c < 97) (h : ∀ t' tk', Q (.str T t') { s with toks := tk' }) :
    wpAny (model PR w) A (call (.builtin "bytes.decode") [.bytes (byt T.cps.toList).toArray t, .str (Str.ofString "utf-8") u]) Q E s := by
  obtain ⟨⟨l⟩⟩ := T
  cases l with
  | nil => exact absurd rfl h0
  | cons c r => exact decode_str (Nat.le_trans hl (by decide)) (fun c hc => Nat.lt_trans (ha c hc) (by decide)) h
theorem ne_bytes_same {b : Array UInt8} {t u : Tok} (h : Q (.bool false) s) : wpAny (model PR w) A (compareOp .NotEq (.bytes b t) (.bytes b u)) Q E s := by
  refine W.ne_bytes ?_
  rw [show (b.toList != b.toList) = false from by simp]; exact h
theorem ne_num {r r2 : Value} (hr : SameNum r r2) (h : Q (.bool false) s) : wpAny (model PR w) A (compareOp .NotEq r r2) Q E s := by
  rcases hr with ⟨rfl, rfl⟩ | ⟨v, t1, t2, rfl, rfl⟩
  · exact EqNone.ne_none_none h
  · refine PyProof.Rows.ne_int ?_
    rw [show (v != v) = false from by simp]; exact h
theorem eq_num {r r2 : Value} (hr : SameNum r r2) (h : Q (.bool true) s) : wpAny (model PR w) A (compareOp .Eq r r2) Q E s := by
  rcases hr with ⟨rfl, rfl⟩ | ⟨v, t1, t2, rfl, rfl⟩
  · exact EqNone.eq_none_none h
  · refine PyProof.Rows.eq_int ?_
    rw [show (v == v) = true from by simp]; exact h
end
section
variable {w : World} {A : Around} {E : Value → Shared → Prop} {s : Shared} {Q : Value → Shared → Prop} {h₀ : Heap} {L D : Addr} {m : Str → Option Value} {news : List (Addr × Obj)}
theorem tup2_0 {value slice : PySem.Expr} {a b : Value} {u : Tok} (N : News h₀ L s.heap news) (hD : (D, tup2 a b) ∈ news) (h : Q a s)
    (hs : subscripted slice false (.ref D) (.int 0 u) = operate [.ref D, .int 0 u] (getItem (.ref D) (.int 0 u)) := by with_unfolding_all rfl) : wpAny (model PR w) A (subscriptTail value slice (.ref D) (.int 0 u)) Q E s :=
  item_tupleT (l := [a, b]) (News.isTup N hD) (by decide) (by decide) (show seqIndex? 0 2 = some 0 from rfl) rfl h hs
theorem tup2_1 {value slice : PySem.Expr} {a b : Value} {u : Tok} (N : News h₀ L s.heap news) (hD : (D, tup2 a b) ∈ news) (h : Q b s)
    (hs : subscripted slice false (.ref D) (.int 1 u) = operate [.ref D, .int 1 u] (getItem (.ref D) (.int 1 u)) := by with_unfolding_all rfl) : wpAny (model PR w) A (subscriptTail value slice (.ref D) (.int 1 u)) Q E s :=
  item_tupleT (l := [a, b]) (News.isTup N hD) (by decide) (by decide) (show seqIndex? 1 2 = some 1 from rfl) rfl h hs
theorem gm_senc {M : Model} {T : Str} {t : Tok} {pl : Sem Bool} {Q : Value × List Value → Shared → Prop} (h : Q (.builtin "str.encode", [.str T t]) s) : wpAny M A (getMethod (.str T t) "encode" pl) Q E s := by
  with_reducible exact getMethod_builtin (typeIs_str _ _ _) PySem.F.plainAttrs_str PySem.F.slot_str_encode PySem.F.type_str_encode (fun _ e => nomatch e) h
end
/-- again, from a text that stands in capitals -/
theorem fi_again {w : World} {mean : ExcName → Option Value} {mg mb : Str → Option Value} {U : Str} {tt : Tok} (hUU : Txt.upper U = U) (hT : U.length ≤ 9) (hsz : U.cps.size ≤ 1000) (hgood : good U)
   {gd : Option (List Code)} {cn : Str} {cs : Scope} {aa : Addr} {ccd : Value} {outer : List Env} {A₀ : Around} {base h₀ : Heap} {L : Addr} {m : Str → Option Value} {news : List (Addr × Obj)} {s : Shared} {Q E : Value → Shared → Prop}
   (B : Below A₀ base outer h₀) (F : Fr h₀ L s.heap m) (X : (Mine.hd.heap_39 w.params).In h₀) (N : News h₀ L s.heap news) (T : Top Mine.hd.view_39 LOOSE mean mg mb h₀) (hk : cs.kind = .function)
   (XB : (Mine.hd.heap_39 w.params).In base) (TB : Top Mine.hd.view_39 LOOSE mean mg mb base) (D : KtsDicts (outer.filterMap (·.frame)) h₀)
   (hret : ∀ sg rl wd x d t t3 pv r h' tk' a, a ≤ 1 → RE.fits U.cps U.cps.size a = true → sg = ⟨U.cps.extract 0 a⟩ → rl = ⟨U.cps.extract a (U.cps.size - 2)⟩ → wd = ⟨U.cps.extract (U.cps.size - 2) U.cps.size⟩ → relOf sg rl r → Fr h₀ L h' m → News h₀ L h' ((x, vwObj d U t #[some pv, some r, some (.str wd t3)]) :: (d, dict0) :: news) → (∀ p ∈ news, p.1 ≠ x) → Q (.ref x) { s with heap := h', toks := tk' }) :
   codeAny (model PySem.Challenge.rw_fc0077_01.row.prog w) (ktrTop 370 170 gd cn cs L aa ccd [] outer) (.call (.ref 350) ⟨[.ref 365, .str U tt], []⟩) (fun r s' => match r with | .ok (.ret v) => Q v s' | .ok _ => False | .error e => E e s') s := by
  refine fi_ok hT (by rw [hUU]; omega) (by rw [hUU]; exact hsz) (by rw [hUU]; exact hgood) B F X N T hk XB TB D ?_
  rw [hUU]
  exact hret
local macro_rules | `(tactic| walk_at "my_step") => `(tactic| first | (k_unfold; (try dsimp only)) | (k_end; wrow_close) | walk1 | (dsimp only; walk1) | (leave1; walk_say "STEP leave1"; try dsimp only))
local macro_rules | `(tactic| walk_at "my_enterS") => `(tactic| (refine' code_defS ?k1 ?k2 ?k3 ?k4 ?k5 ?XB ?TB ?D ?T0 ?kA ?k6 ?k7 ?k8 ?k9 ?kB ?_ ?cK ?c2 ?c3 ?c4 ?c5; (case kA => exact rfl); (case k2 => k_asm); (case k1 => k_asm); (case XB => assumption); (case TB => assumption); (case D => assumption); (case T0 => first | assumption | exact KtsTurn.refl); (case k3 => k_asm); (case k4 => k_asm); (case k5 => k_asm); (case k6 => k_is); (case k7 => k_is); (case k8 => ktr_room); (case k9 => first | exact binds_K (by k_in) rfl (by k_is) rfl rfl rfl | exact BindsTo.of_eq rfl); (case kB => exact locs rfl); (case cK => first | exact rfl | assumption); (case c2 => exact rfl); (case c3 => exact rfl); (case c4 => exact rfl); (case c5 => decide); intro g' L' h' FG' F' N' B' X' T' D'; (try dsimp only); (try k_lift B')))
local macro_rules | `(tactic| walk_at "my_enterP") => `(tactic| (refine' code_def ?k1 ?k2 ?k3 ?k4 ?k5 ?kA ?kF ?kK ?k6 ?k7 ?k8 ?k9 ?kB ?_ ?c2 ?c3 ?c4 ?c5; (case kA => exact rfl); (case kF => exact rfl); (case kK => first | exact rfl | assumption); (case k1 => k_asm); (case k2 => k_asm); (case k3 => k_asm); (case k4 => k_asm); (case k5 => k_asm); (case k6 => k_is); (case k7 => k_is); (case k8 => ktr_room); (case k9 => first | exact BindsTo.of_eq rfl | exact binds_K (by k_in) rfl (by k_is) rfl rfl rfl); (case c5 => decide); (case kB => exact locs rfl); (case c2 => exact rfl); (case c3 => exact rfl); (case c4 => exact rfl); intro g' L' h' FG' F' N' B' X' T'; (try dsimp only); (try k_lift B')))
local macro_rules | `(tactic| k_inst) => `(tactic| (refine' inst365' ?N ?h1 ?h2; (case N => k_asm); (case h1 => k_mem); (case h2 => k_mem)))
/- _law_read: a tuple -/
local macro_rules | `(tactic| walk_at "call ref") => `(tactic| (k_here; (with_reducible show wpAny _ _ (call (Value.ref 390) _) _ _ _); k_dflt (refine' wp_deep (D := 360) (U := 160) (Nat.le_of_ble_eq_true rfl) (Nat.le_of_ble_eq_true rfl) (read_c ?h0 ?k1 ?k2 ?k3 ?k4 ?k5 ?k6 ?kn ?kt); (case h0 => assumption); (case k1 => k_asm); (case k2 => k_asm); (case k3 => k_asm); (case k4 => k_asm); (case k5 => k_asm); (case k6 => exact rfl); (case kn => intro b k h' tk' hb hk hno; rename ∀ (b : Str) (k : Nat), _ → _ → okK _ _ => hokA; exact absurd (hokA _ _ hb hk) hno)); intro b' k' D' t' r2' h' tk' hb' hk' hok' hrv' F' N'))
/- _law_told: the object -/
local macro_rules | `(tactic| walk_at "call ref") => `(tactic| (k_here; (with_reducible show wpAny _ _ (call (Value.ref 397) _) _ _ _); k_dflt (refine' wp_deep (D := 360) (U := 160) (Nat.le_of_ble_eq_true rfl) (Nat.le_of_ble_eq_true rfl) (told_ok ?h0 ?h1 ?h2 ?h3 ?k1 ?k2 ?k3 ?k4 ?k5 ?k6 ?XB ?TB ?D ?_); (case h0 => assumption); (case h1 => assumption); (case h2 => assumption); (case h3 => assumption); (case k1 => k_asm); (case k2 => k_asm); (case k3 => k_asm); (case k4 => k_asm); (case k5 => k_asm); (case k6 => exact rfl); (case XB => assumption); (case TB => assumption); (case D => assumption)); intro sg' rl' wd' x' d' t' t3' pv' r' h' tk' a' ha' hf' esg' erl' ewd' hrel' F' N' hx'; (rename before _ = _ => hb'; rename _ = Str.length _ => hk'; rename okK _ _ => hok'; rename RVK _ _ _ _ => hrv'; rename _ ≤ 9 => hl9'; rename (Txt.upper _).length ≤ 9 => hl9'; have hsame' := same_facts hl9' hb' hk' hok' hrv' ha' hf' esg' erl' ewd' hrel'; have hwd' := hsame'.1; have hnum' := hsame'.2; clear hsame')))
/- from_ical of what was written -/
local macro_rules | `(tactic| walk_at "call ref") => `(tactic| (k_here; (with_reducible show wpAny _ _ (call (Value.ref _) [Value.str _ _]) _ _ _); k_dflt (refine' call_meth ?n1 ?n2 (cd_deep (D := 370) (U := 170) (Nat.le_of_ble_eq_true rfl) (Nat.le_of_ble_eq_true rfl) (fi_again ?h0 ?h1 ?h2 ?h3 ?k1 ?k2 ?k3 ?k4 ?k5 ?k6 ?XB ?TB ?D ?_)); (case n1 => k_asm); (case n2 => k_mem); (case h0 => assumption); (case h1 => assumption); (case h2 => assumption); (case h3 => assumption); (case k1 => k_asm); (case k2 => k_asm); (case k3 => k_asm); (case k4 => k_asm); (case k5 => k_asm); (case k6 => exact rfl); (case XB => assumption); (case TB => assumption); (case D => assumption)); intro sg' rl' wd' x' d' t' t3' pv' r' h' tk' a' ha' hf' esg' erl' ewd' hrel' F' N' hx'; (rename before _ = _ => hb'; rename _ = Str.length _ => hk'; rename okK _ _ => hok'; rename RVK _ _ _ _ => hrv'; rename (Txt.upper _).length ≤ 9 => hl9'; have hsame' := same_facts hl9' hb' hk' hok' hrv' ha' hf' esg' erl' ewd' hrel'; have hwd' := hsame'.1; have hnum' := hsame'.2; clear hsame')))
local macro_rules | `(tactic| walk_at "getAttr ref") => `(tactic| (k_here; first
  | ((with_reducible show wpAny _ _ (getAttr _ (Str.ofString "weekday") _) _ _ _); k_dflt (refine' get_weekday ?k1 ?k2 ?k3 ?k4 ?k5 ?k6 ?_; (case k1 => k_asm); (case k2 => k_asm); (case k3 => k_asm); (case k4 => k_mem); (case k5 => k_mem); (case k6 => exact rfl)))
  | ((with_reducible show wpAny _ _ (getAttr _ (Str.ofString "relative") _) _ _ _); k_dflt (refine' get_relative ?k1 ?k2 ?k3 ?k4 ?k5 ?k6 ?_; (case k1 => k_asm); (case k2 => k_asm); (case k3 => k_asm); (case k4 => k_mem); (case k5 => k_mem); (case k6 => exact relOf_handed (by assumption))))
  | ((with_reducible show wpAny _ _ (getAttr _ (Str.ofString "ical_value") _) _ _ _); k_dflt (refine' wp_deep (D := 360) (U := 160) (Nat.le_of_ble_eq_true rfl) (Nat.le_of_ble_eq_true rfl) (ical_c ?h0 ?k1 ?k2 ?k3 ?k4 ?k5 ?k6 ?k7 ?k8 ?_); (case k1 => k_asm); (case k2 => k_asm); (case k3 => k_asm); (case k4 => k_asm); (case k5 => k_asm); (case k6 => exact rfl); (case k7 => k_mem); (case k8 => k_mem); (case h0 => omega)); intro t' h' tk' F' N')))
local macro_rules | `(tactic| walk_at "compareOp NotEq str str") => `(tactic| (k_here; k_dflt (refine' ne_same ?k1 ?_; (case k1 => first | assumption | exact rfl))))
local macro_rules | `(tactic| walk_at "compareOp Eq str str") => `(tactic| (k_here; k_dflt (refine' eq_same ?k1 ?_; (case k1 => first | assumption | exact rfl))))
local macro_rules | `(tactic| walk_at "compareOp NotEq") => `(tactic| (k_here; k_dflt (refine' ne_num ?k1 ?_; (case k1 => assumption))))
local macro_rules | `(tactic| walk_at "compareOp Eq") => `(tactic| (k_here; k_dflt (refine' eq_num ?k1 ?_; (case k1 => assumption))))
local macro_rules | `(tactic| walk_at "compareOp NotEq bytes bytes") => `(tactic| (k_here; k_dflt (refine ne_bytes_same ?_)))
local macro_rules | `(tactic| walk_at "compareOp NotEq ref str") => `(tactic| (k_here; k_dflt (refine' ne_plain ?k1 ?k2 ?k3 ?k4 ?k5 ?k6 ?k7 ?_; (case k1 => exact Nat.le_of_ble_eq_true rfl); (case k2 => k_asm); (case k3 => k_asm); (case k4 => k_asm); (case k5 => k_mem); (case k6 => k_mem); (case k7 => exact rfl))))
local macro_rules | `(tactic| walk_at "compareOp Eq ref ref") => `(tactic| (k_here; k_dflt (refine' eq_two ?k1 ?k2 ?k3 ?k4 ?k5 ?k6 ?k7 ?k8 ?k9 ?_; (case k1 => exact Nat.le_of_ble_eq_true rfl); (case k2 => k_asm); (case k3 => k_asm); (case k4 => k_asm); (case k5 => k_mem); (case k6 => k_mem); (case k7 => k_mem); (case k8 => k_mem); (case k9 => exact rfl))))
local macro_rules | `(tactic| walk_at "getMethod ref") => `(tactic| (k_here; (with_reducible show wpAny _ _ (getMethod _ (Str.ofString "encode") _) _ _ _); k_dflt (refine' gm_encode ?k1 ?k2 ?k3 ?k4 ?k5 ?_; (case k1 => k_asm); (case k2 => k_asm); (case k3 => k_asm); (case k4 => k_mem); (case k5 => k_mem))))
local macro_rules | `(tactic| walk_at "getMethod bytes") => `(tactic| (k_here; (with_reducible show wpAny _ _ (getMethod _ (Str.ofString "upper") _) _ _ _); (with_reducible refine gm_bup ?_)))
local macro_rules | `(tactic| walk_at "call builtin:str.encode") => `(tactic| (k_here; first
  | ((with_reducible show wpAny _ _ (call _ [Value.ref _, _]) _ _ _); k_dflt (refine' encT_ref ?k0 ?k1 ?k2 ?k3 ?k4 ?k5 ?k6 ?_; (case k0 => assumption); (case k1 => assumption); (case k2 => k_asm); (case k3 => k_asm); (case k4 => k_asm); (case k5 => k_mem); (case k6 => k_mem); intro t' tk'))
  | k_dflt (refine' encT_str ?k0 ?k1 ?_; (case k0 => assumption); (case k1 => assumption); intro t' tk')))
local macro_rules | `(tactic| walk_at "call builtin:bytes.upper") => `(tactic| (k_here; k_dflt (refine' upT ?k0 ?k1 ?_; (case k0 => assumption); (case k1 => assumption); intro t' tk')))
local macro_rules | `(tactic| walk_at "call builtin:bytes.decode") => `(tactic| (k_here; k_dflt (refine' decT ?k0 ?k1 ?k2 ?_; (case k0 => assumption); (case k1 => assumption); (case k2 => assumption); intro t' tk')))
local macro_rules | `(tactic| walk_at "call type:str") => `(tactic| (k_here; (with_reducible show wpAny _ _ (call _ [Value.ref _]) _ _ _); k_dflt (refine' wp_wide (by rfl) (Nat.le_of_ble_eq_true rfl) (Nat.le_of_ble_eq_true rfl) (x_strOf ?k1 ?k2 ?k3 ?k4 ?_); (case k1 => omega); (case k2 => k_in); (case k3 => exact News.get (by k_asm) (by k_mem)); (case k4 => exact News.get (by k_asm) (by k_mem)); intro t' tk')))
local macro_rules | `(tactic| walk_at "subscriptTail Name") => `(tactic| (k_here; first
  | ((with_reducible show wpAny _ _ (subscriptTail _ _ (Value.ref _) (Value.int 0 _)) _ _ _); k_dflt (refine' tup2_0 ?k1 ?k2 ?_ ?k3; (case k1 => k_asm); (case k2 => k_mem); (case k3 => with_unfolding_all rfl)))
  | ((with_reducible show wpAny _ _ (subscriptTail _ _ (Value.ref _) (Value.int 1 _)) _ _ _); k_dflt (refine' tup2_1 ?k1 ?k2 ?_ ?k3; (case k1 => k_asm); (case k2 => k_mem); (case k3 => with_unfolding_all rfl)))))
local macro_rules | `(tactic| walk_at "getMethod str") => `(tactic| (k_here; (with_reducible show wpAny _ _ (getMethod _ (Str.ofString "encode") _) _ _ _); (with_reducible refine gm_senc ?_)))
set_option maxHeartbeats 0 in
theorem holds_good {w : World} {mean : ExcName → Option Value} {mg mb : Str → Option Value} {T0 : Str} {tt : Tok} (hT : T0.length ≤ 9) (hlen : (Txt.upper T0).length ≤ 27) (hsz : (Txt.upper T0).cps.size ≤ 1000) (hl9 : (Txt.upper T0).length ≤ 9) (hl0 : (Txt.upper T0).length ≠ 0) (hgood : good (Txt.upper T0)) (hUU : Txt.upper (Txt.upper T0) = Txt.upper T0) (hlow : ∀ c ∈ (Txt.upper T0).cps.toList, c < 97)
   (hokA : ∀ b k, before (Txt.upper T0) = b → k = b.length → okK (Txt.upper T0) k)
   {gd : Option (List Code)} {cn : Str} {cs : Scope} {aa : Addr} {ccd : Value} {outer : List Env} {A₀ : Around} {base h₀ : Heap} {L : Addr} {m : Str → Option Value} {news : List (Addr × Obj)} {s : Shared} {Q E : Value → Shared → Prop}
   (B : Below A₀ base outer h₀) (F : Fr h₀ L s.heap m) (X : (Mine.hd.heap_39 w.params).In h₀) (N : News h₀ L s.heap news) (T : Top Mine.hd.view_39 LOOSE mean mg mb h₀) (hk : cs.kind = .function)
   (XB : (Mine.hd.heap_39 w.params).In base) (TB : Top Mine.hd.view_39 LOOSE mean mg mb base) (D : KtsDicts (outer.filterMap (·.frame)) h₀)
   (hret : ∀ h₁ h' tk', KtsTurn (outer.filterMap (·.frame)) h₀ h₁ → Fr h₁ L h' m → News h₁ L h' news → Below A₀ base outer h₁ → (Mine.hd.heap_39 w.params).In h₁ → Top Mine.hd.view_39 LOOSE mean mg mb h₁ → KtsDicts (outer.filterMap (·.frame)) h₁ → Q (.bool true) { s with heap := h', toks := tk' }) :
   wpAny (model PySem.Challenge.rw_fc0077_01.row.prog w) (ktrTop 350 150 gd cn cs L aa ccd [] outer) (call (.ref 404) [.str T0 tt]) Q E s := by
  refine wpAny_call ?_
  w_top off
  k_dflt (walk_at "my_enterS")
  repeat' (walk_at "my_step")
  rename Fr h₀ L _ m => kF1
  rename News h₀ L _ _ => kN1
  exact hret h₀ _ _ KtsTurn.refl kF1 (fun p hp => kN1 p (by repeat (first | exact hp | apply List.Mem.tail))) B X T D
end Mine
end

/-! ## PL8 -/
section
open PySem PySem.W PyProof.Rows PySem.Calls PySem.Spec
set_option maxRecDepth 100000
namespace Mine
/-- the signs that the law writes -/
def alc (c : Nat) : Prop := (c < 128 ∨ c = 1633) ∧ upc (upa c)
theorem alc_up {T : Str} (h : ∀ c ∈ T.cps.toList, alc c) : (Txt.upper T).length = T.length ∧ ∀ c ∈ (Txt.upper T).cps.toList, upc c := by
  rw [upper_al fun c hc => (h c hc).1]
  constructor
  · show (T.cps.map upa).size = T.cps.size
    simp
  · intro c hc
    have hc : c ∈ (T.cps.map upa).toList := hc
    rw [Array.toList_map] at hc
    obtain ⟨d, hd, rfl⟩ := List.mem_map.mp hc
    exact (h d hd).2
end Mine
end

/-! ## H3 -/
section
open PySem PySem.W PyProof.Rows PySem.Calls PySem.Spec
set_option maxRecDepth 100000
namespace Mine
theorem good_ok {U : Str} (hl : U.length ≤ 9) (hu : ∀ c ∈ U.cps.toList, upc c) : (∀ b k, before U = b → k = b.length → okK U k) ↔ good U := by
  obtain ⟨⟨l⟩⟩ := U
  have hl : l.length ≤ 9 := hl
  rw [good_iff hu, ← law_eq, ← ok_iff hl]
  constructor
  · intro h; exact h _ _ rfl (before_len hl).symm
  · intro h b k hb hk
    subst hb
    rw [before_len hl] at hk
    rw [hk]; exact h
set_option maxHeartbeats 1000000 in
theorem holds_c {w : World} {mean : ExcName → Option Value} {mg mb : Str → Option Value} {T0 : Str} {tt : Tok} (hT : T0.length ≤ 9) (hal : ∀ c ∈ T0.cps.toList, alc c)
   {gd : Option (List Code)} {cn : Str} {cs : Scope} {aa : Addr} {ccd : Value} {outer : List Env} {A₀ : Around} {base h₀ : Heap} {L : Addr} {m : Str → Option Value} {news : List (Addr × Obj)} {s : Shared} {Q E : Value → Shared → Prop}
   (B : Below A₀ base outer h₀) (F : Fr h₀ L s.heap m) (X : (Mine.hd.heap_39 w.params).In h₀) (N : News h₀ L s.heap news) (T : Top Mine.hd.view_39 LOOSE mean mg mb h₀) (hk : cs.kind = .function)
   (XB : (Mine.hd.heap_39 w.params).In base) (TB : Top Mine.hd.view_39 LOOSE mean mg mb base) (D : KtsDicts (outer.filterMap (·.frame)) h₀)
   (hret : ∀ h₁ h' tk', KtsTurn (outer.filterMap (·.frame)) h₀ h₁ → Fr h₁ L h' m → News h₁ L h' news → Below A₀ base outer h₁ → (Mine.hd.heap_39 w.params).In h₁ → Top Mine.hd.view_39 LOOSE mean mg mb h₁ → KtsDicts (outer.filterMap (·.frame)) h₁ → Q (.bool true) { s with heap := h', toks := tk' }) :
   wpAny (model PySem.Challenge.rw_fc0077_01.row.prog w) (ktrTop 350 150 gd cn cs L aa ccd [] outer) (call (.ref 404) [.str T0 tt]) Q E s := by
  obtain ⟨hul, huc⟩ := alc_up hal
  have hU9 : (Txt.upper T0).length ≤ 9 := by omega
  have hsz : (Txt.upper T0).cps.size ≤ 1000 := Nat.le_trans hU9 (by decide)
  by_cases hg : good (Txt.upper T0)
  · have hok := (good_ok hU9 huc).mpr hg
    have h0 : (Txt.upper T0).length ≠ 0 := by
      intro z
      have h1 := hg.1
      have z : (Txt.upper T0).cps.size = 0 := z
      rw [z, fits_short (by decide), fits_short (by decide)] at h1
      rcases h1 with h | h <;> cases h
    refine holds_good hT (by omega) hsz hU9 h0 hg (up_twice huc) ?_ hok B F X N T hk XB TB D hret
    have hx := hok _ _ rfl rfl
    revert hx hU9
    generalize Txt.upper T0 = U
    obtain ⟨⟨l⟩⟩ := U
    intro hU9 hx
    have hl : l.length ≤ 9 := hU9
    rw [before_len hl] at hx
    exact ok_low ((ok_iff hl).mp hx)
  · refine holds_bad hT (by omega) hsz hg ?_ B F X N T hk XB TB D hret
    intro b k hb hk2 hok
    refine hg ((good_ok hU9 huc).mp fun b' k' hb' hk' => ?_)
    subst hb' hk' hb hk2
    exact hok
end Mine
end

/-! ## C1 -/
section
open PySem PySem.W PyProof.Rows PySem.Calls PySem.Spec PyProof.Rows.LCg
set_option maxRecDepth 100000
namespace Mine
section
variable {prog : Program} {w : World} {A : Around} {E : Value → Shared → Prop} {s : Shared} {h₀ : Heap} {L : Addr} {m : Str → Option Value} {env : Env}
theorem fr_out {h h' : Heap} {fp : List Addr} (F : Fr h₀ L h m) (hk : ∀ b o, b ∉ fp → h.get? b = some o → h'.get? b = some o) (hL : L ∉ fp) (hI : ∀ b ∈ fp, h₀.get? b = none) : Fr h₀ L h' m :=
  ⟨F.ns.at' fun o e => hk L o hL e, fun b o e => hk b o (fun hm => by rw [hI b hm] at e; cases e) (F.keep b o e), F.above⟩
theorem news_out {h h' : Heap} {fp : List Addr} {news : List (Addr × Obj)} (N : News h₀ L h news) (hk : ∀ b o, b ∉ fp → h.get? b = some o → h'.get? b = some o) (off : ∀ p ∈ news, p.1 ∉ fp) : News h₀ L h' news :=
  fun p hp => ⟨hk _ _ (off p hp) (N p hp).1, (N p hp).2⟩
/-- `[elt for a, b in enumerate(text)]`, by what holds of each element -/
theorem block_E {elt iter : PySem.Expr} {a b : Str} {pa pb tp : Pos} {tk} {scope : Scope} {cl : List (Str × Addr)} {pos : Pos} {s₂ : Shared} {e it : Addr} {old : Value} {x : Str} {t : Tok} {news : List (Addr × Obj)} {PY : Value → Prop} {RR : Value → Addr → Result → Shared → Prop}
    (hh : A.handled = none) (hsz : x.cps.size ≤ sizeLine) (he : IsEnum s₂.heap e it 0 old) (hit : s₂.heap.IsStrIter it "str_ascii_iterator" x t 0) (hei : e ≠ it)
    (hcell : ∀ y ∈ scope.names, y.2 ≠ .cell) (hkind : scope.kind = .function) (hx : scope.names.lookup a = some .local) (hx₂ : scope.names.lookup b = some .local) (hxx : a ≠ b)
    (F : Fr h₀ L s₂.heap m) (N : News h₀ L s₂.heap news) (hLe : L ≠ e) (hLi : L ≠ it) (he₀ : h₀.get? e = none) (hi₀ : h₀.get? it = none) (off : ∀ p ∈ news, p.1 ≠ e ∧ p.1 ≠ it)
    (turn : ∀ (i c : Nat) oE oI C oC D ys m₂ h tk ti tc (E' : Value → Shared → Prop), x.cps[i]? = some c → NsObj oC m₂ → m₂ a = some (.int (i : Int) ti) → m₂ b = some (.str ⟨#[c]⟩ tc) → Fr h₀ L h m →
      News h₀ L h ((e, oE) :: (C, oC) :: (D, lst ys) :: (it, oI) :: news) → Off3 e C D ((it, oI) :: news) → ((@Ne Nat e C) ∧ (@Ne Nat e D) ∧ (@Ne Nat C D)) →
      wpAny (model prog w) A (eval elt (compEnvC scope cl C env)) (CompEnd h₀ L m { s₂ with heap := h, toks := tk } e oE C oC D (lst ys) (fun _ => True) (fun y news' => news' = (it, oI) :: news ∧ PY y)) E' { s₂ with heap := h, toks := tk })
    (hRR : ∀ D C h tk m' ys, Fr h₀ L h m → News h₀ L h ((D, lst ys) :: news) → Off1 D news → h.Ns C m' → h₀.get? C = none → h₀.get? D = none → C ≠ L → D ≠ L → C ≠ D → (∀ p ∈ news, p.1 ≠ C) → ys.length = x.cps.size → (∀ y ∈ ys, PY y) → RR (.ref D) C (.ok .next) { s₂ with heap := h, toks := tk }) :
    wpAny (model prog w) A (newList []) (fun acc s₃ => wpAny (model prog w) A (newFunctionEnv scope env.globals cl [] env.qual none .none (some env)) (fun cenv s₄ =>
      codeAny (model prog w) A (.compStart (.ListComp elt [⟨.Tuple [.Name a pa, .Name b pb] tk tp, iter, [], 0⟩] scope pos) 0 (.ref e) acc { cenv with scope := relabel scope env }) (RR acc cenv.locals) s₄) E s₃) E s₂ := by
  have W := WalksT.enumerateD (prog := prog) (w := w) (A := A) (Draws.strAscii (A := A.in1) hh it x t) e hei (by simpa using hei) (by simp)
  have st0 : (∃ old, IsEnum s₂.heap e it ((0 : Nat) : Int) old) ∧ s₂.heap.IsStrIter it "str_ascii_iterator" x t 0 := ⟨⟨_, he⟩, hit⟩
  refine wpAny_newObj_type (wpAny_newFunctionEnv hcell (by intro y hy; simp at hy) (fun h₁ hns₁ hsb₁ => ?_) hkind)
  dsimp only at hns₁ hsb₁ ⊢
  generalize hH2 : s₂.heap.push { cls := .type "list", dict := none, data := .seq ([] : List Value).toArray } = H2 at hns₁ hsb₁ ⊢
  have hC : H2.objs.size = s₂.heap.objs.size + 1 := by rw [← hH2, Heap.size_push]
  have hDC : s₂.heap.objs.size ≠ H2.objs.size := by rw [hC]; exact Nat.ne_of_lt (Nat.lt_succ_self _)
  have below : ∀ b, b < s₂.heap.objs.size → b ≠ H2.objs.size ∧ b ≠ s₂.heap.objs.size := fun b hb => ⟨by rw [hC]; exact Nat.ne_of_lt (Nat.lt_succ_of_lt hb), Nat.ne_of_lt hb⟩
  have helt : e < s₂.heap.objs.size := Heap.lt_size he
  have hilt : it < s₂.heap.objs.size := by obtain ⟨o, ho, _⟩ := hit; exact Heap.lt_size ho
  have old : ∀ b o, s₂.heap.get? b = some o → h₁.get? b = some o := fun b o e => hsb₁.extBut b o (below b (Heap.lt_size e)).1 (Heap.get?_push_of_some _ (hH2 ▸ Heap.get?_push_of_some _ e))
  have hacc : h₁.get? s₂.heap.objs.size = some (lst []) := hsb₁.extBut _ _ hDC (Heap.get?_push_of_some _ (hH2 ▸ Heap.get?_push_size _ rfl))
  have hst₁ := W.frame _ _ _ st0 (fun b _ o e => old b o e)
  have fresh : ∀ a, s₂.heap.objs.size ≤ a → s₂.heap.get? a = none := fun a ha => by
    cases e : s₂.heap.get? a with
    | none => rfl
    | some o' => exact absurd (Heap.lt_size e) (Nat.not_lt.mpr ha)
  have fresh₀ : ∀ a, s₂.heap.objs.size ≤ a → h₀.get? a = none := fun a ha => by
    cases e : h₀.get? a with
    | none => rfl
    | some o' => have := F.keep a o' e; rw [fresh a ha] at this; cases this
  have hD₀ : h₀.get? s₂.heap.objs.size = none := fresh₀ _ (Nat.le_refl _)
  have hC₀ : h₀.get? H2.objs.size = none := fresh₀ _ (by rw [hC]; exact Nat.le_succ _)
  have hLlt : L < s₂.heap.objs.size := F.ns.lt
  have hDL : s₂.heap.objs.size ≠ L := Ne.symm (below L hLlt).2
  have hCL : H2.objs.size ≠ L := Ne.symm (below L hLlt).1
  have hCe : e ≠ H2.objs.size := (below e helt).1
  have hDe : e ≠ s₂.heap.objs.size := (below e helt).2
  have hCi : it ≠ H2.objs.size := (below it hilt).1
  have hDi : it ≠ s₂.heap.objs.size := (below it hilt).2
  have offN : ∀ p ∈ news, p.1 ≠ H2.objs.size ∧ p.1 ≠ s₂.heap.objs.size := fun p hp => below _ (Heap.lt_size (N p hp).1)
  have hLw : L ∉ [e, it] := by simp [hLe, hLi]
  have hw₀ : ∀ b ∈ [e, it], h₀.get? b = none := fun b hb => by
    rcases List.mem_cons.mp hb with rfl | hb
    · exact he₀
    · rw [List.mem_singleton.mp hb]; exact hi₀
  have hCw : H2.objs.size ∉ [e, it] := by simp [Ne.symm hCe, Ne.symm hCi]
  have hDw : s₂.heap.objs.size ∉ [e, it] := by simp [Ne.symm hDe, Ne.symm hDi]
  have offw : ∀ ys, ∀ p ∈ ((s₂.heap.objs.size, lst ys) :: news), p.1 ∉ [e, it] := fun ys p hp => by
    rcases List.mem_cons.mp hp with rfl | hp
    · exact hDw
    · simp [(off p hp).1, (off p hp).2]
  have loop : ∀ s₃ : Shared, s₃ = { s₂ with heap := h₁, toks := s₂.toks + ([] : List (Str × Value)).length } →
      codeAny (model prog w) A (.compLoop (.ListComp elt [⟨.Tuple [.Name a pa, .Name b pb] tk tp, iter, [], 0⟩] scope pos) 0 (.ref e) (.ref s₂.heap.objs.size) (compEnvC scope cl H2.objs.size env))
        (RR (.ref s₂.heap.objs.size) H2.objs.size) s₃ := by
    rintro s₃ rfl
    refine LCp.codeAny_compLoop_pair
      (fun k s' => ∃ h' tk i ys m', s' = { s₂ with heap := h', toks := tk } ∧ i ≤ x.cps.size ∧ k = x.cps.size + 1 - i ∧ ys.length = i ∧ ((∃ old, IsEnum h' e it ((i : Nat) : Int) old) ∧ h'.IsStrIter it "str_ascii_iterator" x t i) ∧ Fr h₀ L h' m ∧ h'.Ns H2.objs.size m' ∧ News h₀ L h' ((s₂.heap.objs.size, lst ys) :: news) ∧ ∀ y ∈ ys, PY y) ?_ (x.cps.size + 1)
      ⟨h₁, _, 0, [], _, rfl, Nat.zero_le _, rfl, rfl, hst₁, F.keeps old, hns₁, fun p hp => ?_, fun y hy => by cases hy⟩
    · rintro k s' ⟨h', tk, i, ys, m', rfl, hi, rfl, hyl, hst', F', hn', N', hPY⟩
      by_cases hlt : i < x.cps.size
      · refine W.item i _ _ _ hlt hst' fun T vals h₂ tk₂ hPv _ hT hM hk₂ => ?_
        obtain ⟨ti, xv, ⟨c, tc, hc, rfl⟩, rfl⟩ := hPv
        have hTw := W.apart _ _ _ hM
        refine W.go _ _ _ i T _ _ _ hM fun h₃ hst₃ hk₃ => ?_
        have hT₃ : h₃.IsTuple T #[.int i ti, .str ⟨#[c]⟩ tc] := hT.at fun o e => hk₃ _ o hTw e
        have F₃ : Fr h₀ L h₃ m := fr_out (fr_out F' hk₂ hLw hw₀) hk₃ hLw hw₀
        have N₃ : News h₀ L h₃ ((s₂.heap.objs.size, lst ys) :: news) := news_out (news_out N' hk₂ (offw ys)) hk₃ (offw ys)
        have hn₃ : h₃.Ns H2.objs.size m' := (hn'.at' fun o e => hk₂ _ o hCw e).at' fun o e => hk₃ _ o hCw e
        refine assign_Tuple_tuple hh hT₃ rfl rfl fun h₅ he₅ => ?_
        have he' : ∀ b o, h₃.get? b = some o → h₅.get? b = some o := fun b o e => he₅ b o (Nat.ne_of_lt (Heap.lt_size e)) e
        refine assignInOrder_cons (wpAny_assign_Name (wpAny_storeName_local (lookup_relabel_local hx) (hn₃.at' fun o e => he' _ o e) (fun h₆ hn₆ hs₆ => ?_) (by simp [compEnvC, relabel, hkind])))
        refine assignInOrder_cons (wpAny_assign_Name (wpAny_storeName_local (lookup_relabel_local hx₂) hn₆ (fun h₇ hn₇ hs₇ => ?_) (by simp [compEnvC, relabel, hkind])))
        refine assignInOrder_nil ?_
        have old3 : ∀ b o, b ≠ H2.objs.size → h₃.get? b = some o → h₇.get? b = some o := fun b o hb e => hs₇.extBut b o hb (hs₆.extBut b o hb (he' b o e))
        have hst₇ := W.frame _ _ h₇ hst₃ (fun b hb o ee => old3 b o (fun q => by
          rcases List.mem_cons.mp hb with q2 | hb
          · exact hCe (q2.symm.trans q)
          · exact hCi ((List.mem_singleton.mp hb).symm.trans q)) ee)
        obtain ⟨⟨oldE, heE⟩, oI, heI, rI⟩ := id hst₇
        obtain ⟨oC, heC, hoC⟩ := ns_obj hn₇
        have F₇ : Fr h₀ L h₇ m := ((F₃.keeps he').change hs₆ hCL hC₀).change hs₇ hCL hC₀
        have N₇ : News h₀ L h₇ ((e, _) :: (H2.objs.size, oC) :: (s₂.heap.objs.size, lst ys) :: (it, oI) :: news) := fun p hp => by
          rcases List.mem_cons.mp hp with rfl | hp
          · exact ⟨heE, Ne.symm hLe, he₀⟩
          rcases List.mem_cons.mp hp with rfl | hp
          · exact ⟨heC, hCL, hC₀⟩
          rcases List.mem_cons.mp hp with rfl | hp
          · have z := N₃ _ List.mem_cons_self
            exact ⟨old3 _ _ hDC z.1, z.2⟩
          rcases List.mem_cons.mp hp with rfl | hp
          · exact ⟨heI, Ne.symm hLi, hi₀⟩
          · have z := N₃ p (List.mem_cons_of_mem _ hp)
            exact ⟨old3 _ _ (offN p hp).1 z.1, z.2⟩
        have off₇ : Off3 e H2.objs.size s₂.heap.objs.size ((it, oI) :: news) := Off3.of fun p hp => by
          rcases List.mem_cons.mp hp with rfl | hp
          · exact ⟨Ne.symm hei, hCi, hDi⟩
          · exact ⟨(off p hp).1, (offN p hp).1, (offN p hp).2⟩
        refine wpAny_mono (turn i c _ oI H2.objs.size oC s₂.heap.objs.size ys _ h₇ _ ti tc _ hc hoC (by simp [hxx]) (by simp) F₇ N₇ off₇ ⟨hCe, hDe, Ne.symm hDC⟩) (fun y s₄ h₄ => ?_) fun _ _ e => e
        obtain ⟨h₄, tk₄, news₄, rfl, F₄, N₄, off₄, _, rfl, hPy⟩ := h₄
        have zE := (N₄ _ List.mem_cons_self).1
        have zC := (N₄ (H2.objs.size, oC) (List.mem_cons_of_mem _ List.mem_cons_self)).1
        have zD := (N₄ (s₂.heap.objs.size, lst ys) (List.mem_cons_of_mem _ (List.mem_cons_of_mem _ List.mem_cons_self))).1
        have zI := (N₄ (it, oI) (List.mem_cons_of_mem _ (List.mem_cons_of_mem _ (List.mem_cons_of_mem _ List.mem_cons_self)))).1
        have N₄' : News h₀ L h₄ news := fun p hp => N₄ p (List.mem_cons_of_mem _ (List.mem_cons_of_mem _ (List.mem_cons_of_mem _ (List.mem_cons_of_mem _ hp))))
        have hst₄ := W.frame _ _ h₄ hst₇ (fun b hb o ee => by
          rcases List.mem_cons.mp hb with rfl | hb
          · rw [heE] at ee; cases ee; exact zE
          · obtain rfl := List.mem_singleton.mp hb
            rw [heI] at ee; cases ee; exact zI)
        refine append_at (hsz := by show ys.toArray.size ≤ sizeLine; rw [List.size_toArray, hyl]; exact Nat.le_trans hi hsz) zD fun h₅ hs₅ hD₅ => ?_
        refine ⟨x.cps.size + 1 - (i + 1), by omega, h₅, tk₄, i + 1, ys ++ [y], _, rfl, hlt, rfl, by rw [List.length_append, List.length_singleton, hyl], W.frame _ _ _ hst₄ (fun b hb o ee => hs₅.extBut b o (fun q => by
            rcases List.mem_cons.mp hb with q2 | hb
            · exact hDe (q2.symm.trans q)
            · exact hDi ((List.mem_singleton.mp hb).symm.trans q)) ee), F₄.change hs₅ hDL hD₀, (hoC.ns zC).sameBut hs₅ (Ne.symm hDC), fun p hp => ?_, fun z hz => ?_⟩
        · rcases List.mem_cons.mp hp with rfl | hp
          · exact ⟨hD₅.trans (congrArg some (lst_snoc ys y)), hDL, hD₀⟩
          · exact ⟨hs₅.extBut _ _ (offN p hp).2 (N₄' p hp).1, (N₄' p hp).2⟩
        · rcases List.mem_append.mp hz with hz | hz
          · exact hPY z hz
          · rw [List.mem_singleton.mp hz]; exact hPy
      · obtain rfl : i = x.cps.size := Nat.le_antisymm hi (Nat.not_lt.mp hlt)
        refine W.done _ _ _ hst' fun h₂ tk₂ hk₂ => ?_
        refine hRR _ _ h₂ tk₂ _ ys (fr_out F' hk₂ hLw hw₀) (news_out N' hk₂ (offw ys)) ?_ (hn'.at' fun o e => hk₂ _ o hCw e) hC₀ hD₀ hCL hDL (Ne.symm hDC) (fun p hp => (offN p hp).1) hyl hPY
        exact Off3.one (I := e) (C := H2.objs.size) (Off3.of fun p hp => ⟨(off p hp).1, (offN p hp).1, (offN p hp).2⟩)
    · rcases List.mem_cons.mp hp with rfl | hp
      · exact ⟨hacc, hDL, hD₀⟩
      · exact ⟨old _ _ (N p hp).1, (N p hp).2⟩
  exact codeAny_compStart_list (loop _ rfl) (W.self 0 _ _ _ hst₁ (loop _ rfl))
end
end Mine
end

/-! ## A1 -/
section
open PySem PySem.W PyProof.Rows PySem.Calls PySem.Spec
set_option maxRecDepth 100000
namespace Mine
/-- a text of at most n signs of the law -/
def AL (n : Nat) (T : Str) : Prop := T.length ≤ n ∧ ∀ c ∈ T.cps.toList, alc c
def upcB (c : Nat) : Bool := (Nat.ble 65 c && Nat.ble c 90) || (Nat.ble 48 c && Nat.ble c 57) || c == 43 || c == 45 || c == 32 || c == 1633 || c == 10 || c == 95
def alcB (c : Nat) : Bool := (Nat.blt c 128 || c == 1633) && upcB (upa c)
theorem upcB_of {c : Nat} (h : upcB c = true) : upc c := by
  unfold upcB at h
  unfold upc
  simp only [Bool.or_eq_true, Bool.and_eq_true, Nat.ble_eq, beq_iff_eq] at h
  omega
theorem alcB_of {c : Nat} (h : alcB c = true) : alc c := by
  unfold alcB at h
  simp only [Bool.and_eq_true, Bool.or_eq_true, Nat.blt_eq, beq_iff_eq] at h
  exact ⟨h.1, upcB_of h.2⟩
def alB (n : Nat) (T : Str) : Bool := Nat.ble T.length n && T.cps.toList.all alcB
theorem alB_of {n : Nat} {T : Str} (h : alB n T = true) : AL n T := by
  unfold alB at h
  simp only [Bool.and_eq_true, Nat.ble_eq, List.all_eq_true] at h
  exact ⟨h.1, fun c hc => alcB_of (h.2 c hc)⟩
theorem al_mono {a b : Nat} {T : Str} (h : AL a T) (hab : a ≤ b) : AL b T := ⟨Nat.le_trans h.1 hab, h.2⟩
theorem al_add {a b : Nat} {x y : Str} (hx : AL a x) (hy : AL b y) : AL (a + b) (x ++ y) := by
  have e : (x ++ y).cps = x.cps ++ y.cps := rfl
  constructor
  · show (x ++ y).cps.size ≤ a + b
    rw [e, Array.size_append]
    have h1 : x.cps.size ≤ a := hx.1
    have h2 : y.cps.size ≤ b := hy.1
    omega
  · intro c hc
    rw [e, Array.toList_append] at hc
    rcases List.mem_append.mp hc with hc | hc
    · exact hx.2 c hc
    · exact hy.2 c hc
theorem al_to {n : Nat} {x : Str} {j : Int} (hx : AL n x) (h0 : 0 ≤ j) (h1 : j ≤ x.length) : AL j.toNat (Txt.slice x none (some j)) := by
  have e := eq_of_beq (slice_closes_toL (x := x) h0 h1)
  rw [e]
  constructor
  · show ((x.cps.toList.drop (0 : Int).toNat).take (j - 0).toNat).length ≤ _
    rw [List.length_take]; omega
  · intro c hc
    have hc : c ∈ (x.cps.toList.drop (0 : Int).toNat).take (j - 0).toNat := hc
    exact hx.2 c (List.mem_of_mem_drop (List.mem_of_mem_take hc))
theorem al_from {n : Nat} {x : Str} {i : Int} (hx : AL n x) (h0 : 0 ≤ i) : AL (x.length - i.toNat) (Txt.slice x (some i) none) := by
  by_cases h1 : i ≤ x.length
  · rw [slice_from_eq (b := x.length) h0 h1 rfl]
    constructor
    · show ((x.cps.toList.drop i.toNat).take ((x.length : Int) - i).toNat).length ≤ _
      rw [List.length_take]; omega
    · intro c hc
      have hc : c ∈ (x.cps.toList.drop i.toNat).take ((x.length : Int) - i).toNat := hc
      exact hx.2 c (List.mem_of_mem_drop (List.mem_of_mem_take hc))
  · rw [slice_beyond (by omega)]
    exact ⟨Nat.zero_le _, fun c hc => by cases hc⟩
def loa (c : Nat) : Nat := if c < 128 then lo1 c else c
theorem loa_alc {c : Nat} (h : alc c) : alc (loa c) := by
  rcases h.1 with h1 | rfl
  · have key : ∀ c, c < 128 → alcB c = true → alcB (lo1 c) = true := by decide +kernel
    unfold loa
    rw [if_pos h1]
    refine alcB_of (key c h1 ?_)
    unfold alcB
    have k2 : ∀ c, c < 128 → (upcB (upa c) = true ∨ ¬ upcB (upa c) = true) := fun c _ => Classical.em _
    have k3 : upcB (upa c) = true := by
      have := h.2
      unfold upc at this
      unfold upcB
      simp only [Bool.or_eq_true, Bool.and_eq_true, Nat.ble_eq, beq_iff_eq]
      omega
    rw [k3]
    simp [Nat.blt_eq, h1]
  · exact h
theorem lower_al {n : Nat} {x : Str} (hx : AL n x) : AL n (Txt.lower x) := by
  have e : Txt.lower x = ⟨x.cps.map loa⟩ := by
    unfold Txt.lower
    rw [placed_single x _ loa fun i c hc => ?_]
    have hc2 : x.cps[i]? = some c := by rw [← Array.getElem?_toList]; exact hc
    unfold Unicode.lowerAt
    rw [hc2]
    have ha := (hx.2 c (List.mem_of_getElem? hc)).1
    have hs : (c == 0x3A3) = false := by rw [beq_eq_false_iff_ne]; omega
    simp only [hs, Bool.false_and, Bool.false_eq_true, if_false]
    rcases ha with h | rfl
    · rw [lowerOf_ascii c h]; unfold loa; rw [if_pos h]
    · decide +kernel
  rw [e]
  constructor
  · show (x.cps.map loa).size ≤ n
    rw [Array.size_map]; exact hx.1
  · intro c hc
    have hc : c ∈ (x.cps.map loa).toList := hc
    rw [Array.toList_map] at hc
    obtain ⟨d, hd, rfl⟩ := List.mem_map.mp hc
    exact loa_alc (hx.2 d hd)
theorem al_fold : ∀ (rest : List Str) (acc : Array Nat) (k : Nat), AL k ⟨acc⟩ → (∀ y ∈ rest, AL 1 y) → AL (k + rest.length) ⟨rest.foldl (fun acc p => acc ++ Str.empty.cps ++ p.cps) acc⟩
  | [], _, _, h, _ => h
  | y :: r, acc, k, h, hr => by
    rw [List.foldl_cons]
    have h1 : AL (k + 1) ⟨acc ++ Str.empty.cps ++ y.cps⟩ := by
      have e : (⟨acc ++ Str.empty.cps ++ y.cps⟩ : Str) = ⟨acc⟩ ++ y := by
        show (⟨acc ++ Str.empty.cps ++ y.cps⟩ : Str) = ⟨acc ++ y.cps⟩
        congr 2
      rw [e]
      exact al_add h (hr y (List.Mem.head _))
    have := al_fold r _ _ h1 fun z hz => hr z (List.Mem.tail _ hz)
    refine al_mono this ?_
    rw [List.length_cons]; omega
theorem al_join {ys : List Str} (h : ∀ y ∈ ys, AL 1 y) : AL ys.length (Txt.join Str.empty ys) := by
  cases ys with
  | nil => exact ⟨Nat.le_refl _, fun c hc => by cases hc⟩
  | cons y r =>
    have := al_fold r y.cps 1 (h y (List.Mem.head _)) fun z hz => h z (List.Mem.tail _ hz)
    refine al_mono this ?_
    rw [List.length_cons]; omega
theorem str_small : ∀ n, n < 200 → alB 3 (Str.ofString (toString ((n : Nat) : Int))) = true := by decide +kernel
end Mine
end

/-! ## A2 -/
section
open PySem PySem.W PyProof.Rows PySem.Calls PySem.Spec
set_option maxRecDepth 100000
namespace Mine
/-- a value that is a text of at most n signs of the law -/
def StrIs (n : Nat) (v : Value) : Prop := ∃ T t, v = .str T t ∧ AL n T
def IntIs (lo hi : Int) (v : Value) : Prop := ∃ i t, v = .int i t ∧ lo ≤ i ∧ i ≤ hi
def strB (n : Nat) (v : Value) : Bool := match v with | .str T _ => alB n T | _ => false
theorem strB_of {n : Nat} {v : Value} (h : strB n v = true) : StrIs n v := by
  unfold strB at h
  split at h
  · exact ⟨_, _, rfl, alB_of h⟩
  · cases h
theorem strs_lit {n : Nat} {l : List Value} (h : l.all (strB n) = true) : ∀ v ∈ l, StrIs n v := fun v hv => strB_of (List.all_eq_true.mp h v hv)
def intB (lo hi : Int) (v : Value) : Bool := match v with | .int i _ => decide (lo ≤ i) && decide (i ≤ hi) | _ => false
theorem ints_lit {lo hi : Int} {l : List Value} (h : l.all (intB lo hi) = true) : ∀ v ∈ l, IntIs lo hi v := fun v hv => by
  have h := List.all_eq_true.mp h v hv
  unfold intB at h
  split at h
  · simp only [Bool.and_eq_true, decide_eq_true_eq] at h
    exact ⟨_, _, rfl, h.1, h.2⟩
  · cases h
theorem strs_are : ∀ {vs : List Value}, (∀ v ∈ vs, StrIs 1 v) → ∃ ys, StrsAre vs ys ∧ ys.length = vs.length ∧ ∀ y ∈ ys, AL 1 y
  | [], _ => ⟨[], .nil, rfl, fun y hy => by cases hy⟩
  | v :: r, h => by
    obtain ⟨T, t, rfl, hT⟩ := h v (List.Mem.head _)
    obtain ⟨ys, h1, h2, h3⟩ := strs_are fun z hz => h z (List.Mem.tail _ hz)
    refine ⟨T :: ys, .cons T t h1, by simp [h2], fun y hy => ?_⟩
    rcases List.mem_cons.mp hy with rfl | hy
    · exact hT
    · exact h3 y hy
section
variable {prog : Program} {w : World} {A : Around} {E : Value → Shared → Prop} {s : Shared} {Q : Value → Shared → Prop} {h₀ : Heap} {L D : Addr} {m : Str → Option Value} {news : List (Addr × Obj)}
theorem item_any {value slice : PySem.Expr} {o : Obj} {vs : List Value} {k : Int} {u : Tok} {n : Nat} (PV : Value → Prop) (N : News h₀ L s.heap news) (hm : (D, o) ∈ news) (hc : o.cls = .type "list") (hd : o.data = .seq vs.toArray n) (hall : ∀ v ∈ vs, PV v) (h0 : 0 ≤ k) (h1 : k < vs.length) (hz : vs.length ≤ 1000)
    (h : ∀ v, PV v → Q v s) (hs : subscripted slice false (.ref D) (.int k u) = operate [.ref D, .int k u] (getItem (.ref D) (.int k u)) := by with_unfolding_all rfl) :
    wpAny (model prog w) A (subscriptTail value slice (.ref D) (.int k u)) Q E s := by
  have hl : s.heap.IsList D vs.toArray := ⟨o, (N _ hm).1, hc, n, hd⟩
  have hk : k.toNat < vs.length := by omega
  exact tail_any hl.typeIs slot_list_getitem.lookup (getItem_listL hl h0 (by have : (2:Int)^63 = 9223372036854775808 := by decide
                                                                             omega) (List.getElem?_eq_getElem hk) (h _ (hall _ (List.getElem_mem hk)))) hs
theorem dig_any {value slice : PySem.Expr} {k : Int} {t u : Tok} (h0 : 0 ≤ k) (h1 : k < 10) (h : ∀ T t', AL 1 T → Q (.str T t') { s with toks := s.toks + 1 })
    (hs : subscripted slice false (.str (Str.ofString "0123456789") t) (.int k u) = operate [.str (Str.ofString "0123456789") t, .int k u] (getItem (.str (Str.ofString "0123456789") t) (.int k u)) := by with_unfolding_all rfl) :
    wpAny (model prog w) A (subscriptTail value slice (.str (Str.ofString "0123456789") t) (.int k u)) Q E s := by
  have hz : (Str.ofString "0123456789").length = 10 := by decide +kernel
  have h63 : (2:Int)^63 = 9223372036854775808 := by decide
  have hk : k = 0 ∨ k = 1 ∨ k = 2 ∨ k = 3 ∨ k = 4 ∨ k = 5 ∨ k = 6 ∨ k = 7 ∨ k = 8 ∨ k = 9 := by omega
  have key : ∀ c, (seqIndex? k (Str.ofString "0123456789").length).bind ((Str.ofString "0123456789").cps[·]?) = some c → alB 1 ⟨#[c]⟩ = true → wpAny (model prog w) A (subscriptTail value slice (.str (Str.ofString "0123456789") t) (.int k u)) Q E s := fun c hc hal =>
    tail_any (typeIs_str _ _ _) PySem.F.slot_str_getitem.lookup (P.getItem_str (by simp only [h63]; simp; omega) hc (h _ _ (alB_of hal))) hs
  rcases hk with rfl | rfl | rfl | rfl | rfl | rfl | rfl | rfl | rfl | rfl
  · exact key 48 (by decide +kernel) (by decide +kernel)
  · exact key 49 (by decide +kernel) (by decide +kernel)
  · exact key 50 (by decide +kernel) (by decide +kernel)
  · exact key 51 (by decide +kernel) (by decide +kernel)
  · exact key 52 (by decide +kernel) (by decide +kernel)
  · exact key 53 (by decide +kernel) (by decide +kernel)
  · exact key 54 (by decide +kernel) (by decide +kernel)
  · exact key 55 (by decide +kernel) (by decide +kernel)
  · exact key 56 (by decide +kernel) (by decide +kernel)
  · exact key 57 (by decide +kernel) (by decide +kernel)
theorem mod_any {a b : Int} {t u : Tok} (hb : 0 < b) (h : ∀ r t', 0 ≤ r → r < b → Q (.int r t') { s with toks := s.toks + 1 }) : wpAny (model prog w) A (binaryOp .Mod (.int a t) (.int b u)) Q E s := by
  refine mod_int' (by omega) (h _ _ ?_ ?_)
  · rw [Int.fmod_eq_emod_of_nonneg _ (by omega)]; exact Int.emod_nonneg _ (by omega)
  · rw [Int.fmod_eq_emod_of_nonneg _ (by omega)]; exact Int.emod_lt_of_pos _ hb
theorem fdiv_any {a b : Int} {t u : Tok} (ha : 0 ≤ a) (hb : 0 < b) (hp : Builtin.divisionGoesByPylong a b = false ∨ PySem.PylongRoom (model prog w) A s) (h : ∀ r t', 0 ≤ r → Q (.int r t') { s with toks := s.toks + 1 }) : wpAny (model prog w) A (binaryOp .FloorDiv (.int a t) (.int b u)) Q E s := by
  refine floordiv_int (by omega) (h _ _ ?_) hp
  rw [Int.fdiv_eq_ediv_of_nonneg _ (by omega)]
  exact Int.ediv_nonneg ha (by omega)
theorem pow2_any {n : Int} {t u : Tok} (h0 : 0 ≤ n) (h1 : n ≤ 8) (h : ∀ r t', 0 < r → Q (.int r t') { s with toks := s.toks + 1 }) : wpAny (model prog w) A (binaryOp .Pow (.int 2 t) (.int n u)) Q E s := by
  refine pow_int h0 ?_ (h _ _ (Int.pow_pos (by decide)))
  have : Builtin.Int.intBits 2 = 2 := by decide +kernel
  rw [this]
  omega
theorem pow10_any {n : Int} {t u : Tok} (h0 : 0 ≤ n) (h1 : n ≤ 8) (h : ∀ r t', 0 < r → Q (.int r t') { s with toks := s.toks + 1 }) : wpAny (model prog w) A (binaryOp .Pow (.int 10 t) (.int n u)) Q E s := by
  refine pow_int h0 ?_ (h _ _ (Int.pow_pos (by decide)))
  have : Builtin.Int.intBits 10 = 4 := by decide +kernel
  rw [this]
  omega
theorem add_any {a b : Nat} {x y : Str} {t u : Tok} (hx : AL a x) (hy : AL b y) (hz : a + b ≤ 100) (h : ∀ T t' tk, AL (a + b) T → Q (.str T t') { s with toks := tk }) : wpAny (model prog w) A (binaryOp .Add (.str x t) (.str y u)) Q E s := by
  refine PyProof.Rows.add_str (fun t' tk => h _ _ _ (al_add hx hy)) ?_
  have h1 := hx.1
  have h2 := hy.1
  rw [sizeLine_eq]; omega
theorem str_any {a : Int} {t : Tok} (h0 : 0 ≤ a) (h1 : a < 200) (h : ∀ T t', AL 3 T → Q (.str T t') { s with toks := s.toks + 1 }) : wpAny (model prog w) A (call (.type "str") [.int a t]) Q E s := by
  have key := str_small a.toNat (by omega)
  have e : ((a.toNat : Nat) : Int) = a := Int.toNat_of_nonneg h0
  rw [e] at key
  refine P.str_of_int ?_ (h _ _ (alB_of key))
  have : a.natAbs < 2 ^ 1920 := Nat.lt_of_lt_of_le (show a.natAbs < 2 ^ 8 by omega) (Nat.pow_le_pow_right (by decide) (by decide))
  by_cases hz : a.natAbs = 0
  · rw [hz]; decide
  · exact (Nat.log2_lt hz).mpr this
theorem len_any {n : Nat} {x : Str} {t : Tok} (hx : AL n x) (hz : n ≤ 100) (h : ∀ t', (x.length : Int) ≤ (n : Int) → Q (.int x.length t') { s with toks := s.toks + 1 + 1 }) : wpAny (model prog w) A (call (.builtin "len") [.str x t]) Q E s := by
  have h1 := hx.1
  have h63 : (2:Int)^63 = 9223372036854775808 := by decide
  exact P.len_str (by omega) (h _ (by omega))
theorem lower_any {n : Nat} {x : Str} {t : Tok} (hx : AL n x) (hz : n ≤ 100) (h : ∀ T t', AL n T → Q (.str T t') { s with toks := s.toks + 1 }) : wpAny (model prog w) A (call (.builtin "str.lower") [.str x t]) Q E s :=
  SCL.lower (by have := hx.1; omega) fun _ => h _ _ (lower_al hx)
theorem join_any {vs : List Value} {n k : Nat} {t : Tok} (N : News h₀ L s.heap news) (hm : (D, ({ cls := .type "list", data := .seq vs.toArray n } : Obj)) ∈ news) (hall : ∀ v ∈ vs, StrIs 1 v) (hk : vs.length ≤ k) (hz : k ≤ 100) (h : ∀ T t' tk, AL k T → Q (.str T t') { s with toks := tk }) :
    wpAny (model prog w) A (call (.builtin "str.join") [.str (Str.ofString "") t, .ref D]) Q E s := by
  obtain ⟨ys, h1, h2, h3⟩ := strs_are hall
  have e : Str.ofString "" = Str.empty := by decide +kernel
  have hl : s.heap.IsList D vs.toArray := ⟨_, (N _ hm).1, rfl, n, rfl⟩
  rw [e]
  refine join_listW hl (by simpa using h1) (by decide) ?_ (fun t' tk => h _ _ _ (al_mono (al_join h3) (by omega)))
  have hs : (ys.map (·.length)).sum ≤ ys.length := by
    clear h1 h2
    induction ys with
    | nil => simp
    | cons y r ih =>
      have h4 := ih fun z hz => h3 z (List.Mem.tail _ hz)
      have h5 := (h3 y (List.Mem.head _)).1
      simp only [List.map_cons, List.sum_cons, List.length_cons]
      omega
  omega
end
end Mine
end

/-! ## C2 -/
section
open PySem PySem.W PyProof.Rows PySem.Calls PySem.Spec PyProof.Rows.LCg
set_option maxRecDepth 100000
namespace Mine
section
variable {prog : Program} {w : World} {A : Around} {E : Value → Shared → Prop} {s : Shared} {h₀ : Heap} {L : Addr} {m : Str → Option Value} {env : Env}
def EnumSrc (prog : Program) (w : World) (A : Around) (h₀ : Heap) (L : Addr) (m : Str → Option Value) (env : Env) (elt : PySem.Expr) (a b : Str) (scope : Scope) (cl : List (Str × Addr)) (Fin : Shared → List Value → List (Addr × Obj) → Prop) (xv : Value) (s₁ : Shared) : Prop :=
  ∃ (e it : Addr) (x : Str) (t : Tok) (news : List (Addr × Obj)) (PY : Value → Prop) (old : Value), xv = .ref e ∧ A.handled = none ∧ x.cps.size ≤ sizeLine ∧ IsEnum s₁.heap e it 0 old ∧ s₁.heap.IsStrIter it "str_ascii_iterator" x t 0 ∧ e ≠ it ∧ Fr h₀ L s₁.heap m ∧ News h₀ L s₁.heap news ∧ L ≠ e ∧ L ≠ it ∧ h₀.get? e = none ∧ h₀.get? it = none ∧ (∀ p ∈ news, p.1 ≠ e ∧ p.1 ≠ it) ∧
    (∀ (i c : Nat) oE oI C oC D ys m₂ h tk ti tc (E' : Value → Shared → Prop), x.cps[i]? = some c → NsObj oC m₂ → m₂ a = some (.int (i : Int) ti) → m₂ b = some (.str ⟨#[c]⟩ tc) → Fr h₀ L h m →
      News h₀ L h ((e, oE) :: (C, oC) :: (D, lst ys) :: (it, oI) :: news) → Off3 e C D ((it, oI) :: news) → ((@Ne Nat e C) ∧ (@Ne Nat e D) ∧ (@Ne Nat C D)) →
      wpAny (model prog w) A (eval elt (compEnvC scope cl C env)) (CompEnd h₀ L m { s₁ with heap := h, toks := tk } e oE C oC D (lst ys) (fun _ => True) (fun y news' => news' = (it, oI) :: news ∧ PY y)) E' { s₁ with heap := h, toks := tk }) ∧
    (∀ ys, ys.length = x.cps.size → (∀ y ∈ ys, PY y) → Fin s₁ ys news)
theorem ListComp_E {elt iter : PySem.Expr} {a b : Str} {pa pb tp : Pos} {tk} {scope : Scope} {cl : List (Str × Addr)} {pos : Pos} {Q : Value → Shared → Prop} (_F₀ : Fr h₀ L s.heap m)
    (hclos : closureFor scope env = pure cl) (hcell : ∀ y ∈ scope.names, y.2 ≠ .cell) (hkind : scope.kind = .function)
    (hnames : ∀ y ∈ scope.names, y.2 = .local → scope.names.lookup y.1 = some .local) (hx : scope.names.lookup a = some .local) (hx₂ : scope.names.lookup b = some .local) (hxx : a ≠ b)
    (h : wpAny (model prog w) A (eval iter env) (EnumSrc prog w A h₀ L m env elt a b scope cl (fun s₂ => FinE h₀ L m s₂ Q)) E s)
    (hs : ∀ x, foldedSetIterable iter env x = pure x := by intro _; rfl) :
    wpAny (model prog w) A (eval (.ListComp elt [⟨.Tuple [.Name a pa, .Name b pb] tk tp, iter, [], 0⟩] scope pos) env) Q E s := by
  rw [eval_ListComp]
  refine wpAny_comprehension_free (use := none) rfl hs hclos hkind hnames (wpAny_mono h (fun xv s₁ h₁ => ?_) fun _ _ e => e)
  obtain ⟨e, it, x, t, news, PY, old, rfl, hh, hsz, he, hit, hei, F, N, hLe, hLi, he₀, hi₀, off, turn, fin⟩ := h₁
  refine wpAny_pyIter_enum he ?_
  refine block_E hh hsz he hit hei hcell hkind hx hx₂ hxx F N hLe hLi he₀ hi₀ off turn ?_
  intro D C h tk m' ys F' N' o1 hn hC₀ hD₀ hCL hDL hCD offC hlen hPY
  refine ⟨m', hn, fun h'' hs'' => fin ys hlen hPY D h'' tk (F'.change hs'' hCL hC₀) (fun p hp => ?_) o1⟩
  refine ⟨hs''.extBut _ _ ?_ (N' p hp).1, (N' p hp).2⟩
  rcases List.mem_cons.mp hp with rfl | hp
  · exact Ne.symm hCD
  · exact offC p hp
theorem enum_src {elt : PySem.Expr} {a b : Str} {scope : Scope} {cl : List (Str × Addr)} {Fin : Shared → List Value → List (Addr × Obj) → Prop} {x : Str} {t : Tok} {n : Nat} {news : List (Addr × Obj)} (PY : Value → Prop)
    (hh : A.handled = none) (hal : AL n x) (hasc : x.cps.all (· < 128) = true) (hn : n ≤ 100) (F : Fr h₀ L s.heap m) (N : News h₀ L s.heap news)
    (turn : ∀ (e it : Addr) (i c : Nat) oE oI C oC D ys m₂ h tk ti tc (E' : Value → Shared → Prop), AL 1 ⟨#[c]⟩ → (i : Int) < (n : Int) → NsObj oC m₂ → m₂ a = some (.int (i : Int) ti) → m₂ b = some (.str ⟨#[c]⟩ tc) → Fr h₀ L h m →
      News h₀ L h ((e, oE) :: (C, oC) :: (D, lst ys) :: (it, oI) :: news) → Off3 e C D ((it, oI) :: news) → ((@Ne Nat e C) ∧ (@Ne Nat e D) ∧ (@Ne Nat C D)) →
      wpAny (model prog w) A (eval elt (compEnvC scope cl C env)) (CompEnd h₀ L m { s with heap := h, toks := tk } e oE C oC D (lst ys) (fun _ => True) (fun y news' => news' = (it, oI) :: news ∧ PY y)) E' { s with heap := h, toks := tk })
    (fin : ∀ h ys, ys.length ≤ n → (∀ y ∈ ys, PY y) → Fin { s with heap := h } ys news) :
    wpAny (model prog w) A (call (.type "enumerate") [.str x t]) (EnumSrc prog w A h₀ L m env elt a b scope cl Fin) E s := by
  have hLs : L < s.heap.objs.size := F.ns.lt
  have hab : h₀.objs.size ≤ L := F.above
  refine call_enumerate_str fun h' he hit hsz hk => ?_
  have hit' : h'.IsStrIter s.heap.objs.size "str_ascii_iterator" x t 0 := by simpa [strIterType, hasc] using hit
  refine ⟨s.heap.objs.size + 1, s.heap.objs.size, x, t, news, PY, .none, rfl, hh, ?_, he, hit', Nat.succ_ne_self _, ⟨F.ns.keeps hk, fun b o e => hk b o (F.keep b o e), F.above⟩, fun p hp => ⟨hk _ _ (N p hp).1, (N p hp).2⟩, ?_, Nat.ne_of_lt hLs, Heap.get?_none_of_le (Nat.le_trans hab (Nat.le_of_lt (Nat.lt_succ_of_lt hLs))), Heap.get?_none_of_le (Nat.le_trans hab (Nat.le_of_lt hLs)), ?_, ?_, ?_⟩
  · have := hal.1
    show x.length ≤ sizeLine
    rw [sizeLine_eq]; omega
  · exact Nat.ne_of_lt (Nat.lt_succ_of_lt hLs)
  · intro p hp
    have hq1 : p.1 < s.heap.objs.size := Heap.lt_size (N p hp).1
    exact ⟨Nat.ne_of_lt (Nat.lt_succ_of_lt hq1), Nat.ne_of_lt hq1⟩
  · intro i c oE oI C oC D ys m₂ h tk ti tc E' hc
    have hcm : c ∈ x.cps.toList := by
      rw [← Array.getElem?_toList] at hc
      exact List.mem_of_getElem? hc
    have hi : i < x.cps.size := by
      rcases Nat.lt_or_ge i x.cps.size with h | h
      · exact h
      · rw [Array.getElem?_eq_none h] at hc; cases hc
    refine turn _ _ i c oE oI C oC D ys m₂ h tk ti tc E' ⟨Nat.le_refl 1, fun d hd => ?_⟩ (by have h9 : x.cps.size ≤ n := hal.1; omega)
    have hd : d ∈ [c] := hd
    rw [List.mem_singleton.mp hd]; exact hal.2 c hcm
  · exact fun ys hl hp => fin h' ys (by rw [hl]; exact hal.1) hp
/-- `[elt for x in range(a, b)]`, by what holds of each element -/
theorem cr_all {elt : PySem.Expr} {x : Str} {scope : Scope} {cl : List (Str × Addr)} {S : List (Addr × Obj) → Prop} {Fin : List Value → List (Addr × Obj) → Prop} {news : List (Addr × Obj)} {n : Nat} {a : Int} {PY : Value → Prop}
    (turn : ∀ k t I oI C oC D m₂ ys h tk (E' : Value → Shared → Prop), a ≤ k → k < a + (n : Int) → LCg.NsObj oC m₂ → m₂ x = some (.int k t) → Fr h₀ L h m → News h₀ L h ((I, oI) :: (C, oC) :: (D, LCg.lst ys) :: news) → LCg.Off3 I C D news → ((@Ne Nat I C) ∧ (@Ne Nat I D) ∧ (@Ne Nat C D)) →
      wpAny (model prog w) A (eval elt (compEnvC scope cl C env)) (LCg.CompEnd h₀ L m { s with heap := h, toks := tk } I oI C oC D (LCg.lst ys) S (fun y news' => news' = news ∧ PY y)) E' { s with heap := h, toks := tk })
    (fin : ∀ ys, ys.length = n → (∀ y ∈ ys, PY y) → Fin ys news) : LCg.CompRest prog w A h₀ L m env elt x scope cl s S (fun i v => ∃ t, v = .int (a + (i : Int)) t) Fin n 0 [] news := by
  have key : ∀ (j i : Nat) (ys : List Value), i + j = n → ys.length = i → (∀ y ∈ ys, PY y) → LCg.CompRest prog w A h₀ L m env elt x scope cl s S (fun i v => ∃ t, v = .int (a + (i : Int)) t) Fin j i ys news := by
    intro j
    induction j with
    | zero =>
      intro i ys hi hl hy
      exact LCg.CompRest.zero (fin ys (by omega) hy)
    | succ j ih =>
      intro i ys hi hl hy
      refine LCg.CompRest.succ ?_
      intro v I oI C oC D m₂ h tk E' hv hC hx F N off ne
      obtain ⟨t, rfl⟩ := hv
      refine wpAny_mono (turn _ t I oI C oC D m₂ ys h tk E' (by omega) (by omega) hC hx F N off ne) (fun y s₂ hq => ?_) fun _ _ e => e
      obtain ⟨h', tk', nw, e, F', N', off', hS, rfl, hPy⟩ := hq
      refine ⟨h', tk', _, e, F', N', off', hS, ih (i + 1) _ (by omega) (by simp [hl]) fun z hz => ?_⟩
      rcases List.mem_append.mp hz with hz | hz
      · exact hy z hz
      · rw [List.mem_singleton.mp hz]; exact hPy
  exact key n 0 [] (by omega) rfl fun y hy => by cases hy
end
end Mine
end

/-! ## D1 -/
section
open PySem PySem.W PyProof.Rows PySem.Calls PySem.Spec
set_option maxRecDepth 100000
namespace Mine
/-- a day of the law's list -/
def DayIs (v : Value) : Prop := ∃ T t, v = .str T t ∧ AL 3 T ∧ T.cps.all (· < 128) = true
def dayB (v : Value) : Bool := match v with | .str T _ => alB 3 T && T.cps.all (· < 128) | _ => false
theorem days_lit {l : List Value} (h : l.all dayB = true) : ∀ v ∈ l, DayIs v := fun v hv => by
  have h := List.all_eq_true.mp h v hv
  unfold dayB at h
  split at h
  · simp only [Bool.and_eq_true] at h
    exact ⟨_, _, rfl, alB_of h.1, h.2⟩
  · cases h
theorem days_all (t : Tok) : ∀ v ∈ [Value.str ⟨#[83, 85]⟩ t, .str ⟨#[77, 79]⟩ (t + 1), .str ⟨#[84, 85]⟩ (t + 1 + 1), .str ⟨#[87, 69]⟩ (t + 1 + 1 + 1), .str ⟨#[84, 72]⟩ (t + 1 + 1 + 1 + 1), .str ⟨#[70, 82]⟩ (t + 1 + 1 + 1 + 1 + 1), .str ⟨#[83, 65]⟩ (t + 1 + 1 + 1 + 1 + 1 + 1), .str ⟨#[88, 88]⟩ (t + 1 + 1 + 1 + 1 + 1 + 1 + 1), .str ⟨#[77]⟩ (t + 1 + 1 + 1 + 1 + 1 + 1 + 1 + 1), .str ⟨#[77, 79, 79]⟩ (t + 1 + 1 + 1 + 1 + 1 + 1 + 1 + 1 + 1), .str ⟨#[77, 49]⟩ (t + 1 + 1 + 1 + 1 + 1 + 1 + 1 + 1 + 1 + 1), .str ⟨#[83, 45]⟩ (t + 1 + 1 + 1 + 1 + 1 + 1 + 1 + 1 + 1 + 1 + 1)], DayIs v := days_lit (by kernel_rfl)
end Mine
end

/-! ## T1 -/
section
open PySem PySem.W PyProof.Rows PySem.Calls PySem.Spec
set_option maxRecDepth 100000
namespace Mine
theorem fillT1 : (fun (_ : Params → Frag) (_ : OpenLaw) => True) Mine.hd.heap_39 PySem.Challenge.rw_fc0077_01 := by k_fill; trivial
local macro_rules | `(tactic| walk_at "my_step") => `(tactic| first | (k_unfold; (try dsimp only)) | (k_end; wrow_close) | walk1 | (dsimp only; walk1) | (leave1; walk_say "STEP leave1"; try dsimp only))
local macro_rules | `(tactic| walk_at "my_enterC") => `(tactic| (refine' code_defC ?k1 ?k2 ?k3 ?k4 ?k5 ?kA ?kF ?kK ?k6 ?k7 ?k8 ?k9 ?kB ?kD ?_ ?c2 ?c3 ?c4; (case kA => exact rfl); (case kF => exact rfl); (case kK => first | exact rfl | assumption); (case k1 => k_asm); (case k2 => k_asm); (case k3 => k_asm); (case k4 => k_asm); (case k5 => k_asm); (case k6 => k_is); (case k7 => k_is); (case k8 => ktr_room); (case k9 => exact BindsTo.of_eq rfl); (case kB => exact rfl); (case kD => decide +kernel); (case c2 => exact rfl); (case c3 => exact rfl); (case c4 => exact rfl); intro g' L' h' tk' cells' FG' F' N' Y' B' X' T' l1; (try k_lt l1); k_cells Y'; (try simp only [List.cons_append, List.nil_append] at N'); (try dsimp only); (try k_lift B')))
local macro_rules | `(tactic| walk_at "call ref") => `(tactic| (k_here; (with_reducible show wpAny _ _ (call (Value.ref 378) _) _ _ _); k_dflt (refine' wp_wide (by rfl) (Nat.le_of_ble_eq_true rfl) (Nat.le_of_ble_eq_true rfl) (x_days ?k1 ?k2 ?k3 ?_); (case k1 => k_asm); (case k2 => k_in); (case k3 => k_asm); intro x' t' h' tk' F' N')))
local macro_rules | `(tactic| walk_at "my_al") => `(tactic| first | with_reducible assumption | ((with_reducible refine al_to (by with_reducible assumption) ?_ ?_) <;> omega) | ((with_reducible refine al_from (by with_reducible assumption) ?_) <;> omega) | (refine alB_of ?_; with_unfolding_all exact rfl))
local macro_rules | `(tactic| walk_at "binaryOp Mod int int") => `(tactic| (k_here; refine' mod_any ?h0 ?_; (case h0 => k_dflt (first | assumption | decide | omega)); intro r' t' hr0' hr1'; (try dsimp only)))
local macro_rules | `(tactic| walk_at "binaryOp FloorDiv int int") => `(tactic| (k_here; refine' fdiv_any ?h0 ?h1 ?hp ?_; (case h0 => k_dflt (first | assumption | omega)); (case h1 => k_dflt (first | assumption | decide | omega)); (case hp => k_dflt (exact Or.inr (PySem.PylongRoom.of (by first | assumption | (refine PySem.Heap.NoLimit.keeps ?_ (PyProof.Rows.Fr.keep (by assumption)); first | assumption | exact PyProof.Rows.Glob.nolimit (by assumption) | exact PyProof.Rows.Top.nolimit (by assumption)) | exact PyProof.Rows.Glob.nolimit (by assumption) | exact PyProof.Rows.Top.nolimit (by assumption)) (of_decide_eq_true (by with_unfolding_all rfl))))); intro r' t' hr0'; (try dsimp only)))
local macro_rules | `(tactic| walk_at "binaryOp Pow int int") => `(tactic| (k_here; first
  | ((with_reducible show wpAny _ _ (binaryOp _ (Value.int 2 _) _) _ _ _); refine' pow2_any ?h0 ?h1 ?_; (case h0 => k_dflt (omega)); (case h1 => k_dflt (omega)); intro r' t' hr0'; (try dsimp only))
  | ((with_reducible show wpAny _ _ (binaryOp _ (Value.int 10 _) _) _ _ _); refine' pow10_any ?h0 ?h1 ?_; (case h0 => k_dflt (omega)); (case h1 => k_dflt (omega)); intro r' t' hr0'; (try dsimp only))))
local macro_rules | `(tactic| walk_at "binaryOp Add str str") => `(tactic| (k_here; refine' add_any ?h0 ?h1 ?h2 ?_; (case h0 => k_dflt (walk_at "my_al")); (case h1 => k_dflt (walk_at "my_al")); (case h2 => k_dflt (first | decide | omega)); intro T' t' tk' hal'; (try dsimp only)))
local macro_rules | `(tactic| walk_at "call builtin:str.lower") => `(tactic| (k_here; refine' lower_any ?h0 ?h2 ?_; (case h0 => k_dflt (walk_at "my_al")); (case h2 => k_dflt (omega)); intro T' t' hal'; (try dsimp only)))
local macro_rules | `(tactic| walk_at "call builtin:str.join") => `(tactic| (k_here; k_dflt (refine' join_any ?k1 ?k2 ?k3 ?k4 ?k5 ?_; (case k1 => k_asm); (case k2 => k_mem); (case k3 => with_reducible assumption); (case k4 => with_reducible assumption); (case k5 => omega)); intro T' t' tk' hal'; (try dsimp only)))
local macro_rules | `(tactic| walk_at "call builtin:len") => `(tactic| (k_here; (with_reducible show wpAny _ _ (call _ [Value.str _ _]) _ _ _); refine' len_any ?h0 ?h2 ?_; (case h0 => k_dflt (walk_at "my_al")); (case h2 => k_dflt (omega)); intro t' hlen'; (try dsimp only)))
/- an item of the days, of written texts, of written numbers -/
local macro_rules | `(tactic| walk_at "subscriptTail") => `(tactic| (k_here; (with_reducible show wpAny _ _ (subscriptTail _ _ (Value.ref _) (Value.int _ _)) _ _ _); k_dflt (refine' item_any DayIs ?k1 ?k2 ?k3 ?k4 ?k5 ?k6 ?k7 ?k8 ?_ ?k9; (case k1 => k_asm); (case k2 => k_mem); (case k3 => exact rfl); (case k4 => exact rfl); (case k5 => exact days_all _); (case k6 => assumption); (case k7 => first | assumption | (simp only [List.length_cons, List.length_nil]; omega)); (case k8 => exact Nat.le_of_ble_eq_true rfl); (case k9 => with_unfolding_all rfl)); k_dflt (intro v' hv'; obtain ⟨T', t', hve', hal', hasc'⟩ := hv'; subst hve'; (try dsimp only))))
local macro_rules | `(tactic| walk_at "subscriptTail") => `(tactic| (k_here; (with_reducible show wpAny _ _ (subscriptTail _ _ (Value.ref _) (Value.int _ _)) _ _ _); first
  | (k_dflt (refine' item_any (StrIs 1) ?k1 ?k2 ?k3 ?k4 ?k5 ?k6 ?k7 ?k8 ?_ ?k9; (case k1 => k_asm); (case k2 => k_mem); (case k3 => exact rfl); (case k4 => exact rfl); (case k5 => exact strs_lit (by with_unfolding_all rfl)); (case k6 => assumption); (case k7 => first | assumption | (simp only [List.length_cons, List.length_nil]; omega)); (case k8 => exact Nat.le_of_ble_eq_true rfl); (case k9 => with_unfolding_all rfl)); k_dflt (intro v' hv'; obtain ⟨T', t', hve', hal'⟩ := hv'; subst hve'; (try dsimp only)))
  | (k_dflt (refine' item_any (IntIs 0 3) ?k1 ?k2 ?k3 ?k4 ?k5 ?k6 ?k7 ?k8 ?_ ?k9; (case k1 => k_asm); (case k2 => k_mem); (case k3 => exact rfl); (case k4 => exact rfl); (case k5 => exact ints_lit (by with_unfolding_all rfl)); (case k6 => assumption); (case k7 => first | assumption | (simp only [List.length_cons, List.length_nil]; omega)); (case k8 => exact Nat.le_of_ble_eq_true rfl); (case k9 => with_unfolding_all rfl)); k_dflt (intro v' hv'; obtain ⟨i', t', hve', hi0', hi1'⟩ := hv'; subst hve'; (try dsimp only)))))
/- the comprehension over enumerate -/
local macro_rules | `(tactic| walk_at "eval ListComp") => `(tactic| (k_here; (with_reducible show wpAny _ _ (eval (Expr.ListComp _ [⟨Expr.Tuple _ _ _, _, _, _⟩] _ _) _) _ _ _); k_dflt (refine ListComp_E (by k_asm) (by with_unfolding_all rfl) (by decide) (by rfl) (by decide) (by rfl) (by rfl) (by decide) ?_ (fun _ => rfl))))
local macro_rules | `(tactic| walk_at "call type:enumerate") => `(tactic| (k_here; k_dflt (refine' enum_src (StrIs 1) ?k1 ?k2 ?k3 ?k4 ?k5 ?k6 ?kt ?kf; (case k1 => exact rfl); (case k2 => with_reducible assumption); (case k3 => with_reducible assumption); (case k4 => omega); (case k5 => k_asm); (case k6 => k_asm)); rotate_left; (intro h' ys' hyl' hyp'); rotate_right; (intro e' it' i' c' oE' oI' C' oC' D' ys' m' h' tk' ti' tc' E' hal' hi' hC' hxa' hxb' F' N' off' ne')))
local macro_rules | `(tactic| walk_at "CompEnd") => `(tactic| (k_here; k_dflt (refine' LCg.CompEnd.intro ?k1 ?k2 _ ?k3 ?k4 trivial ⟨rfl, _, _, rfl, ?k5⟩; (case k1 => k_asm); (case k2 => k_asm); (case k3 => (intro p hp; (repeat (first | exact hp | refine List.Mem.tail _ ?_)))); (case k4 => assumption); (case k5 => with_reducible assumption))))
/- the comprehension over a range -/
local macro_rules | `(tactic| walk_at "eval ListComp") => `(tactic| (k_here; (with_reducible show wpAny _ _ (eval (Expr.ListComp _ [⟨Expr.Name _ _, _, _, _⟩] _ _) _) _ _ _); k_dflt (refine LCg.ListComp_U (F₀ := by k_asm) (by with_unfolding_all rfl) (by decide) (by rfl) (by decide) (by rfl) ?_ (fun _ => rfl))))
local macro_rules | `(tactic| walk_at "CompSrc") => `(tactic| (k_here; k_dflt (refine LCg.CompSrc.range (by rfl) (by k_asm) (by k_asm) (by assumption) (small_one (by omega) (by omega) (by omega) (by omega)) (rangeSize_nat _ _) (by rw [PySem.sizeLine_eq]; omega) ?_); intro g'; k_dflt (refine' cr_all (PY := StrIs 1) ?kt ?kf); rotate_left; (intro ys' hyl' hyp'; (have hyl3 : ys'.length ≤ 3 := by omega)); rotate_right; (intro k' t' I' oI' C' oC' D' m' ys' h' tk' E' hlo' hhi' hC' hx' F' N' off' ne')))
local macro_rules | `(tactic| walk_at "subscriptTail") => `(tactic| (k_here; (with_reducible show wpAny _ _ (subscriptTail _ _ (Value.str (Str.ofString "0123456789") _) (Value.int _ _)) _ _ _); k_dflt (refine' dig_any ?k1 ?k2 ?_ ?k3; (case k1 => assumption); (case k2 => assumption); (case k3 => with_unfolding_all rfl)); intro T' t' hal'; (try dsimp only)))
structure DayEnd (h₀ : Heap) (L : Addr) (m : Str → Option Value) (news : List (Addr × Obj)) (s : Shared) (v : Value) (s' : Shared) : Prop where
  ends : ∃ T t h' tk', v = .str T t ∧ s' = { s with heap := h', toks := tk' } ∧ AL 3 T ∧ T.cps.all (· < 128) = true ∧ Fr h₀ L h' m ∧ News h₀ L h' news
theorem day_cut {M : Model} {A : Around} {E : Value → Shared → Prop} {t : Sem Value} {h₀ : Heap} {L : Addr} {m : Str → Option Value} {news : List (Addr × Obj)} {s : Shared} {Q : Value → Shared → Prop} (_F : Fr h₀ L s.heap m) (_N : News h₀ L s.heap news)
    (h1 : wpAny M A t (DayEnd h₀ L m news s) E s) (h2 : ∀ T t h' tk', AL 3 T → T.cps.all (· < 128) = true → Fr h₀ L h' m → News h₀ L h' news → Q (.str T t) { s with heap := h', toks := tk' }) : wpAny M A t Q E s :=
  wpAny_mono h1 (fun v s' h => by
    obtain ⟨T, t, h', tk', rfl, rfl, hal, hasc, F', N'⟩ := h.ends
    exact h2 T t h' tk' hal hasc F' N') fun _ _ e => e
theorem day_end {h₀ h' : Heap} {L : Addr} {m : Str → Option Value} {news : List (Addr × Obj)} {p : Addr × Obj} {s : Shared} {T : Str} {t : Tok} {tk' : Nat} (hal : AL 3 T) (hasc : T.cps.all (· < 128) = true) (F : Fr h₀ L h' m) (N : News h₀ L h' (p :: news)) : DayEnd h₀ L m news s (.str T t) { s with heap := h', toks := tk' } :=
  ⟨_, _, _, _, rfl, rfl, hal, hasc, F, fun q hq => N q (List.Mem.tail _ hq)⟩
local macro_rules | `(tactic| walk_at "DayEnd") => `(tactic| (k_here; k_dflt (refine' day_end ?k1 ?k2 ?k3 ?k4; (case k1 => with_reducible assumption); (case k2 => with_reducible assumption); (case k3 => with_reducible assumption); (case k4 => with_reducible assumption))))
set_option maxHeartbeats 0 in
theorem text_c {w : World} {mean : ExcName → Option Value} {mg mb : Str → Option Value} {n : Int} {tt : Tok} (hn : 0 ≤ n)
   {gd : Option (List Code)} {cn : Str} {cs : Scope} {aa : Addr} {ccd : Value} {cl : List (Str × Addr)} {outer : List Env} {A₀ : Around} {base h₀ : Heap} {L : Addr} {m : Str → Option Value} {news : List (Addr × Obj)} {s : Shared} {Q E : Value → Shared → Prop}
   (B : Below A₀ base outer h₀) (F : Fr h₀ L s.heap m) (X : (Mine.hd.heap_39 w.params).In h₀) (N : News h₀ L s.heap news) (T : Top Mine.hd.view_39 LOOSE mean mg mb h₀) (hk : cs.kind = .function)
   (hret : ∀ T t' h' tk', AL 9 T → Fr h₀ L h' m → News h₀ L h' news → Q (.str T t') { s with heap := h', toks := tk' }) :
   wpAny (model PySem.Challenge.rw_fc0077_01.row.prog w) (ktrTop 350 150 gd cn cs L aa ccd cl outer) (call (.ref 383) [.int n tt]) Q E s := by
  refine wpAny_call ?_
  w_top off
  k_dflt (walk_at "my_enterC")
  iterate 2 (walk_at "my_step")
  k_dflt (refine' day_cut ?f ?n ?h1 ?h2; (case f => k_asm); (case n => k_asm))
  rotate_left
  · intro T' t' h' tk' hal' hasc' F' N'
    repeat' (walk_at "my_step")
    all_goals (with_reducible rename News h₀ L _ _ => NL; with_reducible rename Fr h₀ L _ m => FL)
    all_goals exact hret _ _ _ _ (al_mono (by with_reducible assumption) (by omega)) FL (fun p hp => NL p (by repeat (first | exact hp | apply List.Mem.tail | apply List.mem_append_right)))
  repeat' (walk_at "my_step")
end Mine
end

/-! ## G1 -/
section
open PySem PySem.W PyProof.Rows PySem.Calls PySem.Spec
set_option maxRecDepth 100000
namespace Mine
def NatIs (v : Value) : Prop := ∃ i t, v = .int i t ∧ 0 ≤ i
structure NatsAre (ys : List Value) : Prop where
  all : ∀ v ∈ ys, NatIs v
  pos : 0 < ys.length
  len : ys.length ≤ 67
theorem nats_all : ∀ {ys : List Value} {l : List Int}, IntsAre ys l → (∀ i ∈ l, 0 ≤ i) → ∀ v ∈ ys, NatIs v
  | _, _, .nil, _, v, hv => by cases hv
  | _, _, .cons n t h, hp, v, hv => by
    rcases List.mem_cons.mp hv with rfl | hv
    · exact ⟨_, _, rfl, hp _ (List.Mem.head _)⟩
    · exact nats_all h (fun i hi => hp i (List.Mem.tail _ hi)) v hv
theorem nats_are {ys : List Value} {ns : List Int} (hI : IntsAre ys (List.map (fun k => if k < 0 then -k else k) (ns ++ [3, 712, 40, 96]))) (hc : ¬ ((63 : Nat) : Int) < (ns.length : Int)) : NatsAre ys := by
  have hl := hI.length
  rw [List.length_map, List.length_append] at hl
  have h4 : ([3, 712, 40, 96] : List Int).length = 4 := rfl
  rw [h4] at hl
  refine ⟨nats_all hI fun i hi => ?_, by omega, by omega⟩
  obtain ⟨k, _, rfl⟩ := List.mem_map.mp hi
  show 0 ≤ if k < 0 then -k else k
  split <;> omega
section
variable {prog : Program} {w : World} {A : Around} {E : Value → Shared → Prop} {s : Shared} {env : Env} {h₀ : Heap} {x : Str} {body : List Stmt} {Q : Flow → Shared → Prop}
theorem unr_mono {L I : Addr} {s₁ : Shared} {it : Obj} {rest rest' : (Str → Option Value) → List (Addr × Obj) → Prop} (h : ∀ m n, rest m n → rest' m n) {f : Flow} {s₂ : Shared} (u : UnrPost h₀ L s₁ I it rest Q f s₂) : UnrPost h₀ L s₁ I it rest' Q f s₂ := by
  cases f with
  | ret v => exact u
  | brk => exact u
  | _ =>
    obtain ⟨h', tk, m', news', e, F, N, off, r⟩ := u
    exact ⟨h', tk, m', news', e, F, N, off, h _ _ r⟩
/-- a loop over a range whose turns leave all names but the loop's own as they were -/
theorem range_same {I : Addr} {a : Int} {n : Nat} {m₀ : Str → Option Value} {news : List (Addr × Obj)}
    (turn : ∀ (j : Nat) t h tk, j < n → Fr h₀ env.locals h (fun y => if y = x then some (.int (a + (j : Int)) t) else m₀ y) → News h₀ env.locals h ((I, itR (a + ((j + 1 : Nat) : Int)) ((n : Int) - ((j + 1 : Nat) : Int))) :: news) →
      wpAny (model prog w) A (execs body env) (UnrPost h₀ env.locals { s with heap := h, toks := tk } I (itR (a + ((j + 1 : Nat) : Int)) ((n : Int) - ((j + 1 : Nat) : Int))) (fun m' news' => m' = (fun y => if y = x then some (.int (a + (j : Int)) t) else m₀ y) ∧ news' = news) Q) E { s with heap := h, toks := tk })
    (fin : ∀ v h tk, Fr h₀ env.locals h (fun y => if y = x then v else m₀ y) → News h₀ env.locals h news → Q .next { s with heap := h, toks := tk }) :
    RangeRest prog w A E h₀ env x body Q s I a n n 0 m₀ news := by
  have key : ∀ (k i : Nat) (v : Option Value), i + k = n → RangeRest prog w A E h₀ env x body Q s I a n k i (fun y => if y = x then v else m₀ y) news := by
    intro k
    induction k with
    | zero => exact fun i v _ => RangeRest.zero fun h tk F N => fin v h tk F N
    | succ k ih =>
      intro i v hi
      refine RangeRest.succ fun t h tk F N => ?_
      have e : (fun y => if y = x then some (Value.int (a + (i : Int)) t) else if y = x then v else m₀ y) = (fun y => if y = x then some (.int (a + (i : Int)) t) else m₀ y) := by
        funext y
        by_cases hy : y = x
        · simp [hy]
        · simp [hy]
      rw [e] at F
      refine wpAny_mono (turn i t h tk (by omega) F N) (fun f s₂ u => unr_mono (fun m' n' hr => ?_) u) fun _ _ z => z
      obtain ⟨rfl, rfl⟩ := hr
      exact ih (i + 1) _ (by omega)
  have := key n 0 (m₀ x) (by omega)
  have e : (fun y => if y = x then m₀ x else m₀ y) = m₀ := by
    funext y
    by_cases hy : y = x
    · simp [hy]
    · simp [hy]
  rwa [e] at this
end
end Mine
end

/-! ## G2 -/
section
open PySem PySem.W PyProof.Rows PySem.Calls PySem.Spec
set_option maxRecDepth 100000
namespace Mine
section
variable {prog : Program} {w : World} {A : Around} {E : Value → Shared → Prop} {s : Shared} {env : Env} {h₀ : Heap} {x : Str} {body : List Stmt} {Q : Flow → Shared → Prop}
/-- a loop over a made list whose turns leave all names but the loop's own as they were -/
theorem list_same {PV : Value → Prop} {I : Addr} {lp : Addr × Obj} {vs : List Value} {m₀ : Str → Option Value} {news : List (Addr × Obj)} (hlp : lp ∈ news) (hall : ∀ v ∈ vs, PV v)
    (turn : ∀ (v : Value) (it : Obj) h tk, PV v → it.cls = .type "list_iterator" → Fr h₀ env.locals h (fun y => if y = x then some v else m₀ y) → News h₀ env.locals h ((I, it) :: news) →
      wpAny (model prog w) A (execs body env) (UnrPost h₀ env.locals { s with heap := h, toks := tk } I it (fun m' news' => m' = (fun y => if y = x then some v else m₀ y) ∧ news' = news) Q) E { s with heap := h, toks := tk })
    (fin : ∀ v h tk, Fr h₀ env.locals h (fun y => if y = x then v else m₀ y) → News h₀ env.locals h news → Q .next { s with heap := h, toks := tk }) :
    ListRest prog w A E h₀ env x body Q s I lp vs m₀ news := by
  have key : ∀ (vs : List Value) (v : Option Value), (∀ v ∈ vs, PV v) → ListRest prog w A E h₀ env x body Q s I lp vs (fun y => if y = x then v else m₀ y) news := by
    intro vs
    induction vs with
    | nil => exact fun v _ => ListRest.zero fun h tk F N => fin v h tk F N
    | cons a r ih =>
      intro v hv
      refine ListRest.succ fun it h tk hc F N => ?_
      have e : (fun y => if y = x then some a else if y = x then v else m₀ y) = (fun y => if y = x then some a else m₀ y) := by
        funext y
        by_cases hy : y = x
        · simp [hy]
        · simp [hy]
      rw [e] at F
      refine wpAny_mono (turn a it h tk (hv a (List.Mem.head _)) hc F N) (fun f s₂ u => unr_mono (fun m' n' hr => ?_) u) fun _ _ z => z
      obtain ⟨rfl, rfl⟩ := hr
      exact ⟨hlp, ih _ fun z hz => hv z (List.Mem.tail _ hz)⟩
  have := key vs (m₀ x) hall
  have e : (fun y => if y = x then m₀ x else m₀ y) = m₀ := by
    funext y
    by_cases hy : y = x
    · simp [hy]
    · simp [hy]
  rwa [e] at this
theorem iter_same (PV : Value → Prop) {ax : Addr} {lo : Obj} {vs : List Value} {n : Nat} {m₀ : Str → Option Value} {news : List (Addr × Obj)}
    (hh : A.handled = none) (F : Fr h₀ env.locals s.heap m₀) (N : News h₀ env.locals s.heap news) (hm : (ax, lo) ∈ news) (hc : lo.cls = .type "list") (hd : lo.data = .seq vs.toArray n) (hall : ∀ v ∈ vs, PV v)
    (turn : ∀ (I : Addr) (v : Value) (it : Obj) h tk, (∀ p ∈ news, p.1 < I) → PV v → it.cls = .type "list_iterator" → Fr h₀ env.locals h (fun y => if y = x then some v else m₀ y) → News h₀ env.locals h ((I, it) :: news) →
      wpAny (model prog w) A (execs body env) (UnrPost h₀ env.locals { s with heap := h, toks := tk } I it (fun m' news' => m' = (fun y => if y = x then some v else m₀ y) ∧ news' = news) Q) E { s with heap := h, toks := tk })
    (fin : ∀ v h tk, Fr h₀ env.locals h (fun y => if y = x then v else m₀ y) → News h₀ env.locals h news → Q .next { s with heap := h, toks := tk }) :
    wpAny (model prog w) A (pyIter (.ref ax)) (fun it s₂ => LoopAtV prog w A h₀ env x body Q E it s₂) E s :=
  iter_listUnr hh F N hm hc hd fun I hI => list_same hm hall (fun v it h tk hp hc' F' N' => turn I v it h tk hI hp hc' F' N') fin
theorem unr_same {L I : Addr} {it : Obj} {s₁ : Shared} {h' : Heap} {tk : Nat} {m' : Str → Option Value} {news : List (Addr × Obj)} (F : Fr h₀ L h' m') (N : News h₀ L h' ((I, it) :: news)) (off : ∀ p ∈ news, p.1 < I) :
    UnrEnd h₀ L s₁ I it (fun m n => m = m' ∧ n = news) { s₁ with heap := h', toks := tk } :=
  ⟨h', tk, m', news, rfl, F, N, fun p hp e => absurd (off p hp) (e ▸ Nat.lt_irrefl _), rfl, rfl⟩
/-- `range_same` told of where the iterator lies -/
theorem al_lit1 {T : Str} (h : alB 1 T = true) : AL 1 T := alB_of h
theorem al_lit2 {T : Str} (h : alB 2 T = true) : AL 2 T := alB_of h
theorem al_lit3 {T : Str} (h : alB 3 T = true) : AL 3 T := alB_of h
/-- a text that `_law_holds` is asked about -/
def TextIs (v : Value) : Prop := ∃ T t, v = .str T t ∧ AL 9 T
theorem text_cons {T : Str} {t : Tok} {r : List Value} {n : Nat} (h : AL n T) (hn : n ≤ 9) (hr : ∀ v ∈ r, TextIs v) : ∀ v ∈ (Value.str T t :: r), TextIs v := fun v hv => by
  rcases List.mem_cons.mp hv with rfl | hv
  · exact ⟨T, t, rfl, al_mono h hn⟩
  · exact hr v hv
theorem text_nil : ∀ v ∈ ([] : List Value), TextIs v := fun v hv => by cases hv
end
end Mine
end

/-! ## W2 -/
section
open PySem PySem.W PyProof.Rows PySem.Calls PySem.Spec
set_option maxRecDepth 100000
namespace Mine
theorem turn_nil {h₀ h₁ h' : Heap} {L : Addr} {m : Str → Option Value} {news : List (Addr × Obj)} (K : KtsTurn [] h₀ h₁) (F : Fr h₁ L h' m) (N : News h₁ L h' news) : Fr h₀ L h' m ∧ News h₀ L h' news := by
  refine ⟨⟨F.ns, fun b o e => F.keep b o (K.other b o e (fun z => nomatch z)), by rw [← K.size]; exact F.above⟩, fun p hp => ⟨(N p hp).1, (N p hp).2.1, ?_⟩⟩
  cases q : h₀.get? p.1 with
  | none => rfl
  | some o => have := K.other _ _ q (fun z => nomatch z); rw [(N p hp).2.2] at this; cases this
theorem holds_law {w : World} {mean : ExcName → Option Value} {mg mb : Str → Option Value} {T0 : Str} {tt : Tok} (hT : AL 9 T0)
   {gd : Option (List Code)} {cn : Str} {cs : Scope} {aa : Addr} {ccd : Value} {A₀ : Around} {base h₀ : Heap} {L : Addr} {m : Str → Option Value} {news : List (Addr × Obj)} {s : Shared} {Q E : Value → Shared → Prop}
   (B : Below A₀ base [] h₀) (F : Fr h₀ L s.heap m) (X : (Mine.hd.heap_39 w.params).In h₀) (N : News h₀ L s.heap news) (T : Top Mine.hd.view_39 LOOSE mean mg mb h₀) (hk : cs.kind = .function)
   (XB : (Mine.hd.heap_39 w.params).In base) (TB : Top Mine.hd.view_39 LOOSE mean mg mb base)
   (hret : ∀ h' tk', Fr h₀ L h' m → News h₀ L h' news → Q (.bool true) { s with heap := h', toks := tk' }) :
   wpAny (model PySem.Challenge.rw_fc0077_01.row.prog w) (ktrTop 350 150 gd cn cs L aa ccd [] []) (call (.ref 404) [.str T0 tt]) Q E s :=
  holds_c hT.1 hT.2 B F X N T hk XB TB ktsDicts_nil fun h₁ h' tk' K F' N' _ _ _ _ => hret h' tk' (turn_nil K F' N').1 (turn_nil K F' N').2
local macro_rules | `(tactic| walk_at "my_step") => `(tactic| first | (k_unfold; (try dsimp only)) | (k_end; wrow_close) | walk1 | (dsimp only; walk1) | (leave1; walk_say "STEP leave1"; try dsimp only))
local macro_rules | `(tactic| walk_at "call ref") => `(tactic| (k_here; (with_reducible show wpAny _ _ (call (Value.ref 383) _) _ _ _); k_dflt (refine' wp_deep (D := 350) (U := 150) (Nat.le_of_ble_eq_true rfl) (Nat.le_of_ble_eq_true rfl) (text_c ?h0 ?k1 ?k2 ?k3 ?k4 ?k5 ?k6 ?_); (case h0 => first | assumption | omega); (case k1 => k_asm); (case k2 => k_asm); (case k3 => k_asm); (case k4 => k_asm); (case k5 => k_asm); (case k6 => exact rfl)); intro T' t' h' tk' hal' F' N'))
local macro_rules | `(tactic| walk_at "call ref") => `(tactic| (k_here; (with_reducible show wpAny _ _ (call (Value.ref 404) _) _ _ _); k_dflt (refine' wp_deep (D := 350) (U := 150) (Nat.le_of_ble_eq_true rfl) (Nat.le_of_ble_eq_true rfl) (holds_law ?h0 ?k1 ?k2 ?k3 ?k4 ?k5 ?k6 ?XB ?TB ?_); (case h0 => with_reducible assumption); (case k1 => k_asm); (case k2 => k_asm); (case k3 => k_asm); (case k4 => k_asm); (case k5 => k_asm); (case k6 => exact rfl); (case XB => assumption); (case TB => assumption)); intro h' tk' F' N'))
local macro_rules | `(tactic| walk_at "call ref") => `(tactic| (k_here; (with_reducible show wpAny _ _ (call (Value.ref 378) _) _ _ _); k_dflt (refine' wp_wide (by rfl) (Nat.le_of_ble_eq_true rfl) (Nat.le_of_ble_eq_true rfl) (x_days ?k1 ?k2 ?k3 ?_); (case k1 => k_asm); (case k2 => k_in); (case k3 => k_asm); intro x' t' h' tk' F' N')))
local macro_rules | `(tactic| walk_at "binaryOp Mod int int") => `(tactic| (k_here; refine' mod_any ?h0 ?_; (case h0 => k_dflt (first | assumption | decide | omega)); intro r' t' hr0' hr1'; (try dsimp only)))
local macro_rules | `(tactic| walk_at "binaryOp FloorDiv int int") => `(tactic| (k_here; refine' fdiv_any ?h0 ?h1 ?hp ?_; (case h0 => k_dflt (first | assumption | omega)); (case h1 => k_dflt (first | assumption | decide | omega)); (case hp => k_dflt (exact Or.inr (PySem.PylongRoom.of (by first | assumption | (refine PySem.Heap.NoLimit.keeps ?_ (PyProof.Rows.Fr.keep (by assumption)); first | assumption | exact PyProof.Rows.Glob.nolimit (by assumption) | exact PyProof.Rows.Top.nolimit (by assumption)) | exact PyProof.Rows.Glob.nolimit (by assumption) | exact PyProof.Rows.Top.nolimit (by assumption)) (of_decide_eq_true (by with_unfolding_all rfl))))); intro r' t' hr0'; (try dsimp only)))
local macro_rules | `(tactic| walk_at "RangeRest") => `(tactic| (k_here; k_dflt (refine' range_same ?turn ?fin); rotate_left; (intro v' h' tk' F' N'); rotate_right; (intro j' t' h' tk' hj' F' N')))
local macro_rules | `(tactic| walk_at "subscriptTail") => `(tactic| (k_here; (with_reducible show wpAny _ _ (subscriptTail _ _ (Value.ref _) (Value.int _ _)) _ _ _); k_dflt (refine' item_any NatIs ?k1 ?k2 ?k3 ?k4 ?k5 ?k6 ?k7 ?k8 ?_ ?k9; (case k1 => k_asm); (case k2 => k_mem); (case k3 => exact rfl); (case k4 => exact rfl); (case k5 => exact NatsAre.all (by with_reducible assumption)); (case k6 => assumption); (case k7 => first | assumption | omega); (case k8 => omega); (case k9 => with_unfolding_all rfl)); k_dflt (intro v' hv'; obtain ⟨i', t', hve', hi0'⟩ := hv'; subst hve'; (try dsimp only))))
local macro_rules | `(tactic| walk_at "subscriptTail") => `(tactic| (k_here; (with_reducible show wpAny _ _ (subscriptTail _ _ (Value.ref _) (Value.int _ _)) _ _ _); k_dflt (refine' item_any DayIs ?k1 ?k2 ?k3 ?k4 ?k5 ?k6 ?k7 ?k8 ?_ ?k9; (case k1 => k_asm); (case k2 => k_mem); (case k3 => exact rfl); (case k4 => exact rfl); (case k5 => exact days_all _); (case k6 => assumption); (case k7 => first | assumption | (simp only [List.length_cons, List.length_nil]; omega)); (case k8 => exact Nat.le_of_ble_eq_true rfl); (case k9 => with_unfolding_all rfl)); k_dflt (intro v' hv'; obtain ⟨T', t', hve', hal', hasc'⟩ := hv'; subst hve'; (try dsimp only))))
local macro_rules | `(tactic| walk_at "my_al") => `(tactic| first | with_reducible assumption | exact al_lit1 (by with_unfolding_all rfl) | exact al_lit2 (by with_unfolding_all rfl) | exact al_lit3 (by with_unfolding_all rfl))
local macro_rules | `(tactic| walk_at "my_all") => `(tactic| first | exact text_nil | (refine' text_cons ?h0 ?h1 ?h2; (case h0 => walk_at "my_al"); (case h1 => first | omega | decide); (case h2 => walk_at "my_all")))
local macro_rules | `(tactic| walk_at "pyIter ref") => `(tactic| (k_here; (with_reducible show wpAny _ _ (pyIter (Value.ref _)) (fun it s₂ => LoopAtV _ _ _ _ _ _ _ _ _ it s₂) _ _); k_dflt (refine' iter_same TextIs ?hh ?F ?N ?hm ?hc ?hd ?all ?turn ?fin; (case hh => exact rfl); (case F => k_asm); (case N => k_asm); (case hm => k_mem); (case hc => exact rfl); (case hd => exact rfl); (case all => walk_at "my_all")); rotate_left; (intro v' h' tk' F' N'); rotate_right; (intro i' v' it' h' tk' l1' hv' hc' F' N'); (obtain ⟨T', t', hve', hal'⟩ := hv'); subst hve'; (try dsimp only)))
local macro_rules | `(tactic| walk_at "UnrEnd") => `(tactic| (k_here; k_dflt (refine' unr_same ?F ?N ?off; (case F => k_asm); (case N => k_asm); (case off => assumption))))
local macro_rules | `(tactic| walk_at "binaryOp Add str str") => `(tactic| (k_here; refine' add_any ?h0 ?h1 ?h2 ?_; (case h0 => k_dflt (walk_at "my_al")); (case h1 => k_dflt (walk_at "my_al")); (case h2 => k_dflt (first | decide | omega)); intro T' t' tk' hal'; (try dsimp only)))
local macro_rules | `(tactic| walk_at "call builtin:str.lower") => `(tactic| (k_here; refine' lower_any ?h0 ?h2 ?_; (case h0 => k_dflt (walk_at "my_al")); (case h2 => k_dflt (omega)); intro T' t' hal'; (try dsimp only)))
local macro_rules | `(tactic| walk_at "call type:str") => `(tactic| (k_here; refine' str_any ?h0 ?h1 ?_; (case h0 => k_dflt (omega)); (case h1 => k_dflt (omega)); intro T' t' hal'; (try dsimp only)))
set_option maxHeartbeats 0 in
theorem lw : PySem.Challenge.rw_fc0077_01.Holds := by
  w_top off
  refine Mine.hd ?_
  k_go0
  all_goals try k_fold
  repeat' ((fail_if_success (with_reducible show wpAny _ _ (exec (Stmt.For _ _ _ _ _) _) _ _ _)); walk_at "my_step")
  have hN8 : NatsAre _ := nats_are (by with_reducible assumption) (by with_reducible assumption)
  have hp8 := hN8.pos
  have hl8 := hN8.len
  repeat' (walk_at "my_step")
end Mine
end

theorem PySem.Challenge.cw_fc0077_01_holds : PySem.Challenge.rw_fc0077_01.Holds :=
  Mine.lw
