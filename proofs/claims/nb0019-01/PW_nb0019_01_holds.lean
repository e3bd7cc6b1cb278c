import PyProof.Rows.All
import Wide.All
import OpenK.AllK
import Wide.FinOn
import PySem.Challenge.RW_nb0019_01
open PySem PySem.W PyProof.Rows
set_option Elab.async false
set_option maxRecDepth 100000
set_option maxHeartbeats 8000000

/-! part M1 -/
namespace Mine

theorem slot_sub : Slot "re.Pattern" "sub" "re.Pattern.sub" :=
  .of (owner := "re.Pattern") (n := "sub") (by rw [typeLookup_type, builtinLookup_eq_fast]; kernel_rfl) (by decide +kernel) (by decide +kernel) (by decide +kernel)
    (by first | exact .inl (by decide +kernel) | exact .inr (by decide +kernel)) (by rw [isSubtype_type]; kernel_rfl)
theorem type_sub : typeOf (.builtin "re.Pattern.sub") = pure (.type "method_descriptor") := by show builtinType _ = _; rw [builtinType_eq_fast]; kernel_rfl
theorem entry_sub : entryFor table "re.Pattern.sub" = some Builtin.«re.Pattern.sub» := entryFor_of_tree (by kernel_rfl)
theorem entry_loop : entryFor table "re.Pattern.sub.loop" = some Builtin.«re.Pattern.sub.loop» := entryFor_of_tree (by kernel_rfl)
theorem plain_loop : plainId "re.Pattern.sub.loop" = true := by decide +kernel
theorem args_sub (a b c : Value) : argsOk "re.Pattern.sub" ⟨[a, b, c], []⟩ := by
  unfold argsOk
  rw [signature?_of (id := "re.Pattern.sub") (n := ['b', 'u', 's']) (o := ['n', 'r', 'e', 't', 't', 'a', 'P', '.', 'e', 'r']) (by kernel_rfl) (rows := Manifest.sig_re_Pattern) (by kernel_rfl)]
  kernel_rfl

theorem look_none_call : typeLookup (.type "str") "__call__" = pure none := by rw [typeLookup_type, builtinLookup_eq_fast]; kernel_rfl
theorem look_ga : typeLookup (.type "re.Pattern") "__getattribute__" = pure (some (.builtin "object.__getattribute__")) := by rw [typeLookup_type, builtinLookup_eq_fast]; kernel_rfl
theorem look_gattr : typeLookup (.type "re.Pattern") "__getattr__" = pure none := by rw [typeLookup_type, builtinLookup_eq_fast]; kernel_rfl
end Mine

/-! part M2 -/
namespace Mine
open PySem.Sre

def code1 : Array Nat := #[14, 4, 0, 1, 1, 6, 1, 16, 46, 1]
def code2 : Array Nat := #[14, 9, 4, 1, 2, 16, 10, 16, 13, 0, 7, 7, 16, 13, 16, 10, 15, 18, 5, 16, 10, 15, 13, 11, 16, 13, 5, 5, 0, 16, 10, 1, 15, 2, 0, 1]

theorem op0 : ops[0]? = some .FAILURE := rfl
theorem op1 : ops[1]? = some .SUCCESS := rfl
theorem op5 : ops[5]? = some .ASSERT_NOT := rfl
theorem op6 : ops[6]? = some .AT := rfl
theorem op7 : ops[7]? = some .BRANCH := rfl
theorem op14 : ops[14]? = some .INFO := rfl
theorem op15 : ops[15]? = some .JUMP := rfl
theorem op16 : ops[16]? = some .LITERAL := rfl

/-- m comes to an end within n steps, and its end is as Φ says -/
def Goes (n : Nat) (m : M) (Φ : M → Prop) : Prop := (m.runFor n).outcome.isSome = true ∧ Φ (m.runFor n)

theorem runFor_some {m : M} (h : m.outcome.isSome = true) : ∀ n, m.runFor n = m
  | 0 => rfl
  | n + 1 => by rw [M.runFor, if_pos h]
theorem Goes.step {n : Nat} {m : M} {Φ : M → Prop} (h0 : m.outcome = none) (h : Goes n m.step Φ) : Goes (n + 1) m Φ := by
  unfold Goes at *
  rw [M.runFor, if_neg (by rw [h0]; decide)]
  exact h
theorem Goes.done {n : Nat} {m : M} {Φ : M → Prop} (h0 : m.outcome.isSome = true) (h : Φ m) : Goes n m Φ := by
  unfold Goes
  rw [runFor_some h0]
  exact ⟨h0, h⟩
theorem runFor_add : ∀ (a b : Nat) (m : M), m.runFor (a + b) = (m.runFor a).runFor b
  | 0, b, m => by simp [M.runFor]
  | a + 1, b, m => by
    by_cases h : m.outcome.isSome = true
    · rw [runFor_some h, runFor_some h, runFor_some h]
    · rw [show a + 1 + b = (a + b) + 1 by omega, M.runFor, if_neg h, runFor_add a b, M.runFor, if_neg h]
theorem Goes.mono {n n' : Nat} {m : M} {Φ : M → Prop} (h : Goes n m Φ) (hn : n ≤ n') : Goes n' m Φ := by
  obtain ⟨k, rfl⟩ := Nat.exists_eq_add_of_le hn
  unfold Goes at *
  rw [runFor_add, runFor_some h.1]
  exact h

/-- a state of the machine, written out -/
def C (code T : Array Nat) (i pc pos hnd : Nat) (out : Bool) (fr : List Sre.Frame) (wt : Nat) (ans : Option Bool) (sn : Sre.Seen) : M :=
  { code := code, text := T, lim := T.size, start := i, lastStart := T.size, pc := pc, pos := pos, handed := hnd, outermost := out, marks := #[],
    frames := fr, weight := wt, answer := ans, seen := sn }

section
variable {code T : Array Nat} {i pc pos hnd : Nat} {out : Bool} {fr : List Sre.Frame} {wt : Nat} {ans : Option Bool} {sn : Sre.Seen}
theorem C_out : (C code T i pc pos hnd out fr wt ans sn).outcome = none := rfl
theorem C_exec (h : pc < code.size) : (C code T i pc pos hnd out fr wt none sn).step = (C code T i pc pos hnd out fr wt none sn).exec := by
  unfold M.step
  rw [if_neg (by rw [C_out]; decide)]
  exact if_pos h
theorem lit_ok {c : Nat} (hs : pc < code.size) (h0 : code.getD pc 0 = 16) (h1 : code.getD (pc + 1) 0 = c) (hp : pos < T.size) (hc : T.getD pos 0 = c) :
    (C code T i pc pos hnd out fr wt none sn).step = C code T i (pc + 2) (pos + 1) hnd out fr wt none (sn.add 16) := by
  rw [C_exec hs]
  unfold M.exec
  simp only [M.word, C, Nat.add_zero, h0, op16]
  rw [if_neg (Nat.not_le.mpr hp)]
  unfold accepts itemWidth
  simp [h0, op16, h1, hc]
theorem lit_no {c : Nat} (hs : pc < code.size) (h0 : code.getD pc 0 = 16) (h1 : code.getD (pc + 1) 0 = c) (hc : T.size ≤ pos ∨ T.getD pos 0 ≠ c) :
    (C code T i pc pos hnd out fr wt none sn).step = C code T i pc pos hnd out fr wt (some false) (sn.add 16) := by
  rw [C_exec hs]
  unfold M.exec
  simp only [M.word, C, Nat.add_zero, h0, op16]
  by_cases hp : T.size ≤ pos
  · rw [if_pos hp]; rfl
  · rw [if_neg hp]
    have hb : (T.getD pos 0 == c) = false := beq_eq_false_iff_ne.mpr (hc.resolve_left hp)
    unfold accepts
    simp only [h0, op16, h1, hb]
    rfl
theorem jump (hs : pc < code.size) (h0 : code.getD pc 0 = 15) : (C code T i pc pos hnd out fr wt none sn).step = C code T i (pc + 1 + code.getD (pc + 1) 0) pos hnd out fr wt none (sn.add 15) := by
  rw [C_exec hs]
  unfold M.exec
  simp only [M.word, C, Nat.add_zero, h0, op15]
theorem success (hs : pc < code.size) (h0 : code.getD pc 0 = 1) : (C code T i pc pos hnd out fr wt none sn).step = C code T i pc pos pos out fr wt (some true) (sn.add 1) := by
  rw [C_exec hs]
  unfold M.exec
  simp only [M.word, C, Nat.add_zero, h0, op1]
  simp [M.say]
theorem at_line {b : Bool} (hs : pc < code.size) (h0 : code.getD pc 0 = 6) (h1 : code.getD (pc + 1) 0 = 1) (hb : (pos == 0 || T.getD (pos - 1) 0 == 10) = b) :
    (C code T i pc pos hnd out fr wt none sn).step = if b then C code T i (pc + 2) pos hnd out fr wt none ((sn.add 6).add 44) else C code T i pc pos hnd out fr wt (some false) ((sn.add 6).add 44) := by
  rw [C_exec hs]
  unfold M.exec
  simp only [M.word, C, Nat.add_zero, h0, op6]
  unfold M.isAt
  simp only [h1, hb]
  cases b <;> rfl
theorem ended {b : Bool} (Φ : M → Prop) (h : ∀ m, m.outcome = some (if b then .matched else .failed) → m.start = i → m.handed = hnd → Φ m) : Goes 1 (C code T i pc pos hnd out [] wt (some b) sn) Φ :=
  .step rfl (.done rfl (h _ rfl rfl rfl))
/-- the frame of a try at p -/
abbrev fNext (pc p : Nat) (out : Bool) : Sre.Frame := { wait := .nextStart, pc := pc, pos := p, outermost := out }
theorem next_yes {q p : Nat} {o : Bool} : (C code T i pc pos hnd out [fNext q p o] wt (some true) sn).step = C code T i q p hnd o [] (wt - 1) (some true) sn := rfl
theorem next_no {q p : Nat} {o : Bool} (hf : ∀ m : M, m.code = code → m.hasFirstSet = false) (hp : p < T.size) :
    (C code T i pc pos hnd out [fNext q p o] 1 (some false) sn).step = C code T (p + 1) q (p + 1) (p + 1) false [fNext q (p + 1) false] 1 none sn := by
  show (if p < T.size then _ else _ : M) = _
  rw [if_pos hp]
  unfold M.attemptFrom
  rw [hf _ rfl]
  rfl
theorem next_off {q p : Nat} {o : Bool} (hp : T.size ≤ p) : (C code T i pc pos hnd out [fNext q p o] wt (some false) sn).step = C code T i q p hnd o [] (wt - 1) (some false) sn := by
  show (if p < T.size then _ else _ : M) = _
  rw [if_neg (Nat.not_lt.mpr hp)]
  rfl
end

section
variable {code T : Array Nat} {i pc pos hnd : Nat} {out : Bool} {fr : List Sre.Frame} {wt : Nat} {ans : Option Bool} {sn : Sre.Seen}
abbrev k0 : Sre.Kept := { lastmark := -1, lastindex := -1, whole := false, marks := #[] }
abbrev fAlt (alt p : Nat) (out : Bool) : Sre.Frame := { wait := .nextBranch, pc := alt, pos := p, outermost := out, kept := k0 }
abbrev fNot (q p : Nat) (out : Bool) : Sre.Frame := { wait := .lookNot, pc := q, pos := p, outermost := out, kept := k0 }
theorem branch (hs : pc < code.size) (h0 : code.getD pc 0 = 7) (h1 : (code.getD (pc + 1) 0 == 0) = false) (hw : wt + 1 ≤ 16777216) :
    (C code T i pc pos hnd out fr wt none sn).step = C code T i (pc + 2) pos pos out (fAlt (pc + 1) pos out :: fr) (wt + 1) none (sn.add 7) := by
  rw [C_exec hs]
  unfold M.exec
  simp only [M.word, C, Nat.add_zero, h0, op7]
  unfold M.alternative
  simp only [h1]
  show M.attempt _ _ _ _ _ = _
  unfold M.attempt
  rw [if_neg (by show ¬ wt + 1 + 0 > 16777216; omega)]
  rfl
theorem alt_yes {alt p : Nat} {o : Bool} : (C code T i pc pos hnd out (fAlt alt p o :: fr) wt (some true) sn).step = C code T i alt p hnd o fr (wt - 1) (some true) sn := rfl
theorem alt_no {alt p a' : Nat} {o : Bool} (ha : alt + code.getD alt 0 = a') (h1 : (code.getD a' 0 == 0) = false) (hw : wt + 1 ≤ 16777216) :
    (C code T i pc pos hnd out (fAlt alt p o :: fr) (wt + 1) (some false) sn).step = C code T i (a' + 1) p p o (fAlt a' p o :: fr) (wt + 1) none sn := by
  subst ha
  show M.alternative _ (alt + code.getD alt 0) _ = _
  unfold M.alternative
  have h1' : ((C code T i alt p hnd o fr wt none sn).code.getD (alt + code.getD alt 0) 0 == 0) = false := h1
  show (if ((C code T i alt p hnd o fr wt none sn).code.getD (alt + code.getD alt 0) 0 == 0) = true then _ else M.attempt _ _ _ _ _) = _
  rw [h1', if_neg Bool.false_ne_true]
  unfold M.attempt
  rw [if_neg (by show ¬ wt + 1 - 1 + 1 + 0 > 16777216; omega)]
  rfl
theorem assert_not (hs : pc < code.size) (h0 : code.getD pc 0 = 5) (h2 : code.getD (pc + 2) 0 = 0) (hw : wt + 1 ≤ 16777216) :
    (C code T i pc pos hnd out fr wt none sn).step = C code T i (pc + 3) pos pos false (fNot pc pos out :: fr) (wt + 1) none (sn.add 5) := by
  rw [C_exec hs]
  unfold M.exec
  simp only [M.word, C, Nat.add_zero, h0, op5, h2]
  rw [if_neg (Nat.not_lt_zero _)]
  unfold M.attempt
  rw [if_neg (by show ¬ wt + 1 + 0 > 16777216; omega)]
  rfl
theorem not_no {q p : Nat} {o : Bool} : (C code T i pc pos hnd out (fNot q p o :: fr) wt (some false) sn).step = C code T i (q + 1 + code.getD (q + 1) 0) p hnd o fr (wt - 1) none sn := rfl
end

/-- the second pattern's try at i -/
abbrev S2 (T : Array Nat) (i : Nat) (first : Bool) (sn : Sre.Seen) : M := C code2 T i 10 i i first [fNext 10 i first] 1 none sn

def Nl (c : Nat) : Bool := c == 10 || c == 13
theorem inSet2 (c : Nat) (sn : Sre.Seen) : ∃ sn', inSet code2 c 36 5 true sn = .ok (Nl c, sn') := by
  unfold Nl
  unfold inSet
  simp only [show code2.getD (5 + 0) 0 = 16 from rfl, show code2.getD (5 + 1) 0 = 10 from rfl, op16]
  cases h : (c == 10)
  · rw [if_neg Bool.false_ne_true]
    unfold inSet
    simp only [show code2.getD (5 + 2 + 0) 0 = 16 from rfl, show code2.getD (5 + 2 + 1) 0 = 13 from rfl, op16]
    cases h' : (c == 13)
    · rw [if_neg Bool.false_ne_true]
      unfold inSet
      simp only [show code2.getD (5 + 2 + 2 + 0) 0 = 0 from rfl, op0]
      exact ⟨_, rfl⟩
    · rw [if_pos rfl]; exact ⟨_, rfl⟩
  · rw [if_pos rfl]; exact ⟨_, rfl⟩

theorem admitted2 (T : Array Nat) (m : M) (hc : m.code = code2) (hT : m.text = T) (hl : m.lim = T.size) : ∀ (k st : Nat) (sn : Sre.Seen), st + k = T.size + 1 →
    (∃ j sn', st ≤ j ∧ j < T.size ∧ Nl (T.getD j 0) = true ∧ (∀ l, st ≤ l → l < j → Nl (T.getD l 0) = false) ∧ m.admitted k st sn = .ok (some j, sn')) ∨
    (∃ sn', (∀ l, st ≤ l → l < T.size → Nl (T.getD l 0) = false) ∧ m.admitted k st sn = .ok (none, sn'))
  | 0, st, sn, hk => .inr ⟨sn, fun l h1 h2 => by omega, rfl⟩
  | k + 1, st, sn, hk => by
    unfold M.admitted
    by_cases hs : st ≥ m.lim
    · rw [if_pos hs]; exact .inr ⟨sn, fun l h1 h2 => by omega, rfl⟩
    · rw [if_neg hs, hc, hT]
      obtain ⟨sn', e⟩ := inSet2 (T.getD st 0) sn
      have e' : inSet code2 (T.getD st 0) code2.size 5 true sn = .ok (Nl (T.getD st 0), sn') := e
      rw [e']
      cases hb : Nl (T.getD st 0)
      · rcases admitted2 T m hc hT hl k (st + 1) sn' (by omega) with ⟨j, sn'', h1, h2, h3, h4, h5⟩ | ⟨sn'', h1, h2⟩
        · refine .inl ⟨j, sn'', by omega, h2, h3, fun l a b => ?_, h5⟩
          rcases Nat.eq_or_lt_of_le a with rfl | a
          · exact hb
          · exact h4 l a b
        · refine .inr ⟨sn'', fun l a b => ?_, h2⟩
          rcases Nat.eq_or_lt_of_le a with rfl | a
          · exact hb
          · exact h1 l a b
      · exact .inl ⟨st, sn', Nat.le_refl _, by omega, hb, fun l a b => by omega, rfl⟩

/-- the end of a row at i: its width -/
def wide (T : Array Nat) (i : Nat) : Nat := if T.getD i 0 = 13 ∧ i + 1 < T.size ∧ T.getD (i + 1) 0 = 10 then 2 else 1

theorem run2 (T : Array Nat) (Φ : M → Prop) (i : Nat) (first : Bool) (sn : Sre.Seen) (hi : i < T.size) (hn : Nl (T.getD i 0) = true)
    (hy : ∀ m, m.outcome = some .matched → m.start = i → m.handed = i + wide T i → Φ m) : Goes 20 (S2 T i first sn) Φ := by
  refine .step rfl ?_
  rw [branch (by decide) rfl rfl (by decide)]
  by_cases h13 : T.getD i 0 = 13
  · refine .step rfl ?_
    rw [lit_ok (c := 13) (by decide) rfl rfl hi h13]
    by_cases h2 : i + 1 < T.size ∧ T.getD (i + 1) 0 = 10
    · refine .step rfl ?_
      rw [lit_ok (c := 10) (by decide) rfl rfl h2.1 h2.2]
      refine .step rfl ?_
      rw [jump (by decide) rfl]
      refine .step rfl ?_
      rw [success (by decide) rfl]
      refine .step rfl ?_
      rw [alt_yes]
      refine .step rfl ?_
      rw [next_yes]
      exact (ended (b := true) Φ fun m e1 e2 e3 => hy m e1 e2 (by rw [e3]; unfold wide; rw [if_pos ⟨h13, h2⟩])).mono (by omega)
    · have hn2 : T.size ≤ i + 1 ∨ T.getD (i + 1) 0 ≠ 10 := by
        by_cases h : i + 1 < T.size
        · exact .inr fun e => h2 ⟨h, e⟩
        · exact .inl (by omega)
      refine .step rfl ?_
      rw [lit_no (c := 10) (by decide) rfl rfl hn2]
      refine .step rfl ?_
      rw [alt_no (a' := 18) rfl rfl (by decide)]
      refine .step rfl ?_
      rw [lit_no (c := 10) (by decide) rfl rfl (.inr (by rw [h13]; decide))]
      refine .step rfl ?_
      rw [alt_no (a' := 23) rfl rfl (by decide)]
      refine .step rfl ?_
      rw [lit_ok (c := 13) (by decide) rfl rfl hi h13]
      refine .step rfl ?_
      rw [assert_not (by decide) rfl rfl (by decide)]
      refine .step rfl ?_
      rw [lit_no (c := 10) (by decide) rfl rfl hn2]
      refine .step rfl ?_
      rw [not_no]
      refine .step rfl ?_
      rw [jump (by decide) rfl]
      refine .step rfl ?_
      rw [success (by decide) rfl]
      refine .step rfl ?_
      rw [alt_yes]
      refine .step rfl ?_
      rw [next_yes]
      exact (ended (b := true) Φ fun m e1 e2 e3 => hy m e1 e2 (by rw [e3]; unfold wide; rw [if_neg (fun h => h2 h.2)])).mono (by omega)
  · have h10 : T.getD i 0 = 10 := by
      unfold Nl at hn
      simp only [Bool.or_eq_true, beq_iff_eq] at hn
      exact hn.resolve_right h13
    refine .step rfl ?_
    rw [lit_no (c := 13) (by decide) rfl rfl (.inr h13)]
    refine .step rfl ?_
    rw [alt_no (a' := 18) rfl rfl (by decide)]
    refine .step rfl ?_
    rw [lit_ok (c := 10) (by decide) rfl rfl hi h10]
    refine .step rfl ?_
    rw [jump (by decide) rfl]
    refine .step rfl ?_
    rw [success (by decide) rfl]
    refine .step rfl ?_
    rw [alt_yes]
    refine .step rfl ?_
    rw [next_yes]
    exact (ended (b := true) Φ fun m e1 e2 e3 => hy m e1 e2 (by rw [e3]; unfold wide; rw [if_neg (fun h => h13 h.1)])).mono (by omega)

theorem search2 (T : Array Nat) (st : Nat) (Φ : M → Prop)
    (hy : ∀ j m, st ≤ j → j < T.size → Nl (T.getD j 0) = true → (∀ l, st ≤ l → l < j → Nl (T.getD l 0) = false) → m.outcome = some .matched → m.start = j → m.handed = j + wide T j → Φ m)
    (hn : ∀ m, (∀ l, st ≤ l → l < T.size → Nl (T.getD l 0) = false) → m.outcome = some .failed → Φ m) : Goes 20 (forSearch code2 T 0 st T.size false) Φ := by
  unfold forSearch
  have e : (header code2).1 = 1 := rfl
  simp only [e]
  by_cases h : st + 1 ≤ T.size
  · rw [if_neg (by simp; omega)]
    show Goes 20 ((C code2 T st 10 st st true [] 0 none (({} : Sre.Seen).add 14)).attemptFrom st true) Φ
    have hk : st + (T.size + 1 - st) = T.size + 1 := by omega
    have hset : (!(C code2 T st 10 st st true [] 0 none (({} : Sre.Seen).add 14)).hasFirstSet) = false := rfl
    unfold M.attemptFrom
    rw [hset, if_neg Bool.false_ne_true]
    rcases admitted2 T (C code2 T st 10 st st true [] 0 none (({} : Sre.Seen).add 14)) rfl rfl rfl (T.size + 1 - st) st (({} : Sre.Seen).add 14) hk with ⟨j, sn', h1, h2, h3, h4, h5⟩ | ⟨sn', h1, h2⟩
    · show Goes 20 (match (C code2 T st 10 st st true [] 0 none (({} : Sre.Seen).add 14)).admitted (T.size + 1 - st) st (({} : Sre.Seen).add 14) with | .ok (some s, seen) => _ | .ok (none, seen) => _ | .error why => _) Φ
      rw [h5]
      exact run2 T Φ j true sn' h2 h3 fun m => hy j m h1 h2 h3 h4
    · show Goes 20 (match (C code2 T st 10 st st true [] 0 none (({} : Sre.Seen).add 14)).admitted (T.size + 1 - st) st (({} : Sre.Seen).add 14) with | .ok (some s, seen) => _ | .ok (none, seen) => _ | .error why => _) Φ
      rw [h2]
      exact Goes.mono (.step rfl (.done rfl (hn _ h1 rfl))) (show 1 ≤ 20 by decide)
  · rw [if_pos (by simp; omega)]
    exact Goes.mono (.step rfl (.done rfl (hn _ (fun l a b => by omega) rfl))) (show 1 ≤ 20 by decide)

theorem noSet1 (m : M) (h : m.code = code1) : m.hasFirstSet = false := by unfold M.hasFirstSet; rw [h]; rfl

/-- the first pattern's try at i -/
abbrev S1 (T : Array Nat) (i : Nat) (first : Bool) (sn : Sre.Seen) : M := C code1 T i 5 i i first [fNext 5 i first] 1 none sn

theorem search1 (T : Array Nat) (st : Nat) (h1 : st + 1 ≤ T.size) : ∃ sn, forSearch code1 T 0 st T.size false = S1 T st true sn := by
  refine ⟨({} : Sre.Seen).add 14, ?_⟩
  unfold forSearch
  rw [if_neg]
  · rfl
  · have e : (header code1).1 = 1 := rfl
    simp only [e]
    simp; omega
theorem search1_end (T : Array Nat) (st : Nat) (h1 : T.size ≤ st) (Φ : M → Prop) (hΦ : ∀ m, m.outcome = some .failed → Φ m) : Goes 1 (forSearch code1 T 0 st T.size false) Φ := by
  unfold forSearch
  rw [if_pos]
  · exact .step rfl (.done rfl (hΦ _ rfl))
  · have e : (header code1).1 = 1 := rfl
    simp only [e]
    simp; omega

def Hit1 (T : Array Nat) (i : Nat) : Bool := (i == 0 || T.getD (i - 1) 0 == 10) && (decide (i < T.size) && T.getD i 0 == 46)

/-- the first pattern, from i on -/
theorem run1 (T : Array Nat) (Φ : M → Prop) : ∀ (k i : Nat) (first : Bool) (sn : Sre.Seen), i + k = T.size →
    (∀ j m, i ≤ j → Hit1 T j = true → (∀ l, i ≤ l → l < j → Hit1 T l = false) → m.outcome = some .matched → m.start = j → m.handed = j + 1 → Φ m) →
    (∀ m, (∀ l, i ≤ l → Hit1 T l = false) → m.outcome = some .failed → Φ m) → Goes (3 * k + 5) (S1 T i first sn) Φ
  | 0, i, first, sn, hk, hy, hn => by
    have hi : T.size ≤ i := by omega
    have hno : ∀ l, i ≤ l → Hit1 T l = false := fun l hl => by
      unfold Hit1
      have : ¬ l < T.size := by omega
      simp [this]
    refine .step rfl ?_
    cases h0 : (i == 0 || T.getD (i - 1) 0 == 10)
    · rw [at_line (by decide) rfl rfl h0]
      refine .step rfl ?_
      rw [if_neg Bool.false_ne_true, next_off hi]
      exact (ended (b := false) Φ fun m e _ _ => hn m hno e).mono (by omega)
    · rw [at_line (by decide) rfl rfl h0]
      refine .step rfl ?_
      rw [if_pos rfl, lit_no (c := 46) (by decide) rfl rfl (.inl hi)]
      refine .step rfl ?_
      rw [next_off hi]
      exact (ended (b := false) Φ fun m e _ _ => hn m hno e).mono (by omega)
  | k + 1, i, first, sn, hk, hy, hn => by
    have hi : i < T.size := by omega
    have next : Hit1 T i = false → ∀ sn', Goes (3 * k + 5) (S1 T (i + 1) false sn') Φ := fun hno sn' => by
      refine run1 T Φ k (i + 1) false sn' (by omega) (fun j m hj hh hl => hy j m (by omega) hh fun l h1 h2 => ?_) (fun m hl => hn m fun l h1 => ?_)
      · rcases Nat.eq_or_lt_of_le h1 with rfl | h1
        · exact hno
        · exact hl l h1 h2
      · rcases Nat.eq_or_lt_of_le h1 with rfl | h1
        · exact hno
        · exact hl l h1
    refine Goes.mono (n := 3 * k + 5 + 1 + 1 + 1) (.step rfl ?_) (by omega)
    cases h0 : (i == 0 || T.getD (i - 1) 0 == 10)
    · rw [at_line (by decide) rfl rfl h0]
      refine .step rfl ?_
      rw [if_neg Bool.false_ne_true, next_no noSet1 hi]
      exact (next (by unfold Hit1; rw [h0]; rfl) _).mono (by omega)
    · rw [at_line (by decide) rfl rfl h0, if_pos rfl]
      refine .step rfl ?_
      by_cases h1 : T.getD i 0 = 46
      · rw [lit_ok (c := 46) (by decide) rfl rfl hi h1]
        refine Goes.mono (n := 1 + 1 + 1) ?_ (by omega)
        refine .step rfl ?_
        rw [success (by decide) rfl]
        refine .step rfl ?_
        rw [next_yes]
        exact ended (b := true) Φ fun m e1 e2 e3 => hy i m (Nat.le_refl _) (by unfold Hit1; rw [h0, h1]; simp [hi]) (fun l a b => by omega) e1 e2 e3
      · rw [lit_no (c := 46) (by decide) rfl rfl (.inr h1)]
        refine .step rfl ?_
        rw [next_no noSet1 hi]
        exact next (by unfold Hit1; rw [beq_eq_false_iff_ne.mpr h1]; simp) _
end Mine

/-! part M3 -/
namespace Mine
open PySem.Sre PySem.Builtin PySem.Builtin.Re

section
variable {M : Model} {A : Around} {E : Value → Shared → Prop} {s : Shared}

theorem wp_drive {Φ : Sre.M → Prop} {Q : Sre.M → Shared → Prop} : ∀ (turns n : Nat) (m : Sre.M), n ≤ 4 * turns → 1 ≤ turns → Goes n m Φ →
    (∀ m', m'.outcome.isSome = true → Φ m' → Q m' s) → wpAny M A (reDrive turns m) Q E s
  | 0, _, _, _, h1, _, _ => absurd h1 (by decide)
  | t + 1, n, m, hn, _, hg, hq => by
    unfold reDrive
    show wpAny M A (if (m.runFor 4).outcome.isSome = true then pure (m.runFor 4) else (do rule "sre.turn"; reDrive t (m.runFor 4))) Q E s
    by_cases h : (m.runFor 4).outcome.isSome = true
    · rw [if_pos h]
      refine wpAny_pure (hq _ h ?_)
      have e : m.runFor n = m.runFor 4 := by
        rcases Nat.le_total n 4 with h4 | h4
        · obtain ⟨k, e⟩ := Nat.exists_eq_add_of_le h4
          rw [e, runFor_add, runFor_some hg.1]
        · obtain ⟨k, e⟩ := Nat.exists_eq_add_of_le h4
          rw [e, runFor_add, runFor_some h]
      rw [← e]; exact hg.2
    · rw [if_neg h]
      have h4 : 4 < n := by
        rcases Nat.lt_or_ge 4 n with x | x
        · exact x
        · exact absurd (hg.mono x).1 h
      obtain ⟨k, e⟩ := Nat.exists_eq_add_of_le (Nat.le_of_lt h4)
      refine wpAny_bind (wpAny_rule (wp_drive t k _ (by omega) (by omega) ?_ hq))
      unfold Goes at *
      rw [e, runFor_add] at hg
      exact hg

theorem wp_rules {f : Nat → Bool} {g : Nat → String} {Q : PUnit → Shared → Prop} (hq : Q ⟨⟩ s) : ∀ l : List Nat,
    wpAny M A (forIn l PUnit.unit fun i _ => if f i = true then (do rule (g i); pure (ForInStep.yield PUnit.unit)) else pure (ForInStep.yield PUnit.unit)) Q E s
  | [] => wpAny_pure hq
  | a :: l => by
    rw [List.forIn_cons]
    refine wpAny_bind ?_
    by_cases h : f a = true
    · rw [if_pos h]; exact wpAny_bind (wpAny_rule (wpAny_pure (wp_rules hq l)))
    · rw [if_neg h]; exact wpAny_pure (wp_rules hq l)

theorem wp_runToEnd {n : Nat} {m : Sre.M} {Φ : Sre.M → Prop} {Q : Option Sre.M → Shared → Prop} (hn : n ≤ 4 * 2 ^ 64) (hg : Goes n m Φ)
    (hy : ∀ m', Φ m' → m'.outcome = some .matched → Q (some m') s) (hno : ∀ m', Φ m' → m'.outcome = some .failed → Q none s)
    (hst : ∀ m' why, Φ m' → m'.outcome ≠ some (.stuck why)) : wpAny M A (reRunToEnd m) Q E s := by
  unfold reRunToEnd
  refine wpAny_bind (wp_drive (2 ^ 64) n m hn (by decide) hg fun m' ho hΦ => ?_)
  refine wpAny_bind ?_
  refine wp_rules (f := fun i => m'.seen.has i) ?_ _
  cases e : m'.outcome with
  | none => rw [e] at ho; cases ho
  | some o =>
    cases o with
    | matched => exact wpAny_pure (hy m' hΦ e)
    | failed => exact wpAny_pure (hno m' hΦ e)
    | stuck why => exact absurd e (hst m' why hΦ)
end
end Mine

/-! part M4 -/
namespace Mine
open PySem.Sre PySem.Builtin PySem.Builtin.Re

/-- what the proof must know of a pattern -/
structure Pat where
  code : Array Nat
  hit : Array Nat → Nat → Bool
  width : Array Nat → Nat → Nat
structure Pat.Ok (p : Pat) : Prop where
  pos : ∀ T j, 1 ≤ p.width T j
  fit : ∀ T j, j < T.size → p.hit T j = true → j + p.width T j ≤ T.size
  goes : ∀ (T : Array Nat) (st : Nat) (Φ : Sre.M → Prop), st ≤ T.size →
    (∀ j m, st ≤ j → j < T.size → p.hit T j = true → (∀ l, st ≤ l → l < j → p.hit T l = false) → m.outcome = some .matched → m.start = j → m.handed = j + p.width T j → Φ m) →
    (∀ m, (∀ l, st ≤ l → l < T.size → p.hit T l = false) → m.outcome = some .failed → Φ m) → Goes (3 * T.size + 30) (forSearch p.code T 0 st T.size false) Φ

def pat1 : Pat := ⟨code1, Hit1, fun _ _ => 1⟩
def pat2 : Pat := ⟨code2, fun T i => Nl (T.getD i 0), wide⟩

theorem pat1_ok : pat1.Ok where
  pos _ _ := Nat.le_refl _
  fit T j h _ := h
  goes T st Φ h hy hn := by
    by_cases hs : st + 1 ≤ T.size
    · obtain ⟨sn, e⟩ := search1 T st hs
      show Goes _ (forSearch code1 T 0 st T.size false) Φ
      rw [e]
      refine (run1 T Φ (T.size - st) st true sn (by omega) (fun j m h1 h2 h3 => hy j m h1 ?_ h2 h3) (fun m h1 => hn m fun l a _ => h1 l a)).mono (by omega)
      unfold Hit1 at h2
      simp only [Bool.and_eq_true, decide_eq_true_eq] at h2
      exact h2.2.1
    · exact (search1_end T st (by omega) Φ fun m => hn m fun l a b => by omega).mono (by omega)
theorem pat2_ok : pat2.Ok where
  pos T j := by show 1 ≤ wide T j; unfold wide; split <;> omega
  fit T j h _ := by
    show j + wide T j ≤ T.size
    unfold wide
    by_cases h' : T.getD j 0 = 13 ∧ j + 1 < T.size ∧ T.getD (j + 1) 0 = 10
    · rw [if_pos h']; exact h'.2.1
    · rw [if_neg h']; exact h
  goes T st Φ _ hy hn := (search2 T st Φ hy hn).mono (by omega)

inductive Subst (p : Pat) (T : Array Nat) (r : List Nat) : Nat → List Nat → Prop
  | stop {st : Nat} : st ≤ T.size → (∀ l, st ≤ l → l < T.size → p.hit T l = false) → Subst p T r st (T.toList.drop st)
  | go {st j : Nat} {out : List Nat} : st ≤ j → j < T.size → p.hit T j = true → (∀ l, st ≤ l → l < j → p.hit T l = false) → Subst p T r (j + p.width T j) out → Subst p T r st ((T.toList.drop st).take (j - st) ++ r ++ out)

def cat (l : List (Str × Tok)) : List Nat := (l.map (·.1.cps.toList)).flatten

/-- the object of a pattern -/
structure IsPat (h : Heap) (P : Addr) (p : Pat) : Prop where
  obj : ∃ (a b : Value) (C : Addr), h.get? P = some { cls := .type "re.Pattern", data := .fields #[a, b, .int 0 0, .none, .none, .ref C, .int 0 0] } ∧
    h.get? C = some { cls := .type "tuple", data := .seq (p.code.map fun (n : Nat) => Value.int n 0) }
theorem IsPat.keeps {h h' : Heap} {P : Addr} {p : Pat} (x : IsPat h P p) (hk : ∀ b o, h.get? b = some o → h'.get? b = some o) : IsPat h' P p :=
  let ⟨a, b, C, h1, h2⟩ := x.obj; ⟨a, b, C, hk _ _ h1, hk _ _ h2⟩

section
variable {prog : Program} {w : World} {A : Around} {E : Value → Shared → Prop} {s : Shared}

theorem code_back (p : Pat) : ((p.code.map fun (n : Nat) => Value.int n 0).map reRawOf).map (·.toNat) = p.code := by
  simp only [Array.map_map]
  have : ((fun x => x.toNat) ∘ reRawOf ∘ fun (n : Nat) => Value.int n 0) = _root_.id := by funext n; rfl
  rw [this, Array.map_id]

theorem wp_target {p : Pat} {P : Addr} {x : Str} {t : Tok} {Q : ReTarget → Shared → Prop} (hP : IsPat s.heap P p)
    (hq : Q { pattern := .ref P, string := .str x t, code := p.code, text := x.cps, kind := 0, groups := 0, pos := 0, lim := x.cps.size } s) :
    wpAny (model prog w) A (reWholeTarget (.ref P) (.str x t)) Q E s := by
  obtain ⟨a, b, C, h1, h2⟩ := hP.obj
  obtain ⟨h, g, d, tk, os⟩ := s
  unfold reWholeTarget fieldsOf
  wp_walk
  show Q { pattern := .ref P, string := .str x t, code := ((p.code.map fun (n : Nat) => Value.int n 0).map reRawOf).map (·.toNat), text := x.cps, kind := 0, groups := 0, pos := 0, lim := x.cps.size } _
  rw [code_back]
  exact hq

theorem first_eq {p : Pat} {T : Array Nat} {st i j : Nat} (hi : st ≤ i) (hj : st ≤ j) (h1 : p.hit T i = true) (h2 : p.hit T j = true) (f1 : ∀ l, st ≤ l → l < i → p.hit T l = false) (f2 : ∀ l, st ≤ l → l < j → p.hit T l = false) : i = j := by
  rcases Nat.lt_trichotomy i j with h | h | h
  · rw [f2 i hi h] at h1; cases h1
  · exact h
  · rw [f1 j hj h] at h2; cases h2

/-- the next match -/
theorem wp_next {p : Pat} (ok : p.Ok) {T : Array Nat} {st : Nat} {t : ReTarget} {Q : Option Sre.M → Shared → Prop} (hc : t.code = p.code) (hT : t.text = T) (hg : t.groups = 0) (hl : t.lim = T.size) (hs : st ≤ T.size) (hz : T.size ≤ sizeLine)
    (hy : ∀ j m, st ≤ j → j < T.size → p.hit T j = true → (∀ l, st ≤ l → l < j → p.hit T l = false) → m.start = j → m.handed = j + p.width T j → Q (some m) s)
    (hn : (∀ l, st ≤ l → l < T.size → p.hit T l = false) → Q none s) : wpAny (model prog w) A (reNextFound t (Int.toNat (st : Int)) false) Q E s := by
  rw [show Int.toNat (st : Int) = st from rfl]
  unfold reNextFound
  rw [hc, hT, hg, hl]
  refine wp_runToEnd (n := 3 * T.size + 30) (Φ := fun m => (m.outcome = some .matched ∧ ∃ j, st ≤ j ∧ j < T.size ∧ p.hit T j = true ∧ (∀ l, st ≤ l → l < j → p.hit T l = false) ∧ m.start = j ∧ m.handed = j + p.width T j) ∨
    (m.outcome = some .failed ∧ ∀ l, st ≤ l → l < T.size → p.hit T l = false)) (by rw [sizeLine_eq] at hz; omega) (ok.goes T st _ hs (fun j m h1 h2 h3 h4 h5 h6 h7 => .inl ⟨h5, j, h1, h2, h3, h4, h6, h7⟩) (fun m h1 h2 => .inr ⟨h2, h1⟩)) ?_ ?_ ?_
  · rintro m' (⟨_, j, h1, h2, h3, h4, h6, h7⟩ | ⟨h, _⟩) e
    · exact hy j m' h1 h2 h3 h4 h6 h7
    · rw [h] at e; cases e
  · rintro m' (⟨h, _⟩ | ⟨_, h⟩) e
    · rw [h] at e; cases e
    · exact hn h
  · rintro m' why (⟨h, _⟩ | ⟨h, _⟩) e <;> (rw [h] at e; cases e)

theorem wp_slice {T : Array Nat} {b e : Nat} {Q : Value → Shared → Prop} (hz : T.size ≤ sizeLine) (hq : Q (.str ⟨T.extract b e⟩ s.toks) { s with toks := s.toks + 1 }) :
    wpAny (model prog w) A (reSlice T 0 b e) Q E s := by
  show wpAny _ _ (mkStr ⟨T.extract b e⟩) Q E s
  refine wpAny_mkStr hq ?_
  show (T.extract b e).size ≤ sizeLine
  rw [Array.size_extract]; omega
theorem wp_push {D : Addr} {items : Array Value} {v : Value} {Q : Unit → Shared → Prop} (hl : s.heap.IsList D items) (hz : items.size ≤ sizeLine)
    (hQ : ∀ h', h'.IsList D (items.push v) → Heap.SameBut D s.heap h' → Q () { s with heap := h' }) : wpAny (model prog w) A (updateSeq D fun x => x.push v) Q E s := by
  obtain ⟨o, ho, hc, n, hd⟩ := id hl
  obtain ⟨n', hd'⟩ := Obj.data_mapSeq hd (·.push v)
  refine wpAny_updateSeq ho hd (hQ _ ?_ (Heap.SameBut.update ..))
  exact ⟨_, Heap.get?_update_self _ ho (Obj.isFreed_of_seq hd'), (Obj.cls_mapSeq ..).trans hc, n', hd'⟩
theorem wp_items {D : Addr} {items : Array Value} {Q : Option (Array Value) → Shared → Prop} (hl : s.heap.IsList D items) (hQ : Q (some items) s) : wpAny (model prog w) A (seqItems? (.ref D)) Q E s := by
  obtain ⟨o, ho, hc, n, hd⟩ := id hl
  unfold seqItems?
  refine wpAny_bind (wpAny_load ho ?_)
  rw [hd]
  exact wpAny_pure hQ
theorem strValues_snoc (l : List (Str × Tok)) (x : Str) (t : Tok) : (strValues l).toArray.push (.str x t) = (strValues (l ++ [(x, t)])).toArray := by
  simp [strValues]
theorem cat_snoc (l : List (Str × Tok)) (x : Str) (t : Tok) : cat (l ++ [(x, t)]) = cat l ++ x.cps.toList := by simp [cat]
theorem length_strValues (l : List (Str × Tok)) : (strValues l).length = l.length := by simp [strValues]
theorem join_nil_cat : ∀ l : List Str, (Str.join ⟨#[]⟩ l).cps.toList = (l.map (·.cps.toList)).flatten
  | [] => rfl
  | [x] => by simp [Str.join]
  | x :: y :: r => by
    have := join_nil_cat (y :: r)
    have e : Str.join ⟨#[]⟩ (x :: y :: r) = x ++ ⟨#[]⟩ ++ Str.join ⟨#[]⟩ (y :: r) := rfl
    rw [e, Str.cps_append, Str.cps_append, Array.toList_append, Array.toList_append, this]
    simp
theorem join_cat (l : List (Str × Tok)) : Txt.join ⟨#[]⟩ (l.map (·.1)) = ⟨(cat l).toArray⟩ := by
  apply Str.ext'
  apply Array.ext'
  unfold Txt.join
  rw [StrLaws.glued_eq_join, join_nil_cat]
  simp [cat, List.map_map, Function.comp_def]
theorem cat_len (l : List (Str × Tok)) : ((l.map (·.1)).map (·.length)).sum = (cat l).length := by
  unfold cat
  rw [List.length_flatten]
  simp [List.map_map, Function.comp_def, Str.length]

/-- the pieces laid together -/
theorem sub_end {D : Addr} {l : List (Str × Tok)} {t : Tok} {Q : Value → Shared → Prop} (hL : s.heap.IsList D (strValues l).toArray) (hz : (cat l).length ≤ sizeLine)
    (hQ : ∀ t' k, Q (.str ⟨(cat l).toArray⟩ t') { s with toks := k }) : wpAny (model prog w) A (call (.builtin "str.join") [.str ⟨#[]⟩ t, .ref D]) Q E s := by
  refine SC.join hL rfl ?_ ?_
  · unfold JoinOk
    rw [StrLaws.joinTotal, cat_len]
    unfold Builtin.Str.tooLong
    simp [Str.length]
    exact hz
  · intro t' k
    rw [join_cat]
    exact hQ t' k

abbrev loopCode (P D : Addr) (x r : Str) (tx tr : Tok) (n : Int) (st : Nat) : Code :=
  .builtin "re.Pattern.sub.loop" ⟨[.ref P, .str x tx, .str r tr, rawInt 0, rawInt 0, rawInt n, rawInt st, rawInt st, .bool false, .ref D, .bool false], []⟩

theorem sub_loop {p : Pat} (ok : p.Ok) {P D : Addr} {x r : Str} {tx tr : Tok} (hx : x.cps.size ≤ sizeLine) (hPD : P ≠ D) {st : Nat} {out : List Nat} (S : Subst p x.cps r.cps.toList st out) :
    ∀ (s : Shared) (l : List (Str × Tok)) (n : Int) (R : Result → Shared → Prop), IsPat s.heap P p → s.heap.IsList D (strValues l).toArray → l.length + 2 * (x.cps.size - st) + 2 ≤ sizeLine → (cat l).length + out.length ≤ sizeLine →
      (∀ t' s', Heap.SameBut D s.heap s'.heap → (∃ h' tk, s' = { s with heap := h', toks := tk }) → R (.ok (.ret (.str ⟨(cat l ++ out).toArray⟩ t'))) s') →
      codeAny (model prog w) A (loopCode P D x r tx tr n st) R s := by
  induction S with
  | stop hs hno =>
    rename_i st
    intro s l n R hP hL hz1 hz2 hR
    refine codeAny_builtin entry_loop ?_
    rw [Around.under_plainId plain_loop _]
    unfold Builtin.«re.Pattern.sub.loop»
    obtain ⟨h, g, d, tk, os⟩ := s
    wp_walk using wp_target hP, wp_next ok rfl rfl rfl rfl hs hx
    · intro j m a1 a2 a3
      rw [hno j a1 a2] at a3; cases a3
    · intro _
      have fin : ∀ (l' : List (Str × Tok)) (h' : Heap) (tk' : Nat), h'.IsList D (strValues l').toArray → Heap.SameBut D h h' → cat l' = cat l ++ x.cps.toList.drop st →
          wpAny (model prog w) A.in1 (reSlice x.cps 0 0 0 >>= fun joiner => do
            let text ← if ((← seqItems? (.ref D)).getD #[]).isEmpty then pure joiner else call (.builtin "str.join") [joiner, .ref D]
            ret text) (fun fin s' => match fin with | .done f => R (.ok f) s' | .again c' => c'.quiet = true ∧ codeAny (model prog w) A c' R s') (fun e s' => R (.error e) s') ⟨h', g, d, tk', os⟩ := by
        intro l' h' tk' hl' hsb hcat
        refine wpAny_bind (wp_slice hx (wpAny_bind (wp_items hl' ?_)))
        dsimp only [Option.getD_some]
        have e0 : (x.cps.extract 0 0) = #[] := by simp
        rw [e0]
        cases l' with
        | nil =>
          refine wpAny_bind (wpAny_pure (wpAny_pure ?_))
          have := hR tk' ⟨h', g, d, tk' + 1, os⟩ hsb ⟨_, _, rfl⟩
          rw [← hcat] at this
          exact this
        | cons y ys =>
          rw [if_neg (by simp [strValues])]
          refine wpAny_bind (sub_end hl' (by rw [hcat, List.length_append]; exact hz2) fun t' k => wpAny_pure ?_)
          rw [hcat]
          exact hR t' _ hsb ⟨_, _, rfl⟩
      by_cases hst : st < x.cps.size
      · refine wpAny_ite_true (by simpa using hst) ?_
        refine wpAny_bind (wp_slice hx (wpAny_bind (wp_push hL (by rw [List.size_toArray, length_strValues]; omega) fun h' hl' hsb => ?_)))
        rw [strValues_snoc] at hl'
        exact fin _ h' _ hl' hsb (by rw [cat_snoc]; simp; exact List.take_of_length_le (by simp))
      · refine wpAny_ite_false (by simpa using hst) ?_
        exact fin l h tk hL (.refl ..) (by rw [List.drop_eq_nil_of_le (by simp; omega)]; simp)
  | go h1 h2 h3 h4 S ih =>
    rename_i st j out
    intro s l n R hP hL hz1 hz2 hR
    refine codeAny_builtin entry_loop ?_
    rw [Around.under_plainId plain_loop _]
    unfold Builtin.«re.Pattern.sub.loop»
    obtain ⟨h, g, d, tk, os⟩ := s
    have hw := ok.pos x.cps j
    have hf := ok.fit x.cps j h2 h3
    wp_walk using wp_target hP, wp_next ok rfl rfl rfl rfl (Nat.le_trans h1 (Nat.le_of_lt h2)) hx
    · intro j' m a1 a2 a3 a4 e1 e2
      obtain rfl : j' = j := first_eq a1 h1 a3 h3 a4 h4
      replace e2 : m.handed = j' + p.width x.cps j' := e2
      have step : ∀ (l' : List (Str × Tok)) (h' : Heap) (tk' : Nat), h'.IsList D (strValues l').toArray → Heap.SameBut D h h' → cat l' = cat l ++ (x.cps.toList.drop st).take (j' - st) → l'.length ≤ l.length + 1 →
          wpAny (model prog w) A.in1 (do
            let item ← pure (Value.str r tr)
            if item != .none then updateSeq D (·.push item)
            again (.builtin "re.Pattern.sub.loop" ⟨[.ref P, .str x tx, .str r tr, rawInt 0, rawInt 0, rawInt (n + 1), rawInt m.handed, rawInt m.handed, .bool (m.handed == m.start), .ref D, .bool false], []⟩))
            (fun fin s' => match fin with | .done f => R (.ok f) s' | .again c' => c'.quiet = true ∧ codeAny (model prog w) A c' R s') (fun e s' => R (.error e) s') ⟨h', g, d, tk', os⟩ := by
        intro l' h' tk' hl' hsb hcat hlen
        refine wpAny_bind (wpAny_pure (wpAny_ite_true rfl (wpAny_bind (wp_push hl' (by rw [List.size_toArray, length_strValues]; omega) fun h'' hl'' hsb' => ?_))))
        rw [strValues_snoc] at hl''
        have eb : (m.handed == m.start) = false := by rw [e1, e2]; exact beq_eq_false_iff_ne.mpr (by omega)
        rw [eb, e2]
        refine wpAny_pure ⟨plainId_quiet plain_loop _, ?_⟩
        have hsb2 := hsb.trans hsb'
        obtain ⟨pa, pb, pC, q1, q2⟩ := hP.obj
        have hC : pC ≠ D := fun e => by
          obtain ⟨o, ho, hc, _⟩ := hL
          rw [e, ho] at q2
          obtain rfl := Option.some.inj q2
          have hc' : Value.type "tuple" = Value.type "list" := hc
          exact absurd hc' (by decide)
        refine ih ⟨h'', g, d, tk', os⟩ (l' ++ [(r, tr)]) (n + 1) R ⟨pa, pb, pC, (hsb2.2 _ hPD).trans q1, (hsb2.2 _ hC).trans q2⟩ hl'' (by rw [List.length_append]; simp; omega) (by rw [cat_snoc, hcat]; simp at hz2 ⊢; omega) ?_
        intro t' s' hs' he'
        have := hR t' s' (hsb2.trans hs') he'
        rw [cat_snoc, hcat]
        simpa using this
      by_cases hlt : st < j'
      · refine wpAny_ite_true (by rw [e1]; simpa using hlt) ?_
        refine wpAny_bind (wp_slice hx (wpAny_bind (wp_push hL (by rw [List.size_toArray, length_strValues]; omega) fun h' hl' hsb => ?_)))
        rw [strValues_snoc] at hl'
        exact step _ h' _ hl' hsb (by rw [cat_snoc, e1]; simp) (by simp)
      · refine wpAny_ite_false (by rw [e1]; simpa using hlt) ?_
        exact step l h tk hL (.refl ..) (by rw [show j' - st = 0 by omega]; simp) (by omega)
    · intro hno
      rw [hno j h1 h2] at h3; cases h3
end
end Mine

/-! part M5 -/
namespace Mine
open PySem.Sre PySem.Builtin PySem.Builtin.Re

theorem plainAttrs_pat : PlainAttrs "re.Pattern" :=
  ⟨⟨"object.__getattribute__", by rw [typeLookup_type, builtinLookup_eq_fast]; kernel_rfl, by decide +kernel⟩, by rw [typeLookup_type, builtinLookup_eq_fast]; kernel_rfl⟩

section
variable {prog : Program} {w : World} {A : Around} {E : Value → Shared → Prop} {s : Shared}

theorem IsPat.typeIs {P : Addr} {p : Pat} (x : IsPat s.heap P p) : s.TypeIs (.ref P) "re.Pattern" := let ⟨_, _, _, h1, _⟩ := x.obj; ⟨_, h1, rfl⟩

theorem named_sub (a b : Value) : reNamed "re.Pattern.sub" "sub" ["repl", "string", "count"] 2 [a, b] [] = pure [some a, some b, none] := by rfl

theorem sub_call {p : Pat} (ok : p.Ok) {P : Addr} {x r : Str} {tx tr : Tok} {out : List Nat} {Q : Value → Shared → Prop} (hP : IsPat s.heap P p) (hx : 2 * x.cps.size + 2 ≤ sizeLine) (hr : r.cps.contains 92 = false)
    (S : Subst p x.cps r.cps.toList 0 out) (ho : out.length ≤ sizeLine) (hQ : ∀ t' s', Keeps s s' → Q (.str ⟨out.toArray⟩ t') s') :
    wpAny (model prog w) A (call (.builtin "re.Pattern.sub") [.ref P, .str r tr, .str x tx]) Q E s := by
  refine wpAny_call (codeAny_call_builtin slot_sub.plain entry_sub (slot_sub.check _ _ _ _ _ _ _ _ hP.typeIs (args_sub _ _ _) ?_))
  have hT : s.TypeIs (.str r tr) "str" := typeIs_str _ _ _
  unfold Builtin.«re.Pattern.sub» reSubstitute
  obtain ⟨h, g, d, tk, os⟩ := s
  show wpAny _ _ (reNamed "re.Pattern.sub" "sub" ["repl", "string", "count"] 2 [.str r tr, .str x tx] [] >>= _) _ _ _
  rw [named_sub]
  wp_walk using wpAny_specialOf hT look_none_call, wp_target hP
  refine wpAny_ite_true (by rw [hr]; rfl) ?_
  wp_walk using wp_target hP
  refine ⟨plainId_quiet plain_loop _, ?_⟩
  have kp : ∀ b o, h.get? b = some o → (h.push { cls := .type "list", data := .seq (([] : List Value).toArray) }).get? b = some o := fun b o e => Heap.get?_push_of_some _ e
  obtain ⟨pa, pb, pC, q1, q2⟩ := hP.obj
  refine sub_loop ok (by omega) (Nat.ne_of_lt (Heap.lt_size q1)) S _ [] 0 _ (hP.keeps kp) ⟨_, Heap.get?_push_size _ rfl, rfl, _, rfl⟩ (by simpa using hx) (by simpa [cat] using ho) ?_
  rintro t' s' hs ⟨h', tk', rfl⟩
  refine hQ t' _ ⟨h', tk', rfl, fun b o e => ?_⟩
  exact (hs.2 b (Nat.ne_of_lt (Heap.lt_size e))).trans (kp b o e)
end
end Mine

/-! part M6 -/
namespace Mine
open PySem.Calls

/-- the n-th statement of the given program's top -/
def defAt (n : Nat) : Stmt := Challenge.pw_nb0019_01.main.body.getD n (.Pass default)
def sBody : Stmt → List Stmt
  | .FunctionDef _ _ b _ _ _ _ _ _ _ => b
  | _ => []
def sArgs : Stmt → Arguments
  | .FunctionDef _ a _ _ _ _ _ _ _ _ => a
  | _ => ⟨[], [], none, [], [], none, []⟩
def sScope : Stmt → Scope
  | .FunctionDef _ _ _ _ _ _ s _ _ _ => s
  | _ => default

/-- a def of the top at a, its code object at c -/
def FnAt (h : Heap) (a c : Addr) (name : Str) (st : Stmt) : Prop :=
  ∃ o pm, h.get? a = some o ∧ o.data = .func (docDef name (sArgs st) (sBody st) (sScope st) pm (.ref c) .none) ∧ h.CodeRec (.ref c) name
theorem FnAt.keeps {h h' : Heap} {a c : Addr} {name : Str} {st : Stmt} (x : FnAt h a c name st) (hk : ∀ b o, h.get? b = some o → h'.get? b = some o) : FnAt h' a c name st :=
  let ⟨o, pm, h1, h2, h3⟩ := x; ⟨o, pm, hk _ _ h1, h2, h3.keeps hk⟩

def crlf : Str := ⟨#[13, 10]⟩

/-- what the top has left and the builtins: all that the walk asks of the heap outside the call -/
structure Glo (h : Heap) : Prop where
  g : ∃ mg, h.Ns mainGlobals mg ∧ mg "CRLF" = some (.str crlf 342) ∧ mg "_twin_re_1" = some (.ref 36) ∧ mg "_twin_re_2" = some (.ref 41)
    ∧ mg "quotedata" = some (.ref 48) ∧ mg "_fix_eols" = some (.ref 55) ∧ mg "_deduplicate_unhashable" = some (.ref 62) ∧ mg "_compare_args_orderless" = some (.ref 69)
    ∧ mg "_law_texts" = some (.ref 74) ∧ mg "_law_rows" = some (.ref 81) ∧ mg "_law_told" = some (.ref 86)
    ∧ mg "len" = none ∧ mg "range" = none ∧ mg "list" = none ∧ mg "type" = none ∧ mg "ValueError" = none
  b : ∃ mb, h.Ns builtinsNs mb ∧ mb "len" = some (.builtin "len") ∧ mb "range" = some (.type "range") ∧ mb "list" = some (.type "list") ∧ mb "type" = some (.type "type") ∧ mb "ValueError" = some (.type "ValueError")
  lim : h.NoLimit
  p1 : IsPat h 36 pat1
  p2 : IsPat h 41 pat2
  f48 : FnAt h 48 47 "quotedata" (defAt 5)
  f55 : FnAt h 55 54 "_fix_eols" (defAt 6)
  f62 : FnAt h 62 61 "_deduplicate_unhashable" (defAt 8)
  f69 : FnAt h 69 68 "_compare_args_orderless" (defAt 9)
  f74 : FnAt h 74 73 "_law_texts" (defAt 11)
  f81 : FnAt h 81 80 "_law_rows" (defAt 12)
  f86 : FnAt h 86 85 "_law_told" (defAt 13)

theorem Glo.keeps {h h' : Heap} (x : Glo h) (hk : ∀ b o, h.get? b = some o → h'.get? b = some o) : Glo h' where
  g := let ⟨mg, h1, h2⟩ := x.g; ⟨mg, h1.keeps hk, h2⟩
  b := let ⟨mg, h1, h2⟩ := x.b; ⟨mg, h1.keeps hk, h2⟩
  lim := x.lim.keeps hk
  p1 := x.p1.keeps hk
  p2 := x.p2.keeps hk
  f48 := x.f48.keeps hk
  f55 := x.f55.keeps hk
  f62 := x.f62.keeps hk
  f69 := x.f69.keeps hk
  f74 := x.f74.keeps hk
  f81 := x.f81.keeps hk
  f86 := x.f86.keeps hk

theorem kp_heap {s s' : Shared} (k : Keeps s s') : ∀ b o, s.heap.get? b = some o → s'.heap.get? b = some o := by
  obtain ⟨h', tk, rfl, hk⟩ := k; exact hk
theorem kp_refl (s : Shared) : Keeps s s := ⟨s.heap, s.toks, rfl, fun _ _ e => e⟩
theorem kp_trans {a b c : Shared} (x : Keeps a b) (y : Keeps b c) : Keeps a c := by
  obtain ⟨h1, t1, rfl, k1⟩ := x
  obtain ⟨h2, t2, rfl, k2⟩ := y
  exact ⟨h2, t2, rfl, fun b o e => k2 b o (k1 b o e)⟩
theorem kp_toks {s : Shared} (n : Nat) : Keeps s { s with toks := n } := ⟨s.heap, n, rfl, fun _ _ e => e⟩
/-- a call's end is seen from its beginning -/
theorem kp_fr {s : Shared} {L : Addr} {h : Heap} {m : Str → Option Value} {tk : Nat} (F : Fr s.heap L h m) : Keeps s { s with heap := h, toks := tk } := ⟨h, tk, rfl, F.keep⟩

section
variable {prog : Program} {w : World} {A : Around} {E : Value → Shared → Prop} {s : Shared}

/-- a call of a def of the top that raises nothing: its frame L, the heap ahead of it kept -/
theorem call_def {a c : Addr} {name : Str} {st : Stmt} {args : List Value} {binds : List (Str × Value)} {Q : Value → Shared → Prop} (G : Glo s.heap) (f : FnAt s.heap a c name st) (hroom : A.depth < recursionLimit)
    (hbind : ∀ pm, bindArgs (docDef name (sArgs st) (sBody st) (sScope st) pm (.ref c) .none) ⟨args, []⟩ = pure binds)
    (hloc : ((binds.map (·.1)).all fun n => decide ((sScope st).names.lookup n = some .local)) = true)
    (h : ∀ L h₁, Fr s.heap L h₁ (fun x => binds.reverse.lookup x) →
      wpAny (model prog w) (A.deeper (envOf name (sScope st) L a (.ref c))) (execs (sBody st) (envOf name (sScope st) L a (.ref c)))
        (fun f s' => ∃ v, f = .ret v ∧ Q v s') (fun _ _ => False) { s with heap := h₁, toks := s.toks + binds.length })
    (hco : (sScope st).isCoroutine = false := by rfl) (hgen : (sScope st).isGenerator = false := by rfl) (hk : (sScope st).kind = .function := by rfl)
    (hcell : ∀ x ∈ (sScope st).names, x.2 ≠ .cell := by decide) :
    wpAny (model prog w) A (call (.ref a) args) Q E s := by
  obtain ⟨o, pm, ho, hd, hcd⟩ := f
  refine wpAny_call (call_plain_ret hroom ho hd G.lim hcd (hbind pm) (fun x hx => of_decide_eq_true (List.all_eq_true.mp hloc _ (List.mem_map_of_mem hx))) (fun h₁ F => ?_) hco hgen hk hcell)
  refine wpAny_mono (h _ h₁ F) (fun f s' hf => ?_) fun _ _ x => x
  obtain ⟨v, rfl, hq⟩ := hf
  exact hq

theorem callWith_m {env : Env} {pos : Pos} {id : String} {first : List Value} {e : Expr} {rest : List Expr} {Q : Value → Shared → Prop}
    (h : wpAny (model prog w) A (spliced (backTo pos (starEach (e :: rest) env))) (fun vs s₁ => wpAny (model prog w) A (call (.builtin id) (first ++ vs)) Q E s₁) E s)
    (he : starEach (e :: rest) env = (false, eval e env) :: starEach rest env := by rfl)
    (hplain : (backTo pos (starEach rest env)).any (·.1) = false := by rfl) :
    wpAny (model prog w) A (callWith pos (.builtin id) first (backTo pos (starEach (e :: rest) env)) []) Q E s := by
  rw [he] at h ⊢
  exact callWith_builtin (by show (false || (backTo pos (starEach rest env)).any (·.1)) = false; rw [hplain]; rfl) (evalArgs_plain h)

theorem getMethod_sub {P : Addr} {p : Pat} {pl : Sem Bool} {Q : Value × List Value → Shared → Prop} (hP : IsPat s.heap P p) (h : Q (.builtin "re.Pattern.sub", [.ref P]) s) : wpAny (model prog w) A (getMethod (.ref P) "sub" pl) Q E s :=
  getMethod_builtin hP.typeIs plainAttrs_pat slot_sub type_sub (fun a e => by
    cases e
    obtain ⟨_, _, _, h1, _⟩ := hP.obj
    exact ⟨_, h1, rfl⟩) h

theorem fix_call {x : Str} {t : Tok} {out : List Nat} {Q : Value → Shared → Prop} (G : Glo s.heap) (hroom : A.depth < recursionLimit) (hx : 2 * x.cps.size + 2 ≤ sizeLine)
    (S : Subst pat2 x.cps [13, 10] 0 out) (ho : out.length ≤ sizeLine) (hQ : ∀ t' s', Keeps s s' → Q (.str ⟨out.toArray⟩ t') s') : wpAny (model prog w) A (call (.ref 55) [.str x t]) Q E s := by
  refine call_def G G.f55 hroom (binds := [("data", .str x t)]) (fun _ => rfl) rfl fun L h₁ F => ?_
  have G₁ := G.keeps F.keep
  obtain ⟨mg, hg, e1, e2, e3, _⟩ := G₁.g
  refine wpAny_execs_cons (wpAny_Return_some (MethodCall_ ?_))
  refine Name_function_global rfl rfl (loadGlobal_global hg e3 ?_)
  refine getMethod_sub G₁.p2 (callWith_m (args_cons ?_))
  refine Name_function_global rfl rfl (loadGlobal_global hg e1 ?_)
  refine args_cons (ld F rfl (args_nil ?_))
  refine sub_call pat2_ok G₁.p2 hx (by decide +kernel) S ho fun t' s' k => ?_
  exact ⟨_, rfl, hQ t' s' (kp_trans (kp_fr F) k)⟩

theorem dots : [46, 46] = (Str.ofString "..").cps.toList := by decide +kernel

theorem quote_call {x : Str} {t : Tok} {out out' : List Nat} {Q : Value → Shared → Prop} (G : Glo s.heap) (hroom : A.depth < recursionLimit) (hx : 2 * x.cps.size + 2 ≤ sizeLine) (ho : 2 * out.length + 2 ≤ sizeLine) (ho' : out'.length ≤ sizeLine)
    (S : Subst pat2 x.cps [13, 10] 0 out) (S' : Subst pat1 out.toArray [46, 46] 0 out') (hQ : ∀ t' s', Keeps s s' → Q (.str ⟨out'.toArray⟩ t') s') : wpAny (model prog w) A (call (.ref 48) [.str x t]) Q E s := by
  refine call_def G G.f48 hroom (binds := [("data", .str x t)]) (fun _ => rfl) rfl fun L h₁ F => ?_
  have G₁ := G.keeps F.keep
  obtain ⟨mg, hg, e1, e2, e3, _⟩ := G₁.g
  refine wpAny_execs_cons (wpAny_Return_some (MethodCall_ ?_))
  refine Name_function_global rfl rfl (loadGlobal_global hg e2 ?_)
  refine getMethod_sub G₁.p1 (callWith_m (args_cons (Constant_str (args_cons (MethodCall_ ?_)))))
  refine Name_function_global rfl rfl (loadGlobal_global hg e3 ?_)
  refine getMethod_sub G₁.p2 (callWith_m (args_cons ?_))
  refine Name_function_global rfl rfl (loadGlobal_global hg e1 ?_)
  refine args_cons (ld F rfl (args_nil ?_))
  refine sub_call pat2_ok G₁.p2 hx (by decide +kernel) S (by omega) fun t' s' k => args_nil ?_
  refine sub_call pat1_ok ((G₁.keeps (kp_heap k)).p1) (by simpa using ho) (by decide +kernel) (dots ▸ S') ho' fun t'' s'' k' => ?_
  exact ⟨_, rfl, hQ t'' s'' (kp_trans (kp_trans (kp_fr F) k) k')⟩
end
end Mine

/-! part M7 -/
namespace Mine
open PySem.Calls

mutual
/-- made of lists and plain values alone -/
def lst : PyData → Bool
  | .none | .bool _ | .int _ | .str _ => true
  | .list xs => lstAll xs
  | .tuple _ | .dict _ => false
def lstAll : List PyData → Bool
  | [] => true
  | x :: xs => lst x && lstAll xs
end

mutual
theorem reads_at {h h' : Heap} : ∀ {v : Value} {d : PyData} {as : List Addr}, Reads h v d as → lst d = true → (∀ a ∈ as, ∀ o, h.get? a = some o → h'.get? a = some o) → Reads h' v d as
  | _, _, _, .none, _, _ => .none
  | _, _, _, .bool b, _, _ => .bool b
  | _, _, _, .int i t, _, _ => .int i t
  | _, _, _, .str x t, _, _ => .str x t
  | _, _, _, .list h1 h2 h3 h4, hl, hk => .list (hk _ (.head _) _ h1) h2 h3 (readsAll_at h4 (by simpa [lst] using hl) fun a ha => hk a (.tail _ ha))
  | _, _, _, .tuple .., hl, _ => by simp [lst] at hl
  | _, _, _, .dict .., hl, _ => by simp [lst] at hl
theorem readsAll_at {h h' : Heap} : ∀ {vs : List Value} {ds : List PyData} {as : List Addr}, ReadsAll h vs ds as → lstAll ds = true → (∀ a ∈ as, ∀ o, h.get? a = some o → h'.get? a = some o) → ReadsAll h' vs ds as
  | _, _, _, .nil, _, _ => .nil
  | _, _, _, .cons r rs, hl, hk => by
    simp only [lstAll, Bool.and_eq_true] at hl
    exact .cons (reads_at r hl.1 fun a ha => hk a (List.mem_append_left _ ha)) (readsAll_at rs hl.2 fun a ha => hk a (List.mem_append_right _ ha))
end

mutual
theorem reads_live {h : Heap} : ∀ {v : Value} {d : PyData} {as : List Addr}, Reads h v d as → lst d = true → ∀ a ∈ as, ∃ o xs n, h.get? a = some o ∧ o.data = .seq xs n
  | _, _, _, .none, _, _, ha => nomatch ha
  | _, _, _, .bool _, _, _, ha => nomatch ha
  | _, _, _, .int _ _, _, _, ha => nomatch ha
  | _, _, _, .str _ _, _, _, ha => nomatch ha
  | _, _, _, .list h1 h2 h3 h4, hl, a, ha => by
    rcases List.mem_cons.mp ha with rfl | ha
    · exact ⟨_, _, _, h1, h3⟩
    · exact readsAll_live h4 (by simpa [lst] using hl) a ha
  | _, _, _, .tuple .., hl, _, _ => by simp [lst] at hl
  | _, _, _, .dict .., hl, _, _ => by simp [lst] at hl
theorem readsAll_live {h : Heap} : ∀ {vs : List Value} {ds : List PyData} {as : List Addr}, ReadsAll h vs ds as → lstAll ds = true → ∀ a ∈ as, ∃ o xs n, h.get? a = some o ∧ o.data = .seq xs n
  | _, _, _, .nil, _, _, ha => nomatch ha
  | _, _, _, .cons r rs, hl, a, ha => by
    simp only [lstAll, Bool.and_eq_true] at hl
    rcases List.mem_append.mp ha with ha | ha
    · exact reads_live r hl.1 a ha
    · exact readsAll_live rs hl.2 a ha
end

/-- v denotes d -/
def Den (h : Heap) (v : Value) (d : PyData) : Prop := ∃ as, Reads h v d as
/-- v denotes d in h', and all its lists are new since h -/
def New (h h' : Heap) (v : Value) (d : PyData) : Prop := ∃ as, Reads h' v d as ∧ ∀ a ∈ as, h.get? a = none

theorem New.den {h h' : Heap} {v : Value} {d : PyData} (x : New h h' v d) : Den h' v d := let ⟨as, r, _⟩ := x; ⟨as, r⟩
theorem Den.keeps {h h' : Heap} {v : Value} {d : PyData} (x : Den h v d) (hk : ∀ b o, h.get? b = some o → h'.get? b = some o) : Den h' v d := let ⟨as, r⟩ := x; ⟨as, PyProof.Rows.Reads.keeps hk r⟩
theorem New.keeps {h h' h'' : Heap} {v : Value} {d : PyData} (x : New h h' v d) (hk : ∀ b o, h'.get? b = some o → h''.get? b = some o) : New h h'' v d := let ⟨as, r, n⟩ := x; ⟨as, PyProof.Rows.Reads.keeps hk r, n⟩
theorem New.base {h₀ h h' : Heap} {v : Value} {d : PyData} (x : New h h' v d) (hk : ∀ b o, h₀.get? b = some o → h.get? b = some o) : New h₀ h' v d := by
  obtain ⟨as, r, n⟩ := x
  refine ⟨as, r, fun a ha => ?_⟩
  cases e : h₀.get? a with
  | none => rfl
  | some o => have := hk a o e; rw [n a ha] at this; cases this
theorem New.str {h h' : Heap} (x : Str) (t : Tok) : New h h' (.str x t) (.str x) := ⟨[], .str x t, fun _ ha => nomatch ha⟩
theorem New.int {h h' : Heap} (i : Int) (t : Tok) : New h h' (.int i t) (.int i) := ⟨[], .int i t, fun _ ha => nomatch ha⟩
/-- a frame's store does not touch the lists -/
theorem Den.sameBut {h h' : Heap} {L : Addr} {m : Str → Option Value} {v : Value} {d : PyData} (x : Den h v d) (hl : lst d = true) (hn : h.Ns L m) (hs : Heap.SameBut L h h') : Den h' v d := by
  obtain ⟨as, r⟩ := x
  refine ⟨as, reads_at r hl fun a ha o e => (hs.2 a fun q => ?_).trans e⟩
  obtain ⟨o', xs, n, e', ed⟩ := reads_live r hl a ha
  obtain ⟨o2, es, ep, e2, ed2, _⟩ := hn
  rw [q, e2] at e'
  obtain rfl := Option.some.inj e'
  rw [ed2] at ed; cases ed
theorem New.sameBut {h h' h₀ : Heap} {L : Addr} {m : Str → Option Value} {v : Value} {d : PyData} (x : New h₀ h v d) (hl : lst d = true) (hn : h.Ns L m) (hs : Heap.SameBut L h h') : New h₀ h' v d := by
  obtain ⟨as, r, nn⟩ := x
  refine ⟨as, reads_at r hl fun a ha o e => (hs.2 a fun q => ?_).trans e, nn⟩
  obtain ⟨o', xs, n, e', ed⟩ := reads_live r hl a ha
  obtain ⟨o2, es, ep, e2, ed2, _⟩ := hn
  rw [q, e2] at e'
  obtain rfl := Option.some.inj e'
  rw [ed2] at ed; cases ed

theorem readsAll_paired {h : Heap} : ∀ {vs : List Value} {ds : List PyData} {as : List Addr}, ReadsAll h vs ds as → Paired (Den h) vs ds
  | _, _, _, .nil => .nil
  | _, _, _, .cons r rs => .cons ⟨_, r⟩ (readsAll_paired rs)
theorem paired_readsAll {h : Heap} : ∀ {vs : List Value} {ds : List PyData}, Paired (Den h) vs ds → ∃ as, ReadsAll h vs ds as
  | _, _, .nil => ⟨_, .nil⟩
  | _, _, .cons ⟨_, r⟩ rs => let ⟨_, q⟩ := paired_readsAll rs; ⟨_, .cons r q⟩
theorem paired_new {h h' : Heap} : ∀ {vs : List Value} {ds : List PyData}, Paired (New h h') vs ds → ∃ as, ReadsAll h' vs ds as ∧ ∀ a ∈ as, h.get? a = none
  | _, _, .nil => ⟨_, .nil, fun _ ha => nomatch ha⟩
  | _, _, .cons ⟨_, r, n⟩ rs => let ⟨_, q, n'⟩ := paired_new rs; ⟨_, .cons r q, fun a ha => (List.mem_append.mp ha).elim (n a) (n' a)⟩

theorem Den.list {h : Heap} {a : Addr} {vs : List Value} {ds : List PyData} (hl : h.IsList a vs.toArray) (hp : Paired (Den h) vs ds) : Den h (.ref a) (.list ds) := by
  obtain ⟨as, r⟩ := paired_readsAll hp
  obtain ⟨o, ho, hc, n, hd⟩ := hl
  exact ⟨_, .list ho hc hd (by simpa using r)⟩
theorem New.list {h h' : Heap} {a : Addr} {vs : List Value} {ds : List PyData} (hl : h'.IsList a vs.toArray) (hn : h.get? a = none) (hp : Paired (New h h') vs ds) : New h h' (.ref a) (.list ds) := by
  obtain ⟨as, r, q⟩ := paired_new hp
  obtain ⟨o, ho, hc, n, hd⟩ := hl
  refine ⟨_, .list ho hc hd (by simpa using r), fun b hb => ?_⟩
  rcases List.mem_cons.mp hb with rfl | hb
  · exact hn
  · exact q b hb
theorem Den.list_inv {h : Heap} {v : Value} {ds : List PyData} (x : Den h v (.list ds)) : ∃ a vs, v = .ref a ∧ h.IsList a vs.toArray ∧ Paired (Den h) vs ds := by
  obtain ⟨as, r⟩ := x
  cases r with
  | list h1 h2 h3 h4 => exact ⟨_, _, rfl, ⟨_, h1, h2, _, by rw [h3]⟩, readsAll_paired h4⟩
theorem Den.str_inv {h : Heap} {v : Value} {x : Str} (y : Den h v (.str x)) : ∃ t, v = .str x t := by
  obtain ⟨as, r⟩ := y
  cases r with
  | str x t => exact ⟨t, rfl⟩
theorem Den.str {h : Heap} (x : Str) (t : Tok) : Den h (.str x t) (.str x) := ⟨_, .str x t⟩
theorem paired_mono {α β : Type} {F F' : α → β → Prop} (hm : ∀ a b, F a b → F' a b) {l₁ : List α} {l₂ : List β} (p : Paired F l₁ l₂) : Paired F' l₁ l₂ := p.mono hm
end Mine

/-! part M8 -/
namespace Mine
open PySem.Calls

theorem New.base' {h₀ h h' : Heap} {v : Value} {d : PyData} (x : New h h' v d) (hk : ∀ b, h.get? b = none → h₀.get? b = none) : New h₀ h' v d :=
  let ⟨as, r, n⟩ := x; ⟨as, r, fun a ha => hk a (n a ha)⟩
theorem New.move {h₀ h h' : Heap} {v : Value} {d : PyData} (x : New h₀ h v d) (hl : lst d = true) (hk : ∀ b o, h₀.get? b = none → h.get? b = some o → h'.get? b = some o) : New h₀ h' v d :=
  let ⟨as, r, n⟩ := x; ⟨as, reads_at r hl fun a ha o e => hk a o (n a ha) e, n⟩
theorem gone {h h' : Heap} (hk : ∀ b o, h.get? b = some o → ∃ o', h'.get? b = some o') (b : Addr) (e : h'.get? b = none) : h.get? b = none := by
  cases q : h.get? b with
  | none => rfl
  | some o => obtain ⟨o', e'⟩ := hk b o q; rw [e] at e'; cases e'

theorem range_succ_filter (p : Nat → Bool) (i : Nat) : (List.range (i + 1)).filter p = (List.range i).filter p ++ (if p i then [i] else []) := by
  rw [List.range_succ, List.filter_append]
  cases hp : p i <;> simp [hp]

theorem lstAll_map {α : Type} {f : α → PyData} (hf : ∀ i, lst (f i) = true) : ∀ l : List α, lstAll (l.map f) = true
  | [] => rfl
  | a :: l => by simp [lstAll, hf a, lstAll_map hf l]
theorem lstL {α : Type} {f : α → PyData} (hf : ∀ i, lst (f i) = true) {l : List α} : lst (.list (l.map f)) = true := by simp [lst, lstAll_map hf l]

/-- what a comprehension's turn does: its tests and its element, at the i-th item v -/
structure Turns (prog : Program) (w : World) (A : Around) (env : Env) (scope : Scope) (cl : List (Str × Addr)) (x : Str) (ifs : List Expr) (elt : Expr) (wr : List Addr) (P : Nat → Value → Prop) (p : Nat → Bool)
    (f : Nat → PyData) (s₂ : Shared) : Prop where
  tests : ∀ C i v s₃ m₃ E', s₂.heap.get? C = none → P i v → s₃.heap.Ns C m₃ → m₃ x = some v → (∀ b o, b ∉ wr → s₂.heap.get? b = some o → s₃.heap.get? b = some o) →
    wpAny (model prog w) A (forIn ifs true fun c r => if r = true then do let ok ← isTrue c (compEnvC scope cl C env) (eval c (compEnvC scope cl C env)); pure (ForInStep.yield ok) else pure (ForInStep.yield r))
      (fun ok s₄ => ok = p i ∧ Keeps s₃ s₄) E' s₃
  elt : ∀ C i v s₃ m₃ E', s₂.heap.get? C = none → P i v → p i = true → s₃.heap.Ns C m₃ → m₃ x = some v → (∀ b o, b ∉ wr → s₂.heap.get? b = some o → s₃.heap.get? b = some o) →
    wpAny (model prog w) A (eval elt (compEnvC scope cl C env)) (fun y s₄ => New s₃.heap s₄.heap y (f i) ∧ Keeps s₃ s₄) E' s₃

section
variable {prog : Program} {w : World} {A : Around} {E : Value → Shared → Prop} {R : Result → Shared → Prop} {s : Shared}

theorem comp_loop {elt iter : Expr} {x : Str} {px : Pos} {ifs : List Expr} {scope : Scope} {pos : Pos} {I D : Addr} {fp wr : List Addr} {n : Nat} {P : Nat → Value → Prop} {St : Nat → Heap → Prop}
    {cenv : Env} {m : Str → Option Value} (W : Walks prog w A I fp wr n P St) (hlive : ∀ i h, St i h → ∀ b ∈ wr, ∃ o, h.get? b = some o) (p : Nat → Bool) (f : Nat → PyData) (hf : ∀ i, lst (f i) = true)
    (hx : cenv.kindOf x = some .local) (hp : (cenv.scope.kind == .class || (cenv.scope.kind == .module && cenv.locals != cenv.globals)) = false)
    (hDC : D ≠ cenv.locals) (hDf : D ∉ fp) (hCf : cenv.locals ∉ fp)
    (hst : St 0 s.heap) (hacc : s.heap.IsList D #[]) (hn : s.heap.Ns cenv.locals m)
    (htests : ∀ i v s₂ m₂, P i v → s₂.heap.Ns cenv.locals m₂ → m₂ x = some v → (∀ b o, b ≠ cenv.locals → b ∉ wr → b ≠ D → s.heap.get? b = some o → s₂.heap.get? b = some o) →
      wpAny (model prog w) A (forIn ifs true fun c r => if r = true then do let ok ← isTrue c cenv (eval c cenv); pure (ForInStep.yield ok) else pure (ForInStep.yield r))
        (fun ok s₃ => ok = p i ∧ Keeps s₂ s₃) (notedBy (model prog w) A cenv fun e s' => R (.error e) s') s₂)
    (helt : ∀ i v s₂ m₂, P i v → p i = true → s₂.heap.Ns cenv.locals m₂ → m₂ x = some v → (∀ b o, b ≠ cenv.locals → b ∉ wr → b ≠ D → s.heap.get? b = some o → s₂.heap.get? b = some o) →
      wpAny (model prog w) A (eval elt cenv) (fun y s₃ => New s₂.heap s₃.heap y (f i) ∧ Keeps s₂ s₃) (notedBy (model prog w) A cenv fun e s' => R (.error e) s') s₂)
    (hR : ∀ h' tk m' (ys : List Value), h'.Ns cenv.locals m' → h'.IsList D ys.toArray → Paired (fun y i => New s.heap h' y (f i)) ys ((List.range n).filter p) →
      (∀ b o, b ≠ cenv.locals → b ∉ wr → b ≠ D → s.heap.get? b = some o → h'.get? b = some o) → R (.ok .next) { s with heap := h', toks := tk })
    (hsz : n ≤ sizeLine) :
    codeAny (model prog w) A (.compLoop (.ListComp elt [⟨.Name x px, iter, ifs, 0⟩] scope pos) 0 (.ref I) (.ref D) cenv) R s := by
  have hCw : cenv.locals ∉ wr := fun h => hCf (W.sub _ h)
  have hDw : D ∉ wr := fun h => hDf (W.sub _ h)
  have sC : ∃ o, s.heap.get? cenv.locals = some o := let ⟨o, _, _, h, _⟩ := hn; ⟨o, h⟩
  have sD : ∃ o, s.heap.get? D = some o := let ⟨o, h, _⟩ := hacc; ⟨o, h⟩
  have sW := hlive 0 _ hst
  -- new lists are none of the three
  have off : ∀ b, s.heap.get? b = none → b ≠ cenv.locals ∧ b ∉ wr ∧ b ≠ D := fun b e =>
    ⟨fun q => (by obtain ⟨o, h⟩ := sC; rw [q, h] at e; cases e), fun q => (by obtain ⟨o, h⟩ := sW b q; rw [h] at e; cases e), fun q => (by obtain ⟨o, h⟩ := sD; rw [q, h] at e; cases e)⟩
  refine codeAny_compLoop_tests
    (fun k s' => ∃ h' tk m' i, ∃ ys : List Value, s' = { s with heap := h', toks := tk } ∧ St i h' ∧ h'.IsList D ys.toArray ∧ h'.Ns cenv.locals m' ∧
      Paired (fun y i => New s.heap h' y (f i)) ys ((List.range i).filter p) ∧ i ≤ n ∧ k = n + 1 - i ∧ ys.length ≤ i ∧
      (∀ b o, b ≠ cenv.locals → b ∉ wr → b ≠ D → s.heap.get? b = some o → h'.get? b = some o)) ?_ (n + 1)
    ⟨s.heap, s.toks, m, 0, [], rfl, hst, hacc, hn, by simpa using Paired.nil, Nat.zero_le _, rfl, Nat.zero_le _, fun _ _ _ _ _ e => e⟩
  rintro k s' ⟨H, tk, m', i, ys, rfl, hst', hacc', hn', hF, hi, rfl, hlen, hk⟩
  by_cases hlt : i < n
  · refine W.item i _ _ _ hlt hst' fun v h₁ tk₁ hPv hst₁ hk₁ => ?_
    refine wpAny_assign_Name (wpAny_storeName_local hx (hn'.at' fun o e => hk₁ _ o hCw e) (fun h₂ hn₂ hs₂ => ?_) hp)
    have up₂ : ∀ b o, b ≠ cenv.locals → b ∉ wr → H.get? b = some o → h₂.get? b = some o := fun b o hbC hbf e => hs₂.extBut b o hbC (hk₁ b o hbf e)
    have hst₂ : St (i + 1) h₂ := W.frame _ _ _ hst₁ fun b hb o e => hs₂.extBut b o (fun h => hCf (h ▸ hb)) e
    refine wpAny_mono (htests i v _ _ hPv hn₂ (by simp) fun b o hbC hbf hbD e => up₂ b o hbC hbf (hk b o hbC hbf hbD e)) (fun ok s₃ h₃ => ?_) fun _ _ e => e
    obtain ⟨rfl, h₃, tk₃, rfl, hk₃⟩ := h₃
    have hst₃ : St (i + 1) h₃ := W.frame _ _ _ hst₂ fun b _ o e => hk₃ b o e
    have hacc₃ : h₃.IsList D ys.toArray := hacc'.at fun o e => hk₃ _ o (up₂ D o hDC hDw e)
    have hn₃ := hn₂.keeps hk₃
    have hF₃ : Paired (fun y i => New s.heap h₃ y (f i)) ys ((List.range i).filter p) := hF.mono fun y j q => q.move (hf j) fun b o e0 e => hk₃ b o (up₂ b o (off b e0).1 (off b e0).2.1 e)
    cases hpv : p i with
    | false =>
      simp only [Bool.false_eq_true, if_false]
      refine ⟨n + 1 - (i + 1), by omega, h₃, tk₃, _, i + 1, ys, rfl, hst₃, hacc₃, hn₃, ?_, hlt, rfl, by omega, fun b o hbC hbf hbD e => hk₃ b o (up₂ b o hbC hbf (hk b o hbC hbf hbD e))⟩
      rw [range_succ_filter, hpv]; simpa using hF₃
    | true =>
      simp only [if_true]
      refine wpAny_mono (helt i v _ _ hPv hpv hn₃ (by simp) fun b o hbC hbf hbD e => hk₃ b o (up₂ b o hbC hbf (hk b o hbC hbf hbD e))) (fun y s₄ h₄ => ?_) fun _ _ e => e
      obtain ⟨hFy, h₄, tk₄, rfl, hk₄⟩ := h₄
      refine wpAny_list_append (hsz := by rw [List.size_toArray]; omega) (hacc₃.at fun o e => hk₄ _ o e) fun h₅ hl₅ hs₅ => ?_
      have live₃ : ∀ b o, s.heap.get? b = some o → ∃ o', h₃.get? b = some o' := fun b o e => by
        by_cases b1 : b = cenv.locals
        · obtain ⟨o', _, _, h', _⟩ := hn₃; exact ⟨o', b1 ▸ h'⟩
        · by_cases b2 : b ∈ wr
          · exact hlive _ _ hst₃ b b2
          · by_cases b3 : b = D
            · obtain ⟨o', h', _⟩ := hacc₃; exact ⟨o', b3 ▸ h'⟩
            · exact ⟨o, hk₃ b o (up₂ b o b1 b2 (hk b o b1 b2 b3 e))⟩
      have mv : ∀ y j, New s.heap h₄ y (f j) → New s.heap h₅ y (f j) := fun y j q => q.move (hf j) fun b o e0 e => hs₅.extBut b o (off b e0).2.2 e
      refine ⟨n + 1 - (i + 1), by omega, h₅, tk₄, _, i + 1, ys ++ [y], rfl, W.frame _ _ h₅ hst₃ fun b hb o e => hs₅.extBut b o (fun h => hDf (h ▸ hb)) (hk₄ b o e), by simpa using hl₅, (hn₃.keeps hk₄).sameBut hs₅ (Ne.symm hDC), ?_, hlt, rfl, by simp; omega,
        fun b o hbC hbf hbD e => hs₅.extBut b o hbD (hk₄ b o (hk₃ b o (up₂ b o hbC hbf (hk b o hbC hbf hbD e))))⟩
      rw [range_succ_filter, hpv]
      exact Paired.snoc (hF₃.mono fun y j q => mv y j (q.keeps hk₄)) (mv y i (hFy.base' fun b e => gone live₃ b e))
  · have hin : i = n := by omega
    subst hin
    refine W.done _ _ _ hst' fun h₁ tk₁ hk₁ => ?_
    exact hR h₁ tk₁ m' ys (hn'.at' fun o e => hk₁ _ o hCw e) (hacc'.at fun o e => hk₁ _ o hDw e) (hF.mono fun y j q => q.move (hf j) fun b o e0 e => hk₁ b o (off b e0).2.1 e) fun b o hbC hbf hbD e => hk₁ b o hbf (hk b o hbC hbf hbD e)

theorem paired_map {α β γ : Type} {F : α → γ → Prop} (g : β → γ) : ∀ {l₁ : List α} {l₂ : List β}, Paired (fun a b => F a (g b)) l₁ l₂ → Paired F l₁ (l₂.map g)
  | _, _, .nil => .nil
  | _, _, .cons h t => .cons h (paired_map g t)

theorem comp_block {env : Env} {elt iter : Expr} {x : Str} {px : Pos} {ifs : List Expr} {scope : Scope} {cl : List (Str × Addr)} {pos : Pos} {s₂ : Shared} {I : Addr} {fp wr : List Addr} {n : Nat} {P : Nat → Value → Prop}
    {St : Nat → Heap → Prop} (W : Walks prog w A I fp wr n P St) (hlive : ∀ i h, St i h → ∀ b ∈ wr, ∃ o, h.get? b = some o) (hsz : n ≤ sizeLine) (p : Nat → Bool) (f : Nat → PyData) (hf : ∀ i, lst (f i) = true) {RR : Value → Addr → Result → Shared → Prop}
    (hcell : ∀ y ∈ scope.names, y.2 ≠ .cell) (hkind : scope.kind = .function) (hx : scope.names.lookup x = some .local) (hst : St 0 s₂.heap) (hfp : ∀ b ∈ fp, b < s₂.heap.objs.size)
    (hq : Turns prog w A env scope cl x ifs elt wr P p f s₂)
    (hRR : ∀ D C h' tk m', s₂.heap.get? D = none → s₂.heap.get? C = none → D ≠ C → h'.Ns C m' → New s₂.heap h' (.ref D) (.list (((List.range n).filter p).map f)) →
      (∀ b o, b ∉ wr → s₂.heap.get? b = some o → h'.get? b = some o) → RR (.ref D) C (.ok .next) { s₂ with heap := h', toks := tk }) :
    wpAny (model prog w) A (newList []) (fun acc s₃ => wpAny (model prog w) A (newFunctionEnv scope env.globals cl [] env.qual none .none (some env)) (fun cenv s₄ =>
      codeAny (model prog w) A (.compStart (.ListComp elt [⟨.Name x px, iter, ifs, 0⟩] scope pos) 0 (.ref I) acc { cenv with scope := relabel scope env }) (RR acc cenv.locals) s₄) E s₃) E s₂ := by
  refine wpAny_newObj_type (wpAny_newFunctionEnv hcell (by intro y hy; simp at hy) (fun h₁ hns₁ hsb₁ => ?_) hkind)
  dsimp only at hns₁ hsb₁ ⊢
  generalize hH2 : s₂.heap.push { cls := .type "list", dict := none, data := .seq ([] : List Value).toArray } = H2 at hns₁ hsb₁ ⊢
  have hC : H2.objs.size = s₂.heap.objs.size + 1 := by rw [← hH2, Heap.size_push]
  have hDC : s₂.heap.objs.size ≠ H2.objs.size := by omega
  have neC : ∀ b, b < s₂.heap.objs.size → b ≠ H2.objs.size := fun b hb => Nat.ne_of_lt (by rw [hC]; exact Nat.lt_succ_of_lt hb)
  have lt : ∀ b o, s₂.heap.get? b = some o → b < s₂.heap.objs.size := fun b o e => Heap.lt_size e
  have old : ∀ b o, s₂.heap.get? b = some o → h₁.get? b = some o := fun b o e => hsb₁.extBut b o (neC b (lt b o e)) (Heap.get?_push_of_some _ (hH2 ▸ Heap.get?_push_of_some _ e))
  have fresh : ∀ a, s₂.heap.objs.size ≤ a → s₂.heap.get? a = none := fun a ha => by
    cases e : s₂.heap.get? a with
    | none => rfl
    | some o' => exact absurd (lt a o' e) (Nat.not_lt.mpr ha)
  have hacc : h₁.IsList s₂.heap.objs.size #[] := ⟨_, hsb₁.extBut _ _ hDC (Heap.get?_push_of_some _ (hH2 ▸ Heap.get?_push_size _ rfl)), rfl, _, rfl⟩
  have hst₁ : St 0 h₁ := W.frame _ _ _ hst fun b _ o e => old b o e
  have nD := fresh s₂.heap.objs.size (Nat.le_refl _)
  have nC := fresh H2.objs.size (by omega)
  have back : ∀ {g : Heap}, (∀ b o, b ≠ H2.objs.size → b ∉ wr → b ≠ s₂.heap.objs.size → h₁.get? b = some o → g.get? b = some o) → ∀ b o, b ∉ wr → s₂.heap.get? b = some o → g.get? b = some o :=
    fun hk b o hbf e => hk b o (neC b (lt b o e)) hbf (Nat.ne_of_lt (lt b o e)) (old b o e)
  have loop : ∀ s₃ : Shared, s₃ = { s₂ with heap := h₁, toks := s₂.toks + ([] : List (Str × Value)).length } →
      codeAny (model prog w) A (.compLoop (.ListComp elt [⟨.Name x px, iter, ifs, 0⟩] scope pos) 0 (.ref I) (.ref s₂.heap.objs.size) (compEnvC scope cl H2.objs.size env))
        (RR (.ref s₂.heap.objs.size) H2.objs.size) s₃ := by
    rintro s₃ rfl
    refine comp_loop (hsz := hsz) (cenv := compEnvC scope cl H2.objs.size env) W hlive p f hf (lookup_relabel_local hx) (by simp [compEnvC, relabel, hkind]) hDC (fun hm => Nat.lt_irrefl _ (hfp _ hm)) (fun hm => neC _ (hfp _ hm) rfl) hst₁ hacc hns₁
      (fun i v s₃ m₃ hv hn hm hk => hq.tests _ i v s₃ m₃ _ nC hv hn hm (back hk))
      (fun i v s₃ m₃ hv hpv hn hm hk => hq.elt _ i v s₃ m₃ _ nC hv hpv hn hm (back hk)) fun h' tk m' ys hn ha hF hk => ?_
    refine hRR _ _ h' tk m' nD nC hDC hn (New.list ha nD (paired_map f (hF.mono fun y i q => q.base old))) (back hk)
  exact codeAny_compStart_list (loop _ rfl) (W.self 0 _ _ _ hst₁ (loop _ rfl))

/-- a comprehension as a value -/
theorem comp_value {env : Env} {elt iter : Expr} {x : Str} {px : Pos} {ifs : List Expr} {scope : Scope} {cl : List (Str × Addr)} {pos : Pos} {Q : Value → Shared → Prop}
    (hclos : closureFor scope env = pure cl) (hcell : ∀ y ∈ scope.names, y.2 ≠ .cell) (hkind : scope.kind = .function)
    (hnames : ∀ y ∈ scope.names, y.2 = .local → scope.names.lookup y.1 = some .local) (hx : scope.names.lookup x = some .local)
    (h : wpAny (model prog w) A (eval iter env) (fun xv s₁ => wpAny (model prog w) A (pyIter xv) (fun it s₂ => ∃ I fp wr n P St p f, it = .ref I ∧ Walks prog w A I fp wr n P St ∧ (∀ i h, St i h → ∀ b ∈ wr, ∃ o, h.get? b = some o) ∧ n ≤ sizeLine ∧ (∀ i, lst (f i) = true) ∧ St 0 s₂.heap ∧ (∀ b ∈ fp, b < s₂.heap.objs.size) ∧
      Turns prog w A env scope cl x ifs elt wr P p f s₂ ∧
      (∀ D h' tk, New s₂.heap h' (.ref D) (.list (((List.range n).filter p).map f)) → s₂.heap.get? D = none → (∀ b o, b ∉ wr → s₂.heap.get? b = some o → h'.get? b = some o) → Q (.ref D) { s₂ with heap := h', toks := tk })) E s₁) E s)
    (hs : ∀ x, foldedSetIterable iter env x = pure x := by intro _; rfl) :
    wpAny (model prog w) A (eval (.ListComp elt [⟨.Name x px, iter, ifs, 0⟩] scope pos) env) Q E s := by
  rw [eval_ListComp]
  refine wpAny_comprehension_free (use := none) rfl hs hclos hkind hnames (wpAny_mono h (fun xv s₁ h₁ => wpAny_mono h₁ (fun it s₂ h₂ => ?_) fun _ _ e => e) fun _ _ e => e)
  obtain ⟨I, fp, wr, n, P, St, p, f, rfl, W, hlive, hsz, hf, hst, hfp, hq, hQ⟩ := h₂
  refine comp_block (RR := fun acc C => compPost (model prog w) A E none Q acc C) W hlive hsz p f hf hcell hkind hx hst hfp hq ?_
  intro D C h' tk m' hD hC hDC hn hnew hk
  refine ⟨m', hn, fun h'' hs'' => hQ D h'' tk (hnew.sameBut (lstL hf) hn hs'') hD fun b o hbf e => hs''.extBut b o (by rintro rfl; rw [hC] at e; cases e) (hk b o hbf e)⟩

/-- a comprehension that is bound to a name at once -/
theorem comp_assign {env : Env} {elt iter : Expr} {x y : Str} {px py : Pos} {ifs : List Expr} {scope : Scope} {cl : List (Str × Addr)} {pos spos : Pos} {Q : Flow → Shared → Prop}
    (hsw : swapsWith (.ListComp elt [⟨.Name x px, iter, ifs, 0⟩] scope pos) (some (.Name y py)) spos.line env = pure true)
    (hclos : closureFor scope env = pure cl) (hcell : ∀ y ∈ scope.names, y.2 ≠ .cell) (hkind : scope.kind = .function)
    (hnames : ∀ y ∈ scope.names, y.2 = .local → scope.names.lookup y.1 = some .local) (hx : scope.names.lookup x = some .local)
    (hy : env.kindOf y = some .local) (hp : (env.scope.kind == .class || (env.scope.kind == .module && env.locals != env.globals)) = false)
    (h : wpAny (model prog w) A (eval iter env) (fun xv s₁ => wpAny (model prog w) A (pyIter xv) (fun it s₂ => ∃ I fp wr n P St p f m, it = .ref I ∧ Walks prog w A I fp wr n P St ∧ (∀ i h, St i h → ∀ b ∈ wr, ∃ o, h.get? b = some o) ∧ n ≤ sizeLine ∧ (∀ i, lst (f i) = true) ∧ St 0 s₂.heap ∧ (∀ b ∈ fp, b < s₂.heap.objs.size) ∧
      env.locals ∉ wr ∧ s₂.heap.Ns env.locals m ∧ Turns prog w A env scope cl x ifs elt wr P p f s₂ ∧
      (∀ D h' tk, New s₂.heap h' (.ref D) (.list (((List.range n).filter p).map f)) → s₂.heap.get? D = none → h'.Ns env.locals (fun z => if z = y then some (.ref D) else m z) →
        (∀ b o, b ≠ env.locals → b ∉ wr → s₂.heap.get? b = some o → h'.get? b = some o) → Q .next { s₂ with heap := h', toks := tk })) E s₁) E s)
    (hs : ∀ x, foldedSetIterable iter env x = pure x := by intro _; rfl) :
    wpAny (model prog w) A (exec (.Assign [.Name y py] (.ListComp elt [⟨.Name x px, iter, ifs, 0⟩] scope pos) spos) env) Q E s := by
  rw [exec_Assign_Name_used _ _ _ _ hsw]
  refine wpAny_bind (wpAny_standAt (wpAny_bind ?_))
  show wpAny _ A (do let _ ← comprehension (.ListComp elt [⟨.Name x px, iter, ifs, 0⟩] scope pos) scope env _ (newList []) false (eval iter env) (some (assign (.Name y py) env))) _ _ s
  refine wpAny_bind (wpAny_mono (wpAny_comprehension_free (use := some (assign (.Name y py) env)) (Q := fun _ s' => Q .next s') rfl hs hclos hkind hnames
    (wpAny_mono h (fun xv s₁ h₁ => wpAny_mono h₁ (fun it s₂ h₂ => ?_) fun _ _ e => e) fun _ _ e => e)) (fun _ s' hq => wpAny_pure (wpAny_pure hq)) fun _ _ e => e)
  obtain ⟨I, fp, wr, n, P, St, p, f, m, rfl, W, hlive, hsz, hf, hst, hfp, hLf, hn, hq, hQ⟩ := h₂
  refine comp_block (RR := fun acc C => compPost (model prog w) A E (some (assign (.Name y py) env)) (fun _ s' => Q .next s') acc C) W hlive hsz p f hf hcell hkind hx hst hfp hq ?_
  intro D C h' tk m' hD hC hDC hnC hnew hk
  have hLC : env.locals ≠ C := by rintro rfl; obtain ⟨o, _, _, ho, _⟩ := hn; rw [hC] at ho; cases ho
  show wpAny _ A (assign (.Name y py) env (.ref D)) _ _ _
  have hn' := hn.at' fun o e => hk _ o hLf e
  refine wpAny_assign_Name (wpAny_storeName_local hy hn' (fun h₂ hn₂ hs₂ => ?_) hp)
  refine ⟨m', hnC.sameBut hs₂ (Ne.symm hLC), fun h₃ hs₃ => ?_⟩
  exact hQ D h₃ _ ((hnew.sameBut (lstL hf) hn' hs₂).sameBut (lstL hf) (hnC.sameBut hs₂ (Ne.symm hLC)) hs₃) hD (hn₂.sameBut hs₃ hLC) fun b o hbL hbf e =>
    hs₃.extBut b o (by rintro rfl; rw [hC] at e; cases e) (hs₂.extBut b o hbL (hk b o hbf e))
end
end Mine

/-! part M9 -/
namespace Mine
open PySem.Calls

/-- the turns of a comprehension over a list of items vs -/
structure TurnsL (prog : Program) (w : World) (A : Around) (env : Env) (scope : Scope) (cl : List (Str × Addr)) (x : Str) (ifs : List Expr) (elt : Expr) (vs : List Value) (p : Nat → Bool)
    (f : Nat → PyData) (s₁ : Shared) : Prop where
  tests : ∀ C i v s₃ m₃ E', s₁.heap.get? C = none → vs[i]? = some v → s₃.heap.Ns C m₃ → m₃ x = some v → (∀ b o, s₁.heap.get? b = some o → s₃.heap.get? b = some o) →
    wpAny (model prog w) A (forIn ifs true fun c r => if r = true then do let ok ← isTrue c (compEnvC scope cl C env) (eval c (compEnvC scope cl C env)); pure (ForInStep.yield ok) else pure (ForInStep.yield r))
      (fun ok s₄ => ok = p i ∧ Keeps s₃ s₄) E' s₃
  elt : ∀ C i v s₃ m₃ E', s₁.heap.get? C = none → vs[i]? = some v → p i = true → s₃.heap.Ns C m₃ → m₃ x = some v → (∀ b o, s₁.heap.get? b = some o → s₃.heap.get? b = some o) →
    wpAny (model prog w) A (eval elt (compEnvC scope cl C env)) (fun y s₄ => New s₃.heap s₄.heap y (f i) ∧ Keeps s₃ s₄) E' s₃

section
variable {prog : Program} {w : World} {A : Around} {E : Value → Shared → Prop} {s : Shared}

theorem over_list {s₁ : Shared} {a : Addr} {vs : List Value} {env : Env} {scope : Scope} {cl : List (Str × Addr)} {x : Str} {ifs : List Expr} {elt : Expr} {p : Nat → Bool} {f : Nat → PyData}
    (hl : s₁.heap.IsList a vs.toArray) (T : TurnsL prog w A env scope cl x ifs elt vs p f s₁) {I : Addr} {ob : Obj} (hI : I = s₁.heap.objs.size) :
    Turns prog w A env scope cl x ifs elt [I] (fun i v => vs.toArray[i]? = some v) p f { s₁ with heap := s₁.heap.push ob } := by
  have up : ∀ {g : Heap}, (∀ b o, b ∉ [I] → (s₁.heap.push ob).get? b = some o → g.get? b = some o) → ∀ b o, s₁.heap.get? b = some o → g.get? b = some o := fun hk b o e =>
    hk b o (fun q => by
      have hb := Heap.lt_size e
      rw [List.mem_singleton.mp q, hI] at hb
      exact Nat.lt_irrefl _ hb) (Heap.get?_push_of_some _ e)
  have nC : ∀ {C : Addr}, (s₁.heap.push ob).get? C = none → s₁.heap.get? C = none := fun e => gone (fun b o q => ⟨o, Heap.get?_push_of_some _ q⟩) _ e
  exact ⟨fun C i v s₃ m₃ E' hC hv hn hm hk => T.tests C i v s₃ m₃ E' (nC hC) (by simpa using hv) hn hm (up hk), fun C i v s₃ m₃ E' hC hv hp hn hm hk => T.elt C i v s₃ m₃ E' (nC hC) (by simpa using hv) hp hn hm (up hk)⟩

theorem iter_live (I ax : Addr) (items : Array Value) : ∀ (i : Nat) (h : Heap), (h.IsListIter I ax i ∧ h.IsList ax items) → ∀ b ∈ [I], ∃ o, h.get? b = some o := fun i h x b hb => by
  obtain rfl := List.mem_singleton.mp hb
  obtain ⟨⟨o, ho, _⟩, _⟩ := x
  exact ⟨o, ho⟩

theorem compL_value {env : Env} {elt iter : Expr} {x : Str} {px : Pos} {ifs : List Expr} {scope : Scope} {cl : List (Str × Addr)} {pos : Pos} {Q : Value → Shared → Prop} (hh : A.handled = none)
    (hclos : closureFor scope env = pure cl) (hcell : ∀ y ∈ scope.names, y.2 ≠ .cell) (hkind : scope.kind = .function)
    (hnames : ∀ y ∈ scope.names, y.2 = .local → scope.names.lookup y.1 = some .local) (hx : scope.names.lookup x = some .local)
    (h : wpAny (model prog w) A (eval iter env) (fun xv s₁ => ∃ a vs p f, xv = .ref a ∧ s₁.heap.IsList a vs.toArray ∧ vs.length ≤ sizeLine ∧ (∀ i, lst (f i) = true) ∧ TurnsL prog w A env scope cl x ifs elt vs p f s₁ ∧
      (∀ D s', New s₁.heap s'.heap (.ref D) (.list (((List.range vs.length).filter p).map f)) → s₁.heap.get? D = none → Keeps s₁ s' → Q (.ref D) s')) E s)
    (hs : ∀ x, foldedSetIterable iter env x = pure x := by intro _; rfl) :
    wpAny (model prog w) A (eval (.ListComp elt [⟨.Name x px, iter, ifs, 0⟩] scope pos) env) Q E s := by
  refine comp_value hclos hcell hkind hnames hx (wpAny_mono h (fun xv s₁ h₁ => ?_) fun _ _ e => e) hs
  obtain ⟨a, vs, p, f, rfl, hl, hsz, hf, T, hQ⟩ := h₁
  have ha : a < s₁.heap.objs.size := let ⟨_, ho, _⟩ := hl; Heap.lt_size ho
  refine wpAny_pyIter_list hl ?_
  have kp : ∀ b o, s₁.heap.get? b = some o → (s₁.heap.push { cls := .type "list_iterator", data := .fields #[.ref a, .int 0 0] }).get? b = some o := fun b o e => Heap.get?_push_of_some _ e
  refine ⟨_, _, _, _, _, _, p, f, rfl, Walks.list hh s₁.heap.objs.size a (Nat.ne_of_lt ha) vs.toArray, iter_live _ _ _, by simpa using hsz, hf, ⟨⟨_, Heap.get?_push_size _ rfl, rfl, rfl⟩, hl.at fun o e => kp _ o e⟩, fun b hb => ?_, over_list hl T rfl, fun D h' tk hn hD hk => ?_⟩
  · show b < (s₁.heap.push _).objs.size
    rw [Heap.size_push]
    rcases List.mem_cons.mp hb with rfl | hb
    · exact Nat.lt_succ_self _
    · rw [List.mem_singleton.mp hb]; exact Nat.lt_succ_of_lt ha
  · have e : vs.toArray.size = vs.length := by simp
    rw [e] at hn
    refine hQ D _ (hn.base kp) (gone (fun b o q => ⟨o, kp b o q⟩) _ hD) ⟨h', tk, rfl, fun b o e => hk b o (fun q => ?_) (kp b o e)⟩
    have hb := Heap.lt_size e
    rw [List.mem_singleton.mp q] at hb
    exact Nat.lt_irrefl _ hb

theorem compL_assign {env : Env} {elt iter : Expr} {x y : Str} {px py : Pos} {ifs : List Expr} {scope : Scope} {cl : List (Str × Addr)} {pos spos : Pos} {Q : Flow → Shared → Prop} (hh : A.handled = none)
    (hsw : swapsWith (.ListComp elt [⟨.Name x px, iter, ifs, 0⟩] scope pos) (some (.Name y py)) spos.line env = pure true)
    (hclos : closureFor scope env = pure cl) (hcell : ∀ y ∈ scope.names, y.2 ≠ .cell) (hkind : scope.kind = .function)
    (hnames : ∀ y ∈ scope.names, y.2 = .local → scope.names.lookup y.1 = some .local) (hx : scope.names.lookup x = some .local)
    (hy : env.kindOf y = some .local) (hp : (env.scope.kind == .class || (env.scope.kind == .module && env.locals != env.globals)) = false)
    (h : wpAny (model prog w) A (eval iter env) (fun xv s₁ => ∃ a vs p f m, xv = .ref a ∧ s₁.heap.IsList a vs.toArray ∧ vs.length ≤ sizeLine ∧ (∀ i, lst (f i) = true) ∧ s₁.heap.Ns env.locals m ∧ TurnsL prog w A env scope cl x ifs elt vs p f s₁ ∧
      (∀ D h' tk, New s₁.heap h' (.ref D) (.list (((List.range vs.length).filter p).map f)) → s₁.heap.get? D = none → h'.Ns env.locals (fun z => if z = y then some (.ref D) else m z) → (∀ b o, b ≠ env.locals → s₁.heap.get? b = some o → h'.get? b = some o) → Q .next { s₁ with heap := h', toks := tk })) E s)
    (hs : ∀ x, foldedSetIterable iter env x = pure x := by intro _; rfl) :
    wpAny (model prog w) A (exec (.Assign [.Name y py] (.ListComp elt [⟨.Name x px, iter, ifs, 0⟩] scope pos) spos) env) Q E s := by
  refine comp_assign hsw hclos hcell hkind hnames hx hy hp (wpAny_mono h (fun xv s₁ h₁ => ?_) fun _ _ e => e) hs
  obtain ⟨a, vs, p, f, m, rfl, hl, hsz, hf, hn, T, hQ⟩ := h₁
  have ha : a < s₁.heap.objs.size := let ⟨_, ho, _⟩ := hl; Heap.lt_size ho
  refine wpAny_pyIter_list hl ?_
  have kp : ∀ b o, s₁.heap.get? b = some o → (s₁.heap.push { cls := .type "list_iterator", data := .fields #[.ref a, .int 0 0] }).get? b = some o := fun b o e => Heap.get?_push_of_some _ e
  refine ⟨_, _, _, _, _, _, p, f, m, rfl, Walks.list hh s₁.heap.objs.size a (Nat.ne_of_lt ha) vs.toArray, iter_live _ _ _, by simpa using hsz, hf, ⟨⟨_, Heap.get?_push_size _ rfl, rfl, rfl⟩, hl.at fun o e => kp _ o e⟩, fun b hb => ?_, fun q => ?_, hn.keeps kp, over_list hl T rfl, fun D h' tk hnw hD hn' hk => ?_⟩
  · show b < (s₁.heap.push _).objs.size
    rw [Heap.size_push]
    rcases List.mem_cons.mp hb with rfl | hb
    · exact Nat.lt_succ_self _
    · rw [List.mem_singleton.mp hb]; exact Nat.lt_succ_of_lt ha
  · have hb := hn.lt
    rw [List.mem_singleton.mp q] at hb
    exact Nat.lt_irrefl _ hb
  · have e : vs.toArray.size = vs.length := by simp
    rw [e] at hnw
    refine hQ D _ _ (hnw.base kp) (gone (fun b o q => ⟨o, kp b o q⟩) _ hD) hn' fun b o hb e => hk b o hb (fun q => ?_) (kp b o e)
    have hb := Heap.lt_size e
    rw [List.mem_singleton.mp q] at hb
    exact Nat.lt_irrefl _ hb
end
end Mine

/-! part M10 -/
namespace Mine

/-! plain lists: the rows of a text, quoting, parting, laying together -/

def addHead (c : Nat) : List (List Nat) → List (List Nat)
  | [] => [[c]]
  | r :: rs => (c :: r) :: rs
/-- the rows of a text -/
def rowsL : List Nat → List (List Nat)
  | [] => [[]]
  | [c] => if Nl c then [[], []] else [[c]]
  | 13 :: 10 :: r => [] :: rowsL r
  | c :: d :: r => if Nl c then [] :: rowsL (d :: r) else addHead c (rowsL (d :: r))
/-- every line end made both -/
def fixL : List Nat → List Nat
  | [] => []
  | [c] => if Nl c then [13, 10] else [c]
  | 13 :: 10 :: r => 13 :: 10 :: fixL r
  | c :: d :: r => if Nl c then 13 :: 10 :: fixL (d :: r) else c :: fixL (d :: r)
/-- a dot more where a row begins with one -/
def qGo : Bool → List Nat → List Nat
  | _, [] => []
  | b, c :: r => if (b && c == 46) = true then 46 :: 46 :: qGo false r else c :: qGo (c == 10) r
def q (r : List Nat) : List Nat := if r.head? = some 46 then 46 :: r else r
def joinL (sep : List Nat) : List (List Nat) → List Nat
  | [] => []
  | [x] => x
  | x :: y :: r => x ++ sep ++ joinL sep (y :: r)
def splitL (y : List Nat) : Nat → List Nat → List (List Nat)
  | 0, x => [x]
  | _ + 1, [] => [[]]
  | k + 1, c :: r => if y.isPrefixOf (c :: r) then [] :: splitL y k ((c :: r).drop y.length) else addHead c (splitL y k r)

def Free (r : List Nat) : Prop := 10 ∉ r ∧ 13 ∉ r

theorem rowsL_ne : ∀ x, ∃ r rs, rowsL x = r :: rs := by
  intro x
  fun_induction rowsL x with
  | case1 => exact ⟨_, _, rfl⟩
  | case2 => exact ⟨_, _, rfl⟩
  | case3 => exact ⟨_, _, rfl⟩
  | case4 => exact ⟨_, _, rfl⟩
  | case5 => exact ⟨_, _, rfl⟩
  | case6 c d r h1 h2 ih => obtain ⟨r', rs, e⟩ := ih; rw [e]; exact ⟨_, _, rfl⟩

theorem Nl_false {c : Nat} (h : ¬ Nl c = true) : c ≠ 10 ∧ c ≠ 13 := by
  unfold Nl at h; simp only [Bool.or_eq_true, beq_iff_eq, not_or] at h; exact h

theorem rowsL_free : ∀ x, ∀ r ∈ rowsL x, Free r := by
  intro x
  fun_induction rowsL x with
  | case1 => intro r hr; simp at hr; subst hr; exact ⟨by simp, by simp⟩
  | case2 c h => intro r hr; simp at hr; subst hr; exact ⟨by simp, by simp⟩
  | case3 c h =>
    intro r hr; simp at hr; subst hr
    have := Nl_false h
    exact ⟨by simp; omega, by simp; omega⟩
  | case4 r ih =>
    intro r' hr
    rcases List.mem_cons.mp hr with rfl | hr
    · exact ⟨by simp, by simp⟩
    · exact ih r' hr
  | case5 c d r h1 h2 ih =>
    intro r' hr
    rcases List.mem_cons.mp hr with rfl | hr
    · exact ⟨by simp, by simp⟩
    · exact ih r' hr
  | case6 c d r h1 h2 ih =>
    intro r' hr
    obtain ⟨a, as, e⟩ := rowsL_ne (d :: r)
    rw [e] at hr ih
    have hc := Nl_false h2
    rcases List.mem_cons.mp hr with rfl | hr
    · have ha := ih a (.head _)
      exact ⟨by simp; exact ⟨by omega, ha.1⟩, by simp; exact ⟨by omega, ha.2⟩⟩
    · exact ih r' (.tail _ hr)

theorem joinL_nil (sep : List Nat) {rs : List (List Nat)} (h : rs ≠ []) : joinL sep ([] :: rs) = sep ++ joinL sep rs := by
  cases rs with
  | nil => exact absurd rfl h
  | cons a as => rfl
theorem joinL_addHead (sep : List Nat) (c : Nat) {rs : List (List Nat)} (h : rs ≠ []) : joinL sep (addHead c rs) = c :: joinL sep rs := by
  cases rs with
  | nil => exact absurd rfl h
  | cons a as => cases as <;> rfl
theorem rowsL_ne' (x : List Nat) : rowsL x ≠ [] := by obtain ⟨r, rs, e⟩ := rowsL_ne x; rw [e]; simp

theorem fixL_eq : ∀ x, fixL x = joinL [13, 10] (rowsL x) := by
  intro x
  fun_induction fixL x with
  | case1 => rfl
  | case2 c h => rw [rowsL, if_pos h]; rfl
  | case3 c h => rw [rowsL, if_neg h]; rfl
  | case4 r ih => rw [rowsL, joinL_nil _ (rowsL_ne' _), ih]; rfl
  | case5 c d r h1 h2 ih => rw [rowsL.eq_def]; split <;> simp_all [joinL_nil _ (rowsL_ne' _)]
  | case6 c d r h1 h2 ih => rw [rowsL.eq_def]; split <;> simp_all [joinL_addHead _ _ (rowsL_ne' _)]

theorem Nl_of {c : Nat} (h1 : c ≠ 10) (h2 : c ≠ 13) : Nl c = false := by
  unfold Nl; simp [h1, h2]
theorem Free.tail {c : Nat} {r : List Nat} (h : Free (c :: r)) : Free r := ⟨fun q => h.1 (.tail _ q), fun q => h.2 (.tail _ q)⟩
theorem Free.head {c : Nat} {r : List Nat} (h : Free (c :: r)) : Nl c = false := Nl_of (fun e => h.1 (e ▸ .head _)) (fun e => h.2 (e ▸ .head _))

theorem rowsL_cons {c : Nat} (h : Nl c = false) : ∀ x, rowsL (c :: x) = addHead c (rowsL x) := by
  intro x
  have hc : c ≠ 13 := by intro e; subst e; simp [Nl] at h
  cases x with
  | nil => simp [rowsL, h, addHead]
  | cons d r => rw [rowsL.eq_def]; split <;> simp_all
theorem rowsL_nl : ∀ x, rowsL (10 :: x) = [] :: rowsL x := by
  intro x
  cases x with
  | nil => rfl
  | cons d r => rw [rowsL.eq_def]; split <;> simp_all [Nl]
theorem rowsL_free_one : ∀ {r : List Nat}, Free r → rowsL r = [r]
  | [], _ => rfl
  | c :: r, h => by rw [rowsL_cons h.head, rowsL_free_one h.tail]; rfl
theorem rowsL_row : ∀ {r : List Nat}, Free r → ∀ x, rowsL (r ++ 10 :: x) = r :: rowsL x
  | [], _, x => rowsL_nl x
  | c :: r, h, x => by
    show rowsL (c :: (r ++ 10 :: x)) = _
    rw [rowsL_cons h.head, rowsL_row h.tail]; rfl
theorem rowsL_join : ∀ {rs : List (List Nat)}, rs ≠ [] → (∀ r ∈ rs, Free r) → rowsL (joinL [10] rs) = rs
  | [], h, _ => absurd rfl h
  | [r], _, hf => rowsL_free_one (hf r (.head _))
  | r :: y :: rs, _, hf => by
    show rowsL (r ++ [10] ++ joinL [10] (y :: rs)) = _
    rw [List.append_assoc]
    show rowsL (r ++ 10 :: joinL [10] (y :: rs)) = _
    rw [rowsL_row (hf r (.head _)), rowsL_join (by simp) fun a ha => hf a (.tail _ ha)]
/-- laid together with line feeds, every end made both -/
theorem fixL_join {rs : List (List Nat)} (h : rs ≠ []) (hf : ∀ r ∈ rs, Free r) : fixL (joinL [10] rs) = joinL [13, 10] rs := by
  rw [fixL_eq, rowsL_join h hf]

/-! quoting -/
theorem qGo_false : ∀ {r : List Nat}, Free r → ∀ x, qGo false (r ++ x) = r ++ qGo false x
  | [], _, _ => rfl
  | c :: r, h, x => by
    have hc : (c == 10) = false := beq_eq_false_iff_ne.mpr fun e => h.1 (e ▸ .head _)
    show qGo false (c :: (r ++ x)) = _
    rw [qGo]
    simp only [Bool.false_and, Bool.false_eq_true, if_false, hc]
    rw [qGo_false h.tail]; rfl
theorem qGo_true {r : List Nat} (h : Free r) (x : List Nat) (hx : x = [] ∨ ∃ y, x = 13 :: y) : qGo true (r ++ x) = q r ++ qGo false x := by
  cases r with
  | nil =>
    rcases hx with rfl | ⟨y, rfl⟩
    · rfl
    · rfl
  | cons c r =>
    have hc : (c == 10) = false := beq_eq_false_iff_ne.mpr fun e => h.1 (e ▸ .head _)
    show qGo true (c :: (r ++ x)) = _
    rw [qGo]
    unfold q
    by_cases h46 : c = 46
    · subst h46
      simp only [beq_self_eq_true, Bool.true_and, if_true, List.head?_cons]
      rw [qGo_false h.tail]; rfl
    · have hb : (c == 46) = false := beq_eq_false_iff_ne.mpr h46
      have hn : ¬ (c :: r).head? = some 46 := by simp [h46]
      rw [if_neg hn]
      simp only [hb, Bool.and_false, Bool.false_eq_true, if_false, hc]
      rw [qGo_false h.tail]; rfl
theorem qGo_join : ∀ {rs : List (List Nat)}, (∀ r ∈ rs, Free r) → qGo true (joinL [13, 10] rs) = joinL [13, 10] (rs.map q)
  | [], _ => rfl
  | [r], hf => by
    have := qGo_true (hf r (.head _)) [] (.inl rfl)
    rw [List.append_nil] at this
    show qGo true r = q r
    rw [this]; simp [qGo]
  | r :: y :: rs, hf => by
    show qGo true (r ++ [13, 10] ++ joinL [13, 10] (y :: rs)) = _
    rw [List.append_assoc, qGo_true (hf r (.head _)) ([13, 10] ++ joinL [13, 10] (y :: rs)) (.inr ⟨_, rfl⟩)]
    show q r ++ (13 :: 10 :: qGo true (joinL [13, 10] (y :: rs))) = _
    rw [qGo_join fun a ha => hf a (.tail _ ha)]
    simp [joinL]
theorem q_free {r : List Nat} (h : Free r) : Free (q r) := by
  unfold q
  split
  · exact ⟨by simp; exact h.1, by simp; exact h.2⟩
  · exact h
theorem q_inj {a b : List Nat} (h : q a = q b) : a = b := by
  unfold q at h
  by_cases ha : a.head? = some 46 <;> by_cases hb : b.head? = some 46
  · rw [if_pos ha, if_pos hb] at h; exact (List.cons.inj h).2
  · rw [if_pos ha, if_neg hb] at h; subst h; simp at hb
  · rw [if_neg ha, if_pos hb] at h; subst h; simp at ha
  · rwa [if_neg ha, if_neg hb] at h

/-! the two patterns' substitutions -/
theorem Subst.skip {p : Pat} {T : Array Nat} {r : List Nat} {st : Nat} {out : List Nat} (h : st < T.size) (hn : p.hit T st = false) (S : Subst p T r (st + 1) out) : Subst p T r st (T.getD st 0 :: out) := by
  have hd : T.toList.drop st = T.getD st 0 :: T.toList.drop (st + 1) := by
    rw [List.drop_eq_getElem_cons (by simpa using h)]
    simp [Array.getD, h]
  have low : ∀ {j : Nat}, (∀ l, st + 1 ≤ l → l < j → p.hit T l = false) → ∀ l, st ≤ l → l < j → p.hit T l = false := fun h' l a b => by
    rcases Nat.eq_or_lt_of_le a with rfl | a
    · exact hn
    · exact h' l a b
  cases S with
  | stop h1 h2 =>
    rw [← hd]
    exact .stop (Nat.le_of_lt h) fun l a b => low (j := T.size) (fun l a b => h2 l a b) l a b
  | go h1 h2 h3 h4 S' =>
    rename_i j out
    have := Subst.go (st := st) (r := r) (by omega) h2 h3 (low h4) S'
    rw [hd, show j - st = (j - (st + 1)) + 1 by omega, List.take_succ_cons] at this
    exact this

theorem drop_at (T : Array Nat) {st : Nat} (h : st < T.size) : T.toList.drop st = T.getD st 0 :: T.toList.drop (st + 1) := by
  rw [List.drop_eq_getElem_cons (by simpa using h)]
  simp [Array.getD, h]

theorem fixL_cons {c : Nat} (h : Nl c = false) (x : List Nat) : fixL (c :: x) = c :: fixL x := by
  have hc : c ≠ 13 := by intro e; subst e; simp [Nl] at h
  cases x with
  | nil => simp [fixL, h]
  | cons d r => rw [fixL.eq_def]; split <;> simp_all
theorem fixL_nl {c : Nat} (h : Nl c = true) (x : List Nat) (hx : ¬ (c = 13 ∧ x.head? = some 10)) : fixL (c :: x) = 13 :: 10 :: fixL x := by
  cases x with
  | nil => simp [fixL, h]
  | cons d r => rw [fixL.eq_def]; split <;> simp_all

theorem subst2 (T : Array Nat) : ∀ k st, st + k = T.size → Subst pat2 T [13, 10] st (fixL (T.toList.drop st)) := by
  intro k
  induction k using Nat.strongRecOn with
  | ind k ih =>
    intro st hk
    cases k with
    | zero =>
      have e : T.toList.drop st = [] := List.drop_eq_nil_of_le (by simp; omega)
      have := Subst.stop (p := pat2) (T := T) (r := [13, 10]) (st := st) (by omega) fun l a b => by omega
      rw [e] at this ⊢
      exact this
    | succ k =>
      have h : st < T.size := by omega
      cases hn : Nl (T.getD st 0)
      · rw [drop_at T h, fixL_cons hn]
        exact Subst.skip h hn (ih k (by omega) (st + 1) (by omega))
      · have hw : 1 ≤ wide T st := pat2_ok.pos T st
        have hf : st + wide T st ≤ T.size := pat2_ok.fit T st h hn
        have S := Subst.go (p := pat2) (T := T) (r := [13, 10]) (st := st) (Nat.le_refl _) h hn (fun l a b => by omega) (ih (T.size - (st + wide T st)) (by omega) (st + wide T st) (by omega))
        rw [Nat.sub_self, List.take_zero, List.nil_append] at S
        have e : fixL (T.toList.drop st) = [13, 10] ++ fixL (T.toList.drop (st + wide T st)) := by
          by_cases hc : T.getD st 0 = 13 ∧ st + 1 < T.size ∧ T.getD (st + 1) 0 = 10
          · rw [show wide T st = 2 by unfold wide; rw [if_pos hc], drop_at T h, drop_at T hc.2.1, hc.1, hc.2.2]
            rfl
          · rw [show wide T st = 1 by unfold wide; rw [if_neg hc], drop_at T h, fixL_nl hn]
            · rfl
            · rintro ⟨c1, c2⟩
              by_cases hs : st + 1 < T.size
              · rw [drop_at T hs] at c2
                exact hc ⟨c1, hs, by simpa using c2⟩
              · rw [List.drop_eq_nil_of_le (by simp; omega)] at c2
                cases c2
        rw [e]
        exact S

theorem subst1 (T : Array Nat) : ∀ k st, st + k = T.size → Subst pat1 T [46, 46] st (qGo (st == 0 || T.getD (st - 1) 0 == 10) (T.toList.drop st)) := by
  intro k
  induction k with
  | zero =>
    intro st hk
    have e : T.toList.drop st = [] := List.drop_eq_nil_of_le (by simp; omega)
    have := Subst.stop (p := pat1) (T := T) (r := [46, 46]) (st := st) (by omega) fun l a b => by omega
    rw [e] at this ⊢
    exact this
  | succ k ih =>
    intro st hk
    have h : st < T.size := by omega
    have S := ih (st + 1) (by omega)
    have hb : (st + 1 == 0 || T.getD (st + 1 - 1) 0 == 10) = (T.getD st 0 == 10) := by simp
    rw [hb] at S
    rw [drop_at T h, qGo]
    cases hh : ((st == 0 || T.getD (st - 1) 0 == 10) && T.getD st 0 == 46)
    · rw [if_neg Bool.false_ne_true]
      refine Subst.skip h ?_ S
      show Hit1 T st = false
      unfold Hit1
      rw [decide_eq_true h, Bool.true_and]; exact hh
    · rw [if_pos rfl]
      have h46 : T.getD st 0 = 46 := by simp only [Bool.and_eq_true, beq_iff_eq] at hh; exact hh.2
      rw [h46] at S
      have hit : pat1.hit T st = true := by
        show Hit1 T st = true
        unfold Hit1
        rw [decide_eq_true h, Bool.true_and]; exact hh
      have := Subst.go (p := pat1) (T := T) (r := [46, 46]) (st := st) (Nat.le_refl _) h hit (fun l a b => by omega) S
      rw [Nat.sub_self, List.take_zero, List.nil_append] at this
      exact this
end Mine

/-! part M11 -/
namespace Mine
open PySem.StrLaws PySem.Builtin.Str

theorem isPrefixOf_take : ∀ (y x : List Nat), y.isPrefixOf x = (x.take y.length == y)
  | [], x => by simp
  | a :: y, [] => by simp
  | a :: y, b :: x => by
    rw [List.isPrefixOf, isPrefixOf_take y x]
    simp only [List.length_cons, List.take_succ_cons]
    by_cases h : a = b
    · subst h; simp
    · rw [beq_eq_false_iff_ne.mpr h]
      have h' : (b :: List.take y.length x == a :: y) = false := beq_eq_false_iff_ne.mpr fun e => h (List.cons.inj e).1.symm
      rw [h']; rfl
theorem at_iff (x y : Str) (i : Nat) (hy : 1 ≤ y.length) : At x y x.length i ↔ y.cps.toList.isPrefixOf (x.cps.toList.drop i) = true := by
  unfold At
  rw [subAt_eq, isPrefixOf_take]
  have e : y.cps.toList.length = y.length := by simp [Str.length]
  rw [e]
  constructor
  · exact fun h => h.2
  · intro h
    refine ⟨?_, h⟩
    have h1 : ((x.cps.toList.drop i).take y.length).length = y.length := by rw [beq_iff_eq.mp h, e]
    simp [Str.length] at h1 ⊢
    have : 1 ≤ y.cps.size := hy
    omega

def addHeads (pre : List Nat) : List (List Nat) → List (List Nat)
  | [] => [pre]
  | r :: rs => (pre ++ r) :: rs

theorem splitL_ne (y : List Nat) : ∀ k x, ∃ r rs, splitL y k x = r :: rs
  | 0, x => ⟨_, _, rfl⟩
  | k + 1, [] => ⟨_, _, rfl⟩
  | k + 1, c :: r => by
    rw [splitL]
    split
    · exact ⟨_, _, rfl⟩
    · obtain ⟨a, as, e⟩ := splitL_ne y k r
      rw [e]; exact ⟨_, _, rfl⟩

theorem splitL_last (y : List Nat) : ∀ (k : Nat) (x : List Nat), x.length ≤ k → (∀ i, i < x.length → y.isPrefixOf (x.drop i) = false) → splitL y k x = [x]
  | 0, x, _, _ => rfl
  | k + 1, [], _, _ => rfl
  | k + 1, c :: r, hk, hn => by
    rw [splitL, if_neg (by have := hn 0 (by simp); rw [List.drop_zero] at this; rw [this]; decide), splitL_last y k r (by simpa using hk) fun i hi => hn (i + 1) (by simpa using hi)]
    rfl
theorem splitL_skip (y : List Nat) : ∀ (j k : Nat) (x : List Nat), j ≤ x.length → x.length ≤ k → (∀ i, i < j → y.isPrefixOf (x.drop i) = false) → splitL y k x = addHeads (x.take j) (splitL y (k - j) (x.drop j))
  | 0, k, x, _, _, _ => by
    obtain ⟨r, rs, e⟩ := splitL_ne y k x
    simp [e, addHeads]
  | j + 1, 0, x, hj, hk, _ => by omega
  | j + 1, k + 1, [], hj, _, _ => by simp at hj
  | j + 1, k + 1, c :: r, hj, hk, hn => by
    rw [splitL, if_neg (by have := hn 0 (by omega); rw [List.drop_zero] at this; rw [this]; decide), splitL_skip y j k r (by simpa using hj) (by simpa using hk) fun i hi => hn (i + 1) (by omega)]
    obtain ⟨a, as, e⟩ := splitL_ne y (k - j) (r.drop j)
    rw [show k + 1 - (j + 1) = k - j by omega]
    simp [e, addHeads, addHead]

theorem splitL_fuel (y : List Nat) (hy : 1 ≤ y.length) : ∀ (k k' : Nat) (x : List Nat), x.length ≤ k → x.length ≤ k' → splitL y k x = splitL y k' x
  | 0, 0, x, _, _ => rfl
  | 0, k' + 1, x, h, _ => by
    have : x = [] := List.length_eq_zero_iff.mp (by omega)
    subst this; rfl
  | k + 1, 0, x, _, h => by
    have : x = [] := List.length_eq_zero_iff.mp (by omega)
    subst this; rfl
  | k + 1, k' + 1, [], _, _ => rfl
  | k + 1, k' + 1, c :: r, h1, h2 => by
    simp at h1 h2
    rw [splitL, splitL, splitL_fuel y hy k k' r h1 h2, splitL_fuel y hy k k' ((c :: r).drop y.length) (by simp; omega) (by simp; omega)]

theorem parts_split (x y : Str) (hy : 1 ≤ y.length) : ∀ (cuts : List Nat) (a f : Nat), a ≤ x.length → ChainG x y x.length a cuts f → (∀ k, f ≤ k → ¬ At x y x.length k) →
    (partsFrom x y.length a cuts).map (·.cps.toList) = splitL y.cps.toList (x.length - a) (x.cps.toList.drop a)
  | [], a, f, ha, hc, hn => by
    obtain rfl : f = a := hc
    rw [splitL_last]
    · simp [partsFrom, strSub_toList, Str.length]
      exact List.take_of_length_le (by simp)
    · simp [Str.length]
    · intro i hi
      have := hn (f + i) (by omega)
      rw [at_iff x y _ hy] at this
      rw [List.drop_drop]
      exact Bool.eq_false_iff.mpr this
  | c :: r, a, f, ha, hc, hn => by
    obtain ⟨h1, h2, h3, h4⟩ := hc
    have hc' := h2.1
    rw [splitL_skip y.cps.toList (c - a) (x.length - a) (x.cps.toList.drop a) (by simp [Str.length] at *; omega) (by simp [Str.length]) fun i hi => by
      have := h3 (a + i) (by omega) (by omega)
      rw [at_iff x y _ hy] at this
      rw [List.drop_drop]
      exact Bool.eq_false_iff.mpr this]
    rw [List.drop_drop, show a + (c - a) = c by omega, show x.length - a - (c - a) = x.length - c by omega]
    have hp := (at_iff x y c hy).mp h2
    have hlt : c < x.length := by omega
    obtain ⟨n, hn'⟩ : ∃ n, x.length - c = n + 1 := ⟨x.length - c - 1, by omega⟩
    have hd : ∃ e l, x.cps.toList.drop c = e :: l := by
      cases q : x.cps.toList.drop c with
      | nil => have : (x.cps.toList.drop c).length = 0 := by rw [q]; rfl
               simp [Str.length] at this hlt; omega
      | cons e l => exact ⟨e, l, rfl⟩
    obtain ⟨e, l, he⟩ := hd
    have IH := parts_split x y hy r (c + y.length) f hc' h4 hn
    have el : y.cps.toList.length = y.length := by simp [Str.length]
    rw [he] at hp
    rw [hn', he, splitL, if_pos hp, ← he, List.drop_drop, el]
    have fuel : ∀ k, x.length - (c + y.length) ≤ k → splitL y.cps.toList k (x.cps.toList.drop (c + y.length)) = splitL y.cps.toList (x.length - (c + y.length)) (x.cps.toList.drop (c + y.length)) := fun k hk =>
      splitL_fuel y.cps.toList (by simp [Str.length] at hy; cases q : y.cps.toList with | nil => simp at q; simp [q] at hy | cons a b => simp) _ _ _ (by simp [Str.length]; simp [Str.length] at hk; omega) (by simp [Str.length])
    rw [fuel n (by omega), ← IH]
    simp [partsFrom, addHeads, strSub_toList]

theorem strKind_pos (x : Str) : 1 ≤ Builtin.Str.strKind x := by
  unfold Builtin.Str.strKind; split
  · omega
  · split <;> omega

theorem split_eq (x y : Str) (hy : 1 ≤ y.length) (hk : Builtin.Str.strKind y = 1) : (Txt.split x y).map (·.cps.toList) = splitL y.cps.toList x.length x.cps.toList := by
  obtain ⟨f, h1, h2⟩ := occ_tight x y hy
  have whole : ∀ f, ChainG x y x.length 0 [] f → (∀ k, f ≤ k → ¬ At x y x.length k) → [x].map (·.cps.toList) = splitL y.cps.toList x.length x.cps.toList := fun f a b => by
    have := parts_split x y hy [] 0 f (Nat.zero_le _) a b
    rw [List.drop_zero, Nat.sub_zero] at this
    rw [← this]
    simp [partsFrom, sub_whole]
  unfold Txt.split
  by_cases c1 : (decide (x.length < y.length) || decide (Builtin.Str.strKind x < Builtin.Str.strKind y)) = true
  · rw [if_pos c1]
    refine whole 0 rfl fun k _ hA => ?_
    have := strKind_pos x
    have := hA.1
    simp at c1
    omega
  · rw [if_neg c1]
    by_cases c2 : (occurrences x y 0 x.length (x.length + 1)).isEmpty = true
    · rw [if_pos c2]
      rw [List.isEmpty_iff.mp c2] at h1
      exact whole f h1 h2
    · rw [if_neg c2, partsBetween_eq]
      have := parts_split x y hy _ 0 f (Nat.zero_le _) h1 h2
      rw [List.drop_zero, Nat.sub_zero] at this
      exact this
end Mine

/-! part M12 -/
namespace Mine
open PySem.StrLaws PySem.Builtin.Str

def mk (l : List Nat) : Str := ⟨l.toArray⟩
theorem mk_toList (l : List Nat) : (mk l).cps.toList = l := by simp [mk]
theorem mk_of (x : Str) : mk x.cps.toList = x := by simp [mk]
theorem mk_inj {a b : List Nat} (h : mk a = mk b) : a = b := by rw [← mk_toList a, h, mk_toList]
theorem map_mk_of {l : List Str} {rs : List (List Nat)} (h : l.map (·.cps.toList) = rs) : l = rs.map mk := by
  subst h
  rw [List.map_map]
  have : (mk ∘ fun (x : Str) => x.cps.toList) = _root_.id := by funext x; exact mk_of x
  rw [this]; simp

theorem splitL_row {c : Nat} {y' : List Nat} : ∀ {r : List Nat}, c ∉ r → ∀ (x : List Nat) (k : Nat), (r ++ (c :: y') ++ x).length ≤ k → splitL (c :: y') k (r ++ (c :: y') ++ x) = r :: splitL (c :: y') x.length x := by
  intro r hr x k hk
  rw [splitL_skip (c :: y') r.length k (r ++ (c :: y') ++ x) (by simp) hk fun i hi => ?_]
  · have e1 : (r ++ (c :: y') ++ x).drop r.length = (c :: y') ++ x := by rw [List.append_assoc, List.drop_left]
    have e2 : (r ++ (c :: y') ++ x).take r.length = r := by rw [List.append_assoc, List.take_left]
    rw [e1, e2]
    simp only [List.length_append, List.length_cons] at hk
    obtain ⟨n, hn⟩ : ∃ n, k - r.length = n + 1 := ⟨k - r.length - 1, by omega⟩
    rw [hn]
    show addHeads r (if (c :: y').isPrefixOf ((c :: y') ++ x) = true then [] :: splitL (c :: y') n (((c :: y') ++ x).drop (c :: y').length) else addHead c (splitL (c :: y') n (y' ++ x))) = _
    rw [if_pos (by rw [isPrefixOf_take, List.take_left]; simp), List.drop_left]
    rw [splitL_fuel (c :: y') (by simp) n x.length x (by omega) (Nat.le_refl _)]
    simp [addHeads]
  · rw [List.append_assoc, List.drop_append_of_le_length (Nat.le_of_lt hi), List.drop_eq_getElem_cons hi]
    show (c == r[i] && _) = false
    rw [beq_eq_false_iff_ne.mpr fun e : c = r[i] => hr (by rw [e]; exact List.getElem_mem hi)]; rfl
theorem splitL_one {c : Nat} {y' r : List Nat} (hr : c ∉ r) (k : Nat) (hk : r.length ≤ k) : splitL (c :: y') k r = [r] := by
  refine splitL_last _ k r hk fun i hi => ?_
  rw [List.drop_eq_getElem_cons hi]
  show (c == r[i] && _) = false
  rw [beq_eq_false_iff_ne.mpr fun e : c = r[i] => hr (by rw [e]; exact List.getElem_mem hi)]; rfl
theorem splitL_join {c : Nat} {y' : List Nat} : ∀ {rs : List (List Nat)}, rs ≠ [] → (∀ r ∈ rs, c ∉ r) → ∀ k, (joinL (c :: y') rs).length ≤ k → splitL (c :: y') k (joinL (c :: y') rs) = rs
  | [], h, _, _, _ => absurd rfl h
  | [r], _, hf, k, hk => splitL_one (hf r (.head _)) k hk
  | r :: y :: rs, _, hf, k, hk => by
    show splitL (c :: y') k (r ++ (c :: y') ++ joinL (c :: y') (y :: rs)) = _
    rw [splitL_row (hf r (.head _)) _ k hk, splitL_join (by simp) (fun a ha => hf a (.tail _ ha)) _ (Nat.le_refl _)]

theorem join_toList (z : Str) : ∀ l : List Str, (Str.join z l).cps.toList = joinL z.cps.toList (l.map (·.cps.toList))
  | [] => rfl
  | [x] => rfl
  | x :: y :: r => by
    have e : Str.join z (x :: y :: r) = x ++ z ++ Str.join z (y :: r) := rfl
    rw [e, Str.cps_append, Str.cps_append, Array.toList_append, Array.toList_append, join_toList z (y :: r)]
    rfl
theorem txtJoin_toList (z : Str) (l : List Str) : (Txt.join z l).cps.toList = joinL z.cps.toList (l.map (·.cps.toList)) := by
  unfold Txt.join; rw [glued_eq_join, join_toList]

theorem replace_eq (x y z : Str) (hy : 1 ≤ y.length) (hk : Builtin.Str.strKind y = 1) : (Txt.replace x y z).cps.toList = joinL z.cps.toList (splitL y.cps.toList x.length x.cps.toList) := by
  rw [← split_eq x y hy hk, ← join_toList]
  congr 2
  unfold Txt.replace Txt.split
  have hy0 : (y.length == 0) = false := beq_eq_false_iff_ne.mpr (by omega)
  by_cases c2 : (occurrences x y 0 x.length (x.length + 1)).isEmpty = true
  · simp only [c2, Bool.true_or, if_true]
    split <;> rfl
  · have c2' : (occurrences x y 0 x.length (x.length + 1)).isEmpty = false := by simpa using c2
    have c1 : ¬ (decide (x.length < y.length) || decide (Builtin.Str.strKind x < Builtin.Str.strKind y)) = true := by
      intro c1
      obtain ⟨f, h1, h2⟩ := occ_tight x y hy
      have := strKind_pos x
      cases q : occurrences x y 0 x.length (x.length + 1) with
      | nil => rw [q] at c2'; cases c2'
      | cons a b =>
        rw [q] at h1
        have := h1.2.1.1
        simp at c1
        omega
    rw [if_neg c1]
    simp only [c2', hy0, Bool.false_and, Bool.or_false, Bool.false_eq_true, if_false]
    rw [glued_eq_join]

/-- both ends made a line feed -/
def r1 : List Nat → List Nat
  | [] => []
  | [c] => [c]
  | 13 :: 10 :: r => 10 :: r1 r
  | c :: d :: r => c :: r1 (d :: r)
theorem r1_cons {c d : Nat} {r : List Nat} (h : ¬ (c = 13 ∧ d = 10)) : r1 (c :: d :: r) = c :: r1 (d :: r) := by
  rw [r1]
  exact fun e1 e2 => h ⟨e1, e2⟩
theorem join_addHead (sep : List Nat) (c : Nat) (y : List Nat) (k : Nat) (x : List Nat) : joinL sep (addHead c (splitL y k x)) = c :: joinL sep (splitL y k x) := by
  obtain ⟨r, rs, e⟩ := splitL_ne y k x
  exact joinL_addHead sep c (by rw [e]; simp)
theorem r1_eq : ∀ (k : Nat) (x : List Nat), x.length ≤ k → joinL [10] (splitL [13, 10] k x) = r1 x
  | 0, x, h => by
    have : x = [] := List.length_eq_zero_iff.mp (by omega)
    subst this; rfl
  | k + 1, [], _ => rfl
  | k + 1, [c], _ => by
    rw [splitL, if_neg (by simp [List.isPrefixOf]), join_addHead, r1_eq k [] (by simp)]; rfl
  | k + 1, c :: d :: r, h => by
    simp at h
    by_cases hc : c = 13 ∧ d = 10
    · obtain ⟨rfl, rfl⟩ := hc
      rw [splitL, if_pos (by rfl)]
      obtain ⟨a, as, e⟩ := splitL_ne [13, 10] k r
      have hj := joinL_nil [10] (rs := splitL [13, 10] k r) (by rw [e]; simp)
      show joinL [10] ([] :: splitL [13, 10] k r) = _
      rw [hj, r1_eq k r (by omega)]; rfl
    · have hp : List.isPrefixOf [13, 10] (c :: d :: r) = false := by
        show ((13 : Nat) == c && ((10 : Nat) == d && true)) = false
        by_cases h13 : c = 13
        · rw [beq_eq_false_iff_ne.mpr (fun e : 10 = d => hc ⟨h13, e.symm⟩)]; simp
        · rw [beq_eq_false_iff_ne.mpr (fun e : 13 = c => h13 e.symm)]; rfl
      rw [splitL, hp, if_neg Bool.false_ne_true, join_addHead, r1_eq k (d :: r) (by simp; omega)]
      rw [r1_cons hc]
theorem one_eq : ∀ (k : Nat) (x : List Nat), x.length ≤ k → joinL [10] (splitL [13] k x) = x.map fun c => if c = 13 then 10 else c
  | 0, x, h => by
    have : x = [] := List.length_eq_zero_iff.mp (by omega)
    subst this; rfl
  | k + 1, [], _ => rfl
  | k + 1, c :: r, h => by
    simp at h
    by_cases hc : c = 13
    · subst hc
      rw [splitL, if_pos (by simp [List.isPrefixOf])]
      obtain ⟨a, as, e⟩ := splitL_ne [13] k r
      have hj := joinL_nil [10] (rs := splitL [13] k r) (by rw [e]; simp)
      show joinL [10] ([] :: splitL [13] k r) = _
      rw [hj, one_eq k r h]; rfl
    · have hp : List.isPrefixOf [13] (c :: r) = false := by
        show ((13 : Nat) == c && true) = false
        rw [beq_eq_false_iff_ne.mpr (fun e : 13 = c => hc e.symm)]; rfl
      rw [splitL, hp, if_neg Bool.false_ne_true, join_addHead, one_eq k r h]
      simp [hc]
theorem r1_rows : ∀ x, (r1 x).map (fun c => if c = 13 then 10 else c) = joinL [10] (rowsL x) := by
  intro x
  fun_induction rowsL x with
  | case1 => rfl
  | case2 c h =>
    simp only [Nl, Bool.or_eq_true, beq_iff_eq] at h
    rcases h with rfl | rfl <;> rfl
  | case3 c h =>
    have := Nl_false h
    simp [r1, joinL, this.2]
  | case4 r ih => rw [joinL_nil _ (rowsL_ne' _), ← ih]; rfl
  | case5 c d r h1 h2 ih =>
    rw [joinL_nil _ (rowsL_ne' _), ← ih]
    simp only [Nl, Bool.or_eq_true, beq_iff_eq] at h2
    rw [r1_cons (fun e => h1 e.1 e.2)]
    rcases h2 with rfl | rfl <;> simp
  | case6 c d r h1 h2 ih =>
    have hc := Nl_false h2
    rw [joinL_addHead _ _ (rowsL_ne' _), ← ih]
    rw [r1_cons (fun e => hc.2 e.1)]
    simp [hc.2]

def lfS : Str := ⟨#[10]⟩
def crS : Str := ⟨#[13]⟩
def crlfS : Str := ⟨#[13, 10]⟩

theorem split_fix (x : Str) : Txt.split (mk (fixL x.cps.toList)) crlfS = (rowsL x.cps.toList).map mk := by
  apply map_mk_of
  rw [split_eq _ _ (by decide) (by decide +kernel), mk_toList, fixL_eq]
  exact splitL_join (c := 13) (y' := [10]) (rowsL_ne' _) (fun r hr => (rowsL_free _ r hr).2) _ (by rw [← fixL_eq]; simp [mk, Str.length])
theorem split_quote (x : Str) : Txt.split (mk (qGo true (fixL x.cps.toList))) crlfS = (rowsL x.cps.toList).map fun r => mk (q r) := by
  have e : ((rowsL x.cps.toList).map fun r => mk (q r)) = ((rowsL x.cps.toList).map q).map mk := by simp
  rw [e]
  apply map_mk_of
  rw [split_eq _ _ (by decide) (by decide +kernel), mk_toList, fixL_eq, qGo_join (rowsL_free _)]
  refine splitL_join (c := 13) (y' := [10]) ?_ ?_ _ ?_
  · obtain ⟨r, rs, e⟩ := rowsL_ne x.cps.toList; rw [e]; simp
  · intro r hr
    obtain ⟨a, ha, rfl⟩ := List.mem_map.mp hr
    exact (q_free (rowsL_free _ a ha)).2
  · simp [mk, Str.length]
theorem split_rows (x : Str) : Txt.split (Txt.replace (Txt.replace x crlfS lfS) crS lfS) lfS = (rowsL x.cps.toList).map mk := by
  apply map_mk_of
  have e1 : (Txt.replace x crlfS lfS).cps.toList = r1 x.cps.toList := by
    rw [replace_eq _ _ _ (by decide) (by decide +kernel)]
    exact r1_eq _ _ (by simp [Str.length])
  have e2 : (Txt.replace (Txt.replace x crlfS lfS) crS lfS).cps.toList = joinL [10] (rowsL x.cps.toList) := by
    rw [replace_eq _ _ _ (by decide) (by decide +kernel), e1]
    refine (one_eq _ _ ?_).trans (r1_rows _)
    rw [← e1]; simp [Str.length]
  rw [split_eq _ _ (by decide) (by decide +kernel), e2]
  refine splitL_join (c := 10) (y' := []) (rowsL_ne' _) (fun r hr => (rowsL_free _ r hr).1) _ ?_
  rw [← e2]; simp [Str.length]
end Mine

/-! part M13 -/
namespace Mine
open PySem.Calls

theorem paired_strs (h h' : Heap) : ∀ l : List (Str × Tok), Paired (New h h') (strValues l) (l.map fun p => PyData.str p.1)
  | [] => .nil
  | (x, t) :: l => .cons (New.str x t) (paired_strs h h' l)
theorem new_strs {h h' : Heap} {D : Addr} {l : List (Str × Tok)} {ys : List Str} (hl : h'.IsList D (strValues l).toArray) (hn : h.get? D = none) (e : l.map (·.1) = ys) : New h h' (.ref D) (.list (ys.map .str)) := by
  have := New.list hl hn (paired_strs h h' l)
  rw [← e, List.map_map]
  exact this
theorem paired_strs_inv {h : Heap} : ∀ {vs : List Value} {ys : List Str}, Paired (Den h) vs (ys.map .str) → ∃ l : List (Str × Tok), vs = strValues l ∧ l.map (·.1) = ys
  | _, [], .nil => ⟨[], rfl, rfl⟩
  | _, y :: ys, .cons d r => by
    obtain ⟨t, rfl⟩ := d.str_inv
    obtain ⟨l, rfl, rfl⟩ := paired_strs_inv r
    exact ⟨(y, t) :: l, rfl, rfl⟩
theorem den_strs_inv {h : Heap} {v : Value} {ys : List Str} (x : Den h v (.list (ys.map .str))) : ∃ a l, v = .ref a ∧ h.IsList a (strValues l).toArray ∧ l.map (·.1) = ys := by
  obtain ⟨a, vs, rfl, hl, hp⟩ := x.list_inv
  obtain ⟨l, rfl, e⟩ := paired_strs_inv hp
  exact ⟨a, l, rfl, hl, e⟩

theorem fresh_size (h : Heap) : h.get? h.objs.size = none := by
  cases e : h.get? h.objs.size with
  | none => rfl
  | some o => exact absurd (Heap.lt_size e) (Nat.lt_irrefl _)
theorem kp_push {s : Shared} (ob : Obj) (k : Nat) : Keeps s { s with heap := s.heap.push ob, toks := k } := ⟨_, k, rfl, fun _ _ e => Heap.get?_push_of_some _ e⟩

section
variable {prog : Program} {w : World} {A : Around} {E : Value → Shared → Prop} {s : Shared}
open PySem.Builtin.Str in
theorem split_call {x y : Str} {t u : Tok} {Q : Value → Shared → Prop} (hy : 1 ≤ y.length) (hx : x.length + 2 ≤ sizeLine)
    (hq : ∀ D s', New s.heap s'.heap (.ref D) (.list ((Txt.split x y).map .str)) → s.heap.get? D = none → Keeps s s' → Q (.ref D) s') :
    wpAny (model prog w) A (call (.builtin "str.split") [.str x t, .str y u]) Q E s := by
  have hy0 : (y.length == 0) = false := beq_eq_false_iff_ne.mpr (by omega)
  have one : ∀ k, Txt.split x y = [x] → Q (.ref s.heap.objs.size) { s with heap := s.heap.push { cls := .type "list", data := .seq (strValues [(x, t)]).toArray }, toks := k } := fun k e =>
    hq _ _ (new_strs (l := [(x, t)]) ⟨_, Heap.get?_push_size _ rfl, rfl, _, rfl⟩ (fresh_size _) e.symm) (fresh_size _) (kp_push _ _)
  cases h1 : (decide (x.length < y.length) || decide (Builtin.Str.strKind x < Builtin.Str.strKind y))
  · cases hf : (occurrences x y 0 x.length (x.length + 1)).isEmpty
    · have e : Txt.split x y = partsBetween x (occurrences x y 0 x.length (x.length + 1)) y.length := by unfold Txt.split; rw [if_neg (by rw [h1]; decide), if_neg (by rw [hf]; decide)]
      have hlen : (partsBetween x (occurrences x y 0 x.length (x.length + 1)) y.length).length ≤ sizeLine := by
        rw [length_partsBetween]
        have := StrLaws.occ_length_le x y 0 x.length (x.length + 1)
        omega
      refine call_meets F.slot_str_split (typeIs_str _ _ _) F.entry_str_split (F.args_str_split_2 _ _) (meets_str_split_sep x y t u h1 hy0 hf (by omega) hlen) ?_
      show Q (.ref s.heap.objs.size) { s with toks := _, heap := s.heap.push { cls := .type "list", data := .seq (strsFrom s.toks (partsBetween x (occurrences x y 0 x.length (x.length + 1)) y.length)).toArray } }
      rw [strsFrom_eq]
      exact hq _ _ (new_strs ⟨_, Heap.get?_push_size _ rfl, rfl, _, rfl⟩ (fresh_size _) ((numbered_texts _ _).trans e.symm)) (fresh_size _) (kp_push _ _)
    · exact call_meets F.slot_str_split (typeIs_str _ _ _) F.entry_str_split (F.args_str_split_2 _ _) (meets_str_split_not_found x y t u h1 hy0 hf) (one s.toks (by unfold Txt.split; rw [if_neg (by rw [h1]; decide), if_pos hf]))
  · exact call_meets F.slot_str_split (typeIs_str _ _ _) F.entry_str_split (F.args_str_split_2 _ _) (meets_str_split_cannot_occur x y t u h1) (one s.toks (by unfold Txt.split; rw [if_pos h1]))

theorem replace_call {x y z : Str} {t u v : Tok} {Q : Value → Shared → Prop} (hu : u ≠ 0) (hv : v ≠ 0) (huv : u ≠ v) (hyz : (y == z) = false) (hb : x.length + (x.length + 1) * z.length ≤ 16777216)
    (hq : ∀ t' k, s.toks ≤ k → Q (.str (Txt.replace x y z) t') { s with toks := k }) : wpAny (model prog w) A (call (.builtin "str.replace") [.str x t, .str y u, .str z v]) Q E s :=
  wpAny_with_toks (Nat.le_refl _) (SC.replace hu hv huv hyz hb fun t' k hk => hq t' k hk)

theorem lf_lit : Str.ofString "\n" = lfS := by decide +kernel
theorem cr_lit : Str.ofString "\x0d" = crS := by decide +kernel
theorem crlf_lit : Str.ofString "\x0d\n" = crlfS := by decide +kernel
theorem crlf_eq : crlf = crlfS := rfl

theorem len_replace (x y z : Str) (hy : 1 ≤ y.length) (hz : z.length ≤ y.length) (hk : Builtin.Str.strKind y = 1) : (Txt.replace x y z).length ≤ x.length := by
  have e : Str.join z (Txt.split x y) = Txt.replace x y z := by
    apply Str.ext'; apply Array.ext'
    rw [join_toList, split_eq x y hy hk, replace_eq x y z hy hk]
  have e' : Str.join y (Txt.split x y) = x := StrLaws.join_split x y
  rw [← e]
  rw [show x.length = (Str.join y (Txt.split x y)).length by rw [e']]
  generalize Txt.split x y = l
  induction l with
  | nil => exact Nat.le_refl _
  | cons a l ih =>
    cases l with
    | nil => exact Nat.le_refl _
    | cons b l =>
      show (a ++ z ++ Str.join z (b :: l)).length ≤ (a ++ y ++ Str.join y (b :: l)).length
      simp only [Str.length_append]
      omega

theorem rows_call {x : Str} {t : Tok} {Q : Value → Shared → Prop} (G : Glo s.heap) (hroom : A.depth < recursionLimit) (hx : x.length ≤ 1000)
    (hQ : ∀ D s', New s.heap s'.heap (.ref D) (.list ((rowsL x.cps.toList).map fun r => .str (mk r))) → Keeps s s' → Q (.ref D) s') : wpAny (model prog w) A (call (.ref 81) [.str x t]) Q E s := by
  refine call_def G G.f81 hroom (binds := [("text", .str x t)]) (fun _ => rfl) rfl fun L h₁ F => ?_
  refine wpAny_execs_cons (wpAny_Return_some (MethodCall_ (MethodCall_ (MethodCall_ ?_))))
  refine ld F rfl (GM.replace (callWith_m (args_cons (Constant_str (args_cons (Constant_str (args_nil ?_)))))))
  rw [lf_lit, crlf_lit]
  have hl1 := len_replace x crlfS lfS (by decide) (by decide) (by decide +kernel)
  have hl2 := len_replace (Txt.replace x crlfS lfS) crS lfS (by decide) (by decide) (by decide +kernel)
  have e1 : lfS.length = 1 := rfl
  refine replace_call (by show s.toks + 1 ≠ 0; omega) (by show s.toks + 1 + 1 ≠ 0; omega) (by show s.toks + 1 ≠ s.toks + 1 + 1; omega) (by decide +kernel) (by rw [e1]; omega) fun t' k hk => ?_
  refine GM.replace (callWith_m (args_cons (Constant_str (args_cons (Constant_str (args_nil ?_))))))
  rw [cr_lit]
  refine replace_call (by show k ≠ 0; intro e; subst e; exact absurd hk (by show ¬ s.toks + 1 + 1 + 1 ≤ 0; omega)) (by show k + 1 ≠ 0; omega) (by show k ≠ k + 1; omega) (by decide +kernel) (by rw [e1]; omega) fun t'' k' hk' => ?_
  refine GM.split (callWith_m (args_cons (Constant_str (args_nil ?_))))
  refine split_call (by decide) (by rw [sizeLine_eq]; omega) fun D s' hn hD kp => ?_
  refine ⟨_, rfl, hQ D s' ?_ (kp_trans (kp_trans (kp_fr (tk := 0) F) (kp_toks _)) kp)⟩
  have e := split_rows x
  rw [e, List.map_map] at hn
  exact hn.base F.keep
end
end Mine

/-! part M14 -/
namespace Mine
open PySem.Calls

/-- the data that the walk compares -/
structure Ok (d : PyData) : Prop where
  lay : d.canLay0 = true
  lst : lst d = true
  depth : d.depth ≤ 3
theorem okAll_lay : ∀ {ds : List PyData}, (∀ d ∈ ds, Ok d) → PyData.canLayAll0 ds = true
  | [], _ => rfl
  | d :: ds, h => by simp [PyData.canLayAll0, (h d (.head _)).lay, okAll_lay fun e he => h e (.tail _ he)]
theorem okAll_lst : ∀ {ds : List PyData}, (∀ d ∈ ds, Ok d) → lstAll ds = true
  | [], _ => rfl
  | d :: ds, h => by simp [lstAll, (h d (.head _)).lst, okAll_lst fun e he => h e (.tail _ he)]
theorem okAll_depth : ∀ {ds : List PyData}, (∀ d ∈ ds, Ok d) → PyData.depthAll ds ≤ 3
  | [], _ => by simp [PyData.depthAll]
  | d :: ds, h => by
    have := (h d (.head _)).depth
    have := okAll_depth fun e he => h e (.tail _ he)
    simp only [PyData.depthAll]; omega

/-- the first one of all that are alike, in order -/
def dd (acc : List PyData) : List PyData → List PyData
  | [] => acc
  | d :: ds => dd (if acc.any (fun y => PyData.eqv y d) then acc else acc ++ [d]) ds
theorem dd_snoc : ∀ (ds acc : List PyData) (d : PyData), dd acc (ds ++ [d]) = if (dd acc ds).any (fun y => PyData.eqv y d) then dd acc ds else dd acc ds ++ [d]
  | [], acc, d => rfl
  | e :: ds, acc, d => dd_snoc ds _ d
theorem dd_mem : ∀ (ds acc : List PyData), ∀ d ∈ dd acc ds, d ∈ acc ∨ d ∈ ds
  | [], acc, d, h => .inl h
  | e :: ds, acc, d, h => by
    rcases dd_mem ds _ d h with h | h
    · split at h
      · exact .inl h
      · rcases List.mem_append.mp h with h | h
        · exact .inl h
        · exact .inr (List.mem_singleton.mp h ▸ .head _)
    · exact .inr (.tail _ h)
theorem dd_ok {ds : List PyData} (h : ∀ d ∈ ds, Ok d) : ∀ d ∈ dd [] ds, Ok d := fun d hd => (dd_mem ds [] d hd).elim (fun q => nomatch q) (h d)
theorem dd_take {ds : List PyData} (h : ∀ d ∈ ds, Ok d) (i : Nat) : ∀ d ∈ dd [] (ds.take i), Ok d := dd_ok fun d hd => h d (List.mem_of_mem_take hd)

theorem paired_get {α β : Type} {F : α → β → Prop} : ∀ {l₁ : List α} {l₂ : List β}, Paired F l₁ l₂ → ∀ {i : Nat} {a : α}, l₁[i]? = some a → ∃ b, l₂[i]? = some b ∧ F a b
  | _, _, .nil, i, a, h => by simp at h
  | _, _, .cons f t, 0, a, h => by simp at h; subst h; exact ⟨_, rfl, f⟩
  | _, _, .cons f t, i + 1, a, h => by
    rw [List.getElem?_cons_succ] at h ⊢
    exact paired_get t h
theorem paired_len {α β : Type} {F : α → β → Prop} {l₁ : List α} {l₂ : List β} (p : Paired F l₁ l₂) : l₁.length = l₂.length := p.length

/-- what the calls need of the stack around them -/
structure Room (A : Around) (n : Nat) : Prop where
  depth : A.depth + n < recursionLimit
  units : A.units + 10 * n + 50 < cLine
  handled : A.handled = none
theorem Room.deeper {A : Around} {n : Nat} (r : Room A (n + 1)) (env : Env) : Room (A.deeper env) n :=
  ⟨by have := r.depth; show A.depth + 1 + n < _; omega, by have := r.units; show A.units + 3 + 10 * n + 50 < _; omega, r.handled⟩
theorem Room.le {A : Around} {n k : Nat} (r : Room A n) (h : k ≤ n) : Room A k := ⟨by have := r.depth; omega, by have := r.units; omega, r.handled⟩
theorem Room.here {A : Around} {n : Nat} (r : Room A n) : A.depth < recursionLimit := by have := r.depth; omega

section
variable {prog : Program} {w : World} {A : Around} {E : Value → Shared → Prop} {s : Shared}

theorem wp_notIn {x c : Value} {d : PyData} {xs : List PyData} {n : Nat} {Q : Value → Shared → Prop} (R : Room A n) (hc : Den s.heap c (.list xs)) (hx : Den s.heap x d) (oxs : ∀ y ∈ xs, Ok y) (od : Ok d)
    (h : Q (.bool (!xs.any fun y => PyData.eqv y d)) s) : wpAny (model prog w) A (compareOp .NotIn x c) Q E s := by
  obtain ⟨as, rc⟩ := hc
  obtain ⟨bs, rx⟩ := hx
  exact SeqAt.notIn_list_reads rc rx (okAll_lay oxs) od.lay (by have := R.units; have := od.depth; omega) h

theorem dedup_call {a : Addr} {ds : List PyData} {n : Nat} {Q : Value → Shared → Prop} (G : Glo s.heap) (R : Room A (n + 1)) (hd : Den s.heap (.ref a) (.list ds)) (hok : ∀ d ∈ ds, Ok d) (hsz : ds.length ≤ 1000)
    (hQ : ∀ D s' (vs' : List Value), s'.heap.IsList D vs'.toArray → Paired (Den s.heap) vs' (dd [] ds) → s.heap.get? D = none → Keeps s s' → Q (.ref D) s') :
    wpAny (model prog w) A (call (.ref 62) [.ref a]) Q E s := by
  refine call_def G G.f62 R.here (binds := [("unhashable_params", .ref a)]) (fun _ => rfl) rfl fun L h₁ F => ?_
  obtain ⟨a', vs, e, hl, hp⟩ := hd.list_inv
  cases e
  refine wpAny_execs_cons (wpAny_Assign_Name (List_ (args_nil ?_)))
  refine newList_N F News.nil (fun h₂ F₂ N₂ => ?_) (by decide)
  have hD := (N₂ _ (.head _))
  have lD : h₂.IsList h₁.objs.size ([] : List Value).toArray := ⟨_, hD.1, rfl, _, rfl⟩
  have nD : s.heap.get? h₁.objs.size = none := hD.2.2
  have nDL : h₁.objs.size ≠ L := hD.2.1
  generalize h₁.objs.size = D at *
  refine stN F₂ N₂ fun h₃ F₃ N₃ => ?_
  have lD₃ : h₃.PlainList D ([] : List Value).toArray := ⟨_, (N₃ _ (.head _)).1⟩
  refine wpAny_execs_cons (wpAny_For (ld F₃ rfl (wpAny_pyIter_list (hl.at fun o e => F₃.keep _ o e) ?_)))
  have lt3 : ∀ b o, h₃.get? b = some o → b < h₃.objs.size := fun b o e => Heap.lt_size e
  have aI : a < h₃.objs.size := let ⟨o, ho, _⟩ := hl; lt3 a o (F₃.keep a o ho)
  have DI : D ≠ h₃.objs.size := Nat.ne_of_lt (let ⟨_, ho⟩ := lD₃; lt3 D _ ho)
  have LI : L ≠ h₃.objs.size := Nat.ne_of_lt F₃.ns.lt
  have nI : s.heap.get? h₃.objs.size = none := gone (fun b o e => ⟨o, F₃.keep b o e⟩) _ (fresh_size h₃)
  show codeAny (model prog w) _ (.forLoop _ (.ref h₃.objs.size) _ _ _) _ _
  have itI : (h₃.push { cls := .type "list_iterator", data := .fields #[.ref a, .int 0 0] }).IsListIter h₃.objs.size a 0 := ⟨_, Heap.get?_push_size _ rfl, rfl, rfl⟩
  have F₄ := F₃.push { cls := .type "list_iterator", data := .fields #[.ref a, .int 0 0] }
  have lD₄ : (h₃.push { cls := .type "list_iterator", data := .fields #[.ref a, .int 0 0] }).PlainList D ([] : List Value).toArray := lD₃.at fun o e => Heap.get?_push_of_some _ e
  generalize h₃.push { cls := .type "list_iterator", data := .fields #[.ref a, .int 0 0] } = h₄ at *
  generalize h₃.objs.size = I at *
  have W := Walks.list (prog := prog) (w := w) (A := A.deeper (envOf "_deduplicate_unhashable" (sScope (defAt 8)) L 62 (.ref 61))) R.handled I a (Nat.ne_of_lt aI) vs.toArray
  have hvl : vs.length ≤ 1000 := by rw [paired_len hp]; exact hsz
  refine codeAny_forLoop (fun k s' => ∃ h' tk m' i, ∃ ws : List Value, s' = { s with heap := h', toks := tk } ∧ Fr s.heap L h' m' ∧ m' "new_unhashable" = some (.ref D) ∧ h'.IsListIter I a i ∧ h'.PlainList D ws.toArray ∧
    Paired (Den s.heap) ws (dd [] (ds.take i)) ∧ i ≤ vs.length ∧ k = vs.length + 1 - i ∧ ws.length ≤ i) ?_ (vs.length + 1) ⟨h₄, _, _, 0, [], rfl, F₄, rfl, itI, lD₄, .nil, Nat.zero_le _, rfl, Nat.zero_le _⟩
  rintro k s' ⟨h', tk, m', i, ws, rfl, F', hm, hit, hw, hpw, hi, rfl, hlen⟩
  by_cases hlt : i < vs.length
  · refine W.item i _ _ _ (by simpa using hlt) ⟨hit, hl.at fun o e => F'.keep _ o e⟩ fun v h₁ tk₁ hv st₁ hk₁ => ?_
    have hk1 : ∀ b o, b ≠ I → h'.get? b = some o → h₁.get? b = some o := fun b o hb e => hk₁ b o (fun q => hb (List.mem_singleton.mp q)) e
    have hv' : vs[i]? = some v := by simpa using hv
    obtain ⟨d, hd', hvd⟩ := paired_get hp hv'
    have hdm : d ∈ ds := List.mem_of_getElem? hd'
    have F1 : Fr s.heap L h₁ m' := ⟨F'.ns.at' fun o e => hk1 _ o LI e, fun b o e => hk1 b o (fun q => by rw [q, nI] at e; cases e) (F'.keep b o e), F'.above⟩
    have hw1 : h₁.PlainList D ws.toArray := hw.at fun o e => hk1 _ o DI e
    have tk_eq : ds.take (i + 1) = ds.take i ++ [d] := by rw [List.take_add_one, hd']; rfl
    refine wpAny_assign_Name (wpAny_storeName_local rfl F1.ns (fun h₂ hn₂ hs₂ => ?_) rfl)
    have F2 := F1.set hn₂ hs₂
    have hw2 : h₂.PlainList D ws.toArray := hw1.extBut hs₂.extBut nDL
    have hit2 : h₂.IsListIter I a (i + 1) := st₁.1.extBut hs₂.extBut (Ne.symm LI)
    have hm2 : (fun x => if x = Str.ofString "t" then some v else m' x) (Str.ofString "new_unhashable") = some (.ref D) := by
      show (if Str.ofString "new_unhashable" = Str.ofString "t" then some v else m' "new_unhashable") = _
      rw [if_neg (by decide +kernel)]; exact hm
    have dl : Den h₂ (.ref D) (.list (dd [] (ds.take i))) := Den.list hw2.isList (hpw.mono fun v d x => x.keeps F2.keep)
    refine wpAny_execs_cons (wpAny_If (wpAny_isTrue_Compare1 (ld F2 rfl (ld F2 hm2 ?_))))
    refine wp_notIn (R.deeper _) dl (hvd.keeps F2.keep) (dd_take hok i) (hok d hdm) (wpAny_truthy_bool ?_)
    cases hb : (dd [] (ds.take i)).any fun y => PyData.eqv y d
    · show wpAny _ _ (execs _ _) _ _ _
      refine wpAny_execs_cons (wpAny_Expr (MethodCall_ (ld F2 hm2 ?_)))
      refine getMethod_list_append hw2.choose_spec rfl rfl (callWith_m (args_cons (ld F2 rfl (args_nil ?_))))
      refine wpAny_list_append_plain hw2 (fun h₃ hl₃ hs₃ => ?_) (by rw [List.size_toArray, sizeLine_eq]; omega)
      refine wpAny_execs_nil (wpAny_execs_nil ?_)
      refine ⟨vs.length + 1 - (i + 1), by omega, h₃, _, _, i + 1, ws ++ [v], rfl, ⟨F2.ns.sameBut hs₃ (Ne.symm nDL), fun b o e => hs₃.extBut b o (fun q => by rw [q, nD] at e; cases e) (F2.keep b o e), F2.above⟩, hm2, hit2.extBut hs₃.extBut (Ne.symm DI), by simpa using hl₃, ?_, hlt, rfl, by simp; omega⟩
      rw [tk_eq, dd_snoc, hb]
      exact Paired.snoc hpw hvd
    · refine wpAny_execs_nil (wpAny_execs_nil ?_)
      refine ⟨vs.length + 1 - (i + 1), by omega, h₂, _, _, i + 1, ws, rfl, F2, hm2, hit2, hw2, ?_, hlt, rfl, by omega⟩
      rw [tk_eq, dd_snoc, hb]
      exact hpw
  · have hin : i = vs.length := by omega
    subst hin
    refine W.done _ _ _ (by simpa using ⟨hit, hl.at fun o e => F'.keep _ o e⟩) fun h₁ tk₁ hk₁ => wpAny_execs_nil ?_
    have hk1 : ∀ b o, b ≠ I → h'.get? b = some o → h₁.get? b = some o := fun b o hb e => hk₁ b o (fun q => hb (List.mem_singleton.mp q)) e
    have F1 : Fr s.heap L h₁ m' := ⟨F'.ns.at' fun o e => hk1 _ o LI e, fun b o e => hk1 b o (fun q => by rw [q, nI] at e; cases e) (F'.keep b o e), F'.above⟩
    rw [List.take_of_length_le (by rw [paired_len hp]; exact Nat.le_refl _)] at hpw
    refine wpAny_execs_cons (wpAny_Return_some (ld F1 hm ⟨_, rfl, ?_⟩))
    exact hQ D _ ws (hw.at fun o e => hk1 _ o DI e).isList hpw nD (kp_fr F1)
end
end Mine

/-! part M15 -/
namespace Mine
open PySem.Calls

/-- a text that is short and of signs -/
structure Sm (n : Nat) (x : Str) : Prop where
  len : x.length ≤ n
  ok : ∀ c ∈ x.cps.toList, c < 0x110000

def Pieces (n : Nat) (l : List (Str × Tok)) : Prop := l.length ≤ n ∧ ∀ p ∈ l, Sm 10 p.1
theorem Pieces.snoc {n : Nat} {l : List (Str × Tok)} {x : Str} {t : Tok} (h : Pieces n l) (hx : Sm 10 x) : Pieces (n + 1) (l ++ [(x, t)]) :=
  ⟨by simp; exact h.1, fun p hp => (List.mem_append.mp hp).elim (h.2 p) fun q => by rw [List.mem_singleton.mp q]; exact hx⟩
theorem cat_small : ∀ {l : List (Str × Tok)}, (∀ p ∈ l, Sm 10 p.1) → (cat l).length ≤ 10 * l.length ∧ ∀ c ∈ cat l, c < 0x110000
  | [], _ => ⟨Nat.le_refl _, fun c hc => nomatch hc⟩
  | p :: l, h => by
    have ih := cat_small (l := l) fun q hq => h q (.tail _ hq)
    have hp := h p (.head _)
    have e : cat (p :: l) = p.1.cps.toList ++ cat l := by simp [cat]
    have hl : p.1.cps.toList.length ≤ 10 := by simpa [Str.length] using hp.len
    rw [e]
    refine ⟨by simp only [List.length_append, List.length_cons]; omega, fun c hc => ?_⟩
    rcases List.mem_append.mp hc with hc | hc
    · exact hp.ok c hc
    · exact ih.2 c hc

theorem one_piece {h : Heap} {T : Addr} {x : Str} {t : Tok} (hp : h.PlainList T [Value.str x t].toArray) (h1 : x.length ≤ 10) (h2 : ∀ c ∈ x.cps.toList, c < 0x110000) : ∃ l, h.PlainList T (strValues l).toArray ∧ Pieces 1 l :=
  ⟨[(x, t)], hp, by simp, fun p q => by rw [List.mem_singleton.mp q]; exact ⟨h1, h2⟩⟩

theorem closure_nil {scope : Scope} {env : Env} (hfree : (scope.names.all fun x => x.2 != .free) = true) : closureFor scope env = pure [] :=
  closureFor_none fun x hx => by have := List.all_eq_true.mp hfree x hx; simpa using this

section
variable {prog : Program} {w : World} {A : Around} {E : Value → Shared → Prop} {s : Shared}

theorem list_item {value slice : Expr} {l : Addr} {vs : List Value} {k : Int} {u : Tok} {v : Value} {Q : Value → Shared → Prop} (hl : s.heap.IsList l vs.toArray) (h0 : 0 ≤ k) (hk : k < 1000) (hx : vs[k.toNat]? = some v) (h : Q v s)
    (hs : subscripted slice false (.ref l) (.int k u) = operate [.ref l, .int k u] (getItem (.ref l) (.int k u)) := by with_unfolding_all rfl) :
    wpAny (model prog w) A (subscriptTail value slice (.ref l) (.int k u)) Q E s :=
  tail_any hl.typeIs slot_list_getitem.lookup (wpAny_getItem_list hl h0 (by omega) (by simpa using hx) h) hs

/-- nothing but the heap and the tokens has moved -/
def Ev (s s' : Shared) : Prop := ∃ h' tk, s' = { s with heap := h', toks := tk }
theorem Ev.refl (s : Shared) : Ev s s := ⟨s.heap, s.toks, rfl⟩
theorem Ev.trans {a b c : Shared} (x : Ev a b) (y : Ev b c) : Ev a c := by
  obtain ⟨h, t, rfl⟩ := x
  obtain ⟨h', t', rfl⟩ := y
  exact ⟨h', t', rfl⟩
theorem Ev.of {a b : Shared} (x : Keeps a b) : Ev a b := let ⟨h, t, e, _⟩ := x; ⟨h, t, e⟩
theorem Ev.keeps {a b : Shared} (x : Ev a b) (hk : ∀ b' o, a.heap.get? b' = some o → b.heap.get? b' = some o) : Keeps a b := by
  obtain ⟨h, t, rfl⟩ := x; exact ⟨h, t, rfl, hk⟩
/-- the same but at one place -/
structure Mv (L : Addr) (s s' : Shared) : Prop where
  ev : Ev s s'
  same : Heap.SameBut L s.heap s'.heap
theorem fr_kp {h₀ : Heap} {L : Addr} {m : Str → Option Value} {s' : Shared} (F : Fr h₀ L s.heap m) (k : Keeps s s') : Fr h₀ L s'.heap m :=
  ⟨F.ns.keeps (kp_heap k), fun b o e => kp_heap k b o (F.keep b o e), F.above⟩

theorem con_str {env : Env} {x : Str} {k : Nat} {pos : Pos} {Q : Value → Shared → Prop} (h : ∀ t s', Keeps s s' → Q (.str x t) s') : wpAny (model prog w) A (eval (.Constant (.str x) k pos) env) Q E s :=
  Constant_str (h _ _ (kp_toks _))
theorem con_int {env : Env} {i : Int} {k : Nat} {pos : Pos} {Q : Value → Shared → Prop} (h : ∀ t s', Keeps s s' → Q (.int i t) s') : wpAny (model prog w) A (eval (.Constant (.int i) k pos) env) Q E s :=
  wpAny_Constant_int (h _ _ (kp_toks _))
theorem new_list {vs : List Value} {Q : Value → Shared → Prop} (hsz : vs.length ≤ 1000) (h : ∀ D s', Keeps s s' → s'.heap.PlainList D vs.toArray → s.heap.get? D = none → Q (.ref D) s') : wpAny (model prog w) A (newList vs) Q E s :=
  wpAny_newObj_type (h _ { s with heap := s.heap.push { cls := .type "list", data := .seq vs.toArray } } ⟨_, s.toks, rfl, fun _ _ e => Heap.get?_push_of_some _ e⟩ ⟨_, Heap.get?_push_size _ rfl⟩ (fresh_size _)) (by show vs.toArray.size ≤ sizeLine; rw [List.size_toArray, sizeLine_eq]; omega)
/-- the state within a call that began at s: its frame L holds m -/
structure Now (s : Shared) (L : Addr) (m : Str → Option Value) (s' : Shared) : Prop where
  ev : Ev s s'
  F : Fr s.heap L s'.heap m
theorem Now.kp {s₀ s' s'' : Shared} {L : Addr} {m : Str → Option Value} (N : Now s₀ L m s') (k : Keeps s' s'') : Now s₀ L m s'' := ⟨N.ev.trans (.of k), fr_kp N.F k⟩
theorem Now.end {s₀ s' : Shared} {L : Addr} {m : Str → Option Value} (N : Now s₀ L m s') : Keeps s₀ s' := N.ev.keeps N.F.keep
theorem Now.glo {s₀ s' : Shared} {L : Addr} {m : Str → Option Value} (N : Now s₀ L m s') (G : Glo s₀.heap) : Glo s'.heap := G.keeps N.F.keep
theorem st_ {s₀ : Shared} {name : Str} {scope : Scope} {L a : Addr} {cd : Value} {m : Str → Option Value} {x : Str} {v : Value} {Q : Unit → Shared → Prop} (N : Now s₀ L m s)
    (h : ∀ s', Now s₀ L (fun y => if y = x then some v else m y) s' → Heap.SameBut L s.heap s'.heap → Q () s')
    (hk : scope.kind = .function := by rfl) (hl : (envOf name scope L a cd).kindOf x = some .local := by rfl) :
    wpAny (model prog w) A (storeName (envOf name scope L a cd) x v) Q E s :=
  wpAny_storeName_local hl N.F.ns (fun h' hn hs => h _ ⟨N.ev.trans ⟨_, _, rfl⟩, N.F.set hn hs⟩ hs)
    (by show (scope.kind == .class || (scope.kind == .module && L != mainGlobals)) = false; rw [hk]; rfl)
theorem call_now {a c : Addr} {name : Str} {st : Stmt} {args : List Value} {binds : List (Str × Value)} {Q : Value → Shared → Prop} (G : Glo s.heap) (f : FnAt s.heap a c name st) (hroom : A.depth < recursionLimit)
    (hbind : ∀ pm, bindArgs (docDef name (sArgs st) (sBody st) (sScope st) pm (.ref c) .none) ⟨args, []⟩ = pure binds)
    (hloc : ((binds.map (·.1)).all fun n => decide ((sScope st).names.lookup n = some .local)) = true)
    (h : ∀ L s', Now s L (fun x => binds.reverse.lookup x) s' →
      wpAny (model prog w) (A.deeper (envOf name (sScope st) L a (.ref c))) (execs (sBody st) (envOf name (sScope st) L a (.ref c)))
        (fun f s' => ∃ v, f = .ret v ∧ Q v s') (fun _ _ => False) s')
    (hco : (sScope st).isCoroutine = false := by rfl) (hgen : (sScope st).isGenerator = false := by rfl) (hk : (sScope st).kind = .function := by rfl)
    (hcell : ∀ x ∈ (sScope st).names, x.2 ≠ .cell := by decide) :
    wpAny (model prog w) A (call (.ref a) args) Q E s :=
  call_def G f hroom hbind hloc (fun L h₁ F => h L _ ⟨⟨_, _, rfl⟩, F⟩) hco hgen hk hcell
theorem mod_ {a b : Int} {t u : Tok} {Q : Value → Shared → Prop} (hb : b ≠ 0) (h : ∀ t s', Keeps s s' → Q (.int (a.fmod b) t) s') : wpAny (model prog w) A (binaryOp .Mod (.int a t) (.int b u)) Q E s :=
  mod_int' hb (h _ _ (kp_toks _))
theorem div2_ {a : Int} {t u : Tok} {Q : Value → Shared → Prop} (h : ∀ t s', Keeps s s' → Q (.int (a.fdiv 2) t) s') : wpAny (model prog w) A (binaryOp .FloorDiv (.int a t) (.int 2 u)) Q E s :=
  floordiv_int (by decide) (h _ _ (kp_toks _)) (Or.inl (PyProof.noPylong_of_log2 (by decide +kernel)))

theorem texts_call {a : Addr} {vs : List Value} {n : Nat} {Q : Value → Shared → Prop} (G : Glo s.heap) (R : Room A (n + 1)) (hl : s.heap.IsList a vs.toArray) (hi : ∀ v ∈ vs, ∃ k t, v = .int k t) (hsz : vs.length ≤ 63)
    (hQ : ∀ D s' x y, Sm 900 x → Sm 900 y → New s.heap s'.heap (.ref D) (.list [.str x, .str y]) → Keeps s s' → Q (.ref D) s') :
    wpAny (model prog w) A (call (.ref 74) [.ref a]) Q E s := by
  refine call_now G G.f74 R.here (binds := [("numbers", .ref a)]) (fun _ => rfl) rfl fun L s1 N => ?_
  refine wpAny_execs_cons ?_
  refine wpAny_Assign_Name ?_
  refine List_ ?_
  refine args_cons (con_str fun t0 s' k => ?_); replace N := N.kp k; clear k
  refine args_cons (con_str fun t1 s' k => ?_); replace N := N.kp k; clear k
  refine args_cons (con_str fun t2 s' k => ?_); replace N := N.kp k; clear k
  refine args_cons (con_str fun t3 s' k => ?_); replace N := N.kp k; clear k
  refine args_cons (con_str fun t4 s' k => ?_); replace N := N.kp k; clear k
  refine args_cons (con_str fun t5 s' k => ?_); replace N := N.kp k; clear k
  refine args_cons (con_str fun t6 s' k => ?_); replace N := N.kp k; clear k
  refine args_cons (con_str fun t7 s' k => ?_); replace N := N.kp k; clear k
  refine args_cons (con_str fun t8 s' k => ?_); replace N := N.kp k; clear k
  refine args_nil (new_list (by simp) fun P s2 k hP nP => ?_)
  have nP0 := gone (fun b o e => ⟨o, N.F.keep b o e⟩) _ nP
  replace N := N.kp k
  -- the menu: nine short texts
  obtain ⟨ps, hP, menu⟩ : ∃ ps : List Value, s2.heap.PlainList P ps.toArray ∧ ∀ i, i < 9 → ∃ x t, ps[i]? = some (.str x t) ∧ Sm 10 x := ⟨_, hP, fun i hi => by
    rcases i with _ | _ | _ | _ | _ | _ | _ | _ | _ | i
    all_goals first | exact ⟨_, _, rfl, ⟨by decide +kernel, by decide +kernel⟩⟩ | omega⟩
  refine st_ N fun s3 N3 hs3 => ?_
  have PL : P ≠ L := fun e => by
    obtain ⟨_, hp⟩ := hP
    obtain ⟨o, _, _, ho, hd, _⟩ := N.F.ns
    rw [e, ho] at hp; obtain rfl := Option.some.inj hp; cases hd
  replace hP : s3.heap.PlainList P ps.toArray := hP.extBut hs3.extBut PL
  refine wpAny_execs_cons ?_
  refine wpAny_Assign_Name ?_
  refine List_ ?_
  refine args_cons (List_ (args_cons (con_str fun t0 s4 k4 => args_nil (new_list (by simp) fun T0 s5 k5 hT0 nT0 => ?_))))
  refine args_cons (List_ (args_cons (con_str fun t1 s6 k6 => args_nil (new_list (by simp) fun T1 s7 k7 hT1 nT1 => args_nil (new_list (by simp) fun TT s8 k8 hTT nTT => ?_)))))
  have k45 := kp_trans k4 k5
  have k67 := kp_trans k6 k7
  have N5 := N3.kp k45
  have N7 := N5.kp k67
  have N8 := N7.kp k8
  have liveP : ∃ o, s3.heap.get? P = some o := let ⟨_, h⟩ := hP; ⟨_, h⟩
  have liveL : ∃ o, s3.heap.get? L = some o := let ⟨o, _, _, h, _⟩ := N3.F.ns; ⟨o, h⟩
  have ne0 : ∀ {b c : Addr} {h : Heap}, (∃ o, h.get? b = some o) → h.get? c = none → b ≠ c := fun ⟨o, h1⟩ h2 e => by rw [e, h2] at h1; cases h1
  have up : ∀ {b : Addr} {x y : Shared}, Keeps x y → (∃ o, x.heap.get? b = some o) → ∃ o, y.heap.get? b = some o := fun k ⟨o, h⟩ => ⟨o, kp_heap k _ o h⟩
  have liveT0 : ∃ o, s5.heap.get? T0 = some o := let ⟨_, h⟩ := hT0; ⟨_, h⟩
  have liveT1 : ∃ o, s7.heap.get? T1 = some o := let ⟨_, h⟩ := hT1; ⟨_, h⟩
  have P0 : P ≠ T0 := ne0 (up k4 liveP) nT0
  have L0 : L ≠ T0 := ne0 (up k4 liveL) nT0
  have P1 : P ≠ T1 := ne0 (up k6 (up k45 liveP)) nT1
  have L1 : L ≠ T1 := ne0 (up k6 (up k45 liveL)) nT1
  have T01 : T0 ≠ T1 := ne0 (up k6 liveT0) nT1
  have PT : P ≠ TT := ne0 (up k67 (up k45 liveP)) nTT
  have LT : L ≠ TT := ne0 (up k67 (up k45 liveL)) nTT
  have T0T : T0 ≠ TT := ne0 (up k67 liveT0) nTT
  have T1T : T1 ≠ TT := ne0 liveT1 nTT
  have n0 := gone (fun b o e => ⟨o, (N3.kp k4).F.keep b o e⟩) _ nT0
  have n1 := gone (fun b o e => ⟨o, (N5.kp k6).F.keep b o e⟩) _ nT1
  have nT := gone (fun b o e => ⟨o, N7.F.keep b o e⟩) _ nTT
  replace hP : s8.heap.PlainList P ps.toArray := hP.at fun o e => kp_heap k8 _ o (kp_heap k67 _ o (kp_heap k45 _ o e))
  obtain ⟨l0, hT0, hl0⟩ := one_piece (hT0.at fun o e => kp_heap k8 _ o (kp_heap k67 _ o e)) (by decide +kernel) (by decide +kernel)
  obtain ⟨l1, hT1, hl1⟩ := one_piece (hT1.at fun o e => kp_heap k8 _ o e) (by decide +kernel) (by decide +kernel)
  clear k4 k5 k6 k7 k8 k45 k67 N3 N5 N7 nT0 nT1 nTT liveP liveL liveT0 liveT1 hs3 N
  refine st_ N8 fun s9 N9 hs9 => ?_
  replace hP := hP.extBut hs9.extBut (Ne.symm (Ne.symm PL))
  replace hT0 := hT0.extBut hs9.extBut (Ne.symm L0)
  replace hT1 := hT1.extBut hs9.extBut (Ne.symm L1)
  replace hTT := hTT.extBut hs9.extBut (Ne.symm LT)
  clear N8 hs9
  refine wpAny_execs_cons ?_
  refine wpAny_For (ld N9.F rfl (wpAny_pyIter_list (hl.at fun o e => N9.F.keep _ o e) ?_))
  have lt9 : ∀ {b : Addr} {items : Array Value}, s9.heap.PlainList b items → b ≠ s9.heap.objs.size := fun ⟨_, e⟩ => Nat.ne_of_lt (Heap.lt_size e)
  have aI : a ≠ s9.heap.objs.size := let ⟨o, ho, _⟩ := hl; Nat.ne_of_lt (Heap.lt_size (N9.F.keep a o ho))
  have PI := lt9 hP
  have T0I := lt9 hT0
  have T1I := lt9 hT1
  have TTI := lt9 hTT
  have LI : L ≠ s9.heap.objs.size := Nat.ne_of_lt N9.F.ns.lt
  have nI : s.heap.get? s9.heap.objs.size = none := gone (fun b o e => ⟨o, N9.F.keep b o e⟩) _ (fresh_size s9.heap)
  obtain ⟨s10, hs10, N10, itI, kI⟩ : ∃ s10 : Shared, s10 = { s9 with heap := s9.heap.push { cls := .type "list_iterator", data := .fields #[.ref a, .int 0 0] } } ∧ Now s L _ s10 ∧ s10.heap.IsListIter s9.heap.objs.size a 0 ∧ Keeps s9 s10 :=
    have k : Keeps s9 { s9 with heap := s9.heap.push { cls := .type "list_iterator", data := .fields #[.ref a, .int 0 0] } } := ⟨_, s9.toks, rfl, fun _ _ e => Heap.get?_push_of_some _ e⟩
    ⟨_, rfl, N9.kp k, ⟨_, Heap.get?_push_size _ rfl, rfl, rfl⟩, k⟩
  rw [← hs10]
  clear hs10
  replace hP := hP.at fun o e => kp_heap kI _ o e
  replace hT0 := hT0.at fun o e => kp_heap kI _ o e
  replace hT1 := hT1.at fun o e => kp_heap kI _ o e
  replace hTT := hTT.at fun o e => kp_heap kI _ o e
  generalize s9.heap.objs.size = I at *
  clear N9 lt9 kI
  have W := Walks.list (prog := prog) (w := w) (A := A.deeper (envOf "_law_texts" (sScope (defAt 11)) L 74 (.ref 73))) R.handled I a aI vs.toArray
  refine codeAny_forLoop (fun k s' => ∃ m' i l0 l1, Now s L m' s' ∧ m' "texts" = some (.ref TT) ∧ m' "pieces" = some (.ref P) ∧ s'.heap.IsListIter I a i ∧ s'.heap.PlainList P ps.toArray ∧ s'.heap.PlainList TT [Value.ref T0, .ref T1].toArray ∧
    s'.heap.PlainList T0 (strValues l0).toArray ∧ s'.heap.PlainList T1 (strValues l1).toArray ∧ Pieces (i + 1) l0 ∧ Pieces (i + 1) l1 ∧ i ≤ vs.length ∧ k = vs.length + 1 - i) ?_ (vs.length + 1)
    ⟨_, 0, l0, l1, N10, rfl, rfl, itI, hP, hTT, hT0, hT1, hl0, hl1, Nat.zero_le _, rfl⟩
  clear hP hTT hT0 hT1 hl0 hl1 N10 itI l0 l1
  rintro k s' ⟨m', i, l0, l1, N, hmT, hmP, hit, hP, hTT, hT0, hT1, hl0, hl1, hle, rfl⟩
  by_cases hlt : i < vs.length
  · refine W.item i _ _ _ (by simpa using hlt) ⟨hit, hl.at fun o e => N.F.keep _ o e⟩ fun v h₁ tk₁ hv st₁ hk₁ => ?_
    have hk1 : ∀ b o, b ≠ I → s'.heap.get? b = some o → h₁.get? b = some o := fun b o hb e => hk₁ b o (fun q => hb (List.mem_singleton.mp q)) e
    have hv' : vs[i]? = some v := by simpa using hv
    obtain ⟨x, tx, rfl⟩ := hi v (List.mem_of_getElem? hv')
    have N1 : Now s L m' { s' with heap := h₁, toks := tk₁ } := ⟨N.ev.trans ⟨_, _, rfl⟩, ⟨N.F.ns.at' fun o e => hk1 _ o LI e, fun b o e => hk1 b o (fun q => by rw [q, nI] at e; cases e) (N.F.keep b o e), N.F.above⟩⟩
    refine wpAny_assign_Name (st_ N1 fun s2 N2 hs2 => ?_)
    replace hP := (hP.at fun o e => hk1 _ o PI e).extBut hs2.extBut PL
    replace hTT := (hTT.at fun o e => hk1 _ o TTI e).extBut hs2.extBut (Ne.symm LT)
    replace hT0 := (hT0.at fun o e => hk1 _ o T0I e).extBut hs2.extBut (Ne.symm L0)
    replace hT1 := (hT1.at fun o e => hk1 _ o T1I e).extBut hs2.extBut (Ne.symm L1)
    have hit2 : s2.heap.IsListIter I a (i + 1) := st₁.1.extBut hs2.extBut (Ne.symm LI)
    have hmT2 : (fun y => if y = Str.ofString "x" then some (Value.int x tx) else m' y) (Str.ofString "texts") = some (.ref TT) := by
      show (if Str.ofString "texts" = Str.ofString "x" then some (Value.int x tx) else m' "texts") = _
      rw [if_neg (by decide +kernel)]; exact hmT
    have hmP2 : (fun y => if y = Str.ofString "x" then some (Value.int x tx) else m' y) (Str.ofString "pieces") = some (.ref P) := by
      show (if Str.ofString "pieces" = Str.ofString "x" then some (Value.int x tx) else m' "pieces") = _
      rw [if_neg (by decide +kernel)]; exact hmP
    refine wpAny_execs_cons ?_
    refine wpAny_Expr ?_
    refine MethodCall_ ?_
    refine Subscript_ (ld N2.F hmT2 ?_)
    refine wpAny_BinOp (ld N2.F rfl (con_int fun t3 s3 k3 => mod_ (by decide) fun t4 s4 k4 => ?_))
    have k24 := kp_trans k3 k4
    have N4 := N2.kp k24
    obtain ⟨Tj, hTj, hj⟩ : ∃ Tj, [Value.ref T0, .ref T1][(x.fmod 2).toNat]? = some (.ref Tj) ∧ (Tj = T0 ∨ Tj = T1) := by
      have h1 := Int.fmod_nonneg_of_pos x (by decide : (0 : Int) < 2)
      have h2 := Int.fmod_lt_of_pos x (by decide : (0 : Int) < 2)
      rcases (by omega : (x.fmod 2).toNat = 0 ∨ (x.fmod 2).toNat = 1) with e | e <;> rw [e]
      · exact ⟨T0, rfl, .inl rfl⟩
      · exact ⟨T1, rfl, .inr rfl⟩
    refine list_item (hTT.isList.at fun o e => kp_heap k24 _ o e) (Int.fmod_nonneg_of_pos x (by decide)) (by have := Int.fmod_lt_of_pos x (by decide : (0 : Int) < 2); omega) hTj ?_
    have hTj' : ∃ lj, s4.heap.PlainList Tj (strValues lj).toArray ∧ Pieces (i + 1) lj := by
      rcases hj with rfl | rfl
      · exact ⟨l0, hT0.at fun o e => kp_heap k24 _ o e, hl0⟩
      · exact ⟨l1, hT1.at fun o e => kp_heap k24 _ o e, hl1⟩
    obtain ⟨lj, hLj, hlj⟩ := hTj'
    refine getMethod_list_append hLj.choose_spec rfl rfl (callWith_m (args_cons ?_))
    refine Subscript_ (ld N4.F hmP2 ?_)
    refine wpAny_BinOp (wpAny_BinOp (ld N4.F rfl (con_int fun t5 s5 k5 => div2_ fun t6 s6 k6 => con_int fun t7 s7 k7 => mod_ (by decide) fun t8 s8 k8 => ?_)))
    have k48 := kp_trans (kp_trans k5 k6) (kp_trans k7 k8)
    have k28 := kp_trans k24 k48
    have N8 := N4.kp k48
    have r0 := Int.fmod_nonneg_of_pos (x.fdiv 2) (by decide : (0 : Int) < 9)
    have r1 := Int.fmod_lt_of_pos (x.fdiv 2) (by decide : (0 : Int) < 9)
    obtain ⟨y, ty, hy, hym⟩ := menu ((x.fdiv 2).fmod 9).toNat (by omega)
    refine list_item (hP.isList.at fun o e => kp_heap k28 _ o e) r0 (by omega) hy (args_nil ?_)
    refine wpAny_list_append_plain (hLj.at fun o e => kp_heap k48 _ o e) (fun h₃ hl₃ hs₃ => ?_) (by rw [List.size_toArray, length_strValues, sizeLine_eq]; have := hlj.1; omega)
    rw [strValues_snoc] at hl₃
    have jL : Tj ≠ L := hj.elim (fun e => by rw [e]; exact Ne.symm L0) (fun e => by rw [e]; exact Ne.symm L1)
    have nj : s.heap.get? Tj = none := hj.elim (fun e => by rw [e]; exact n0) (fun e => by rw [e]; exact n1)
    have N9 : Now s L _ { s8 with heap := h₃ } := ⟨N8.ev.trans ⟨_, _, rfl⟩, ⟨N8.F.ns.sameBut hs₃ (Ne.symm jL), fun b o e => hs₃.extBut b o (fun q => by rw [q, nj] at e; cases e) (N8.F.keep b o e), N8.F.above⟩⟩
    have mv : ∀ {b : Addr} {items : Array Value}, b ≠ Tj → s2.heap.PlainList b items → h₃.PlainList b items := fun hb x => (x.at fun o e => kp_heap k28 _ o e).extBut hs₃.extBut hb
    have jI : I ≠ Tj := hj.elim (fun e => by rw [e]; exact Ne.symm T0I) (fun e => by rw [e]; exact Ne.symm T1I)
    have jP : P ≠ Tj := hj.elim (fun e => by rw [e]; exact P0) (fun e => by rw [e]; exact P1)
    have jT : TT ≠ Tj := hj.elim (fun e => by rw [e]; exact Ne.symm T0T) (fun e => by rw [e]; exact Ne.symm T1T)
    have it3 : h₃.IsListIter I a (i + 1) := (hit2.at fun o e => kp_heap k28 _ o e).extBut hs₃.extBut jI
    refine wpAny_execs_nil ?_
    have more : ∀ {l : List (Str × Tok)}, Pieces (i + 1) l → Pieces (i + 1 + 1) l := fun h => ⟨Nat.le_succ_of_le h.1, h.2⟩
    rcases hj with rfl | rfl
    · exact ⟨vs.length + 1 - (i + 1), by omega, _, i + 1, _, l1, N9, hmT2, hmP2, it3, mv jP hP, mv jT hTT, hl₃, mv (Ne.symm T01) hT1, hlj.snoc hym, more hl1, hlt, rfl⟩
    · exact ⟨vs.length + 1 - (i + 1), by omega, _, i + 1, l0, _, N9, hmT2, hmP2, it3, mv jP hP, mv jT hTT, mv T01 hT0, hl₃, more hl0, hlj.snoc hym, hlt, rfl⟩
  · have hin : i = vs.length := by omega
    subst hin
    refine W.done _ _ _ (by simpa using ⟨hit, hl.at fun o e => N.F.keep _ o e⟩) fun h₁ tk₁ hk₁ => wpAny_execs_nil ?_
    have hk1 : ∀ b o, b ≠ I → s'.heap.get? b = some o → h₁.get? b = some o := fun b o hb e => hk₁ b o (fun q => hb (List.mem_singleton.mp q)) e
    have N1 : Now s L m' { s' with heap := h₁, toks := tk₁ } := ⟨N.ev.trans ⟨_, _, rfl⟩, ⟨N.F.ns.at' fun o e => hk1 _ o LI e, fun b o e => hk1 b o (fun q => by rw [q, nI] at e; cases e) (N.F.keep b o e), N.F.above⟩⟩
    obtain ⟨s1, e1, N1, hTT, hT0, hT1⟩ : ∃ s1 : Shared, s1 = { s' with heap := h₁, toks := tk₁ } ∧ Now s L m' s1 ∧ s1.heap.PlainList TT [Value.ref T0, .ref T1].toArray ∧ s1.heap.PlainList T0 (strValues l0).toArray ∧ s1.heap.PlainList T1 (strValues l1).toArray :=
      ⟨_, rfl, N1, hTT.at fun o e => hk1 _ o TTI e, hT0.at fun o e => hk1 _ o T0I e, hT1.at fun o e => hk1 _ o T1I e⟩
    rw [← e1]
    clear e1
    refine wpAny_execs_cons ?_
    refine wpAny_Return_some ?_
    have c0 := cat_small hl0.2
    have c1 := cat_small hl1.2
    have b0 := hl0.1
    have b1 := hl1.1
    refine compL_value R.handled (closure_nil rfl) (by decide) rfl (by decide) rfl (ld N1.F hmT ?_)
    refine ⟨TT, _, fun _ => true, fun i => .str ⟨(cat (if i = 0 then l0 else l1)).toArray⟩, rfl, hTT.isList, by simp [sizeLine_eq], fun i => rfl, ⟨fun C i v s₃ m₃ E' _ _ _ _ _ => wpAny_pure ⟨rfl, kp_refl _⟩, fun C i v s₃ m₃ E' hC hv hp hn hm hk => ?_⟩, fun D s' hnew hD k => ?_⟩
    · obtain ⟨T, l, rfl, hT, hl, hc⟩ : ∃ T l, v = .ref T ∧ s1.heap.IsList T (strValues l).toArray ∧ l = (if i = 0 then l0 else l1) ∧ (cat l).length ≤ sizeLine := by
        rw [sizeLine_eq]
        rcases i with _ | _ | i
        · simp at hv; subst hv; exact ⟨T0, l0, rfl, hT0.isList, rfl, by omega⟩
        · simp at hv; subst hv; exact ⟨T1, l1, rfl, hT1.isList, rfl, by omega⟩
        · simp at hv
      refine MethodCall_ (con_str fun t4 s4 k4 => GM.join (callWith_m (args_cons ?_)))
      refine wpAny_Name (wpAny_loadName_local rfl rfl (hn.keeps (kp_heap k4)) hm (args_nil ?_)) (by decide)
      rw [show Str.ofString "" = ⟨#[]⟩ from by decide +kernel]
      refine sub_end (hT.at fun o e => kp_heap k4 _ o (hk _ o e)) hc fun t' k => ?_
      rw [← hl]
      exact ⟨New.str _ _, kp_trans k4 (kp_toks _)⟩
    · have sm : ∀ {l : List (Str × Tok)}, (cat l).length ≤ 10 * l.length ∧ (∀ c ∈ cat l, c < 1114112) → l.length ≤ 64 → Sm 900 ⟨(cat l).toArray⟩ := fun h hb => ⟨by simp [Str.length]; omega, by simpa using h.2⟩
      exact ⟨_, rfl, hQ D s' _ _ (sm c0 (by omega)) (sm c1 (by omega)) (hnew.base N1.F.keep) (kp_trans N1.end k)⟩
end
end Mine

/-! part M16 -/
namespace Mine
open PySem.Calls

/-- the turns of a comprehension over a range -/
structure TurnsR (prog : Program) (w : World) (A : Around) (env : Env) (scope : Scope) (cl : List (Str × Addr)) (x : Str) (ifs : List Expr) (elt : Expr) (n : Nat) (p : Nat → Bool)
    (f : Nat → PyData) (s₁ : Shared) : Prop where
  tests : ∀ C i t s₃ m₃ E', s₁.heap.get? C = none → i < n → s₃.heap.Ns C m₃ → m₃ x = some (.int (i : Int) t) → (∀ b o, s₁.heap.get? b = some o → s₃.heap.get? b = some o) →
    wpAny (model prog w) A (forIn ifs true fun c r => if r = true then do let ok ← isTrue c (compEnvC scope cl C env) (eval c (compEnvC scope cl C env)); pure (ForInStep.yield ok) else pure (ForInStep.yield r))
      (fun ok s₄ => ok = p i ∧ Keeps s₃ s₄) E' s₃
  elt : ∀ C i t s₃ m₃ E', s₁.heap.get? C = none → i < n → p i = true → s₃.heap.Ns C m₃ → m₃ x = some (.int (i : Int) t) → (∀ b o, s₁.heap.get? b = some o → s₃.heap.get? b = some o) →
    wpAny (model prog w) A (eval elt (compEnvC scope cl C env)) (fun y s₄ => New s₃.heap s₄.heap y (f i) ∧ Keeps s₃ s₄) E' s₃

section
variable {prog : Program} {w : World} {A : Around} {E : Value → Shared → Prop} {s : Shared}

theorem over_range {s₁ : Shared} {n : Nat} {env : Env} {scope : Scope} {cl : List (Str × Addr)} {x : Str} {ifs : List Expr} {elt : Expr} {p : Nat → Bool} {f : Nat → PyData}
    (T : TurnsR prog w A env scope cl x ifs elt n p f s₁) {I : Addr} {ob : Obj} (hI : I = s₁.heap.objs.size) :
    Turns prog w A env scope cl x ifs elt [I] (fun i v => i < n ∧ ∃ t, v = .int (0 + i * 1) t) p f { s₁ with heap := s₁.heap.push ob } := by
  have up : ∀ {g : Heap}, (∀ b o, b ∉ [I] → (s₁.heap.push ob).get? b = some o → g.get? b = some o) → ∀ b o, s₁.heap.get? b = some o → g.get? b = some o := fun hk b o e =>
    hk b o (fun q => by
      have hb := Heap.lt_size e
      rw [List.mem_singleton.mp q, hI] at hb
      exact Nat.lt_irrefl _ hb) (Heap.get?_push_of_some _ e)
  have nC : ∀ {C : Addr}, (s₁.heap.push ob).get? C = none → s₁.heap.get? C = none := fun e => gone (fun b o q => ⟨o, Heap.get?_push_of_some _ q⟩) _ e
  refine ⟨fun C i v s₃ m₃ E' hC hv hn hm hk => ?_, fun C i v s₃ m₃ E' hC hv hp hn hm hk => ?_⟩
  · obtain ⟨h1, t, rfl⟩ := hv
    exact T.tests C i t s₃ m₃ E' (nC hC) h1 hn (by rw [hm]; simp) (up hk)
  · obtain ⟨h1, t, rfl⟩ := hv
    exact T.elt C i t s₃ m₃ E' (nC hC) h1 hp hn (by rw [hm]; simp) (up hk)

theorem compR_assign {env : Env} {elt iter : Expr} {x y : Str} {px py : Pos} {ifs : List Expr} {scope : Scope} {cl : List (Str × Addr)} {pos spos : Pos} {Q : Flow → Shared → Prop} (hh : A.handled = none)
    (hsw : swapsWith (.ListComp elt [⟨.Name x px, iter, ifs, 0⟩] scope pos) (some (.Name y py)) spos.line env = pure true)
    (hclos : closureFor scope env = pure cl) (hcell : ∀ y ∈ scope.names, y.2 ≠ .cell) (hkind : scope.kind = .function)
    (hnames : ∀ y ∈ scope.names, y.2 = .local → scope.names.lookup y.1 = some .local) (hx : scope.names.lookup x = some .local)
    (hy : env.kindOf y = some .local) (hp : (env.scope.kind == .class || (env.scope.kind == .module && env.locals != env.globals)) = false)
    (h : wpAny (model prog w) A (eval iter env) (fun xv s₁ => ∃ r n t u v p f m, xv = .ref r ∧ IsRange s₁.heap r 0 ((n : Nat) : Int) 1 t u v ∧ n ≤ 1000 ∧ (∀ i, lst (f i) = true) ∧ s₁.heap.Ns env.locals m ∧ TurnsR prog w A env scope cl x ifs elt n p f s₁ ∧
      (∀ D h' tk, New s₁.heap h' (.ref D) (.list (((List.range n).filter p).map f)) → s₁.heap.get? D = none → h'.Ns env.locals (fun z => if z = y then some (.ref D) else m z) → (∀ b o, b ≠ env.locals → s₁.heap.get? b = some o → h'.get? b = some o) → Q .next { s₁ with heap := h', toks := tk })) E s)
    (hs : ∀ x, foldedSetIterable iter env x = pure x := by intro _; rfl) :
    wpAny (model prog w) A (exec (.Assign [.Name y py] (.ListComp elt [⟨.Name x px, iter, ifs, 0⟩] scope pos) spos) env) Q E s := by
  refine comp_assign hsw hclos hcell hkind hnames hx hy hp (wpAny_mono h (fun xv s₁ h₁ => ?_) fun _ _ e => e) hs
  obtain ⟨r, n, t, u, v, p, f, m, rfl, hr, hsz, hf, hn, T, hQ⟩ := h₁
  have hsm : Builtin.Range.small 0 (n : Int) 1 = true := small_one (by decide) (by decide) (by omega) (by omega)
  refine wpAny_pyIter_range hr hsm ?_
  have hN : Builtin.Range.rangeSize 0 (n : Int) 1 = n := by rw [rangeSize_nat]; simp
  rw [hN]
  have kp : ∀ b o, s₁.heap.get? b = some o → (s₁.heap.push { cls := .type "range_iterator", data := .fields #[rawInt 0, rawInt (n : Int), rawInt 1] }).get? b = some o := fun b o e => Heap.get?_push_of_some _ e
  refine ⟨_, _, _, n, _, _, p, f, m, rfl, (Walks.range hh s₁.heap.objs.size 0 1 n).bound, ?_, by rw [sizeLine_eq]; omega, hf, (by show IsRangeIter _ _ _ _ _; simpa using Heap.get?_push_size _ rfl), fun b hb => ?_, fun q => ?_, hn.keeps kp, over_range T rfl, fun D h' tk hnw hD hn' hk => ?_⟩
  · intro i g st b hb
    obtain rfl := List.mem_singleton.mp hb
    exact ⟨_, st⟩
  · show b < (s₁.heap.push _).objs.size
    rw [Heap.size_push, List.mem_singleton.mp hb]
    exact Nat.lt_succ_self _
  · have hb := hn.lt
    rw [List.mem_singleton.mp q] at hb
    exact Nat.lt_irrefl _ hb
  · refine hQ D _ _ (hnw.base kp) (gone (fun b o q => ⟨o, kp b o q⟩) _ hD) hn' fun b o hb e => hk b o hb (fun q => ?_) (kp b o e)
    have hb := Heap.lt_size e
    rw [List.mem_singleton.mp q] at hb
    exact Nat.lt_irrefl _ hb

/-- the head of a list up to a place -/
theorem take_list {env : Env} {value e : Expr} {p pos : Pos} {Q : Value → Shared → Prop}
    (h : wpAny (model prog w) A (eval value env) (fun o s₁ => ∃ l, ∃ vs : List Value, o = .ref l ∧ s₁.heap.IsList l vs.toArray ∧ vs.length ≤ 1000 ∧ wpAny (model prog w) A (eval e env) (fun u s₂ => ∃ k t, u = .int k t ∧ 0 ≤ k ∧ Keeps s₁ s₂ ∧
      ∀ D s', Keeps s₂ s' → s'.heap.IsList D (vs.take k.toNat).toArray → s₂.heap.get? D = none → Q (.ref D) s') E s₁) E s)
    (ht : ∀ o r, letTemporaryGo value o r = pure () := by intro _ _; rfl) :
    wpAny (model prog w) A (eval (.Subscript value (.Slice none (some e) none p) pos) env) Q E s := by
  refine wpAny_Subscript_Slice (T := "list") (id := "list.__getitem__") list_getitem_lookup (wpAny_mono h (fun o s₁ h₁ => ?_) fun _ _ x => x) ht
  obtain ⟨l, vs, rfl, hl, hsz, hu⟩ := h₁
  refine wpAny_Slice (wpAny_pure (wpAny_mono hu (fun u s₂ h₂ => wpAny_pure ?_) fun _ _ x => x))
  obtain ⟨k, t, rfl, h0, kp, hQ⟩ := h₂
  have hl2 : (s₂.heap.push { cls := .type "slice", data := .fields #[.none, .int k t, .none] }).IsList l vs.toArray := (hl.at fun o e => kp_heap kp _ o e).push _
  refine ⟨hl2.typeIs, wpAny_getItem_list_slice hl2 (Heap.IsSliceOf.new ..) .none (.int k t) .none (by simp) ?_ (by rw [List.size_toArray, sizeLine_eq]; omega)⟩
  obtain ⟨j, rfl⟩ := Int.eq_ofNat_of_zero_le h0
  rw [slicePick_upto']
  refine hQ _ _ ⟨_, s₂.toks, rfl, fun b o e => Heap.get?_push_of_some _ (Heap.get?_push_of_some _ e)⟩ ⟨_, Heap.get?_push_size _ rfl, rfl, _, rfl⟩ ?_
  exact gone (fun b o e => ⟨o, Heap.get?_push_of_some _ e⟩) _ (fresh_size _)
end
end Mine

/-! part M17 -/
namespace Mine

/-! the first one of all that are alike, plainly -/
section
variable {α β : Type} [DecidableEq α] [DecidableEq β]
def ddA (acc : List α) : List α → List α
  | [] => acc
  | a :: l => ddA (if a ∈ acc then acc else acc ++ [a]) l
theorem ddA_snoc : ∀ (l acc : List α) (a : α), ddA acc (l ++ [a]) = if a ∈ ddA acc l then ddA acc l else ddA acc l ++ [a]
  | [], _, _ => rfl
  | _ :: l, _, a => ddA_snoc l _ a
theorem ddA_mem : ∀ (l acc : List α) (a : α), a ∈ ddA acc l ↔ a ∈ acc ∨ a ∈ l
  | [], acc, a => by simp [ddA]
  | b :: l, acc, a => by
    rw [ddA, ddA_mem l]
    by_cases h : b ∈ acc
    · rw [if_pos h]
      constructor
      · rintro (x | x)
        · exact .inl x
        · exact .inr (.tail _ x)
      · rintro (x | x)
        · exact .inl x
        · rcases List.mem_cons.mp x with rfl | x
          · exact .inl h
          · exact .inr x
    · rw [if_neg h]
      simp only [List.mem_append, List.mem_cons, List.not_mem_nil, or_false, or_assoc]
theorem ddA_mem0 {l : List α} {a : α} : a ∈ ddA [] l ↔ a ∈ l := by rw [ddA_mem]; simp
theorem ddA_len : ∀ (l acc : List α), (ddA acc l).length ≤ acc.length + l.length
  | [], acc => by simp [ddA]
  | b :: l, acc => by
    rw [ddA]
    refine Nat.le_trans (ddA_len l _) ?_
    split <;> simp <;> omega
theorem ddA_nodup : ∀ (l acc : List α), acc.Nodup → (ddA acc l).Nodup
  | [], _, h => h
  | b :: l, acc, h => by
    rw [ddA]
    refine ddA_nodup l _ ?_
    split
    · exact h
    · rename_i hb
      rw [List.nodup_append]
      exact ⟨h, by simp, fun a ha c hc => by rw [List.mem_singleton.mp hc]; exact fun e => hb (e ▸ ha)⟩
theorem ddA_map {g : α → β} (hg : ∀ a b, g a = g b → a = b) : ∀ (l acc : List α), ddA (acc.map g) (l.map g) = (ddA acc l).map g
  | [], _ => rfl
  | b :: l, acc => by
    rw [ddA, List.map_cons, ddA]
    have e : g b ∈ acc.map g ↔ b ∈ acc := ⟨fun h => by obtain ⟨c, hc, q⟩ := List.mem_map.mp h; rwa [← hg _ _ q], fun h => List.mem_map_of_mem h⟩
    by_cases h : b ∈ acc
    · rw [if_pos h, if_pos (e.mpr h), ddA_map hg l acc]
    · rw [if_neg h, if_neg (fun q => h (e.mp q)), ← ddA_map hg l (acc ++ [b])]
      simp
theorem ddA_ne {l : List α} (h : l ≠ []) : ddA [] l ≠ [] := by
  cases l with
  | nil => exact absurd rfl h
  | cons a l => intro e; have : a ∈ ddA [] (a :: l) := ddA_mem0.mpr (.head _); rw [e] at this; cases this

/-- by the places -/
theorem ddA_places (d : α) (rs : List α) : ∀ n, n ≤ rs.length → (((List.range n).filter fun i => !decide (rs.getD i d ∈ rs.take i)).map fun i => rs.getD i d) = ddA [] (rs.take n)
  | 0, _ => rfl
  | n + 1, h => by
    have e : rs[n]? = some (rs.getD n d) := by rw [List.getD_eq_getElem?_getD]; simp [List.getElem?_eq_getElem (show n < rs.length by omega)]
    rw [List.range_succ, List.filter_append, List.map_append, ddA_places d rs n (by omega), List.take_add_one, e]
    show _ = ddA [] (rs.take n ++ [rs.getD n d])
    rw [ddA_snoc]
    by_cases hm : rs.getD n d ∈ rs.take n
    · rw [if_pos (ddA_mem0.mpr hm)]
      simp only [List.filter_cons, List.filter_nil]
      rw [decide_eq_true hm]; simp
    · rw [if_neg (fun q => hm (ddA_mem0.mp q))]
      simp only [List.filter_cons, List.filter_nil]
      rw [decide_eq_false hm]; simp
end

/-- a row as a datum; a row as a list of one -/
def K1 (r : List Nat) : PyData := .str (mk r)
def K2 (r : List Nat) : PyData := .list [.str (mk r)]
theorem str_beq (a b : Str) : (a == b) = decide (a = b) := by
  by_cases h : a = b
  · subst h; simp
  · simp [h]
theorem mk_eq {a b : List Nat} : mk a = mk b ↔ a = b := ⟨mk_inj, fun e => by rw [e]⟩
theorem K1_eqv (a b : List Nat) : PyData.eqv (K1 a) (K1 b) = decide (a = b) := by
  unfold K1; rw [PyData.eqv, str_beq]
  by_cases h : a = b
  · subst h; simp
  · simp [h, mk_eq]
theorem K2_eqv (a b : List Nat) : PyData.eqv (K2 a) (K2 b) = decide (a = b) := by
  unfold K2; rw [PyData.eqv, PyData.eqvAll, PyData.eqvAll, PyData.eqv, str_beq, Bool.and_true]
  by_cases h : a = b
  · subst h; simp
  · simp [h, mk_eq]
section
variable {K : List Nat → PyData} (hK : ∀ a b, PyData.eqv (K a) (K b) = decide (a = b))
include hK
theorem any_eqv (l : List (List Nat)) (a : List Nat) : ((l.map K).any fun y => PyData.eqv y (K a)) = decide (a ∈ l) := by
  induction l with
  | nil => rfl
  | cons b l ih =>
    rw [List.map_cons, List.any_cons, ih, hK]
    by_cases h : a = b
    · subst h; simp
    · have h' : ¬ b = a := fun e => h e.symm
      simp [h, h']
theorem dd_map : ∀ (l acc : List (List Nat)), dd (acc.map K) (l.map K) = (ddA acc l).map K
  | [], _ => rfl
  | a :: l, acc => by
    rw [List.map_cons, dd, any_eqv hK, ddA]
    by_cases h : a ∈ acc
    · rw [if_pos (decide_eq_true h), if_pos h, dd_map l acc]
    · rw [if_neg (by simp [h]), if_neg h, ← dd_map l (acc ++ [a])]
      simp
theorem eqvAll_refl : ∀ (l : List (List Nat)), PyData.eqvAll (l.map K) (l.map K) = true
  | [] => by simp [PyData.eqvAll]
  | a :: l => by rw [List.map_cons, PyData.eqvAll, hK, eqvAll_refl l]; simp
end
theorem K1_lst (r : List Nat) : lst (K1 r) = true := rfl
theorem K2_lst (r : List Nat) : lst (K2 r) = true := by simp [K2, lst, lstAll]

/-- rows as the walk meets them -/
structure Rw (B : Nat) (rs : List (List Nat)) : Prop where
  ne : rs ≠ []
  free : ∀ r ∈ rs, Free r
  len : rs.length ≤ 1000
  each : ∀ r ∈ rs, r.length ≤ B
  ok : ∀ r ∈ rs, ∀ c ∈ r, c < 0x110000
theorem Rw.dd {B : Nat} {rs : List (List Nat)} (h : Rw B rs) : Rw B (ddA [] rs) where
  ne := ddA_ne h.ne
  free r hr := h.free r (ddA_mem0.mp hr)
  len := by have := ddA_len rs []; have := h.len; simp at *; omega
  each r hr := h.each r (ddA_mem0.mp hr)
  ok r hr := h.ok r (ddA_mem0.mp hr)
theorem Rw.q {B : Nat} {rs : List (List Nat)} (h : Rw B rs) : Rw (B + 1) (rs.map q) where
  ne := by have := h.ne; simpa using this
  free r hr := by obtain ⟨a, ha, rfl⟩ := List.mem_map.mp hr; exact q_free (h.free a ha)
  len := by simpa using h.len
  each r hr := by
    obtain ⟨a, ha, rfl⟩ := List.mem_map.mp hr
    have := h.each a ha
    unfold Mine.q; split <;> simp <;> omega
  ok r hr := by
    obtain ⟨a, ha, rfl⟩ := List.mem_map.mp hr
    intro c hc
    unfold Mine.q at hc
    split at hc
    · rcases List.mem_cons.mp hc with rfl | hc
      · decide
      · exact h.ok a ha c hc
    · exact h.ok a ha c hc
theorem mk_ok {r : List Nat} (h : ∀ c ∈ r, c < 0x110000) : PyData.canLay0 (.str (mk r)) = true := by
  show PyData.strOk (mk r) = true
  unfold PyData.strOk
  rw [← Array.all_toList, mk_toList]
  exact List.all_eq_true.mpr fun c hc => decide_eq_true (h c hc)
theorem Rw.ok1 {B : Nat} {rs : List (List Nat)} (h : Rw B rs) : ∀ d ∈ rs.map K1, Ok d := fun d hd => by
  obtain ⟨r, hr, rfl⟩ := List.mem_map.mp hd
  exact ⟨mk_ok (h.ok r hr), rfl, by simp [K1, PyData.depth]⟩
theorem Rw.ok2 {B : Nat} {rs : List (List Nat)} (h : Rw B rs) : ∀ d ∈ rs.map K2, Ok d := fun d hd => by
  obtain ⟨r, hr, rfl⟩ := List.mem_map.mp hd
  exact ⟨by simp [K2, PyData.canLay0, PyData.canLayAll0]; have := mk_ok (h.ok r hr); simpa [PyData.canLay0] using this, K2_lst r, by simp [K2, PyData.depth, PyData.depthAll]⟩
theorem joinL_len (sep : List Nat) {B : Nat} (hs : sep.length ≤ 2) : ∀ {rs : List (List Nat)}, (∀ r ∈ rs, r.length ≤ B) → (joinL sep rs).length ≤ rs.length * (B + 2)
  | [], _ => by simp [joinL]
  | [r], h => by have := h r (.head _); simp [joinL]; omega
  | r :: y :: rs, h => by
    have h1 := h r (.head _)
    have h2 := joinL_len sep hs (rs := y :: rs) fun a ha => h a (.tail _ ha)
    simp only [joinL, List.length_append, List.length_cons] at *
    rw [Nat.add_mul]
    omega

/-- the rows of a short text -/
theorem rowsL_sum : ∀ x, ((rowsL x).map (·.length)).sum + (rowsL x).length ≤ x.length + 1 := by
  intro x
  fun_induction rowsL x with
  | case1 => simp
  | case2 => simp
  | case3 => simp
  | case4 r ih => simp at *; omega
  | case5 c d r h1 h2 ih => simp at *; omega
  | case6 c d r h1 h2 ih =>
    obtain ⟨a, as, e⟩ := rowsL_ne (d :: r)
    rw [e] at ih ⊢
    simp [addHead] at *; omega
theorem rowsL_chars : ∀ x, ∀ r ∈ rowsL x, ∀ c ∈ r, c ∈ x := by
  intro x
  fun_induction rowsL x with
  | case1 => simp
  | case2 => simp
  | case3 => simp
  | case4 r ih =>
    intro r' hr c hc
    rcases List.mem_cons.mp hr with rfl | hr
    · cases hc
    · exact .tail _ (.tail _ (ih r' hr c hc))
  | case5 c d r h1 h2 ih =>
    intro r' hr e he
    rcases List.mem_cons.mp hr with rfl | hr
    · cases he
    · exact .tail _ (ih r' hr e he)
  | case6 c d r h1 h2 ih =>
    obtain ⟨a, as, e⟩ := rowsL_ne (d :: r)
    rw [e] at ih ⊢
    intro r' hr e' he
    rcases List.mem_cons.mp hr with rfl | hr
    · rcases List.mem_cons.mp he with rfl | he
      · exact .head _
      · exact .tail _ (ih a (.head _) e' he)
    · exact .tail _ (ih r' (.tail _ hr) e' he)
theorem sum_ge {l : List (List Nat)} {r : List Nat} (h : r ∈ l) : r.length ≤ (l.map (·.length)).sum := by
  induction l with
  | nil => cases h
  | cons a l ih =>
    rw [List.map_cons, List.sum_cons]
    rcases List.mem_cons.mp h with rfl | h
    · omega
    · have := ih h; omega
theorem Rw.of {x : Str} (h1 : x.length ≤ 900) (h2 : ∀ c ∈ x.cps.toList, c < 0x110000) : Rw 1000 (rowsL x.cps.toList) where
  ne := rowsL_ne' _
  free := rowsL_free _
  len := by have := rowsL_sum x.cps.toList; simp [Str.length] at *; omega
  each r hr := by have := rowsL_sum x.cps.toList; have := sum_ge hr; simp [Str.length] at *; omega
  ok r hr c hc := h2 c (rowsL_chars _ r hr c hc)
end Mine

/-! part M18 -/
namespace Mine
open PySem.Calls

theorem Den.ext {h h' : Heap} {L : Addr} {m : Str → Option Value} {v : Value} {d : PyData} (x : Den h v d) (hl : lst d = true) (hn : h.Ns L m) (hk : ∀ b o, b ≠ L → h.get? b = some o → h'.get? b = some o) : Den h' v d := by
  obtain ⟨as, r⟩ := x
  refine ⟨as, reads_at r hl fun a ha o e => hk a o (fun q => ?_) e⟩
  obtain ⟨o', xs, n, e', ed⟩ := reads_live r hl a ha
  obtain ⟨o2, es, ep, e2, ed2, _⟩ := hn
  rw [q, e2] at e'
  obtain rfl := Option.some.inj e'
  rw [ed2] at ed; cases ed
theorem Now.upd {s₀ s₁ : Shared} {L : Addr} {m m' : Str → Option Value} {h' : Heap} {tk : Nat} (N : Now s₀ L m s₁) (hn : h'.Ns L m') (hk : ∀ b o, b ≠ L → s₁.heap.get? b = some o → h'.get? b = some o) : Now s₀ L m' { s₁ with heap := h', toks := tk } :=
  ⟨N.ev.trans ⟨_, _, rfl⟩, ⟨hn, fun b o e => hk b o (Nat.ne_of_lt (Nat.lt_of_lt_of_le (Heap.lt_size e) N.F.above)) (N.F.keep b o e), N.F.above⟩⟩
theorem cell_ext {h h' : Heap} {L c : Addr} {v : Option Value} (x : h.IsCell c v) (hc : c ≠ L) (hk : ∀ b o, b ≠ L → h.get? b = some o → h'.get? b = some o) : h'.IsCell c v :=
  let ⟨o, ho, hd⟩ := x; ⟨o, hk c o hc ho, hd⟩
theorem cell_kp {s s' : Shared} {c : Addr} {v : Option Value} (x : s.heap.IsCell c v) (k : Keeps s s') : s'.heap.IsCell c v := x.keeps (kp_heap k)

section
variable {prog : Program} {w : World} {A : Around} {E : Value → Shared → Prop} {s : Shared}

/-- a call of a def of the top some of whose names are cells -/
theorem call_nowC {a c : Addr} {name : Str} {st : Stmt} {args : List Value} {binds : List (Str × Value)} {Q : Value → Shared → Prop} (G : Glo s.heap) (f : FnAt s.heap a c name st) (hroom : A.depth < recursionLimit)
    (hbind : ∀ pm, bindArgs (docDef name (sArgs st) (sBody st) (sScope st) pm (.ref c) .none) ⟨args, []⟩ = pure binds)
    (hkind : ∀ n, ∀ x ∈ binds, (sScope st).names.lookup x.1 = some .local ∨ ((sScope st).names.lookup x.1 = some .cell ∧ ((cellsFrom n (sScope st).names []).lookup x.1).isSome = true))
    (h : ∀ L s', Now s L (bindL (envOfC name (sScope st) L a (.ref c)).kindOf binds fun _ => none) s' → Cl L (cellsFrom (L + 1) (sScope st).names []) s'.heap (bindC (envOfC name (sScope st) L a (.ref c)).kindOf binds fun _ => none) →
      wpAny (model prog w) (A.deeper (envOfC name (sScope st) L a (.ref c))) (execs (sBody st) (envOfC name (sScope st) L a (.ref c)))
        (fun f s' => ∃ v, f = .ret v ∧ Q v s') (fun _ _ => False) s')
    (hco : (sScope st).isCoroutine = false := by rfl) (hgen : (sScope st).isGenerator = false := by rfl) (hk : (sScope st).kind = .function := by rfl) :
    wpAny (model prog w) A (call (.ref a) args) Q E s := by
  obtain ⟨o, pm, ho, hd, hcd⟩ := f
  refine wpAny_call (call_cells_ret hroom ho hd G.lim hcd (hbind pm) (hkind _) (fun h₁ tk F X => ?_) hco hgen hk)
  refine wpAny_mono (h _ _ ⟨⟨h₁, tk, rfl⟩, F⟩ X) (fun f s' hf => ?_) fun _ _ x => x
  obtain ⟨v, rfl, hq⟩ := hf
  exact hq

theorem stC_ {s₀ : Shared} {name : Str} {scope : Scope} {L a : Addr} {cd : Value} {m : Str → Option Value} {x : Str} {v : Value} {Q : Unit → Shared → Prop} (N : Now s₀ L m s)
    (h : ∀ s', Now s₀ L (fun y => if y = x then some v else m y) s' → (∀ b o, b ≠ L → s.heap.get? b = some o → s'.heap.get? b = some o) → Q () s')
    (hk : scope.kind = .function := by rfl) (hl : (envOfC name scope L a cd).kindOf x = some .local := by rfl) :
    wpAny (model prog w) A (storeName (envOfC name scope L a cd) x v) Q E s :=
  wpAny_storeName_local hl N.F.ns (fun h' hn hs => h _ ⟨N.ev.trans ⟨_, _, rfl⟩, N.F.set hn hs⟩ fun b o hb e => hs.extBut b o hb e)
    (by show (scope.kind == .class || (scope.kind == .module && L != mainGlobals)) = false; rw [hk]; rfl)

theorem ldF_ {env : Env} {scope : Scope} {cl : List (Str × Addr)} {C c : Addr} {x : Str} {pos : Pos} {v : Value} {Q : Value → Shared → Prop} (hv : s.heap.IsCell c (some v)) (h : Q v s)
    (hk : (compEnvC scope cl C env).scope.kind = .function := by rfl) (hl : (compEnvC scope cl C env).kindOf x = some .cell := by rfl) (hc : cl.lookup x = some c := by rfl) (hd : (x == ("__debug__" : Str)) = false := by decide) :
    wpAny (model prog w) A (eval (.Name x pos) (compEnvC scope cl C env)) Q E s := wpAny_Name (wpAny_loadName_cell hk hl hc hv h) hd
theorem ldV_ {env : Env} {scope : Scope} {cl : List (Str × Addr)} {C : Addr} {m : Str → Option Value} {x : Str} {pos : Pos} {v : Value} {Q : Value → Shared → Prop} (hn : s.heap.Ns C m) (hv : m x = some v) (h : Q v s)
    (hk : (compEnvC scope cl C env).scope.kind = .function := by rfl) (hl : (compEnvC scope cl C env).kindOf x = some .local := by rfl) (hd : (x == ("__debug__" : Str)) = false := by decide) :
    wpAny (model prog w) A (eval (.Name x pos) (compEnvC scope cl C env)) Q E s := wpAny_Name (wpAny_loadName_local hk hl hn hv h) hd
theorem len_ {l : Addr} {vs : List Value} {Q : Value → Shared → Prop} (hl : s.heap.IsList l vs.toArray) (hsz : vs.length ≤ 1000) (h : ∀ t s', Keeps s s' → Q (.int (vs.length : Int) t) s') : wpAny (model prog w) A (call (.builtin "len") [.ref l]) Q E s :=
  call_len_list hl (by simp; omega) (by simpa using h _ _ (kp_toks _))
theorem range_ {n : Int} {t : Tok} {Q : Value → Shared → Prop} (h : ∀ r s' t u v, Keeps s s' → IsRange s'.heap r 0 n 1 t u v → Q (.ref r) s') : wpAny (model prog w) A (call (.type "range") [.int n t]) Q E s :=
  call_range_1 (h _ _ _ _ _ (kp_push _ _) (IsRange.new ..))
theorem strItem {l : List (Str × Tok)} {rs : List (List Nat)} (e : l.map (·.1) = rs.map mk) {i : Nat} (hi : i < rs.length) : ∃ t, (strValues l)[i]? = some (.str (mk (rs.getD i [])) t) := by
  have hl : l.length = rs.length := by simpa using congrArg List.length e
  have h1 : (l.map (·.1))[i]? = (rs.map mk)[i]? := by rw [e]
  rw [List.getElem?_map, List.getElem?_map, List.getElem?_eq_getElem (by omega), List.getElem?_eq_getElem hi] at h1
  simp only [Option.map_some, Option.some.injEq] at h1
  refine ⟨l[i].2, ?_⟩
  rw [strValues, List.getElem?_map, List.getElem?_eq_getElem (by omega), List.getD_eq_getElem?_getD, List.getElem?_eq_getElem hi]
  simp [h1]
theorem K1_map (rs : List (List Nat)) : rs.map K1 = (rs.map mk).map .str := by simp [K1, Function.comp_def]

theorem den_rows {h : Heap} {D : Addr} {l : List (Str × Tok)} {rs : List (List Nat)} (hl : h.IsList D (strValues l).toArray) (e : l.map (·.1) = rs.map mk) : Den h (.ref D) (.list (rs.map K1)) := by
  have := Den.list hl ((paired_strs h h l).mono fun _ _ x => x.den)
  rw [K1_map, ← e, List.map_map]
  exact this
theorem take_rows {l : List (Str × Tok)} {rs : List (List Nat)} (e : l.map (·.1) = rs.map mk) (i : Nat) : (strValues l).take i = strValues (l.take i) ∧ (l.take i).map (·.1) = (rs.take i).map mk := by
  refine ⟨by simp [strValues, List.map_take], ?_⟩
  rw [List.map_take, e, List.map_take]

/-- a comprehension over a list, bound to a name of the frame -/
theorem compL_now {s₀ : Shared} {L : Addr} {m : Str → Option Value} {env : Env} {elt iter : Expr} {x y : Str} {px py : Pos} {ifs : List Expr} {scope : Scope} {cl : List (Str × Addr)} {pos spos : Pos} {Q : Flow → Shared → Prop} (N : Now s₀ L m s) (hh : A.handled = none)
    (hsw : swapsWith (.ListComp elt [⟨.Name x px, iter, ifs, 0⟩] scope pos) (some (.Name y py)) spos.line env = pure true)
    (hclos : closureFor scope env = pure cl) (hcell : ∀ y ∈ scope.names, y.2 ≠ .cell) (hkind : scope.kind = .function)
    (hnames : ∀ y ∈ scope.names, y.2 = .local → scope.names.lookup y.1 = some .local) (hx : scope.names.lookup x = some .local)
    (hy : env.kindOf y = some .local) (hp : (env.scope.kind == .class || (env.scope.kind == .module && env.locals != env.globals)) = false) (hL : env.locals = L)
    (h : wpAny (model prog w) A (eval iter env) (fun xv s₁ => ∃ a vs p f, xv = .ref a ∧ Keeps s s₁ ∧ s₁.heap.IsList a vs.toArray ∧ vs.length ≤ sizeLine ∧ (∀ i, lst (f i) = true) ∧ TurnsL prog w A env scope cl x ifs elt vs p f s₁ ∧
      (∀ D s', Now s₀ L (fun z => if z = y then some (.ref D) else m z) s' → New s₁.heap s'.heap (.ref D) (.list (((List.range vs.length).filter p).map f)) → s₁.heap.get? D = none → (∀ b o, b ≠ L → s₁.heap.get? b = some o → s'.heap.get? b = some o) → Q .next s')) E s)
    (hs : ∀ x, foldedSetIterable iter env x = pure x := by intro _; rfl) :
    wpAny (model prog w) A (exec (.Assign [.Name y py] (.ListComp elt [⟨.Name x px, iter, ifs, 0⟩] scope pos) spos) env) Q E s := by
  refine compL_assign hh hsw hclos hcell hkind hnames hx hy hp (wpAny_mono h (fun xv s₁ h₁ => ?_) fun _ _ e => e) hs
  obtain ⟨a, vs, p, f, rfl, k, hl, hsz, hf, T, hQ⟩ := h₁
  subst hL
  have N1 := N.kp k
  exact ⟨a, vs, p, f, m, rfl, hl, hsz, hf, N1.F.ns, T, fun D h' tk hn hD hns hk => hQ D _ (N1.upd hns hk) hn hD hk⟩
theorem compR_now {s₀ : Shared} {L : Addr} {m : Str → Option Value} {env : Env} {elt iter : Expr} {x y : Str} {px py : Pos} {ifs : List Expr} {scope : Scope} {cl : List (Str × Addr)} {pos spos : Pos} {Q : Flow → Shared → Prop} (N : Now s₀ L m s) (hh : A.handled = none)
    (hsw : swapsWith (.ListComp elt [⟨.Name x px, iter, ifs, 0⟩] scope pos) (some (.Name y py)) spos.line env = pure true)
    (hclos : closureFor scope env = pure cl) (hcell : ∀ y ∈ scope.names, y.2 ≠ .cell) (hkind : scope.kind = .function)
    (hnames : ∀ y ∈ scope.names, y.2 = .local → scope.names.lookup y.1 = some .local) (hx : scope.names.lookup x = some .local)
    (hy : env.kindOf y = some .local) (hp : (env.scope.kind == .class || (env.scope.kind == .module && env.locals != env.globals)) = false) (hL : env.locals = L)
    (h : wpAny (model prog w) A (eval iter env) (fun xv s₁ => ∃ r n t u v p f, xv = .ref r ∧ Keeps s s₁ ∧ IsRange s₁.heap r 0 ((n : Nat) : Int) 1 t u v ∧ n ≤ 1000 ∧ (∀ i, lst (f i) = true) ∧ TurnsR prog w A env scope cl x ifs elt n p f s₁ ∧
      (∀ D s', Now s₀ L (fun z => if z = y then some (.ref D) else m z) s' → New s₁.heap s'.heap (.ref D) (.list (((List.range n).filter p).map f)) → s₁.heap.get? D = none → (∀ b o, b ≠ L → s₁.heap.get? b = some o → s'.heap.get? b = some o) → Q .next s')) E s)
    (hs : ∀ x, foldedSetIterable iter env x = pure x := by intro _; rfl) :
    wpAny (model prog w) A (exec (.Assign [.Name y py] (.ListComp elt [⟨.Name x px, iter, ifs, 0⟩] scope pos) spos) env) Q E s := by
  refine compR_assign hh hsw hclos hcell hkind hnames hx hy hp (wpAny_mono h (fun xv s₁ h₁ => ?_) fun _ _ e => e) hs
  obtain ⟨r, n, t, u, v, p, f, rfl, k, hl, hsz, hf, T, hQ⟩ := h₁
  subst hL
  have N1 := N.kp k
  exact ⟨r, n, t, u, v, p, f, m, rfl, hl, hsz, hf, N1.F.ns, T, fun D h' tk hn hD hns hk => hQ D _ (N1.upd hns hk) hn hD hk⟩
theorem range_all {f : Nat → PyData} {K : List Nat → PyData} {rs : List (List Nat)} (hf : f = fun i => K (rs.getD i [])) (n : Nat) (hn : n = rs.length) : ((List.range n).filter fun _ => true).map f = rs.map K := by
  subst hn hf
  apply List.ext_getElem?
  intro i
  rw [List.filter_eq_self.mpr (by simp), List.getElem?_map, List.getElem?_map]
  by_cases hi : i < rs.length
  · rw [List.getElem?_range hi, List.getElem?_eq_getElem hi]; simp [List.getD_eq_getElem?_getD, List.getElem?_eq_getElem hi]
  · rw [List.getElem?_eq_none (by simpa using hi), List.getElem?_eq_none (by simpa using hi)]; rfl

theorem callWith_f {env : Env} {h₀ : Heap} {f c : Addr} {name : Str} {st : Stmt} {pos : Pos} {e : Expr} {rest : List Expr} {Q : Value → Shared → Prop} (fn : FnAt h₀ f c name st)
    (h : wpAny (model prog w) A (spliced (backTo pos (starEach (e :: rest) env))) (fun vs s₁ => (∀ b o, h₀.get? b = some o → s₁.heap.get? b = some o) ∧ wpAny (model prog w) A (call (.ref f) vs) Q E s₁) E s)
    (he : starEach (e :: rest) env = (false, eval e env) :: starEach rest env := by rfl) :
    wpAny (model prog w) A (callWith pos (.ref f) [] (backTo pos (starEach (e :: rest) env)) []) Q E s := by
  obtain ⟨o, pm, ho, hd, _⟩ := fn
  exact callWith_def hd (wpAny_mono h (fun vs s₁ x => ⟨x.1 _ _ ho, x.2⟩) fun _ _ x => x) he
theorem type_list {l : Addr} {items : Array Value} {Q : Value → Shared → Prop} (hl : s.heap.IsList l items) (h : Q (.type "list") s) : wpAny (model prog w) A (call (.type "type") [.ref l]) Q E s := by
  obtain ⟨o, ho, hc, _⟩ := hl
  obtain ⟨hh, g, d, t, os⟩ := s
  exact call_type_obj ho (by rw [hc]; decide) (by rw [hc]; exact h)
theorem wp_ne {x y : Value} {d e : PyData} {n : Nat} {Q : Value → Shared → Prop} (R : Room A n) (hx : Den s.heap x d) (hy : Den s.heap y e) (od : d.canLay0 = true) (oe : e.canLay0 = true) (dd : d.depth ≤ 10)
    (h : Q (.bool (!PyData.eqv d e)) s) : wpAny (model prog w) A (compareOp .NotEq x y) Q E s := by
  obtain ⟨as, rc⟩ := hx
  obtain ⟨bs, rx⟩ := hy
  exact SeqAt.compareNe_reads rc rx od oe (by have := R.units; omega) h
theorem lay_list {ds : List PyData} (h : ∀ d ∈ ds, Ok d) : (PyData.list ds).canLay0 = true := by simp only [PyData.canLay0]; exact okAll_lay h
theorem depth_list {ds : List PyData} (h : ∀ d ∈ ds, Ok d) : (PyData.list ds).depth ≤ 4 := by have := okAll_depth h; simp only [PyData.depth]; omega
theorem eqv_list {K : List Nat → PyData} (hK : ∀ a b, PyData.eqv (K a) (K b) = decide (a = b)) (l : List (List Nat)) : PyData.eqv (.list (l.map K)) (.list (l.map K)) = true := by rw [PyData.eqv]; exact eqvAll_refl hK l

theorem den_live {h : Heap} {a : Addr} {ds : List PyData} (x : Den h (.ref a) (.list ds)) : ∃ o, h.get? a = some o ∧ o.cls = .type "list" := by
  obtain ⟨_, _, e, ⟨o, ho, hc, _⟩, _⟩ := x.list_inv
  cases e
  exact ⟨o, ho, hc⟩

theorem fixL_len : ∀ x, (fixL x).length ≤ 2 * x.length := by
  intro x
  fun_induction fixL x with
  | case1 => simp
  | case2 => simp
  | case3 => simp
  | case4 r ih => simp; omega
  | case5 c d r h1 h2 ih => simp at *; omega
  | case6 c d r h1 h2 ih => simp at *; omega
theorem qGo_len : ∀ (x : List Nat) (b : Bool), (qGo b x).length ≤ 2 * x.length
  | [], _ => by simp [qGo]
  | c :: r, b => by
    rw [qGo]
    split
    · have := qGo_len r false; simp; omega
    · have := qGo_len r (c == 10); simp; omega
theorem size_toList (x : Str) : x.cps.size = x.cps.toList.length := by simp
/-- every end made both -/
theorem fix_text {x : Str} {t : Tok} {Q : Value → Shared → Prop} (G : Glo s.heap) (hroom : A.depth < recursionLimit) (hx : x.length ≤ 1100000) (hQ : ∀ t' s', Keeps s s' → Q (.str (mk (fixL x.cps.toList)) t') s') :
    wpAny (model prog w) A (call (.ref 55) [.str x t]) Q E s := by
  have hs : x.cps.size ≤ 1100000 := hx
  have hl := fixL_len x.cps.toList
  have S := subst2 x.cps x.cps.size 0 (by omega)
  rw [List.drop_zero] at S
  rw [← size_toList] at hl
  exact fix_call G hroom (by rw [sizeLine_eq]; omega) S (by rw [sizeLine_eq]; omega) hQ
/-- the quoted text -/
theorem quote_text {x : Str} {t : Tok} {Q : Value → Shared → Prop} (G : Glo s.heap) (hroom : A.depth < recursionLimit) (hx : x.length ≤ 1100000) (hQ : ∀ t' s', Keeps s s' → Q (.str (mk (qGo true (fixL x.cps.toList))) t') s') :
    wpAny (model prog w) A (call (.ref 48) [.str x t]) Q E s := by
  have hs : x.cps.size ≤ 1100000 := hx
  have hl := fixL_len x.cps.toList
  have hq := qGo_len (fixL x.cps.toList) true
  have S := subst2 x.cps x.cps.size 0 (by omega)
  rw [List.drop_zero] at S
  have S' := subst1 (fixL x.cps.toList).toArray (fixL x.cps.toList).length 0 (by simp)
  rw [List.drop_zero] at S'
  replace S' : Subst pat1 (fixL x.cps.toList).toArray [46, 46] 0 (qGo true (fixL x.cps.toList)) := S'
  rw [← size_toList] at hl
  exact quote_call G hroom (by rw [sizeLine_eq]; omega) (by rw [sizeLine_eq]; omega) (by rw [sizeLine_eq]; omega) S S' hQ
/-- rows laid together -/
theorem join_rows {D : Addr} {l : List (Str × Tok)} {rs : List (List Nat)} {sep : Str} {t : Tok} {B : Nat} {Q : Value → Shared → Prop} (hl : s.heap.IsList D (strValues l).toArray) (e : l.map (·.1) = rs.map mk) (hr : Rw B rs) (hB : B ≤ 1001) (hs : sep.length ≤ 2)
    (hQ : ∀ t' s', Keeps s s' → Q (.str (mk (joinL sep.cps.toList rs)) t') s') : wpAny (model prog w) A (call (.builtin "str.join") [.str sep t, .ref D]) Q E s := by
  refine SC.join hl e ?_ fun t' k => ?_
  · unfold JoinOk
    rw [StrLaws.joinTotal]
    unfold Builtin.Str.tooLong
    have h1 := StrLaws.sumLen_le (B := 1001) (rs.map mk) fun y hy => by
      obtain ⟨r, hr', rfl⟩ := List.mem_map.mp hy
      have := hr.each r hr'
      simp [mk, Str.length]; omega
    have h2 := hr.len
    have h3 : (rs.map mk).length * sep.length ≤ (rs.map mk).length * 2 := Nat.mul_le_mul_left _ hs
    rw [List.length_map] at h1 h3 ⊢
    simp only [Bool.not_eq_true', decide_eq_false_iff_not, sizeLine_eq]
    omega
  · have e' : Txt.join sep (rs.map mk) = mk (joinL sep.cps.toList rs) := by
      apply Str.ext'; apply Array.ext'
      rw [txtJoin_toList, mk_toList, List.map_map]
      congr 1
      have : ((fun (x : Str) => x.cps.toList) ∘ mk) = _root_.id := by funext r; exact mk_toList r
      rw [this]; simp
    rw [e']
    exact hQ t' _ (kp_toks _)

theorem told_call {a b : Addr} {rs : List (List Nat)} {n : Nat} {Q : Value → Shared → Prop} (G : Glo s.heap) (R : Room A (n + 3)) (ha : Den s.heap (.ref a) (.list (rs.map K1))) (hb : Den s.heap (.ref b) (.list ((rs.map q).map K1))) (hr : Rw 1000 rs)
    (hQ : ∀ s', Keeps s s' → Q (.bool true) s') : wpAny (model prog w) A (call (.ref 86) [.ref a, .ref b]) Q E s := by
  refine call_nowC G G.f86 R.here (binds := [("rows", .ref a), ("quoted", .ref b)]) (fun _ => rfl) ?_ fun L s1 N X => ?_
  · intro n x hx
    rcases List.mem_cons.mp hx with rfl | hx
    · exact .inr ⟨rfl, rfl⟩
    · rw [List.mem_singleton.mp hx]; exact .inl rfl
  have hc : s1.heap.IsCell (L + 1) (some (.ref a)) := X.cell "rows" (L + 1) rfl
  have cL : L + 1 ≠ L := Nat.succ_ne_self L
  clear X
  have R1 := R.deeper (envOfC "_law_told" (sScope (defAt 13)) L 86 (.ref 85))
  -- due
  refine wpAny_execs_cons ?_
  refine compR_now N R1.handled rfl (cl := [("rows", L + 1)]) rfl (by decide) rfl (by decide) rfl rfl rfl rfl ?_
  obtain ⟨mg, hg0, _, _, _, g48, _, g62, _, _, _, _, mlen, mrange, mlist, mtype, _⟩ := id G.g
  obtain ⟨mb, hb0, blen, brange, blist, btype, _⟩ := id G.b
  have hg := hg0.keeps N.F.keep
  have hb' := hb0.keeps N.F.keep
  obtain ⟨a', l, e, hl0, hle⟩ := den_strs_inv (K1_map rs ▸ ha)
  cases e
  have hlen : (strValues l).length = rs.length := by rw [length_strValues]; simpa using congrArg List.length hle
  have hl1 : s1.heap.IsList a (strValues l).toArray := hl0.at fun o e => N.F.keep _ o e
  refine Call_ (Name_function_global rfl rfl (loadGlobal_builtin hg mrange hb' brange (callWith_type1 (args_cons (Call_ ?_)))))
  refine Name_function_global rfl rfl (loadGlobal_builtin hg mlen hb' blen (callWith_m (args_cons ?_)))
  refine wpAny_Name (wpAny_loadName_cell rfl rfl (c := L + 1) rfl hc (args_nil ?_)) (by decide)
  refine len_ hl1 (by rw [hlen]; exact hr.len) fun t2 s2 k2 => args_nil ?_
  refine range_ fun r s3 t u v k3 hR => ?_
  have k13 := kp_trans k2 k3
  refine ⟨r, rs.length, t, u, v, fun i => !decide (rs.getD i [] ∈ rs.take i), fun i => K1 (rs.getD i []), rfl, k13, by rw [← hlen]; exact hR, hr.len, fun i => rfl, ⟨fun C i t s₃ m₃ E' hC hi hn hm hk => ?_, fun C i t s₃ m₃ E' hC hi hp hn hm hk => ?_⟩, fun Due s4 N4 hnew nDue hk => ?_⟩
  · have hk' : ∀ b o, s1.heap.get? b = some o → s₃.heap.get? b = some o := fun b o e => hk b o (kp_heap k13 b o e)
    have hc3 : s₃.heap.IsCell (L + 1) (some (.ref a)) := hc.keeps hk'
    have hl3 : s₃.heap.IsList a (strValues l).toArray := hl1.at fun o e => hk' _ o e
    obtain ⟨tx, hx⟩ := strItem hle hi
    refine wpAny_tests_one (wpAny_isTrue_Compare1 (Subscript_ (ldF_ hc3 (ldV_ hn hm ?_))))
    refine list_item hl3 (Int.natCast_nonneg i) (by have := hr.len; omega) hx ?_
    refine take_list (ldF_ hc3 ⟨a, _, rfl, hl3, by rw [hlen]; exact hr.len, ldV_ hn hm ⟨_, _, rfl, Int.natCast_nonneg i, kp_refl _, fun D s' k hD nD => ?_⟩⟩)
    rw [Int.toNat_natCast, (take_rows hle i).1] at hD
    refine wp_notIn R1 (den_rows hD (take_rows hle i).2) (Den.str _ _) (fun d hd => ?_) ?_ (wpAny_truthy_bool ⟨?_, k⟩)
    · obtain ⟨r', hr', rfl⟩ := List.mem_map.mp hd
      exact hr.ok1 _ (List.mem_map_of_mem (List.mem_of_mem_take hr'))
    · have : rs.getD i [] ∈ rs := by rw [List.getD_eq_getElem?_getD, List.getElem?_eq_getElem hi]; exact List.getElem_mem hi
      exact hr.ok1 _ (List.mem_map_of_mem (f := K1) this)
    · rw [show PyData.str (mk (rs.getD i [])) = K1 (rs.getD i []) from rfl, any_eqv K1_eqv]
  · have hk' : ∀ b o, s1.heap.get? b = some o → s₃.heap.get? b = some o := fun b o e => hk b o (kp_heap k13 b o e)
    obtain ⟨tx, hx⟩ := strItem hle hi
    refine Subscript_ (ldF_ (hc.keeps hk') (ldV_ hn hm ?_))
    exact list_item (hl1.at fun o e => hk' _ o e) (Int.natCast_nonneg i) (by have := hr.len; omega) hx ⟨New.str _ _, kp_refl _⟩
  have dDue : Den s4.heap (.ref Due) (.list ((ddA [] rs).map K1)) := by
    have := hnew.den
    rw [show (((List.range rs.length).filter fun i => !decide (rs.getD i [] ∈ rs.take i)).map fun i => K1 (rs.getD i [])) = (ddA [] rs).map K1 from ?_] at this
    · exact this
    · have e := ddA_places [] rs rs.length (Nat.le_refl _)
      rw [List.take_length] at e
      rw [← e, List.map_map]
      exact congrArg (List.map _) (List.filter_congr fun i _ => by congr)
  have hc4 : s4.heap.IsCell (L + 1) (some (.ref a)) := cell_ext (cell_kp hc k13) cL hk
  clear hnew hk nDue k13 hc hl1 hR k2 k3
  -- ones
  refine wpAny_execs_cons ?_
  refine compL_now N4 R1.handled rfl (closure_nil rfl) (by decide) rfl (by decide) rfl rfl rfl rfl ?_
  have here : ∀ {s' : Shared} {m' : Str → Option Value}, Now s L m' s' → s'.heap.IsList a (strValues l).toArray := fun N' => hl0.at fun o e => N'.F.keep _ o e
  have wr : (strValues l).length ≤ sizeLine := by rw [hlen, sizeLine_eq]; have := hr.len; omega
  have lK : ∀ {K : List Nat → PyData}, (∀ r, lst (K r) = true) → ∀ l : List (List Nat), lst (.list (l.map K)) = true := fun h l => lstL h
  refine wpAny_Name (wpAny_loadName_cell rfl rfl (c := L + 1) rfl hc4 ?_) (by decide)
  refine ⟨a, _, fun _ => true, fun i => K2 (rs.getD i []), rfl, kp_refl _, here N4, wr, fun i => K2_lst _, ⟨fun C i v s₃ m₃ E' _ _ _ _ _ => wpAny_pure ⟨rfl, kp_refl _⟩, fun C i v s₃ m₃ E' hC hv hp hn hm hk => ?_⟩, fun Ones s5 N5 hnew5 nOnes hk5 => ?_⟩
  · obtain ⟨tx, hx⟩ := strItem hle (i := i) (by rw [← hlen]; exact (List.getElem?_eq_some_iff.mp hv).1)
    rw [hx] at hv; cases hv
    refine List_ (args_cons (ldV_ hn hm (args_nil (new_list (by simp) fun D s' k hD nD => ⟨?_, k⟩))))
    exact New.list hD.isList nD (.cons (New.str _ _) .nil)
  have dOnes : Den s5.heap (.ref Ones) (.list (rs.map K2)) := by
    have := hnew5.den
    rwa [range_all rfl _ hlen] at this
  replace dDue := dDue.ext (lK K1_lst _) N4.F.ns hk5
  have hc5 := cell_ext hc4 cL hk5
  clear hnew5 nOnes hk5 hc4 N4
  -- given
  refine wpAny_execs_cons ?_
  refine compL_now N5 R1.handled rfl (closure_nil rfl) (by decide) rfl (by decide) rfl rfl rfl rfl ?_
  refine wpAny_Name (wpAny_loadName_cell rfl rfl (c := L + 1) rfl hc5 ?_) (by decide)
  refine ⟨a, _, fun _ => true, fun i => K1 (rs.getD i []), rfl, kp_refl _, here N5, wr, fun i => K1_lst _, ⟨fun C i v s₃ m₃ E' _ _ _ _ _ => wpAny_pure ⟨rfl, kp_refl _⟩, fun C i v s₃ m₃ E' hC hv hp hn hm hk => ?_⟩, fun Given s6 N6 hnew6 nGiven hk6 => ?_⟩
  · obtain ⟨tx, hx⟩ := strItem hle (i := i) (by rw [← hlen]; exact (List.getElem?_eq_some_iff.mp hv).1)
    rw [hx] at hv; cases hv
    exact ldV_ hn hm ⟨New.str _ _, kp_refl _⟩
  have dGiven : Den s6.heap (.ref Given) (.list (rs.map K1)) := by
    have := hnew6.den
    rwa [range_all rfl _ hlen] at this
  replace dDue := dDue.ext (lK K1_lst _) N5.F.ns hk6
  replace dOnes := dOnes.ext (lK K2_lst _) N5.F.ns hk6
  have hc6 := cell_ext hc5 cL hk6
  clear hnew6 nGiven hk6 hc5 N5
  -- kept
  refine wpAny_execs_cons ?_
  refine wpAny_Assign_Name ?_
  refine Call_ ?_
  refine Name_function_global rfl rfl (loadGlobal_global (hg0.keeps N6.F.keep) g62 (callWith_f G.f62 (args_cons (ldLoc N6.F rfl (args_nil ⟨N6.F.keep, ?_⟩)))))
  refine dedup_call (N6.glo G) R1 dGiven hr.ok1 (by simpa using hr.len) fun Kept s7 vk hKl hKp nKept k7 => ?_
  have dKept : Den s7.heap (.ref Kept) (.list ((ddA [] rs).map K1)) := by
    rw [← dd_map K1_eqv rs []]
    exact Den.list hKl (hKp.mono fun v d x => x.keeps (kp_heap k7))
  have neKG : Kept ≠ Given := fun e => by
    obtain ⟨o, ho, _⟩ := den_live dGiven
    rw [e, ho] at nKept; cases nKept
  replace dDue := dDue.keeps (kp_heap k7)
  replace dOnes := dOnes.keeps (kp_heap k7)
  replace dGiven := dGiven.keeps (kp_heap k7)
  have N7 := N6.kp k7
  have hc7 := cell_kp hc6 k7
  clear hKl hKp nKept k7 N6 hc6
  refine stC_ N7 fun s8 N8 hk8 => ?_
  replace dDue := dDue.ext (lK K1_lst _) N7.F.ns hk8
  replace dOnes := dOnes.ext (lK K2_lst _) N7.F.ns hk8
  replace dGiven := dGiven.ext (lK K1_lst _) N7.F.ns hk8
  replace dKept := dKept.ext (lK K1_lst _) N7.F.ns hk8
  have hc8 := cell_ext hc7 cL hk8
  clear N7 hc7 hk8
  have rk := hr.dd
  -- the first test
  refine wpAny_execs_cons ?_
  refine wpAny_If ?_
  refine isTrue_or ?_
  refine wpAny_isTrue_Compare1 ?_
  refine Call_ (Name_function_global rfl rfl (loadGlobal_builtin (hg0.keeps N8.F.keep) mtype (hb0.keeps N8.F.keep) btype (callWith_type1 (args_cons (ldLoc N8.F rfl (args_nil ?_))))))
  obtain ⟨_, _, eK, lK8, _⟩ := dKept.list_inv
  cases eK
  refine type_list lK8 ?_
  refine Name_function_global rfl rfl (loadGlobal_builtin (hg0.keeps N8.F.keep) mlist (hb0.keeps N8.F.keep) blist ?_)
  refine wpAny_isNot_self rfl (wpAny_truthy_bool ?_)
  rw [if_neg Bool.false_ne_true]
  refine isTrue_or ?_
  refine wpAny_isTrue_Compare1 (ldLoc N8.F rfl (ldLoc N8.F rfl ?_))
  obtain ⟨oK, hoK, hcK⟩ := den_live dKept
  obtain ⟨oG, hoG, hcG⟩ := den_live dGiven
  refine wpAny_is_ref_other neKG hoK hoG (by rw [hcK]; decide) (wpAny_truthy_bool ?_)
  rw [if_neg Bool.false_ne_true]
  refine isTrue_or ?_
  refine wpAny_isTrue_Compare1 (ldLoc N8.F rfl (ldLoc N8.F rfl ?_))
  refine wp_ne R1 dKept dDue (lay_list rk.ok1) (lay_list rk.ok1) (by have := depth_list rk.ok1; omega) (wpAny_truthy_bool ?_)
  rw [eqv_list K1_eqv, Bool.not_true, if_neg Bool.false_ne_true]
  refine isTrue_or ?_
  refine wpAny_isTrue_Compare1 (ldLoc N8.F rfl ?_)
  refine wpAny_Name (wpAny_loadName_cell rfl rfl (c := L + 1) rfl hc8 ?_) (by decide)
  refine wp_ne R1 dGiven (ha.keeps N8.F.keep) (lay_list hr.ok1) (lay_list hr.ok1) (by have := depth_list hr.ok1; omega) (wpAny_truthy_bool ?_)
  rw [eqv_list K1_eqv, Bool.not_true, if_neg Bool.false_ne_true]
  refine isTrue_or_nil ?_
  rw [if_neg Bool.false_ne_true]
  refine wpAny_execs_nil ?_
  -- the second test
  refine wpAny_execs_cons ?_
  refine wpAny_If ?_
  refine isTrue_or ?_
  refine wpAny_isTrue_Compare1 (Call_ ?_)
  refine Name_function_global rfl rfl (loadGlobal_global (hg0.keeps N8.F.keep) g62 (callWith_f G.f62 (args_cons (ldLoc N8.F rfl (args_nil ⟨N8.F.keep, ?_⟩)))))
  refine dedup_call (N8.glo G) R1 dOnes hr.ok2 (by simpa using hr.len) fun D1 s9 v1 hl1 hp1 _ k9 => ?_
  have d1 : Den s9.heap (.ref D1) (.list ((ddA [] rs).map K2)) := by
    rw [← dd_map K2_eqv rs []]
    exact Den.list hl1 (hp1.mono fun v d x => x.keeps (kp_heap k9))
  have N9 := N8.kp k9
  obtain ⟨_, ld, eD, lDue, hled⟩ := den_strs_inv (K1_map (ddA [] rs) ▸ (dDue.keeps (kp_heap k9)))
  cases eD
  have hlend : (strValues ld).length = (ddA [] rs).length := by rw [length_strValues]; simpa using congrArg List.length hled
  have wd : (strValues ld).length ≤ sizeLine := by rw [hlend, sizeLine_eq]; have := rk.len; omega
  refine compL_value R1.handled (closure_nil rfl) (by decide) rfl (by decide) rfl (ldLoc N9.F rfl ?_)
  refine ⟨Due, _, fun _ => true, fun i => K2 ((ddA [] rs).getD i []), rfl, lDue, wd, fun i => K2_lst _, ⟨fun C i v s₃ m₃ E' _ _ _ _ _ => wpAny_pure ⟨rfl, kp_refl _⟩, fun C i v s₃ m₃ E' hC hv hp hn hm hk => ?_⟩, fun D2 s10 hnew10 _ k10 => ?_⟩
  · obtain ⟨tx, hx⟩ := strItem hled (i := i) (by rw [← hlend]; exact (List.getElem?_eq_some_iff.mp hv).1)
    rw [hx] at hv; cases hv
    refine List_ (args_cons (ldV_ hn hm (args_nil (new_list (by simp) fun D s' k hD nD => ⟨?_, k⟩))))
    exact New.list hD.isList nD (.cons (New.str _ _) .nil)
  have d2 : Den s10.heap (.ref D2) (.list ((ddA [] rs).map K2)) := by
    have := hnew10.den
    rwa [range_all rfl _ hlend] at this
  have k810 := kp_trans k9 k10
  have N10 := N8.kp k810
  refine wp_ne R1 (d1.keeps (kp_heap k10)) d2 (lay_list rk.ok2) (lay_list rk.ok2) (by have := depth_list rk.ok2; omega) (wpAny_truthy_bool ?_)
  rw [eqv_list K2_eqv, Bool.not_true, if_neg Bool.false_ne_true]
  refine isTrue_or ?_
  refine wpAny_isTrue_Compare1 (ldLoc N10.F rfl ?_)
  refine compL_value R1.handled (closure_nil rfl) (by decide) rfl (by decide) rfl ?_
  refine wpAny_Name (wpAny_loadName_cell rfl rfl (c := L + 1) rfl (cell_kp hc8 k810) ?_) (by decide)
  refine ⟨a, _, fun _ => true, fun i => K2 (rs.getD i []), rfl, here N10, wr, fun i => K2_lst _, ⟨fun C i v s₃ m₃ E' _ _ _ _ _ => wpAny_pure ⟨rfl, kp_refl _⟩, fun C i v s₃ m₃ E' hC hv hp hn hm hk => ?_⟩, fun D3 s11 hnew11 _ k11 => ?_⟩
  · obtain ⟨tx, hx⟩ := strItem hle (i := i) (by rw [← hlen]; exact (List.getElem?_eq_some_iff.mp hv).1)
    rw [hx] at hv; cases hv
    refine List_ (args_cons (ldV_ hn hm (args_nil (new_list (by simp) fun D s' k hD nD => ⟨?_, k⟩))))
    exact New.list hD.isList nD (.cons (New.str _ _) .nil)
  have d3 : Den s11.heap (.ref D3) (.list (rs.map K2)) := by
    have := hnew11.den
    rwa [range_all rfl _ hlen] at this
  have k811 := kp_trans k810 k11
  have N11 := N8.kp k811
  refine wp_ne R1 (dOnes.keeps (kp_heap k811)) d3 (lay_list hr.ok2) (lay_list hr.ok2) (by have := depth_list hr.ok2; omega) (wpAny_truthy_bool ?_)
  rw [eqv_list K2_eqv, Bool.not_true, if_neg Bool.false_ne_true]
  refine isTrue_or_nil ?_
  rw [if_neg Bool.false_ne_true]
  refine wpAny_execs_nil ?_
  -- the end
  refine wpAny_execs_cons ?_
  refine wpAny_Return_some ?_
  refine wpAny_Compare1 (Call_ ?_)
  refine Name_function_global rfl rfl (loadGlobal_global (hg0.keeps N11.F.keep) g48 (callWith_f G.f48 (args_cons (MethodCall_ (con_str fun t12 s12 k12 => ?_)))))
  have N12 := N11.kp k12
  have k812 := kp_trans k811 k12
  refine GM.join (callWith_m (args_cons (ldLoc N12.F rfl (args_nil ?_))))
  obtain ⟨_, lk, eK, lKept, hlek⟩ := den_strs_inv (K1_map (ddA [] rs) ▸ (dKept.keeps (kp_heap k812)))
  cases eK
  rw [lf_lit]
  refine join_rows lKept hlek rk (by decide) (by decide) fun t13 s13 k13 => args_nil ⟨(N12.kp k13).F.keep, ?_⟩
  have N13 := N12.kp k13
  have hjl := joinL_len lfS.cps.toList (by decide) rk.each
  refine quote_text (N13.glo G) R1.here ?_ fun t14 s14 k14 => ?_
  · show (mk _).cps.size ≤ _
    rw [size_toList, mk_toList]
    have := rk.len
    have := Nat.mul_le_mul_right (1000 + 2) this
    omega
  have N14 := N13.kp k14
  rw [mk_toList, show lfS.cps.toList = [10] from rfl, fixL_join rk.ne rk.free, qGo_join rk.free]
  refine MethodCall_ (con_str fun t15 s15 k15 => ?_)
  have N15 := N14.kp k15
  refine GM.join (callWith_m (args_cons (Call_ ?_)))
  refine Name_function_global rfl rfl (loadGlobal_global (hg0.keeps N15.F.keep) g62 (callWith_f G.f62 (args_cons (ldLoc N15.F rfl (args_nil ⟨N15.F.keep, ?_⟩)))))
  refine dedup_call (N15.glo G) R1 (hb.keeps N15.F.keep) hr.q.ok1 (by simpa using hr.len) fun D4 s16 v4 hl4 hp4 _ k16 => args_nil ?_
  have d4 : Den s16.heap (.ref D4) (.list ((ddA [] (rs.map q)).map K1)) := by
    rw [← dd_map K1_eqv (rs.map q) []]
    exact Den.list hl4 (hp4.mono fun v d x => x.keeps (kp_heap k16))
  obtain ⟨_, l4, e4, l4', hle4⟩ := den_strs_inv (K1_map (ddA [] (rs.map q)) ▸ d4)
  cases e4
  rw [crlf_lit]
  refine join_rows l4' hle4 hr.q.dd (by decide) (by decide) fun t17 s17 k17 => ?_
  rw [show crlfS.cps.toList = [13, 10] from rfl, show ddA [] (rs.map q) = (ddA [] rs).map q from ddA_map (fun _ _ => q_inj) rs []]
  refine PyProof.Rows.eq_str ⟨_, rfl, ?_⟩
  rw [beq_self_eq_true]
  exact hQ _ (kp_trans (kp_trans N15.end k16) k17)
end
end Mine

/-! part M19 -/
namespace Mine
open PySem.Calls
open PySem.MeetsSeq PySem.SeqAt
open PySem.AutoSeq1 (wpAny_loadPart')

theorem remove_loopAt (l : Addr) (items : Array Value) (n : Nat) (x : Value) (e : Value → Bool) (j : Nat) (hj : j < items.size) (hit : e items[j] = true) (k : Nat) (hs1 : items.size ≤ sizeLine) :
    ∀ i : Nat, j - i = k → i ≤ j → (∀ m (hm : m < items.size), i ≤ m → m < j → e items[m] = false) → Meets (Builtin.«list.remove.loop» ⟨[.ref l, x, rawInt i], []⟩)
      (fun A R s => s.heap.get? l = some { cls := .type "list", dict := none, data := .seq items n, slots := #[] } ∧ (∀ y, y ∈ items → EqAt A.in1 s y x (e y)) ∧ R (.ok (.ret .none)) { s with heap := s.heap.update l (Obj.mapSeq fun xs => xs.eraseIdxIfInBounds j) }) := by
  induction k with
  | zero =>
    intro i hk hij hno prog w A R s h
    obtain ⟨hp, g, d, tk, os⟩ := s; obtain ⟨hl, he, h⟩ := h
    have hij' : i = j := by omega
    subst hij'
    wp_walk using wpAny_loadPart' hl
    have hi : items[((i : Nat) : Int).toNat]? = some items[i] := by simp [hj]
    rw [hi]
    refine wpAny_bind (he _ (Array.getElem_mem hj) prog w _ _ ?_)
    rw [hit]
    have hz' : (items.eraseIdxIfInBounds i).size ≤ sizeLine + 1 := Nat.le_trans (size_erased items _) (Nat.le_succ_of_le hs1)
    wp_walk using (wpAny_updateSeq hl rfl (hz := hs1) (_hz' := hz')), wpAny_loadPart' hl
    simpa using h
  | succ k ih =>
    intro i hk hij hno prog w A R s h
    obtain ⟨hp, g, d, tk, os⟩ := s; obtain ⟨hl, he, h⟩ := h
    have hlt : i < items.size := by omega
    wp_walk using wpAny_loadPart' hl
    have hi : items[((i : Nat) : Int).toNat]? = some items[i] := by simp [hlt]
    have hc : ((i : Int) + 1) = ((i + 1 : Nat) : Int) := by push_cast; rfl
    rw [hi]
    refine wpAny_bind (he _ (Array.getElem_mem hlt) prog w _ _ ?_)
    rw [hno i hlt (Nat.le_refl _) (by omega)]
    wp_walk
    rw [hc]
    exact ⟨plainId_quiet plain_remove_loop _, codeAny_builtin entry_remove_loop (by
      rw [Around.under_plainId plain_remove_loop _]
      exact ih (i + 1) (by omega) (by omega) (fun m hm h1 h2 => hno m hm (by omega) h2) prog w A R _ ⟨hl, he, h⟩)⟩

theorem removeAt (l : Addr) (items : Array Value) (n : Nat) (x : Value) (e : Value → Bool) (j : Nat) (hj : j < items.size)
    (hit : e items[j] = true) (hno : ∀ m (hm : m < items.size), m < j → e items[m] = false) (hs1 : items.size ≤ sizeLine) :
    Meets (Builtin.«list.remove» ⟨[.ref l, x], []⟩)
      (fun A R s => s.heap.get? l = some { cls := .type "list", dict := none, data := .seq items n, slots := #[] } ∧ (∀ y, y ∈ items → EqAt A.in1 s y x (e y)) ∧ R (.ok (.ret .none)) { s with heap := s.heap.update l (Obj.mapSeq fun xs => xs.eraseIdxIfInBounds j) }) := by
  intro prog w A R s h
  obtain ⟨hp, g, d, tk, os⟩ := s; obtain ⟨hl, he, h⟩ := h
  wp_walk using wpAny_loadPart' hl
  exact ⟨plainId_quiet plain_remove_loop _, codeAny_builtin entry_remove_loop (by
    rw [Around.under_plainId plain_remove_loop _]
    exact remove_loopAt l items n x e j hj hit _ hs1 0 rfl (Nat.zero_le _) (fun m hm _ h2 => hno m hm h2) prog w A R _ ⟨hl, he, h⟩)⟩

theorem remove_noneAt (l : Addr) (items : Array Value) (n : Nat) (x : Value) (e : Value → Bool) (hno : ∀ m (hm : m < items.size), e items[m] = false) (k : Nat) :
    ∀ i : Nat, items.size - i = k → Meets (Builtin.«list.remove.loop» ⟨[.ref l, x, rawInt i], []⟩)
      (fun A R s => s.heap.get? l = some { cls := .type "list", dict := none, data := .seq items n, slots := #[] } ∧ (∀ y, y ∈ items → EqAt A.in1 s y x (e y)) ∧ raisesNew "ValueError" A R s) := by
  induction k with
  | zero =>
    intro i hk prog w A R s h
    obtain ⟨hp, g, d, tk, os⟩ := s; obtain ⟨hl, he, h⟩ := h
    wp_walk using wpAny_loadPart' hl
    have hi : items[((i : Nat) : Int).toNat]? = none := by simp; omega
    rw [hi]
    wp_walk
    exact_raiseError plainExc_ValueError h.1 h.2
  | succ k ih =>
    intro i hk prog w A R s h
    obtain ⟨hp, g, d, tk, os⟩ := s; obtain ⟨hl, he, h⟩ := h
    have hlt : i < items.size := by omega
    wp_walk using wpAny_loadPart' hl
    have hi : items[((i : Nat) : Int).toNat]? = some items[i] := by simp [hlt]
    have hc : ((i : Int) + 1) = ((i + 1 : Nat) : Int) := by push_cast; rfl
    rw [hi]
    refine wpAny_bind (he _ (Array.getElem_mem hlt) prog w _ _ ?_)
    rw [hno i hlt]
    wp_walk
    rw [hc]
    exact ⟨plainId_quiet plain_remove_loop _, codeAny_builtin entry_remove_loop (by
      rw [Around.under_plainId plain_remove_loop _]
      exact ih (i + 1) (by omega) prog w A R _ ⟨hl, he, h⟩)⟩

theorem remove_missAt (l : Addr) (items : Array Value) (n : Nat) (x : Value) (e : Value → Bool) (hno : ∀ m (hm : m < items.size), e items[m] = false) :
    Meets (Builtin.«list.remove» ⟨[.ref l, x], []⟩)
      (fun A R s => s.heap.get? l = some { cls := .type "list", dict := none, data := .seq items n, slots := #[] } ∧ (∀ y, y ∈ items → EqAt A.in1 s y x (e y)) ∧ raisesNew "ValueError" A R s) := by
  intro prog w A R s h
  obtain ⟨hp, g, d, tk, os⟩ := s; obtain ⟨hl, he, h⟩ := h
  wp_walk using wpAny_loadPart' hl
  exact ⟨plainId_quiet plain_remove_loop _, codeAny_builtin entry_remove_loop (by
    rw [Around.under_plainId plain_remove_loop _]
    exact remove_noneAt l items n x e hno _ 0 rfl prog w A R _ ⟨hl, he, h⟩)⟩

theorem paired_erase {α β : Type} {F : α → β → Prop} : ∀ {l₁ : List α} {l₂ : List β}, Paired F l₁ l₂ → ∀ j, Paired F (l₁.eraseIdx j) (l₂.eraseIdx j)
  | _, _, .nil, _ => .nil
  | _, _, .cons f t, 0 => t
  | _, _, .cons f t, j + 1 => .cons f (paired_erase t j)

theorem map_erase {α β : Type} (f : α → β) : ∀ (l : List α) (j : Nat), (l.map f).eraseIdx j = (l.eraseIdx j).map f
  | [], _ => rfl
  | _ :: _, 0 => rfl
  | a :: l, j + 1 => by rw [List.map_cons, List.eraseIdx_cons_succ, List.eraseIdx_cons_succ, List.map_cons, map_erase f l j]
theorem erase_at : ∀ (cs : List (List Nat)) (r : List Nat), r ∈ cs → ∃ j, ∃ hj : j < cs.length, cs[j] = r ∧ (∀ m (hm : m < cs.length), m < j → cs[m] ≠ r) ∧ cs.eraseIdx j = cs.erase r
  | c :: cs, r, h => by
    by_cases e : c = r
    · refine ⟨0, by simp, e, fun m _ hm => absurd hm (Nat.not_lt_zero _), ?_⟩
      subst e; simp
    · have h' : r ∈ cs := (List.mem_cons.mp h).elim (fun q => absurd q.symm e) id
      obtain ⟨j, hj, e1, e2, e3⟩ := erase_at cs r h'
      refine ⟨j + 1, by simpa using hj, e1, fun m hm hlt => ?_, ?_⟩
      · cases m with
        | zero => exact e
        | succ m => exact e2 m (by simpa using hm) (by omega)
      · rw [List.eraseIdx_cons_succ, e3, List.erase_cons_tail (by simpa using e)]

section
variable {prog : Program} {w : World} {A : Around} {E : Value → Shared → Prop} {s : Shared}
theorem getMethod_remove {l : Addr} {items : Array Value} {pl : Sem Bool} {Q : Value × List Value → Shared → Prop} (hl : s.heap.PlainList l items) (h : Q (.builtin "list.remove", [.ref l]) s) : wpAny (model prog w) A (getMethod (.ref l) "remove" pl) Q E s :=
  getMethod_builtin ⟨_, hl.choose_spec, rfl⟩ F.plainAttrs_list F.slot_list_remove F.type_list_remove (fun a e => by
    cases e
    exact ⟨_, hl.choose_spec, rfl⟩) h

theorem remove_rows {l : Addr} {vs : List Value} {cs : List (List Nat)} {x : Value} {r : List Nat} {n : Nat} {Q : Value → Shared → Prop} (R : Room A n) (hl : s.heap.PlainList l vs.toArray) (hp : Paired (Den s.heap) vs (cs.map K2)) (hx : Den s.heap x (K2 r))
    (ocs : ∀ d ∈ cs.map K2, Ok d) (od : Ok (K2 r)) (hsz : cs.length ≤ 1000)
    (hit : r ∈ cs → ∀ h' j, h'.PlainList l (vs.eraseIdx j).toArray → cs.eraseIdx j = cs.erase r → Heap.SameBut l s.heap h' → Q .none { s with heap := h' })
    (miss : r ∉ cs → ∀ h' tk e, Heap.NewExc s.heap h' e "ValueError" → E (.ref e) { s with heap := h', toks := tk }) :
    wpAny (model prog w) A (call (.builtin "list.remove") [.ref l, x]) Q E s := by
  obtain ⟨n₀, ho⟩ := hl
  obtain ⟨as, rs⟩ := paired_readsAll hp
  obtain ⟨bs, rx⟩ := hx
  have hlen : vs.length = cs.length := by simpa using paired_len hp
  have hmap : vs.map (readOf s.heap) = cs.map K2 := readsAll_map _ _ _ (okAll_lay ocs) rs
  have hat : ∀ m (h1 : m < vs.length) (h2 : m < cs.length), PyData.eqv (readOf s.heap vs[m]) (K2 r) = decide (cs[m] = r) := fun m h1 h2 => by
    have e : (vs.map (readOf s.heap))[m]? = (cs.map K2)[m]? := by rw [hmap]
    rw [List.getElem?_map, List.getElem?_map, List.getElem?_eq_getElem h1, List.getElem?_eq_getElem h2] at e
    simp only [Option.map_some, Option.some.injEq] at e
    rw [e, K2_eqv]
  have he := items_eqAt (A := A) (vs := vs.toArray) (by simpa using rs) rx (okAll_lay ocs) od.lay (by have := R.units; have := od.depth; omega)
  by_cases hr : r ∈ cs
  · obtain ⟨j, hj, e1, e2, e3⟩ := erase_at cs r hr
    refine call_meets F.slot_list_remove ⟨_, ho, rfl⟩ F.entry_list_remove (F.args_list_remove_2 _ _)
      (removeAt l vs.toArray n₀ x (fun y => PyData.eqv (readOf s.heap y) (K2 r)) j (by simpa [hlen] using hj) ?_ ?_ (by rw [List.size_toArray, sizeLine_eq]; omega)) ⟨ho, he, ?_⟩
    · have := hat j (by omega) hj
      simpa [e1] using this
    · intro m hm hlt
      have hm' : m < vs.length := by simpa using hm
      have := hat m hm' (by omega)
      simpa [e2 m (by omega) hlt] using this
    · refine hit hr _ j ⟨if (vs.toArray.eraseIdxIfInBounds j).size == vs.toArray.size then n₀ else n₀ + 1, ?_⟩ e3 (Heap.SameBut.update ..)
      have hE : vs.toArray.eraseIdxIfInBounds j = (vs.eraseIdx j).toArray := by
        apply Array.toList_inj.mp
        simp
      rw [← hE, Heap.get?_update_self _ ho rfl]
      rfl
  · refine call_meets F.slot_list_remove ⟨_, ho, rfl⟩ F.entry_list_remove (F.args_list_remove_2 _ _)
      (remove_missAt l vs.toArray n₀ x (fun y => PyData.eqv (readOf s.heap y) (K2 r)) ?_) ⟨ho, he, R.handled, fun h' tk e hx => miss hr h' tk e hx⟩
    intro m hm
    have hm' : m < vs.length := by simpa using hm
    have := hat m hm' (by omega)
    have hne : cs[m]'(by omega) ≠ r := fun q => hr (q ▸ List.getElem_mem _)
    simpa [hne] using this
end
end Mine

/-! part M20 -/
namespace Mine
open PySem.Calls

/-- the values at rows of one -/
def RowsAt (h : Heap) (vs : List Value) (cs : List (List Nat)) : Prop := Paired (fun v r => Den h v (K2 r)) vs cs
theorem paired_unmap {α β γ : Type} {F : α → γ → Prop} (f : β → γ) : ∀ {l₁ : List α} {l₂ : List β}, Paired F l₁ (l₂.map f) → Paired (fun a b => F a (f b)) l₁ l₂
  | _, [], h => by cases h; exact .nil
  | _, _ :: _, h => by
    cases h with
    | cons f' t => exact .cons f' (paired_unmap f t)
theorem paired_onmap {α β γ : Type} {F : α → γ → Prop} (f : β → γ) : ∀ {l₁ : List α} {l₂ : List β}, Paired (fun a b => F a (f b)) l₁ l₂ → Paired F l₁ (l₂.map f)
  | _, _, .nil => .nil
  | _, _, .cons h t => .cons h (paired_onmap f t)
theorem RowsAt.all {h : Heap} {vs : List Value} {cs : List (List Nat)} (x : RowsAt h vs cs) : Paired (Den h) vs (cs.map K2) := paired_onmap K2 x
theorem RowsAt.keeps {h h' : Heap} {vs : List Value} {cs : List (List Nat)} (x : RowsAt h vs cs) (hk : ∀ b o, h.get? b = some o → h'.get? b = some o) : RowsAt h' vs cs := x.mono fun _ _ d => d.keeps hk
theorem RowsAt.ext {h h' : Heap} {L : Addr} {m : Str → Option Value} {vs : List Value} {cs : List (List Nat)} (x : RowsAt h vs cs) (hn : h.Ns L m) (hk : ∀ b o, b ≠ L → h.get? b = some o → h'.get? b = some o) : RowsAt h' vs cs :=
  x.mono fun _ _ d => d.ext (K2_lst _) hn hk

/-- the same rows, in whatever order -/
def sameRows (xs ys : List (List Nat)) : Bool := xs.all (fun r => decide (r ∈ ys)) && ys.all fun r => decide (r ∈ xs)

section
variable {prog : Program} {w : World} {A : Around} {E : Value → Shared → Prop} {s : Shared}

theorem list_copy {l : Addr} {vs : List Value} {Q : Value → Shared → Prop} (hl : s.heap.IsList l vs.toArray) (hsz : vs.length ≤ 1000)
    (h : ∀ D s', Keeps s s' → s'.heap.PlainList D vs.toArray → s.heap.get? D = none → Q (.ref D) s') : wpAny (model prog w) A (call (.type "list") [.ref l]) Q E s := by
  obtain ⟨o, ho, hc, n, hd⟩ := hl
  exact call_list_seq l (.inl rfl) ho hc hd (fun h' c' hk hD => h _ _ ⟨h', s.toks, rfl, hk⟩ ⟨c', hD⟩ (fresh_size _)) (by rw [List.size_toArray, sizeLine_eq]; omega)

/-- a ValueError that a builtin raised here is caught here -/
theorem caught_in {base h₀ h : Heap} {outer : List Env} {name : Str} {scope : Scope} {L a e : Addr} {cd : Value} {m : Str → Option Value} {np pos : Pos} {b₀ : Stmt} {suite : List Stmt} {rest : List ExceptHandler} {Q : Flow → Shared → Prop} {mg mb : Str → Option Value}
    (K : Below A base outer h₀) (F : Fr h₀ L h m) (hx : Heap.NewExc h s.heap e "ValueError")
    (hg : h.Ns mainGlobals mg) (hb : h.Ns builtinsNs mb) (hm : mg "ValueError" = none) (hv : mb "ValueError" = some (.type "ValueError"))
    (k : ∀ h', base.StaysIn h' → h.UpToSlots h' → wpAny (model prog w) ((A.deeper (envOf name scope L a cd)).mark (some (.ref e))) (execs (b₀ :: suite) (envOf name scope L a cd)) Q (fun _ _ => False) { s with heap := h' })
    (hk : scope.kind = .function := by rfl) (hxk : (envOf name scope L a cd).kindOf "ValueError" = some .globalImplicit := by rfl) :
    wpAny (model prog w) (A.deeper (envOf name scope L a cd)) (noteFrame (.ref e) (envOf name scope L a cd))
      (fun _ s₂ => wpAny (model prog w) (A.deeper (envOf name scope L a cd)) (setFlight (.ref e) none) (fun _ s₃ =>
        wpAny (model prog w) (A.deeper (envOf name scope L a cd)) (handleBy (.ref e) (envOf name scope L a cd) (.ExceptHandler (some (.Name "ValueError" np)) none (b₀ :: suite) pos :: rest)) Q E s₃) E s₂) E s := by
  have K' := K.push (name := name) (a := a) (cd := cd) F hk
  obtain ⟨ob, t, he, hc, hd⟩ := hx.there
  have kb : base.StaysIn s.heap := fun b o q => hx.keeps _ _ (K'.stays b o q)
  have hen : base.get? e = none := fresh_of_stays K'.stays hx.new
  unfold noteFrame
  simp only [show (envOf name scope L a cd).frame = some L from rfl]
  refine wpAny_bind (wpAny_field he hd (x := .none) rfl ?_)
  rw [if_neg (by decide)]
  refine wpAny_entryW K'.stack (K'.frames.of_keeps fun b o q _ => ⟨o, hx.keeps b o q, rfl⟩) rfl he kb hen hd (by simp) rfl fun h₁ N₁ => ?_
  obtain ⟨k1, k2, k3, k4⟩ := N₁
  have sm₁ : h.UpToSlots h₁ := (Heap.UpToSlots.of_keeps hx.keeps).trans k4
  refine wpAny_landsW ⟨k1, hen, k2, k3⟩ fun h₂ fl₂ sm₂ => ?_
  have sm12 := sm₁.trans sm₂
  obtain ⟨ob₂, hob₂, hc₂⟩ := fl₂.there
  refine wpAny_handleBy_builtin (X := "ValueError") (T := "ValueError") (b := true) PySem.F.isExc_ValueError PySem.F.notTuple_ValueError PySem.F.self_ValueError ?_
  refine Name_function_global hk hxk (loadGlobal_builtin (sm12.ns hg) hm (sm12.ns hb) hv ⟨rfl, ⟨ob₂, hob₂, hc₂.trans hc⟩, ?_⟩) (by decide)
  rw [if_pos rfl]
  refine lands_againW fl₂ fun h₃ fl₃ sm₃ => ?_
  exact wpAny_noRaise (k h₃ fl₃.1 (sm12.trans sm₃))

theorem nodup_take {l : List (List Nat)} (hl : l.Nodup) {i : Nat} {r : List Nat} (h : l[i]? = some r) : r ∉ l.take i := by
  intro hr
  have hi : i < l.length := (List.getElem?_eq_some_iff.mp h).1
  have e : l = l.take i ++ l.drop i := (List.take_append_drop i l).symm
  rw [e, List.nodup_append] at hl
  refine hl.2.2 r hr r ?_ rfl
  rw [List.drop_eq_getElem_cons hi]
  rw [List.getElem?_eq_getElem hi, Option.some.injEq] at h
  rw [h]; exact .head _

theorem compare_call {base : Heap} {outer : List Env} {a b : Addr} {xs ys : List (List Nat)} {n B : Nat} {Q : Value → Shared → Prop} (G : Glo s.heap) (R : Room A (n + 2)) (K : Below A base outer s.heap) (ha : Den s.heap (.ref a) (.list (xs.map K2))) (hb : Den s.heap (.ref b) (.list (ys.map K2)))
    (rx : Rw B xs) (ry : Rw B ys) (hQ : ∀ s', Ev s s' → base.StaysIn s'.heap → s.heap.UpToSlots s'.heap → Q (.bool (sameRows xs ys)) s') :
    wpAny (model prog w) A (call (.ref 69) [.ref a, .ref b]) Q E s := by
  refine call_now G G.f69 R.here (binds := [("first_args", .ref a), ("second_args", .ref b)]) (fun _ => rfl) rfl fun L s1 N1 => ?_
  have R1 := R.deeper (envOf "_compare_args_orderless" (sScope (defAt 9)) L 69 (.ref 68))
  obtain ⟨mg, hg0, _, _, _, _, _, g62, _, _, _, _, _, _, mlist, _, mval⟩ := id G.g
  obtain ⟨mb, hb0, _, _, blist, _, bval⟩ := id G.b
  -- first
  refine wpAny_execs_cons ?_
  refine wpAny_Assign_Name ?_
  refine Call_ ?_
  refine Name_function_global rfl rfl (loadGlobal_global (hg0.keeps N1.F.keep) g62 (callWith_f G.f62 (args_cons (ld N1.F rfl (args_nil ⟨N1.F.keep, ?_⟩)))))
  refine dedup_call (N1.glo G) R1 (ha.keeps N1.F.keep) rx.ok2 (by simpa using rx.len) fun D1 s2 v1 hl1 hp1 n1 k2 => ?_
  rw [show dd [] (xs.map K2) = (ddA [] xs).map K2 from dd_map K2_eqv xs []] at hp1
  have P1 : RowsAt s2.heap v1 (ddA [] xs) := RowsAt.keeps (paired_unmap K2 hp1) (kp_heap k2)
  have N2 := N1.kp k2
  have D1L : D1 ≠ L := fun e => by
    obtain ⟨o, es, ep, ho, _⟩ := N1.F.ns
    rw [e, ho] at n1; cases n1
  clear hp1 n1 k2
  refine st_ N2 fun s3 N3 hs3 => ?_
  replace P1 := P1.ext N2.F.ns hs3.extBut
  replace hl1 := hl1.extBut hs3.extBut D1L
  clear hs3 N2
  -- second
  refine wpAny_execs_cons ?_
  refine wpAny_Assign_Name ?_
  refine Call_ ?_
  refine Name_function_global rfl rfl (loadGlobal_global (hg0.keeps N3.F.keep) g62 (callWith_f G.f62 (args_cons (ld N3.F rfl (args_nil ⟨N3.F.keep, ?_⟩)))))
  refine dedup_call (N3.glo G) R1 (hb.keeps N3.F.keep) ry.ok2 (by simpa using ry.len) fun D2 s4 v2 hl2 hp2 n2 k4 => ?_
  rw [show dd [] (ys.map K2) = (ddA [] ys).map K2 from dd_map K2_eqv ys []] at hp2
  have P2 : RowsAt s4.heap v2 (ddA [] ys) := RowsAt.keeps (paired_unmap K2 hp2) (kp_heap k4)
  replace P1 := P1.keeps (kp_heap k4)
  replace hl1 := hl1.at fun o e => kp_heap k4 _ o e
  have N4 := N3.kp k4
  have D2L : D2 ≠ L := fun e => by
    obtain ⟨o, es, ep, ho, _⟩ := N3.F.ns
    rw [e, ho] at n2; cases n2
  clear hp2 n2 k4 N3
  refine st_ N4 fun sE NE hs5 => ?_
  replace P1 := P1.ext N4.F.ns hs5.extBut
  replace P2 := P2.ext N4.F.ns hs5.extBut
  replace hl1 := hl1.extBut hs5.extBut D1L
  replace hl2 := hl2.extBut hs5.extBut D2L
  clear hs5 N4
  have kx := rx.dd
  have ky := ry.dd
  have len1 : v1.length = (ddA [] xs).length := P1.length
  have len2 : v2.length = (ddA [] ys).length := P2.length
  have nx : (ddA [] xs).Nodup := ddA_nodup xs [] (by simp)
  have ny : (ddA [] ys).Nodup := ddA_nodup ys [] (by simp)
  have hsame : sameRows xs ys = true ↔ ∀ r, r ∈ ddA [] xs ↔ r ∈ ddA [] ys := by
    unfold sameRows
    simp only [Bool.and_eq_true, List.all_eq_true, decide_eq_true_eq, ddA_mem0]
    exact ⟨fun h r => ⟨h.1 r, h.2 r⟩, fun h => ⟨fun r => (h r).mp, fun r => (h r).mpr⟩⟩
  -- t
  refine wpAny_execs_cons ?_
  refine wpAny_Assign_Name ?_
  refine Call_ (Name_function_global rfl rfl (loadGlobal_builtin (hg0.keeps NE.F.keep) mlist (hb0.keeps NE.F.keep) blist (callWith_type1 (args_cons (ld NE.F rfl (args_nil ?_))))))
  refine list_copy hl2 (by rw [len2]; exact ky.len) fun T s6 k6 hT nT => ?_
  have TL : T ≠ L := fun e => by
    obtain ⟨o, es, ep, ho, _⟩ := NE.F.ns
    rw [e, ho] at nT; cases nT
  have N6 := NE.kp k6
  refine st_ N6 fun s7 N7 hs7 => ?_
  replace hT := hT.extBut hs7.extBut TL
  have kE : ∀ b o, b ≠ L → sE.heap.get? b = some o → s7.heap.get? b = some o := fun b o hb e => hs7.extBut b o hb (kp_heap k6 b o e)
  clear hs7 N6 k6
  have keepG := hg0
  -- the try
  refine wpAny_execs_cons ?_
  refine wpAny_Try_except ?_
  refine wpAny_execs_cons (wpAny_For (ld N7.F rfl (wpAny_pyIter_list (hl1.at fun o e => kE _ o D1L e) ?_)))
  have aI : D1 < s7.heap.objs.size := let ⟨o, ho, _⟩ := hl1; Heap.lt_size (kE D1 o D1L ho)
  have TI : T ≠ s7.heap.objs.size := Nat.ne_of_lt (let ⟨_, ho⟩ := hT; Heap.lt_size ho)
  have LI : L ≠ s7.heap.objs.size := Nat.ne_of_lt N7.F.ns.lt
  have nI : sE.heap.get? s7.heap.objs.size = none := by
    cases q : sE.heap.get? s7.heap.objs.size with
    | none => rfl
    | some o => exact absurd (Heap.lt_size (kE _ o (Ne.symm LI) q)) (Nat.lt_irrefl _)
  have nI0 : s.heap.get? s7.heap.objs.size = none := gone (fun b o e => ⟨o, N7.F.keep b o e⟩) _ (fresh_size s7.heap)
  show codeAny (model prog w) _ (.forLoop _ (.ref s7.heap.objs.size) _ _ _) _ _
  obtain ⟨s8, e8, N8, itI, hT8, kE8⟩ : ∃ s8 : Shared, s8 = { s7 with heap := s7.heap.push { cls := .type "list_iterator", data := .fields #[.ref D1, .int 0 0] } } ∧ Now s L _ s8 ∧ s8.heap.IsListIter s7.heap.objs.size D1 0 ∧ s8.heap.PlainList T v2.toArray ∧ (∀ b o, b ≠ L → sE.heap.get? b = some o → s8.heap.get? b = some o) :=
    ⟨_, rfl, N7.kp ⟨_, s7.toks, rfl, fun b o e => Heap.get?_push_of_some _ e⟩, ⟨_, Heap.get?_push_size _ rfl, rfl, rfl⟩, hT.at fun o e => Heap.get?_push_of_some _ e, fun b o hb e => Heap.get?_push_of_some _ (kE b o hb e)⟩
  rw [← e8]
  clear e8 kE hT N7
  generalize s7.heap.objs.size = I at *
  have W := Walks.list (prog := prog) (w := w) (A := A.deeper (envOf "_compare_args_orderless" (sScope (defAt 9)) L 69 (.ref 68))) R1.handled I D1 (Nat.ne_of_lt aI) v1.toArray
  have nT0 : s.heap.get? T = none := gone (fun b o e => ⟨o, NE.F.keep b o e⟩) _ nT
  refine codeAny_forLoop (fun k s' => ∃ m' i, ∃ ws : List Value, ∃ cs : List (List Nat), Now s L m' s' ∧ m' "t" = some (.ref T) ∧ s'.heap.IsListIter I D1 i ∧ s'.heap.PlainList T ws.toArray ∧ (∀ b o, b ≠ L → sE.heap.get? b = some o → s'.heap.get? b = some o) ∧
    RowsAt sE.heap ws cs ∧ cs.Nodup ∧ (∀ r, r ∈ cs ↔ r ∈ ddA [] ys ∧ r ∉ (ddA [] xs).take i) ∧ (∀ r ∈ (ddA [] xs).take i, r ∈ ddA [] ys) ∧ i ≤ v1.length ∧ k = v1.length + 1 - i ∧ cs.length ≤ 1000) ?_ (v1.length + 1)
    ⟨_, 0, v2, ddA [] ys, N8, rfl, itI, hT8, kE8, P2, ny, fun r => by simp, fun r hr => by simp at hr, Nat.zero_le _, rfl, ky.len⟩
  clear N8 itI hT8 kE8
  rintro k s' ⟨m', i, ws, cs, N, hm, hit, hw, kE, Pw, nc, hmem, hall, hi, rfl, hlen⟩
  by_cases hlt : i < v1.length
  · refine W.item i _ _ _ (by simpa using hlt) ⟨hit, hl1.at fun o e => kE _ o D1L e⟩ fun v h₁ tk₁ hv st₁ hk₁ => ?_
    have hk1 : ∀ b o, b ≠ I → s'.heap.get? b = some o → h₁.get? b = some o := fun b o hb e => hk₁ b o (fun q => hb (List.mem_singleton.mp q)) e
    have hv' : v1[i]? = some v := by simpa using hv
    obtain ⟨r, hr', hvr⟩ := paired_get P1 hv'
    have hrx : r ∈ ddA [] xs := List.mem_of_getElem? hr'
    have tk_eq : (ddA [] xs).take (i + 1) = (ddA [] xs).take i ++ [r] := by rw [List.take_add_one, hr']; rfl
    have N1 : Now s L m' { s' with heap := h₁, toks := tk₁ } := ⟨N.ev.trans ⟨_, _, rfl⟩, ⟨N.F.ns.at' fun o e => hk1 _ o LI e, fun b o e => hk1 b o (fun q => by rw [q, nI0] at e; cases e) (N.F.keep b o e), N.F.above⟩⟩
    refine wpAny_assign_Name (st_ N1 fun s2 N2 hs2 => ?_)
    replace hw := (hw.at fun o e => hk1 _ o TI e).extBut hs2.extBut TL
    have hit2 : s2.heap.IsListIter I D1 (i + 1) := st₁.1.extBut hs2.extBut (Ne.symm LI)
    have kE2 : ∀ b o, b ≠ L → sE.heap.get? b = some o → s2.heap.get? b = some o := fun b o hb e => hs2.extBut b o hb (hk1 b o (fun q => by rw [q, nI] at e; cases e) (kE b o hb e))
    have hm2 : (fun y => if y = Str.ofString "elem" then some v else m' y) (Str.ofString "t") = some (.ref T) := by
      show (if Str.ofString "t" = Str.ofString "elem" then some v else m' "t") = _
      rw [if_neg (by decide +kernel)]; exact hm
    clear hs2 hk1 hk₁ st₁ N1 kE hit N hm
    refine wpAny_execs_cons ?_
    refine wpAny_Expr ?_
    refine MethodCall_ (ld N2.F hm2 ?_)
    refine getMethod_remove hw (callWith_m (args_cons (ld N2.F rfl (args_nil ?_))))
    have okc : ∀ d ∈ cs.map K2, Ok d := fun d hd => by
      obtain ⟨c, hc, rfl⟩ := List.mem_map.mp hd
      exact ky.ok2 _ (List.mem_map_of_mem ((hmem c).mp hc).1)
    refine remove_rows R1 hw (Pw.ext NE.F.ns kE2).all (hvr.ext (K2_lst _) NE.F.ns kE2) okc (kx.ok2 _ (List.mem_map_of_mem hrx)) hlen (fun hrc h₃ j hl₃ ej hs₃ => ?_) (fun hrc h₃ tk₃ e hx => ?_)
    · refine wpAny_execs_nil ?_
      have N3 : Now s L _ { s2 with heap := h₃ } := ⟨N2.ev.trans ⟨_, _, rfl⟩, ⟨N2.F.ns.sameBut hs₃ (Ne.symm TL), fun b o e => hs₃.extBut b o (fun q => by rw [q, nT0] at e; cases e) (N2.F.keep b o e), N2.F.above⟩⟩
      refine ⟨v1.length + 1 - (i + 1), by omega, _, i + 1, ws.eraseIdx j, cs.erase r, N3, hm2, hit2.extBut hs₃.extBut (Ne.symm TI), hl₃, fun b o hb e => hs₃.extBut b o (fun q => by rw [q, nT] at e; cases e) (kE2 b o hb e), ej ▸ paired_erase Pw j, nc.erase r, fun r' => ?_, fun r' hr'' => ?_, hlt, rfl, Nat.le_trans List.length_erase_le hlen⟩
      · rw [nc.mem_erase_iff, hmem, tk_eq, List.mem_append, List.mem_singleton]
        exact ⟨fun h => ⟨h.2.1, fun q => q.elim h.2.2 h.1⟩, fun h => ⟨fun q => h.2 (.inr q), h.1, fun q => h.2 (.inl q)⟩⟩
      · rw [tk_eq, List.mem_append, List.mem_singleton] at hr''
        rcases hr'' with h | rfl
        · exact hall _ h
        · exact ((hmem _).mp hrc).1
    · have hno : sameRows xs ys = false := by
        rw [← Bool.not_eq_true, hsame]
        intro h
        exact hrc ((hmem r).mpr ⟨(h r).mp hrx, nodup_take nx hr'⟩)
      show notedBy _ _ _ (cameBackBy _ _ _ _) _ _
      refine PassesOwn.looking _ _ ?_
      have hg2 := hg0.keeps N2.F.keep
      have hb2 := hb0.keeps N2.F.keep
      refine caught_in K N2.F hx hg2 hb2 mval bval fun h' hst hup => ?_
      refine wpAny_execs_cons (wpAny_Return_some (wpAny_Constant_bool ⟨_, rfl, ?_⟩))
      rw [← hno]
      exact hQ _ (N2.ev.trans ⟨_, _, rfl⟩) hst ((Heap.UpToSlots.of_keeps N2.F.keep).trans hup)
  · have hin : i = v1.length := by omega
    subst hin
    refine W.done _ _ _ (by simpa using ⟨hit, hl1.at fun o e => kE _ o D1L e⟩) fun h₁ tk₁ hk₁ => ?_
    refine wpAny_execs_nil ?_
    refine wpAny_execs_nil ?_
    refine wpAny_execs_nil ?_
    have hk1 : ∀ b o, b ≠ I → s'.heap.get? b = some o → h₁.get? b = some o := fun b o hb e => hk₁ b o (fun q => hb (List.mem_singleton.mp q)) e
    have N1 : Now s L m' { s' with heap := h₁, toks := tk₁ } := ⟨N.ev.trans ⟨_, _, rfl⟩, ⟨N.F.ns.at' fun o e => hk1 _ o LI e, fun b o e => hk1 b o (fun q => by rw [q, nI0] at e; cases e) (N.F.keep b o e), N.F.above⟩⟩
    rw [List.take_of_length_le (by rw [len1]; exact Nat.le_refl _)] at hmem hall
    refine wpAny_execs_cons ?_
    refine wpAny_Return_some (wpAny_UnaryOp (ld N1.F hm (not_of ?_)))
    refine wpAny_truthy_list (hw.at fun o e => hk1 _ o TI e).isList (by have := Pw.length; rw [List.size_toArray]; omega) ?_
    refine ⟨_, rfl, ?_⟩
    have hyes : (!!ws.toArray.isEmpty) = sameRows xs ys := by
      have hwl : ws.length = cs.length := Pw.length
      rw [Bool.not_not, Bool.eq_iff_iff, hsame]
      constructor
      · intro h r
        have hw0 : ws = [] := by simpa using h
        have hc0 : cs = [] := by
          rw [hw0] at hwl
          exact List.length_eq_zero_iff.mp hwl.symm
        refine ⟨hall r, fun hr => Decidable.byContradiction fun q => ?_⟩
        have := (hmem r).mpr ⟨hr, q⟩
        rw [hc0] at this; cases this
      · intro h
        have hc0 : cs = [] := by
          cases hc : cs with
          | nil => rfl
          | cons c cs' =>
            have := (hmem c).mp (by rw [hc]; exact .head _)
            exact absurd ((h c).mpr this.1) this.2
        rw [hc0] at hwl
        have : ws = [] := List.length_eq_zero_iff.mp hwl
        simp [this]
    rw [hyes]
    have kk := (N1.kp (kp_toks (s := { s' with heap := h₁, toks := tk₁ }) (tk₁ + 1 + 1))).end
    exact hQ _ (.of kk) (fun b o e => kp_heap kk b o (K.stays b o e)) (Heap.UpToSlots.of_keeps (kp_heap kk))
end
end Mine

/-! part M21 -/
namespace Mine
open PySem.Calls

theorem Den.extC {h h' : Heap} {c : Addr} {v₀ : Option Value} {v : Value} {d : PyData} (x : Den h v d) (hl : lst d = true) (hc : h.IsCell c v₀) (hk : ∀ b o, b ≠ c → h.get? b = some o → h'.get? b = some o) : Den h' v d := by
  obtain ⟨as, r⟩ := x
  refine ⟨as, reads_at r hl fun a ha o e => hk a o (fun q => ?_) e⟩
  obtain ⟨o', xs, n, e', ed⟩ := reads_live r hl a ha
  obtain ⟨o2, e2, ed2⟩ := hc
  rw [q, e2] at e'
  obtain rfl := Option.some.inj e'
  rw [ed2] at ed; cases ed

def dotS : Str := ⟨#[46]⟩
theorem dot_lit : Str.ofString "." = dotS := by decide +kernel
theorem slice_dot (r : List Nat) : (Txt.slice (mk r) none (some 1) == dotS) = decide (r.head? = some 46) := by
  cases r with
  | nil => decide +kernel
  | cons c r =>
    have h := slice_closes_toL (x := mk (c :: r)) (j := 1) (by decide) (by simp [mk, Str.length]; omega)
    have e := eq_of_beq h
    rw [e, mk_toList]
    simp only [List.head?_cons, Option.some.injEq]
    show ((⟨#[c]⟩ : Str) == dotS) = _
    by_cases hc : c = 46
    · subst hc; decide +kernel
    · rw [decide_eq_false hc, beq_eq_false_iff_ne]
      intro q
      have := congrArg (fun x : Str => x.cps.toList) q
      simp [dotS] at this
      exact hc this
theorem dot_add (r : List Nat) : dotS ++ mk r = mk (46 :: r) := by
  have : (dotS ++ mk r).cps.toList = (mk (46 :: r)).cps.toList := by
    show (dotS.cps ++ (mk r).cps).toList = _
    rw [Array.toList_append, mk_toList, mk_toList]; rfl
  exact Str.ext' (Array.toList_inj.mp this)

section
variable {prog : Program} {w : World} {A : Around} {E : Value → Shared → Prop} {s : Shared}

theorem stCell_ {s₀ : Shared} {name : Str} {scope : Scope} {L a : Addr} {cd : Value} {m : Str → Option Value} {x : Str} {v : Value} {v₀ : Option Value} {Q : Unit → Shared → Prop} (N : Now s₀ L m s) (hc : s.heap.IsCell (L + 1) v₀)
    (h : ∀ s', Now s₀ L m s' → s'.heap.IsCell (L + 1) (some v) → (∀ b o, b ≠ L + 1 → s.heap.get? b = some o → s'.heap.get? b = some o) → Q () s')
    (hk : scope.kind = .function := by rfl) (hl : (envOfC name scope L a cd).kindOf x = some .cell := by rfl) (hx : (envOfC name scope L a cd).cells.lookup x = some (L + 1) := by rfl) :
    wpAny (model prog w) A (storeName (envOfC name scope L a cd) x v) Q E s :=
  wpAny_storeName_cell hk hl hx hc fun h' hv hs => h _ ⟨N.ev.trans ⟨_, s.toks, rfl⟩, ⟨N.F.ns.sameBut hs (Nat.ne_of_lt (Nat.lt_succ_self L)), fun b o e => hs.extBut b o (Nat.ne_of_lt (Nat.lt_succ_of_lt (Nat.lt_of_lt_of_le (Heap.lt_size e) N.F.above))) (N.F.keep b o e), N.F.above⟩⟩ hv fun b o hb e => hs.extBut b o hb e

theorem head_str {env : Env} {value e : Expr} {p pos : Pos} {Q : Value → Shared → Prop}
    (h : wpAny (model prog w) A (eval value env) (fun o s₁ => ∃ x t, o = .str x t ∧ x.length ≤ 10000 ∧ wpAny (model prog w) A (eval e env) (fun u s₂ => ∃ k tk, u = .int k tk ∧ 
      ∀ t' s', Keeps s₂ s' → Q (.str (Txt.slice x none (some k)) t') s') E s₁) E s)
    (ht : ∀ o r, letTemporaryGo value o r = pure () := by intro _ _; rfl) :
    wpAny (model prog w) A (eval (.Subscript value (.Slice none (some e) none p) pos) env) Q E s := by
  refine wpAny_Subscript_Slice (T := "str") F.slot_str_getitem.lookup (wpAny_mono h (fun o s₁ h₁ => ?_) fun _ _ x => x) ht
  obtain ⟨x, t, rfl, hsz, hu⟩ := h₁
  refine wpAny_Slice (wpAny_pure (wpAny_mono hu (fun u s₂ h₂ => wpAny_pure ?_) fun _ _ x => x))
  obtain ⟨k, tk, rfl, hQ⟩ := h₂
  refine ⟨typeIs_str _ _ _, wpAny_getItem_str_slice (l := none) (u := some (k, tk)) (st := none) ⟨_, Heap.get?_push_size _ rfl, rfl, rfl⟩ rfl
    (post_val_or_str ⟨Nat.le_trans (Txt.slice_le x _ _) (by rw [sizeLine_eq]; omega), fun t' k' => hQ t' _ ⟨_, k', rfl, fun b o e => Heap.get?_push_of_some _ e⟩⟩)⟩

theorem add_ll {l b : Addr} {vs ws : List Value} {Q : Value → Shared → Prop} (hl : s.heap.IsList l vs.toArray) (hb : s.heap.IsList b ws.toArray) (hsz : vs.length + ws.length ≤ 10000)
    (h : ∀ D s', Keeps s s' → s'.heap.IsList D (vs ++ ws).toArray → Q (.ref D) s') : wpAny (model prog w) A (binaryOp .Add (.ref l) (.ref b)) Q E s := by
  obtain ⟨⟨cls, dd, data, sl⟩, ho, hc, n, hd⟩ := id hl
  obtain ⟨⟨cls2, dd2, data2, sl2⟩, ho2, hc2, n2, hd2⟩ := id hb
  simp only at hc hd hc2 hd2
  subst hc hd hc2 hd2
  have e : vs.toArray ++ ws.toArray = (vs ++ ws).toArray := by simp
  refine concat_meets ⟨_, ho, rfl⟩ ⟨_, ho2, rfl⟩ noFill_list_add seq_list_add PySem.F.slot_list_add PySem.F.entry_list_add (PySem.F.args_list_add_2 _ _) (list_addW l b vs.toArray ws.toArray n n2 dd dd2 sl sl2 (by rw [List.size_toArray, List.size_toArray, sizeLine_eq]; omega)) ⟨ho, ho2, ?_⟩
  rw [e]
  exact h _ _ ⟨_, s.toks, rfl, fun b o e => Heap.get?_push_of_some _ e⟩ ⟨_, Heap.get?_push_size _ rfl, rfl, _, rfl⟩
theorem wp_eq {x y : Value} {d e : PyData} {n : Nat} {Q : Value → Shared → Prop} (R : Room A n) (hx : Den s.heap x d) (hy : Den s.heap y e) (od : d.canLay0 = true) (oe : e.canLay0 = true) (dd : d.depth ≤ 10)
    (h : Q (.bool (PyData.eqv d e)) s) : wpAny (model prog w) A (compareOp .Eq x y) Q E s := by
  obtain ⟨as, rc⟩ := hx
  obtain ⟨bs, rx⟩ := hy
  exact SeqAt.compareEq_reads rc rx od oe (by have := R.units; omega) h
end
end Mine

/-! part M22 -/
namespace Mine
open PySem.Calls

theorem two_at {x y : Str} {tx ty : Tok} {i : Nat} {v : Value} (h : [Value.str x tx, .str y ty][i]? = some v) (hx : Sm 900 x) (hy : Sm 900 y) : ∃ t, v = .str (if i = 0 then x else y) t ∧ Sm 900 (if i = 0 then x else y) := by
  rcases i with _ | _ | i
  · simp at h; exact ⟨tx, h.symm, hx⟩
  · simp at h; exact ⟨ty, h.symm, hy⟩
  · simp at h
theorem den_two {h : Heap} {D : Addr} {x y : Str} (d : Den h (.ref D) (.list [.str x, .str y])) : ∃ tx ty, h.IsList D [Value.str x tx, .str y ty].toArray := by
  obtain ⟨_, vs, e, hl, hp⟩ := d.list_inv
  cases e
  cases hp with
  | cons p q =>
    cases q with
    | cons p' q' =>
      cases q'
      obtain ⟨t, rfl⟩ := p.str_inv
      obtain ⟨t', rfl⟩ := p'.str_inv
      exact ⟨t, t', hl⟩
def rr (x y : Str) (i : Nat) : List (List Nat) := rowsL (if i = 0 then x else y).cps.toList

/-- two lists of rows -/
def Tw (a b : List (List Nat)) : PyData := .list [.list (a.map K1), .list (b.map K1)]
theorem Tw_lst (a b : List (List Nat)) : lst (Tw a b) = true := by
  have h1 : lst (.list (a.map K1)) = true := lstL K1_lst
  have h2 : lst (.list (b.map K1)) = true := lstL K1_lst
  simp only [Tw, lst, lstAll] at h1 h2 ⊢
  rw [h1, h2]; rfl
theorem Tw_lay {B : Nat} {a b : List (List Nat)} (ha : Rw B a) (hb : Rw B b) : (Tw a b).canLay0 = true := by
  have h1 := lay_list ha.ok1
  have h2 := lay_list hb.ok1
  simp only [Tw, PyData.canLay0, PyData.canLayAll0] at h1 h2 ⊢
  rw [h1, h2]; rfl
theorem Tw_depth {B : Nat} {a b : List (List Nat)} (ha : Rw B a) (hb : Rw B b) : (Tw a b).depth ≤ 10 := by
  have h1 := depth_list ha.ok1
  have h2 := depth_list hb.ok1
  simp only [Tw, PyData.depth, PyData.depthAll] at h1 h2 ⊢
  omega
theorem Tw_eqv (a b : List (List Nat)) : PyData.eqv (Tw a b) (Tw a b) = true := by
  have h1 := eqv_list K1_eqv a
  have h2 := eqv_list K1_eqv b
  simp only [Tw, PyData.eqv, PyData.eqvAll] at h1 h2 ⊢
  rw [h1, h2]; rfl
theorem map_q (a : List (List Nat)) : a.map (fun r => K1 (q r)) = (a.map q).map K1 := by rw [List.map_map]; rfl
/-- a list of two lists of rows, taken apart -/
theorem Tw_at {h : Heap} {P : Addr} {a b : List (List Nat)} (d : Den h (.ref P) (Tw a b)) : ∃ pa pb, h.IsList P [Value.ref pa, .ref pb].toArray ∧ Den h (.ref pa) (.list (a.map K1)) ∧ Den h (.ref pb) (.list (b.map K1)) := by
  obtain ⟨_, vs, e, hl, hp⟩ := d.list_inv
  cases e
  cases hp with
  | cons p q =>
    cases q with
    | cons p' q' =>
      cases q'
      obtain ⟨pa, _, rfl, _, _⟩ := p.list_inv
      obtain ⟨pb, _, rfl, _, _⟩ := p'.list_inv
      exact ⟨pa, pb, hl, p, p'⟩

section
variable {prog : Program} {w : World} {A : Around} {E : Value → Shared → Prop} {s : Shared}

theorem paired_append {α β : Type} {F : α → β → Prop} : ∀ {l₁ l₁' : List α} {l₂ l₂' : List β}, Paired F l₁ l₂ → Paired F l₁' l₂' → Paired F (l₁ ++ l₁') (l₂ ++ l₂')
  | _, _, _, _, .nil, h => h
  | _, _, _, _, .cons f t, h => .cons f (paired_append t h)
/-- the ones for the rows of a that b lacks -/
def lack (a b : List (List Nat)) : List PyData := ((List.range a.length).filter fun i => !decide (a.getD i [] ∈ b)).map fun _ => .int 1
theorem lack_nil (a b : List (List Nat)) : lack a b = [] ↔ ∀ r ∈ a, r ∈ b := by
  unfold lack
  rw [List.map_eq_nil_iff, List.filter_eq_nil_iff]
  simp only [List.mem_range, Bool.not_eq_true', decide_eq_false_iff_not, Decidable.not_not]
  constructor
  · intro h r hr
    obtain ⟨i, hi, rfl⟩ := List.getElem_of_mem hr
    have := h i hi
    rwa [List.getD_eq_getElem?_getD, List.getElem?_eq_getElem hi] at this
  · intro h i hi
    rw [List.getD_eq_getElem?_getD, List.getElem?_eq_getElem hi]
    exact h _ (List.getElem_mem hi)
theorem lack_ok (a b : List (List Nat)) : ∀ d ∈ lack a b, Ok d := fun d hd => by
  obtain ⟨_, _, rfl⟩ := List.mem_map.mp hd
  exact ⟨rfl, rfl, by decide⟩
theorem lack_len (a b : List (List Nat)) : (lack a b).length ≤ a.length := by
  unfold lack
  rw [List.length_map]
  exact Nat.le_trans (List.length_filter_le _ _) (by simp)
theorem lack_same {a b : List (List Nat)} : PyData.eqv (.list (lack a b ++ lack b a)) (.list []) = sameRows (a.map q) (b.map q) := by
  have h1 : PyData.eqv (.list (lack a b ++ lack b a)) (.list []) = (lack a b ++ lack b a).isEmpty := by
    cases lack a b ++ lack b a <;> rfl
  rw [h1, Bool.eq_iff_iff]
  unfold sameRows
  simp only [List.isEmpty_iff, List.append_eq_nil_iff, lack_nil, Bool.and_eq_true, List.all_eq_true, decide_eq_true_eq, List.mem_map, forall_exists_index, and_imp, forall_apply_eq_imp_iff₂]
  constructor
  · exact fun h => ⟨fun r hr => ⟨r, h.1 r hr, rfl⟩, fun r hr => ⟨r, h.2 r hr, rfl⟩⟩
  · refine fun h => ⟨fun r hr => ?_, fun r hr => ?_⟩
    · obtain ⟨r', h', e⟩ := h.1 r hr; rwa [← q_inj e]
    · obtain ⟨r', h', e⟩ := h.2 r hr; rwa [← q_inj e]
theorem pushC {base h₀ h : Heap} {outer : List Env} {L a : Addr} {m : Str → Option Value} {name : Str} {scope : Scope} {cd : Value} (K : Below A base outer h₀) (F : Fr h₀ L h m) (hk : scope.kind = .function := by rfl) :
    Below (A.deeper (envOfC name scope L a cd)) base (envOfC name scope L a cd :: outer) h := by
  have hnew : base.get? L = none := by
    cases hq : base.get? L with
    | none => rfl
    | some o => exact absurd (Nat.lt_of_lt_of_le (Heap.lt_size (K.stays L o hq)) F.above) (Nat.lt_irrefl _)
  refine ⟨Around.frames_deeper K.stack, fun b o e => F.keep b o (K.stays b o e), ?_⟩
  exact .cons (by show scope.kind ≠ .module; rw [hk]; decide) rfl F.ns hnew (K.frames.of_keeps fun b o e _ => ⟨o, F.keep b o e, rfl⟩)

theorem law_call {base : Heap} {outer : List Env} {l c : Addr} {vs : List Value} {n : Nat} {Q : Value → Shared → Prop} (G : Glo s.heap) (f91 : FnAt s.heap 91 c "law" (defAt 14)) (R : Room A (n + 5)) (K : Below A base outer s.heap)
    (hl : s.heap.IsList l vs.toArray) (hi : ∀ v ∈ vs, ∃ k t, v = .int k t) (hsz : vs.length ≤ 63) (hQ : ∀ s', Ev s s' → base.StaysIn s'.heap → Q (.bool true) s') :
    wpAny (model prog w) A (call (.ref 91) [.ref l]) Q E s := by
  refine call_nowC G f91 R.here (binds := [("script", .ref l)]) (fun _ => rfl) ?_ fun L s1 N1 X => ?_
  · intro n x hx
    rw [List.mem_singleton.mp hx]; exact .inl rfl
  have hc : s1.heap.IsCell (L + 1) none := X.cell "parted" (L + 1) rfl
  have cL : L + 1 ≠ L := Nat.succ_ne_self L
  clear X
  have R1 := R.deeper (envOfC "law" (sScope (defAt 14)) L 91 (.ref c))
  obtain ⟨mg, hg0, _, _, _, g48, g55, g62, g69, g74, g81, g86, mlen, mrange, mlist, mtype, _⟩ := id G.g
  -- texts_of
  refine wpAny_execs_cons ?_
  refine wpAny_Assign_Name ?_
  refine Call_ ?_
  refine Name_function_global rfl rfl (loadGlobal_global (hg0.keeps N1.F.keep) g74 (callWith_f G.f74 (args_cons ?_)))
  refine take_list (ldLoc N1.F rfl ⟨l, vs, rfl, hl.at fun o e => N1.F.keep _ o e, by omega, con_int fun t2 s2 k2 => ⟨10, t2, rfl, by decide, k2, fun D0 s3 k3 hD0 nD0 => args_nil ⟨((N1.kp k2).kp k3).F.keep, ?_⟩⟩⟩)
  have k13 := kp_trans k2 k3
  have N3 := N1.kp k13
  refine texts_call (n := n + 3) (N3.glo G) (R1.le (by omega)) hD0 (fun v hv => hi v (List.mem_of_mem_take hv)) (by rw [List.length_take]; omega) fun Tx s4 x y sx sy hnew k4 => ?_
  have N4 := N3.kp k4
  have dT := hnew.den
  have hc4 := cell_kp hc (kp_trans k13 k4)
  clear hnew nD0 hD0 k2 k3 k4 k13 N3 hc N1
  refine stC_ N4 fun s5 N5 hk5 => ?_
  replace dT := dT.ext rfl N4.F.ns hk5
  have hc5 := cell_ext hc4 cL hk5
  clear hk5 hc4 N4
  have x0 := Rw.of sx.len sx.ok
  have y0 := Rw.of sy.len sy.ok
  -- parted
  refine wpAny_execs_cons ?_
  refine wpAny_Assign_Name ?_
  obtain ⟨tx, ty, lT⟩ := den_two dT
  refine compL_value R1.handled (closure_nil rfl) (by decide) rfl (by decide) rfl (ldLoc N5.F rfl ?_)
  refine ⟨Tx, _, fun _ => true, fun i => .list ((rr x y i).map K1), rfl, lT, by rw [sizeLine_eq]; simp, fun i => lstL K1_lst, ⟨fun C i v s₃ m₃ E' _ _ _ _ _ => wpAny_pure ⟨rfl, kp_refl _⟩, fun C i v s₃ m₃ E' hC hv hp hn hm hk => ?_⟩, fun P s6 hnew6 _ k6 => ?_⟩
  · obtain ⟨t, rfl, sm⟩ := two_at hv sx sy
    have hk' : ∀ b o, s.heap.get? b = some o → s₃.heap.get? b = some o := fun b o e => hk b o (N5.F.keep b o e)
    refine MethodCall_ (Call_ ?_)
    refine Name_function_global rfl rfl (loadGlobal_global (hg0.keeps hk') g55 (callWith_f G.f55 (args_cons (ldV_ hn hm (args_nil ⟨hk', ?_⟩)))))
    have hs := fixL_len (if i = 0 then x else y).cps.toList
    have hs2 : (if i = 0 then x else y).cps.toList.length ≤ 900 := by simpa [Str.length] using sm.len
    refine fix_text (G.keeps hk') R1.here (by have := sm.len; omega) fun t' s' k' => ?_
    refine GM.split (callWith_m (args_cons (con_str fun t'' s'' k'' => args_nil ?_)))
    rw [crlf_lit]
    refine split_call (by decide) (by show (mk _).cps.size + 2 ≤ _; rw [size_toList, mk_toList, sizeLine_eq]; omega) fun D s₅ hn5 _ k5 => ⟨?_, kp_trans (kp_trans k' k'') k5⟩
    rw [split_fix, ← K1_map] at hn5
    exact hn5.base (kp_heap (kp_trans k' k''))
  have dP : Den s6.heap (.ref P) (Tw (rowsL x.cps.toList) (rowsL y.cps.toList)) := hnew6.den
  replace dT := dT.keeps (kp_heap k6)
  have N6 := N5.kp k6
  have hc6 := cell_kp hc5 k6
  clear hnew6 k6 lT tx ty N5 hc5
  refine stCell_ N6 hc6 fun s7 N7 hc7 hk7 => ?_
  replace dT := dT.extC rfl hc6 hk7
  replace dP := dP.extC (Tw_lst _ _) hc6 hk7
  clear hk7 hc6 N6
  -- the first test
  refine wpAny_execs_cons ?_
  refine wpAny_If ?_
  refine wpAny_isTrue_Compare1 ?_
  refine wpAny_Name (wpAny_loadName_cell rfl rfl (c := L + 1) rfl hc7 ?_) (by decide)
  obtain ⟨tx, ty, lT⟩ := den_two dT
  refine compL_value R1.handled (closure_nil rfl) (by decide) rfl (by decide) rfl (ldLoc N7.F rfl ?_)
  refine ⟨Tx, _, fun _ => true, fun i => .list ((rr x y i).map K1), rfl, lT, by rw [sizeLine_eq]; simp, fun i => lstL K1_lst, ⟨fun C i v s₃ m₃ E' _ _ _ _ _ => wpAny_pure ⟨rfl, kp_refl _⟩, fun C i v s₃ m₃ E' hC hv hp hn hm hk => ?_⟩, fun P2 s8 hnew8 _ k8 => ?_⟩
  · obtain ⟨t, rfl, sm⟩ := two_at hv sx sy
    have hk' : ∀ b o, s.heap.get? b = some o → s₃.heap.get? b = some o := fun b o e => hk b o (N7.F.keep b o e)
    refine Call_ ?_
    refine Name_function_global rfl rfl (loadGlobal_global (hg0.keeps hk') g81 (callWith_f G.f81 (args_cons (ldV_ hn hm (args_nil ⟨hk', ?_⟩)))))
    exact rows_call (G.keeps hk') R1.here (by have := sm.len; omega) fun D s' hn' k' => ⟨hn', k'⟩
  have d2 : Den s8.heap (.ref P2) (Tw (rowsL x.cps.toList) (rowsL y.cps.toList)) := hnew8.den
  have N8 := N7.kp k8
  have hc8 := cell_kp hc7 k8
  replace dT := dT.keeps (kp_heap k8)
  replace dP := dP.keeps (kp_heap k8)
  clear hnew8 lT tx ty k8 N7 hc7
  refine wp_ne R1 dP d2 (Tw_lay x0 y0) (Tw_lay x0 y0) (Tw_depth x0 y0) (wpAny_truthy_bool ?_)
  rw [Tw_eqv, Bool.not_true, if_neg Bool.false_ne_true]
  refine wpAny_execs_nil ?_
  clear d2
  -- sent
  refine wpAny_execs_cons ?_
  refine compL_now N8 R1.handled rfl (closure_nil rfl) (by decide) rfl (by decide) rfl rfl rfl rfl ?_
  obtain ⟨tx, ty, lT⟩ := den_two dT
  refine ldLoc N8.F rfl ?_
  refine ⟨Tx, _, fun _ => true, fun i => .list (((rr x y i).map q).map K1), rfl, kp_refl _, lT, by rw [sizeLine_eq]; simp, fun i => lstL K1_lst, ⟨fun C i v s₃ m₃ E' _ _ _ _ _ => wpAny_pure ⟨rfl, kp_refl _⟩, fun C i v s₃ m₃ E' hC hv hp hn hm hk => ?_⟩, fun S s9 N9 hnew9 _ hk9 => ?_⟩
  · obtain ⟨t, rfl, sm⟩ := two_at hv sx sy
    have hk' : ∀ b o, s.heap.get? b = some o → s₃.heap.get? b = some o := fun b o e => hk b o (N8.F.keep b o e)
    refine MethodCall_ (Call_ ?_)
    refine Name_function_global rfl rfl (loadGlobal_global (hg0.keeps hk') g48 (callWith_f G.f48 (args_cons (ldV_ hn hm (args_nil ⟨hk', ?_⟩)))))
    have hs := fixL_len (if i = 0 then x else y).cps.toList
    have hs' := qGo_len (fixL (if i = 0 then x else y).cps.toList) true
    have hs2 : (if i = 0 then x else y).cps.toList.length ≤ 900 := by simpa [Str.length] using sm.len
    refine quote_text (G.keeps hk') R1.here (by have := sm.len; omega) fun t' s' k' => ?_
    refine GM.split (callWith_m (args_cons (con_str fun t'' s'' k'' => args_nil ?_)))
    rw [crlf_lit]
    refine split_call (by decide) (by show (mk _).cps.size + 2 ≤ _; rw [size_toList, mk_toList, sizeLine_eq]; omega) fun D s₅ hn5 _ k5 => ⟨?_, kp_trans (kp_trans k' k'') k5⟩
    rw [split_quote, show ((rowsL (if i = 0 then x else y).cps.toList).map fun r => mk (q r)).map PyData.str = ((rr x y i).map q).map K1 from by rw [List.map_map, List.map_map]; rfl] at hn5
    exact hn5.base (kp_heap (kp_trans k' k''))
  have dS : Den s9.heap (.ref S) (Tw ((rowsL x.cps.toList).map q) ((rowsL y.cps.toList).map q)) := hnew9.den
  replace dP := dP.ext (Tw_lst _ _) N8.F.ns hk9
  have hc9 := cell_ext hc8 cL hk9
  clear hnew9 hk9 N8 hc8 lT tx ty dT
  have xq := x0.q
  have yq := y0.q
  -- the second test
  refine wpAny_execs_cons ?_
  refine wpAny_If ?_
  refine wpAny_isTrue_Compare1 (ldLoc N9.F rfl ?_)
  refine compL_value R1.handled (closure_nil rfl) (by decide) rfl (by decide) rfl ?_
  refine wpAny_Name (wpAny_loadName_cell rfl rfl (c := L + 1) rfl hc9 ?_) (by decide)
  obtain ⟨pa, pb, lPp, dpa, dpb⟩ := Tw_at dP
  refine ⟨P, _, fun _ => true, fun i => .list (((rr x y i).map q).map K1), rfl, lPp, by rw [sizeLine_eq]; simp, fun i => lstL K1_lst, ⟨fun C i v s₃ m₃ E' _ _ _ _ _ => wpAny_pure ⟨rfl, kp_refl _⟩, fun C i v s₃ m₃ E' hC hv hp hn hm hk => ?_⟩, fun S2 s10 hnew10 _ k10 => ?_⟩
  · obtain ⟨pi, rfl, dpi, ri⟩ : ∃ pi, v = .ref pi ∧ Den s₃.heap (.ref pi) (.list ((rr x y i).map K1)) ∧ Rw 1000 (rr x y i) := by
      rcases i with _ | _ | i
      · simp at hv; exact ⟨pa, hv.symm, dpa.keeps hk, x0⟩
      · simp at hv; exact ⟨pb, hv.symm, dpb.keeps hk, y0⟩
      · simp at hv
    obtain ⟨_, li, e, lpi, hle⟩ := den_strs_inv (K1_map (rr x y i) ▸ dpi)
    cases e
    have hlen : (strValues li).length = (rr x y i).length := by rw [length_strValues]; simpa using congrArg List.length hle
    refine compL_value R1.handled (closure_nil rfl) (by decide) rfl (by decide) rfl (ldV_ hn hm ?_)
    refine ⟨pi, _, fun _ => true, fun j => K1 (q ((rr x y i).getD j [])), rfl, lpi, by rw [hlen, sizeLine_eq]; have := ri.len; omega, fun i => rfl, ⟨fun C j v s₄ m₄ E' _ _ _ _ _ => wpAny_pure ⟨rfl, kp_refl _⟩, fun C' j v s₄ m₄ E'' hC' hv' hp' hn' hm' hk' => ?_⟩, fun D s₅ hn5 _ k5 => ⟨?_, k5⟩⟩
    · have hj : j < (rr x y i).length := by rw [← hlen]; exact (List.getElem?_eq_some_iff.mp hv').1
      obtain ⟨tj, hx⟩ := strItem hle hj
      rw [hx] at hv'; cases hv'
      have hrj : (rr x y i).getD j [] ∈ rr x y i := by rw [List.getD_eq_getElem?_getD, List.getElem?_eq_getElem hj]; exact List.getElem_mem hj
      have hlj := ri.each _ hrj
      generalize (rr x y i).getD j [] = r at *
      have hlr : (mk r).length ≤ 1000 := by simpa [mk, Str.length] using hlj
      refine wpAny_IfExp (wpAny_isTrue_Compare1 (head_str (ldV_ hn' hm' ⟨mk r, tj, rfl, by omega, con_int fun t6 s6 k6 => ⟨1, t6, rfl, fun t7 s7 k7 => con_str fun t8 s8 k8 => ?_⟩⟩)))
      have k48 := kp_trans (kp_trans k6 k7) k8
      refine PyProof.Rows.eq_str (wpAny_truthy_bool ?_)
      rw [dot_lit, slice_dot]
      by_cases hd : r.head? = some 46
      · rw [decide_eq_true hd, if_pos rfl]
        refine wpAny_BinOp (con_str fun t9 s9 k9 => ?_)
        have k49 := kp_trans k48 k9
        refine ldV_ (hn'.keeps (kp_heap k49)) hm' ?_
        refine PyProof.Rows.add_str (fun t' tk => ?_) (by rw [sizeLine_eq]; show 1 + _ ≤ _; omega)
        rw [dot_add, show 46 :: r = q r from by unfold q; rw [if_pos hd]]
        exact ⟨New.str _ _, kp_trans k49 (kp_toks _)⟩
      · rw [decide_eq_false hd, if_neg Bool.false_ne_true]
        refine ldV_ (hn'.keeps (kp_heap k48)) hm' ?_
        rw [show K1 (q r) = .str (mk r) from by unfold q; rw [if_neg hd]; rfl]
        exact ⟨New.str _ _, k48⟩
    · have e := range_all (K := fun r => K1 (q r)) (rs := rr x y i) rfl (strValues li).length hlen
      rw [e, map_q] at hn5
      exact hn5
  have d2 : Den s10.heap (.ref S2) (Tw ((rowsL x.cps.toList).map q) ((rowsL y.cps.toList).map q)) := hnew10.den
  have N10 := N9.kp k10
  have hc10 := cell_kp hc9 k10
  replace dS := dS.keeps (kp_heap k10)
  replace dP := dP.keeps (kp_heap k10)
  clear hnew10 k10 N9 hc9 lPp dpa dpb pa pb
  refine wp_ne R1 dS d2 (Tw_lay xq yq) (Tw_lay xq yq) (Tw_depth xq yq) (wpAny_truthy_bool ?_)
  rw [Tw_eqv, Bool.not_true, if_neg Bool.false_ne_true]
  refine wpAny_execs_nil ?_
  clear d2
  generalize rowsL x.cps.toList = ra at *
  generalize rowsL y.cps.toList = rb at *
  -- the third test
  obtain ⟨pa, pb, lP, dpa, dpb⟩ := Tw_at dP
  obtain ⟨sa, sb, lS, dsa, dsb⟩ := Tw_at dS
  refine wpAny_execs_cons ?_
  refine wpAny_If ?_
  refine isTrue_or (isTrue_not (isTrue_plain (Call_ ?_)))
  refine Name_function_global rfl rfl (loadGlobal_global (hg0.keeps N10.F.keep) g86 (callWith_f G.f86 (args_cons ?_)))
  refine Subscript_ (wpAny_Name (wpAny_loadName_cell rfl rfl (c := L + 1) rfl hc10 (con_int fun t11 s11 k11 => ?_)) (by decide))
  refine list_item (lP.at fun o e => kp_heap k11 _ o e) (by decide) (by decide) rfl (args_cons ?_)
  refine Subscript_ (ldLoc (N10.kp k11).F rfl (con_int fun t12 s12 k12 => ?_))
  have k1012 := kp_trans k11 k12
  refine list_item (lS.at fun o e => kp_heap k1012 _ o e) (by decide) (by decide) rfl (args_nil ⟨(N10.kp k1012).F.keep, ?_⟩)
  refine told_call (n := n + 1) ((N10.kp k1012).glo G) R1 (dpa.keeps (kp_heap k1012)) (dsa.keeps (kp_heap k1012)) x0 fun s13 k13 => ?_
  refine wpAny_truthy_bool ?_
  rw [Bool.not_true, if_neg Bool.false_ne_true]
  have k1013 := kp_trans k1012 k13
  have N13 := N10.kp k1013
  have hc13 := cell_kp hc10 k1013
  refine isTrue_or (isTrue_not (isTrue_plain (Call_ ?_)))
  refine Name_function_global rfl rfl (loadGlobal_global (hg0.keeps N13.F.keep) g86 (callWith_f G.f86 (args_cons ?_)))
  refine Subscript_ (wpAny_Name (wpAny_loadName_cell rfl rfl (c := L + 1) rfl hc13 (con_int fun t14 s14 k14 => ?_)) (by decide))
  have k1014 := kp_trans k1013 k14
  refine list_item (lP.at fun o e => kp_heap k1014 _ o e) (by decide) (by decide) rfl (args_cons ?_)
  refine Subscript_ (ldLoc (N10.kp k1014).F rfl (con_int fun t15 s15 k15 => ?_))
  have k1015 := kp_trans k1014 k15
  refine list_item (lS.at fun o e => kp_heap k1015 _ o e) (by decide) (by decide) rfl (args_nil ⟨(N10.kp k1015).F.keep, ?_⟩)
  refine told_call (n := n + 1) ((N10.kp k1015).glo G) R1 (dpb.keeps (kp_heap k1015)) (dsb.keeps (kp_heap k1015)) y0 fun s16 k16 => ?_
  refine wpAny_truthy_bool ?_
  rw [Bool.not_true, if_neg Bool.false_ne_true]
  refine isTrue_or_nil ?_
  rw [if_neg Bool.false_ne_true]
  refine wpAny_execs_nil ?_
  have k1016 := kp_trans k1015 k16
  have N16 := N10.kp k1016
  have hc16 := cell_kp hc10 k1016
  replace lP := lP.at fun o e => kp_heap k1016 _ o e
  replace lS := lS.at fun o e => kp_heap k1016 _ o e
  replace dpa := dpa.keeps (kp_heap k1016)
  replace dpb := dpb.keeps (kp_heap k1016)
  replace dsa := dsa.keeps (kp_heap k1016)
  replace dsb := dsb.keeps (kp_heap k1016)
  clear k11 k12 k1012 k13 k1013 N13 hc13 k14 k15 k1014 k1015 k16 k1016 N10 hc10 dP dS
  -- same
  refine wpAny_execs_cons ?_
  refine wpAny_Assign_Name ?_
  refine wpAny_Compare1 (wpAny_BinOp ?_)
  refine compL_value R1.handled (cl := [("parted", L + 1)]) rfl (by decide) rfl (by decide) rfl ?_
  refine Subscript_ (wpAny_Name (wpAny_loadName_cell rfl rfl (c := L + 1) rfl hc16 (con_int fun t17 s17 k17 => ?_)) (by decide))
  refine list_item (lP.at fun o e => kp_heap k17 _ o e) (by decide) (by decide) rfl ?_
  obtain ⟨_, la, e, lpa, hla⟩ := den_strs_inv (K1_map ra ▸ (dpa.keeps (kp_heap k17)))
  cases e
  have hlena : (strValues la).length = ra.length := by rw [length_strValues]; simpa using congrArg List.length hla
  refine ⟨pa, _, fun i => !decide (ra.getD i [] ∈ rb), fun _ => .int 1, rfl, lpa, by rw [hlena, sizeLine_eq]; have := x0.len; omega, fun _ => rfl, ⟨fun C i v s₃ m₃ E' hC hv hn hm hk => ?_, fun C i v s₃ m₃ E' _ _ _ _ _ _ => con_int fun t' s' k' => ⟨New.int _ _, k'⟩⟩, fun Da s18 hnew18 _ k18 => ?_⟩
  · have hi' : i < ra.length := by rw [← hlena]; exact (List.getElem?_eq_some_iff.mp hv).1
    obtain ⟨ti, hx⟩ := strItem hla hi'
    rw [hx] at hv; cases hv
    have hk' : ∀ b o, s16.heap.get? b = some o → s₃.heap.get? b = some o := fun b o e => hk b o (kp_heap k17 b o e)
    have hri : ra.getD i [] ∈ ra := by rw [List.getD_eq_getElem?_getD, List.getElem?_eq_getElem hi']; exact List.getElem_mem hi'
    refine wpAny_tests_one (wpAny_isTrue_Compare1 (ldV_ hn hm (Subscript_ (ldF_ (hc16.keeps hk') (con_int fun t' s' k' => ?_)))))
    refine list_item (lP.at fun o e => kp_heap k' _ o (hk' _ o e)) (by decide) (by decide) rfl ?_
    refine wp_notIn R1 (dpb.keeps fun b o e => kp_heap k' b o (hk' b o e)) (Den.str _ _) y0.ok1 (x0.ok1 _ (List.mem_map_of_mem (f := K1) hri)) (wpAny_truthy_bool ⟨?_, k'⟩)
    rw [show PyData.str (mk (ra.getD i [])) = K1 (ra.getD i []) from rfl, any_eqv K1_eqv]
  have dA : Den s18.heap (.ref Da) (.list (lack ra rb)) := by
    have := hnew18.den
    rwa [hlena] at this
  have k1618 := kp_trans k17 k18
  clear hnew18 lpa hla hlena k17 k18
  refine compL_value R1.handled (cl := [("parted", L + 1)]) rfl (by decide) rfl (by decide) rfl ?_
  refine Subscript_ (wpAny_Name (wpAny_loadName_cell rfl rfl (c := L + 1) rfl (cell_kp hc16 k1618) (con_int fun t19 s19 k19 => ?_)) (by decide))
  have k1619 := kp_trans k1618 k19
  refine list_item (lP.at fun o e => kp_heap k1619 _ o e) (by decide) (by decide) rfl ?_
  obtain ⟨_, lb, e, lpb, hlb⟩ := den_strs_inv (K1_map rb ▸ (dpb.keeps (kp_heap k1619)))
  cases e
  have hlenb : (strValues lb).length = rb.length := by rw [length_strValues]; simpa using congrArg List.length hlb
  refine ⟨pb, _, fun i => !decide (rb.getD i [] ∈ ra), fun _ => .int 1, rfl, lpb, by rw [hlenb, sizeLine_eq]; have := y0.len; omega, fun _ => rfl, ⟨fun C i v s₃ m₃ E' hC hv hn hm hk => ?_, fun C i v s₃ m₃ E' _ _ _ _ _ _ => con_int fun t' s' k' => ⟨New.int _ _, k'⟩⟩, fun Db s20 hnew20 _ k20 => ?_⟩
  · have hi' : i < rb.length := by rw [← hlenb]; exact (List.getElem?_eq_some_iff.mp hv).1
    obtain ⟨ti, hx⟩ := strItem hlb hi'
    rw [hx] at hv; cases hv
    have hk' : ∀ b o, s16.heap.get? b = some o → s₃.heap.get? b = some o := fun b o e => hk b o (kp_heap k1619 b o e)
    have hri : rb.getD i [] ∈ rb := by rw [List.getD_eq_getElem?_getD, List.getElem?_eq_getElem hi']; exact List.getElem_mem hi'
    refine wpAny_tests_one (wpAny_isTrue_Compare1 (ldV_ hn hm (Subscript_ (ldF_ (hc16.keeps hk') (con_int fun t' s' k' => ?_)))))
    refine list_item (lP.at fun o e => kp_heap k' _ o (hk' _ o e)) (by decide) (by decide) rfl ?_
    refine wp_notIn R1 (dpa.keeps fun b o e => kp_heap k' b o (hk' b o e)) (Den.str _ _) x0.ok1 (y0.ok1 _ (List.mem_map_of_mem (f := K1) hri)) (wpAny_truthy_bool ⟨?_, k'⟩)
    rw [show PyData.str (mk (rb.getD i [])) = K1 (rb.getD i []) from rfl, any_eqv K1_eqv]
  have dB : Den s20.heap (.ref Db) (.list (lack rb ra)) := by
    have := hnew20.den
    rwa [hlenb] at this
  have k1820 := kp_trans k19 k20
  have k1620 := kp_trans k1618 k1820
  clear hnew20 lpb hlb hlenb k19 k20 k1619
  obtain ⟨_, va, e, hva, pva⟩ := (dA.keeps (kp_heap k1820)).list_inv
  cases e
  obtain ⟨_, vb, e, hvb, pvb⟩ := dB.list_inv
  cases e
  refine add_ll hva hvb (by rw [paired_len pva, paired_len pvb]; have := lack_len ra rb; have := lack_len rb ra; have := x0.len; have := y0.len; omega) fun Dc s21 k21 hDc => ?_
  refine List_ (args_nil (new_list (by simp) fun De s22 k22 hDe _ => ?_))
  have k2022 := kp_trans k21 k22
  have okl : ∀ d ∈ lack ra rb ++ lack rb ra, Ok d := fun d hd => (List.mem_append.mp hd).elim (lack_ok _ _ d) (lack_ok _ _ d)
  have dC : Den s22.heap (.ref Dc) (.list (lack ra rb ++ lack rb ra)) := Den.list (hDc.at fun o e => kp_heap k22 _ o e) ((paired_append pva pvb).mono fun v d x => x.keeps (kp_heap k2022))
  refine wp_eq R1 dC (Den.list hDe.isList .nil) (lay_list okl) rfl (by have := depth_list okl; omega) ?_
  rw [lack_same]
  have k1622 := kp_trans k1620 k2022
  have N22 := N16.kp k1622
  replace lS := lS.at fun o e => kp_heap k1622 _ o e
  replace dsa := dsa.keeps (kp_heap k1622)
  replace dsb := dsb.keeps (kp_heap k1622)
  clear dA dB dC hDe hDc hva hvb pva pvb k1820 k1620 k1618 k21 k22 k2022 lP dpa dpb k1622 N16 hc16
  have SL : S ≠ L := fun e => by
    obtain ⟨o, ho, _, _, hd⟩ := lS
    obtain ⟨o', _, _, ho', hd', _⟩ := N22.F.ns
    rw [e, ho'] at ho
    obtain rfl := Option.some.inj ho
    rw [hd'] at hd; cases hd
  refine stC_ N22 fun s23 N23 hk23 => ?_
  replace lS := lS.at fun o e => hk23 _ o SL e
  replace dsa := dsa.ext (lstL K1_lst) N22.F.ns hk23
  replace dsb := dsb.ext (lstL K1_lst) N22.F.ns hk23
  clear hk23 N22
  -- the end
  refine wpAny_execs_cons ?_
  refine wpAny_Return_some (wpAny_Compare1 (Call_ ?_))
  refine Name_function_global rfl rfl (loadGlobal_global (hg0.keeps N23.F.keep) g69 (callWith_f G.f69 (args_cons ?_)))
  refine compL_value R1.handled (closure_nil rfl) (by decide) rfl (by decide) rfl ?_
  refine Subscript_ (ldLoc N23.F rfl (con_int fun t24 s24 k24 => ?_))
  refine list_item (lS.at fun o e => kp_heap k24 _ o e) (by decide) (by decide) rfl ?_
  obtain ⟨_, la, e, lsa, hla⟩ := den_strs_inv (K1_map (ra.map q) ▸ (dsa.keeps (kp_heap k24)))
  cases e
  have hlena : (strValues la).length = (ra.map q).length := by rw [length_strValues]; simpa using congrArg List.length hla
  refine ⟨sa, _, fun _ => true, fun i => K2 ((ra.map q).getD i []), rfl, lsa, by rw [hlena, sizeLine_eq]; have := xq.len; omega, fun i => K2_lst _, ⟨fun C i v s₃ m₃ E' _ _ _ _ _ => wpAny_pure ⟨rfl, kp_refl _⟩, fun C i v s₃ m₃ E' hC hv hp hn hm hk => ?_⟩, fun Da s25 hnew25 _ k25 => args_cons ?_⟩
  · obtain ⟨tx, hx⟩ := strItem hla (i := i) (by rw [← hlena]; exact (List.getElem?_eq_some_iff.mp hv).1)
    rw [hx] at hv; cases hv
    refine List_ (args_cons (ldV_ hn hm (args_nil (new_list (by simp) fun D s' k hD nD => ⟨?_, k⟩))))
    exact New.list hD.isList nD (.cons (New.str _ _) .nil)
  have dA : Den s25.heap (.ref Da) (.list ((ra.map q).map K2)) := by
    have := hnew25.den
    rwa [range_all rfl _ hlena] at this
  have k2325 := kp_trans k24 k25
  clear hnew25 lsa hla hlena
  refine compL_value R1.handled (closure_nil rfl) (by decide) rfl (by decide) rfl ?_
  refine Subscript_ (ldLoc (N23.kp k2325).F rfl (con_int fun t26 s26 k26 => ?_))
  have k2326 := kp_trans k2325 k26
  refine list_item (lS.at fun o e => kp_heap k2326 _ o e) (by decide) (by decide) rfl ?_
  obtain ⟨_, lb, e, lsb, hlb⟩ := den_strs_inv (K1_map (rb.map q) ▸ (dsb.keeps (kp_heap k2326)))
  cases e
  have hlenb : (strValues lb).length = (rb.map q).length := by rw [length_strValues]; simpa using congrArg List.length hlb
  refine ⟨sb, _, fun _ => true, fun i => K2 ((rb.map q).getD i []), rfl, lsb, by rw [hlenb, sizeLine_eq]; have := yq.len; omega, fun i => K2_lst _, ⟨fun C i v s₃ m₃ E' _ _ _ _ _ => wpAny_pure ⟨rfl, kp_refl _⟩, fun C i v s₃ m₃ E' hC hv hp hn hm hk => ?_⟩, fun Db s27 hnew27 _ k27 => args_nil ?_⟩
  · obtain ⟨tx, hx⟩ := strItem hlb (i := i) (by rw [← hlenb]; exact (List.getElem?_eq_some_iff.mp hv).1)
    rw [hx] at hv; cases hv
    refine List_ (args_cons (ldV_ hn hm (args_nil (new_list (by simp) fun D s' k hD nD => ⟨?_, k⟩))))
    exact New.list hD.isList nD (.cons (New.str _ _) .nil)
  have dB : Den s27.heap (.ref Db) (.list ((rb.map q).map K2)) := by
    have := hnew27.den
    rwa [range_all rfl _ hlenb] at this
  have k2527 := kp_trans k26 k27
  have N27 := N23.kp (kp_trans k2325 k2527)
  refine ⟨N27.F.keep, ?_⟩
  refine compare_call (n := n + 2) (N27.glo G) R1 (pushC K N27.F) (dA.keeps (kp_heap k2527)) dB xq yq fun s28 ev st up => ?_
  refine wpAny_Name (wpAny_loadName_local rfl rfl (up.ns N27.F.ns) rfl ?_) (by decide)
  refine wpAny_is_plain rfl ⟨_, rfl, ?_⟩
  rw [beq_self_eq_true]
  exact hQ _ (N27.ev.trans ev) st
end
end Mine

/-! part Head0 -/
namespace Mine
open_top hd for PySem.Challenge.rw_nb0019_01
end Mine

/-! part M23 -/
namespace Mine
open PySem.Calls

theorem fn_of {K : Frag} {h : Heap} {a c : Addr} {name : Str} {st : Stmt} {o : Obj} {pm : Value} (KX : K.In h) (h1 : K.lookup a = some o) (h2 : o.data = .func (docDef name (sArgs st) (sBody st) (sScope st) pm (.ref c) .none)) (h3 : codeIn K (.ref c) name = true) : FnAt h a c name st :=
  ⟨o, pm, KX a o h1, h2, codeRec_of KX h3⟩

theorem glo_of {P : Params} {h : Heap} {mg mb : Str → Option Value} (KX : (hd.heap_39 P).In h) (Tg : h.Ns mainGlobals mg) (Tb : h.Ns builtinsNs mb) (Tv : ∀ x : Str, x ≠ "__name__" → mb x = bootBuiltins x) (lim : h.NoLimit) : Glo h where
  g := by
    obtain ⟨o, es, ep, ho, hd', hk, hf⟩ := id Tg
    have e := KX 3 _ rfl
    have e' : h.get? 3 = some o := ho
    rw [e] at e'
    obtain rfl := Option.some.inj e'
    obtain ⟨rfl, rfl⟩ := Data.dict.inj hd'
    refine ⟨mg, Tg, ?_, ?_, ?_, ?_, ?_, ?_, ?_, ?_, ?_, ?_, ?_, ?_, ?_, ?_, ?_⟩ <;> (rw [← hf]; kernel_rfl)
  b := ⟨mb, Tb, (Tv _ (by decide)).trans (by kernel_rfl), (Tv _ (by decide)).trans (by kernel_rfl), (Tv _ (by decide)).trans (by kernel_rfl), (Tv _ (by decide)).trans (by kernel_rfl), (Tv _ (by decide)).trans (by kernel_rfl)⟩
  lim := lim
  p1 := ⟨_, _, 35, KX 36 _ rfl, KX 35 _ (by kernel_rfl)⟩
  p2 := ⟨_, _, 40, KX 41 _ rfl, KX 40 _ (by kernel_rfl)⟩
  f48 := fn_of KX rfl rfl (by kernel_rfl)
  f55 := fn_of KX rfl rfl (by kernel_rfl)
  f62 := fn_of KX rfl rfl (by kernel_rfl)
  f69 := fn_of KX rfl rfl (by kernel_rfl)
  f74 := fn_of KX rfl rfl (by kernel_rfl)
  f81 := fn_of KX rfl rfl (by kernel_rfl)
  f86 := fn_of KX rfl rfl (by kernel_rfl)
theorem law_of {P : Params} {h : Heap} (KX : (hd.heap_39 P).In h) : FnAt h 91 90 "law" (defAt 14) := fn_of KX rfl rfl (by kernel_rfl)
theorem law_at {P : Params} {h : Heap} {mg : Str → Option Value} (KX : (hd.heap_39 P).In h) (Tg : h.Ns mainGlobals mg) : mg "law" = some (.ref 91) := by
  obtain ⟨o, es, ep, ho, hd', hk, hf⟩ := id Tg
  have e := KX 3 _ rfl
  have e' : h.get? 3 = some o := ho
  rw [e] at e'
  obtain rfl := Option.some.inj e'
  obtain ⟨rfl, rfl⟩ := Data.dict.inj hd'
  rw [← hf]; kernel_rfl

theorem ints_all : ∀ {vs : List Value} {ns : List Int}, IntsAre vs ns → (∀ v ∈ vs, ∃ k t, v = .int k t) ∧ vs.length = ns.length
  | _, _, .nil => ⟨fun _ h => (nomatch h), rfl⟩
  | _, _, .cons n t r => ⟨fun v hv => (List.mem_cons.mp hv).elim (fun e => ⟨n, t, e⟩) ((ints_all r).1 v), by simp [(ints_all r).2]⟩
theorem room_caller : Room callerA (1 + 5) := ⟨by decide, by decide, rfl⟩
end Mine

theorem PySem.Challenge.cw_nb0019_01_holds : PySem.Challenge.rw_nb0019_01.Holds := by
  refine Mine.hd ?_
  k_fill
  intro w s₀ s₁ mg mb G Y fa o pm cd doc dV kV ho hd hcd hD hmg hg args vals as hpre hlay hrd hwl hlo
  have KX := kIn_of Y
  refine Ground.open G ?_
  intro T B D TE TW
  have hfa : fa = 91 := by
    have e := (Mine.law_at KX T.g).symm.trans hmg
    cases e; rfl
  subst hfa
  have GL := Mine.glo_of KX T.g T.b T.builtins T.nolimit
  have FL := Mine.law_of KX
  clear ho hd hcd hD hmg KX Y B TE TW T
  wrow_args hpre hlay hrd hwl hlo
  rename_i hL ra w1 r0 hI hr hc1 hc2
  refine Mine.law_call (n := 1) GL FL Mine.room_caller (below_caller s₁.heap) hL (Mine.ints_all hI).1 ?_ fun s' ev st => ?_
  · have := (Mine.ints_all hI).2
    omega
  · obtain ⟨h', tk, rfl⟩ := ev
    refine GoodW.toG ⟨.inl ⟨_, _, _, rfl, fun _ => rfl, .bool true, ?_, fun _ => ⟨by simp, fun a ha => nomatch ha⟩⟩, st, rfl, hg⟩
    wrow_post
