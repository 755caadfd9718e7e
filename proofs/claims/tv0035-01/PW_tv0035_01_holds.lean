import PyProof.Rows.All
import Wide.All
import OpenK.AllK
import Wide.FinOn
import PySem.Challenge.RW_tv0035_01
set_option Elab.async false

-- Head
section
open PySem PySem.W PyProof.Rows
set_option Elab.async false
namespace Mine
set_option maxRecDepth 100000 in
set_option maxHeartbeats 8000000 in
open_top hd for PySem.Challenge.rw_tv0035_01
set_option pp.deepTerms false
end Mine
end

-- RE1
section
open PySem PySem.W PyProof.Rows PySem.Spec PySem.Calls
set_option Elab.async false
namespace Mine
section re
open PySem.Sre PySem.Sre.M

abbrev reCode : Array Nat := #[14, 8, 1, 2, 4294967295, 1, 1, 46, 0, 16, 46, 24, 9, 1, 4294967295, 13, 4, 8, 0, 0, 1, 6, 5, 1]

def reSt (text : Array Nat) (pc pos : Nat) (frames : List Sre.Frame) (weight : Nat) (ans : Option Bool) (m : Sre.M) : Prop :=
  m.code = reCode ∧ m.text = text ∧ m.lim = text.size ∧ m.lastStart = text.size ∧ m.pc = pc ∧ m.pos = pos ∧ m.frames = frames ∧ m.weight = weight ∧ m.answer = ans ∧ m.outcome = none

def reAt (text : Array Nat) (s : Nat) (m : Sre.M) : Prop :=
  ∃ f : Sre.Frame, f.wait = .nextStart ∧ f.pos = s ∧ f.pc = 9 ∧ f.kept = {} ∧ reSt text 9 s [f] 1 none m
def reMid (text : Array Nat) (s : Nat) (m : Sre.M) : Prop :=
  ∃ f : Sre.Frame, f.wait = .nextStart ∧ f.pos = s ∧ f.pc = 9 ∧ f.kept = {} ∧ reSt text 11 (s + 1) [f] 1 none m
def reNo (text : Array Nat) (s : Nat) (m : Sre.M) : Prop :=
  ∃ f : Sre.Frame, f.wait = .nextStart ∧ f.pos = s ∧ f.pc = 9 ∧ f.kept = {} ∧ ∃ pc pos, reSt text pc pos [f] 1 (some false) m

def noDig (text : Array Nat) : Prop := ∀ p, isDigit (text.getD p 0) = false

theorem re_step1 {text : Array Nat} {s : Nat} {m : Sre.M} (h : reAt text s m) : reNo text s m.step ∨ reMid text s m.step := by
  obtain ⟨f, hw, hp, hpc, hk, hc, ht, hl, hls, h1, h2, h3, h4, h5, h6⟩ := h
  have e : m.step = m.exec := by
    unfold Sre.M.step
    simp [h5, h6, h1, hc]
  rw [e]
  unfold Sre.M.exec
  have hword : m.word 0 = 16 := by simp [word, hc, h1]
  rw [hword]
  simp only [show ops[16]? = some Op.LITERAL from rfl]
  split
  · left
    exact ⟨f, hw, hp, hpc, hk, m.pc, m.pos, hc, ht, hl, hls, rfl, rfl, h3, h4, rfl, h6⟩
  · simp only [accepts, hc, h1, show (reCode.getD 9 0) = 16 from rfl, show ops[16]? = some Op.LITERAL from rfl]
    split
    · rename_i h; cases h
    · left
      exact ⟨f, hw, hp, hpc, hk, 9, m.pos, rfl, ht, hl, hls, rfl, rfl, h3, h4, rfl, h6⟩
    · right
      exact ⟨f, hw, hp, hpc, hk, rfl, ht, hl, hls, rfl, by show m.pos + 1 = s + 1; rw [h2], h3, h4, h5, h6⟩

theorem re_run0 {text : Array Nat} (hd : noDig text) (n p : Nat) (sn : Sre.Seen) : ∃ sn', Sre.run reCode text 15 n p 0 sn = .ok (0, sn') := by
  cases n with
  | zero => exact ⟨sn, rfl⟩
  | succ n =>
    have hs : ∀ sn, ∃ sn', inSet reCode (text.getD p 0) reCode.size 17 true sn = .ok (false, sn') := by
      intro sn
      rw [show reCode.size = 22 + 1 + 1 from rfl]
      unfold inSet
      simp only [show (reCode.getD (17 + 0) 0) = 8 from rfl, show ops[8]? = some Op.CATEGORY from rfl, show (reCode.getD (17 + 1) 0) = 0 from rfl]
      have hc : category 0 (text.getD p 0) = .ok false := by
        unfold category
        simp only [show 0 / 2 = 0 from rfl, hd p]
        rfl
      rw [hc]
      show ∃ sn', inSet reCode (text.getD p 0) (22 + 1) 19 true _ = Except.ok (false, sn')
      unfold inSet
      simp only [show (reCode.getD (19 + 0) 0) = 0 from rfl, show ops[0]? = some Op.FAILURE from rfl]
      exact ⟨_, rfl⟩
    have ha : ∀ sn, ∃ sn', accepts reCode 15 (text.getD p 0) sn = .ok (false, sn') := by
      intro sn
      unfold accepts
      simp only [show (reCode.getD 15 0) = 13 from rfl, show ops[13]? = some Op.IN from rfl]
      exact hs sn
    obtain ⟨sn', e⟩ := ha sn
    refine ⟨sn', ?_⟩
    unfold Sre.run
    rw [e]
    rfl

theorem re_step2 {text : Array Nat} {s : Nat} {m : Sre.M} (hd : noDig text) (h : reMid text s m) : reNo text s m.step := by
  obtain ⟨f, hw, hp, hpc, hk, hc, ht, hl, hls, h1, h2, h3, h4, h5, h6⟩ := h
  have e : m.step = m.exec := by
    unfold Sre.M.step
    simp [h5, h6, h1, hc]
  rw [e]
  unfold Sre.M.exec
  have hword : m.word 0 = 24 := by simp [word, hc, h1]
  have hword2 : ∀ sn : Sre.Seen, ({ m with seen := sn } : Sre.M).word 2 = 1 := by intro sn; simp [word, hc, h1]
  rw [hword]
  simp only [show ops[24]? = some Op.REPEAT_ONE from rfl]
  split
  · exact ⟨f, hw, hp, hpc, hk, m.pc, m.pos, hc, ht, hl, hls, rfl, rfl, h3, h4, rfl, h6⟩
  · have er : ∀ n p sn, ∃ sn', Sre.run m.code m.text (m.pc + 4) n p 0 sn = .ok (0, sn') := by
      rw [hc, ht, h1]; intro n p sn; exact re_run0 hd n p sn
    split
    · rename_i h
      obtain ⟨sn', er'⟩ := er _ _ _
      have h' := h.symm.trans er'
      cases h'
    · rename_i n sn2 h
      obtain ⟨sn', er'⟩ := er _ _ _
      have h' := h.symm.trans er'
      cases h'
      split
      · exact ⟨f, hw, hp, hpc, hk, m.pc, m.pos, hc, ht, hl, hls, rfl, rfl, h3, h4, rfl, h6⟩
      · rename_i hn
        exact absurd (by rw [hword2]; exact Nat.one_pos) hn

theorem re_from {m : Sre.M} (hc : m.code = reCode) (hw : m.weight = 0) (s : Nat) (b : Bool) :
    m.attemptFrom s b = { m with start := s, pos := s, lastmark := -1, lastindex := -1, frames := { wait := .nextStart, pc := m.pc, pos := s, outermost := b } :: m.frames, weight := 1, handed := s, outermost := b } := by
  have hf : m.hasFirstSet = false := by
    unfold hasFirstSet
    rw [hc]; rfl
  unfold attemptFrom
  rw [hf]
  simp only [Bool.not_false, if_true]
  unfold attemptAt Sre.M.attempt
  simp only [hw]
  rfl

theorem re_step3 {text : Array Nat} {s : Nat} {m : Sre.M} (h : reNo text s m) : (s < text.size ∧ reAt text (s + 1) m.step) ∨ (m.step.outcome = none ∧ m.step.answer = some false ∧ m.step.frames = []) := by
  obtain ⟨f, hw, hp, hpc, hk, pc, pos, hc, ht, hl, hls, h1, h2, h3, h4, h5, h6⟩ := h
  unfold Sre.M.step
  simp only [h6, h5, h3, Option.isSome_none, Bool.false_eq_true, if_false]
  unfold Sre.M.resume
  rw [hw]
  simp only [Bool.false_eq_true, if_false]
  rw [hp, hls]
  split
  · rename_i hlt
    refine .inl ⟨hlt, ?_⟩
    rw [re_from (by exact hc) (by show m.weight - (1 + f.kept.marks.size) = 0; rw [h4, hk]; rfl)]
    exact ⟨{ wait := .nextStart, pc := f.pc, pos := s + 1, outermost := false }, rfl, rfl, hpc, rfl, hc, ht, hl, rfl, hpc, rfl, rfl, rfl, rfl, rfl⟩
  · exact .inr ⟨rfl, rfl, rfl⟩

theorem re_step4 {m : Sre.M} (h : m.outcome = none ∧ m.answer = some false ∧ m.frames = []) : ∃ why, m.step.outcome = some why ∧ (∃ _ : Unit, why = .failed) := by
  obtain ⟨h1, h2, h3⟩ := h
  unfold Sre.M.step
  simp only [h1, h2, h3, Option.isSome_none, Bool.false_eq_true, if_false]
  exact ⟨_, rfl, (), rfl⟩

/-- within k steps the machine has said no -/
inductive ReEnds : Nat → Sre.M → Prop
  | done {m : Sre.M} : m.outcome = some .failed → ReEnds 0 m
  | step {k : Nat} {m : Sre.M} : m.outcome = none → ReEnds k m.step → ReEnds (k + 1) m

theorem re_ends {text : Array Nat} (hd : noDig text) : ∀ (j s : Nat) {m : Sre.M}, s + j = text.size + 1 → reAt text s m → ∃ k, k ≤ 4 * j + 4 ∧ ReEnds k m
  | j, s, m, hj, h => by
    have no : ∀ m, reNo text s m → ∃ k, k ≤ 4 * j + 2 ∧ ReEnds k m := by
      intro m hm
      have ho : m.outcome = none := by obtain ⟨f, _, _, _, _, pc, pos, h⟩ := hm; exact h.2.2.2.2.2.2.2.2.2
      rcases re_step3 hm with ⟨hlt, hn⟩ | hn
      · cases j with
        | zero => omega
        | succ j =>
          obtain ⟨k, hk, he⟩ := re_ends hd j (s + 1) (by omega) hn
          exact ⟨k + 1, by omega, .step ho he⟩
      · obtain ⟨_, h1, _, rfl⟩ := re_step4 hn
        exact ⟨2, by omega, .step ho (.step hn.1 (.done h1))⟩
    have ho : m.outcome = none := by obtain ⟨f, _, _, _, _, h⟩ := h; exact h.2.2.2.2.2.2.2.2.2
    rcases re_step1 h with h1 | h1
    · obtain ⟨k, hk, he⟩ := no _ h1
      exact ⟨k + 1, by omega, .step ho he⟩
    · have ho1 : m.step.outcome = none := by obtain ⟨f, _, _, _, _, h⟩ := h1; exact h.2.2.2.2.2.2.2.2.2
      obtain ⟨k, hk, he⟩ := no _ (re_step2 hd h1)
      exact ⟨k + 2, by omega, .step ho (.step ho1 he)⟩

theorem re_runFor : ∀ (n k : Nat) {m : Sre.M}, ReEnds k m → ReEnds (k - n) (Sre.M.runFor n m)
  | 0, k, m, h => h
  | n + 1, k, m, h => by
    unfold Sre.M.runFor
    cases h with
    | done h1 => rw [h1]; simpa using ReEnds.done h1
    | step h1 h2 =>
      rename_i k
      rw [h1]
      simp only [Option.isSome_none, Bool.false_eq_true, if_false]
      have := re_runFor n k h2
      rwa [Nat.add_sub_add_right]

theorem ReEnds.zero {m : Sre.M} (h : ReEnds 0 m) : m.outcome = some .failed := by cases h; assumption
theorem ReEnds.some {k : Nat} {m : Sre.M} (h : ReEnds k m) (e : m.outcome.isSome = true) : m.outcome = Option.some .failed := by
  cases h with
  | done h => exact h
  | step h _ => rw [h] at e; cases e

section
variable {M : Model} {A : Around} {E : Value → Shared → Prop} {s : Shared}
open PySem.Builtin.Re
theorem re_drive {Q : Sre.M → Shared → Prop} (hQ : ∀ m : Sre.M, m.outcome = some .failed → Q m s) : ∀ (n k : Nat) {m : Sre.M}, ReEnds k m → k ≤ 4 * n → 0 < n → wpAny M A (reDrive n m) Q E s
  | 0, k, m, h, hk, hn => absurd hn (Nat.lt_irrefl _)
  | n + 1, k, m, h, hk, _ => by
    have h' := re_runFor reTurnSteps k h
    unfold reDrive
    dsimp only
    cases hs : (Sre.M.runFor reTurnSteps m).outcome.isSome with
    | true => 
      simp only [if_true]
      exact wpAny_pure (hQ _ (h'.some hs))
    | false =>
      simp only [Bool.false_eq_true, if_false]
      refine wpAny_bind (wpAny_rule ?_)
      have hk' : k - 4 ≤ 4 * n := by omega
      cases n with
      | zero =>
        have e : k - reTurnSteps = 0 := by show k - 4 = 0; omega
        rw [e] at h'
        rw [h'.zero] at hs; cases hs
      | succ n => exact re_drive hQ (n + 1) (k - 4) h' hk' (Nat.succ_pos _)
end
end re
end Mine
end

-- RE2
section
open PySem PySem.W PyProof.Rows PySem.Spec PySem.Calls
set_option Elab.async false
set_option linter.unusedVariables false
namespace Mine
open PySem.Builtin.Re

theorem re_target (w : World) (prog : Program) (x : Str) (t : Tok) :
    peek (hd.heap_39 w.params) ⟨prog, w.params⟩ (reTarget "re.Pattern.search" "search" ⟨[.ref 36, .str x t], []⟩) =
      some { pattern := .ref 36, string := .str x t, code := reCode, text := x.cps, kind := 0, groups := 0, pos := min (0 : Int).toNat x.cps.size, lim := min ((2 : Int) ^ 63 - 1).toNat x.cps.size } := by
  kernel_rfl

theorem re_at0 {text : Array Nat} (m0 : Sre.M) (h1 : m0.code = reCode) (h2 : m0.text = text) (h3 : m0.lim = text.size) (h4 : m0.lastStart = text.size) (h5 : m0.pc = 9) (h6 : m0.frames = []) (h7 : m0.weight = 0) (h8 : m0.answer = none) (h9 : m0.outcome = none) :
    reAt text 0 (m0.attemptFrom 0 true) := by
  rw [re_from h1 h7]
  exact ⟨{ wait := .nextStart, pc := m0.pc, pos := 0, outermost := true }, rfl, rfl, h5, rfl, h1, h2, h3, h4, h5, rfl, by rw [h6], rfl, h8, h9⟩
theorem re_for {text : Array Nat} (hd : noDig text) (hl : text.size ≤ 16777216) : ∃ k, k ≤ 4 * 2 ^ 64 ∧ ReEnds k (Sre.forSearch reCode text 0 (min (0 : Int).toNat text.size) (min ((2 : Int) ^ 63 - 1).toNat text.size) false) := by
  have e1 : min (0 : Int).toNat text.size = 0 := by simp
  have e2 : min ((2 : Int) ^ 63 - 1).toNat text.size = text.size := by
    have e3 : ((2 : Int) ^ 63 - 1).toNat = 9223372036854775807 := by decide
    rw [e3]; omega
  rw [e1, e2]
  unfold Sre.forSearch
  have eh : Sre.header reCode = (2, 9) := by decide +kernel
  dsimp only
  rw [eh]
  split
  · exact ⟨1, by decide, .step rfl (.done rfl)⟩
  · have key : ∀ m' : Sre.M, reAt text 0 m' → ∃ k, k ≤ 4 * 2 ^ 64 ∧ ReEnds k m' := fun m' h => by
      obtain ⟨k, hk, he⟩ := re_ends hd (text.size + 1) 0 (by omega) h
      exact ⟨k, by omega, he⟩
    refine key _ (re_at0 _ ?_ ?_ ?_ ?_ ?_ ?_ ?_ ?_ ?_) <;> rfl

section
variable {M : Model} {A : Around} {E : Value → Shared → Prop} {s : Shared}
theorem wpAny_rules {l : List Nat} {c : Nat → Bool} {g : Nat → String} {Q : PUnit → Shared → Prop} (h : Q PUnit.unit s) :
    wpAny M A (forIn l PUnit.unit fun i __s => if c i = true then do rule (g i); pure (ForInStep.yield PUnit.unit) else pure (ForInStep.yield PUnit.unit)) Q E s := by
  induction l with
  | nil => exact wpAny_pure h
  | cons i l ih =>
    rw [List.forIn_cons]
    refine wpAny_bind ?_
    by_cases hc : c i = true
    · rw [if_pos hc]
      exact wpAny_bind (wpAny_rule (wpAny_pure ih))
    · rw [if_neg hc]
      exact wpAny_pure ih

theorem re_runEnd {m : Sre.M} {Q : Option Sre.M → Shared → Prop} {k : Nat} (he : ReEnds k m) (hk : k ≤ 4 * 2 ^ 64) (h : Q none s) : wpAny M A (reRunToEnd m) Q E s := by
  unfold reRunToEnd
  refine wpAny_bind (re_drive (fun m' hm' => ?_) (2 ^ 64) k he hk (by decide))
  refine wpAny_bind (wpAny_rules ?_)
  rw [hm']
  exact wpAny_pure h
end

theorem plainAttrs_re : PlainAttrs "re.Pattern" :=
  ⟨⟨"object.__getattribute__", by rw [typeLookup_type, builtinLookup_eq_fast]; kernel_rfl, by decide +kernel⟩, by rw [typeLookup_type, builtinLookup_eq_fast]; kernel_rfl⟩
theorem slot_re_search : Slot "re.Pattern" "search" "re.Pattern.search" :=
  .of (owner := "re.Pattern") (n := "search") (by rw [typeLookup_type, builtinLookup_eq_fast]; kernel_rfl) (by decide +kernel) (by decide +kernel) (by decide +kernel)
    (by first | exact .inl (by decide +kernel) | exact .inr (by decide +kernel)) (by rw [isSubtype_type]; kernel_rfl)
theorem type_re_search : typeOf (.builtin "re.Pattern.search") = pure (.type "method_descriptor") := by show builtinType _ = _; rw [builtinType_eq_fast]; kernel_rfl
theorem entry_re_search : entryFor table "re.Pattern.search" = some Builtin.«re.Pattern.search» := entryFor_of_tree (by kernel_rfl)
theorem args_re_search (a b : Value) : argsOk "re.Pattern.search" ⟨[a, b], []⟩ := by
  unfold argsOk
  kernel_rfl

section
variable {prog : Program} {w : World} {A : Around} {E : Value → Shared → Prop} {s : Shared} {h₀ : Heap} {L : Addr} {m : Str → Option Value}
theorem re_objIn (P : Params) : ∃ o, (hd.heap_39 P).lookup 36 = some o ∧ o.cls = .type "re.Pattern" ∧ o.dict = none := ⟨{ cls := .type "re.Pattern", data := Data.fields #[Value.str (Str.ofString "\\.\\d+$") 285, Value.int 256 312, Value.int 0 0, Value.none, Value.none, Value.ref 35, Value.int 0 0] }, by kernel_rfl, rfl, rfl⟩
theorem re_obj {P : Params} {h : Heap} (X : (hd.heap_39 P).In h) : ∃ o, h.get? 36 = some o ∧ o.cls = .type "re.Pattern" ∧ o.dict = none := by
  obtain ⟨o, h1, h2, h3⟩ := re_objIn P
  exact ⟨o, X _ _ h1, h2, h3⟩
theorem re_method {pl : Sem Bool} {Q : Value × List Value → Shared → Prop} (F : Fr h₀ L s.heap m) (X : (hd.heap_39 w.params).In h₀) (h : Q (.builtin "re.Pattern.search", [.ref 36]) s) :
    wpAny (model prog w) A (getMethod (.ref 36) (Str.ofString "search") pl) Q E s := by
  obtain ⟨o, h1, h2, h3⟩ := re_obj (X.keeps F.keep)
  exact getMethod_builtin ⟨o, h1, h2⟩ plainAttrs_re slot_re_search type_re_search (fun a e => by cases e; exact ⟨o, h1, h3⟩) h

theorem re_call {x : Str} {t : Tok} {Q : Value → Shared → Prop} (F : Fr h₀ L s.heap m) (X : (hd.heap_39 w.params).In h₀) (hd : noDig x.cps) (hl : x.length ≤ 16777216) (h : Q .none s) :
    wpAny (model prog w) A (call (.builtin "re.Pattern.search") [.ref 36, .str x t]) Q E s := by
  have X' := X.keeps F.keep
  have hx : ∃ o, s.heap.get? 36 = some o ∧ o.cls = .type "re.Pattern" := by obtain ⟨o, h1, h2, h3⟩ := re_obj X'; exact ⟨o, h1, h2⟩
  refine wpAny_call (codeAny_call_builtin slot_re_search.plain entry_re_search (slot_re_search.check _ _ _ _ _ _ _ _ hx (args_re_search _ _) ?_))
  unfold Builtin.«re.Pattern.search»
  refine wpAny_bind (fun Γ p hΓ => wp_of_peek X' ?_ _ (re_target w _ x t))
  obtain ⟨k, hk, he⟩ := re_for hd hl
  unfold reAnswer
  refine wpAny_bind (re_runEnd he hk ?_)
  exact wpAny_pure h
end
end Mine
end

-- Base
section
open PySem PySem.W PyProof.Rows PySem.Spec PySem.Calls
set_option Elab.async false
set_option linter.unusedVariables false
namespace Mine

/-- an ascii text without a figure -/
def okS (x : Str) : Prop := (∀ c ∈ x.cps.toList, c < 128 ∧ Sre.isDigit c = false) ∧ x.length ≤ 1000

theorem okS.noDig {x : Str} (h : okS x) : noDig x.cps := by
  intro p
  by_cases hp : p < x.cps.size
  · have e : x.cps.getD p 0 = x.cps[p] := by simp [Array.getD, hp]
    rw [e]
    exact (h.1 _ (by simp)).2
  · have e : x.cps.getD p 0 = 0 := by simp [Array.getD, hp]
    rw [e]; rfl
theorem okS.len {x : Str} (h : okS x) : x.length ≤ 16777216 := Nat.le_trans h.2 (by decide)

def lowA (c : Nat) : Nat := if 65 ≤ c ∧ c ≤ 90 then c + 32 else c
def lowS (x : Str) : Str := ⟨(x.cps.toList.map lowA).toArray⟩

theorem lowerOf_ascii : ∀ c, c < 128 → Unicode.lowerOf c = [lowA c] := by decide +kernel
theorem lower_ok {x : Str} (h : okS x) : Txt.lower x = lowS x := by
  unfold Txt.lower lowS placed
  refine Str.ext' ?_
  apply Array.toList_inj.mp
  simp only [Array.toList_flatten, Array.toList_mapIdx]
  have e : ((x.cps.toList.mapIdx fun i c => (Unicode.lowerAt x.cps i).toArray).map Array.toList) = x.cps.toList.map fun c => [lowA c] := by
    apply List.ext_getElem
    · simp
    · intro i h1 h2
      simp only [List.getElem_mapIdx, List.getElem_map]
      have hi : i < x.cps.size := by simpa using h1
      have hc := (h.1 x.cps[i] (by simp)).1
      unfold Unicode.lowerAt
      rw [Array.getElem?_eq_getElem hi]
      have hn : (x.cps[i] == 0x3A3) = false := by
        simp only [beq_eq_false_iff_ne, ne_eq]; omega
      simp only [hn, Bool.false_and, Bool.false_eq_true, if_false, lowerOf_ascii _ hc]
      simp
  have e2 : ∀ l : List Nat, (l.map fun c => [lowA c]).flatten = l.map lowA := by
    intro l
    induction l with
    | nil => rfl
    | cons a l ih => simp [ih]
  rw [e, e2]
theorem okS.low {x : Str} (h : okS x) : okS (Txt.lower x) := by
  rw [lower_ok h]
  refine ⟨?_, by simpa [lowS, Str.length] using h.2⟩
  intro c hc
  simp only [lowS, List.mem_map] at hc
  obtain ⟨d, hd, rfl⟩ := hc
  have := h.1 d (by simpa using hd)
  have key : ∀ d, d < 128 → Sre.isDigit d = false → lowA d < 128 ∧ Sre.isDigit (lowA d) = false := by decide +kernel
  exact key d this.1 this.2
theorem okS.lowFit {x : Str} (h : okS x) : Builtin.Str.tooLong (Txt.lower x).length = false := by
  have := h.low.2
  unfold Builtin.Str.tooLong
  rw [sizeLine_eq]
  simp only [decide_eq_false_iff_not]
  omega
theorem okS.slice {x : Str} (h : okS x) (l u : Option Int) : okS (Txt.slice x l u) := by
  refine ⟨?_, Nat.le_trans (Txt.slice_le x l u) h.2⟩
  intro c hc
  unfold Txt.slice at hc
  split at hc
  · exact h.1 c hc
  · simp only [List.mem_filterMap] at hc
    obtain ⟨i, _, hi⟩ := hc
    have hm : c ∈ x.cps := Array.mem_of_getElem? hi
    exact h.1 c (by simpa using hm)
theorem okS.line {x : Str} (h : okS x) : x.length ≤ sizeLine := by
  rw [sizeLine_eq]; have := h.2; omega
end Mine
end

-- Base2
section
open PySem PySem.W PyProof.Rows PySem.Spec PySem.Calls
set_option Elab.async false
set_option linter.unusedVariables false
namespace Mine

/-- the frame that a call lays: all but the led is held -/
def Held (h g : Heap) (led : List (Addr × Obj)) : Prop := ∀ b o, h.get? b = some o → b ∉ led.map (·.1) → g.get? b = some o

section
variable {prog : Program} {w : World} {A A₀ : Around} {s : Shared} {K : Frag} {L : Addr} {h₀ base : Heap} {m mg mb : Str → Option Value} {led : List (Addr × Obj)} {p : Program} {loose : List Str} {mean : ExcName → Option Value}
  {env : Env} {outer : List Env} {R : Result → Shared → Prop} {name qual : Str} {params : Arguments} {body : List Stmt} {scope : Scope} {dV kV doc pm cdv ct oc : Value} {an od : Option Addr} {osl : Array (Option Value)} {f : Addr} {args : Args} {binds : List (Str × Value)}

theorem enterP (B : Below A₀ base outer h₀) (F : Fr h₀ L s.heap m) (X₀ : K.In h₀) (N : News h₀ L s.heap led) (T : Top p loose mean mg mb h₀) (hA : A.frames = some (env :: outer)) (hf : env.frame = some L) (hke : env.scope.kind = .function)
    (ho : K.lookup f = some ⟨oc, od, .func (fnOf name qual params body scope dV kV doc pm an cdv ct), osl⟩) (hcd : codeIn K cdv qual = true) (hroom : A.depth < recursionLimit)
    (hbind : BindsTo s (fnOf name qual params body scope dV kV doc pm an cdv ct) args binds) (hloc : ∀ y ∈ binds, scope.names.lookup y.1 = some .local)
    (h : ∀ g L' h₁, Held s.heap g led → Fr h₀ L g m → Fr g L' h₁ (fun y => binds.reverse.lookup y) → News g L' h₁ led → Below A base (env :: outer) g → K.In g → Top p loose mean mg mb g →
      wpAny (model prog w) (A.deeper (envOf qual scope L' f cdv)) (execs body (envOf qual scope L' f cdv))
        (fun fl s' => LeaveK h₀ L m g R (match fl with | .ret v => v | _ => .none) s')
        (fun e s' => wpAny (model prog w) (A.deeper (envOf qual scope L' f cdv)) (leaving (envOf qual scope L' f cdv) e) (fun _ s'' => R (.error e) s'') (fun e' s'' => R (.error e') s'') s')
        { s with heap := h₁, toks := s.toks + binds.length })
    (hco : scope.isCoroutine = false) (hgen : scope.isGenerator = false) (hk : scope.kind = .function)
    (hcell : ∀ x ∈ scope.names, x.2 ≠ .cell) : codeAny (model prog w) A (.call (.ref f) args) R s := by
  have G := groundX (R := R) B F N hA hf hke
  have X := X₀.keeps F.keep
  refine codeAny_call_def (fd := fnOf name qual params body scope dV kV doc pm an cdv ct) (body := body) (binds := binds) hroom (X _ _ ho) rfl (T.nolimit.keeps F.keep) (codeRec_of X hcd) rfl hbind hcell hloc (fun h₁ hns hk₁ => ?_) hco hgen hk
  have hh : Held s.heap (hideAll s.heap (led.map (·.1))) led := fun b o e hb => hideAll_get _ e hb
  have F₁ : Fr (hideAll s.heap (led.map (·.1))) s.heap.objs.size h₁ (fun y => binds.reverse.lookup y) := ⟨hns, fun b o e => hk₁ b o (of_hideAll _ e), Nat.le_of_eq (hideAll_size _ _)⟩
  have N₁ : News (hideAll s.heap (led.map (·.1))) s.heap.objs.size h₁ led := fun q hq => ⟨hk₁ _ _ (N q hq).1, Nat.ne_of_lt (Heap.lt_size (N q hq).1), hideAll_none _ (List.mem_map_of_mem hq)⟩
  exact wpAny_mono (h _ _ h₁ hh G.1 F₁ N₁ G.2.1 (X₀.keeps G.2.2.1) (T.keeps G.2.2.1)) (fun fl s' hl => G.2.2.2 _ _ hl) fun _ _ y => y

theorem enterC (B : Below A₀ base outer h₀) (F : Fr h₀ L s.heap m) (X₀ : K.In h₀) (N : News h₀ L s.heap led) (T : Top p loose mean mg mb h₀) (hA : A.frames = some (env :: outer)) (hf : env.frame = some L) (hke : env.scope.kind = .function)
    (ho : K.lookup f = some ⟨oc, od, .func (fnOf name qual params body scope dV kV doc pm an cdv ct), osl⟩) (hcd : codeIn K cdv qual = true) (hroom : A.depth < recursionLimit)
    (hbind : BindsTo s (fnOf name qual params body scope dV kV doc pm an cdv ct) args binds) (hkind : (binds.all fun y => scope.names.lookup y.1 == some .local || scope.names.lookup y.1 == some .cell) = true)
    (hnd : ((cellsFrom 0 scope.names []).map (·.1)).Nodup)
    (h : ∀ g L' h₁ tk cells, Held s.heap g led → Fr h₀ L g m → Fr g L' h₁ (bindL (envOfC qual scope L' f cdv).kindOf binds fun _ => none) → News g L' h₁ (cells ++ led) →
      CellsAre (bindC (envOfC qual scope L' f cdv).kindOf binds fun _ => none) (cellsFrom (L' + 1) scope.names []) cells → Below A base (env :: outer) g → K.In g → Top p loose mean mg mb g → (∀ p ∈ led, p.1 < L') →
      wpAny (model prog w) (A.deeper (envOfC qual scope L' f cdv)) (execs body (envOfC qual scope L' f cdv))
        (fun fl s' => LeaveK h₀ L m g R (match fl with | .ret v => v | _ => .none) s')
        (fun e s' => wpAny (model prog w) (A.deeper (envOfC qual scope L' f cdv)) (leaving (envOfC qual scope L' f cdv) e) (fun _ s'' => R (.error e) s'') (fun e' s'' => R (.error e') s'') s')
        { s with heap := h₁, toks := tk })
    (hco : scope.isCoroutine = false) (hgen : scope.isGenerator = false) (hk : scope.kind = .function) : codeAny (model prog w) A (.call (.ref f) args) R s := by
  have G := groundX (R := R) B F N hA hf hke
  have X := X₀.keeps F.keep
  have hh : Held s.heap (hideAll s.heap (led.map (·.1))) led := fun b o e hb => hideAll_get _ e hb
  refine codeAny_call_function (fd := fnOf name qual params body scope dV kV doc pm an cdv ct) hroom (X _ _ ho) rfl hco hgen rfl (codeRec_of X hcd) (hbind _ _ _ _ ?_)
  refine wpAny_newFunctionEnv_cells hk (kindsX hkind _) fun env' he s' x => ?_
  subst he
  refine ⟨(T.nolimit.keeps F.keep).keeps x.toInCall.keep, codeAny_func ?_⟩
  obtain ⟨h₁, tk, rfl, _⟩ := x.done
  have hk₁ := x.toInCall.keep
  obtain ⟨cells, NC, Y⟩ := Cl.news (h₀ := s.heap) (Nat.le_refl _) fun n c hm => ⟨x.cell n c (lookup_of_mem_nodup (cellsFrom_names scope.names 0 (s.heap.objs.size + 1) [] [] rfl ▸ hnd) hm), x.above n c hm⟩
  have F₁ : Fr (hideAll s.heap (led.map (·.1))) s.heap.objs.size h₁ (bindL (envOfC qual scope s.heap.objs.size f cdv).kindOf binds fun _ => none) := ⟨x.toInCall.ns, fun b o e => hk₁ b o (of_hideAll _ e), Nat.le_of_eq (hideAll_size _ _)⟩
  have N₁ : News (hideAll s.heap (led.map (·.1))) s.heap.objs.size h₁ (cells ++ led) := by
    intro q hq
    rcases List.mem_append.mp hq with hq | hq
    · refine ⟨(NC q hq).1, (NC q hq).2.1, ?_⟩
      cases e : (hideAll s.heap (led.map (·.1))).get? q.1 with
      | none => rfl
      | some o => exact absurd (of_hideAll _ e) (by rw [(NC q hq).2.2]; exact fun z => nomatch z)
    · exact ⟨hk₁ _ _ (N q hq).1, Nat.ne_of_lt (Heap.lt_size (N q hq).1), hideAll_none _ (List.mem_map_of_mem hq)⟩
  exact wpAny_mono (h _ _ h₁ tk cells hh G.1 F₁ N₁ Y G.2.1 (X₀.keeps G.2.2.1) (T.keeps G.2.2.1) fun q hq => Heap.lt_size (N q hq).1) (fun fl s' hl => G.2.2.2 _ _ hl) fun _ _ y => y
end

/-- objects that stand in h' and did not stand in h -/
def Fresh (h h' : Heap) (own : List (Addr × Obj)) : Prop := ∀ p ∈ own, h.get? p.1 = none ∧ h'.get? p.1 = some p.2

/-- a call of a def of the text, the world around it open: k levels of room; led: what it may read of the caller's; P: the answer and the new objects -/
abbrev Claim (k : Nat) (w : World) (mean : ExcName → Option Value) (mg mb : Str → Option Value) (f : Addr) (vs : List Value) (led : List (Addr × Obj)) (P : Value → List (Addr × Obj) → Prop) : Prop :=
  ∀ (dp un : Nat) (gd : Option (List Code)) (cn : Str) (cs : Scope) (a : Addr) (ccd : Value) (cl : List (Str × Addr)) (outer : List Env) (A₀ : Around) (base h₀ : Heap) (L : Addr) (m : Str → Option Value) (s : Shared) (Q E : Value → Shared → Prop),
    Below A₀ base outer h₀ → Fr h₀ L s.heap m → (hd.heap_39 w.params).In h₀ → News h₀ L s.heap led → Top hd.view_39 (looseW hd.view_39 [Str.ofString "IPV4_RE", Str.ofString "_filemode_table"]) mean mg mb h₀ → cs.kind = .function →
    dp + k < recursionLimit → un + 10 * k + 100 < cLine →
    (∀ v own h' tk', (∀ b o, s.heap.get? b = some o → h'.get? b = some o) → Fresh s.heap h' own → P v own → Q v { s with heap := h', toks := tk' }) →
      wpAny (model PySem.Challenge.rw_tv0035_01.row.prog w) (ktrTop dp un gd cn cs L a ccd cl outer) (call (.ref f) vs) Q E s

section
variable {k : Nat} {w : World} {mean : ExcName → Option Value} {mg mb : Str → Option Value} {f : Addr} {vs : List Value} {led news : List (Addr × Obj)}
    {dp un : Nat} {gd : Option (List Code)} {cn : Str} {cs : Scope} {a : Addr} {ccd : Value} {cl : List (Str × Addr)} {outer : List Env} {A₀ : Around} {base h₀ : Heap} {L : Addr} {m : Str → Option Value} {s : Shared} {Q E : Value → Shared → Prop}

theorem claim_use {P : Value → List (Addr × Obj) → Prop}
    (C : Claim k w mean mg mb f vs led P) (B : Below A₀ base outer h₀) (F : Fr h₀ L s.heap m) (X : (Mine.hd.heap_39 w.params).In h₀) (N : News h₀ L s.heap news) (hs : ∀ p ∈ led, p ∈ news) (T : Top Mine.hd.view_39 (looseW Mine.hd.view_39 [Str.ofString "IPV4_RE", Str.ofString "_filemode_table"]) mean mg mb h₀) (hk : cs.kind = .function)
    (hd : dp + k < recursionLimit) (hu : un + 10 * k + 100 < cLine)
    (ret : ∀ v own h' tk', P v own → Fr h₀ L h' m → News h₀ L h' (own ++ news) → (∀ p ∈ own, ∀ q ∈ news, p.1 ≠ q.1) → Q v { s with heap := h', toks := tk' }) :
    wpAny (model PySem.Challenge.rw_tv0035_01.row.prog w) (ktrTop dp un gd cn cs L a ccd cl outer) (call (.ref f) vs) Q E s := by
  refine C _ _ _ _ _ _ _ _ _ _ _ _ _ _ _ _ _ B F X (fun p hp => N p (hs p hp)) T hk hd hu fun v own h' tk' hk' hf hp => ret v own h' tk' hp (F.keeps hk') (fun p hp => ?_) fun p hp q hq e => ?_
  · rcases List.mem_append.mp hp with hp | hp
    · refine ⟨(hf p hp).2, fun e => ?_, ?_⟩
      · obtain ⟨oL, _, _, hL, _⟩ := F.ns
        have h1 := (hf p hp).1
        rw [e, hL] at h1; cases h1
      · cases e : h₀.get? p.1 with
        | none => rfl
        | some o =>
          have h1 := (hf p hp).1
          rw [F.keep _ _ e] at h1; cases h1
    · exact ⟨hk' _ _ (N p hp).1, (N p hp).2⟩
  · have h1 := (hf p hp).1
    rw [e, (N q hq).1] at h1; cases h1

/-- the same, where the answer is a plain value: the ledger stays -/
theorem claim_useV {P : Value → Prop}
    (C : Claim k w mean mg mb f vs [] (fun v own => P v)) (B : Below A₀ base outer h₀) (F : Fr h₀ L s.heap m) (X : (Mine.hd.heap_39 w.params).In h₀) (N : News h₀ L s.heap news) (T : Top Mine.hd.view_39 (looseW Mine.hd.view_39 [Str.ofString "IPV4_RE", Str.ofString "_filemode_table"]) mean mg mb h₀) (hk : cs.kind = .function)
    (hd : dp + k < recursionLimit) (hu : un + 10 * k + 100 < cLine)
    (ret : ∀ v h' tk', P v → Fr h₀ L h' m → News h₀ L h' news → Q v { s with heap := h', toks := tk' }) :
    wpAny (model PySem.Challenge.rw_tv0035_01.row.prog w) (ktrTop dp un gd cn cs L a ccd cl outer) (call (.ref f) vs) Q E s :=
  claim_use C B F X N (fun _ h => nomatch h) T hk hd hu fun v own h' tk' hp F' N' _ => ret v h' tk' hp F' fun p hp => N' p (List.mem_append_right _ hp)

/-- at a body's end: what is new stands, what stood stands -/
theorem claim_ret {g h' : Heap} {L' : Addr} {m' : Str → Option Value} {led rest own : List (Addr × Obj)} {tk' : Nat} {P : Value → List (Addr × Obj) → Prop} {v : Value}
    (hret : ∀ v own h' tk', (∀ b o, s.heap.get? b = some o → h'.get? b = some o) → Fresh s.heap h' own → P v own → Q v { s with heap := h', toks := tk' })
    (N₀ : News h₀ L s.heap led) (H : Held s.heap g led) (F' : Fr g L' h' m') (N' : News g L' h' rest) (hl : ∀ p ∈ led, p ∈ rest) (ho : ∀ p ∈ own, p ∈ rest) (hx : ∀ p ∈ own, p.1 ∉ led.map (·.1)) (hp : P v own) : Q v { s with heap := h', toks := tk' } := by
  refine hret v own h' tk' (fun b o e => ?_) (fun p hp => ⟨?_, (N' p (ho p hp)).1⟩) hp
  · by_cases hb : b ∈ led.map (·.1)
    · obtain ⟨q, hq, rfl⟩ := List.mem_map.mp hb
      have h1 := (N₀ q hq).1
      rw [e] at h1
      have h2 := (N' q (hl q hq)).1
      rw [h2, Option.some.inj h1]
    · exact F'.keep b o (H b o e hb)
  · cases e : s.heap.get? p.1 with
    | none => rfl
    | some o =>
      have h1 := (N' p (ho p hp)).2.2
      rw [H _ _ e (hx p hp)] at h1; cases h1
theorem claim_retV {g h' : Heap} {L' : Addr} {m' : Str → Option Value} {tk' : Nat} {P : Value → List (Addr × Obj) → Prop} {v : Value}
    (hret : ∀ v own h' tk', (∀ b o, s.heap.get? b = some o → h'.get? b = some o) → Fresh s.heap h' own → P v own → Q v { s with heap := h', toks := tk' })
    (H : Held s.heap g []) (F' : Fr g L' h' m') (hp : P v []) : Q v { s with heap := h', toks := tk' } := by
  refine hret v [] h' tk' (fun b o e => F'.keep b o (H b o e (by simp))) (fun p hp => nomatch hp) hp
end
end Mine
end

-- Join
section
open PySem PySem.W PyProof.Rows PySem.Spec PySem.Calls
set_option Elab.async false
set_option linter.unusedVariables false
namespace Mine
section
variable {M : Model} {A : Around} {E : Value → Shared → Prop} {s : Shared} {h₀ : Heap} {L : Addr} {m : Str → Option Value} {led : List (Addr × Obj)} {env : Env} {test a b : PySem.Expr} {pos : Pos} {c : Bool} {x y : Int} {Q : Value → Shared → Prop}
def JT (h₀ : Heap) (L : Addr) (m : Str → Option Value) (led : List (Addr × Obj)) (s : Shared) (c c' : Bool) (s1 : Shared) : Prop := c' = c ∧ ∃ h' k, s1 = { s with heap := h', toks := k } ∧ Fr h₀ L h' m ∧ News h₀ L h' led
def JV (s : Shared) (h' : Heap) (x : Int) (v : Value) (s1 : Shared) : Prop := ∃ t k', v = .int x t ∧ s1 = { s with heap := h', toks := k' }
theorem ifexp_join (F : Fr h₀ L s.heap m) (N : News h₀ L s.heap led)
    (ht : wpAny M A (isTrue test env (eval test env)) (JT h₀ L m led s c) E s)
    (hx : ∀ h' k, Fr h₀ L h' m → News h₀ L h' led → wpAny M A (eval a env) (JV s h' x) E { s with heap := h', toks := k })
    (hy : ∀ h' k, Fr h₀ L h' m → News h₀ L h' led → wpAny M A (eval b env) (JV s h' y) E { s with heap := h', toks := k })
    (h : ∀ t h' k, Fr h₀ L h' m → News h₀ L h' led → Q (.int (if c then x else y) t) { s with heap := h', toks := k }) :
    wpAny M A (eval (.IfExp test a b pos) env) Q E s := by
  refine IfExp_ (wpAny_mono ht (fun c' s1 h1 => ?_) fun _ _ e => e)
  obtain ⟨rfl, h', k, rfl, F', N'⟩ := h1
  cases c' with
  | true =>
    refine wpAny_mono (hx h' k F' N') (fun v s2 h2 => ?_) fun _ _ e => e
    obtain ⟨t, k', rfl, rfl⟩ := h2
    exact h t h' k' F' N'
  | false =>
    refine wpAny_mono (hy h' k F' N') (fun v s2 h2 => ?_) fun _ _ e => e
    obtain ⟨t, k', rfl, rfl⟩ := h2
    exact h t h' k' F' N'
theorem JT.at {c : Bool} {h' : Heap} {k : Nat} {led' : List (Addr × Obj)} (F : Fr h₀ L h' m) (N : News h₀ L h' led') (hs : ∀ p ∈ led, p ∈ led') : JT h₀ L m led s c c { s with heap := h', toks := k } := ⟨rfl, h', k, rfl, F, fun p hp => N p (hs p hp)⟩
theorem JV.at {h' : Heap} {x : Int} {t : Tok} {k : Nat} : JV s h' x (.int x t) { s with heap := h', toks := k } := ⟨t, k, rfl, rfl⟩
end
end Mine
end

-- Loop
section
open PySem PySem.W PyProof.Rows PySem.Spec PySem.Calls
set_option Elab.async false
set_option linter.unusedVariables false
set_option maxRecDepth 100000
namespace Mine
section
variable {prog : Program} {w : World} {A : Around} {E : Value → Shared → Prop} {s : Shared} {env : Env} {h₀ : Heap} {target : PySem.Expr} {body orelse : List Stmt} {Q : Flow → Shared → Prop}

/-- the end of a turn: its are the iterator's objects, keep what must stand, J the word -/
def TEnd (h₀ : Heap) (L : Addr) (its keep : List (Addr × Obj)) (J : (Str → Option Value) → List (Addr × Obj) → Prop) (s s2 : Shared) : Prop :=
  ∃ h' tk m' led' nx, s2 = { s with heap := h', toks := tk } ∧ Fr h₀ L h' m' ∧ News h₀ L h' led' ∧ (∀ p ∈ its, p ∈ led') ∧ (∀ p ∈ nx, p ∈ led') ∧ (∀ p ∈ its, ∀ q ∈ nx, p.1 ≠ q.1) ∧ (∀ p ∈ keep, p ∈ nx) ∧ J m' nx
def TPost (h₀ : Heap) (L : Addr) (its keep : List (Addr × Obj)) (J : (Str → Option Value) → List (Addr × Obj) → Prop) (s : Shared) (Q : Flow → Shared → Prop) (f : Flow) (s2 : Shared) : Prop :=
  match f with
  | .ret v => Q (.ret v) s2
  | .brk => Q .next s2
  | _ => TEnd h₀ L its keep J s s2

def itsOf (wr : List Addr) (h : Heap) : List (Addr × Obj) := wr.filterMap fun b => (h.get? b).map fun o => (b, o)
theorem itsOf_get {wr : List Addr} {h : Heap} {p : Addr × Obj} (hp : p ∈ itsOf wr h) : p.1 ∈ wr ∧ h.get? p.1 = some p.2 := by
  obtain ⟨b, hb, e⟩ := List.mem_filterMap.mp hp
  cases q : h.get? b with
  | none => rw [q] at e; cases e
  | some o => rw [q] at e; cases e; exact ⟨hb, q⟩
theorem itsOf_mem {wr : List Addr} {h : Heap} {b : Addr} {o : Obj} (hb : b ∈ wr) (e : h.get? b = some o) : (b, o) ∈ itsOf wr h :=
  List.mem_filterMap.mpr ⟨b, hb, by rw [e]; rfl⟩

theorem for_core {R : Result → Shared → Prop} {I : Addr} {fp wr : List Addr} {n : Nat} {P Md : Nat → Value → Heap → Prop} {St : Nat → Heap → Prop} {m : Str → Option Value} {news keep : List (Addr × Obj)} (W : KTurns prog w A target I fp wr n P Md St)
    (hLf : env.locals ∉ fp) (hwr : ∀ b ∈ wr, h₀.get? b = none) (hfp : ∀ b ∈ fp, b ∈ wr ∨ (∃ o, h₀.get? b = some o) ∨ ∃ o, (b, o) ∈ keep) (hlive : ∀ i h, St i h → ∀ b ∈ wr, ∃ o, h.get? b = some o)
    (hst : St 0 s.heap) (F : Fr h₀ env.locals s.heap m) (N : News h₀ env.locals s.heap news) (hnw : ∀ p ∈ news, p.1 ∉ wr) (hkp : ∀ p ∈ keep, p ∈ news)
    (J : Nat → (Str → Option Value) → List (Addr × Obj) → Prop) (h0 : J 0 m news)
    (step : ∀ i v m₁ nx h₁ tk₁ its, i < n → P i v h₁ → J i m₁ nx → (∀ p ∈ its, ∀ q ∈ nx, p.1 ≠ q.1) → (∀ p ∈ keep, p ∈ nx) → Fr h₀ env.locals h₁ m₁ → News h₀ env.locals h₁ (nx ++ its) →
      wpAny (model prog w) A (assign target env v) (fun _ s₂ => wpAny (model prog w) A (execs body env)
        (TPost h₀ env.locals its keep (J (i + 1)) { s with heap := h₁, toks := tk₁ } (fun f s' => R (.ok f) s')) (notedBy (model prog w) A env fun e s' => R (.error e) s') s₂) (notedBy (model prog w) A env fun e s' => R (.error e) s') { s with heap := h₁, toks := tk₁ })
    (done : ∀ h' tk m' nx, J n m' nx → (∀ p ∈ keep, p ∈ nx) → Fr h₀ env.locals h' m' → News h₀ env.locals h' nx → wpAny (model prog w) A (execs orelse env) (fun f s' => R (.ok f) s') (notedBy (model prog w) A env fun e s' => R (.error e) s') { s with heap := h', toks := tk }) :
    codeAny (model prog w) A (.forLoop target (.ref I) body orelse env) R s := by
  have hLw : env.locals ∉ wr := fun h => hLf (W.sub _ h)
  have old : ∀ b o, h₀.get? b = some o → b ∉ wr := fun b o e hb => by rw [hwr b hb] at e; cases e
  refine codeAny_forLoop_any
    (fun k s' => ∃ h' tk m' nx i, s' = { s with heap := h', toks := tk } ∧ St i h' ∧ Fr h₀ env.locals h' m' ∧ News h₀ env.locals h' nx ∧ (∀ p ∈ nx, p.1 ∉ wr) ∧ (∀ p ∈ keep, p ∈ nx) ∧ J i m' nx ∧ i ≤ n ∧ k = n + 1 - i) ?_ (n + 1)
    ⟨s.heap, s.toks, m, news, 0, rfl, hst, F, N, hnw, hkp, h0, Nat.zero_le _, rfl⟩
  rintro k s' ⟨h', tk, m', nx, i, rfl, hst', F', N', hnw', hkp', hJ, hi, rfl⟩
  have next : ∀ h₁ : Heap, (∀ b o, b ∉ wr → h'.get? b = some o → h₁.get? b = some o) → Fr h₀ env.locals h₁ m' ∧ News h₀ env.locals h₁ nx := fun h₁ hk₁ =>
    ⟨⟨F'.ns.at' fun o e => hk₁ _ o hLw e, fun b o e => hk₁ b o (old b o e) (F'.keep b o e), F'.above⟩, fun p hp => ⟨hk₁ _ _ (hnw' p hp) (N' p hp).1, (N' p hp).2⟩⟩
  by_cases hlt : i < n
  · refine W.item i _ _ _ hlt hst' fun v h₁ tk₁ hMd hk₁ => ?_
    refine W.go i v _ _ _ hMd fun h₂ hP hst₂ hk₂ => ?_
    obtain ⟨F₂, N₂⟩ := next h₂ fun b o hb x => hk₂ b o hb (hk₁ b o hb x)
    have Nits : News h₀ env.locals h₂ (itsOf wr h₂) := fun p hp => by
      obtain ⟨a, b⟩ := itsOf_get hp
      exact ⟨b, fun e => hLw (e ▸ a), hwr _ a⟩
    have hsep : ∀ p ∈ itsOf wr h₂, ∀ q ∈ nx, p.1 ≠ q.1 := fun p hp q hq e => hnw' q hq (e ▸ (itsOf_get hp).1)
    have N₃ : News h₀ env.locals h₂ (nx ++ itsOf wr h₂) := fun p hp => (List.mem_append.mp hp).elim (N₂ p) (Nits p)
    have fin : ∀ s₃, TEnd h₀ env.locals (itsOf wr h₂) keep (J (i + 1)) { s with heap := h₂, toks := tk₁ } s₃ → ∃ m, m < n + 1 - i ∧ ∃ h' tk m' nx i, s₃ = { s with heap := h', toks := tk } ∧ St i h' ∧ Fr h₀ env.locals h' m' ∧ News h₀ env.locals h' nx ∧ (∀ p ∈ nx, p.1 ∉ wr) ∧ (∀ p ∈ keep, p ∈ nx) ∧ J i m' nx ∧ i ≤ n ∧ m = n + 1 - i := by
      rintro s₃ ⟨h₃, tk₃, m₃, led₃, nx₃, rfl, F₃, N₄, hi₃, hn₃, ha₃, hk₃, hJ₃⟩
      refine ⟨n + 1 - (i + 1), by omega, h₃, tk₃, m₃, nx₃, i + 1, rfl, ?_, F₃, fun p hp => N₄ p (hn₃ p hp), ?_, hk₃, hJ₃, hlt, rfl⟩
      · refine W.frame _ _ _ hst₂ fun b hb o e => ?_
        rcases hfp b hb with hb | ⟨o', ho'⟩ | ⟨o', ho'⟩
        · exact (N₄ _ (hi₃ _ (itsOf_mem hb e))).1
        · have h1 := F₂.keep b o' ho'
          rw [e] at h1
          rw [F₃.keep b o' ho', Option.some.inj h1]
        · have h1 := (N₂ _ (hkp' _ ho')).1
          have h2 := (N₄ _ (hn₃ _ (hk₃ _ ho'))).1
          rw [e] at h1
          rw [h2, Option.some.inj h1]
      · intro q hq hw
        obtain ⟨o, ho⟩ := hlive _ _ hst₂ _ hw
        exact ha₃ _ (itsOf_mem hw ho) q hq rfl
    refine wpAny_mono (step i v m' nx h₂ tk₁ _ hlt hP hJ hsep hkp' F₂ N₃) (fun _ s₂ h₂' => wpAny_mono h₂' (fun f s₃ h₃ => ?_) fun _ _ e => e) fun _ _ e => e
    cases f with
    | ret v => exact h₃
    | brk => exact h₃
    | cont => exact fin _ h₃
    | next => exact fin _ h₃
  · have hin : i = n := by omega
    subst hin
    refine W.done _ _ _ hst' fun h₁ tk₁ hk₁ => ?_
    obtain ⟨F₁, N₁⟩ := next h₁ hk₁
    exact done h₁ tk₁ m' nx hJ hkp' F₁ N₁

/-- what a loop asks of its iterator where it stands -/
def LoopI (prog : Program) (w : World) (A : Around) (h₀ : Heap) (env : Env) (target : PySem.Expr) (body orelse : List Stmt) (Q : Flow → Shared → Prop) (E : Value → Shared → Prop) (it : Value) (s₂ : Shared) : Prop :=
  ∃ (I : Addr) (fp wr : List Addr) (n : Nat) (P Md : Nat → Value → Heap → Prop) (St : Nat → Heap → Prop) (m : Str → Option Value) (news keep : List (Addr × Obj)) (J : Nat → (Str → Option Value) → List (Addr × Obj) → Prop),
    it = .ref I ∧ KTurns prog w A target I fp wr n P Md St ∧ env.locals ∉ fp ∧ (∀ b ∈ wr, h₀.get? b = none) ∧ (∀ b ∈ fp, b ∈ wr ∨ (∃ o, h₀.get? b = some o) ∨ ∃ o, (b, o) ∈ keep) ∧ (∀ i h, St i h → ∀ b ∈ wr, ∃ o, h.get? b = some o) ∧
    St 0 s₂.heap ∧ Fr h₀ env.locals s₂.heap m ∧ News h₀ env.locals s₂.heap news ∧ (∀ p ∈ news, p.1 ∉ wr) ∧ (∀ p ∈ keep, p ∈ news) ∧ J 0 m news ∧
    (∀ i v m₁ nx h₁ tk₁ its, i < n → P i v h₁ → J i m₁ nx → (∀ p ∈ its, ∀ q ∈ nx, p.1 ≠ q.1) → (∀ p ∈ keep, p ∈ nx) → Fr h₀ env.locals h₁ m₁ → News h₀ env.locals h₁ (nx ++ its) →
      wpAny (model prog w) A (assign target env v) (fun _ s₃ => wpAny (model prog w) A (execs body env)
        (TPost h₀ env.locals its keep (J (i + 1)) { s₂ with heap := h₁, toks := tk₁ } Q) E s₃) E { s₂ with heap := h₁, toks := tk₁ }) ∧
    ∀ h' tk m' nx, J n m' nx → (∀ p ∈ keep, p ∈ nx) → Fr h₀ env.locals h' m' → News h₀ env.locals h' nx → wpAny (model prog w) A (execs orelse env) Q E { s₂ with heap := h', toks := tk }

theorem for_loop {iter : PySem.Expr} {pos : Pos} {m : Str → Option Value} (_F : Fr h₀ env.locals s.heap m)
    (h : wpAny (model prog w) A (eval iter env) (fun xv s₁ => wpAny (model prog w) A (pyIter xv) (fun it s₂ => LoopI prog w A h₀ env target body orelse Q E it s₂) E s₁) E s)
    (hs : ∀ x, foldedSetIterable iter env x = pure x := by intro _; rfl)
    (hE : PassesOwn (model prog w) A env E := by passes_own) :
    wpAny (model prog w) A (exec (.For target iter body orelse pos) env) Q E s := by
  refine wpAny_For (wpAny_mono h (fun xv s₁ h₁ => wpAny_mono h₁ (fun it s₂ h₂ => ?_) fun _ _ e => e) fun _ _ e => e) hs
  obtain ⟨I, fp, wr, n, P, Md, St, m, news, keep, J, rfl, W, hLf, hwr, hfp, hlive, hst, F, N, hnw, hkp, h0, step, done⟩ := h₂
  exact for_core (R := fun r s' => match r with | .ok f => Q f s' | .error e => cameBackBy (model prog w) A env E e s') W hLf hwr hfp hlive hst F N hnw hkp J h0
    (fun i v m₁ nx h₁ tk₁ its a b c d e F₁ N₁ => wpAny_mono (step i v m₁ nx h₁ tk₁ its a b c d e F₁ N₁) (fun _ _ x => wpAny_passesOwn hE x) hE)
    (fun h' tk m' nx a b F' N' => wpAny_passesOwn hE (done h' tk m' nx a b F' N'))
end
end Mine
end

-- Enum
section
open PySem PySem.W PyProof.Rows PySem.Spec PySem.Calls
open AutoSeq1 (wpAny_loadPart')
set_option Elab.async false
set_option linter.unusedVariables false
set_option maxRecDepth 100000
namespace Mine
section
variable {prog : Program} {w : World} {A : Around} {E : Value → Shared → Prop} {s : Shared}

theorem nextOf_tup_item {it l : Addr} {i : Nat} {items : Array Value} {x : Value} {Q : Value → Shared → Prop} (hit : s.heap.IsTupleIter it l i) (hl : s.heap.IsTuple l items) (hx : items[i]? = some x)
    (hQ : ∀ h', h'.IsTupleIter it l (i + 1) → Heap.SameBut it s.heap h' → Q x { s with heap := h' }) : wpAny (model prog w) A (Builtin.SmallTypes.nextOf (.ref it)) Q E s := by
  obtain ⟨o, ho, hc, hd⟩ := id hit
  obtain ⟨ol, hol, _, nl, hdl⟩ := hl
  unfold Builtin.SmallTypes.nextOf
  refine wpAny_bind (wpAny_callSpecial?_slot (name := Str.ofString "__next__") hit.typeIs F.slot_tuple_iterator_next (wpAny_call_entry F.slot_tuple_iterator_next hit.typeIs F.entry_tuple_iterator_next ?_ (F.args_tuple_iterator_next_1 _)))
  show wpAny _ _ (field (.ref it) 0 >>= _) _ _ s
  refine wpAny_bind (wpAny_field ho hd (x := .ref l) rfl ?_)
  show wpAny _ _ (if (Value.ref l == Value.none) = true then _ else _) _ _ s
  rw [if_neg (show ¬ ((Value.ref l == Value.none) = true) from Bool.false_ne_true)]
  show wpAny _ _ (field (.ref it) 1 >>= _) _ _ s
  refine wpAny_bind (wpAny_field ho hd (x := .int i 0) rfl ?_)
  show wpAny _ _ (seqItems? (.ref l) >>= _) _ _ s
  refine wpAny_bind (wpAny_seqItems hol hdl ?_)
  simp only [Int.toNat_natCast, hx]
  refine wpAny_bind (wpAny_setField ho hd (by simp) (wpAny_pure ⟨x, rfl, wpAny_pure (hQ _ ?_ (Heap.SameBut.update ..))⟩))
  exact ⟨_, Heap.get?_update_self _ ho (Obj.isFreed_of_fields (Obj.data_mapFields hd _)), (Obj.cls_mapFields ..).trans hc, by rw [Obj.data_mapFields hd]; simp [rawInt]⟩

theorem nextOf_tup_end {it l : Addr} {i : Nat} {items : Array Value} {Q : Value → Shared → Prop} (hh : A.handled = none) (hit : s.heap.IsTupleIter it l i) (hl : s.heap.IsTuple l items) (hx : items[i]? = none)
    (hE : ∀ h' e, Heap.ExtBut it s.heap h' → (∃ o, h'.get? e = some o ∧ o.cls = .type "StopIteration") → E (.ref e) { s with heap := h' }) : wpAny (model prog w) A (Builtin.SmallTypes.nextOf (.ref it)) Q E s := by
  obtain ⟨o, ho, hc, hd⟩ := id hit
  obtain ⟨ol, hol, _, nl, hdl⟩ := hl
  unfold Builtin.SmallTypes.nextOf
  refine wpAny_bind (wpAny_callSpecial?_slot (name := Str.ofString "__next__") hit.typeIs F.slot_tuple_iterator_next (wpAny_call_entry F.slot_tuple_iterator_next hit.typeIs F.entry_tuple_iterator_next ?_ (F.args_tuple_iterator_next_1 _)))
  show wpAny _ _ (field (.ref it) 0 >>= _) _ _ s
  refine wpAny_bind (wpAny_field ho hd (x := .ref l) rfl ?_)
  show wpAny _ _ (if (Value.ref l == Value.none) = true then _ else _) _ _ s
  rw [if_neg (show ¬ ((Value.ref l == Value.none) = true) from Bool.false_ne_true)]
  show wpAny _ _ (field (.ref it) 1 >>= _) _ _ s
  refine wpAny_bind (wpAny_field ho hd (x := .int i 0) rfl ?_)
  show wpAny _ _ (seqItems? (.ref l) >>= _) _ _ s
  refine wpAny_bind (wpAny_seqItems hol hdl ?_)
  simp only [Int.toNat_natCast, hx]
  refine wpAny_bind (wpAny_rule (wpAny_bind (wpAny_setField ho hd (by simp) ?_)))
  show wpAny _ _ (newExc (.type "StopIteration") [] >>= _) _ _ _
  refine wpAny_bind ?_
  simp only [newExc, newTuple]
  refine wpAny_bind (wpAny_newObj_type ?_ (by size_fits))
  refine wpAny_bind (m := firstArgMember _ _) (wpAny_of_eq (a := Value.none) (by first | rfl | (simp only [firstArgMember]; rfl)) ?_)
  refine wpAny_newObj_type ?_ (by size_fits)
  simp only [raiseNew]
  refine wpAny_bind (wpAny_handled ?_)
  first | rw [show A.in1.handled = none from hh] | rw [hh]
  refine wpAny_bind (wpAny_pure (wpAny_throw ?_))
  exact hE _ _ (((Heap.SameBut.update ..).extBut.push _).push _) ⟨_, Heap.get?_push_size _ rfl, rfl⟩
end

theorem tupIter_at {h h' : Heap} {it l : Addr} {i : Nat} (x : h.IsTupleIter it l i) (k : ∀ o, h.get? it = some o → h'.get? it = some o) : h'.IsTupleIter it l i := let ⟨o, ho, r⟩ := x; ⟨o, k o ho, r⟩
theorem drawsTup {prog : Program} {w : World} {A : Around} (hh : A.handled = none) (it l : Addr) (hne : l ≠ it) (items : Array Value) :
    Draws prog w A it [it, l] items.size (fun i v => items[i]? = some v) (fun i h => h.IsTupleIter it l i ∧ h.IsTuple l items) where
  live := fun _ _ st => let ⟨o, ho, _⟩ := st.1; ⟨o, ho⟩
  frame := fun _ _ _ st hk => ⟨tupIter_at st.1 fun o e => hk it (by simp) o e, st.2.at fun o e => hk l (by simp) o e⟩
  item := fun i s Q E hi st hQ => by
    refine nextOf_tup_item st.1 st.2 (x := items[i]) (by simp [hi]) fun h' hit' hs' => ?_
    exact hQ _ h' s.toks (by simp [hi]) ⟨hit', st.2.extBut hs'.extBut hne⟩ hs'
  done := fun s Q E st hE => nextOf_tup_end hh st.1 st.2 (by simp) hE

set_option maxHeartbeats 1000000 in
theorem meets_enum_tup (l : Addr) (items : Array Value) (n : Nat) (dct : Option Addr) (sl : Array (Option Value)) :
    Meets (Builtin.«enumerate.__new__» ⟨[.type "enumerate", .ref l], []⟩) (fun _ R s => s.heap.get? l = some { cls := .type "tuple", dict := dct, data := .seq items n, slots := sl } ∧
      R (.ok (.ret (.ref (s.heap.push { cls := .type "tuple_iterator", data := .fields #[.ref l, .int 0 0] }).objs.size)))
        { s with heap := (s.heap.push { cls := .type "tuple_iterator", data := .fields #[.ref l, .int 0 0] }).push { cls := .type "enumerate", data := .fields #[.none, .bool false, .ref s.heap.objs.size, rawInt 0, .none, .none] } }) :=
  .of_wp fun prog w A R s h => by
    obtain ⟨hp, g, d, tk, os⟩ := s; obtain ⟨hl, h⟩ := h
    have hsub := sub_enumerate
    have hL : Heap.IsTuple (Shared.heap ⟨hp, g, d, tk, os⟩) l items := ⟨_, hl, rfl, n, rfl⟩
    wp_walk using wpAny_loadPart' hl
    refine wpAny_stack_any fun st => wpAny_pure ?_
    split
    · rename_i c _ _ _ _ _
      cases (c == Value.type "enumerate")
      · wp_walk using wpAny_loadPart' hl, wpAny_pyIter_tuple hL
        exact ⟨_, rfl, h⟩
      · wp_walk using wpAny_loadPart' hl, wpAny_pyIter_tuple hL
        exact ⟨_, rfl, h⟩
    · wp_walk using wpAny_loadPart' hl, wpAny_pyIter_tuple hL
      exact ⟨_, rfl, h⟩

section
variable {prog : Program} {w : World} {A : Around} {E : Value → Shared → Prop} {s : Shared}
theorem call_enum_tup {l : Addr} {items : Array Value} {Q : Value → Shared → Prop} (hL : s.heap.IsTuple l items)
    (h : ∀ h', IsEnum h' (s.heap.objs.size + 1) s.heap.objs.size 0 .none → h'.IsTupleIter s.heap.objs.size l 0 →
      (∀ b o, s.heap.get? b = some o → h'.get? b = some o) → Q (.ref (s.heap.objs.size + 1)) { s with heap := h' }) :
    wpAny (model prog w) A (call (.type "enumerate") [.ref l]) Q E s := by
  obtain ⟨⟨c, dct, dt, sl⟩, hl, hc, n, hd⟩ := hL
  replace hc : c = .type "tuple" := hc
  replace hd : dt = .seq items n := hd
  subst hc hd
  refine callType_new F.called_enumerate (by decide) (F.typeCall_enumerate_1 _) (F.newCall_enumerate_1 _) (fun obj => F.args_object_init_2 obj _) F.entry_enumerate_new (meets_enum_tup l items n dct sl) ⟨hl, ?_⟩
  have hz : (s.heap.push { cls := .type "tuple_iterator", data := .fields #[.ref l, .int 0 0] }).objs.size = s.heap.objs.size + 1 := Heap.size_push ..
  show _ ∧ _
  rw [hz]
  have he : IsEnum ((s.heap.push { cls := .type "tuple_iterator", data := .fields #[.ref l, .int 0 0] }).push
      { cls := .type "enumerate", data := .fields #[.none, .bool false, .ref s.heap.objs.size, rawInt 0, .none, .none] }) (s.heap.objs.size + 1) s.heap.objs.size 0 .none := by
    have := Heap.get?_push_size (s.heap.push { cls := .type "tuple_iterator", data := .fields #[.ref l, .int 0 0] })
      (o := { cls := .type "enumerate", data := .fields #[.none, .bool false, .ref s.heap.objs.size, rawInt 0, .none, .none] }) rfl
    rw [hz] at this; exact this
  exact ⟨⟨_, he, rfl⟩, h _ he ⟨_, Heap.get?_push_of_some _ (Heap.get?_push_size _ rfl), rfl, rfl⟩ fun b o x => Heap.get?_push_of_some _ (Heap.get?_push_of_some _ x)⟩
end
end Mine
end

-- Loop2
section
open PySem PySem.W PyProof.Rows PySem.Spec PySem.Calls
set_option Elab.async false
set_option linter.unusedVariables false
set_option maxRecDepth 100000
namespace Mine
section
variable {prog : Program} {w : World} {A : Around} {E : Value → Shared → Prop} {s : Shared} {env : Env} {h₀ : Heap} {target : PySem.Expr} {body orelse : List Stmt} {Q : Flow → Shared → Prop} {m : Str → Option Value} {news : List (Addr × Obj)}

/-- the turn and the end of a loop, by what an item is -/
abbrev LTurn (prog : Program) (w : World) (A : Around) (h₀ : Heap) (env : Env) (target : PySem.Expr) (body : List Stmt) (Q : Flow → Shared → Prop) (E : Value → Shared → Prop) (s : Shared) (keep : List (Addr × Obj)) (J : Nat → (Str → Option Value) → List (Addr × Obj) → Prop) (It : Nat → Value → Heap → Prop) : Prop :=
  ∀ i v m₁ nx h₁ tk₁ its, It i v h₁ → J i m₁ nx → (∀ p ∈ its, ∀ q ∈ nx, p.1 ≠ q.1) → (∀ p ∈ keep, p ∈ nx) → Fr h₀ env.locals h₁ m₁ → News h₀ env.locals h₁ (nx ++ its) →
      wpAny (model prog w) A (assign target env v) (fun _ s₃ => wpAny (model prog w) A (execs body env)
        (TPost h₀ env.locals its keep (J (i + 1)) { s with heap := h₁, toks := tk₁ } Q) E s₃) E { s with heap := h₁, toks := tk₁ }
abbrev LDone (prog : Program) (w : World) (A : Around) (h₀ : Heap) (env : Env) (orelse : List Stmt) (Q : Flow → Shared → Prop) (E : Value → Shared → Prop) (s : Shared) (keep : List (Addr × Obj)) (J : (Str → Option Value) → List (Addr × Obj) → Prop) : Prop :=
  ∀ h' tk m' nx, J m' nx → (∀ p ∈ keep, p ∈ nx) → Fr h₀ env.locals h' m' → News h₀ env.locals h' nx → wpAny (model prog w) A (execs orelse env) Q E { s with heap := h', toks := tk }

theorem loop_list {l : Addr} {vs : List Value} {nn : Nat} (J : Nat → (Str → Option Value) → List (Addr × Obj) → Prop) (hh : A.handled = none) (F : Fr h₀ env.locals s.heap m) (N : News h₀ env.locals s.heap news) (hl : (l, W.listOf vs.toArray nn) ∈ news) (h0 : J 0 m news)
    (turn : LTurn prog w A h₀ env target body Q E s [(l, W.listOf vs.toArray nn)] J (fun i v _ => vs[i]? = some v)) (done : LDone prog w A h₀ env orelse Q E s [(l, W.listOf vs.toArray nn)] (J vs.length)) :
    wpAny (model prog w) A (pyIter (.ref l)) (fun it s₂ => LoopI prog w A h₀ env target body orelse Q E it s₂) E s := by
  have hol : s.heap.get? l = some (W.listOf vs.toArray nn) := (N _ hl).1
  have hls : s.heap.IsList l vs.toArray := ⟨_, hol, rfl, nn, rfl⟩
  have hne : l ≠ s.heap.objs.size := Nat.ne_of_lt (Heap.lt_size hol)
  refine wpAny_pyIter_list hls ?_
  have WW := KTurns.ofWalks (target := target) (Walks.list (prog := prog) (w := w) hh s.heap.objs.size l hne vs.toArray) (fun i v s Q E st q => letGo_listiter st.1 q)
  refine ⟨_, _, _, _, _, _, _, m, news, [(l, W.listOf vs.toArray nn)], J, rfl, WW, ?_, ?_, ?_, ?_, ⟨⟨_, Heap.get?_push_size _ rfl, rfl, rfl⟩, hls.at fun o e => Heap.get?_push_of_some _ e⟩, F.push _, (fun p hp => ⟨Heap.get?_push_of_some _ (N p hp).1, (N p hp).2⟩), ?_, (fun p hp => by rw [List.mem_singleton.mp hp]; exact hl), h0, ?_, ?_⟩
  · intro hm
    rcases List.mem_cons.mp hm with e | hm
    · exact absurd F.ns.lt (e ▸ Nat.lt_irrefl _)
    · exact (N _ hl).2.1 ((List.mem_singleton.mp hm).symm)
  · intro b hb
    rw [List.mem_singleton.mp hb]
    exact next_is_new F
  · intro b hb
    rcases List.mem_cons.mp hb with e | hb
    · exact .inl (List.mem_singleton.mpr e)
    · rw [List.mem_singleton.mp hb]; exact .inr (.inr ⟨_, List.mem_singleton.mpr rfl⟩)
  · intro i h st b hb
    obtain ⟨o, ho, _⟩ := st.1
    exact ⟨o, by rw [List.mem_singleton.mp hb]; exact ho⟩
  · intro p hp hI
    exact absurd (Heap.lt_size (N p hp).1) ((List.mem_singleton.mp hI) ▸ Nat.lt_irrefl _)
  · intro i v m₁ nx h₁ tk₁ its hi hP hJ ha hk F₁ N₁
    exact turn i v m₁ nx h₁ tk₁ its (by simpa using hP) hJ ha hk F₁ N₁
  · intro h' tk m' nx hJ hk F' N'
    refine done h' tk m' nx (by simpa using hJ) hk F' N'

theorem loop_tupK {K : Frag} {l : Addr} {lo : Obj} {vs : List Value} {nn : Nat} (J : Nat → (Str → Option Value) → List (Addr × Obj) → Prop) (hh : A.handled = none) (F : Fr h₀ env.locals s.heap m) (N : News h₀ env.locals s.heap news) (X : K.In h₀) (hk : K.lookup l = some lo) (hc : lo.cls = .type "tuple") (hd : lo.data = .seq vs.toArray nn) (h0 : J 0 m news)
    (turn : LTurn prog w A h₀ env target body Q E s [] J (fun i v _ => vs[i]? = some v)) (done : LDone prog w A h₀ env orelse Q E s [] (J vs.length)) :
    wpAny (model prog w) A (pyIter (.ref l)) (fun it s₂ => LoopI prog w A h₀ env target body orelse Q E it s₂) E s := by
  have hg : h₀.get? l = some lo := X _ _ hk
  have hax : s.heap.get? l = some lo := F.keep _ _ hg
  have hls : s.heap.IsTuple l vs.toArray := ⟨lo, hax, hc, nn, hd⟩
  have hne : l ≠ s.heap.objs.size := Nat.ne_of_lt (Heap.lt_size hax)
  refine wpAny_pyIter_tuple hls ?_
  have WW := KTurns.ofWalks (target := target) (Walks.tuple (prog := prog) (w := w) hh s.heap.objs.size l hne vs.toArray) (fun i v s Q E st q => letGo_tupleiter st.1 q)
  refine ⟨_, _, _, _, _, _, _, m, news, [], J, rfl, WW, ?_, ?_, ?_, ?_, ⟨⟨_, Heap.get?_push_size _ rfl, rfl, rfl⟩, hls.at fun o e => Heap.get?_push_of_some _ e⟩, F.push _, (fun p hp => ⟨Heap.get?_push_of_some _ (N p hp).1, (N p hp).2⟩), ?_, (fun _ hp => nomatch hp), h0, ?_, ?_⟩
  · intro hm
    rcases List.mem_cons.mp hm with e | hm
    · exact absurd F.ns.lt (e ▸ Nat.lt_irrefl _)
    · have e : env.locals = l := List.mem_singleton.mp hm
      exact absurd (Heap.lt_size hg) (Nat.not_lt.mpr (e ▸ F.above))
  · intro b hb
    rw [List.mem_singleton.mp hb]
    exact next_is_new F
  · intro b hb
    rcases List.mem_cons.mp hb with e | hb
    · exact .inl (List.mem_singleton.mpr e)
    · rw [List.mem_singleton.mp hb]; exact .inr (.inl ⟨_, hg⟩)
  · intro i h st b hb
    obtain ⟨o, ho, _⟩ := st.1
    exact ⟨o, by rw [List.mem_singleton.mp hb]; exact ho⟩
  · intro p hp hI
    exact absurd (Heap.lt_size (N p hp).1) ((List.mem_singleton.mp hI) ▸ Nat.lt_irrefl _)
  · intro i v m₁ nx h₁ tk₁ its hi hP hJ ha hk F₁ N₁
    have hP' : vs.toArray[i]? = some v := hP
    exact turn i v m₁ nx h₁ tk₁ its (by simpa using hP') hJ ha hk F₁ N₁
  · intro h' tk m' nx hJ hk F' N'
    exact done h' tk m' nx (by simpa using hJ) hk F' N'

theorem loop_range {r : Addr} {b : Int} {t₀ u₀ v₀ : Tok} {n : Nat} (J : Nat → (Str → Option Value) → List (Addr × Obj) → Prop) (hh : A.handled = none) (hr : IsRange s.heap r 0 b 1 t₀ u₀ v₀) (hb : b < 2 ^ 62) (hn : b.toNat = n) (F : Fr h₀ env.locals s.heap m) (N : News h₀ env.locals s.heap news) (h0 : J 0 m news)
    (turn : LTurn prog w A h₀ env target body Q E s [] J (fun i v _ => i < n ∧ ∃ t, v = .int (i : Int) t)) (done : LDone prog w A h₀ env orelse Q E s [] (J n)) (hb0 : 0 ≤ b := by omega) (ht : ∀ it v, letOwnedTupleGo target it v = pure () := by intro _ _; rfl) :
    wpAny (model prog w) A (pyIter (.ref r)) (fun it s₂ => LoopI prog w A h₀ env target body orelse Q E it s₂) E s := by
  have hsz : Builtin.Range.rangeSize 0 b 1 = (n : Int) := by rw [rangeSize_nat, ← hn]; congr 2; omega
  refine wpAny_pyIter_range hr (small_one (by decide) (by decide) (by omega) hb) ?_
  have WW := KTurns.ofWalks (target := target) (Walks.range (prog := prog) (w := w) hh s.heap.objs.size 0 1 n).bound (fun i v s Q E st q => by rw [ht]; exact wpAny_pure q)
  refine ⟨_, _, _, _, _, _, _, m, news, [], J, rfl, WW, ?_, ?_, ?_, ?_, (by show IsRangeIter _ _ _ _ _; rw [hsz]; simpa using Heap.get?_push_size _ rfl), F.push _, (fun p hp => ⟨Heap.get?_push_of_some _ (N p hp).1, (N p hp).2⟩), ?_, (fun _ hp => nomatch hp), h0, ?_, ?_⟩
  · intro hm
    exact absurd F.ns.lt ((List.mem_singleton.mp hm) ▸ Nat.lt_irrefl _)
  · intro b hb
    rw [List.mem_singleton.mp hb]
    exact next_is_new F
  · intro b hb
    exact .inl hb
  · intro i h st b hb
    exact ⟨_, by rw [List.mem_singleton.mp hb]; exact st⟩
  · intro p hp hI
    exact absurd (Heap.lt_size (N p hp).1) ((List.mem_singleton.mp hI) ▸ Nat.lt_irrefl _)
  · intro i v m₁ nx h₁ tk₁ its hi hP hJ ha hk F₁ N₁
    obtain ⟨h1, t, e⟩ := hP
    refine turn i v m₁ nx h₁ tk₁ its ⟨hi, t, ?_⟩ hJ ha hk F₁ N₁
    rw [e]; congr 1; omega
  · exact done

theorem loop_enumK {K : Frag} {elts : List PySem.Expr} {k : Nat} {pos : Pos} {l : Addr} {lo : Obj} {vs : List Value} {nn : Nat} (J : Nat → (Str → Option Value) → List (Addr × Obj) → Prop) (hh : A.handled = none) (F : Fr h₀ env.locals s.heap m) (N : News h₀ env.locals s.heap news) (X : K.In h₀) (hk : K.lookup l = some lo) (hc : lo.cls = .type "tuple") (hd : lo.data = .seq vs.toArray nn) (h0 : J 0 m news)
    (turn : LTurn prog w A h₀ env (.Tuple elts k pos) body Q E s [] J (fun i v h => ∃ T t x, v = .ref T ∧ vs[i]? = some x ∧ h.IsTuple T #[.int (i : Int) t, x])) (done : LDone prog w A h₀ env orelse Q E s [] (J vs.length)) :
    wpAny (model prog w) A (call (.type "enumerate") [.ref l]) (fun xv s₁ => wpAny (model prog w) A (pyIter xv) (fun it s₂ => LoopI prog w A h₀ env (.Tuple elts k pos) body orelse Q E it s₂) E s₁) E s := by
  have hg : h₀.get? l = some lo := X _ _ hk
  have hax : s.heap.get? l = some lo := F.keep _ _ hg
  have hls : s.heap.IsTuple l vs.toArray := ⟨lo, hax, hc, nn, hd⟩
  have hlt : l < s.heap.objs.size := Heap.lt_size hax
  have hLs : env.locals < s.heap.objs.size := F.ns.lt
  refine call_enum_tup hls fun h' hE hI hk' => ?_
  refine wpAny_pyIter_enum hE ?_
  have D := drawsTup (prog := prog) (w := w) (A := A.in1) hh s.heap.objs.size l (Nat.ne_of_lt hlt) vs.toArray
  have WW := KTurns.ofWalksU (elts := elts) (k := k) (pos := pos) (WalksT.enumerateD D (s.heap.objs.size + 1) (Nat.succ_ne_self _) (by
    intro hm
    rcases List.mem_cons.mp hm with e | hm
    · exact Nat.succ_ne_self _ e
    · have e : s.heap.objs.size + 1 = l := List.mem_singleton.mp hm
      exact absurd hlt (Nat.not_lt.mpr (e ▸ Nat.le_succ _))) (List.mem_cons_self ..)).toU
  refine ⟨_, _, _, _, _, _, _, m, news, [], J, rfl, WW, ?_, ?_, ?_, ?_, ⟨⟨_, hE⟩, hI, hls.at fun o e => hk' _ o e⟩, F.keeps hk', N.grown hk', ?_, (fun _ hp => nomatch hp), h0, ?_, ?_⟩
  · intro hm
    have hm' : env.locals = s.heap.objs.size + 1 ∨ env.locals = s.heap.objs.size ∨ env.locals = l := by simpa using hm
    rcases hm' with e | e | e
    · exact absurd hLs (Nat.not_lt.mpr (e ▸ Nat.le_succ _))
    · exact absurd hLs (e ▸ Nat.lt_irrefl _)
    · exact absurd (Heap.lt_size hg) (Nat.not_lt.mpr (e ▸ F.above))
  · intro b hb
    have hb' : b = s.heap.objs.size + 1 ∨ b = s.heap.objs.size := by simpa using hb
    rcases hb' with rfl | rfl
    · exact ktu_new F (Nat.le_add_right _ _)
    · exact ktu_new F (Nat.le_refl _)
  · intro b hb
    have hb' : b = s.heap.objs.size + 1 ∨ b = s.heap.objs.size ∨ b = l := by simpa using hb
    rcases hb' with rfl | rfl | rfl
    · exact .inl (by simp)
    · exact .inl (by simp)
    · exact .inr (.inl ⟨_, hg⟩)
  · rintro i h ⟨⟨old, he⟩, ⟨oi, hoi, _⟩, _⟩ b hb
    have hb' : b = s.heap.objs.size + 1 ∨ b = s.heap.objs.size := by simpa using hb
    rcases hb' with rfl | rfl
    · exact ⟨_, he⟩
    · exact ⟨_, hoi⟩
  · intro p hp hI
    have hlp := Heap.lt_size (N p hp).1
    have hb' : p.1 = s.heap.objs.size + 1 ∨ p.1 = s.heap.objs.size := by simpa using hI
    rcases hb' with e | e
    · exact absurd hlp (by rw [e]; exact Nat.not_lt.mpr (Nat.le_succ _))
    · exact absurd hlp (by rw [e]; exact Nat.lt_irrefl _)
  · rintro i v m₁ nx h₁ tk₁ its hi ⟨T, vals, rfl, ⟨t, x, hx, rfl⟩, hT⟩ hJ ha hk F₁ N₁
    exact turn i _ m₁ nx h₁ tk₁ its ⟨T, t, x, rfl, by simpa using hx, hT⟩ hJ ha hk F₁ N₁
  · intro h' tk m' nx hJ hk F' N'
    exact done h' tk m' nx (by simpa using hJ) hk F' N'

theorem TEnd.intro {L : Addr} {its keep led' : List (Addr × Obj)} {J : (Str → Option Value) → List (Addr × Obj) → Prop} {h' : Heap} {tk : Nat} {m' : Str → Option Value} (nx : List (Addr × Obj)) (F : Fr h₀ L h' m') (N : News h₀ L h' led') (hi : ∀ p ∈ its, p ∈ led') (hn : ∀ p ∈ nx, p ∈ led') (ha : ∀ p ∈ its, ∀ q ∈ nx, p.1 ≠ q.1) (hk : ∀ p ∈ keep, p ∈ nx) (hJ : J m' nx) :
    TEnd h₀ L its keep J s { s with heap := h', toks := tk } := ⟨h', tk, m', led', nx, rfl, F, N, hi, hn, ha, hk, hJ⟩
/-- a name that holds v, written out -/
theorem fr_at {h : Heap} {L : Addr} {x : Str} {v : Value} (F : Fr h₀ L h m) (e : m x = some v) : Fr h₀ L h (fun y => if y = x then some v else m y) := by
  have : (fun y => if y = x then some v else m y) = m := by
    funext y
    by_cases hy : y = x
    · rw [if_pos hy, hy, e]
    · rw [if_neg hy]
  rw [this]; exact F
end
end Mine
end

-- Comp
section
open PySem PySem.W PyProof.Rows PySem.Spec PySem.Calls
set_option Elab.async false
set_option linter.unusedVariables false
set_option maxRecDepth 100000
namespace Mine
section
variable {prog : Program} {w : World} {A : Around} {E : Value → Shared → Prop} {s : Shared} {h₀ : Heap} {L : Addr} {m : Str → Option Value} {env : Env}
/-- where a comprehension over a list stands: what is asked of its source, its element, its end -/
def CompD {α : Type} (prog : Program) (w : World) (A : Around) (h₀ : Heap) (L : Addr) (m : Str → Option Value) (env : Env) (K : ItemKind α) (elt : PySem.Expr) (x : Str) (ifs : List PySem.Expr) (scope : Scope) (cl : List (Str × Addr)) (pz : α → Bool) (d : α → PyData) (Q : Value → Shared → Prop) (xv : Value) (s₁ : Shared) : Prop :=
  ∃ news : List (Addr × Obj), ∃ ax vs as, xv = .ref ax ∧ s₁.heap.IsList ax vs.toArray ∧ AreOf K vs as ∧ as.length ≤ sizeLine ∧ Fr h₀ L s₁.heap m ∧ News h₀ L s₁.heap news ∧
      (∀ C a v s₂ m₂ E', s₁.heap.objs.size ≤ C → a ∈ as → K.is a v → s₂.heap.Ns (compEnvC scope cl C env).locals m₂ → m₂ x = some v → (∀ b o, s₁.heap.get? b = some o → s₂.heap.get? b = some o) →
        wpAny (model prog w) A (forIn ifs true fun c r => if r = true then do let ok ← isTrue c (compEnvC scope cl C env) (eval c (compEnvC scope cl C env)); pure (ForInStep.yield ok) else pure (ForInStep.yield r))
          (fun ok s₃ => ok = pz a ∧ Keeps s₂ s₃) E' s₂) ∧
      (∀ C a v s₂ m₂ E', s₁.heap.objs.size ≤ C → a ∈ as → K.is a v → pz a = true → s₂.heap.Ns (compEnvC scope cl C env).locals m₂ → m₂ x = some v → (∀ b o, s₁.heap.get? b = some o → s₂.heap.get? b = some o) →
        wpAny (model prog w) A (eval elt (compEnvC scope cl C env)) (fun y s₃ => Carried y (d a) ∧ Keeps s₂ s₃) E' s₂) ∧
      (∀ D (ys : List Value) h' tk, Fr h₀ L h' m → News h₀ L h' news → h₀.get? D = none → h'.IsList D ys.toArray → NewPlain h' news D ys.toArray → CarriedAll ys ((as.filter pz).map d) → Q (.ref D) { s₁ with heap := h', toks := tk })
theorem comp_d {α : Type} {K : ItemKind α} {elt iter : PySem.Expr} {x : Str} {px : Pos} {ifs : List PySem.Expr} {scope : Scope} {cl : List (Str × Addr)} {pos : Pos} {Q : Value → Shared → Prop} {pz : α → Bool} {d : α → PyData}
    (hh : A.handled = none) (hclos : closureFor scope env = pure cl) (hcell : ∀ y ∈ scope.names, y.2 ≠ .cell) (hkind : scope.kind = .function)
    (hnames : ∀ y ∈ scope.names, y.2 = .local → scope.names.lookup y.1 = some .local) (hx : scope.names.lookup x = some .local) (F : Fr h₀ L s.heap m)
    (h : wpAny (model prog w) A (eval iter env) (CompD prog w A h₀ L m env K elt x ifs scope cl pz d Q) E s)
    (hs : ∀ x, foldedSetIterable iter env x = pure x) :
    wpAny (model prog w) A (eval (.ListComp elt [⟨.Name x px, iter, ifs, 0⟩] scope pos) env) Q E s := ListComp_DCn hh hclos hcell hkind hnames hx h hs
theorem keeps_refl (s : Shared) : Keeps s s := ⟨s.heap, s.toks, rfl, fun _ _ e => e⟩
theorem keeps_at {s : Shared} {h' : Heap} {tk : Nat} (h : ∀ b o, s.heap.get? b = some o → h'.get? b = some o) : Keeps s { s with heap := h', toks := tk } := ⟨h', tk, rfl, h⟩
/-- the list that a comprehension made, as a new object of the ledger -/
theorem newPlain_led {h' : Heap} {D : Addr} {ys : List Value} {led : List (Addr × Obj)} (F : Fr h₀ L h' m) (N : News h₀ L h' led) (h0 : h₀.get? D = none) (P : NewPlain h' led D ys.toArray) : ∃ n, News h₀ L h' ((D, W.listOf ys.toArray n) :: led) ∧ ∀ p ∈ led, p.1 ≠ D := by
  have hne := P.ne_locals F
  obtain ⟨⟨n, e⟩, h1⟩ := P
  refine ⟨n, fun p hp => ?_, h1⟩
  rcases List.mem_cons.mp hp with rfl | hp
  · exact ⟨e, hne, h0⟩
  · exact N p hp
end
end Mine
end

-- While
section
open PySem PySem.W PyProof.Rows PySem.Spec PySem.Calls
set_option Elab.async false
set_option linter.unusedVariables false
set_option maxRecDepth 100000
namespace Mine
section
variable {prog : Program} {w : World} {A : Around} {E : Value → Shared → Prop} {s : Shared} {env : Env} {h₀ : Heap} {test : PySem.Expr} {body orelse : List Stmt} {Q : Flow → Shared → Prop} {m : Str → Option Value} {news : List (Addr × Obj)}
/-- the end of a while's turn -/
def WEnd (h₀ : Heap) (L : Addr) (J : Nat → (Str → Option Value) → List (Addr × Obj) → Prop) (s : Shared) (k : Nat) (s2 : Shared) : Prop :=
  ∃ k' h' tk m' led' nx, k' < k ∧ s2 = { s with heap := h', toks := tk } ∧ Fr h₀ L h' m' ∧ News h₀ L h' led' ∧ (∀ p ∈ nx, p ∈ led') ∧ J k' m' nx
def WPost (h₀ : Heap) (L : Addr) (J : Nat → (Str → Option Value) → List (Addr × Obj) → Prop) (s : Shared) (Q : Flow → Shared → Prop) (k : Nat) (f : Flow) (s2 : Shared) : Prop :=
  match f with
  | .ret v => Q (.ret v) s2
  | .brk => Q .next s2
  | _ => WEnd h₀ L J s k s2
theorem WEnd.intro {J : Nat → (Str → Option Value) → List (Addr × Obj) → Prop} {L : Addr} {k : Nat} {h' : Heap} {tk : Nat} {m' : Str → Option Value} {led' : List (Addr × Obj)} (k' : Nat) (nx : List (Addr × Obj)) (hk : k' < k) (F : Fr h₀ L h' m') (N : News h₀ L h' led') (hn : ∀ p ∈ nx, p ∈ led') (hJ : J k' m' nx) :
    WEnd h₀ L J s k { s with heap := h', toks := tk } := ⟨k', h', tk, m', led', nx, hk, rfl, F, N, hn, hJ⟩
/-- a while, where it stands -/
def WhlAt (prog : Program) (w : World) (A : Around) (env : Env) (test : PySem.Expr) (body orelse : List Stmt) (Q : Flow → Shared → Prop) (E : Value → Shared → Prop) (s : Shared) : Prop :=
  ∃ (h₀ : Heap) (m : Str → Option Value) (news : List (Addr × Obj)) (J : Nat → (Str → Option Value) → List (Addr × Obj) → Prop) (k₀ : Nat),
    Fr h₀ env.locals s.heap m ∧ News h₀ env.locals s.heap news ∧ J k₀ m news ∧
    ∀ k m₁ nx h₁ tk₁, J k m₁ nx → Fr h₀ env.locals h₁ m₁ → News h₀ env.locals h₁ nx →
      wpAny (model prog w) A (isTrue test env (eval test env)) (fun b s₂ => WhlIf b (wpAny (model prog w) A (execs body env) (WPost h₀ env.locals J s Q k) E s₂) (wpAny (model prog w) A (execs orelse env) Q E s₂)) E { s with heap := h₁, toks := tk₁ }
theorem while_at {pos : Pos} (h : WhlAt prog w A env test body orelse Q E s) (hE : PassesOwn (model prog w) A env E := by passes_own) :
    wpAny (model prog w) A (exec (.While test body orelse pos) env) Q E s := by
  obtain ⟨h₀, m, news, J, k₀, F, N, h0, turn⟩ := h
  refine wpAny_While ?_
  refine codeAny_whileLoop (fun k s' => ∃ h' tk m' nx, s' = { s with heap := h', toks := tk } ∧ Fr h₀ env.locals h' m' ∧ News h₀ env.locals h' nx ∧ J k m' nx) ?_ k₀ ⟨s.heap, s.toks, m, news, rfl, F, N, h0⟩
  rintro k s' ⟨h', tk, m', nx, rfl, F', N', hJ⟩
  refine wpAny_mono (turn k m' nx h' tk hJ F' N') (fun b s₂ h₂ => ?_) hE
  cases b with
  | false =>
    unfold WhlIf at h₂
    rw [if_neg Bool.false_ne_true] at h₂
    simp only [Bool.false_eq_true, if_false]
    exact wpAny_passesOwn hE h₂
  | true =>
    unfold WhlIf at h₂
    rw [if_pos rfl] at h₂
    simp only [if_true]
    refine wpAny_mono h₂ (fun f s₃ h₃ => ?_) hE
    have fin : WEnd h₀ env.locals J s k s₃ → ∃ m, m < k ∧ ∃ h' tk m' nx, s₃ = { s with heap := h', toks := tk } ∧ Fr h₀ env.locals h' m' ∧ News h₀ env.locals h' nx ∧ J m m' nx := by
      rintro ⟨k', h₉, tk₃, m₃, led₃, nx₃, hk, rfl, F₃, N₃, hn, hJ₃⟩
      exact ⟨k', hk, h₉, tk₃, m₃, nx₃, rfl, F₃, fun p hp => N₃ p (hn p hp), hJ₃⟩
    cases f with
    | next => exact fin h₃
    | cont => exact fin h₃
    | brk => exact h₃
    | ret v => exact h₃
end
section
variable {k : Nat} {w : World} {mean : ExcName → Option Value} {mg mb : Str → Option Value} {f : Addr} {vs : List Value} {led news : List (Addr × Obj)}
    {dp un : Nat} {gd : Option (List Code)} {cn : Str} {cs : Scope} {a : Addr} {ccd : Value} {cl : List (Str × Addr)} {outer : List Env} {A₀ : Around} {base h₀ : Heap} {L : Addr} {m : Str → Option Value} {s : Shared} {Q E : Value → Shared → Prop}
/-- a call with a ledger whose answer is a plain value: the caller's ledger stays -/
theorem claim_useL {P : Value → Prop}
    (C : Claim k w mean mg mb f vs led (fun v own => P v)) (B : Below A₀ base outer h₀) (F : Fr h₀ L s.heap m) (X : (Mine.hd.heap_39 w.params).In h₀) (N : News h₀ L s.heap news) (hs : ∀ p ∈ led, p ∈ news) (T : Top Mine.hd.view_39 (looseW Mine.hd.view_39 [Str.ofString "IPV4_RE", Str.ofString "_filemode_table"]) mean mg mb h₀) (hk : cs.kind = .function)
    (hd : dp + k < recursionLimit) (hu : un + 10 * k + 100 < cLine)
    (ret : ∀ v h' tk', P v → Fr h₀ L h' m → News h₀ L h' news → Q v { s with heap := h', toks := tk' }) :
    wpAny (model PySem.Challenge.rw_tv0035_01.row.prog w) (ktrTop dp un gd cn cs L a ccd cl outer) (call (.ref f) vs) Q E s :=
  claim_use C B F X N hs T hk hd hu fun v own h' tk' hp F' N' _ => ret v h' tk' hp F' fun p hp => N' p (List.mem_append_right _ hp)
end
/-- ints as data -/
theorem ints_dat {led : List (Addr × Obj)} : ∀ {vs : List Value} {ns : List Int}, IntsAre vs ns → DatAll led vs (ns.map Dat.int)
  | _, _, .nil => .nil
  | _, _, .cons n t r => .cons (.int n t) (ints_dat r)
theorem dat_ints {led : List (Addr × Obj)} : ∀ {vs : List Value} {ns : List Int}, DatAll led vs (ns.map Dat.int) → IntsAre vs ns := by
  intro vs
  induction vs with
  | nil =>
    intro xs h
    cases xs with
    | nil => exact .nil
    | cons x xs => cases h
  | cons y ys ih =>
    intro xs h
    cases xs with
    | nil => cases h
    | cons x xs =>
      cases h with
      | cons u v =>
        cases u with
        | int _ t => exact .cons _ t (ih v)
def dRow (r : List Int) : Dat := .list (r.map .int)
def dLevel (l : List (List Int)) : Dat := .list (l.map dRow)
/-- a row of a level, out of its ledger -/
theorem row_get {led : List (Addr × Obj)} {vs : List Value} {rows : List (List Int)} (h : DatAll led vs (rows.map dRow)) {i : Nat} {v : Value} (hv : vs[i]? = some v) :
    ∃ r a us c, rows[i]? = some r ∧ v = .ref a ∧ (a, W.listOf us.toArray c) ∈ led ∧ IntsAre us r := by
  have hl := h.length
  rw [List.length_map] at hl
  obtain ⟨hi, hvi⟩ := List.getElem?_eq_some_iff.mp hv
  have hi' : i < rows.length := by omega
  obtain ⟨v', hv', hD⟩ := h.get (k := i) (by rw [List.length_map]; exact hi')
  rw [hv] at hv'
  cases hv'
  rw [List.getElem_map] at hD
  have e : rows[i]? = some rows[i] := List.getElem?_eq_getElem hi'
  generalize rows[i] = r at hD e
  unfold dRow at hD
  generalize hds : List.map Dat.int r = ds at hD
  cases hD with
  | list hm hr =>
    subst hds
    exact ⟨r, _, _, _, e, rfl, hm, dat_ints hr⟩
theorem list_in {led : List (Addr × Obj)} {a : Addr} {us : List Value} {c : Nat} {r : List Int} (hm : (a, W.listOf us.toArray c) ∈ led) (hi : IntsAre us r) : DatIn led (.ref a) (dRow r) := .list hm (ints_dat hi)
end Mine
end

-- Range
section
open PySem PySem.W PyProof.Rows PySem.Spec PySem.Calls
set_option Elab.async false
set_option linter.unusedVariables false
set_option maxRecDepth 100000
namespace Mine
section
variable {prog : Program} {w : World} {A : Around} {E : Value → Shared → Prop} {s : Shared} {env : Env} {h₀ : Heap} {target : PySem.Expr} {body orelse : List Stmt} {Q : Flow → Shared → Prop} {m : Str → Option Value} {news : List (Addr × Obj)}
/-- a loop over a range, where it stands -/
def RngAt (prog : Program) (w : World) (A : Around) (h₀ : Heap) (env : Env) (target : PySem.Expr) (body orelse : List Stmt) (Q : Flow → Shared → Prop) (E : Value → Shared → Prop) (b : Int) (t : Tok) (s : Shared) : Prop :=
  wpAny (model prog w) A (call (.type "range") [.int b t]) (fun xv s₁ => wpAny (model prog w) A (pyIter xv) (fun it s₂ => LoopI prog w A h₀ env target body orelse Q E it s₂) E s₁) E s
theorem range_stop {b : Int} {t : Tok} (h : RngAt prog w A h₀ env target body orelse Q E b t s) :
    wpAny (model prog w) A (call (.type "range") [.int b t]) (fun xv s₁ => wpAny (model prog w) A (pyIter xv) (fun it s₂ => LoopI prog w A h₀ env target body orelse Q E it s₂) E s₁) E s := h
theorem loop_rangeN {b : Int} {t : Tok} (n : Nat) (J : Nat → (Str → Option Value) → List (Addr × Obj) → Prop) (hh : A.handled = none) (hb : b = n) (hn : n < 2 ^ 62) (F : Fr h₀ env.locals s.heap m) (N : News h₀ env.locals s.heap news) (h0 : J 0 m news)
    (turn : LTurn prog w A h₀ env target body Q E s [] J (fun i v _ => i < n ∧ ∃ t, v = .int (i : Int) t)) (done : LDone prog w A h₀ env orelse Q E s [] (J n)) (ht : ∀ it v, letOwnedTupleGo target it v = pure () := by intro _ _; rfl) :
    RngAt prog w A h₀ env target body orelse Q E b t s := by
  unfold RngAt
  subst hb
  refine range1_rows F N fun h' tk t₁ u₁ v₁ hr F' N' _ => ?_
  exact loop_range (s := { s with heap := h', toks := tk }) J hh hr (by omega) (by omega) F' N' h0 turn done (by omega) ht
end
end Mine
end

-- LtList
section
open PySem PySem.W PyProof.Rows PySem.Spec PySem.Calls
set_option Elab.async false
set_option linter.unusedVariables false
set_option maxRecDepth 100000
namespace Mine
open PySem.MeetsSeq PySem.MeetsSeq3 PySem.AutoSeq1
/-- the order of lists of ints -/
def ltF : List Int → List Int → Bool
  | [], [] => false
  | [], _ :: _ => true
  | _ :: _, [] => false
  | x :: xs, y :: ys => if x == y then ltF xs ys else decide (x < y)
theorem ltF_end {xs ys : List Int} {i : Nat} (hi : i ≤ xs.length) (hj : i ≤ ys.length) (h : i = xs.length ∨ i = ys.length) : ltF (xs.drop i) (ys.drop i) = decide (xs.length < ys.length) := by
  rcases h with h | h
  · rw [List.drop_of_length_le (l := xs) (by omega)]
    by_cases hy : i < ys.length
    · rw [List.drop_eq_getElem_cons hy, decide_eq_true (by omega)]; rfl
    · rw [List.drop_of_length_le (l := ys) (by omega), decide_eq_false (by omega)]; rfl
  · rw [List.drop_of_length_le (l := ys) (by omega)]
    by_cases hx : i < xs.length
    · rw [List.drop_eq_getElem_cons hx, decide_eq_false (by omega)]; rfl
    · rw [List.drop_of_length_le (l := xs) (by omega), decide_eq_false (by omega)]; rfl
theorem ints_at {us : List Value} {xs : List Int} (h : IntsAre us xs) : ∀ {j : Nat} (hj : j < xs.length), ∃ t, us[j]? = some (.int xs[j] t) := by
  induction h with
  | nil => intro j hj; exact absurd hj (Nat.not_lt_zero _)
  | cons n t _ ih =>
    intro j hj
    cases j with
    | zero => exact ⟨t, rfl⟩
    | succ j => simpa using ih (j := j) (by simpa using hj)
theorem lt_loop (l b : Addr) (us ws : List Value) (xs ys : List Int) (hu : IntsAre us xs) (hw : IntsAre ws ys) (n n2 : Nat) (k : Nat) :
    ∀ i : Nat, i ≤ xs.length → i ≤ ys.length → min xs.length ys.length - i = k → Meets (Builtin.«list.__eq__.loop» ⟨[.ref l, .ref b, rawInt i, rawInt 0], []⟩)
      (fun _ R s => s.heap.get? l = some { cls := .type "list", dict := none, data := .seq us.toArray n, slots := #[] } ∧ s.heap.get? b = some { cls := .type "list", dict := none, data := .seq ws.toArray n2, slots := #[] } ∧
        R (.ok (.ret (.bool (ltF (xs.drop i) (ys.drop i))))) s) := by
  have lu := hu.length
  have lw := hw.length
  induction k with
  | zero =>
    intro i hi1 hi2 hk prog w A R s h
    obtain ⟨hp, g, d, tk, os⟩ := s; obtain ⟨hl, hb, h⟩ := h
    rw [ltF_end hi1 hi2 (by omega)] at h
    wp_walk using wpAny_loadPart' hl, wpAny_loadPart' hb
    rcases (show i = xs.length ∨ i = ys.length by omega) with e | e
    · have hi1 : us.toArray[((i : Nat) : Int).toNat]? = none := by simp; omega
      rw [hi1]
      wp_walk using wpAny_loadPart' hl, wpAny_loadPart' hb
      show R (.ok (.ret (.bool (decide (us.toArray.size < ws.toArray.size))))) _
      rw [List.size_toArray, List.size_toArray, lu, lw]
      exact h
    · have hi1 : ws.toArray[((i : Nat) : Int).toNat]? = none := by simp; omega
      rw [hi1]
      cases us.toArray[((i : Nat) : Int).toNat]? <;> (
        wp_walk using wpAny_loadPart' hl, wpAny_loadPart' hb
        show R (.ok (.ret (.bool (decide (us.toArray.size < ws.toArray.size))))) _
        rw [List.size_toArray, List.size_toArray, lu, lw]
        exact h)
  | succ k ih =>
    intro i hi1 hi2 hk prog w A R s h
    obtain ⟨hp, g, d, tk, os⟩ := s; obtain ⟨hl, hb, h⟩ := h
    have hx : i < xs.length := by omega
    have hy : i < ys.length := by omega
    obtain ⟨t, ht⟩ := ints_at hu hx
    obtain ⟨u, hu'⟩ := ints_at hw hy
    wp_walk using wpAny_loadPart' hl, wpAny_loadPart' hb
    have hi1 : us.toArray[((i : Nat) : Int).toNat]? = some (.int xs[i] t) := by simpa using ht
    have hi2 : ws.toArray[((i : Nat) : Int).toNat]? = some (.int ys[i] u) := by simpa using hu'
    have hc : ((i : Int) + 1) = ((i + 1 : Nat) : Int) := by push_cast; rfl
    rw [List.drop_eq_getElem_cons hx, List.drop_eq_getElem_cons hy, ltF] at h
    rw [hi1, hi2]
    refine wpAny_bind (EqGives.int _ _ _ _ prog w _ _ _ _ ?_)
    cases hb' : xs[i] == ys[i] with
    | true =>
      rw [hb', if_pos rfl] at h
      wp_walk
      rw [hc]
      exact ⟨plainId_quiet plain_eq_loop _, codeAny_builtin entry_eq_loop (by
        rw [Around.under_plainId plain_eq_loop _]
        exact ih (i + 1) (by omega) (by omega) (by omega) prog w A R _ ⟨hl, hb, h⟩)⟩
    | false =>
      rw [hb', if_neg Bool.false_ne_true] at h
      wp_walk using wpAny_loadPart' hl, wpAny_loadPart' hb
      rw [hi1, hi2]
      refine wpAny_bind (m := richCompare .Lt (.int xs[i] t) (.int ys[i] u)) ?_
      have key : wpAny (model prog w) A.in1 (compareOp .Lt (.int xs[i] t) (.int ys[i] u)) (fun v s' => wpAny (model prog w) A.in1 (ret v) (fun fin s' =>
        match fin with
        | Fin.done f => R (Except.ok f) s'
        | Fin.again c' => c'.quiet = true ∧ codeAny (model prog w) A c' R s') (fun e s' => R (Except.error e) s') s') (fun e s' => R (Except.error e) s') { heap := hp, gens := g, drawn := d, toks := tk, os := os } :=
        wpAny_lt_int (by exact wpAny_pure h)
      exact key
theorem list_lt (l b : Addr) (us ws : List Value) (xs ys : List Int) (hu : IntsAre us xs) (hw : IntsAre ws ys) (n n2 : Nat) :
    Meets (Builtin.«list.__lt__» ⟨[.ref l, .ref b], []⟩)
      (fun _ R s => s.heap.get? l = some { cls := .type "list", dict := none, data := .seq us.toArray n, slots := #[] } ∧ s.heap.get? b = some { cls := .type "list", dict := none, data := .seq ws.toArray n2, slots := #[] } ∧
        R (.ok (.ret (.bool (ltF xs ys)))) s) := by
  intro prog w A R s h
  obtain ⟨hp, g, d, tk, os⟩ := s; obtain ⟨hl, hb, h⟩ := h
  have f3 := AutoSeq1.sub_list_list
  wp_walk using wpAny_loadPart' hl, wpAny_loadPart' hb
  exact ⟨plainId_quiet plain_eq_loop _, codeAny_builtin entry_eq_loop (by
    rw [Around.under_plainId plain_eq_loop _]
    exact lt_loop l b us ws xs ys hu hw n n2 _ 0 (Nat.zero_le _) (Nat.zero_le _) rfl prog w A R _ ⟨hl, hb, by simpa using h⟩)⟩
end Mine
end

-- SortRow
section
open PySem PySem.W PyProof.Rows PySem.Spec PySem.Calls
set_option Elab.async false
set_option linter.unusedVariables false
set_option maxRecDepth 100000
namespace Mine
section
variable {prog : Program} {w : World} {A : Around} {E : Value → Shared → Prop} {s : Shared} {h₀ : Heap} {L : Addr} {news : List (Addr × Obj)}
theorem call_lt {a b : Addr} {us ws : List Value} {c d : Nat} {xs ys : List Int} {Q : Value → Shared → Prop} (N : News h₀ L s.heap news) (ma : (a, W.listOf us.toArray c) ∈ news) (mb : (b, W.listOf ws.toArray d) ∈ news) (hu : IntsAre us xs) (hw : IntsAre ws ys) (h : Q (.bool (ltF xs ys)) s) :
    wpAny (model prog w) A (call (.builtin "list.__lt__") [.ref a, .ref b]) Q E s :=
  wpAny_call (codeAny_call_builtin F.slot_list_lt.plain F.entry_list_lt (F.slot_list_lt.check _ _ _ _ _ _ _ _ ⟨_, (N _ ma).1, rfl⟩ (F.args_list_lt_2 _ _)
    (list_lt a b us ws xs ys hu hw c d prog w A (fun r s' => match r with | .ok (.ret v) => Q v s' | .ok _ => False | .error e => E e s') s ⟨(N _ ma).1, (N _ mb).1, h⟩)))
theorem kas_lt_row {a b : Addr} {us ws : List Value} {c d : Nat} {xs ys : List Int} {Q : Bool → Shared → Prop} (hu : A.units < cLine) (N : News h₀ L s.heap news) (ma : (a, W.listOf us.toArray c) ∈ news) (mb : (b, W.listOf ws.toArray d) ∈ news) (hi : IntsAre us xs) (hw : IntsAre ws ys) (h : Q (ltF xs ys) s) :
    wpAny (model prog w) A (keyLt' oneType' (.ref a) (.ref b)) Q E s := by
  rw [keyLt'_oneType, oneLt'_eq]
  simp only [if_true]
  refine wpAny_bind (wpAny_cRoomFor hu ?_)
  refine wpAny_bind (wpAny_callSpecialIfBound?_slot ⟨_, (N _ ma).1, rfl⟩ F.slot_list_lt (call_lt N ma mb hi hw ?_))
  exact wpAny_truthy_bool h
end
end Mine
end

-- SortRun
section
open PySem PySem.W PyProof.Rows PySem.Spec PySem.Calls
set_option Elab.async false
set_option linter.unusedVariables false
set_option maxRecDepth 100000
namespace Mine
/-- a sort's questions, answered -/
def kasRun {α : Type} (lt : Nat → Nat → Bool) : KasT α → α
  | .ret a => a
  | .ask i j k => kasRun lt (k (lt i j))
/-- all its questions are of places below n -/
def kasAll {α : Type} (n : Nat) : KasT α → Bool
  | .ret _ => true
  | .ask i j k => decide (i < n) && decide (j < n) && kasAll n (k true) && kasAll n (k false)
theorem kas_run {α : Type} {cmp : Nat → Nat → (Bool → Shared → Prop) → Shared → Prop} {lt : Nat → Nat → Bool} {n : Nat} {Q : α → Shared → Prop} {s : Shared} (hc : ∀ i j C, i < n → j < n → C (lt i j) s → cmp i j C s) :
    ∀ t : KasT α, kasAll n t = true → Q (kasRun lt t) s → t.kasWp cmp Q s
  | .ret a, _, h => h
  | .ask i j k, ha, h => by
    simp only [kasAll, Bool.and_eq_true, decide_eq_true_eq] at ha
    refine hc i j _ ha.1.1.1 ha.1.1.2 ?_
    refine kas_run hc (k (lt i j)) ?_ h
    cases lt i j
    · exact ha.2
    · exact ha.1.2
theorem kas_all2 : kasAll 2 (kas_sort 2) = true := by decide +kernel
theorem kas_all3 : kasAll 3 (kas_sort 3) = true := by decide +kernel
theorem kas_all4 : kasAll 4 (kas_sort 4) = true := by decide +kernel
theorem kas_all5 : kasAll 5 (kas_sort 5) = true := by decide +kernel
end Mine
end

-- Sorted
section
open PySem PySem.W PyProof.Rows PySem.Spec PySem.Calls
set_option Elab.async false
set_option linter.unusedVariables false
set_option maxRecDepth 100000
namespace Mine
/-- every end of a sort's tree is so -/
def kasRet {α : Type} (P : α → Bool) : KasT α → Bool
  | .ret a => P a
  | .ask _ _ k => kasRet P (k true) && kasRet P (k false)
theorem kas_ret {α : Type} {P : α → Bool} {lt : Nat → Nat → Bool} : ∀ t : KasT α, kasRet P t = true → P (kasRun lt t) = true
  | .ret a, h => h
  | .ask i j k, h => by
    simp only [kasRet, Bool.and_eq_true] at h
    show P (kasRun lt (k (lt i j))) = true
    refine kas_ret _ ?_
    cases lt i j
    · exact h.2
    · exact h.1
def below (n : Nat) (p : Array Nat) : Bool := p.toList.all fun i => decide (i < n)
theorem kas_all6 : kasAll 6 (kas_sort 6) = true := by decide +kernel
theorem kas_ret2 : kasRet (below 2) (kas_sort 2) = true := by decide +kernel
theorem kas_ret3 : kasRet (below 3) (kas_sort 3) = true := by decide +kernel
theorem kas_ret4 : kasRet (below 4) (kas_sort 4) = true := by decide +kernel
theorem kas_ret5 : kasRet (below 5) (kas_sort 5) = true := by decide +kernel
theorem kas_ret6 : kasRet (below 6) (kas_sort 6) = true := by decide +kernel
theorem kas_ok {n : Nat} (h2 : 2 ≤ n) (h6 : n ≤ 6) : kasAll n (kas_sort n) = true ∧ kasRet (below n) (kas_sort n) = true := by
  match n, h2, h6 with
  | 2, _, _ => exact ⟨kas_all2, kas_ret2⟩
  | 3, _, _ => exact ⟨kas_all3, kas_ret3⟩
  | 4, _, _ => exact ⟨kas_all4, kas_ret4⟩
  | 5, _, _ => exact ⟨kas_all5, kas_ret5⟩
  | 6, _, _ => exact ⟨kas_all6, kas_ret6⟩
  | n + 7, _, h => omega
def rowsLt (rows : List (List Int)) (i j : Nat) : Bool := ltF (rows.getD i []) (rows.getD j [])
def sortP (rows : List (List Int)) : List Nat := if rows.length < 2 then List.range rows.length else (kasRun (rowsLt rows) (kas_sort rows.length)).toList
/-- the rows, in order -/
def sortF (rows : List (List Int)) : List (List Int) := (sortP rows).map fun i => rows.getD i []
/-- a row, where it stands in a ledger -/
theorem row_at {led : List (Addr × Obj)} {vs : List Value} {rows : List (List Int)} (h : DatAll led vs (rows.map dRow)) {i : Nat} (hi : i < rows.length) :
    ∃ a us c, vs.getD i Value.none = .ref a ∧ (a, W.listOf us.toArray c) ∈ led ∧ IntsAre us (rows.getD i []) := by
  have hl := h.length
  rw [List.length_map] at hl
  have hv : vs[i]? = some (vs.getD i Value.none) := by
    rw [List.getD_eq_getElem?_getD, List.getElem?_eq_getElem (by omega)]; rfl
  obtain ⟨r, a, us, c, hr, e, hm, hu⟩ := row_get h hv
  refine ⟨a, us, c, e, hm, ?_⟩
  rw [List.getD_eq_getElem?_getD, hr]
  exact hu
theorem rows_pick {led : List (Addr × Obj)} {vs : List Value} {rows : List (List Int)} (h : DatAll led vs (rows.map dRow)) : ∀ (p : List Nat), (∀ i ∈ p, i < rows.length) → DatAll led (p.map fun i => vs.getD i Value.none) ((p.map fun i => rows.getD i []).map dRow)
  | [], _ => .nil
  | i :: p, hp => by
    obtain ⟨a, us, c, e, hm, hu⟩ := row_at h (hp i (.head _))
    refine .cons ?_ (rows_pick h p fun j hj => hp j (.tail _ hj))
    show DatIn led (vs.getD i Value.none) _
    rw [e]
    exact list_in hm hu
theorem row_mem {led : List (Addr × Obj)} {vs : List Value} {rows : List (List Int)} (h : DatAll led vs (rows.map dRow)) {v : Value} (hv : v ∈ vs) : ∃ a us c, v = .ref a ∧ (a, W.listOf us c) ∈ led := by
  obtain ⟨i, hi⟩ := List.mem_iff_getElem?.mp hv
  obtain ⟨r, a, us, c, hr, e, hm, hu⟩ := row_get h hi
  exact ⟨a, _, c, e, hm⟩
section
variable {prog : Program} {w : World} {A : Around} {E : Value → Shared → Prop} {s : Shared} {h₀ : Heap} {L : Addr} {m : Str → Option Value} {news : List (Addr × Obj)}
theorem sort1 {a : Addr} {v : Value} {n : Nat} {P : PySem.Fin → Shared → Prop} (ho : s.heap.get? a = some (seqObj "list" [v].toArray n))
    (h : P (.done (.ret .none)) { s with heap := sortedHeap s.heap a [v] [v].toArray }) :
    wpAny (model prog w) A (Builtin.«list.sort» ⟨[.ref a], []⟩) P E s := by
  rw [list_sort_plain]
  have ha : a < s.heap.objs.size := Heap.lt_size ho
  refine wpAny_bind (listItems_at ho rfl ?_)
  refine wpAny_bind (listUpdate_at ho rfl ?_)
  obtain ⟨e1, ho1⟩ : ∃ e1, (s.heap.update a (Obj.mapSeq fun _ => #[])).get? a = some (seqObj "list" #[] e1) := ⟨_, get?_update_seq ho (fun _ => #[])⟩
  refine wpAny_bind (seqEpoch_at ho1 rfl ?_)
  refine wpAny_bind (wpAny_newTuple ?_)
  refine wpAny_bind (wpAny_newList ?_)
  refine wpAny_holding ?_
  have ho6 : (((s.heap.update a (Obj.mapSeq fun _ => #[])).push (seqObj "tuple" [v].toArray 0)).push (seqObj "list" #[] 0)).get? a = some (seqObj "list" #[] e1) := by
    rw [Heap.get?_push_ne _ _ _ (by rw [size_push', Heap.size_update]; exact Nat.ne_of_lt (Nat.lt_succ_of_lt ha)), Heap.get?_push_ne _ _ _ (by rw [Heap.size_update]; exact Nat.ne_of_lt ha)]
    exact ho1
  show wpAny (model prog w) A _ P E { s with heap := ((s.heap.update a (Obj.mapSeq fun _ => #[])).push (seqObj "tuple" [v].toArray 0)).push (seqObj "list" #[] 0) }
  dsimp only
  have h2 : [v].toArray.size < 2 := by simp
  rw [if_pos h2, if_pos h2]
  refine wpAny_bind (wpAny_pure ?_)
  rw [StateT.run_pure]
  refine wpAny_bind (wpAny_pure ?_)
  dsimp only
  refine wpAny_bind (seqEpoch_at ho6 rfl ?_)
  refine wpAny_bind (listUpdate_at ho6 rfl ?_ (hsz2 := by rw [Array.size_map]; show (pairsOf [v]).size ≤ _; rw [pairsOf_size, sizeLine_eq]; simp))
  simp only [bne_self_eq_false, Bool.false_eq_true, if_false]
  have e : Array.map (fun x => x.snd) (arrOf (SortSt.mk' general' ([v].toArray.zip [v].toArray) #[] 7 none)) = [v].toArray := by
    show Array.map (fun x : Value × Value => x.snd) (pairsOf [v]) = [v].toArray
    apply Array.toList_inj.mp
    simp [pairsOf]
  rw [e]
  exact wpAny_pure h
theorem sorted1 {l : Addr} {v : Value} {Q : Value → Shared → Prop} (F : Fr h₀ L s.heap m) (N : News h₀ L s.heap news) (hl : s.heap.IsList l [v].toArray)
    (h : ∀ D c' h', Fr h₀ L h' m → News h₀ L h' ((D, W.listOf [v].toArray c') :: news) → (∀ q ∈ news, q.1 < D) → Q (.ref D) { s with heap := h' }) :
    wpAny (model prog w) A (call (.builtin "sorted") [.ref l]) Q E s := by
  refine Calls.call_function_entry kind_sorted plain_sorted entry_sorted (args_sorted1 _) ?_
  unfold Builtin.«sorted»
  refine wpAny_bind (m := checkCount "sorted" 1 1 _) (wpAny_pure ?_)
  refine wpAny_bind (collect_list hl ?_ (by rw [sizeLine_eq]; simp))
  refine wpAny_bind (wpAny_newList ?_ (by rw [sizeLine_eq]; simp))
  have hsz : ((s.heap.push (seqObj "list" #[] 0)).update s.heap.objs.size (Obj.mapSeq (· ++ [v].toArray))).objs.size = s.heap.objs.size + 1 := by
    rw [Heap.size_update, size_push']
  have hoL : (((s.heap.push (seqObj "list" #[] 0)).update s.heap.objs.size (Obj.mapSeq (· ++ [v].toArray))).push (seqObj "list" [v].toArray 0)).get? (s.heap.objs.size + 1) = some (seqObj "list" [v].toArray 0) := by
    rw [← hsz]; exact Heap.get?_push_size _ rfl
  have keep : ∀ b o, s.heap.get? b = some o → (((s.heap.push (seqObj "list" #[] 0)).update s.heap.objs.size (Obj.mapSeq (· ++ [v].toArray))).push (seqObj "list" [v].toArray 0)).get? b = some o := fun b o q => by
    have hlt : b < s.heap.objs.size := Heap.lt_size q
    rw [Heap.get?_push_ne _ _ _ (by rw [hsz]; exact Nat.ne_of_lt (Nat.lt_succ_of_lt hlt)), Heap.get?_update_ne _ _ _ _ (Nat.ne_of_lt hlt), Heap.get?_push_ne _ _ _ (Nat.ne_of_lt hlt)]
    exact q
  have hL : L < s.heap.objs.size := F.ns.lt
  show wpAny _ _ _ _ _ { s with heap := ((s.heap.push (seqObj "list" #[] 0)).update s.heap.objs.size (Obj.mapSeq (· ++ [v].toArray))).push (seqObj "list" [v].toArray 0) }
  rw [hsz]
  refine wpAny_bind (wpAny_holding (wpAny_call_entry slot_list_sort ⟨_, hoL, rfl⟩ entry_list_sort ?body (args_list_sort _)))
  case body =>
    refine sort1 (s := { s with heap := ((s.heap.push (seqObj "list" #[] 0)).update s.heap.objs.size (Obj.mapSeq (· ++ [v].toArray))).push (seqObj "list" [v].toArray 0) }) hoL ?_
    refine ⟨_, rfl, wpAny_pure ⟨_, rfl, ?_⟩⟩
    have F1 : Fr h₀ L (((s.heap.push (seqObj "list" #[] 0)).update s.heap.objs.size (Obj.mapSeq (· ++ [v].toArray))).push (seqObj "list" [v].toArray 0)) m := F.kept keep
    have N1 : News h₀ L (((s.heap.push (seqObj "list" #[] 0)).update s.heap.objs.size (Obj.mapSeq (· ++ [v].toArray))).push (seqObj "list" [v].toArray 0)) news := N.grown keep
    have haL : s.heap.objs.size + 1 ≠ L := Nat.ne_of_gt (Nat.lt_succ_of_lt hL)
    have ha0 : h₀.get? (s.heap.objs.size + 1) = none := Heap.get?_none_of_le (Nat.le_trans F.above (Nat.le_succ_of_le (Nat.le_of_lt hL)))
    have hna : ∀ p ∈ news, p.1 ≠ s.heap.objs.size + 1 := fun p hp => Nat.ne_of_lt (Nat.lt_succ_of_lt (Heap.lt_size (N p hp).1))
    have hlt : ∀ q ∈ news, q.1 < s.heap.objs.size + 1 := fun q hq => Nat.lt_succ_of_lt (Heap.lt_size (N q hq).1)
    unfold sortedHeap
    generalize (((s.heap.push (seqObj "list" #[] 0)).update s.heap.objs.size (Obj.mapSeq (· ++ [v].toArray))).push (seqObj "list" [v].toArray 0)) = h1 at *
    have ha : s.heap.objs.size + 1 < h1.objs.size := Heap.lt_size hoL
    generalize s.heap.objs.size + 1 = a at *
    have s1 := Heap.SameBut.update h1 a (Obj.mapSeq fun _ => (#[] : Array Value))
    obtain ⟨e1, ho1⟩ : ∃ e1, (h1.update a (Obj.mapSeq fun _ => (#[] : Array Value))).get? a = some (seqObj "list" #[] e1) := ⟨_, get?_update_seq hoL fun _ => #[]⟩
    have F3 : Fr h₀ L (((h1.update a (Obj.mapSeq fun _ => (#[] : Array Value))).push (seqObj "tuple" [v].toArray 0)).push (seqObj "list" #[] 0)) m := ((kas_fr F1 s1 haL ha0).push _).push _
    have N3 : News h₀ L (((h1.update a (Obj.mapSeq fun _ => (#[] : Array Value))).push (seqObj "tuple" [v].toArray 0)).push (seqObj "list" #[] 0)) news :=
      (kas_news N1 s1 hna).grown fun b x e => Heap.get?_push_of_some _ (Heap.get?_push_of_some _ e)
    have ho6 : (((h1.update a (Obj.mapSeq fun _ => (#[] : Array Value))).push (seqObj "tuple" [v].toArray 0)).push (seqObj "list" #[] 0)).get? a = some (seqObj "list" #[] e1) := Heap.get?_push_of_some _ (Heap.get?_push_of_some _ ho1)
    generalize (((h1.update a (Obj.mapSeq fun _ => (#[] : Array Value))).push (seqObj "tuple" [v].toArray 0)).push (seqObj "list" #[] 0)) = h2 at *
    have s2 := Heap.SameBut.update h2 a (Obj.mapSeq fun _ => [v].toArray)
    obtain ⟨c2, hc2⟩ : ∃ c2, (h2.update a (Obj.mapSeq fun _ => [v].toArray)).get? a = some (seqObj "list" [v].toArray c2) := ⟨_, get?_update_seq ho6 fun _ => [v].toArray⟩
    refine h a c2 _ (kas_fr F3 s2 haL ha0) ?_ hlt
    intro p hp
    rcases List.mem_cons.mp hp with rfl | hp
    · exact ⟨hc2, haL, ha0⟩
    · exact kas_news N3 s2 hna p hp
theorem sorted_rows {l : Addr} {vs : List Value} {c : Nat} {rows : List (List Int)} {rest : List (Addr × Obj)} {Q : Value → Shared → Prop} (hu : A.units + 16 < cLine) (F : Fr h₀ L s.heap m) (N : News h₀ L s.heap news) (hm : (l, W.listOf vs.toArray c) ∈ news)
    (hx : DatAll rest vs (rows.map dRow)) (hs : ∀ p ∈ rest, p ∈ news) (h1 : 1 ≤ rows.length) (h6 : rows.length ≤ 6)
    (h : ∀ D ws c' h', Fr h₀ L h' m → News h₀ L h' ((D, W.listOf (List.toArray ws) c') :: news) → DatAll rest ws ((sortF rows).map dRow) → (∀ q ∈ news, q.1 < D) → Q (.ref D) { s with heap := h' }) :
    wpAny (model prog w) A (call (.builtin "sorted") [.ref l]) Q E s := by
  have hl := hx.length
  rw [List.length_map] at hl
  have hL : s.heap.IsList l vs.toArray := ⟨_, (N _ hm).1, rfl, c, rfl⟩
  by_cases h2 : rows.length < 2
  · obtain ⟨v, rfl⟩ : ∃ v, vs = [v] := by
      match vs, hl with
      | [], hl => simp at hl; omega
      | [v], _ => exact ⟨v, rfl⟩
      | _ :: _ :: _, hl => simp at hl; omega
    refine sorted1 F N hL fun D c' h' F' N' hlt => h D [v] c' h' F' N' ?_ hlt
    have e : sortF rows = rows := by
      unfold sortF sortP
      rw [if_pos h2]
      match rows, h1, h2 with
      | [r], _, _ => rfl
    rw [e]; exact hx
  · obtain ⟨k1, k2⟩ := kas_ok (n := rows.length) (by omega) h6
    have hp : ∀ i ∈ sortP rows, i < rows.length := by
      unfold sortP
      rw [if_neg h2]
      have := kas_ret (lt := rowsLt rows) _ k2
      unfold below at this
      intro i hi
      simpa using List.all_eq_true.mp this i hi
    refine kas_sorted (T := .type "list") F N hL (by omega) (by omega) ?_ (by decide) fun D e1 h' F' N' hlt => ?_
    · intro h' F' N' v hv
      obtain ⟨a, us, c', rfl, hm'⟩ := row_mem hx hv
      intro A Q E s k q
      exact wpAny_typeOf (T := "list") ⟨_, k _ _ (N' _ (hs _ hm')).1, rfl⟩ q
    · rw [hl]
      refine kas_run (lt := rowsLt rows) (n := rows.length) ?_ _ k1 ?_
      · intro i j C hi hj hC
        obtain ⟨a, us, c1, ea, ma, ua⟩ := row_at hx hi
        obtain ⟨b, us', c2, eb, mb, ub⟩ := row_at hx hj
        unfold kas_ask
        rw [ea, eb]
        refine kas_lt_row ?_ N' (.tail _ (hs _ ma)) (.tail _ (hs _ mb)) ua ub hC
        show A.in1.in1.units < cLine
        have e : A.in1.in1.units ≤ A.units + 16 := by simp
        omega
      · refine KasFin.intro F' N' (UpdF.head (fun p hp => Nat.ne_of_lt (hlt p hp))) fun h'' c' F'' N'' => ?_
        refine h D _ c' h'' F'' N'' ?_ hlt
        have e : sortP rows = (kasRun (rowsLt rows) (kas_sort rows.length)).toList := by unfold sortP; rw [if_neg h2]
        rw [← e]
        exact rows_pick hx _ hp
end
end Mine
end

-- Keep
section
open PySem PySem.W PyProof.Rows PySem.Spec PySem.Calls
set_option Elab.async false
set_option linter.unusedVariables false
namespace Mine
section
variable {k : Nat} {w : World} {mean : ExcName → Option Value} {mg mb : Str → Option Value} {f : Addr} {vs : List Value} {led news : List (Addr × Obj)}
    {dp un : Nat} {gd : Option (List Code)} {cn : Str} {cs : Scope} {a : Addr} {ccd : Value} {cl : List (Str × Addr)} {outer : List Env} {A₀ : Around} {base h₀ s0 : Heap} {L : Addr} {m : Str → Option Value} {s : Shared} {Q E : Value → Shared → Prop}
/-- a call inside a comprehension's element, whose answer is a plain value -/
theorem claim_elt {P : Value → Prop}
    (C : Claim k w mean mg mb f vs led (fun v own => P v)) (B : Below A₀ base outer h₀) (F : Fr h₀ L s.heap m) (X : (Mine.hd.heap_39 w.params).In h₀) (N : News h₀ L s.heap news) (hs : ∀ p ∈ led, p ∈ news) (T : Top Mine.hd.view_39 (looseW Mine.hd.view_39 [Str.ofString "IPV4_RE", Str.ofString "_filemode_table"]) mean mg mb h₀) (hk : cs.kind = .function)
    (hd : dp + k < recursionLimit) (hu : un + 10 * k + 100 < cLine) (cE : InElt s0 s.heap)
    (ret : ∀ v h' tk', P v → Fr h₀ L h' m → News h₀ L h' news → InElt s0 h' → Q v { s with heap := h', toks := tk' }) :
    wpAny (model PySem.Challenge.rw_tv0035_01.row.prog w) (ktrTop dp un gd cn cs L a ccd cl outer) (call (.ref f) vs) Q E s :=
  C _ _ _ _ _ _ _ _ _ _ _ _ _ _ _ _ _ B F X (fun p hp => N p (hs p hp)) T hk hd hu fun v own h' tk' hk' hf hp => ret v h' tk' hp (F.keeps hk') (N.grown hk') fun b o e => hk' b o (cE b o e)
end
def AllNe (d : Nat) : List (Addr × Obj) → Prop
  | [] => True
  | p :: r => @Ne Nat p.1 d ∧ AllNe d r
theorem allNe_of {d : Addr} : ∀ {l : List (Addr × Obj)}, (∀ p ∈ l, p.1 ≠ d) → AllNe d l
  | [], _ => trivial
  | p :: _, h => ⟨h p (.head _), allNe_of fun q hq => h q (.tail _ hq)⟩
end Mine
end

-- Comp2
section
open PySem PySem.W PyProof.Rows PySem.Spec PySem.Calls
set_option Elab.async false
set_option linter.unusedVariables false
set_option maxRecDepth 100000
namespace Mine
section
variable {k : Nat} {w : World} {mean : ExcName → Option Value} {mg mb : Str → Option Value} {f : Addr} {vs : List Value} {led news : List (Addr × Obj)}
    {dp un : Nat} {gd : Option (List Code)} {cn : Str} {cs : Scope} {a : Addr} {ccd : Value} {cl : List (Str × Addr)} {outer : List Env} {A₀ : Around} {base h₀ s0 : Heap} {L : Addr} {m : Str → Option Value} {s : Shared} {Q E : Value → Shared → Prop}
/-- a call, told raw -/
theorem claim_raw {P : Value → List (Addr × Obj) → Prop}
    (C : Claim k w mean mg mb f vs led P) (B : Below A₀ base outer h₀) (F : Fr h₀ L s.heap m) (X : (Mine.hd.heap_39 w.params).In h₀) (N : News h₀ L s.heap news) (hs : ∀ p ∈ led, p ∈ news) (T : Top Mine.hd.view_39 (looseW Mine.hd.view_39 [Str.ofString "IPV4_RE", Str.ofString "_filemode_table"]) mean mg mb h₀) (hk : cs.kind = .function)
    (hd : dp + k < recursionLimit) (hu : un + 10 * k + 100 < cLine)
    (ret : ∀ v own h' tk', P v own → (∀ b o, s.heap.get? b = some o → h'.get? b = some o) → Fresh s.heap h' own → Q v { s with heap := h', toks := tk' }) :
    wpAny (model PySem.Challenge.rw_tv0035_01.row.prog w) (ktrTop dp un gd cn cs L a ccd cl outer) (call (.ref f) vs) Q E s :=
  C _ _ _ _ _ _ _ _ _ _ _ _ _ _ _ _ _ B F X (fun p hp => N p (hs p hp)) T hk hd hu fun v own h' tk' hk' hf hp => ret v own h' tk' hp hk' hf
end
section
variable {prog : Program} {w : World} {A : Around} {E : Value → Shared → Prop} {s : Shared} {h₀ : Heap} {L : Addr} {m : Str → Option Value} {env : Env}
/-- what an element gives: a value, with new objects of its own -/
def Gives1 (s₂ : Shared) (d : Dat) (y : Value) (s₃ : Shared) : Prop :=
  ∃ own h' tk', s₃ = { s₂ with heap := h', toks := tk' } ∧ (∀ b o, s₂.heap.get? b = some o → h'.get? b = some o) ∧ Fresh s₂.heap h' own ∧ DatIn own y d
theorem comp_rest {elt : PySem.Expr} {x : Str} {scope : Scope} {cl : List (Str × Addr)} {ax : Addr} {its : Array Value} {news : List (Addr × Obj)} {ds : List Dat} {Fin : List Value → List (Addr × Obj) → Prop} {s₁ : Heap}
    (hlen : its.size = ds.length)
    (helt : ∀ (i : Nat) v d C m₂ h tk E', its[i]? = some v → ds[i]? = some d → h.Ns (compEnvC scope cl C env).locals m₂ → m₂ x = some v → Fr h₀ L h m → News h₀ L h news →
      wpAny (model prog w) A (eval elt (compEnvC scope cl C env)) (Gives1 { s with heap := h, toks := tk } d) E' { s with heap := h, toks := tk })
    (hfin : ∀ ys own, (∀ p ∈ own, ∀ q ∈ news, p.1 ≠ q.1) → DatAll own ys ds → Fin ys (own ++ news)) (hS : LCg.SrcAt h₀ ax its news) :
    ∀ (k i : Nat) (ys : List Value) (ow : List (Addr × Obj)), i + k = its.size → (∀ p ∈ ow, ∀ q ∈ news, p.1 ≠ q.1) → DatAll ow ys (ds.take i) →
      LCg.CompRest prog w A h₀ L m env elt x scope cl s (LCg.SrcAt h₀ ax its) (fun i v => its[i]? = some v) Fin k i ys (ow ++ news) := by
  intro k
  induction k with
  | zero =>
    intro i ys ow hik hap hD
    refine LCg.CompRest.zero (hfin ys ow hap ?_)
    rw [List.take_of_length_le (by omega)] at hD
    exact hD
  | succ k ih =>
    intro i ys ow hik hap hD
    have hsub : ∀ p ∈ news, p ∈ ow ++ news := fun p hp => List.mem_append_right _ hp
    generalize hnw : ow ++ news = news' at hsub
    refine LCg.CompRest.succ fun v I oI C oC D m₂ h tk E' hv hC hx F N off ne => ?_
    have hid : i < ds.length := by omega
    have hdi : ds[i]? = some ds[i] := List.getElem?_eq_getElem hid
    have hns : h.Ns C m₂ := hC.ns (N (C, oC) (.tail _ (.head _))).1
    refine wpAny_mono (helt i v ds[i] C m₂ h tk E' hv hdi hns hx F fun p hp => N p (.tail _ (.tail _ (.tail _ (hsub p hp))))) ?_ fun _ _ e => e
    rintro y s₃ ⟨own, h', tk', rfl, hk, hf, hDy⟩
    have N' : News h₀ L h' (own ++ ((I, oI) :: (C, oC) :: (D, LCg.lst ys) :: news')) := by
      intro p hp
      rcases List.mem_append.mp hp with hp | hp
      · refine ⟨(hf p hp).2, fun e => ?_, ?_⟩
        · obtain ⟨oL, _, _, hL, _⟩ := F.ns
          have h1 := (hf p hp).1
          rw [e, hL] at h1; cases h1
        · cases e : h₀.get? p.1 with
          | none => rfl
          | some o =>
            have h1 := (hf p hp).1
            rw [F.keep _ _ e] at h1; cases h1
      · exact ⟨hk _ _ (N p hp).1, (N p hp).2⟩
    have hne : ∀ p ∈ own, ∀ q ∈ (I, oI) :: (C, oC) :: (D, LCg.lst ys) :: news', p.1 ≠ q.1 := by
      intro p hp q hq e
      have h1 := (hf p hp).1
      rw [e, (N q hq).1] at h1; cases h1
    refine LCg.CompEnd.intro (F.keeps hk) N' (own ++ news') ?_ (LCg.Off3.of ?_) ?_ ?_
    · intro p hp
      rcases List.mem_cons.mp hp with rfl | hp
      · exact List.mem_append_right _ (.head _)
      rcases List.mem_cons.mp hp with rfl | hp
      · exact List.mem_append_right _ (.tail _ (.head _))
      rcases List.mem_cons.mp hp with rfl | hp
      · exact List.mem_append_right _ (.tail _ (.tail _ (.head _)))
      rcases List.mem_append.mp hp with hp | hp
      · exact List.mem_append_left _ hp
      · exact List.mem_append_right _ (.tail _ (.tail _ (.tail _ hp)))
    · intro p hp
      rcases List.mem_append.mp hp with hp | hp
      · exact ⟨hne p hp _ (.head _), hne p hp _ (.tail _ (.head _)), hne p hp _ (.tail _ (.tail _ (.head _)))⟩
      · exact off.mem p hp
    · rcases hS with hS | ⟨o, hm, r⟩
      · exact .inl hS
      · exact .inr ⟨o, List.mem_append_right _ (hsub _ hm), r⟩
    · subst hnw
      rw [← List.append_assoc]
      refine ih (i + 1) (ys ++ [y]) (own ++ ow) (by omega) (fun p hp q hq => ?_) ?_
      · rcases List.mem_append.mp hp with hp | hp
        · exact hne p hp q (.tail _ (.tail _ (.tail _ (List.mem_append_right _ hq))))
        · exact hap p hp q hq
      rw [List.take_add_one, hdi]
      exact (hD.mono fun p hp => List.mem_append_right _ hp).append (DatAll.one (hDy.mono fun p hp => List.mem_append_left _ hp))
/-- a comprehension whose elements are new objects -/
theorem comp_new {elt iter : PySem.Expr} {x : Str} {px : Pos} {scope : Scope} {cl : List (Str × Addr)} {pos : Pos} {Q : Value → Shared → Prop} {ax : Addr} {vs : List Value} {c : Nat} {news : List (Addr × Obj)} (ds : List Dat) (F₀ : Fr h₀ L s.heap m) (N₀ : News h₀ L s.heap news) (hm : (ax, W.listOf vs.toArray c) ∈ news) (hh : A.handled = none)
    (hclos : closureFor scope env = pure cl) (hcell : ∀ y ∈ scope.names, y.2 ≠ .cell) (hkind : scope.kind = .function)
    (hnames : ∀ y ∈ scope.names, y.2 = .local → scope.names.lookup y.1 = some .local) (hx : scope.names.lookup x = some .local)
    (hlen : vs.length = ds.length) (hsz : vs.length ≤ sizeLine)
    (hit : ∀ Q' : Value → Shared → Prop, Q' (.ref ax) s → wpAny (model prog w) A (eval iter env) Q' E s)
    (helt : ∀ (i : Nat) v d C m₂ h tk E', vs[i]? = some v → ds[i]? = some d → h.Ns (compEnvC scope cl C env).locals m₂ → m₂ x = some v → Fr h₀ L h m → News h₀ L h news →
      wpAny (model prog w) A (eval elt (compEnvC scope cl C env)) (Gives1 { s with heap := h, toks := tk } d) E' { s with heap := h, toks := tk })
    (hfin : ∀ D (ys : List Value) n h' tk own, (∀ p ∈ own, ∀ q ∈ news, p.1 ≠ q.1) → Fr h₀ L h' m → News h₀ L h' ((D, W.listOf ys.toArray n) :: (own ++ news)) → (∀ p ∈ own ++ news, p.1 ≠ D) → DatAll own ys ds → Q (.ref D) { s with heap := h', toks := tk })
    (hs : ∀ x, foldedSetIterable iter env x = pure x := by intro _; rfl) :
    wpAny (model prog w) A (eval (.ListComp elt [⟨.Name x px, iter, [], 0⟩] scope pos) env) Q E s := by
  refine LCg.ListComp_U F₀ hclos hcell hkind hnames hx (hit _ ?_) hs
  refine LCg.CompSrc.ledger (its := vs.toArray) (k := c) hh F₀ N₀ hm (by simpa using hsz) fun g => ?_
  refine comp_rest (ds := ds) (news := news) (s₁ := g) (s := { s with heap := g }) (by simpa using hlen) ?_ ?_ (.inr ⟨_, hm, rfl, _, rfl⟩) _ 0 [] [] (by simp) (fun _ h => nomatch h) .nil
  · intro i v d C m₂ h tk E' hv hd hns hmx F N
    exact helt i v d C m₂ h tk E' (by simpa using hv) hd hns hmx F N
  · intro ys own hap hD
    intro D h tk F N o1
    have off : ∀ {l : List (Addr × Obj)}, LCg.Off1 D l → ∀ p ∈ l, p.1 ≠ D := by
      intro l
      induction l with
      | nil => intro _ p hp; cases hp
      | cons q l ih =>
        intro h p hp
        rcases List.mem_cons.mp hp with rfl | hp
        · exact h.1
        · exact ih h.2 p hp
    exact hfin D ys ys.length h tk own hap F N (off o1) hD
end
end Mine
end

section
open PySem PySem.W PyProof.Rows PySem.Spec PySem.Calls Mine
local macro_rules | `(tactic| walk_at "MINE ok") => `(tactic| first | assumption | exact okS.low (by assumption))
local macro_rules | `(tactic| walk_at "getMethod ref") => `(tactic| (k_here; (with_reducible show wpAny _ _ (getMethod (Value.ref 36) _ _) _ _ _); refine re_method (by k_asm) (by k_asm) ?_))
local macro_rules | `(tactic| walk_at "call builtin:re.Pattern.search") => `(tactic| (k_here; refine re_call (by k_asm) (by k_asm) (okS.noDig (by walk_at "MINE ok")) (okS.len (by walk_at "MINE ok")) ?_))
local macro_rules | `(tactic| walk_at "call builtin:str.lower") => `(tactic| (k_here; refine SC.lower (okS.lowFit (by walk_at "MINE ok")) ?_))
local macro_rules | `(tactic| walk_at "MINE use") => `(tactic| (
  (case B => first | k_asm | fail "use: below"); (case F => first | k_asm | fail "use: frame"); (case X => first | k_asm | fail "use: part"); (case N => first | k_asm | fail "use: ledger"); (case T => first | k_asm | fail "use: top"); (case hk => first | exact rfl | assumption | fail "use: kind"); (case hd => first | ktr_room | fail "use: room"); (case hu => first | ktr_units | fail "use: units")))
local macro_rules | `(tactic| walk_at "MINE ok") => `(tactic| first | assumption | exact okS.low (by assumption) | exact okS.slice (okS.low (by assumption)) _ _)
local macro_rules | `(tactic| walk_at "subscriptTail Name Slice str ref") => `(tactic| ((with_reducible show wpAny _ _ (subscriptTail _ (Expr.Slice (some _) none none _) _ _) _ _ _); (with_reducible rename Fr _ _ _ _ => F'); (with_reducible rename News _ _ _ _ => N'); (refine slice_strN_sn (hsz := ?hsz) (s := ⟨_, _, _, _, _⟩) F' N' ?_); (case hsz => exact okS.line (by walk_at "MINE ok")); intro _ _ _ _ _))

-- F1
section
theorem Mine.reset_F1 : True := by
  w_top off
  k_with_none
  exact trivial
open PySem PySem.W PyProof.Rows PySem.Spec PySem.Calls
set_option Elab.async false
set_option linter.unusedVariables false
set_option pp.deepTerms false
set_option pp.deepTerms.threshold 6
namespace Mine
def isHDNF (x : Str) : Bool := !(x == Str.ofString "") && !(Txt.item x 0 == Str.ofString ".") && !(Txt.item x (-1) == Str.ofString ".")

set_option maxRecDepth 100000 in
set_option maxHeartbeats 8000000 in
theorem c_isHDN (w : World) (mean : ExcName → Option Value) (mg mb : Str → Option Value) (x : Str) (t : Tok) (hx : okS x) :
    Claim 2 w mean mg mb 43 [.str x t] [] (fun v _ => v = .bool (isHDNF x)) := by
  unfold Claim
  k_fill
  intro dp un gd cn cs a ccd cl outer A₀ base h₀ L m s Q E hB hF hX hN hT hk hd hu hret
  refine wpAny_call ?_
  k_dflt (refine' enterP ?k1 ?k2 ?k3 ?k4 ?k5 ?kA ?kF ?kK ?k6 ?k7 ?k8 ?k9 ?kB ?_ ?c2 ?c3 ?c4 ?c5; (case kA => exact rfl); (case kF => exact rfl); (case kK => assumption); (case k1 => k_asm); (case k2 => k_asm); (case k3 => k_asm); (case k4 => k_asm); (case k5 => k_asm); (case k6 => k_is); (case k7 => k_is); (case k8 => ktr_room); (case k9 => exact BindsTo.of_eq rfl); (case c5 => decide); (case kB => exact locs rfl); (case c2 => exact rfl); (case c3 => exact rfl); (case c4 => exact rfl); k_whole; intro g9 L9 h9 hH FG9 F9 N9 B9 X9 T9; (try dsimp only); (try k_lift B9); (try k_fold))
  k_steps
  all_goals (refine claim_retV hret hH (by k_asm) ?e1; (case e1 => simp only [isHDNF]; simp_all))

set_option maxRecDepth 100000 in
set_option maxHeartbeats 8000000 in
theorem c_libHDN (w : World) (mean : ExcName → Option Value) (mg mb : Str → Option Value) (x : Str) (t : Tok) (hx : okS x) :
    Claim 2 w mean mg mb 57 [.str x t] [] (fun v _ => v = .bool true) := by
  unfold Claim
  k_fill
  intro dp un gd cn cs a ccd cl outer A₀ base h₀ L m s Q E hB hF hX hN hT hk hd hu hret
  refine wpAny_call ?_
  k_dflt (refine' enterP ?k1 ?k2 ?k3 ?k4 ?k5 ?kA ?kF ?kK ?k6 ?k7 ?k8 ?k9 ?kB ?_ ?c2 ?c3 ?c4 ?c5; (case kA => exact rfl); (case kF => exact rfl); (case kK => assumption); (case k1 => k_asm); (case k2 => k_asm); (case k3 => k_asm); (case k4 => k_asm); (case k5 => k_asm); (case k6 => k_is); (case k7 => k_is); (case k8 => ktr_room); (case k9 => exact BindsTo.of_eq rfl); (case c5 => decide); (case kB => exact locs rfl); (case c2 => exact rfl); (case c3 => exact rfl); (case c4 => exact rfl); k_whole; intro g9 L9 h9 hH FG9 F9 N9 B9 X9 T9; (try dsimp only); (try k_lift B9); (try k_fold))
  k_steps
  all_goals (refine claim_retV hret hH (by k_asm) ?e1; (case e1 => rfl))
end Mine
end

section
open PySem PySem.W PyProof.Rows PySem.Spec PySem.Calls Mine
local macro_rules | `(tactic| walk_at "call ref") => `(tactic| (k_here; (with_reducible show wpAny _ _ (call (Value.ref 43) _) _ _ _); k_dflt (refine' claim_useV (c_isHDN _ _ _ _ _ _ ?hx) ?B ?F ?X ?N ?T ?hk ?hd ?hu ?_; (case hx => walk_at "MINE ok"); walk_at "MINE use"; intro v9 h9 tk9 e9 F9 N9; subst e9; (try dsimp only); (try k_fold))))
local macro_rules | `(tactic| walk_at "call ref") => `(tactic| (k_here; (with_reducible show wpAny _ _ (call (Value.ref 57) _) _ _ _); k_dflt (refine' claim_useV (c_libHDN _ _ _ _ _ _ ?hx) ?B ?F ?X ?N ?T ?hk ?hd ?hu ?_; (case hx => walk_at "MINE ok"); walk_at "MINE use"; intro v9 h9 tk9 e9 F9 N9; subst e9; (try dsimp only); (try k_fold))))

-- F2
section
theorem Mine.reset_F2 : True := by
  w_top off
  k_with_none
  exact trivial
open PySem PySem.W PyProof.Rows PySem.Spec PySem.Calls
set_option Elab.async false
set_option linter.unusedVariables false
set_option pp.deepTerms false
set_option pp.deepTerms.threshold 6
namespace Mine
def dot : Str := Str.ofString "."
def userM (x y : Str) : Bool :=
  if Txt.startswith (Txt.lower y) (Str.ofString ".") then Txt.endswith (Txt.lower x) (Txt.lower y) else Txt.lower x == Txt.lower y
def domM (x y : Str) : Bool :=
  (Txt.lower x == Txt.lower y) || (isHDNF (Txt.lower x) && decide (Txt.rfind (Txt.lower x) (Txt.lower y) ≠ -1) && decide (Txt.rfind (Txt.lower x) (Txt.lower y) ≠ 0) && Txt.startswith (Txt.lower y) (Str.ofString ".") && isHDNF (Txt.slice (Txt.lower y) (some 1) none))
set_option maxRecDepth 100000 in
set_option maxHeartbeats 8000000 in
theorem c_user (w : World) (mean : ExcName → Option Value) (mg mb : Str → Option Value) (x y : Str) (t u : Tok) (hx : okS x) (hy : okS y) :
    Claim 4 w mean mg mb 64 [.str x t, .str y u] [] (fun v _ => v = .bool (userM x y)) := by
  unfold Claim
  k_fill
  intro dp un gd cn cs a ccd cl outer A₀ base h₀ L m s Q E hB hF hX hN hT hk hd hu hret
  refine wpAny_call ?_
  k_dflt (refine' enterP ?k1 ?k2 ?k3 ?k4 ?k5 ?kA ?kF ?kK ?k6 ?k7 ?k8 ?k9 ?kB ?_ ?c2 ?c3 ?c4 ?c5; (case kA => exact rfl); (case kF => exact rfl); (case kK => assumption); (case k1 => k_asm); (case k2 => k_asm); (case k3 => k_asm); (case k4 => k_asm); (case k5 => k_asm); (case k6 => k_is); (case k7 => k_is); (case k8 => ktr_room); (case k9 => exact BindsTo.of_eq rfl); (case c5 => decide); (case kB => exact locs rfl); (case c2 => exact rfl); (case c3 => exact rfl); (case c4 => exact rfl); k_whole; intro g9 L9 h9 hH FG9 F9 N9 B9 X9 T9; (try dsimp only); (try k_lift B9); (try k_fold))
  k_steps
  all_goals (refine claim_retV hret hH (by k_asm) ?e1; (case e1 => simp_all [userM]))

set_option maxRecDepth 100000 in
set_option maxHeartbeats 8000000 in
theorem c_dom (w : World) (mean : ExcName → Option Value) (mg mb : Str → Option Value) (x y : Str) (t u : Tok) (hx : okS x) (hy : okS y) :
    Claim 4 w mean mg mb 50 [.str x t, .str y u] [] (fun v _ => v = .bool (domM x y)) := by
  unfold Claim
  k_fill
  intro dp un gd cn cs a ccd cl outer A₀ base h₀ L m s Q E hB hF hX hN hT hk hd hu hret
  refine wpAny_call ?_
  k_dflt (refine' enterP ?k1 ?k2 ?k3 ?k4 ?k5 ?kA ?kF ?kK ?k6 ?k7 ?k8 ?k9 ?kB ?_ ?c2 ?c3 ?c4 ?c5; (case kA => exact rfl); (case kF => exact rfl); (case kK => assumption); (case k1 => k_asm); (case k2 => k_asm); (case k3 => k_asm); (case k4 => k_asm); (case k5 => k_asm); (case k6 => k_is); (case k7 => k_is); (case k8 => ktr_room); (case k9 => exact BindsTo.of_eq rfl); (case c5 => decide); (case kB => exact locs rfl); (case c2 => exact rfl); (case c3 => exact rfl); (case c4 => exact rfl); k_whole; intro g9 L9 h9 hH FG9 F9 N9 B9 X9 T9; (try dsimp only); (try k_lift B9); (try k_fold))
  k_steps
  all_goals (refine claim_retV hret hH (by k_asm) ?e1; (case e1 => simp_all [domM]))
end Mine
end

-- F3
section
theorem Mine.reset_F3 : True := by
  w_top off
  k_with_none
  exact trivial
open PySem PySem.W PyProof.Rows PySem.Spec PySem.Calls
set_option Elab.async false
set_option linter.unusedVariables false
set_option pp.deepTerms false
namespace Mine
local macro_rules | `(tactic| walk_at "MINE sub") => `(tactic| (intro p hp; repeat (first | exact hp | (refine List.mem_cons_of_mem _ ?_))))
local macro_rules | `(tactic| walk_at "eval IfExp") => `(tactic| (k_here; (with_reducible show wpAny _ _ (eval (PySem.Expr.IfExp _ _ _ _) _) _ _ _); k_dflt (refine' ifexp_join ?F ?N ?ht ?hx ?hy ?_; (case F => k_asm); (case N => k_asm); (case ht => ((try k_fold); k_steps; all_goals (exact JT.at (by assumption) (by assumption) (by walk_at "MINE sub")))); (case hx => (intro h8 k8 F8 N8; (try k_fold); k_steps; all_goals exact JV.at)); (case hy => (intro h8 k8 F8 N8; (try k_fold); k_steps; all_goals exact JV.at)); intro t9 h9 k9 F9 N9; (try k_sweep); (try dsimp only); (try k_fold))))

theorem nat_and_pow (x k : Nat) : x &&& 2 ^ k = x / 2 ^ k % 2 * 2 ^ k := by
  have e : x &&& 2 ^ k = (if x.testBit k then 2 ^ k else 0) := by
    apply Nat.eq_of_testBit_eq
    intro i
    rw [Nat.testBit_and, Nat.testBit_two_pow]
    by_cases hi : k = i
    · subst hi
      cases hb : x.testBit k <;> simp [Nat.testBit_two_pow]
    · cases hb : x.testBit k <;> simp [Nat.testBit_two_pow, hi]
  rw [e, Nat.testBit_eq_decide_div_mod_eq]
  rcases Nat.mod_two_eq_zero_or_one (x / 2 ^ k) with q | q <;> simp [q]
theorem and_pow {x : Int} (h : 0 ≤ x) (k : Nat) : Builtin.bitAnd x ((2 ^ k : Nat) : Int) = ((x.toNat / 2 ^ k % 2 * 2 ^ k : Nat) : Int) := by
  rw [bitAnd_pp h (Int.natCast_nonneg _)]
  congr 1
  rw [Int.toNat_natCast, nat_and_pow]
theorem xor_pow {x : Int} (h : 0 ≤ x) (k : Nat) : Builtin.bitXor x ((2 ^ k : Nat) : Int) = x + ((2 ^ k : Nat) : Int) - 2 * ((x.toNat / 2 ^ k % 2 * 2 ^ k : Nat) : Int) := by
  rw [bitXor_and, and_pow h]

theorem xor_turn {x : Int} (h : 0 ≤ x) (h1 : x < 65536) (i : Nat) : 0 ≤ Builtin.bitXor x ([256, 64, 2048, 4096, 16, 1].getD i 0) ∧ Builtin.bitXor x ([256, 64, 2048, 4096, 16, 1].getD i 0) < 65536 := by
  have key : ∀ k : Nat, k < 16 → 0 ≤ Builtin.bitXor x ((2 ^ k : Nat) : Int) ∧ Builtin.bitXor x ((2 ^ k : Nat) : Int) < 65536 := by
    intro k hk
    rw [xor_pow h]
    obtain ⟨n, rfl⟩ := Int.eq_ofNat_of_zero_le h
    have hn : n < 65536 := by omega
    simp only [Int.toNat_natCast]
    have hp : 2 ^ (k + 1) * 2 ^ (15 - k) = 65536 := by
      rw [← Nat.pow_add, show k + 1 + (15 - k) = 16 by omega]
    have hd : n / 2 ^ (k + 1) < 2 ^ (15 - k) := Nat.div_lt_of_lt_mul (by rw [hp]; exact hn)
    have e2 : 2 ^ (k + 1) = 2 * 2 ^ k := by rw [Nat.pow_succ]; omega
    have e3 : n / 2 ^ (k + 1) = n / 2 ^ k / 2 := by rw [e2, Nat.mul_comm, Nat.div_div_eq_div_mul]
    have e4 := Nat.div_add_mod n (2 ^ k)
    have e5 := Nat.div_add_mod (n / 2 ^ k) 2
    have hm : n % 2 ^ k < 2 ^ k := Nat.mod_lt _ (Nat.two_pow_pos k)
    have e6 : 2 ^ (15 - k) * (2 * 2 ^ k) = 65536 := by rw [← e2, Nat.mul_comm]; exact hp
    rw [e3] at hd
    generalize n / 2 ^ k = q at *
    generalize n % 2 ^ k = r at *
    generalize 2 ^ (15 - k) = t at *
    generalize 2 ^ k = p at *
    have h9 : (q / 2 + 1) * (2 * p) ≤ t * (2 * p) := Nat.mul_le_mul_right _ hd
    rw [e6, Nat.add_mul] at h9
    have h10 : p * q = q / 2 * (2 * p) + p * (q % 2) := by
      conv => lhs; rw [← e5]
      rw [Nat.mul_add, ← Nat.mul_assoc, Nat.mul_comm p 2, Nat.mul_comm (2 * p)]
    rcases Nat.mod_two_eq_zero_or_one q with e | e
    · rw [e] at h10 ⊢
      simp only [Nat.zero_mul, Nat.mul_zero, Nat.add_zero] at *
      omega
    · rw [e] at h10 ⊢
      simp only [Nat.one_mul, Nat.mul_one] at *
      omega
  match i with
  | 0 => exact key 8 (by decide)
  | 1 => exact key 6 (by decide)
  | 2 => exact key 11 (by decide)
  | 3 => exact key 12 (by decide)
  | 4 => exact key 4 (by decide)
  | 5 => exact key 0 (by decide)
  | i + 6 =>
    have e : ([256, 64, 2048, 4096, 16, 1] : List Int).getD (i + 6) 0 = 0 := by
      rw [List.getD_eq_getElem?_getD, List.getElem?_eq_none (by simp)]; rfl
    rw [e, bitXor_zero]; omega

set_option maxRecDepth 100000 in
set_option maxHeartbeats 8000000 in
theorem c_modes (w : World) (mean : ExcName → Option Value) (mg mb : Str → Option Value) (n : Int) (t : Tok) :
    Claim 4 w mean mg mb 118 [.int n t] [] (fun v own => ∃ (l : Addr) (a b c : Int) (ta tb tc : Tok), v = .ref l ∧ own = [(l, W.listOf #[.int a ta, .int b tb, .int c tc] 0)] ∧ (0 ≤ a ∧ a < 65536) ∧ (0 ≤ b ∧ b < 65536) ∧ (0 ≤ c ∧ c < 65536)) := by
  unfold Claim
  k_fill
  intro dp un gd cn cs a ccd cl outer A₀ base h₀ L m s Q E hB hF hX hN hT hk hd hu hret
  refine wpAny_call ?_
  k_dflt (refine' enterP ?k1 ?k2 ?k3 ?k4 ?k5 ?kA ?kF ?kK ?k6 ?k7 ?k8 ?k9 ?kB ?_ ?c2 ?c3 ?c4 ?c5; (case kA => exact rfl); (case kF => exact rfl); (case kK => assumption); (case k1 => k_asm); (case k2 => k_asm); (case k3 => k_asm); (case k4 => k_asm); (case k5 => k_asm); (case k6 => k_is); (case k7 => k_is); (case k8 => ktr_room); (case k9 => exact BindsTo.of_eq rfl); (case c5 => decide); (case kB => exact locs rfl); (case c2 => exact rfl); (case c3 => exact rfl); (case c4 => exact rfl); k_whole; intro g9 L9 h9 hH FG9 F9 N9 B9 X9 T9; (try dsimp only); (try k_lift B9); (try k_fold))
  k_steps
  all_goals (
    have hf : 0 ≤ (n * 40503 + 35309).fmod 65536 ∧ (n * 40503 + 35309).fmod 65536 < 65536 := ⟨Int.fmod_nonneg_of_pos _ (by decide), Int.fmod_lt_of_pos _ (by decide)⟩
    refine' claim_ret hret hN hH (by k_asm) (by assumption) (fun _ h => nomatch h) (own := [(_, ?o)]) ?ho (fun _ _ h => nomatch h) ?hp
    case ho => exact fun p hp => by rw [List.mem_singleton.mp hp]; exact List.Mem.head _
    case hp => exact ⟨_, _, _, _, _, _, _, rfl, rfl, hf, xor_turn hf.1 hf.2 _, xor_turn hf.1 hf.2 _⟩)

def runF (n above read : Int) : Int := if ((n.fdiv above).fmod 2 == 1) = true then 2 else (n.fdiv (Int.fdiv read 4)).fmod 2
def lookF (n : Int) : List Int :=
  [if ([1, 2, 4, 6, 8, 10, 12].any fun x => x == n.fdiv 4096) = true then n.fdiv 4096 else 0,
    (n.fdiv 256).fmod 2, (n.fdiv (Int.fdiv 256 2)).fmod 2, runF n 2048 256,
    (n.fdiv 32).fmod 2, (n.fdiv (Int.fdiv 32 2)).fmod 2, runF n 1024 32,
    (n.fdiv 4).fmod 2, (n.fdiv (Int.fdiv 4 2)).fmod 2, runF n 512 4]

set_option maxRecDepth 100000 in
set_option maxHeartbeats 8000000 in
theorem c_look (w : World) (mean : ExcName → Option Value) (mg mb : Str → Option Value) (n : Int) (t : Tok) (h0 : 0 ≤ n) (h1 : n < 65536) :
    Claim 4 w mean mg mb 125 [.int n t] [] (fun v own => ∃ (l : Addr) (vs : List Value) (c : Nat), v = .ref l ∧ own = [(l, W.listOf vs.toArray c)] ∧ DatAll [] vs ((lookF n).map Dat.int)) := by
  unfold Claim
  k_fill
  intro dp un gd cn cs a ccd cl outer A₀ base h₀ L m s Q E hB hF hX hN hT hk hd hu hret
  refine wpAny_call ?_
  k_dflt (refine' enterP ?k1 ?k2 ?k3 ?k4 ?k5 ?kA ?kF ?kK ?k6 ?k7 ?k8 ?k9 ?kB ?_ ?c2 ?c3 ?c4 ?c5; (case kA => exact rfl); (case kF => exact rfl); (case kK => assumption); (case k1 => k_asm); (case k2 => k_asm); (case k3 => k_asm); (case k4 => k_asm); (case k5 => k_asm); (case k6 => k_is); (case k7 => k_is); (case k8 => ktr_room); (case k9 => exact BindsTo.of_eq rfl); (case c5 => decide); (case kB => exact locs rfl); (case c2 => exact rfl); (case c3 => exact rfl); (case c4 => exact rfl); k_whole; intro g9 L9 h9 hH FG9 F9 N9 B9 X9 T9; (try dsimp only); (try k_lift B9); (try k_fold))
  k_steps
  all_goals (
    refine' claim_ret hret hN hH (by k_asm) (by assumption) (fun _ h => nomatch h) (own := [(_, W.listOf (List.toArray [_, _, _, _, _, _, _, _, _, _]) _)]) ?ho (fun _ _ h => nomatch h) ?hp
    case ho => exact fun p hp => by rw [List.mem_singleton.mp hp]; k_mem
    case hp =>
      refine ⟨_, _, _, rfl, rfl, ?_⟩
      unfold lookF runF
      simp only [List.map_cons, List.map_nil]
      repeat' (first | exact DatAll.nil | refine DatAll.cons (DatIn.int _ _) ?_))
end Mine
end

-- F4
section
theorem Mine.reset_F4 : True := by
  w_top off
  k_with_none
  exact trivial
open PySem PySem.W PyProof.Rows PySem.Spec PySem.Calls
set_option Elab.async false
set_option linter.unusedVariables false
set_option pp.deepTerms false
set_option pp.deepTerms.threshold 8
namespace Mine
set_option maxRecDepth 100000 in
set_option maxHeartbeats 8000000 in
theorem c_ifmt (w : World) (mean : ExcName → Option Value) (mg mb : Str → Option Value) (n : Int) (t : Tok) : Claim 2 w mean mg mb 71 [.int n t] [] (fun v own => ∃ t', v = .int (Builtin.bitAnd n 61440) t') := by
  unfold Claim
  k_fill
  intro dp un gd cn cs a ccd cl outer A₀ base h₀ L m s Q E hB hF hX hN hT hk hd hu hret
  refine wpAny_call ?_
  k_dflt (refine' enterP ?k1 ?k2 ?k3 ?k4 ?k5 ?kA ?kF ?kK ?k6 ?k7 ?k8 ?k9 ?kB ?_ ?c2 ?c3 ?c4 ?c5; (case kA => exact rfl); (case kF => exact rfl); (case kK => assumption); (case k1 => k_asm); (case k2 => k_asm); (case k3 => k_asm); (case k4 => k_asm); (case k5 => k_asm); (case k6 => k_is); (case k7 => k_is); (case k8 => ktr_room); (case k9 => exact BindsTo.of_eq rfl); (case c5 => decide); (case kB => exact locs rfl); (case c2 => exact rfl); (case c3 => exact rfl); (case c4 => exact rfl); k_whole; intro g9 L9 h9 hH FG9 F9 N9 B9 X9 T9; (try dsimp only); (try k_lift B9); (try k_fold))
  k_steps
  all_goals exact claim_retV hret hH (by k_asm) ⟨_, rfl⟩

theorem dat_strs {led : List (Addr × Obj)} : ∀ {vs : List Value} {xs : List Str}, DatAll led vs (xs.map Dat.str) → ∃ l : List (Str × Tok), vs = strValues l ∧ l.map (·.1) = xs
  | [], xs, h => by
    cases xs with
    | nil => exact ⟨[], rfl, rfl⟩
    | cons x xs => cases h
  | v :: vs, xs, h => by
    cases xs with
    | nil => cases h
    | cons x xs =>
      cases h with
      | cons h1 h2 =>
        obtain ⟨l, rfl, rfl⟩ := dat_strs h2
        cases h1 with
        | str _ t => exact ⟨(x, t) :: l, rfl, rfl⟩
theorem join_dat {prog : Program} {w : World} {A : Around} {E : Value → Shared → Prop} {s : Shared} {h₀ : Heap} {L : Addr} {led led' : List (Addr × Obj)} {lp : Addr} {vs : List Value} {c : Nat} {xs : List Str} {x : Str} {t : Tok} {Q : Value → Shared → Prop}
    (N : News h₀ L s.heap led) (hm : (lp, W.listOf vs.toArray c) ∈ led) (hD : DatAll led' vs (xs.map Dat.str)) (hw : (xs.map (·.length)).sum + xs.length ≤ 1048576) (hx : x.length ≤ 16)
    (h : ∀ t' k, Q (.str (Txt.join x xs) t') { s with toks := k }) : wpAny (model prog w) A (call (.builtin "str.join") [.str x t, .ref lp]) Q E s := by
  obtain ⟨l, rfl, hl⟩ := dat_strs hD
  exact SC.join ⟨_, (N _ hm).1, rfl, c, rfl⟩ hl (joinOk_of_weight hw hx) h

def fmTabs : List (List (Int × Str)) :=
  [[(40960, Str.ofString "l"), (49152, Str.ofString "s"), (32768, Str.ofString "-"), (24576, Str.ofString "b"), (16384, Str.ofString "d"), (8192, Str.ofString "c"), (4096, Str.ofString "p")],
   [(256, Str.ofString "r")], [(128, Str.ofString "w")], [(2112, Str.ofString "s"), (2048, Str.ofString "S"), (64, Str.ofString "x")],
   [(32, Str.ofString "r")], [(16, Str.ofString "w")], [(1032, Str.ofString "s"), (1024, Str.ofString "S"), (8, Str.ofString "x")],
   [(4, Str.ofString "r")], [(2, Str.ofString "w")], [(513, Str.ofString "t"), (512, Str.ofString "T"), (1, Str.ofString "x")]]
def fmRefs : List Value := [.ref 79, .ref 81, .ref 83, .ref 87, .ref 89, .ref 91, .ref 95, .ref 97, .ref 99, .ref 103]
def pick (p : Int → Bool) (dflt : Str) (tab : List (Int × Str)) : Str := match tab.find? (fun e => p e.1) with | some e => e.2 | none => dflt
def hits (n : Int) (i : Nat) (b : Int) : Bool := if i = 0 then Builtin.bitAnd n 61440 == b else Builtin.bitAnd n b == b
def charF (n : Int) (i : Nat) : Str := pick (hits n i) (if i = 0 then Str.ofString "?" else Str.ofString "-") (fmTabs.getD i [])
def charsF (n : Int) : List Str := (List.range 10).map (charF n)

def modeS (n : Int) : Str := Txt.join (Str.ofString "") (charsF n)
theorem pick_in {p : Int → Bool} {d : Str} {tab : List (Int × Str)} : pick p d tab = d ∨ ∃ e ∈ tab, pick p d tab = e.2 := by
  unfold pick
  split
  · rename_i e h
    exact .inr ⟨e, List.mem_of_find?_eq_some h, rfl⟩
  · exact .inl rfl
theorem tabs_len : ∀ tab ∈ fmTabs, ∀ e ∈ tab, e.2.length = 1 := by decide +kernel
theorem char_len (n : Int) (i : Nat) : (charF n i).length = 1 := by
  unfold charF
  rcases pick_in (p := hits n i) (d := if i = 0 then Str.ofString "?" else Str.ofString "-") (tab := fmTabs.getD i []) with h | ⟨e, he, h⟩
  · rw [h]; split <;> decide +kernel
  · rw [h]
    rw [List.getD_eq_getElem?_getD] at he
    cases hq : fmTabs[i]? with
    | none => rw [hq] at he; simp at he
    | some tab => rw [hq] at he; exact tabs_len tab (List.mem_of_getElem? hq) e he
theorem chars_weight (n : Int) : ((charsF n).map (·.length)).sum + (charsF n).length ≤ 1048576 := by
  have : ∀ l : List Nat, ((l.map (charF n)).map (·.length)).sum = l.length := by
    intro l
    induction l with
    | nil => rfl
    | cons a l ih => simp only [List.map_cons, List.sum_cons, ih, char_len, List.length_cons]; omega
  unfold charsF
  rw [this]
  simp

/-- an entry of a table, where it stands -/
def EntK (K : Frag) (u : Value) (e : Int × Str) : Prop := ∃ (b : Addr) (tb tc : Tok), u = .ref b ∧ K.lookup b = some { cls := .type "tuple", data := .seq #[.int e.1 tb, .str e.2 tc] 0 }
inductive EntsK (K : Frag) : List Value → List (Int × Str) → Prop
  | nil : EntsK K [] []
  | cons {u us e es} : EntK K u e → EntsK K us es → EntsK K (u :: us) (e :: es)
theorem EntsK.at {K : Frag} {us : List Value} {es : List (Int × Str)} (h : EntsK K us es) : us.length = es.length ∧ ∀ (j : Nat) (u : Value), us[j]? = some u → ∃ e : Int × Str, es[j]? = some e ∧ EntK K u e := by
  induction h with
  | nil => exact ⟨rfl, fun j u hu => by simp at hu⟩
  | cons h _ ih =>
    refine ⟨by simp [ih.1], fun j u hu => ?_⟩
    cases j with
    | zero => simp at hu; subst hu; exact ⟨_, rfl, h⟩
    | succ j => simpa using ih.2 j u (by simpa using hu)
def TabK (K : Frag) (x : Value) (tab : List (Int × Str)) : Prop := ∃ (a : Addr) (us : List Value), x = .ref a ∧ K.lookup a = some { cls := .type "tuple", data := .seq us.toArray 0 } ∧ EntsK K us tab

theorem tabs_at (P : Params) {i : Nat} {x : Value} (h : fmRefs[i]? = some x) : i < 10 ∧ TabK (Mine.hd.heap_39 P) x (fmTabs.getD i []) := by
  have one : ∀ (a : Addr) (us : List Value) (tab : List (Int × Str)), (Mine.hd.heap_39 P).lookup a = some { cls := .type "tuple", data := .seq us.toArray 0 } → EntsK (Mine.hd.heap_39 P) us tab → TabK (Mine.hd.heap_39 P) (.ref a) tab := fun a us tab h e => ⟨a, us, rfl, h, e⟩
  match i with
  | 0 => cases h; exact ⟨by decide, one 79 [.ref 72, .ref 73, .ref 74, .ref 75, .ref 76, .ref 77, .ref 78] _ (by kernel_rfl) (by refine .cons ⟨72, 365, 393, rfl, by kernel_rfl⟩ (.cons ⟨73, 367, 394, rfl, by kernel_rfl⟩ (.cons ⟨74, 361, 395, rfl, by kernel_rfl⟩ (.cons ⟨75, 359, 396, rfl, by kernel_rfl⟩ (.cons ⟨76, 355, 397, rfl, by kernel_rfl⟩ (.cons ⟨77, 357, 398, rfl, by kernel_rfl⟩ (.cons ⟨78, 363, 399, rfl, by kernel_rfl⟩ .nil))))))) ⟩
  | 1 => cases h; exact ⟨by decide, one 81 [.ref 80] _ (by kernel_rfl) (by exact .cons ⟨80, 375, 400, rfl, by kernel_rfl⟩ .nil)⟩
  | 2 => cases h; exact ⟨by decide, one 83 [.ref 82] _ (by kernel_rfl) (by exact .cons ⟨82, 377, 401, rfl, by kernel_rfl⟩ .nil)⟩
  | 3 => cases h; exact ⟨by decide, one 87 [.ref 84, .ref 85, .ref 86] _ (by kernel_rfl) (by exact .cons ⟨84, 402, 403, rfl, by kernel_rfl⟩ (.cons ⟨85, 369, 404, rfl, by kernel_rfl⟩ (.cons ⟨86, 379, 405, rfl, by kernel_rfl⟩ .nil)))⟩
  | 4 => cases h; exact ⟨by decide, one 89 [.ref 88] _ (by kernel_rfl) (by exact .cons ⟨88, 381, 406, rfl, by kernel_rfl⟩ .nil)⟩
  | 5 => cases h; exact ⟨by decide, one 91 [.ref 90] _ (by kernel_rfl) (by exact .cons ⟨90, 383, 407, rfl, by kernel_rfl⟩ .nil)⟩
  | 6 => cases h; exact ⟨by decide, one 95 [.ref 92, .ref 93, .ref 94] _ (by kernel_rfl) (by exact .cons ⟨92, 408, 409, rfl, by kernel_rfl⟩ (.cons ⟨93, 371, 410, rfl, by kernel_rfl⟩ (.cons ⟨94, 385, 411, rfl, by kernel_rfl⟩ .nil)))⟩
  | 7 => cases h; exact ⟨by decide, one 97 [.ref 96] _ (by kernel_rfl) (by exact .cons ⟨96, 387, 412, rfl, by kernel_rfl⟩ .nil)⟩
  | 8 => cases h; exact ⟨by decide, one 99 [.ref 98] _ (by kernel_rfl) (by exact .cons ⟨98, 389, 413, rfl, by kernel_rfl⟩ .nil)⟩
  | 9 => cases h; exact ⟨by decide, one 103 [.ref 100, .ref 101, .ref 102] _ (by kernel_rfl) (by exact .cons ⟨100, 414, 415, rfl, by kernel_rfl⟩ (.cons ⟨101, 373, 416, rfl, by kernel_rfl⟩ (.cons ⟨102, 391, 417, rfl, by kernel_rfl⟩ .nil)))⟩
  | j + 10 =>
    have h' : fmRefs[j + 10]? = none := List.getElem?_eq_none (by show 10 ≤ j + 10; omega)
    rw [h'] at h; cases h

theorem find_at {p : Int × Str → Bool} : ∀ (tab : List (Int × Str)) (j : Nat) (e : Int × Str), (∀ x ∈ tab.take j, p x = false) → tab[j]? = some e → p e = true → tab.find? p = some e
  | [], j, e, _, h, _ => by simp at h
  | x :: tab, 0, e, _, h, hp => by
    have hx : x = e := by simpa using h
    subst hx
    rw [List.find?_cons, hp]
  | x :: tab, j + 1, e, hn, h, hp => by
    have h1 : p x = false := hn x (by simp)
    rw [List.find?_cons, h1]
    exact find_at tab j e (fun y hy => hn y (by rw [List.take_succ_cons]; exact List.mem_cons_of_mem _ hy)) (by simpa using h) hp
theorem find_no {p : Int × Str → Bool} {tab : List (Int × Str)} (h : ∀ x ∈ tab, p x = false) : tab.find? p = none := by
  rw [List.find?_eq_none]
  intro x hx
  rw [h x hx]; exact Bool.false_ne_true
theorem char_hit {n : Int} {i j : Nat} {e : Int × Str} (hn : ∀ x ∈ (fmTabs.getD i []).take j, hits n i x.1 = false) (he : (fmTabs.getD i [])[j]? = some e) (hp : hits n i e.1 = true) : charF n i = e.2 := by
  unfold charF pick
  rw [find_at (p := fun e => hits n i e.1) _ j e hn he hp]
theorem char_no {n : Int} {i : Nat} (hn : ∀ x ∈ fmTabs.getD i [], hits n i x.1 = false) : charF n i = if i = 0 then Str.ofString "?" else Str.ofString "-" := by
  unfold charF pick
  rw [find_no (p := fun e => hits n i e.1) hn]
theorem chars_more {n : Int} {i : Nat} (hi : i < 10) : (charsF n).take (i + 1) = (charsF n).take i ++ [charF n i] := by
  rw [List.take_add_one]
  congr 1
  unfold charsF
  simp [hi]
/-- the loop's word: perm holds the first i letters -/
def fmJ (lp : Addr) (n : Int) (t : Tok) (i : Nat) (m₁ : Str → Option Value) (nx : List (Addr × Obj)) : Prop :=
  ∃ vs c, nx = [(lp, W.listOf vs.toArray c)] ∧ DatAll [] vs (((charsF n).take i).map Dat.str) ∧ m₁ (Str.ofString "mode") = some (.int n t) ∧ m₁ (Str.ofString "perm") = some (.ref lp)

theorem fmJ_more {lp : Addr} {n : Int} {t tc : Tok} {i c : Nat} {vs : List Value} {x : Str} {m' : Str → Option Value} (hi : i < 10) (hD : DatAll [] vs (((charsF n).take i).map Dat.str)) (hx : charF n i = x) (h1 : m' (Str.ofString "mode") = some (.int n t)) (h2 : m' (Str.ofString "perm") = some (.ref lp)) :
    fmJ lp n t (i + 1) m' [(lp, W.listOf (vs.toArray.push (.str x tc)) (c + 1))] := by
  refine ⟨vs ++ [.str x tc], c + 1, by simp, ?_, h1, h2⟩
  rw [chars_more hi, hx, List.map_append]
  exact hD.append (DatAll.one (DatIn.str _ _))
theorem no_more {n : Int} {i j : Nat} {e : Int × Str} (hn : ∀ x ∈ (fmTabs.getD i []).take j, hits n i x.1 = false) (he : (fmTabs.getD i [])[j]? = some e) (hp : hits n i e.1 = false) : ∀ x ∈ (fmTabs.getD i []).take (j + 1), hits n i x.1 = false := by
  intro x hx
  rw [List.take_add_one, he] at hx
  rcases List.mem_append.mp hx with hx | hx
  · exact hn x hx
  · have : x = e := by simpa using hx
    rw [this]; exact hp

local macro_rules | `(tactic| walk_at "exec For Tuple Call cons nil") => `(tactic| (k_here; (rename Fr _ _ _ _ => lF'); (with_unfolding_all refine' for_loop lF' ?_; k_whole)))
local macro_rules | `(tactic| walk_at "exec For Tuple Name cons cons") => `(tactic| (k_here; (rename Fr _ _ _ _ => lF'); (with_unfolding_all refine' for_loop lF' ?_; k_whole)))
local macro_rules | `(tactic| walk_at "TPost") => `(tactic| (dsimp only [TPost]))
local macro_rules | `(tactic| k_all) => `(tactic| assumption)
local macro_rules | `(tactic| walk_at "call ref") => `(tactic| (k_here; (with_reducible show wpAny _ _ (call (Value.ref 71) _) _ _ _); k_dflt (refine' claim_useV (c_ifmt _ _ _ _ _ _) ?B ?F ?X ?N ?T ?hk ?hd ?hu ?_; walk_at "MINE use"; intro v9 h9 tk9 e9 F9 N9; obtain ⟨t9, e9⟩ := e9; subst e9; (try dsimp only); (try k_fold))))
set_option maxRecDepth 100000 in
set_option maxHeartbeats 8000000 in
theorem c_filemode (w : World) (mean : ExcName → Option Value) (mg mb : Str → Option Value) (n : Int) (t : Tok) (h0 : 0 ≤ n) (h1 : n < 65536) :
    Claim 6 w mean mg mb 111 [.int n t] [] (fun v own => ∃ t', v = .str (modeS n) t') := by
  unfold Claim
  k_fill
  intro dp un gd cn cs a ccd cl outer A₀ base h₀ L m s Q E hB hF hX hN hT hk hd hu hret
  refine wpAny_call ?_
  k_dflt (refine' enterP ?k1 ?k2 ?k3 ?k4 ?k5 ?kA ?kF ?kK ?k6 ?k7 ?k8 ?k9 ?kB ?_ ?c2 ?c3 ?c4 ?c5; (case kA => exact rfl); (case kF => exact rfl); (case kK => assumption); (case k1 => k_asm); (case k2 => k_asm); (case k3 => k_asm); (case k4 => k_asm); (case k5 => k_asm); (case k6 => k_is); (case k7 => k_is); (case k8 => ktr_room); (case k9 => exact BindsTo.of_eq rfl); (case c5 => decide); (case kB => exact locs rfl); (case c2 => exact rfl); (case c3 => exact rfl); (case c4 => exact rfl); k_whole; intro g9 L9 h9 hH FG9 F9 N9 B9 X9 T9; (try dsimp only); (try k_lift B9); (try k_fold))
  k_steps
  rename_i tk0 lp hA l1 hB F1 N1
  refine loop_enumK (K := Mine.hd.heap_39 w.params) (lo := { cls := .type "tuple", data := .seq fmRefs.toArray 0 }) (vs := fmRefs) (nn := 0) (fmJ lp n t) rfl F1 N1 X9 (by kernel_rfl) rfl rfl ⟨[], 0, rfl, DatAll.nil, rfl, rfl⟩ ?turn ?done
  case turn =>
    rintro i v m₁ nx h₁ tk₁ its ⟨T, tT, x, rfl, hx, hT⟩ ⟨vs, c, rfl, hD, hm1, hm2⟩ ha hk F₁ N₁
    obtain ⟨hi, a, us, rfl, hka, hents⟩ := tabs_at w.params hx
    have hT' : IsTup h₁ T #[.int (i : Int) tT, .ref a] := hT
    have F₂ := fr_at (x := Str.ofString "perm") (v := .ref lp) (fr_at F₁ hm1) (by rw [if_neg (by decide)]; exact hm2)
    clear F₁ F1 N1 hT
    rw [List.cons_append, List.nil_append] at N₁
    have hseen : vs.length ≤ 9 := by
      have := hD.length
      simp [charsF] at this
      omega
    have hline : vs.length + 1 ≤ sizeLine := by rw [sizeLine_eq]; omega
    k_steps
    rename_i hC hE F3 N3
    refine loop_tupK (K := Mine.hd.heap_39 w.params) (lo := { cls := .type "tuple", data := .seq us.toArray 0 }) (vs := us) (nn := 0)
      (fun j m₂ nx₂ => nx₂ = (lp, W.listOf vs.toArray c) :: its ∧ (∀ e ∈ (fmTabs.getD i []).take j, hits n i e.1 = false) ∧ m₂ (Str.ofString "mode") = some (.int n t) ∧ m₂ (Str.ofString "perm") = some (.ref lp) ∧ m₂ (Str.ofString "index") = some (.int (i : Int) tT)) rfl F3 N3 X9 hka rfl rfl ⟨rfl, by simp, rfl, rfl, rfl⟩ ?turn2 ?done2
    case turn2 =>
      rintro j v m₂ nx₂ h₂ tk₂ its₂ hu ⟨rfl, hno, hm1, hm2, hm3⟩ ha₂ hk₂ F₄ N₄
      obtain ⟨e, he, b, tb, tc, rfl, hkb⟩ := hents.at.2 j v hu
      have F₅ := fr_at (x := Str.ofString "index") (v := .int (i : Int) tT) (fr_at (x := Str.ofString "perm") (v := .ref lp) (fr_at F₄ hm1) (by rw [if_neg (by decide)]; exact hm2)) (by rw [if_neg (by decide), if_neg (by decide)]; exact hm3)
      rw [List.cons_append] at N₄
      have hall : ∀ p ∈ its ++ its₂, p.1 ≠ lp := fun p hp => (List.mem_append.mp hp).elim (fun hp => ha p hp _ (List.Mem.head _)) fun hp => ha₂ p hp _ (List.Mem.head _)
      clear F₄ F3 N3
      refine unpackK F₅ N₄ X9 hkb rfl rfl rfl rfl rfl fun h₅ F₆ N₆ => ?_
      clear F₅ N₄
      have hitsI : ∀ p ∈ its, p ∈ (its ++ its₂) := fun p hp => List.mem_append_left _ hp
      have hits2 : ∀ p ∈ its₂, p ∈ (its ++ its₂) := fun p hp => List.mem_append_right _ hp
      have hsepI : ∀ p ∈ its, ∀ o : Obj, ∀ q ∈ [(lp, o)], p.1 ≠ q.1 := fun p hp o q hq => by rw [List.mem_singleton.mp hq]; exact hall p (hitsI p hp)
      k_steps
      · rename_i he1 hF5 FF NN
        exact TEnd.intro _ FF NN (fun p hp => List.Mem.tail _ (hitsI p hp)) (fun p hp => by rw [List.mem_singleton.mp hp]; exact List.Mem.head _) (fun p hp => hsepI p hp _) (fun _ hp => nomatch hp)
          (fmJ_more hi hD (char_hit hno he (by unfold hits; rw [if_pos (by omega)]; exact beq_iff_eq.mpr he1)) rfl rfl)
      · rename_i he1
        refine TEnd.intro ((lp, W.listOf vs.toArray c) :: its) (by assumption) (by assumption) (fun p hp => List.Mem.tail _ (hits2 p hp)) (fun p hp => ?_) ha₂ (fun _ hp => nomatch hp)
          ⟨rfl, no_more hno he (by unfold hits; rw [if_pos (by omega)]; exact beq_eq_false_iff_ne.mpr he1), rfl, rfl, rfl⟩
        rcases List.mem_cons.mp hp with rfl | hp
        · exact List.Mem.head _
        · exact List.Mem.tail _ (hitsI p hp)
      · rename_i hi0 _ he1 _ hF5 FF NN
        exact TEnd.intro _ FF NN (fun p hp => List.Mem.tail _ (hitsI p hp)) (fun p hp => by rw [List.mem_singleton.mp hp]; exact List.Mem.head _) (fun p hp => hsepI p hp _) (fun _ hp => nomatch hp)
          (fmJ_more hi hD (char_hit hno he (by unfold hits; rw [if_neg (by omega)]; exact beq_iff_eq.mpr he1)) rfl rfl)
      · rename_i hi0 _ he1
        refine TEnd.intro ((lp, W.listOf vs.toArray c) :: its) (by assumption) (by assumption) (fun p hp => List.Mem.tail _ (hits2 p hp)) (fun p hp => ?_) ha₂ (fun _ hp => nomatch hp)
          ⟨rfl, no_more hno he (by unfold hits; rw [if_neg (by omega)]; exact beq_eq_false_iff_ne.mpr he1), rfl, rfl, rfl⟩
        rcases List.mem_cons.mp hp with rfl | hp
        · exact List.Mem.head _
        · exact List.Mem.tail _ (hitsI p hp)
    case done2 =>
      rintro h₂ tk₂ m₂ nx₂ ⟨rfl, hno, hm1, hm2, hm3⟩ _ F₄ N₄
      have F₅ := fr_at (x := Str.ofString "index") (v := .int (i : Int) tT) (fr_at (x := Str.ofString "perm") (v := .ref lp) (fr_at F₄ hm1) (by rw [if_neg (by decide)]; exact hm2)) (by rw [if_neg (by decide), if_neg (by decide)]; exact hm3)
      have hall : ∀ p ∈ its, p.1 ≠ lp := fun p hp => ha p hp _ (List.Mem.head _)
      have hsepI : ∀ p ∈ its, ∀ o : Obj, ∀ q ∈ [(lp, o)], p.1 ≠ q.1 := fun p hp o q hq => by rw [List.mem_singleton.mp hq]; exact hall p hp
      rw [hents.at.1, List.take_length] at hno
      have hch := char_no hno
      clear F₄ F3 N3
      k_steps
      · rename_i hi0 _ hF5 FF NN
        exact TEnd.intro _ FF NN (fun p hp => List.Mem.tail _ hp) (fun p hp => by rw [List.mem_singleton.mp hp]; exact List.Mem.head _) (fun p hp => hsepI p hp _) (fun _ hp => nomatch hp)
          (fmJ_more hi hD (by rw [hch, if_pos (by omega)]) rfl rfl)
      · rename_i hi0 _ hF5 FF NN
        exact TEnd.intro _ FF NN (fun p hp => List.Mem.tail _ hp) (fun p hp => by rw [List.mem_singleton.mp hp]; exact List.Mem.head _) (fun p hp => hsepI p hp _) (fun _ hp => nomatch hp)
          (fmJ_more hi hD (by rw [hch, if_neg (by omega)]) rfl rfl)
  case done =>
    rintro h₂ tk₂ m₂ nx₂ ⟨vs, c, rfl, hD, hm1, hm2⟩ _ F₄ N₄
    have F₅ := fr_at (x := Str.ofString "perm") (v := .ref lp) (fr_at F₄ hm1) (by rw [if_neg (by decide)]; exact hm2)
    clear F₄ F1 N1
    k_steps
    rw [List.take_of_length_le (show (charsF n).length ≤ fmRefs.length by rw [show fmRefs.length = 10 from rfl]; simp [charsF])] at hD
    refine join_dat N₄ (List.Mem.head _) hD (chars_weight n) (by decide) fun t' k => ?_
    k_steps
    all_goals exact claim_retV hret hH (by k_asm) ⟨_, rfl⟩
end Mine
end

-- F5
section
theorem Mine.reset_F5 : True := by
  w_top off
  k_with_none
  exact trivial
open PySem PySem.W PyProof.Rows PySem.Spec PySem.Calls
set_option Elab.async false
set_option linter.unusedVariables false
set_option pp.deepTerms false
set_option pp.deepTerms.threshold 8
namespace Mine
section
variable {prog : Program} {w : World} {A : Around} {E : Value → Shared → Prop} {s : Shared}
/-- an item at an index in bounds -/
theorem item_at {value slice : PySem.Expr} {l : Addr} {vs : List Value} {k : Int} {u : Tok} {v : Value} {Q : Value → Shared → Prop} (hl : s.heap.IsList l vs.toArray) (h0 : 0 ≤ k) (hk : k < 2 ^ 63) (hv : vs[k.toNat]? = some v) (h : Q v s)
    (hs : subscripted slice false (.ref l) (.int k u) = operate [.ref l, .int k u] (getItem (.ref l) (.int k u)) := by with_unfolding_all rfl) :
    wpAny (model prog w) A (subscriptTail value slice (.ref l) (.int k u)) Q E s :=
  tail_any hl.typeIs slot_list_getitem.lookup (wpAny_getItem_list hl h0 hk (by simpa using hv) h) hs
theorem dat_get {led : List (Addr × Obj)} {vs : List Value} {ds : List Dat} (h : DatAll led vs ds) {k : Nat} {d : Dat} (hk : ds[k]? = some d) : ∃ v, vs[k]? = some v ∧ DatIn led v d := by
  obtain ⟨h1, h2⟩ := List.getElem?_eq_some_iff.mp hk
  subst h2
  exact h.get h1
theorem carried_strs : ∀ {ys : List Value} {xs : List Str}, CarriedAll ys (xs.map PyData.str) → DatAll [] ys (xs.map Dat.str) := by
  intro ys
  induction ys with
  | nil =>
    intro xs h
    cases xs with
    | nil => exact .nil
    | cons x xs => cases h
  | cons y ys ih =>
    intro xs h
    cases xs with
    | nil => cases h
    | cons x xs =>
      cases h with
      | cons u v =>
        cases u with
        | str _ t => exact .cons (.str _ t) (ih v)
theorem dat_areInts {led : List (Addr × Obj)} : ∀ {vs : List Value} {ns : List Int}, DatAll led vs (ns.map Dat.int) → AreOf ItemKind.int vs ns := by
  intro vs
  induction vs with
  | nil =>
    intro xs h
    cases xs with
    | nil => exact .nil
    | cons x xs => cases h
  | cons y ys ih =>
    intro xs h
    cases xs with
    | nil => cases h
    | cons x xs =>
      cases h with
      | cons u v =>
        cases u with
        | int _ t => exact .cons ⟨t, rfl⟩ (ih v)
end

def cellS (xs : List Str) (k : Int) : Str := Str.ofString "." ++ xs.getD k.toNat Str.empty
def domS (ns : List Int) (xs : List Str) : Str := Txt.join (Str.ofString "") (ns.map (cellS xs))
theorem cell_len {xs : List Str} (hs : ∀ x ∈ xs, x.length ≤ 10) (k : Int) : (cellS xs k).length ≤ 11 := by
  unfold cellS
  rw [Str.length_append]
  have h1 : (Str.ofString ".").length = 1 := by decide +kernel
  have h2 : (xs.getD k.toNat Str.empty).length ≤ 10 := by
    rw [List.getD_eq_getElem?_getD]
    cases h : xs[k.toNat]? with
    | none => simp [Str.empty, Str.length]
    | some x => simpa using hs x (List.mem_of_getElem? h)
  omega
theorem cells_weight {xs : List Str} (hs : ∀ x ∈ xs, x.length ≤ 10) (ns : List Int) : ((ns.map (cellS xs)).map (·.length)).sum + (ns.map (cellS xs)).length ≤ 12 * ns.length := by
  induction ns with
  | nil => simp
  | cons n ns ih =>
    have := cell_len hs n
    simp only [List.map_cons, List.sum_cons, List.length_cons] at *
    omega

local macro_rules | `(tactic| walk_at "subscriptTail") => `(tactic| (refine item_at (by assumption) (by assumption) (by assumption) (by assumption) ?_))
local macro_rules | `(tactic| walk_at "call builtin:str.join") => `(tactic| k_extra "MY join")
local macro_rules | `(tactic| walk_at "eval ListComp") => `(tactic| k_extra "MY comp")
set_option maxRecDepth 100000 in
set_option maxHeartbeats 8000000 in
theorem c_domain (w : World) (mean : ExcName → Option Value) (mg mb : Str → Option Value) (r nm : Addr) (vs ws : List Value) (c1 c2 : Nat) (ns : List Int) (xs : List Str) (led' : List (Addr × Obj)) (hi : DatAll led' vs (ns.map Dat.int)) (hx : DatAll led' ws (xs.map Dat.str)) (hn : ∀ k ∈ ns, 0 ≤ k ∧ k < xs.length) (hl : ns.length ≤ 20) (hs : ∀ x ∈ xs, x.length ≤ 10) (hxl : xs.length ≤ 20) :
    Claim 4 w mean mg mb 130 [.ref r, .ref nm] [(r, W.listOf vs.toArray c1), (nm, W.listOf ws.toArray c2)] (fun v own => ∃ t, v = .str (domS ns xs) t) := by
  unfold Claim
  k_fill
  intro dp un gd cn cs a ccd cl outer A₀ base h₀ L m s Q E hB hF hX hN hT hk hd hu hret
  refine wpAny_call ?_
  k_dflt (refine' enterC ?k1 ?k2 ?k3 ?k4 ?k5 ?kA ?kF ?kK ?k6 ?k7 ?k8 ?k9 ?kB ?kD ?_ ?c2 ?c3 ?c4; (case kA => exact rfl); (case kF => exact rfl); (case kK => assumption); (case k1 => k_asm); (case k2 => k_asm); (case k3 => k_asm); (case k4 => k_asm); (case k5 => k_asm); (case k6 => k_is); (case k7 => k_is); (case k8 => ktr_room); (case k9 => exact BindsTo.of_eq rfl); (case kB => exact rfl); (case kD => decide +kernel); (case c2 => exact rfl); (case c3 => exact rfl); (case c4 => exact rfl); k_whole; intro g9 L9 h9 tk9 cells9 hH FG9 F9 N9 Y9 B9 X9 T9 l9; (try k_lt l9); k_cells Y9; (try simp only [List.cons_append, List.nil_append] at N9); (try dsimp only); (try k_lift B9); (try k_fold))
  k_with_none
  k_with "MY comp" => ((with_reducible rename Fr _ _ _ _ => kF1); refine' comp_d (K := ItemKind.int) (pz := fun _ => true) (d := fun k => PyData.str (cellS xs k)) ?hh ?hclos ?hcell ?hkind ?hnames ?hx kF1 ?h ?hs; (case hh => with_unfolding_all rfl); (case hclos => with_unfolding_all rfl); (case hcell => decide); (case hkind => with_unfolding_all rfl); (case hnames => decide); (case hx => with_unfolding_all rfl); (case hs => intro _; with_unfolding_all rfl))
  k_steps
  have hns : ns.length ≤ sizeLine := by rw [sizeLine_eq]; omega
  refine ⟨_, r, vs, ns, rfl, ⟨_, (N9 (r, W.listOf vs.toArray c1) (by k_mem)).1, rfl, c1, rfl⟩, dat_areInts hi, hns, by assumption, N9, ?tests, ?elt, ?fin⟩
  case tests =>
    intro C a v s₂ m₂ E' _ _ _ _ _ _
    exact wpAny_pure ⟨rfl, keeps_refl _⟩
  case elt =>
    rintro C k v s₂ m₂ E' hC hk ⟨tk, rfl⟩ _ hns hmx hkeep
    have hLn : s₂.heap.IsList nm ws.toArray := ⟨_, hkeep _ _ (N9 (nm, W.listOf ws.toArray c2) (by k_mem)).1, rfl, c2, rfl⟩
    obtain ⟨hk0, hk1⟩ := hn k hk
    have hkk : k.toNat < xs.length := by omega
    obtain ⟨y, hy, hyD⟩ := dat_get hx (k := k.toNat) (d := Dat.str (xs.getD k.toNat Str.empty)) (by rw [List.getElem?_map, List.getElem?_eq_getElem hkk, List.getD_eq_getElem?_getD, List.getElem?_eq_getElem hkk]; rfl)
    have hk63 : k < 2 ^ 63 := by omega
    have hc := cell_len hs k
    have hfit : (Str.ofString ".").length + (xs.getD k.toNat Str.empty).length ≤ sizeLine := by
      unfold cellS at hc
      rw [Str.length_append] at hc
      rw [sizeLine_eq]; omega
    cases hyD with
    | str _ ty =>
      k_steps
      · exact Carried.str _ _
      · exact keeps_at fun _ _ e => e
  case fin =>
    intro D ys h' tk F' N' h0 hl' P' hC
    rw [List.filter_eq_self.mpr (fun _ _ => rfl)] at hC
    have hC' : CarriedAll ys ((ns.map (cellS xs)).map PyData.str) := by rw [List.map_map]; exact hC
    obtain ⟨n, N2, hne⟩ := newPlain_led F' N' h0 P'
    (try k_fold)
    k_with "MY join" => refine join_dat N2 (List.Mem.head _) (carried_strs hC') (Nat.le_trans (cells_weight hs ns) (by omega)) (by decide) fun t' k => ?_
    k_steps
    all_goals exact claim_ret hret hN hH (by assumption) N2 (fun p hp => List.Mem.tail _ (List.Mem.tail _ hp)) (own := []) (fun _ h => nomatch h) (fun _ h => nomatch h) ⟨_, rfl⟩
end Mine
end

-- Grow
section
open PySem PySem.W PyProof.Rows PySem.Spec PySem.Calls
set_option Elab.async false
set_option linter.unusedVariables false
set_option maxRecDepth 100000
namespace Mine
/-- rows made longer -/
def moreF (n : Nat) (row : List Int) : List (List Int) := (List.range n).map fun k : Nat => row ++ [(k : Int)]
def extF (ok : List Int → Bool) (n : Nat) (row : List Int) : List (List Int) := (moreF n row).filter ok
def denF (ok : List Int → Bool) (n : Nat) (level : List (List Int)) (row : List Int) : List (List Int) := (moreF n row).filter fun r => !ok r && decide (r.drop 1 ∈ level)
def longF (ok : List Int → Bool) (n : Nat) (level : List (List Int)) : List (List Int) := level.flatMap (extF ok n)
def noteF (ok : List Int → Bool) (n : Nat) (level : List (List Int)) : List (List Int) := level.flatMap (denF ok n level)
def askF (ok : List Int → Bool) (n : Nat) : Nat → List (List Int) → List (List (List Int)) × List (List Int)
  | 0, _ => ([], [])
  | f + 1, level => if level = [] then ([], []) else (level :: (askF ok n f (longF ok n level)).1, noteF ok n level ++ (askF ok n f (longF ok n level)).2)

theorem filter_step {p : List Int → Bool} {row : List Int} {k : Nat} (h : p (row ++ [(k : Int)]) = true) : (moreF (k + 1) row).filter p = (moreF k row).filter p ++ [row ++ [(k : Int)]] := by
  unfold moreF
  rw [List.range_succ, List.map_append, List.filter_append]
  congr 1
  show List.filter p [row ++ [(k : Int)]] = _
  rw [List.filter_cons, h]; rfl
theorem filter_skip {p : List Int → Bool} {row : List Int} {k : Nat} (h : p (row ++ [(k : Int)]) = false) : (moreF (k + 1) row).filter p = (moreF k row).filter p := by
  unfold moreF
  rw [List.range_succ, List.map_append, List.filter_append]
  have : List.filter p (List.map (fun k : Nat => row ++ [(k : Int)]) [k]) = [] := by
    show List.filter p [row ++ [(k : Int)]] = _
    rw [List.filter_cons, h]; rfl
  rw [this, List.append_nil]
theorem flat_step {f : List Int → List (List Int)} {level : List (List Int)} {i : Nat} {r : List Int} (h : level[i]? = some r) : (level.take (i + 1)).flatMap f = (level.take i).flatMap f ++ f r := by
  rw [List.take_add_one, h, List.flatMap_append]; simp
theorem more_len (n : Nat) (row : List Int) : (moreF n row).length = n := by simp [moreF]
theorem ext_len (ok : List Int → Bool) (n : Nat) (row : List Int) : (extF ok n row).length ≤ n := Nat.le_trans (List.length_filter_le _ _) (Nat.le_of_eq (more_len n row))
theorem den_len (ok : List Int → Bool) (n : Nat) (level) (row : List Int) : (denF ok n level row).length ≤ n := Nat.le_trans (List.length_filter_le _ _) (Nat.le_of_eq (more_len n row))
theorem flat_len {f : List Int → List (List Int)} {n : Nat} (h : ∀ r, (f r).length ≤ n) : ∀ level : List (List Int), (level.flatMap f).length ≤ level.length * n
  | [] => by simp
  | r :: level => by
    have := flat_len h level
    have := h r
    simp only [List.flatMap_cons, List.length_append, List.length_cons, Nat.succ_mul]
    omega
/-- a level's rows: of one size, their letters below n -/
def rowsOk (n d : Nat) (level : List (List Int)) : Prop := ∀ r ∈ level, r.length = d ∧ ∀ k ∈ r, 0 ≤ k ∧ k < (n : Int)
theorem rowsOk.long {ok : List Int → Bool} {n d : Nat} {level : List (List Int)} (h : rowsOk n d level) : rowsOk n (d + 1) (longF ok n level) := by
  intro r hr
  obtain ⟨q, hq, hr⟩ := List.mem_flatMap.mp hr
  obtain ⟨h1, _⟩ := List.mem_filter.mp hr
  obtain ⟨k, hk, rfl⟩ := List.mem_map.mp h1
  obtain ⟨h2, h3⟩ := h q hq
  have hk' := List.mem_range.mp hk
  refine ⟨by simp [h2], fun x hx => ?_⟩
  rcases List.mem_append.mp hx with hx | hx
  · exact h3 x hx
  · rw [List.mem_singleton.mp hx]; omega

theorem join_cps : ∀ l : List Str, (Txt.join (Str.ofString "") l).cps.toList = l.flatMap fun x => x.cps.toList
  | [] => rfl
  | [x] => by show x.cps.toList = _; simp
  | x :: y :: r => by
    have h := join_cps (y :: r)
    have e : Txt.join (Str.ofString "") (x :: y :: r) = x ++ Str.ofString "" ++ Txt.join (Str.ofString "") (y :: r) := by
      unfold Txt.join
      rw [StrLaws.glued_eq_join, StrLaws.glued_eq_join]; rfl
    rw [e, List.flatMap_cons, ← h]
    simp only [Str.cps_append, Array.toList_append]
    have : (Str.ofString "").cps.toList = [] := by decide +kernel
    rw [this]; simp
/-- the letters' signs that the listings may hold -/
def okN (xs : List Str) : Prop := ∀ x ∈ xs, x.length ≤ 10 ∧ ∀ c ∈ x.cps.toList, c < 128 ∧ Sre.isDigit c = false
theorem cell_ok {xs : List Str} (h : okN xs) (k : Int) : ∀ c ∈ (cellS xs k).cps.toList, c < 128 ∧ Sre.isDigit c = false := by
  intro c hc
  unfold cellS at hc
  rw [Str.cps_append, Array.toList_append] at hc
  rcases List.mem_append.mp hc with hc | hc
  · have : (Str.ofString ".").cps.toList = [46] := by decide +kernel
    rw [this] at hc
    rw [List.mem_singleton.mp hc]
    decide +kernel
  · rw [List.getD_eq_getElem?_getD] at hc
    cases hx : xs[k.toNat]? with
    | none => rw [hx] at hc; simp [Str.empty] at hc
    | some x => rw [hx] at hc; exact (h x (List.mem_of_getElem? hx)).2 c hc
theorem dom_cps (ns : List Int) (xs : List Str) : (domS ns xs).cps.toList = ns.flatMap fun k => (cellS xs k).cps.toList := by
  unfold domS
  rw [join_cps, List.flatMap_map]
theorem okS_dom {xs : List Str} (h : okN xs) {ns : List Int} (hl : ns.length ≤ 20) : okS (domS ns xs) := by
  constructor
  · intro c hc
    rw [dom_cps] at hc
    obtain ⟨k, _, hc⟩ := List.mem_flatMap.mp hc
    exact cell_ok h k c hc
  · have e : (domS ns xs).length = (ns.flatMap fun k => (cellS xs k).cps.toList).length := by rw [← dom_cps]; simp [Str.length]
    rw [e]
    have : ∀ ns : List Int, (ns.flatMap fun k => (cellS xs k).cps.toList).length ≤ ns.length * 11 := by
      intro ns
      induction ns with
      | nil => simp
      | cons k ns ih =>
        have := cell_len (fun x hx => (h x hx).1) k
        have e : (cellS xs k).cps.toList.length = (cellS xs k).length := by simp [Str.length]
        simp only [List.flatMap_cons, List.length_append, List.length_cons]
        omega
    have := this ns
    omega
def askok (host : Str) (xs : List Str) (r : List Int) : Bool := domM host (domS r xs)
end Mine
end

-- A1a
section
open PySem PySem.W PyProof.Rows PySem.Spec PySem.Calls
set_option Elab.async false
set_option linter.unusedVariables false
set_option pp.deepTerms false
set_option pp.deepTerms.threshold 8
namespace Mine
theorem kqd_row (r : List Int) : kqdOk 8 (dRow r) = true := by
  unfold dRow
  simp [kqdOk]
theorem kqd_rows (l : List (List Int)) : ∀ d ∈ l.map dRow, kqdOk 8 d = true := by
  intro d hd
  obtain ⟨r, _, rfl⟩ := List.mem_map.mp hd
  exact kqd_row r
section
variable {prog : Program} {w : World} {A : Around} {E : Value → Shared → Prop} {s : Shared} {h₀ : Heap} {L : Addr} {m : Str → Option Value} {news rest : List (Addr × Obj)} {Q : Value → Shared → Prop}
theorem level_ne {lA D : Addr} {rows : List Value} {c3 c4 : Nat} {level : List (List Int)} {b : Bool} (N : News h₀ L s.heap news) (ml : (lA, W.listOf rows.toArray c3) ∈ news) (md : (D, W.listOf #[] c4) ∈ news) (hD : DatAll rest rows (level.map dRow)) (hs : ∀ p ∈ rest, p ∈ news) (hu : A.units + 64 < cLine) (hb : decide (level ≠ []) = b) (h : Q (.bool b) s) :
    wpAny (model prog w) A (compareOp .NotEq (.ref lA) (.ref D)) Q E s := by
  refine kqd_ne (ob := W.listOf ([] : List Value).toArray c4) (kb := c4) N ml rfl rfl hD hs md rfl rfl DatAll.nil (fun _ h => h) (kqd_rows _) (fun _ h => nomatch h) hu ?_
  subst hb
  by_cases hq : level.map dRow = []
  · have h1 : level = [] := by simpa using hq
    rw [decide_eq_true hq]
    rw [decide_eq_false (fun x => x h1)] at h
    exact h
  · have h1 : level ≠ [] := fun e => hq (by rw [e]; rfl)
    rw [decide_eq_false hq]
    rw [decide_eq_true h1] at h
    exact h
end

theorem len_at {prog : Program} {w : World} {A : Around} {E : Value → Shared → Prop} {s : Shared} {h₀ : Heap} {L : Addr} {news : List (Addr × Obj)} {Q : Value → Shared → Prop} {l : Addr} {vs : List Value} {c n : Nat} (N : News h₀ L s.heap news) (hm : (l, W.listOf vs.toArray c) ∈ news) (hn : vs.length = n) (hz : n ≤ 16384) (h : ∀ t k, Q (.int n t) { s with toks := k }) : wpAny (model prog w) A (call (.builtin "len") [.ref l]) Q E s :=
  kun_lenL ⟨_, (N _ hm).1, rfl, c, rfl⟩ (by simp [hn]) (by omega) (h _ _)
theorem level_ne5 {prog : Program} {w : World} {A : Around} {E : Value → Shared → Prop} {s : Shared} {h₀ : Heap} {L : Addr} {rest : List (Addr × Obj)} {Q : Value → Shared → Prop} {lA D : Addr} {rows : List Value} {c3 c4 : Nat} {level : List (List Int)} {b : Bool} {x1 x2 x3 : Addr × Obj} (N : News h₀ L s.heap ((D, W.listOf #[] c4) :: x1 :: x2 :: x3 :: (lA, W.listOf rows.toArray c3) :: rest)) (hD : DatAll rest rows (level.map dRow)) (hb : decide (level ≠ []) = b) (h : Q (.bool b) s) (hu : A.units + 64 < cLine) :
    wpAny (model prog w) A (compareOp .NotEq (.ref lA) (.ref D)) Q E s :=
  level_ne N (.tail _ (.tail _ (.tail _ (.tail _ (.head _))))) (.head _) hD (fun _ h => .tail _ (.tail _ (.tail _ (.tail _ (.tail _ h))))) hu hb h
/-- what _law_asked gives back -/
def askP (ok : List Int → Bool) (n : Nat) (xs : List Str) (v : Value) (own : List (Addr × Obj)) : Prop :=
  ∃ T lA nA lv nv c1 c2, v = .ref T ∧ (T, ({ cls := .type "tuple", data := .seq #[.ref lA, .ref nA] 0 } : Obj)) ∈ own ∧ (lA, W.listOf (List.toArray lv) c1) ∈ own ∧ (nA, W.listOf (List.toArray nv) c2) ∈ own ∧ DatAll own lv ((askF ok n 9 [[]]).1.map dLevel) ∧ DatAll own nv ((askF ok n 9 [[]]).2.map fun r => Dat.str (domS r xs))
theorem askP.at {ok : List Int → Bool} {n : Nat} {xs : List Str} {T lA nA : Addr} {lv nv : List Value} {c1 c2 : Nat} {rest : List (Addr × Obj)} {levels : List (List (List Int))} {noted : List (List Int)}
    (D1 : DatAll rest lv (levels.map dLevel)) (D3 : DatAll [] nv (noted.map fun r => Dat.str (domS r xs))) (h1 : levels = (askF ok n 9 [[]]).1) (h2 : noted = (askF ok n 9 [[]]).2) :
    askP ok n xs (.ref T) ((T, { cls := .type "tuple", data := .seq #[.ref lA, .ref nA] 0 }) :: (lA, W.listOf (List.toArray lv) c1) :: (nA, W.listOf (List.toArray nv) c2) :: rest) := by
  subst h1 h2
  exact ⟨T, lA, nA, lv, nv, c1, c2, rfl, .head _, .tail _ (.head _), .tail _ (.tail _ (.head _)), D1.mono fun p hp => .tail _ (.tail _ (.tail _ hp)), D3.mono fun _ h => by cases h⟩
theorem askF_step {ok : List Int → Bool} {n k : Nat} {level : List (List Int)} (h : ¬ level = []) : askF ok n (k + 1) level = (level :: (askF ok n k (longF ok n level)).1, noteF ok n level ++ (askF ok n k (longF ok n level)).2) := by
  rw [askF, if_neg h]
theorem askF_nil (ok : List Int → Bool) (n k : Nat) : askF ok n k [] = ([], []) := by
  cases k <;> simp [askF]
theorem allLt_mem {d : Addr} : ∀ {l : List (Addr × Obj)}, AllLt d l → ∀ p ∈ l, p.1 < d
  | [], _, _, hp => nomatch hp
  | q :: l, h, p, hp => by
    rcases List.mem_cons.mp hp with rfl | hp
    · exact h.1
    · exact allLt_mem h.2 p hp
theorem level_in {prog : Program} {w : World} {A : Around} {E : Value → Shared → Prop} {s : Shared} {h₀ : Heap} {L : Addr} {rest news n₂ : List (Addr × Obj)} {Q : Value → Shared → Prop} {lA : Addr} {rows : List Value} {c3 : Nat} {level : List (List Int)} {x : Value} {r : List Int} (N : News h₀ L s.heap news) (ml : (lA, W.listOf rows.toArray c3) ∈ news) (hD : DatAll rest rows (level.map dRow)) (hs : ∀ p ∈ rest, p ∈ news) (Dx : DatIn n₂ x (dRow r)) (sx : ∀ p ∈ n₂, p ∈ news) (hu : A.units + 64 < cLine) (h : Q (.bool (decide (r ∈ level))) s) :
    wpAny (model prog w) A (compareOp .In x (.ref lA)) Q E s := by
  refine kqd_isIn N ml rfl rfl hD hs Dx sx (kqd_rows _) (kqd_row _) hu ?_
  have key : dRow r ∈ level.map dRow ↔ r ∈ level := by
    constructor
    · intro hm
      obtain ⟨q, hq, e⟩ := List.mem_map.mp hm
      have : q = r := by
        have e' : q.map Dat.int = r.map Dat.int := by unfold dRow at e; injection e
        exact (List.map_inj_right (fun a b h => by injection h)).mp e'
      exact this ▸ hq
    · exact fun hm => List.mem_map_of_mem hm
  by_cases hq : r ∈ level
  · rw [@decide_eq_true _ (_) (key.mpr hq)]
    rw [decide_eq_true hq] at h
    exact h
  · rw [@decide_eq_false _ (_) (fun x => hq (key.mp x))]
    rw [decide_eq_false hq] at h
    exact h
/-- a test of being in a list, where it stands -/
def InAt (prog : Program) (w : World) (A : Around) (E : Value → Shared → Prop) (Q : Value → Shared → Prop) (x : Value) (a : Addr) (s : Shared) : Prop := wpAny (model prog w) A (compareOp .In x (.ref a)) Q E s
theorem in_stop {prog : Program} {w : World} {A : Around} {E : Value → Shared → Prop} {s : Shared} {Q : Value → Shared → Prop} {x : Value} {a : Addr} (h : InAt prog w A E Q x a s) : wpAny (model prog w) A (compareOp .In x (.ref a)) Q E s := h
/-- the word of the loops over rows and letters -/
def askL (loA lvA ntA nm lB : Addr) (xs : List Str) (ws : List Value) (c : Nat) (host : Str) (t : Tok) (lvo rowo : Obj) (rest its : List (Addr × Obj)) (lo nt : List (List Int)) (m : Str → Option Value) (nx : List (Addr × Obj)) : Prop :=
  ∃ los c' nv c2 rest', nx = (loA, W.listOf (List.toArray los) c') :: (lvA, lvo) :: (ntA, W.listOf (List.toArray nv) c2) :: (nm, W.listOf ws.toArray c) :: (lB, rowo) :: (rest' ++ its) ∧
    (∀ p ∈ rest, p ∈ rest') ∧ (∀ p ∈ rest' ++ its, p.1 ≠ loA ∧ p.1 ≠ lvA ∧ p.1 ≠ ntA ∧ p.1 ≠ nm) ∧ (∀ p ∈ its, ∀ q ∈ rest', p.1 ≠ q.1) ∧
    DatAll rest' los (lo.map dRow) ∧ DatAll [] nv (nt.map fun r => Dat.str (domS r xs)) ∧
    m (Str.ofString "host") = some (.str host t) ∧ m (Str.ofString "names") = some (.ref nm) ∧ m (Str.ofString "levels") = some (.ref lvA) ∧ m (Str.ofString "noted") = some (.ref ntA) ∧ m (Str.ofString "level") = some (.ref lB) ∧ m (Str.ofString "longer") = some (.ref loA)
/-- the while's word -/
def askW (ok : List Int → Bool) (n : Nat) (lvA ntA nm : Addr) (xs : List Str) (ws : List Value) (c : Nat) (host : Str) (t : Tok) (k : Nat) (m : Str → Option Value) (nx : List (Addr × Obj)) : Prop :=
  ∃ lv c1 nv c2 lA rows c3 rest level levels noted,
    nx = (lvA, W.listOf (List.toArray lv) c1) :: (ntA, W.listOf (List.toArray nv) c2) :: (nm, W.listOf ws.toArray c) :: (lA, W.listOf (List.toArray rows) c3) :: rest ∧
    (lvA ≠ ntA ∧ lvA ≠ nm ∧ ntA ≠ nm ∧ lA ≠ lvA ∧ lA ≠ ntA ∧ lA ≠ nm) ∧ (∀ p ∈ rest, p.1 ≠ lvA) ∧ (∀ p ∈ rest, p.1 ≠ ntA) ∧ (∀ p ∈ rest, p.1 ≠ nm) ∧
    DatAll rest lv (levels.map dLevel) ∧ DatAll rest rows (level.map dRow) ∧ DatAll [] nv (noted.map fun r => Dat.str (domS r xs)) ∧
    levels ++ (askF ok n k level).1 = (askF ok n 9 [[]]).1 ∧ noted ++ (askF ok n k level).2 = (askF ok n 9 [[]]).2 ∧
    levels.length + k = 9 ∧ rowsOk n levels.length level ∧ level.length ≤ 3 ^ levels.length ∧ noted.length ≤ levels.length * 19683 ∧
    m (Str.ofString "host") = some (.str host t) ∧ m (Str.ofString "names") = some (.ref nm) ∧ m (Str.ofString "levels") = some (.ref lvA) ∧ m (Str.ofString "noted") = some (.ref ntA) ∧ m (Str.ofString "level") = some (.ref lA)


end Mine
end

section
open PySem PySem.W PyProof.Rows PySem.Spec PySem.Calls Mine
local macro_rules | `(tactic| walk_at "exec While BoolOp") => `(tactic| (refine while_at ?_; k_whole))
local macro_rules | `(tactic| walk_at "exec For Name Name") => `(tactic| (k_here; (rename Fr _ _ _ _ => lF'); (with_unfolding_all refine' for_loop lF' ?_; k_whole)))
local macro_rules | `(tactic| walk_at "exec For Name Call") => `(tactic| (k_here; (rename Fr _ _ _ _ => lF'); (with_unfolding_all refine' for_loop lF' ?_; k_whole)))
local macro_rules | `(tactic| walk_at "exec For Name Call cons nil") => `(tactic| (k_here; (rename Fr _ _ _ _ => lF'); (with_unfolding_all refine' for_loop lF' ?_; k_whole)))
local macro_rules | `(tactic| walk_at "exec For Name Name cons nil") => `(tactic| (k_here; (rename Fr _ _ _ _ => lF'); (with_unfolding_all refine' for_loop lF' ?_; k_whole)))
local macro_rules | `(tactic| walk_at "call type:range") => `(tactic| (k_here; refine range_stop ?_; k_whole))
local macro_rules | `(tactic| walk_at "MINE up") => `(tactic| (repeat (first | assumption | (refine List.mem_cons_of_mem _ ?_))))
local macro_rules | `(tactic| walk_at "call ref") => `(tactic| (k_here; (with_reducible show wpAny _ _ (call (Value.ref 130) _) _ _ _); k_extra "MY dom"))
local macro_rules | `(tactic| walk_at "call ref") => `(tactic| (k_here; (with_reducible show wpAny _ _ (call (Value.ref 50) _) _ _ _); k_extra "MY match"))
local macro_rules | `(tactic| walk_at "subscriptTail Name Slice ref ref") => `(tactic| (k_here; k_extra "MY slice"))
local macro_rules | `(tactic| walk_at "compareOp In ref ref") => `(tactic| (refine in_stop ?_; k_whole))
local macro_rules | `(tactic| walk_at "TPost") => `(tactic| (dsimp only [TPost]))
local macro_rules | `(tactic| walk_at "WPost") => `(tactic| (dsimp only [WPost]))
local macro_rules | `(tactic| walk_at "MINE ne") => `(tactic| first | assumption | exact Ne.symm (by assumption) | exact Nat.ne_of_lt (by assumption) | exact Nat.ne_of_gt (by assumption) | exact Nat.ne_of_lt (And.left (by assumption)) | exact Nat.ne_of_gt (And.left (by assumption)) | exact Nat.ne_of_lt (And.left (And.right (by assumption))) | exact Nat.ne_of_gt (And.left (And.right (by assumption))) | exact Nat.ne_of_lt (And.left (And.right (And.right (by assumption)))) | exact Nat.ne_of_gt (And.left (And.right (And.right (by assumption)))) | (refine neN ?_; dsimp only; omega))
local macro_rules | `(tactic| walk_at "MINE subs") => `(tactic| first | exact List.forall_mem_nil _ | exact List.forall_mem_cons.mpr ⟨by first | k_mem | walk_at "MINE up", by walk_at "MINE subs"⟩ | exact fun p hp => by (try rw [List.append_nil] at hp); walk_at "MINE up")
local macro_rules | `(tactic| k_all) => `(tactic| first | assumption | exact List.forall_mem_nil _ | exact List.forall_mem_cons.mpr ⟨by walk_at "MINE ne", by k_all⟩)
local macro_rules | `(tactic| k_upd) => `(tactic| first | exact Upd.head (by k_all) | exact Upd.tail (by walk_at "MINE ne") (by k_upd))
local macro_rules | `(tactic| walk_at "MINE sub") => `(tactic| (intro p hp; repeat (first | exact hp | (refine List.mem_cons_of_mem _ ?_))))
local macro_rules | `(tactic| walk_at "compareOp NotEq ref ref") => `(tactic| k_extra "MY ne")
local macro_rules | `(tactic| walk_at "call builtin:len") => `(tactic| k_extra "MY len")

-- A1
section
theorem Mine.reset_A1 : True := by
  w_top off
  k_with_none
  exact trivial
open PySem PySem.W PyProof.Rows PySem.Spec PySem.Calls
set_option linter.unusedVariables false
set_option pp.deepTerms false
namespace Mine
set_option maxRecDepth 100000 in
set_option maxHeartbeats 8000000 in
theorem c_asked (w : World) (mean : ExcName → Option Value) (mg mb : Str → Option Value) (host : Str) (t : Tok) (nm : Addr) (ws : List Value) (c : Nat) (xs : List Str) (led' : List (Addr × Obj)) (hx : DatAll led' ws (xs.map Dat.str)) (hok : okS host) (hON : okN xs) (hl : xs.length ≤ 3) :
    Claim 6 w mean mg mb 137 [.str host t, .ref nm] [(nm, W.listOf ws.toArray c)] (askP (askok host xs) xs.length xs) := by
  unfold Claim
  k_fill
  intro dp un gd cn cs a ccd cl outer A₀ base h₀ L m s Q E hB hF hX hN hT hk hd hu hret
  refine wpAny_call ?_
  k_dflt (refine' enterP ?k1 ?k2 ?k3 ?k4 ?k5 ?kA ?kF ?kK ?k6 ?k7 ?k8 ?k9 ?kB ?_ ?c2 ?c3 ?c4 ?c5; (case kA => exact rfl); (case kF => exact rfl); (case kK => assumption); (case k1 => k_asm); (case k2 => k_asm); (case k3 => k_asm); (case k4 => k_asm); (case k5 => k_asm); (case k6 => k_is); (case k7 => k_is); (case k8 => ktr_room); (case k9 => exact BindsTo.of_eq rfl); (case c5 => decide); (case kB => exact locs rfl); (case c2 => exact rfl); (case c3 => exact rfl); (case c4 => exact rfl); k_whole; intro g9 L9 h9 hH FG9 F9 N9 B9 X9 T9; (try dsimp only); (try k_lift B9); (try k_fold))
  k_steps
  rename_i lvA h6 l1a h5 tk1 ntA h4 l1b h3 tk0 r0 h2 l1c lA h1 l1d hh F1 N1
  refine ⟨g9, _, [(lvA, W.listOf ([] : List Value).toArray 0), (ntA, W.listOf ([] : List Value).toArray 0), (nm, W.listOf ws.toArray c), (lA, W.listOf [Value.ref r0].toArray 0), (r0, W.listOf ([] : List Value).toArray 0)], askW (askok host xs) xs.length lvA ntA nm xs ws c host t, 9, F1, ?n0, ?j0, ?turn⟩
  case n0 =>
    intro p hp
    refine N1 p ?_
    revert p
    walk_at "MINE subs"
  case j0 =>
    refine ⟨[], 0, [], 0, lA, [Value.ref r0], 0, [(r0, W.listOf ([] : List Value).toArray 0)], [[]], [], [], rfl, ⟨?_, ?_, ?_, ?_, ?_, ?_⟩, ?_, ?_, ?_, .nil, .cons (list_in (List.Mem.head _) .nil) .nil, .nil, rfl, rfl, rfl, ?_, ?_, ?_, rfl, rfl, rfl, rfl, rfl⟩
    all_goals first | (refine neN ?_; omega) | (intro p hp; rw [List.mem_singleton.mp hp]; refine neN ?_; dsimp only; omega) | skip
    · intro r hr
      rw [List.mem_singleton.mp hr]; exact ⟨rfl, fun _ h => nomatch h⟩
    · exact Nat.le_refl _
    · exact Nat.zero_le _
  case turn =>
    clear F1 N1 l1a l1b l1c l1d
    rintro k m₁ nx h₁ tk₁ ⟨lv, c1, nv, c2, lB, rows, c3, rest, level, levels, noted, rfl, ⟨e1, e2, e3, e4, e5, e6⟩, a1, a2, a3, D1, D2, D3, hA, hNt, hlen, hrows, hll, hnl, hm1, hm2, hm3, hm4, hm5⟩ F₁ N₁
    replace F₁ : Fr g9 L9 h₁ m₁ := F₁
    replace N₁ : News g9 L9 h₁ _ := N₁
    have F₂ := fr_at (x := Str.ofString "host") F₁ hm1
    have F₃ := fr_at (x := Str.ofString "names") F₂ (by rw [if_neg (by decide)]; exact hm2)
    have F₄ := fr_at (x := Str.ofString "levels") F₃ (by rw [if_neg (by decide), if_neg (by decide)]; exact hm3)
    have F₅ := fr_at (x := Str.ofString "noted") F₄ (by rw [if_neg (by decide), if_neg (by decide), if_neg (by decide)]; exact hm4)
    have F₆ := fr_at (x := Str.ofString "level") F₅ (by rw [if_neg (by decide), if_neg (by decide), if_neg (by decide), if_neg (by decide)]; exact hm5)
    clear F₁ F₂ F₃ F₄ F₅
    have hlvl : lv.length = levels.length := by rw [D1.length, List.length_map]
    by_cases hlv : level = []
    · k_with "MY ne" => (refine level_ne5 (by assumption) D2 (b := false) (by subst hlv; rfl) ?_ ?hu; (case hu => ktr_units))
      k_steps
      subst hlv
      rw [askF_nil, List.append_nil] at hA hNt
      rename_i lD hD h6 tkd Dt ht FT NT lT kF kN TcT kX
      refine claim_ret hret hN hH FT NT ?l (own := (Dt, ({ cls := .type "tuple", data := .seq #[Value.ref lvA, .ref ntA] 0 } : Obj)) :: (lvA, W.listOf (List.toArray lv) c1) :: (ntA, W.listOf (List.toArray nv) c2) :: rest) ?o ?x (askP.at D1 D3 hA hNt)
      case l => intro p hp; rw [List.mem_singleton.mp hp]; k_mem
      case o =>
        walk_at "MINE subs"
      case x =>
        intro p hp
        simp only [List.mem_cons] at hp
        rcases hp with h | h | h | h
        · rw [h]; refine fun hx => ?_; have e : Dt = nm := List.mem_singleton.mp hx; exact absurd lT.2.2.2.1 (e ▸ Nat.lt_irrefl _)
        · rw [h]; exact fun hx => e2 (List.mem_singleton.mp hx)
        · rw [h]; exact fun hx => e3 (List.mem_singleton.mp hx)
        · exact fun hx => a3 p h (List.mem_singleton.mp hx)
    · have hwl : ws.length = xs.length := by rw [hx.length, List.length_map]
      have hline : lv.length + 1 ≤ sizeLine := by rw [sizeLine_eq]; omega
      k_with "MY ne" => (refine level_ne5 (by assumption) D2 (b := true) (by rw [decide_eq_true hlv]) ?_ ?hu; (case hu => ktr_units))
      k_with "MY len" => (refine len_at (by assumption) (by k_mem) (by first | exact hlvl | exact hwl) (by omega) ?_; intro _ _)
      k_steps
      · rename_i D0 h3 l3 t3 k3 hq tk3 h4 loA h5 l5 h6 F6 N6
        have hk8 : levels.length ≤ 8 := by omega
        obtain ⟨_, p2, p3, p4, p5, p6⟩ := l5
        have g1 : lvA ≠ loA := Nat.ne_of_lt p2
        have g2 : ntA ≠ loA := Nat.ne_of_lt p3
        have g3 : nm ≠ loA := Nat.ne_of_lt p4
        have g4 : lB ≠ loA := Nat.ne_of_lt p5
        have g5 : ∀ p ∈ rest, p.1 ≠ loA := fun p hp => Nat.ne_of_lt (allLt_mem p6 p hp)
        replace N6 : News g9 L9 h6 ((loA, W.listOf ([] : List Value).toArray 0) :: (lvA, W.listOf (lv ++ [Value.ref lB]).toArray (c1 + 1)) :: (ntA, W.listOf nv.toArray c2) :: (nm, W.listOf ws.toArray c) :: (lB, W.listOf rows.toArray c3) :: (rest ++ [])) := by
          intro p hp
          refine N6 p ?_
          revert p
          walk_at "MINE subs"
        refine loop_list (nn := c3) (vs := rows) (fun i => askL loA lvA ntA nm lB xs ws c host t (W.listOf (lv ++ [Value.ref lB]).toArray (c1 + 1)) (W.listOf rows.toArray c3) rest [] ((level.take i).flatMap (extF (askok host xs) xs.length)) (noted ++ (level.take i).flatMap (denF (askok host xs) xs.length level))) rfl F6 N6 (by k_mem) ?j2 ?turn2 ?done2
        case j2 =>
          refine ⟨[], 0, nv, c2, rest, rfl, fun _ h => h, fun p hp => ?_, (fun _ h => nomatch h), .nil, ?_, rfl, rfl, rfl, rfl, rfl, rfl⟩
          · rw [List.append_nil] at hp
            exact ⟨g5 p hp, a1 p hp, a2 p hp, a3 p hp⟩
          · simpa using D3
        case turn2 =>
          rintro i v m₂ nx₂ h₂ tk₂ its hv ⟨los, c', nv', c2', rest', rfl, hsub, hap, _, DL, DN, n1, n2, n3, n4, n5, n6⟩ ha hkeep G₁ M₁
          obtain ⟨r, ra, us, cr, hr, rfl, hmem, hI⟩ := row_get D2 hv
          have hil : i < level.length := (List.getElem?_eq_some_iff.mp hr).1
          have hrok := hrows r (List.mem_of_getElem? hr)
          replace G₁ : Fr g9 L9 h₂ m₂ := G₁
          have G₂ := fr_at (x := Str.ofString "host") G₁ n1
          have G₃ := fr_at (x := Str.ofString "names") G₂ (by rw [if_neg (by decide)]; exact n2)
          have G₄ := fr_at (x := Str.ofString "levels") G₃ (by rw [if_neg (by decide), if_neg (by decide)]; exact n3)
          have G₅ := fr_at (x := Str.ofString "noted") G₄ (by rw [if_neg (by decide), if_neg (by decide), if_neg (by decide)]; exact n4)
          have G₆ := fr_at (x := Str.ofString "level") G₅ (by rw [if_neg (by decide), if_neg (by decide), if_neg (by decide), if_neg (by decide)]; exact n5)
          have G₇ := fr_at (x := Str.ofString "longer") G₆ (by rw [if_neg (by decide), if_neg (by decide), if_neg (by decide), if_neg (by decide), if_neg (by decide)]; exact n6)
          clear G₁ G₂ G₃ G₄ G₅ G₆ F6 N6
          rw [List.append_nil] at M₁ ha hap
          simp only [List.cons_append] at M₁
          replace M₁ : News g9 L9 h₂ _ := M₁
          k_steps
          rename_i h7 F7 N7 t7 k7
          refine loop_rangeN xs.length (fun j m nx => askL loA lvA ntA nm lB xs ws c host t (W.listOf (lv ++ [Value.ref lB]).toArray (c1 + 1)) (W.listOf rows.toArray c3) rest its ((level.take i).flatMap (extF (askok host xs) xs.length) ++ (moreF j r).filter (askok host xs)) (noted ++ (level.take i).flatMap (denF (askok host xs) xs.length level) ++ (moreF j r).filter fun r => !askok host xs r && decide (r.drop 1 ∈ level)) m nx ∧ m (Str.ofString "row") = some (.ref ra)) rfl rfl (by omega) F7 N7 ?j3 ?turn3 ?done3
          case j3 =>
            refine ⟨⟨los, c', nv', c2', rest', rfl, hsub, fun p hp => ?_, fun p hp q hq => ?_, ?_, ?_, rfl, rfl, rfl, rfl, rfl, rfl⟩, rfl⟩
            · rcases List.mem_append.mp hp with hp | hp
              · exact hap p hp
              · exact ⟨ha p hp _ (.head _), ha p hp _ (.tail _ (.head _)), ha p hp _ (.tail _ (.tail _ (.head _))), ha p hp _ (.tail _ (.tail _ (.tail _ (.head _))))⟩
            · exact ha p hp q (.tail _ (.tail _ (.tail _ (.tail _ (.tail _ hq)))))
            · simpa [moreF] using DL
            · simpa [moreF] using DN
          case turn3 =>
            have hrl : ∀ j : Nat, (r ++ [(j : Int)]).length ≤ 20 := fun j => by rw [List.length_append, List.length_singleton, hrok.1]; omega
            rintro j v m₃ nx₃ h₃ tk₃ its3 ⟨hj, tj, rfl⟩ ⟨⟨los3, c3', nv3, c23, rest3, rfl, hsub3, hap3, hits3, DL3, DN3, q1, q2, q3, q4, q5, q6⟩, q7⟩ ha3 _ K₁ P₁
            replace K₁ : Fr g9 L9 h₃ m₃ := K₁
            have K₂ := fr_at (x := Str.ofString "host") K₁ q1
            have K₃ := fr_at (x := Str.ofString "names") K₂ (by rw [if_neg (by decide)]; exact q2)
            have K₄ := fr_at (x := Str.ofString "levels") K₃ (by rw [if_neg (by decide), if_neg (by decide)]; exact q3)
            have K₅ := fr_at (x := Str.ofString "noted") K₄ (by rw [if_neg (by decide), if_neg (by decide), if_neg (by decide)]; exact q4)
            have K₆ := fr_at (x := Str.ofString "level") K₅ (by rw [if_neg (by decide), if_neg (by decide), if_neg (by decide), if_neg (by decide)]; exact q5)
            have K₇ := fr_at (x := Str.ofString "longer") K₆ (by rw [if_neg (by decide), if_neg (by decide), if_neg (by decide), if_neg (by decide), if_neg (by decide)]; exact q6)
            have K₈ := fr_at (x := Str.ofString "row") K₇ (by rw [if_neg (by decide), if_neg (by decide), if_neg (by decide), if_neg (by decide), if_neg (by decide), if_neg (by decide)]; exact q7)
            clear K₁ K₂ K₃ K₄ K₅ K₆ K₇ F7 N7
            have hmem3 : (ra, W.listOf us.toArray cr) ∈ rest3 := hsub3 _ hmem
            have r1 : ra ≠ loA := (hap3 _ (List.mem_append_left _ hmem3)).1
            have r2 : ra ≠ ntA := (hap3 _ (List.mem_append_left _ hmem3)).2.2.1
            have hmem4 := List.mem_append_left (its ++ its3) hmem3
            simp only [List.cons_append, List.append_assoc] at P₁
            replace P₁ : News g9 L9 h₃ ((loA, W.listOf los3.toArray c3') :: (lvA, W.listOf (lv ++ [Value.ref lB]).toArray (c1 + 1)) :: (ntA, W.listOf nv3.toArray c23) :: (nm, W.listOf ws.toArray c) :: (lB, W.listOf rows.toArray c3) :: (ra, W.listOf us.toArray cr) :: (rest3 ++ (its ++ its3))) := by
              intro p hp
              refine P₁ p ?_
              revert p
              walk_at "MINE subs"
            have hT1 : ∀ p ∈ rest3 ++ (its ++ its3), p.1 ≠ loA := fun p hp => by
              rw [← List.append_assoc] at hp
              rcases List.mem_append.mp hp with hp | hp
              · exact (hap3 p hp).1
              · exact ha3 p hp _ (.head _)
            have hT2 : ∀ p ∈ rest3 ++ (its ++ its3), p.1 ≠ ntA := fun p hp => by
              rw [← List.append_assoc] at hp
              rcases List.mem_append.mp hp with hp | hp
              · exact (hap3 p hp).2.2.1
              · exact ha3 p hp _ (.tail _ (.tail _ (.head _)))
            have hjok : ∀ k ∈ r ++ [(j : Int)], 0 ≤ k ∧ k < (xs.length : Int) := fun k hk => by
              rcases List.mem_append.mp hk with hk | hk
              · exact hrok.2 k hk
              · rw [List.mem_singleton.mp hk]; omega
            have hx10 : ∀ x ∈ xs, x.length ≤ 10 := fun x hx => (hON x hx).1
            have hxl20 : xs.length ≤ 20 := by omega
            have hlB : level.length ≤ 6561 := Nat.le_trans hll (Nat.le_trans (Nat.pow_le_pow_right (by decide) hk8) (by decide))
            have hti : (level.take i).length ≤ 6561 := by rw [List.length_take]; omega
            have hb1 : ((level.take i).flatMap (extF (askok host xs) xs.length)).length ≤ 19683 := Nat.le_trans (flat_len (ext_len _ _) _) (Nat.le_trans (Nat.mul_le_mul hti hl) (by decide))
            have hb2 : ((level.take i).flatMap (denF (askok host xs) xs.length level)).length ≤ 19683 := Nat.le_trans (flat_len (den_len _ _ _) _) (Nat.le_trans (Nat.mul_le_mul hti hl) (by decide))
            have hline1 : los3.length + 1 ≤ sizeLine := by
              have h1 := DL3.length
              have h2 := List.length_filter_le (askok host xs) (moreF j r)
              rw [more_len] at h2
              rw [List.length_map, List.length_append] at h1
              rw [sizeLine_eq]; omega
            have hline2 : nv3.length + 1 ≤ sizeLine := by
              have h1 := DN3.length
              have h2 := List.length_filter_le (fun r => !askok host xs r && decide (r.drop 1 ∈ level)) (moreF j r)
              rw [more_len] at h2
              rw [List.length_map, List.length_append, List.length_append] at h1
              have h3 : levels.length * 19683 ≤ 8 * 19683 := Nat.mul_le_mul hk8 (Nat.le_refl _)
              rw [sizeLine_eq]; omega
            have hrl8 : r.length ≤ 8 := by rw [hrok.1]; exact hk8
            k_with "MY dom" => ((with_reducible rename IntsAre _ (_ ++ _) => hI9); k_dflt (refine' claim_useL (c_domain _ _ _ _ _ _ _ _ _ _ (r ++ [(j : Int)]) xs led' (ints_dat hI9) hx hjok (hrl j) hx10 hxl20) ?B ?F ?X ?N ?hs ?T ?hk ?hd ?hu ?_; walk_at "MINE use"; (case hs => intro p hp; rcases List.mem_cons.mp hp with rfl | hp; k_mem; rcases List.mem_cons.mp hp with rfl | hp; k_mem; cases hp); intro v9 h9 tk9 e9 F9 N9; obtain ⟨t9, e9⟩ := e9; subst e9; (try dsimp only); (try k_fold)))
            k_with "MY match" => (k_dflt (refine' claim_useV (c_dom _ _ _ _ host (domS (r ++ [(j : Int)]) xs) _ _ hok (okS_dom hON (hrl j))) ?B ?F ?X ?N ?T ?hk ?hd ?hu ?_; walk_at "MINE use"; intro v9 h9 tk9 e9 F9 N9; subst e9; (try dsimp only); (try k_fold)))
            k_with "MY slice" => ((with_reducible rename IntsAre _ (_ ++ _) => hI9); k_dflt (refine' kmk_slice_ints (ms := (r ++ [(j : Int)]).drop 1) ?F ?N ?l ?p ?q hI9 ?m rfl ?_ ?s ?t ?z; (case F => k_asm); (case N => k_asm); (case l => kmk_list); (case p => kmk_part); (case q => kmk_part); (case m => exact kmk_from hI9 (by decide)); (case s => with_unfolding_all rfl); (case t => kmk_pure); (case z => exact kmk_sz hI9 (by rw [sizeLine_eq]; have := hrl j; omega))); intro D' ws' h' F' N' l1 hI' hC' hL'; (try k_lt l1); (try k_sweep))
            have b1 : ∀ p ∈ its3, p.1 ≠ loA ∧ p.1 ≠ lvA ∧ p.1 ≠ ntA ∧ p.1 ≠ nm ∧ p.1 ≠ lB := fun p hp => ⟨ha3 p hp _ (.head _), ha3 p hp _ (.tail _ (.head _)), ha3 p hp _ (.tail _ (.tail _ (.head _))), ha3 p hp _ (.tail _ (.tail _ (.tail _ (.head _)))), ha3 p hp _ (.tail _ (.tail _ (.tail _ (.tail _ (.head _)))))⟩
            have b2 : ∀ p ∈ its3, ∀ q ∈ rest3 ++ its, p.1 ≠ q.1 := fun p hp q hq => ha3 p hp q (.tail _ (.tail _ (.tail _ (.tail _ (.tail _ hq)))))
            have b3 : ∀ p ∈ rest3 ++ its, p ∈ rest3 ++ (its ++ its3) := fun p hp => by rw [← List.append_assoc]; exact List.mem_append_left _ hp
            have b4 : ∀ p ∈ its3, p ∈ rest3 ++ (its ++ its3) := fun p hp => List.mem_append_right _ (List.mem_append_right _ hp)
            k_steps
            · rename_i hdm l2 s1 o1 D2' us2 s2 hI2 o2 s3 FZ NZ
              simp only [List.push_toArray] at NZ
              obtain ⟨o2a, o2b, o2c, o2d, o2e, o2f, o2g, o2h, o2i, o2j⟩ := o2
              have o2k := allLt_mem o2j
              refine TEnd.intro ((loA, W.listOf (los3 ++ [Value.ref D2']).toArray (c3' + 1)) :: (lvA, W.listOf (lv ++ [Value.ref lB]).toArray (c1 + 1)) :: (ntA, W.listOf nv3.toArray c23) :: (nm, W.listOf ws.toArray c) :: (lB, W.listOf rows.toArray c3) :: (((D2', W.listOf us2.toArray 0) :: rest3) ++ its)) FZ NZ ?zi1 ?zn1 ?za1 (fun _ h => nomatch h)
                ⟨⟨los3 ++ [Value.ref D2'], c3' + 1, nv3, c23, (D2', W.listOf us2.toArray 0) :: rest3, rfl, fun p hp => .tail _ (hsub3 p hp), ?zp1, ?zq1, ?zL1, ?zM1, rfl, rfl, rfl, rfl, rfl, rfl⟩, rfl⟩
              case zi1 => intro p hp; have hp := b4 p hp; walk_at "MINE up"
              case zn1 =>
                intro p hp
                rcases List.mem_cons.mp hp with rfl | hp; k_mem
                rcases List.mem_cons.mp hp with rfl | hp; k_mem
                rcases List.mem_cons.mp hp with rfl | hp; k_mem
                rcases List.mem_cons.mp hp with rfl | hp; k_mem
                rcases List.mem_cons.mp hp with rfl | hp; k_mem
                rcases List.mem_cons.mp hp with rfl | hp; k_mem
                have hp := b3 p hp; walk_at "MINE up"
              case za1 =>
                intro p hp q hq
                obtain ⟨y1, y2, y3, y4, y5⟩ := b1 p hp
                rcases List.mem_cons.mp hq with rfl | hq; exact y1
                rcases List.mem_cons.mp hq with rfl | hq; exact y2
                rcases List.mem_cons.mp hq with rfl | hq; exact y3
                rcases List.mem_cons.mp hq with rfl | hq; exact y4
                rcases List.mem_cons.mp hq with rfl | hq; exact y5
                rcases List.mem_cons.mp hq with rfl | hq; exact Nat.ne_of_lt (o2k p (b4 p hp))
                exact b2 p hp q hq
              case zp1 =>
                intro p hp
                rcases List.mem_cons.mp hp with rfl | hp
                · exact ⟨Nat.ne_of_gt o2d, Nat.ne_of_gt o2e, Nat.ne_of_gt o2f, Nat.ne_of_gt o2g⟩
                · exact hap3 p hp
              case zq1 =>
                intro p hp q hq
                rcases List.mem_cons.mp hq with rfl | hq
                · exact Nat.ne_of_lt (o2k p (b3 p (List.mem_append_right _ hp)))
                · exact hits3 p hp q hq
              case zL1 =>
                rw [filter_step (p := askok host xs) hdm, ← List.append_assoc, List.map_append]
                exact (DL3.mono fun p hp => .tail _ hp).append (DatAll.one (list_in (.head _) hI2))
              case zM1 =>
                rw [filter_skip (p := fun r => !askok host xs r && decide (r.drop 1 ∈ level)) (by show (!askok host xs _ && _) = false; rw [show askok host xs (r ++ [(j : Int)]) = true from hdm]; rfl)]
                exact DN3
            · unfold InAt
              rename_i FF NN hI8 _ _ _
              refine level_in NN (lA := lB) (rows := rows) (c3 := c3) (rest := rest) (level := level) (r := (r ++ [(j:Int)]).drop 1) ?ml D2 ?hs (list_in (c := 0) (List.Mem.head []) hI8) ?hxx ?hu ?_
              case ml => k_mem
              case hs => intro p hp; have hp := List.mem_append_left (its ++ its3) (hsub3 p hp); walk_at "MINE up"
              case hxx => intro p hp; rw [List.mem_singleton.mp hp]; k_mem
              case hu => ktr_units
              k_steps
              · rename_i hdm l2 s1 o1 D2' us2 s2 hI2 o2 D3' us3 s3 hC hL o3 hin tkz hz FZ NZ
                simp only [List.push_toArray] at NZ
                refine TEnd.intro ((loA, W.listOf los3.toArray c3') :: (lvA, W.listOf (lv ++ [Value.ref lB]).toArray (c1 + 1)) :: (ntA, W.listOf (nv3 ++ [Value.str (domS (r ++ [(j : Int)]) xs) t9]).toArray (c23 + 1)) :: (nm, W.listOf ws.toArray c) :: (lB, W.listOf rows.toArray c3) :: (rest3 ++ its)) FZ NZ ?zi2 ?zn2 ?za2 (fun _ h => nomatch h)
                  ⟨⟨los3, c3', nv3 ++ [Value.str (domS (r ++ [(j : Int)]) xs) t9], c23 + 1, rest3, rfl, hsub3, hap3, hits3, ?zL2, ?zM2, rfl, rfl, rfl, rfl, rfl, rfl⟩, rfl⟩
                case zi2 => intro p hp; have hp := b4 p hp; walk_at "MINE up"
                case zn2 =>
                  intro p hp
                  rcases List.mem_cons.mp hp with rfl | hp; k_mem
                  rcases List.mem_cons.mp hp with rfl | hp; k_mem
                  rcases List.mem_cons.mp hp with rfl | hp; k_mem
                  rcases List.mem_cons.mp hp with rfl | hp; k_mem
                  rcases List.mem_cons.mp hp with rfl | hp; k_mem
                  have hp := b3 p hp; walk_at "MINE up"
                case za2 =>
                  intro p hp q hq
                  obtain ⟨y1, y2, y3, y4, y5⟩ := b1 p hp
                  rcases List.mem_cons.mp hq with rfl | hq; exact y1
                  rcases List.mem_cons.mp hq with rfl | hq; exact y2
                  rcases List.mem_cons.mp hq with rfl | hq; exact y3
                  rcases List.mem_cons.mp hq with rfl | hq; exact y4
                  rcases List.mem_cons.mp hq with rfl | hq; exact y5
                  exact b2 p hp q hq
                case zL2 =>
                  rw [filter_skip (p := askok host xs) hdm]
                  exact DL3
                case zM2 =>
                  rw [filter_step (p := fun r => !askok host xs r && decide (r.drop 1 ∈ level)) (by show (!askok host xs _ && _) = true; rw [show askok host xs (r ++ [(j : Int)]) = false from hdm, decide_eq_true hin]; rfl), ← List.append_assoc, List.map_append]
                  exact DN3.append (DatAll.one (DatIn.str _ _))
              · rename_i hdm l2 s1 o1 D2' us2 s2 hI2 o2 D3' us3 s3 hC hL o3 hin
                refine TEnd.intro ((loA, W.listOf los3.toArray c3') :: (lvA, W.listOf (lv ++ [Value.ref lB]).toArray (c1 + 1)) :: (ntA, W.listOf nv3.toArray c23) :: (nm, W.listOf ws.toArray c) :: (lB, W.listOf rows.toArray c3) :: (rest3 ++ its)) FF NN ?zi3 ?zn3 ?za3 (fun _ h => nomatch h)
                  ⟨⟨los3, c3', nv3, c23, rest3, rfl, hsub3, hap3, hits3, ?zL3, ?zM3, rfl, rfl, rfl, rfl, rfl, rfl⟩, rfl⟩
                case zi3 => intro p hp; have hp := b4 p hp; walk_at "MINE up"
                case zn3 =>
                  intro p hp
                  rcases List.mem_cons.mp hp with rfl | hp; k_mem
                  rcases List.mem_cons.mp hp with rfl | hp; k_mem
                  rcases List.mem_cons.mp hp with rfl | hp; k_mem
                  rcases List.mem_cons.mp hp with rfl | hp; k_mem
                  rcases List.mem_cons.mp hp with rfl | hp; k_mem
                  have hp := b3 p hp; walk_at "MINE up"
                case za3 =>
                  intro p hp q hq
                  obtain ⟨y1, y2, y3, y4, y5⟩ := b1 p hp
                  rcases List.mem_cons.mp hq with rfl | hq; exact y1
                  rcases List.mem_cons.mp hq with rfl | hq; exact y2
                  rcases List.mem_cons.mp hq with rfl | hq; exact y3
                  rcases List.mem_cons.mp hq with rfl | hq; exact y4
                  rcases List.mem_cons.mp hq with rfl | hq; exact y5
                  exact b2 p hp q hq
                case zL3 =>
                  rw [filter_skip (p := askok host xs) hdm]
                  exact DL3
                case zM3 =>
                  rw [filter_skip (p := fun r => !askok host xs r && decide (r.drop 1 ∈ level)) (by show (!askok host xs _ && _) = false; rw [decide_eq_false hin, Bool.and_false])]
                  exact DN3
          case done3 =>
            clear F7 N7
            rintro h8 tk8 m₈ nx₈ ⟨⟨los3, c3', nv3, c23, rest3, rfl, hsub3, hap3, hits3, DL3, DN3, q1, q2, q3, q4, q5, q6⟩, q7⟩ _ K₁ P₁
            replace K₁ : Fr g9 L9 h8 m₈ := K₁
            replace P₁ : News g9 L9 h8 _ := P₁
            k_steps
            refine TEnd.intro ((loA, W.listOf los3.toArray c3') :: (lvA, W.listOf (lv ++ [Value.ref lB]).toArray (c1 + 1)) :: (ntA, W.listOf nv3.toArray c23) :: (nm, W.listOf ws.toArray c) :: (lB, W.listOf rows.toArray c3) :: (rest3 ++ [])) K₁ P₁ ?zi4 ?zn4 ?za4 ?zk4
              ⟨los3, c3', nv3, c23, rest3, rfl, hsub3, ?zp4, (fun _ h => nomatch h), ?zL4, ?zM4, q1, q2, q3, q4, q5, q6⟩
            case zi4 => intro p hp; have hp := List.mem_append_right rest3 hp; walk_at "MINE up"
            case zn4 =>
              intro p hp
              rcases List.mem_cons.mp hp with rfl | hp; k_mem
              rcases List.mem_cons.mp hp with rfl | hp; k_mem
              rcases List.mem_cons.mp hp with rfl | hp; k_mem
              rcases List.mem_cons.mp hp with rfl | hp; k_mem
              rcases List.mem_cons.mp hp with rfl | hp; k_mem
              rw [List.append_nil] at hp
              have hp := List.mem_append_left its hp; walk_at "MINE up"
            case za4 =>
              intro p hp q hq
              obtain ⟨y1, y2, y3, y4⟩ := hap3 p (List.mem_append_right _ hp)
              rcases List.mem_cons.mp hq with rfl | hq; exact y1
              rcases List.mem_cons.mp hq with rfl | hq; exact y2
              rcases List.mem_cons.mp hq with rfl | hq; exact y3
              rcases List.mem_cons.mp hq with rfl | hq; exact y4
              rcases List.mem_cons.mp hq with rfl | hq; exact ha p hp _ (.tail _ (.tail _ (.tail _ (.tail _ (.head _)))))
              rw [List.append_nil] at hq
              exact hits3 p hp q hq
            case zk4 => intro p hp; rw [List.mem_singleton.mp hp]; k_mem
            case zp4 =>
              intro p hp
              rw [List.append_nil] at hp
              exact hap3 p (List.mem_append_left _ hp)
            case zL4 => rw [flat_step hr]; exact DL3
            case zM4 => rw [flat_step hr, ← List.append_assoc]; exact DN3
        case done2 =>
          rintro h8 tk8 m₈ nx₈ ⟨los, c', nv', c2', rest', rfl, hsub, hap, _, DL, DN, n1, n2, n3, n4, n5, n6⟩ _ K₁ P₁
          replace K₁ : Fr g9 L9 h8 m₈ := K₁
          have K₂ := fr_at (x := Str.ofString "host") K₁ n1
          have K₃ := fr_at (x := Str.ofString "names") K₂ (by rw [if_neg (by decide)]; exact n2)
          have K₄ := fr_at (x := Str.ofString "levels") K₃ (by rw [if_neg (by decide), if_neg (by decide)]; exact n3)
          have K₅ := fr_at (x := Str.ofString "noted") K₄ (by rw [if_neg (by decide), if_neg (by decide), if_neg (by decide)]; exact n4)
          have K₆ := fr_at (x := Str.ofString "level") K₅ (by rw [if_neg (by decide), if_neg (by decide), if_neg (by decide), if_neg (by decide)]; exact n5)
          have K₇ := fr_at (x := Str.ofString "longer") K₆ (by rw [if_neg (by decide), if_neg (by decide), if_neg (by decide), if_neg (by decide), if_neg (by decide)]; exact n6)
          clear K₁ K₂ K₃ K₄ K₅ K₆ F6 N6
          rw [List.append_nil] at P₁ hap
          replace P₁ : News g9 L9 h8 _ := P₁
          have hrl : rows.length = level.length := by rw [D2.length, List.length_map]
          rw [hrl, List.take_length] at DL DN
          k_steps
          rename_i hz FZ NZ
          have hlB : level.length ≤ 6561 := Nat.le_trans hll (Nat.le_trans (Nat.pow_le_pow_right (by decide) hk8) (by decide))
          obtain ⟨k', rfl⟩ : ∃ k', k = k' + 1 := ⟨k - 1, by omega⟩
          rw [askF_step hlv] at hA hNt
          refine WEnd.intro k' ((lvA, W.listOf (lv ++ [Value.ref lB]).toArray (c1 + 1)) :: (ntA, W.listOf nv'.toArray c2') :: (nm, W.listOf ws.toArray c) :: (loA, W.listOf los.toArray c') :: (lB, W.listOf rows.toArray c3) :: rest') (Nat.lt_succ_self k') FZ NZ ?zn5
            ⟨lv ++ [Value.ref lB], c1 + 1, nv', c2', loA, los, c', (lB, W.listOf rows.toArray c3) :: rest', longF (askok host xs) xs.length level, levels ++ [level], noted ++ noteF (askok host xs) xs.length level, rfl, ⟨e1, e2, e3, g1.symm, g2.symm, g3.symm⟩, ?zp5, ?zq5, ?zr5, ?zD5, DL.mono fun p hp => .tail _ hp, DN, ?zA5, ?zB5, ?zl5, ?zr6, ?zl6, ?zl7, rfl, rfl, rfl, rfl, rfl⟩
          case zn5 =>
            intro p hp
            rcases List.mem_cons.mp hp with rfl | hp; k_mem
            rcases List.mem_cons.mp hp with rfl | hp; k_mem
            rcases List.mem_cons.mp hp with rfl | hp; k_mem
            rcases List.mem_cons.mp hp with rfl | hp; k_mem
            rcases List.mem_cons.mp hp with rfl | hp; k_mem
            walk_at "MINE up"
          case zp5 =>
            intro p hp
            rcases List.mem_cons.mp hp with rfl | hp
            · exact e4
            · exact (hap p hp).2.1
          case zq5 =>
            intro p hp
            rcases List.mem_cons.mp hp with rfl | hp
            · exact e5
            · exact (hap p hp).2.2.1
          case zr5 =>
            intro p hp
            rcases List.mem_cons.mp hp with rfl | hp
            · exact e6
            · exact (hap p hp).2.2.2
          case zD5 =>
            rw [List.map_append]
            exact (D1.mono fun p hp => .tail _ (hsub p hp)).append (DatAll.one (DatIn.list (.head _) (D2.mono fun p hp => .tail _ (hsub p hp))))
          case zA5 => rw [List.append_assoc]; exact hA
          case zB5 => rw [List.append_assoc]; exact hNt
          case zl5 => rw [List.length_append, List.length_singleton]; omega
          case zr6 => rw [List.length_append, List.length_singleton]; exact hrows.long
          case zl6 =>
            rw [List.length_append, List.length_singleton, Nat.pow_succ]
            exact Nat.le_trans (flat_len (ext_len _ _) _) (Nat.mul_le_mul hll hl)
          case zl7 =>
            have h1 : (noteF (askok host xs) xs.length level).length ≤ 19683 := Nat.le_trans (flat_len (den_len _ _ _) _) (Nat.le_trans (Nat.mul_le_mul hlB hl) (by decide))
            rw [List.length_append, List.length_append, List.length_singleton, Nat.succ_mul]
            omega
      · rename_i Dt ht FT NT lT kF kN TcT kX
        have hk0 : k = 0 := by omega
        subst hk0
        rw [show askF (askok host xs) xs.length 0 level = ([], []) from rfl, List.append_nil] at hA hNt
        refine claim_ret hret hN hH FT NT ?l (own := (Dt, ({ cls := .type "tuple", data := .seq #[Value.ref lvA, .ref ntA] 0 } : Obj)) :: (lvA, W.listOf (List.toArray lv) c1) :: (ntA, W.listOf (List.toArray nv) c2) :: rest) ?o ?x (askP.at D1 D3 hA hNt)
        case l => intro p hp; rw [List.mem_singleton.mp hp]; k_mem
        case o =>
          walk_at "MINE subs"
        case x =>
          intro p hp
          simp only [List.mem_cons] at hp
          rcases hp with h | h | h | h
          · rw [h]; refine fun hx => ?_; have e : Dt = nm := List.mem_singleton.mp hx; exact absurd lT.2.2.2.1 (e ▸ Nat.lt_irrefl _)
          · rw [h]; exact fun hx => e2 (List.mem_singleton.mp hx)
          · rw [h]; exact fun hx => e3 (List.mem_singleton.mp hx)
          · exact fun hx => a3 p h (List.mem_singleton.mp hx)
end Mine
end

-- R1
section
theorem Mine.reset_R1 : True := by
  w_top off
  k_with_none
  exact trivial
open PySem PySem.W PyProof.Rows PySem.Spec PySem.Calls
set_option Elab.async false
set_option linter.unusedVariables false
set_option pp.deepTerms false
set_option pp.deepTerms.threshold 8
namespace Mine
/-- what _law_regrown gives back -/
def regP (ok : List Int → Bool) (n : Nat) (v : Value) (own : List (Addr × Obj)) : Prop :=
  ∃ lA lv c1, v = .ref lA ∧ (lA, W.listOf (List.toArray lv) c1) ∈ own ∧ DatAll own lv ((askF ok n 9 [[]]).1.map dLevel)
def hostS (r : List Int) (xs : List Str) : Str := Str.ofString "x" ++ domS r xs
def regok (xs den : List Str) (r : List Int) : Bool := !(den.any fun d => userM (hostS r xs) d)
theorem okS_host {xs : List Str} (h : okN xs) {ns : List Int} (hl : ns.length ≤ 20) : okS (hostS ns xs) := by
  have h1 : (Str.ofString "x").cps.toList = [120] := by decide +kernel
  have hd := okS_dom h hl
  unfold hostS
  constructor
  · intro c hc
    rw [Str.cps_append, Array.toList_append, h1] at hc
    rcases List.mem_append.mp hc with hc | hc
    · rw [List.mem_singleton.mp hc]; decide +kernel
    · exact hd.1 c hc
  · have e : (domS ns xs).length ≤ 220 := by
      have e : (domS ns xs).length = (ns.flatMap fun k => (cellS xs k).cps.toList).length := by rw [← dom_cps]; simp [Str.length]
      rw [e]
      have : ∀ ns : List Int, (ns.flatMap fun k => (cellS xs k).cps.toList).length ≤ ns.length * 11 := by
        intro ns
        induction ns with
        | nil => simp
        | cons k ns ih =>
          have := cell_len (fun x hx => (h x hx).1) k
          have e : (cellS xs k).cps.toList.length = (cellS xs k).length := by simp [Str.length]
          simp only [List.flatMap_cons, List.length_append, List.length_cons]
          omega
      have := this ns
      omega
    rw [Str.length_append, show (Str.ofString "x").length = 1 by decide +kernel]
    omega
def regL (loA lvA nm nt lB : Addr) (nmo nto : Obj) (lvo rowo : Obj) (rest its : List (Addr × Obj)) (lo : List (List Int)) (m : Str → Option Value) (nx : List (Addr × Obj)) : Prop :=
  ∃ los c' rest', nx = (loA, W.listOf (List.toArray los) c') :: (lvA, lvo) :: (nm, nmo) :: (nt, nto) :: (lB, rowo) :: (rest' ++ its) ∧
    (∀ p ∈ rest, p ∈ rest') ∧ (∀ p ∈ rest' ++ its, p.1 ≠ loA ∧ p.1 ≠ lvA ∧ p.1 ≠ nm ∧ p.1 ≠ nt) ∧ (∀ p ∈ its, ∀ q ∈ rest', p.1 ≠ q.1) ∧
    DatAll rest' los (lo.map dRow) ∧
    m (Str.ofString "names") = some (.ref nm) ∧ m (Str.ofString "noted") = some (.ref nt) ∧ m (Str.ofString "levels") = some (.ref lvA) ∧ m (Str.ofString "level") = some (.ref lB) ∧ m (Str.ofString "longer") = some (.ref loA)
/-- the while's word -/
def regW (ok : List Int → Bool) (n : Nat) (lvA nm nt : Addr) (nmo nto : Obj) (k : Nat) (m : Str → Option Value) (nx : List (Addr × Obj)) : Prop :=
  ∃ lv c1 lA rows c3 rest level levels,
    nx = (lvA, W.listOf (List.toArray lv) c1) :: (nm, nmo) :: (nt, nto) :: (lA, W.listOf (List.toArray rows) c3) :: rest ∧
    (lvA ≠ nm ∧ lvA ≠ nt ∧ lA ≠ lvA ∧ lA ≠ nm ∧ lA ≠ nt) ∧ (∀ p ∈ rest, p.1 ≠ lvA) ∧ (∀ p ∈ rest, p.1 ≠ nm) ∧ (∀ p ∈ rest, p.1 ≠ nt) ∧
    DatAll rest lv (levels.map dLevel) ∧ DatAll rest rows (level.map dRow) ∧
    levels ++ (askF ok n k level).1 = (askF ok n 9 [[]]).1 ∧
    levels.length + k = 9 ∧ rowsOk n levels.length level ∧ level.length ≤ 3 ^ levels.length ∧
    m (Str.ofString "names") = some (.ref nm) ∧ m (Str.ofString "noted") = some (.ref nt) ∧ m (Str.ofString "levels") = some (.ref lvA) ∧ m (Str.ofString "level") = some (.ref lA)

local macro_rules | `(tactic| walk_at "call ref") => `(tactic| (k_here; (with_reducible show wpAny _ _ (call (Value.ref 64) _) _ _ _); k_extra "MY user"))
set_option maxRecDepth 100000 in
set_option maxHeartbeats 8000000 in
theorem c_regrown (w : World) (mean : ExcName → Option Value) (mg mb : Str → Option Value) (nm nt : Addr) (ws ds : List Value) (c d : Nat) (xs den : List Str) (led' led'' : List (Addr × Obj)) (hx : DatAll led' ws (xs.map Dat.str)) (hds : DatAll led'' ds (den.map Dat.str)) (hon : ∀ y ∈ den, okS y) (hON : okN xs) (hl : xs.length ≤ 3) :
    Claim 6 w mean mg mb 144 [.ref nm, .ref nt] [(nm, W.listOf ws.toArray c), (nt, W.listOf ds.toArray d)] (regP (regok xs den) xs.length) := by
  unfold Claim
  k_fill
  intro dp un gd cn cs a ccd cl outer A₀ base h₀ L m s Q E hB hF hX hN hT hk hd hu hret
  refine wpAny_call ?_
  k_dflt (refine' enterP ?k1 ?k2 ?k3 ?k4 ?k5 ?kA ?kF ?kK ?k6 ?k7 ?k8 ?k9 ?kB ?_ ?c2 ?c3 ?c4 ?c5; (case kA => exact rfl); (case kF => exact rfl); (case kK => assumption); (case k1 => k_asm); (case k2 => k_asm); (case k3 => k_asm); (case k4 => k_asm); (case k5 => k_asm); (case k6 => k_is); (case k7 => k_is); (case k8 => ktr_room); (case k9 => exact BindsTo.of_eq rfl); (case c5 => decide); (case kB => exact locs rfl); (case c2 => exact rfl); (case c3 => exact rfl); (case c4 => exact rfl); k_whole; intro g9 L9 h9 hH FG9 F9 N9 B9 X9 T9; (try dsimp only); (try k_lift B9); (try k_fold))
  k_steps
  rename_i lvA h4 l1b h3 tk0 r0 h2 l1c lA h1 l1d hh F1 N1
  refine ⟨g9, _, [(lvA, W.listOf ([] : List Value).toArray 0), (nm, W.listOf ws.toArray c), (nt, W.listOf ds.toArray d), (lA, W.listOf [Value.ref r0].toArray 0), (r0, W.listOf ([] : List Value).toArray 0)], regW (regok xs den) xs.length lvA nm nt (W.listOf ws.toArray c) (W.listOf ds.toArray d), 9, F1, ?n0, ?j0, ?turn⟩
  case n0 =>
    intro p hp
    refine N1 p ?_
    revert p
    walk_at "MINE subs"
  case j0 =>
    refine ⟨[], 0, lA, [Value.ref r0], 0, [(r0, W.listOf ([] : List Value).toArray 0)], [[]], [], rfl, ⟨?_, ?_, ?_, ?_, ?_⟩, ?_, ?_, ?_, .nil, .cons (list_in (List.Mem.head _) .nil) .nil, rfl, rfl, ?_, ?_, rfl, rfl, rfl, rfl⟩
    all_goals first | (refine neN ?_; omega) | (intro p hp; rw [List.mem_singleton.mp hp]; refine neN ?_; dsimp only; omega) | skip
    · intro r hr
      rw [List.mem_singleton.mp hr]; exact ⟨rfl, fun _ h => nomatch h⟩
    · exact Nat.le_refl _
  case turn =>
    clear F1 N1 l1b l1c l1d
    rintro k m₁ nx h₁ tk₁ ⟨lv, c1, lB, rows, c3, rest, level, levels, rfl, ⟨e1, e2, e4, e5, e6⟩, a1, a2, a3, D1, D2, hA, hlen, hrows, hll, hm1, hm2, hm3, hm4⟩ F₁ N₁
    replace F₁ : Fr g9 L9 h₁ m₁ := F₁
    replace N₁ : News g9 L9 h₁ _ := N₁
    have F2 := fr_at (x := Str.ofString "names") F₁ hm1
    have F3 := fr_at (x := Str.ofString "noted") F2 (by rw [if_neg (by decide)]; exact hm2)
    have F4 := fr_at (x := Str.ofString "levels") F3 (by rw [if_neg (by decide), if_neg (by decide)]; exact hm3)
    have F5 := fr_at (x := Str.ofString "level") F4 (by rw [if_neg (by decide), if_neg (by decide), if_neg (by decide)]; exact hm4)
    clear F₁ F2 F3 F4
    have hlvl : lv.length = levels.length := by rw [D1.length, List.length_map]
    have close : ∀ {lX : Addr} {h' : Heap} {tk' : Nat} {m' : Str → Option Value} {x0 : Addr × Obj}, levels = (askF (regok xs den) xs.length 9 [[]]).1 → Fr g9 L9 h' m' → News g9 L9 h' (x0 :: (lvA, W.listOf (List.toArray lv) c1) :: (nm, W.listOf ws.toArray c) :: (nt, W.listOf ds.toArray d) :: (lB, W.listOf (List.toArray rows) c3) :: rest) → Q (.ref lvA) { s with heap := h', toks := tk' } := by
      intro lX h' tk' m' x0 hlv FT NT
      refine claim_ret hret hN hH FT NT ?l (own := (lvA, W.listOf (List.toArray lv) c1) :: rest) ?o ?x ⟨lvA, lv, c1, rfl, .head _, by rw [← hlv]; exact D1.mono fun p hp => .tail _ hp⟩
      case l =>
        intro p hp
        rcases List.mem_cons.mp hp with rfl | hp
        · k_mem
        · rw [List.mem_singleton.mp hp]; k_mem
      case o =>
        intro p hp
        rcases List.mem_cons.mp hp with rfl | hp
        · k_mem
        · walk_at "MINE up"
      case x =>
        intro p hp hx
        have hx' : p.1 = nm ∨ p.1 = nt := by
          rcases List.mem_cons.mp hx with h | h
          · exact .inl h
          · exact .inr (List.mem_singleton.mp h)
        rcases List.mem_cons.mp hp with rfl | hp
        · rcases hx' with h | h
          · exact e1 h
          · exact e2 h
        · rcases hx' with h | h
          · exact a2 p hp h
          · exact a3 p hp h
    by_cases hlv : level = []
    · k_with "MY ne" => (refine level_ne5 (by assumption) D2 (b := false) (by subst hlv; rfl) ?_ ?hu; (case hu => ktr_units))
      k_steps
      rw [hlv, askF_nil, List.append_nil] at hA
      exact close (lX := lvA) hA (by assumption) (by assumption)
    · have hwl : ws.length = xs.length := by rw [hx.length, List.length_map]
      have hline : lv.length + 1 ≤ sizeLine := by rw [sizeLine_eq]; omega
      k_with "MY ne" => (refine level_ne5 (by assumption) D2 (b := true) (by rw [decide_eq_true hlv]) ?_ ?hu; (case hu => ktr_units))
      k_with "MY len" => (refine len_at (by assumption) (by k_mem) (by first | exact hlvl | exact hwl) (by omega) ?_; intro _ _)
      k_steps
      · rename_i D0 h3 l3 t3 k3 hq tk3 h4 loA h5 l5 h6 F6 N6
        have hk8 : levels.length ≤ 8 := by omega
        obtain ⟨_, p2, p3, p4, p5, p6⟩ := l5
        have g1 : lvA ≠ loA := Nat.ne_of_lt p2
        have g2 : nm ≠ loA := Nat.ne_of_lt p3
        have g3 : nt ≠ loA := Nat.ne_of_lt p4
        have g4 : lB ≠ loA := Nat.ne_of_lt p5
        have g5 : ∀ p ∈ rest, p.1 ≠ loA := fun p hp => Nat.ne_of_lt (allLt_mem p6 p hp)
        replace N6 : News g9 L9 h6 ((loA, W.listOf ([] : List Value).toArray 0) :: (lvA, W.listOf (lv ++ [Value.ref lB]).toArray (c1 + 1)) :: (nm, W.listOf ws.toArray c) :: (nt, W.listOf ds.toArray d) :: (lB, W.listOf rows.toArray c3) :: (rest ++ [])) := by
          intro p hp
          refine N6 p ?_
          revert p
          walk_at "MINE subs"
        refine loop_list (nn := c3) (vs := rows) (fun i => regL loA lvA nm nt lB (W.listOf ws.toArray c) (W.listOf ds.toArray d) (W.listOf (lv ++ [Value.ref lB]).toArray (c1 + 1)) (W.listOf rows.toArray c3) rest [] ((level.take i).flatMap (extF (regok xs den) xs.length))) rfl F6 N6 (by k_mem) ?j2 ?turn2 ?done2
        case j2 =>
          refine ⟨[], 0, rest, rfl, fun _ h => h, fun p hp => ?_, (fun _ h => nomatch h), .nil, rfl, rfl, rfl, rfl, rfl⟩
          rw [List.append_nil] at hp
          exact ⟨g5 p hp, a1 p hp, a2 p hp, a3 p hp⟩
        case turn2 =>
          rintro i v m₂ nx₂ h₂ tk₂ its hv ⟨los, c', rest', rfl, hsub, hap, _, DL, n1, n2, n3, n4, n5⟩ ha hkeep G₁ M₁
          obtain ⟨r, ra, us, cr, hr, rfl, hmem, hI⟩ := row_get D2 hv
          have hil : i < level.length := (List.getElem?_eq_some_iff.mp hr).1
          have hrok := hrows r (List.mem_of_getElem? hr)
          replace G₁ : Fr g9 L9 h₂ m₂ := G₁
          have G2 := fr_at (x := Str.ofString "names") G₁ n1
          have G3 := fr_at (x := Str.ofString "noted") G2 (by rw [if_neg (by decide)]; exact n2)
          have G4 := fr_at (x := Str.ofString "levels") G3 (by rw [if_neg (by decide), if_neg (by decide)]; exact n3)
          have G5 := fr_at (x := Str.ofString "level") G4 (by rw [if_neg (by decide), if_neg (by decide), if_neg (by decide)]; exact n4)
          have G6 := fr_at (x := Str.ofString "longer") G5 (by rw [if_neg (by decide), if_neg (by decide), if_neg (by decide), if_neg (by decide)]; exact n5)
          clear G₁ G2 G3 G4 G5 F6 N6
          rw [List.append_nil] at M₁ ha hap
          simp only [List.cons_append] at M₁
          replace M₁ : News g9 L9 h₂ _ := M₁
          k_steps
          rename_i h7 F7 N7 t7 k7
          refine loop_rangeN xs.length (fun j m nx => regL loA lvA nm nt lB (W.listOf ws.toArray c) (W.listOf ds.toArray d) (W.listOf (lv ++ [Value.ref lB]).toArray (c1 + 1)) (W.listOf rows.toArray c3) rest its ((level.take i).flatMap (extF (regok xs den) xs.length) ++ (moreF j r).filter (regok xs den)) m nx ∧ m (Str.ofString "row") = some (.ref ra)) rfl rfl (by omega) F7 N7 ?j3 ?turn3 ?done3
          case j3 =>
            refine ⟨⟨los, c', rest', rfl, hsub, fun p hp => ?_, fun p hp q hq => ?_, ?_, rfl, rfl, rfl, rfl, rfl⟩, rfl⟩
            · rcases List.mem_append.mp hp with hp | hp
              · exact hap p hp
              · exact ⟨ha p hp _ (.head _), ha p hp _ (.tail _ (.head _)), ha p hp _ (.tail _ (.tail _ (.head _))), ha p hp _ (.tail _ (.tail _ (.tail _ (.head _))))⟩
            · exact ha p hp q (.tail _ (.tail _ (.tail _ (.tail _ (.tail _ hq)))))
            · simpa [moreF] using DL
          case turn3 =>
            have hrl : ∀ j : Nat, (r ++ [(j : Int)]).length ≤ 20 := fun j => by rw [List.length_append, List.length_singleton, hrok.1]; omega
            rintro j v m₃ nx₃ h₃ tk₃ its3 ⟨hj, tj, rfl⟩ ⟨⟨los3, c3', rest3, rfl, hsub3, hap3, hits3, DL3, q1, q2, q3, q4, q5⟩, q7⟩ ha3 _ K₁ P₁
            replace K₁ : Fr g9 L9 h₃ m₃ := K₁
            have K2 := fr_at (x := Str.ofString "names") K₁ q1
            have K3 := fr_at (x := Str.ofString "noted") K2 (by rw [if_neg (by decide)]; exact q2)
            have K4 := fr_at (x := Str.ofString "levels") K3 (by rw [if_neg (by decide), if_neg (by decide)]; exact q3)
            have K5 := fr_at (x := Str.ofString "level") K4 (by rw [if_neg (by decide), if_neg (by decide), if_neg (by decide)]; exact q4)
            have K6 := fr_at (x := Str.ofString "longer") K5 (by rw [if_neg (by decide), if_neg (by decide), if_neg (by decide), if_neg (by decide)]; exact q5)
            have K7 := fr_at (x := Str.ofString "row") K6 (by rw [if_neg (by decide), if_neg (by decide), if_neg (by decide), if_neg (by decide), if_neg (by decide)]; exact q7)
            clear K₁ K2 K3 K4 K5 K6 F7 N7
            have hmem3 : (ra, W.listOf us.toArray cr) ∈ rest3 := hsub3 _ hmem
            have r1 : ra ≠ loA := (hap3 _ (List.mem_append_left _ hmem3)).1
            have hmem4 := List.mem_append_left (its ++ its3) hmem3
            simp only [List.cons_append, List.append_assoc] at P₁
            replace P₁ : News g9 L9 h₃ ((loA, W.listOf los3.toArray c3') :: (lvA, W.listOf (lv ++ [Value.ref lB]).toArray (c1 + 1)) :: (nm, W.listOf ws.toArray c) :: (nt, W.listOf ds.toArray d) :: (lB, W.listOf rows.toArray c3) :: (ra, W.listOf us.toArray cr) :: (rest3 ++ (its ++ its3))) := by
              intro p hp
              refine P₁ p ?_
              revert p
              walk_at "MINE subs"
            have hT1 : ∀ p ∈ rest3 ++ (its ++ its3), p.1 ≠ loA := fun p hp => by
              rw [← List.append_assoc] at hp
              rcases List.mem_append.mp hp with hp | hp
              · exact (hap3 p hp).1
              · exact ha3 p hp _ (.head _)
            have hjok : ∀ k ∈ r ++ [(j : Int)], 0 ≤ k ∧ k < (xs.length : Int) := fun k hk => by
              rcases List.mem_append.mp hk with hk | hk
              · exact hrok.2 k hk
              · rw [List.mem_singleton.mp hk]; omega
            have hx10 : ∀ x ∈ xs, x.length ≤ 10 := fun x hx => (hON x hx).1
            have hxl20 : xs.length ≤ 20 := by omega
            have hlB : level.length ≤ 6561 := Nat.le_trans hll (Nat.le_trans (Nat.pow_le_pow_right (by decide) hk8) (by decide))
            have hti : (level.take i).length ≤ 6561 := by rw [List.length_take]; omega
            have hb1 : ((level.take i).flatMap (extF (regok xs den) xs.length)).length ≤ 19683 := Nat.le_trans (flat_len (ext_len _ _) _) (Nat.le_trans (Nat.mul_le_mul hti hl) (by decide))
            have hline1 : los3.length + 1 ≤ sizeLine := by
              have h1 := DL3.length
              have h2 := List.length_filter_le (regok xs den) (moreF j r)
              rw [more_len] at h2
              rw [List.length_map, List.length_append] at h1
              rw [sizeLine_eq]; omega
            have hrl8 : r.length ≤ 8 := by rw [hrok.1]; exact hk8
            have hhost := okS_host hON (hrl j)
            have hfit : (Str.ofString "x").length + (domS (r ++ [(j : Int)]) xs).length ≤ sizeLine := by
              have := hhost.2
              unfold hostS at this
              rw [Str.length_append] at this
              rw [sizeLine_eq]; omega
            k_with "MY dom" => ((with_reducible rename IntsAre _ (_ ++ _) => hI9); k_dflt (refine' claim_useL (c_domain _ _ _ _ _ _ _ _ _ _ (r ++ [(j : Int)]) xs led' (ints_dat hI9) hx hjok (hrl j) hx10 hxl20) ?B ?F ?X ?N ?hs ?T ?hk ?hd ?hu ?_; walk_at "MINE use"; (case hs => intro p hp; rcases List.mem_cons.mp hp with rfl | hp; k_mem; rcases List.mem_cons.mp hp with rfl | hp; k_mem; cases hp); intro v9 h9 tk9 e9 F9 N9; obtain ⟨t9, e9⟩ := e9; subst e9; (try dsimp only); (try k_fold)))
            have b1 : ∀ p ∈ its3, p.1 ≠ loA ∧ p.1 ≠ lvA ∧ p.1 ≠ nm ∧ p.1 ≠ nt ∧ p.1 ≠ lB := fun p hp => ⟨ha3 p hp _ (.head _), ha3 p hp _ (.tail _ (.head _)), ha3 p hp _ (.tail _ (.tail _ (.head _))), ha3 p hp _ (.tail _ (.tail _ (.tail _ (.head _)))), ha3 p hp _ (.tail _ (.tail _ (.tail _ (.tail _ (.head _)))))⟩
            have b2 : ∀ p ∈ its3, ∀ q ∈ rest3 ++ its, p.1 ≠ q.1 := fun p hp q hq => ha3 p hp q (.tail _ (.tail _ (.tail _ (.tail _ (.tail _ hq)))))
            have b3 : ∀ p ∈ rest3 ++ its, p ∈ rest3 ++ (its ++ its3) := fun p hp => by rw [← List.append_assoc]; exact List.mem_append_left _ hp
            have b4 : ∀ p ∈ its3, p ∈ rest3 ++ (its ++ its3) := fun p hp => List.mem_append_right _ (List.mem_append_right _ hp)
            k_steps
            rename_i s1 tkq l2 s2 o1 D1r us1 s3 o2 tH kH aH s4 s5 F8 N8
            have hhost' : okS (Str.ofString "x" ++ domS (r ++ [(j : Int)]) xs) := hhost
            refine loop_list (nn := d) (vs := ds) (fun jj m nx => nx = ((D1r, W.listOf us1.toArray 0) :: (l2, W.listOf #[Value.int (j : Int) tj] 0) :: (loA, W.listOf los3.toArray c3') :: (lvA, W.listOf (lv ++ [Value.ref lB]).toArray (c1 + 1)) :: (nm, W.listOf ws.toArray c) :: (nt, W.listOf ds.toArray d) :: (lB, W.listOf rows.toArray c3) :: (ra, W.listOf us.toArray cr) :: (rest3 ++ (its ++ its3))) ∧ (den.take jj).any (fun y => userM (hostS (r ++ [(j : Int)]) xs) y) = false ∧ m (Str.ofString "names") = some (.ref nm) ∧ m (Str.ofString "noted") = some (.ref nt) ∧ m (Str.ofString "levels") = some (.ref lvA) ∧ m (Str.ofString "level") = some (.ref lB) ∧ m (Str.ofString "longer") = some (.ref loA) ∧ m (Str.ofString "row") = some (.ref ra) ∧ m (Str.ofString "k") = some (.int (j : Int) tj) ∧ m (Str.ofString "host") = some (.str (Str.ofString "x" ++ domS (r ++ [(j : Int)]) xs) tH) ∧ m (Str.ofString "under") = some (.bool false)) rfl F8 N8 (by k_mem) ⟨rfl, rfl, rfl, rfl, rfl, rfl, rfl, rfl, rfl, rfl, rfl⟩ ?turn4 ?done4
            case turn4 =>
              rintro jj v m₅ nx₅ h₅ tk₅ its4 hv4 ⟨rfl, hno, u1, u2, u3, u4, u5, u6, u7, u8, u9⟩ ha4 _ R₁ S₁
              obtain ⟨y, hy, ty, rfl⟩ : ∃ y, den[jj]? = some y ∧ ∃ ty, v = .str y ty := by
                have hl4 := hds.length
                rw [List.length_map] at hl4
                have hjj : jj < den.length := by
                  have := (List.getElem?_eq_some_iff.mp hv4).1
                  omega
                obtain ⟨v', hv', hD⟩ := dat_get hds (k := jj) (d := Dat.str den[jj]) (by rw [List.getElem?_map, List.getElem?_eq_getElem hjj]; rfl)
                rw [hv4] at hv'
                cases hv'
                refine ⟨den[jj], List.getElem?_eq_getElem hjj, ?_⟩
                generalize den[jj] = y at hD
                cases hD with
                | str _ ty => exact ⟨ty, rfl⟩
              have hdo : okS y := hon y (List.mem_of_getElem? hy)
              replace R₁ : Fr g9 L9 h₅ m₅ := R₁
              have R2 := fr_at (x := Str.ofString "names") R₁ u1
              have R3 := fr_at (x := Str.ofString "noted") R2 (by rw [if_neg (by decide)]; exact u2)
              have R4 := fr_at (x := Str.ofString "levels") R3 (by rw [if_neg (by decide), if_neg (by decide)]; exact u3)
              have R5 := fr_at (x := Str.ofString "level") R4 (by rw [if_neg (by decide), if_neg (by decide), if_neg (by decide)]; exact u4)
              have R6 := fr_at (x := Str.ofString "longer") R5 (by rw [if_neg (by decide), if_neg (by decide), if_neg (by decide), if_neg (by decide)]; exact u5)
              have R7 := fr_at (x := Str.ofString "row") R6 (by rw [if_neg (by decide), if_neg (by decide), if_neg (by decide), if_neg (by decide), if_neg (by decide)]; exact u6)
              have R8 := fr_at (x := Str.ofString "k") R7 (by rw [if_neg (by decide), if_neg (by decide), if_neg (by decide), if_neg (by decide), if_neg (by decide), if_neg (by decide)]; exact u7)
              have R9 := fr_at (x := Str.ofString "host") R8 (by rw [if_neg (by decide), if_neg (by decide), if_neg (by decide), if_neg (by decide), if_neg (by decide), if_neg (by decide), if_neg (by decide)]; exact u8)
              have R10 := fr_at (x := Str.ofString "under") R9 (by rw [if_neg (by decide), if_neg (by decide), if_neg (by decide), if_neg (by decide), if_neg (by decide), if_neg (by decide), if_neg (by decide), if_neg (by decide)]; exact u9)
              clear R₁ R2 R3 R4 R5 R6 R7 R8 R9 F8 N8
              simp only [List.cons_append] at S₁
              replace S₁ : News g9 L9 h₅ _ := S₁
              k_with "MY user" => (k_dflt (refine' claim_useV (c_user _ _ _ _ (Str.ofString "x" ++ domS (r ++ [(j : Int)]) xs) y _ _ hhost' hdo) ?B ?F ?X ?N ?T ?hk ?hd ?hu ?_; walk_at "MINE use"; intro v9 h9 tk9 e9 F9 N9; subst e9; (try dsimp only); (try k_fold)))
              k_steps
              · rename_i hum hz FZ NZ
                refine TEnd.intro ((loA, W.listOf los3.toArray c3') :: (lvA, W.listOf (lv ++ [Value.ref lB]).toArray (c1 + 1)) :: (nm, W.listOf ws.toArray c) :: (nt, W.listOf ds.toArray d) :: (lB, W.listOf rows.toArray c3) :: (rest3 ++ its)) FZ NZ ?zi1 ?zn1 ?za1 (fun _ h => nomatch h) ⟨⟨los3, c3', rest3, rfl, hsub3, hap3, hits3, ?zL1, rfl, rfl, rfl, rfl, rfl⟩, rfl⟩
                case zi1 => intro p hp; have hp := List.mem_append_left its4 (b4 p hp); walk_at "MINE up"
                case zn1 =>
                  intro p hp
                  rcases List.mem_cons.mp hp with rfl | hp; k_mem
                  rcases List.mem_cons.mp hp with rfl | hp; k_mem
                  rcases List.mem_cons.mp hp with rfl | hp; k_mem
                  rcases List.mem_cons.mp hp with rfl | hp; k_mem
                  rcases List.mem_cons.mp hp with rfl | hp; k_mem
                  have hp := List.mem_append_left its4 (b3 p hp); walk_at "MINE up"
                case za1 =>
                  intro p hp q hq
                  obtain ⟨y1, y2, y3, y4, y5⟩ := b1 p hp
                  rcases List.mem_cons.mp hq with rfl | hq; exact y1
                  rcases List.mem_cons.mp hq with rfl | hq; exact y2
                  rcases List.mem_cons.mp hq with rfl | hq; exact y3
                  rcases List.mem_cons.mp hq with rfl | hq; exact y4
                  rcases List.mem_cons.mp hq with rfl | hq; exact y5
                  exact b2 p hp q hq
                case zL1 =>
                  rw [filter_skip (p := regok xs den) (by show (!(den.any fun d => userM (hostS (r ++ [(j : Int)]) xs) d)) = false; rw [List.any_eq_true (p := fun d => userM (hostS (r ++ [(j : Int)]) xs) d) |>.mpr ⟨y, List.mem_of_getElem? hy, hum⟩]; rfl)]
                  exact DL3
              · rename_i hum
                refine TEnd.intro ((D1r, W.listOf us1.toArray 0) :: (l2, W.listOf #[Value.int (j : Int) tj] 0) :: (loA, W.listOf los3.toArray c3') :: (lvA, W.listOf (lv ++ [Value.ref lB]).toArray (c1 + 1)) :: (nm, W.listOf ws.toArray c) :: (nt, W.listOf ds.toArray d) :: (lB, W.listOf rows.toArray c3) :: (ra, W.listOf us.toArray cr) :: (rest3 ++ (its ++ its3))) (by assumption) (by assumption) ?zi2 ?zn2 ha4 ?zk2 ⟨rfl, ?zh2, rfl, rfl, rfl, rfl, rfl, rfl, rfl, rfl, rfl⟩
                case zi2 => intro p hp; have hp := List.mem_append_right (rest3 ++ (its ++ its3)) hp; walk_at "MINE up"
                case zn2 =>
                  intro p hp
                  rcases List.mem_cons.mp hp with rfl | hp; k_mem
                  rcases List.mem_cons.mp hp with rfl | hp; k_mem
                  rcases List.mem_cons.mp hp with rfl | hp; k_mem
                  rcases List.mem_cons.mp hp with rfl | hp; k_mem
                  rcases List.mem_cons.mp hp with rfl | hp; k_mem
                  rcases List.mem_cons.mp hp with rfl | hp; k_mem
                  rcases List.mem_cons.mp hp with rfl | hp; k_mem
                  rcases List.mem_cons.mp hp with rfl | hp; k_mem
                  have hp := List.mem_append_left its4 hp; walk_at "MINE up"
                case zk2 => intro p hp; rw [List.mem_singleton.mp hp]; k_mem
                case zh2 =>
                  rw [List.take_add_one, hy, List.any_append, hno]
                  show (false || (userM (hostS (r ++ [(j : Int)]) xs) y || false)) = false
                  rw [show userM (hostS (r ++ [(j : Int)]) xs) y = false from hum]; rfl
            case done4 =>
              rintro h5 tk5 m₅ nx₅ ⟨rfl, hno, u1, u2, u3, u4, u5, u6, u7, u8, u9⟩ _ R₁ S₁
              have hdl : (den.take ds.length) = den := by
                have hl4 := hds.length
                rw [List.length_map] at hl4
                rw [hl4, List.take_length]
              rw [hdl] at hno
              replace R₁ : Fr g9 L9 h5 m₅ := R₁
              have R2 := fr_at (x := Str.ofString "names") R₁ u1
              have R3 := fr_at (x := Str.ofString "noted") R2 (by rw [if_neg (by decide)]; exact u2)
              have R4 := fr_at (x := Str.ofString "levels") R3 (by rw [if_neg (by decide), if_neg (by decide)]; exact u3)
              have R5 := fr_at (x := Str.ofString "level") R4 (by rw [if_neg (by decide), if_neg (by decide), if_neg (by decide)]; exact u4)
              have R6 := fr_at (x := Str.ofString "longer") R5 (by rw [if_neg (by decide), if_neg (by decide), if_neg (by decide), if_neg (by decide)]; exact u5)
              have R7 := fr_at (x := Str.ofString "row") R6 (by rw [if_neg (by decide), if_neg (by decide), if_neg (by decide), if_neg (by decide), if_neg (by decide)]; exact u6)
              have R8 := fr_at (x := Str.ofString "k") R7 (by rw [if_neg (by decide), if_neg (by decide), if_neg (by decide), if_neg (by decide), if_neg (by decide), if_neg (by decide)]; exact u7)
              have R9 := fr_at (x := Str.ofString "host") R8 (by rw [if_neg (by decide), if_neg (by decide), if_neg (by decide), if_neg (by decide), if_neg (by decide), if_neg (by decide), if_neg (by decide)]; exact u8)
              have R10 := fr_at (x := Str.ofString "under") R9 (by rw [if_neg (by decide), if_neg (by decide), if_neg (by decide), if_neg (by decide), if_neg (by decide), if_neg (by decide), if_neg (by decide), if_neg (by decide)]; exact u9)
              clear R₁ R2 R3 R4 R5 R6 R7 R8 R9 F8 N8
              replace S₁ : News g9 L9 h5 _ := S₁
              k_steps
              rename_i lx sx1 ox1 D2' us2 sx2 hI2 o2 sx3 FZ NZ
              simp only [List.push_toArray] at NZ
              obtain ⟨o2a, o2b, o2c, o2d, o2e, o2f, o2g, o2h, o2i, o2j⟩ := o2
              have o2k := allLt_mem o2j
              refine TEnd.intro ((loA, W.listOf (los3 ++ [Value.ref D2']).toArray (c3' + 1)) :: (lvA, W.listOf (lv ++ [Value.ref lB]).toArray (c1 + 1)) :: (nm, W.listOf ws.toArray c) :: (nt, W.listOf ds.toArray d) :: (lB, W.listOf rows.toArray c3) :: (((D2', W.listOf us2.toArray 0) :: rest3) ++ its)) FZ NZ ?zi3 ?zn3 ?za3 (fun _ h => nomatch h)
                ⟨⟨los3 ++ [Value.ref D2'], c3' + 1, (D2', W.listOf us2.toArray 0) :: rest3, rfl, fun p hp => .tail _ (hsub3 p hp), ?zp3, ?zq3, ?zL3, rfl, rfl, rfl, rfl, rfl⟩, rfl⟩
              case zi3 => intro p hp; have hp := b4 p hp; walk_at "MINE up"
              case zn3 =>
                intro p hp
                rcases List.mem_cons.mp hp with rfl | hp; k_mem
                rcases List.mem_cons.mp hp with rfl | hp; k_mem
                rcases List.mem_cons.mp hp with rfl | hp; k_mem
                rcases List.mem_cons.mp hp with rfl | hp; k_mem
                rcases List.mem_cons.mp hp with rfl | hp; k_mem
                rcases List.mem_cons.mp hp with rfl | hp; k_mem
                have hp := b3 p hp; walk_at "MINE up"
              case za3 =>
                intro p hp q hq
                obtain ⟨y1, y2, y3, y4, y5⟩ := b1 p hp
                rcases List.mem_cons.mp hq with rfl | hq; exact y1
                rcases List.mem_cons.mp hq with rfl | hq; exact y2
                rcases List.mem_cons.mp hq with rfl | hq; exact y3
                rcases List.mem_cons.mp hq with rfl | hq; exact y4
                rcases List.mem_cons.mp hq with rfl | hq; exact y5
                rcases List.mem_cons.mp hq with rfl | hq; exact Nat.ne_of_lt (o2k p (b4 p hp))
                exact b2 p hp q hq
              case zp3 =>
                intro p hp
                rcases List.mem_cons.mp hp with rfl | hp
                · exact ⟨Nat.ne_of_gt o2d, Nat.ne_of_gt o2e, Nat.ne_of_gt o2f, Nat.ne_of_gt o2g⟩
                · exact hap3 p hp
              case zq3 =>
                intro p hp q hq
                rcases List.mem_cons.mp hq with rfl | hq
                · exact Nat.ne_of_lt (o2k p (b3 p (List.mem_append_right _ hp)))
                · exact hits3 p hp q hq
              case zL3 =>
                rw [filter_step (p := regok xs den) (by show (!(den.any _)) = true; rw [hno]; rfl), ← List.append_assoc, List.map_append]
                exact (DL3.mono fun p hp => .tail _ hp).append (DatAll.one (list_in (.head _) hI2))
          case done3 =>
            clear F7 N7
            rintro h8 tk8 m₈ nx₈ ⟨⟨los3, c3', rest3, rfl, hsub3, hap3, hits3, DL3, q1, q2, q3, q4, q5⟩, q7⟩ _ K₁ P₁
            replace K₁ : Fr g9 L9 h8 m₈ := K₁
            replace P₁ : News g9 L9 h8 _ := P₁
            k_steps
            refine TEnd.intro ((loA, W.listOf los3.toArray c3') :: (lvA, W.listOf (lv ++ [Value.ref lB]).toArray (c1 + 1)) :: (nm, W.listOf ws.toArray c) :: (nt, W.listOf ds.toArray d) :: (lB, W.listOf rows.toArray c3) :: (rest3 ++ [])) K₁ P₁ ?zi4 ?zn4 ?za4 ?zk4
              ⟨los3, c3', rest3, rfl, hsub3, ?zp4, (fun _ h => nomatch h), ?zL4, q1, q2, q3, q4, q5⟩
            case zi4 => intro p hp; have hp := List.mem_append_right rest3 hp; walk_at "MINE up"
            case zn4 =>
              intro p hp
              rcases List.mem_cons.mp hp with rfl | hp; k_mem
              rcases List.mem_cons.mp hp with rfl | hp; k_mem
              rcases List.mem_cons.mp hp with rfl | hp; k_mem
              rcases List.mem_cons.mp hp with rfl | hp; k_mem
              rcases List.mem_cons.mp hp with rfl | hp; k_mem
              rw [List.append_nil] at hp; have hp := List.mem_append_left its hp; walk_at "MINE up"
            case za4 =>
              intro p hp q hq
              obtain ⟨y1, y2, y3, y4⟩ := hap3 p (List.mem_append_right _ hp)
              rcases List.mem_cons.mp hq with rfl | hq; exact y1
              rcases List.mem_cons.mp hq with rfl | hq; exact y2
              rcases List.mem_cons.mp hq with rfl | hq; exact y3
              rcases List.mem_cons.mp hq with rfl | hq; exact y4
              rcases List.mem_cons.mp hq with rfl | hq; exact ha p hp _ (.tail _ (.tail _ (.tail _ (.tail _ (.head _)))))
              rw [List.append_nil] at hq
              exact hits3 p hp q hq
            case zk4 => intro p hp; rw [List.mem_singleton.mp hp]; k_mem
            case zp4 =>
              intro p hp
              rw [List.append_nil] at hp
              exact hap3 p (List.mem_append_left _ hp)
            case zL4 => rw [flat_step hr]; exact DL3
        case done2 =>
          rintro h8 tk8 m₈ nx₈ ⟨los, c', rest', rfl, hsub, hap, _, DL, n1, n2, n3, n4, n5⟩ _ K₁ P₁
          replace K₁ : Fr g9 L9 h8 m₈ := K₁
          have K2 := fr_at (x := Str.ofString "names") K₁ n1
          have K3 := fr_at (x := Str.ofString "noted") K2 (by rw [if_neg (by decide)]; exact n2)
          have K4 := fr_at (x := Str.ofString "levels") K3 (by rw [if_neg (by decide), if_neg (by decide)]; exact n3)
          have K5 := fr_at (x := Str.ofString "level") K4 (by rw [if_neg (by decide), if_neg (by decide), if_neg (by decide)]; exact n4)
          have K6 := fr_at (x := Str.ofString "longer") K5 (by rw [if_neg (by decide), if_neg (by decide), if_neg (by decide), if_neg (by decide)]; exact n5)
          clear K₁ K2 K3 K4 K5 F6 N6
          rw [List.append_nil] at P₁ hap
          replace P₁ : News g9 L9 h8 _ := P₁
          have hrl : rows.length = level.length := by rw [D2.length, List.length_map]
          rw [hrl, List.take_length] at DL
          k_steps
          rename_i hz FZ NZ
          obtain ⟨k', rfl⟩ : ∃ k', k = k' + 1 := ⟨k - 1, by omega⟩
          rw [askF_step hlv] at hA
          refine WEnd.intro k' ((lvA, W.listOf (lv ++ [Value.ref lB]).toArray (c1 + 1)) :: (nm, W.listOf ws.toArray c) :: (nt, W.listOf ds.toArray d) :: (loA, W.listOf los.toArray c') :: (lB, W.listOf rows.toArray c3) :: rest') (Nat.lt_succ_self k') FZ NZ ?zn5
            ⟨lv ++ [Value.ref lB], c1 + 1, loA, los, c', (lB, W.listOf rows.toArray c3) :: rest', longF (regok xs den) xs.length level, levels ++ [level], rfl, ⟨e1, e2, g1.symm, g2.symm, g3.symm⟩, ?zp5, ?zq5, ?zr5, ?zD5, DL.mono fun p hp => .tail _ hp, ?zA5, ?zl5, ?zr6, ?zl6, rfl, rfl, rfl, rfl⟩
          case zn5 =>
            intro p hp
            rcases List.mem_cons.mp hp with rfl | hp; k_mem
            rcases List.mem_cons.mp hp with rfl | hp; k_mem
            rcases List.mem_cons.mp hp with rfl | hp; k_mem
            rcases List.mem_cons.mp hp with rfl | hp; k_mem
            rcases List.mem_cons.mp hp with rfl | hp; k_mem
            walk_at "MINE up"
          case zp5 =>
            intro p hp
            rcases List.mem_cons.mp hp with rfl | hp
            · exact e4
            · exact (hap p hp).2.1
          case zq5 =>
            intro p hp
            rcases List.mem_cons.mp hp with rfl | hp
            · exact e5
            · exact (hap p hp).2.2.1
          case zr5 =>
            intro p hp
            rcases List.mem_cons.mp hp with rfl | hp
            · exact e6
            · exact (hap p hp).2.2.2
          case zD5 =>
            rw [List.map_append]
            exact (D1.mono fun p hp => .tail _ (hsub p hp)).append (DatAll.one (DatIn.list (.head _) (D2.mono fun p hp => .tail _ (hsub p hp))))
          case zA5 => rw [List.append_assoc]; exact hA
          case zl5 => rw [List.length_append, List.length_singleton]; omega
          case zr6 => rw [List.length_append, List.length_singleton]; exact hrows.long
          case zl6 =>
            rw [List.length_append, List.length_singleton, Nat.pow_succ]
            exact Nat.le_trans (flat_len (ext_len _ _) _) (Nat.mul_le_mul hll hl)
      · have hk0 : k = 0 := by omega
        subst hk0
        rw [show askF (regok xs den) xs.length 0 level = ([], []) from rfl, List.append_nil] at hA
        exact close (lX := lvA) hA (by assumption) (by assumption)
end Mine
end

-- S1
section
theorem Mine.reset_S1 : True := by
  w_top off
  k_with_none
  exact trivial
open PySem PySem.W PyProof.Rows PySem.Spec PySem.Calls
set_option Elab.async false
set_option linter.unusedVariables false
set_option pp.deepTerms false
set_option pp.deepTerms.threshold 8
namespace Mine
/-- a row's stretches -/
def sliceF (ns : List Int) (k size : Nat) : List Int := (ns.drop k).take size
def winF (ns : List Int) (size j : Nat) : List (List Int) := (List.range j).foldl (fun lev k => if sliceF ns k size ∈ lev then lev else lev ++ [sliceF ns k size]) []
def stretchT (ns : List Int) (i : Nat) : List (List (List Int)) := (List.range i).map fun size => sortF (winF ns size (ns.length - size + 1))
def stretchF (ns : List Int) : List (List (List Int)) := stretchT ns (ns.length + 1)
theorem win_in {ns : List Int} {size j : Nat} (h : sliceF ns j size ∈ winF ns size j) : winF ns size (j + 1) = winF ns size j := by
  unfold winF at h ⊢
  rw [List.range_succ, List.foldl_append, List.foldl_cons, List.foldl_nil, if_pos h]
theorem win_out {ns : List Int} {size j : Nat} (h : ¬ sliceF ns j size ∈ winF ns size j) : winF ns size (j + 1) = winF ns size j ++ [sliceF ns j size] := by
  unfold winF at h ⊢
  rw [List.range_succ, List.foldl_append, List.foldl_cons, List.foldl_nil, if_neg h]
theorem win_len (ns : List Int) (size : Nat) : ∀ j, (winF ns size j).length ≤ j ∧ (1 ≤ j → 1 ≤ (winF ns size j).length)
  | 0 => ⟨Nat.le_refl _, fun h => absurd h (by decide)⟩
  | j + 1 => by
    obtain ⟨h1, h2⟩ := win_len ns size j
    by_cases h : sliceF ns j size ∈ winF ns size j
    · rw [win_in h]
      exact ⟨by omega, fun _ => List.length_pos_of_mem h⟩
    · rw [win_out h, List.length_append, List.length_singleton]
      exact ⟨by omega, fun _ => by omega⟩
theorem stretch_step (ns : List Int) (i : Nat) : stretchT ns (i + 1) = stretchT ns i ++ [sortF (winF ns i (ns.length - i + 1))] := by
  unfold stretchT
  rw [List.range_succ, List.map_append]; rfl
theorem level_notin {prog : Program} {w : World} {A : Around} {E : Value → Shared → Prop} {s : Shared} {h₀ : Heap} {L : Addr} {rest news n₂ : List (Addr × Obj)} {Q : Value → Shared → Prop} {lA : Addr} {rows : List Value} {c3 : Nat} {level : List (List Int)} {x : Value} {r : List Int} (N : News h₀ L s.heap news) (ml : (lA, W.listOf rows.toArray c3) ∈ news) (hD : DatAll rest rows (level.map dRow)) (hs : ∀ p ∈ rest, p ∈ news) (Dx : DatIn n₂ x (dRow r)) (sx : ∀ p ∈ n₂, p ∈ news) (hu : A.units + 64 < cLine) (b : Bool) (hb : decide (r ∈ level) = !b) (h : Q (.bool b) s) :
    wpAny (model prog w) A (compareOp .NotIn x (.ref lA)) Q E s := by
  refine kqd_notIn N ml rfl rfl hD hs Dx sx (kqd_rows _) (kqd_row _) hu ?_
  have key : dRow r ∈ level.map dRow ↔ r ∈ level := by
    constructor
    · intro hm
      obtain ⟨q, hq, e⟩ := List.mem_map.mp hm
      have : q = r := by
        have e' : q.map Dat.int = r.map Dat.int := by unfold dRow at e; injection e
        exact (List.map_inj_right (fun a b h => by injection h)).mp e'
      exact this ▸ hq
    · exact fun hm => List.mem_map_of_mem hm
  have hb' : b = !decide (r ∈ level) := by rw [hb, Bool.not_not]
  subst hb'
  by_cases hq : r ∈ level
  · rw [@decide_eq_true _ (_) (key.mpr hq)]
    rw [decide_eq_true hq] at h
    exact h
  · rw [@decide_eq_false _ (_) (fun x => hq (key.mp x))]
    rw [decide_eq_false hq] at h
    exact h
def NiAt (prog : Program) (w : World) (A : Around) (E : Value → Shared → Prop) (Q : Value → Shared → Prop) (x : Value) (a : Addr) (s : Shared) : Prop := wpAny (model prog w) A (compareOp .NotIn x (.ref a)) Q E s
theorem ni_stop {prog : Program} {w : World} {A : Around} {E : Value → Shared → Prop} {s : Shared} {Q : Value → Shared → Prop} {x : Value} {a : Addr} (h : NiAt prog w A E Q x a s) : wpAny (model prog w) A (compareOp .NotIn x (.ref a)) Q E s := h
def SoAt (prog : Program) (w : World) (A : Around) (E : Value → Shared → Prop) (Q : Value → Shared → Prop) (a : Addr) (s : Shared) : Prop := wpAny (model prog w) A (call (.builtin "sorted") [.ref a]) Q E s
theorem so_stop {prog : Program} {w : World} {A : Around} {E : Value → Shared → Prop} {s : Shared} {Q : Value → Shared → Prop} {a : Addr} (h : SoAt prog w A E Q a s) : wpAny (model prog w) A (call (.builtin "sorted") [.ref a]) Q E s := h
/-- what _law_stretches gives back -/
def strP (ns : List Int) (v : Value) (own : List (Addr × Obj)) : Prop :=
  ∃ lA lv c1, v = .ref lA ∧ (lA, W.listOf (List.toArray lv) c1) ∈ own ∧ DatAll own lv ((stretchF ns).map dLevel)
def strO (ns : List Int) (lvA sp : Addr) (spo : Obj) (i : Nat) (m : Str → Option Value) (nx : List (Addr × Obj)) : Prop :=
  ∃ lv c1 rest, nx = (lvA, W.listOf (List.toArray lv) c1) :: (sp, spo) :: rest ∧ lvA ≠ sp ∧ (∀ p ∈ rest, p.1 ≠ lvA ∧ p.1 ≠ sp) ∧ DatAll rest lv ((stretchT ns i).map dLevel) ∧ i ≤ ns.length + 1 ∧
    m (Str.ofString "spelled") = some (.ref sp) ∧ m (Str.ofString "levels") = some (.ref lvA)
def strI (ns : List Int) (i : Nat) (ti : Tok) (loA lvA sp : Addr) (lvo spo : Obj) (rest its : List (Addr × Obj)) (j : Nat) (m : Str → Option Value) (nx : List (Addr × Obj)) : Prop :=
  ∃ los c' rest', nx = (loA, W.listOf (List.toArray los) c') :: (lvA, lvo) :: (sp, spo) :: (rest' ++ its) ∧
    (∀ p ∈ rest, p ∈ rest') ∧ (∀ p ∈ rest' ++ its, p.1 ≠ loA ∧ p.1 ≠ lvA ∧ p.1 ≠ sp) ∧ (∀ p ∈ its, ∀ q ∈ rest', p.1 ≠ q.1) ∧
    DatAll rest' los ((winF ns i j).map dRow) ∧
    m (Str.ofString "spelled") = some (.ref sp) ∧ m (Str.ofString "levels") = some (.ref lvA) ∧ m (Str.ofString "size") = some (.int (i : Int) ti) ∧ m (Str.ofString "level") = some (.ref loA)


local macro_rules | `(tactic| walk_at "compareOp NotIn ref ref") => `(tactic| (refine ni_stop ?_; k_whole))
local macro_rules | `(tactic| walk_at "call builtin:sorted") => `(tactic| (k_here; refine so_stop ?_; k_whole))
set_option maxRecDepth 100000 in
set_option maxHeartbeats 8000000 in
theorem c_stretches (w : World) (mean : ExcName → Option Value) (mg mb : Str → Option Value) (sp : Addr) (vs : List Value) (c : Nat) (ns : List Int) (hi : IntsAre vs ns) (hl : ns.length ≤ 5) :
    Claim 4 w mean mg mb 151 [.ref sp] [(sp, W.listOf vs.toArray c)] (strP ns) := by
  unfold Claim
  k_fill
  intro dp un gd cn cs a ccd cl outer A₀ base h₀ L m s Q E hB hF hX hN hT hk hd hu hret
  refine wpAny_call ?_
  k_dflt (refine' enterP ?k1 ?k2 ?k3 ?k4 ?k5 ?kA ?kF ?kK ?k6 ?k7 ?k8 ?k9 ?kB ?_ ?c2 ?c3 ?c4 ?c5; (case kA => exact rfl); (case kF => exact rfl); (case kK => assumption); (case k1 => k_asm); (case k2 => k_asm); (case k3 => k_asm); (case k4 => k_asm); (case k5 => k_asm); (case k6 => k_is); (case k7 => k_is); (case k8 => ktr_room); (case k9 => exact BindsTo.of_eq rfl); (case c5 => decide); (case kB => exact locs rfl); (case c2 => exact rfl); (case c3 => exact rfl); (case c4 => exact rfl); k_whole; intro g9 L9 h9 hH FG9 F9 N9 B9 X9 T9; (try dsimp only); (try k_lift B9); (try k_fold))
  have hvl : vs.length = ns.length := hi.length
  k_with "MY len" => (refine len_at (by assumption) (by k_mem) (by exact hvl) (by omega) ?_; intro _ _)
  k_steps
  rename_i lvA h1 l1 h2 F1 N1
  refine loop_rangeN (ns.length + 1) (strO ns lvA sp (W.listOf vs.toArray c)) rfl (by omega) (by omega) F1 N1 ?j0 ?turn ?done
  case j0 => exact ⟨[], 0, [], rfl, Nat.ne_of_gt l1, (fun _ h => nomatch h), .nil, Nat.zero_le _, rfl, rfl⟩
  case turn =>
    clear F1 N1 l1
    rintro i v m₁ nx h₁ tk₁ its ⟨hin, ti, rfl⟩ ⟨lv, c1, rest, rfl, e1, a1, D1, _, n1, n2⟩ ha _ F₁ N₁
    replace F₁ : Fr g9 L9 h₁ m₁ := F₁
    have F2 := fr_at (x := Str.ofString "spelled") F₁ n1
    have F3 := fr_at (x := Str.ofString "levels") F2 (by rw [if_neg (by decide)]; exact n2)
    clear F₁ F2
    simp only [List.cons_append] at N₁
    replace N₁ : News g9 L9 h₁ _ := N₁
    k_with "MY len" => (refine len_at (by assumption) (by k_mem) (by exact hvl) (by omega) ?_; intro _ _)
    k_steps
    rename_i loA h4 l4 h6 F6 N6
    refine loop_rangeN (ns.length - i + 1) (strI ns i ti loA lvA sp (W.listOf lv.toArray c1) (W.listOf vs.toArray c) rest its) rfl (by omega) (by omega) F6 N6 ?j2 ?turn2 ?done2
    case j2 =>
      obtain ⟨p2, p3, p6⟩ := l4
      refine ⟨[], 0, rest, rfl, fun _ h => h, fun p hp => ⟨Nat.ne_of_lt (allLt_mem p6 p hp), ?_⟩, fun p hp q hq => ha p hp q (.tail _ (.tail _ hq)), .nil, rfl, rfl, rfl, rfl⟩
      rcases List.mem_append.mp hp with hp | hp
      · exact a1 p hp
      · exact ⟨ha p hp _ (.head _), ha p hp _ (.tail _ (.head _))⟩
    case turn2 =>
      clear F6 N6
      rintro j v m₂ nx₂ h₂ tk₂ its2 ⟨hj, tj, rfl⟩ ⟨los, c', rest', rfl, hsub, hap, hits, DL, q1, q2, q3, q4⟩ ha2 _ G₁ M₁
      replace G₁ : Fr g9 L9 h₂ m₂ := G₁
      have G2 := fr_at (x := Str.ofString "spelled") G₁ q1
      have G3 := fr_at (x := Str.ofString "levels") G2 (by rw [if_neg (by decide)]; exact q2)
      have G4 := fr_at (x := Str.ofString "size") G3 (by rw [if_neg (by decide), if_neg (by decide)]; exact q3)
      have G5 := fr_at (x := Str.ofString "level") G4 (by rw [if_neg (by decide), if_neg (by decide), if_neg (by decide)]; exact q4)
      clear G₁ G2 G3 G4
      simp only [List.cons_append, List.append_assoc] at M₁
      replace M₁ : News g9 L9 h₂ ((loA, W.listOf los.toArray c') :: (lvA, W.listOf lv.toArray c1) :: (sp, W.listOf vs.toArray c) :: (rest' ++ (its ++ its2))) := by
        intro p hp
        refine M₁ p ?_
        revert p
        walk_at "MINE subs"
      have g2 : lvA ≠ loA := fun e => Nat.lt_irrefl _ (e ▸ l4.1)
      have g3 : sp ≠ loA := fun e => Nat.lt_irrefl _ (e ▸ l4.2.1)
      have hT1 : ∀ p ∈ rest' ++ (its ++ its2), p.1 ≠ loA := fun p hp => by
        rw [← List.append_assoc] at hp
        rcases List.mem_append.mp hp with hp | hp
        · exact (hap p hp).1
        · exact ha2 p hp _ (.head _)
      have hline1 : los.length + 1 ≤ sizeLine := by
        have h1 := DL.length
        rw [List.length_map] at h1
        have h2 := (win_len ns i j).1
        rw [sizeLine_eq]; omega
      have b1 : ∀ p ∈ its2, p.1 ≠ loA ∧ p.1 ≠ lvA ∧ p.1 ≠ sp := fun p hp => ⟨ha2 p hp _ (.head _), ha2 p hp _ (.tail _ (.head _)), ha2 p hp _ (.tail _ (.tail _ (.head _)))⟩
      have b2 : ∀ p ∈ its2, ∀ q ∈ rest' ++ its, p.1 ≠ q.1 := fun p hp q hq => ha2 p hp q (.tail _ (.tail _ (.tail _ hq)))
      have b3 : ∀ p ∈ rest' ++ its, p ∈ rest' ++ (its ++ its2) := fun p hp => by rw [← List.append_assoc]; exact List.mem_append_left _ hp
      have b4 : ∀ p ∈ its2, p ∈ rest' ++ (its ++ its2) := fun p hp => List.mem_append_right _ (List.mem_append_right _ hp)
      have hse : List.take (min ((j : Int) + (i : Int)).toNat ns.length - ((j : Int)).toNat) (List.drop ((j : Int)).toNat ns) = sliceF ns j i := by
        unfold sliceF
        rw [show ((j : Int)).toNat = j by omega, show min ((j : Int) + (i : Int)).toNat ns.length - j = i by omega]
      k_steps
      unfold NiAt
      (with_reducible rename IntsAre _ (List.take _ _) => hI8)
      rw [hse] at hI8
      (with_reducible rename News _ _ _ _ => NN)
      (with_reducible rename Fr _ _ _ _ => FF)
      by_cases hq : sliceF ns j i ∈ winF ns i j
      · refine level_notin NN (lA := loA) (rows := los) (c3 := c') (rest := rest') (level := winF ns i j) (r := sliceF ns j i) ?ml DL ?hs (list_in (c := 0) (List.Mem.head []) hI8) ?hxx ?hu false (decide_eq_true hq) ?_
        case ml => k_mem
        case hs => intro p hp; have hp := List.mem_append_left (its ++ its2) hp; walk_at "MINE up"
        case hxx => intro p hp; rw [List.mem_singleton.mp hp]; k_mem
        case hu => ktr_units
        k_steps
        refine TEnd.intro ((loA, W.listOf los.toArray c') :: (lvA, W.listOf lv.toArray c1) :: (sp, W.listOf vs.toArray c) :: (rest' ++ its)) (by assumption) (by assumption) ?zi1 ?zn1 ?za1 (fun _ h => nomatch h)
          ⟨los, c', rest', rfl, hsub, hap, hits, by rw [win_in hq]; exact DL, rfl, rfl, rfl, rfl⟩
        case zi1 => intro p hp; have hp := b4 p hp; walk_at "MINE up"
        case zn1 =>
          intro p hp
          rcases List.mem_cons.mp hp with rfl | hp; k_mem
          rcases List.mem_cons.mp hp with rfl | hp; k_mem
          rcases List.mem_cons.mp hp with rfl | hp; k_mem
          have hp := b3 p hp; walk_at "MINE up"
        case za1 =>
          intro p hp q hq
          obtain ⟨y1, y2, y3⟩ := b1 p hp
          rcases List.mem_cons.mp hq with rfl | hq; exact y1
          rcases List.mem_cons.mp hq with rfl | hq; exact y2
          rcases List.mem_cons.mp hq with rfl | hq; exact y3
          exact b2 p hp q hq
      · refine level_notin NN (lA := loA) (rows := los) (c3 := c') (rest := rest') (level := winF ns i j) (r := sliceF ns j i) ?ml DL ?hs (list_in (c := 0) (List.Mem.head []) hI8) ?hxx ?hu true (decide_eq_false hq) ?_
        case ml => k_mem
        case hs => intro p hp; have hp := List.mem_append_left (its ++ its2) hp; walk_at "MINE up"
        case hxx => intro p hp; rw [List.mem_singleton.mp hp]; k_mem
        case hu => ktr_units
        k_steps
        rename_i D2' us2 h8 hI2 hC2 hL2 o2 h9' FZ NZ
        rw [hse] at hI2
        simp only [List.push_toArray] at NZ
        obtain ⟨_, o2b, o2c, o2d, o2e⟩ := o2
        have o2k := allLt_mem o2e
        refine TEnd.intro ((loA, W.listOf (los ++ [Value.ref D2']).toArray (c' + 1)) :: (lvA, W.listOf lv.toArray c1) :: (sp, W.listOf vs.toArray c) :: (((D2', W.listOf us2.toArray 0) :: rest') ++ its)) FZ NZ ?zi2 ?zn2 ?za2 (fun _ h => nomatch h)
          ⟨los ++ [Value.ref D2'], c' + 1, (D2', W.listOf us2.toArray 0) :: rest', rfl, fun p hp => .tail _ (hsub p hp), ?zp2, ?zq2, ?zL2, rfl, rfl, rfl, rfl⟩
        case zi2 => intro p hp; have hp := b4 p hp; walk_at "MINE up"
        case zn2 =>
          intro p hp
          rcases List.mem_cons.mp hp with rfl | hp; k_mem
          rcases List.mem_cons.mp hp with rfl | hp; k_mem
          rcases List.mem_cons.mp hp with rfl | hp; k_mem
          rcases List.mem_cons.mp hp with rfl | hp; k_mem
          have hp := b3 p hp; walk_at "MINE up"
        case za2 =>
          intro p hp q hq
          obtain ⟨y1, y2, y3⟩ := b1 p hp
          rcases List.mem_cons.mp hq with rfl | hq; exact y1
          rcases List.mem_cons.mp hq with rfl | hq; exact y2
          rcases List.mem_cons.mp hq with rfl | hq; exact y3
          rcases List.mem_cons.mp hq with rfl | hq; exact Nat.ne_of_lt (o2k p (b4 p hp))
          exact b2 p hp q hq
        case zp2 =>
          intro p hp
          rcases List.mem_cons.mp hp with rfl | hp
          · exact ⟨Nat.ne_of_gt o2b, Nat.ne_of_gt o2c, Nat.ne_of_gt o2d⟩
          · exact hap p hp
        case zq2 =>
          intro p hp q hq
          rcases List.mem_cons.mp hq with rfl | hq
          · exact Nat.ne_of_lt (o2k p (b3 p (List.mem_append_right _ hp)))
          · exact hits p hp q hq
        case zL2 =>
          rw [win_out hq, List.map_append]
          exact (DL.mono fun p hp => .tail _ hp).append (DatAll.one (list_in (.head _) hI2))
    case done2 =>
      clear F6 N6
      rintro h8 tk8 m₈ nx₈ ⟨los, c', rest', rfl, hsub, hap, hits, DL, q1, q2, q3, q4⟩ _ K₁ P₁
      replace K₁ : Fr g9 L9 h8 m₈ := K₁
      have K2 := fr_at (x := Str.ofString "spelled") K₁ q1
      have K3 := fr_at (x := Str.ofString "levels") K2 (by rw [if_neg (by decide)]; exact q2)
      have K4 := fr_at (x := Str.ofString "size") K3 (by rw [if_neg (by decide), if_neg (by decide)]; exact q3)
      have K5 := fr_at (x := Str.ofString "level") K4 (by rw [if_neg (by decide), if_neg (by decide), if_neg (by decide)]; exact q4)
      clear K₁ K2 K3 K4
      replace P₁ : News g9 L9 h8 _ := P₁
      k_steps
      unfold SoAt
      have hlvl : lv.length = i := by
        have := D1.length
        simpa [stretchT] using this
      have hline2 : lv.length + 1 ≤ sizeLine := by rw [sizeLine_eq]; omega
      obtain ⟨w1, w2⟩ := win_len ns i (ns.length - i + 1)
      refine sorted_rows (l := loA) (vs := los) (c := c') (rows := winF ns i (ns.length - i + 1)) (rest := rest') ?xu (by assumption) P₁ (.head _) DL (fun p hp => .tail _ (.tail _ (.tail _ (List.mem_append_left _ hp)))) (w2 (by omega)) (by omega) ?_
      case xu => ktr_units
      intro D us c9 hh FD ND DD hlt
      have g1 : loA ≠ lvA := Nat.ne_of_gt l4.1
      have x1 : loA < D := hlt _ (.head _)
      have x2 : lvA < D := hlt _ (.tail _ (.head _))
      have x3 : sp < D := hlt _ (.tail _ (.tail _ (.head _)))
      have x4 : ∀ p ∈ rest' ++ its, p.1 ≠ D := fun p hp => Nat.ne_of_lt (hlt p (.tail _ (.tail _ (.tail _ hp))))
      have x5 : ∀ p ∈ rest' ++ its, p.1 ≠ lvA := fun p hp => (hap p hp).2.1
      have x6 : sp ≠ lvA := e1.symm
      have x7 : D ≠ lvA := Nat.ne_of_gt x2
      k_steps
      rename_i h7' FZ NZ
      simp only [List.push_toArray] at NZ
      refine TEnd.intro ((lvA, W.listOf (lv ++ [Value.ref D]).toArray (c1 + 1)) :: (sp, W.listOf vs.toArray c) :: (D, W.listOf us.toArray c9) :: rest') FZ NZ ?zi3 ?zn3 ?za3 (fun _ h => nomatch h)
        ⟨lv ++ [Value.ref D], c1 + 1, (D, W.listOf us.toArray c9) :: rest', rfl, e1, ?zp3, ?zL3, by omega, rfl, rfl⟩
      case zi3 => intro p hp; have hp := List.mem_append_right rest' hp; walk_at "MINE up"
      case zn3 =>
        intro p hp
        rcases List.mem_cons.mp hp with rfl | hp; k_mem
        rcases List.mem_cons.mp hp with rfl | hp; k_mem
        rcases List.mem_cons.mp hp with rfl | hp; k_mem
        have hp := List.mem_append_left its hp; walk_at "MINE up"
      case za3 =>
        intro p hp q hq
        rcases List.mem_cons.mp hq with rfl | hq; exact ha p hp (lvA, W.listOf lv.toArray c1) (.head _)
        rcases List.mem_cons.mp hq with rfl | hq; exact ha p hp _ (.tail _ (.head _))
        rcases List.mem_cons.mp hq with rfl | hq; exact x4 p (List.mem_append_right _ hp)
        exact hits p hp q hq
      case zp3 =>
        intro p hp
        rcases List.mem_cons.mp hp with rfl | hp
        · exact ⟨x7, Nat.ne_of_gt x3⟩
        · exact (hap p (List.mem_append_left _ hp)).2
      case zL3 =>
        rw [stretch_step, List.map_append]
        exact (D1.mono fun p hp => .tail _ (hsub p hp)).append (DatAll.one (DatIn.list (.head _) (DD.mono fun p hp => .tail _ hp)))
  case done =>
    clear F1 N1
    rintro h8 tk8 m₈ nx₈ ⟨lv, c1, rest, rfl, e1, a1, D1, _, n1, n2⟩ _ K₁ P₁
    replace K₁ : Fr g9 L9 h8 m₈ := K₁
    have K2 := fr_at (x := Str.ofString "spelled") K₁ n1
    have K3 := fr_at (x := Str.ofString "levels") K2 (by rw [if_neg (by decide)]; exact n2)
    clear K₁ K2
    replace P₁ : News g9 L9 h8 _ := P₁
    k_steps
    refine claim_ret hret hN hH K3 P₁ ?l (own := (lvA, W.listOf (List.toArray lv) c1) :: rest) ?o ?x ⟨lvA, lv, c1, rfl, .head _, D1.mono fun p hp => .tail _ hp⟩
    case l => intro p hp; rw [List.mem_singleton.mp hp]; k_mem
    case o =>
      intro p hp
      rcases List.mem_cons.mp hp with rfl | hp
      · k_mem
      · walk_at "MINE up"
    case x =>
      intro p hp hx
      have hx := List.mem_singleton.mp hx
      rcases List.mem_cons.mp hp with rfl | hp
      · exact e1 hx
      · exact (a1 p hp).2 hx
end Mine
end
end

-- Law0
section
open PySem PySem.W PyProof.Rows PySem.Spec PySem.Calls PySem.SeqAt
set_option Elab.async false
set_option linter.unusedVariables false
set_option maxRecDepth 100000
namespace Mine
section
variable {prog : Program} {w : World} {A : Around} {E : Value → Shared → Prop} {s : Shared} {h₀ : Heap} {L : Addr} {m : Str → Option Value} {env : Env} {news n₁ n₂ : List (Addr × Obj)}
theorem kqdPs_map : ∀ ds : List Dat, kqdPs ds = ds.map kqdP
  | [] => rfl
  | d :: ds => by rw [kqdPs, kqdPs_map ds, List.map_cons]
/-- list.index by data -/
theorem dat_index {l : Addr} {vs : List Value} {ds : List Dat} {c j : Nat} {x : Value} {d : Dat} {Q : Value → Shared → Prop} (N : News h₀ L s.heap news) (hm : (l, W.listOf vs.toArray c) ∈ news) (hD : DatAll n₁ vs ds) (sa : ∀ p ∈ n₁, p ∈ news)
    (Dx : DatIn n₂ x d) (sx : ∀ p ∈ n₂, p ∈ news) (ha : ∀ d ∈ ds, kqdOk 8 d = true) (hd : kqdOk 8 d = true) (hu : A.units + 64 < cLine) (hj : j < ds.length) (hsmall : ds.length ≤ 16384) (hit : ds[j]? = some d) (hno : ∀ i < j, ds[i]? ≠ some d)
    (h : ∀ t k, Q (.int (j : Int) t) { s with toks := k }) : wpAny (model prog w) A (call (.builtin "list.index") [.ref l, x]) Q E s := by
  obtain ⟨as, ra⟩ := kqd_all N 8 (hD.mono sa) ha
  obtain ⟨bs, rx⟩ := kqd_in N 8 (Dx.mono sx) hd
  have lay := kqd_layL ha
  have ld := kqd_lay 8 d hd
  have l2 := ld.2
  have hl := hD.length
  have hread := readsAll_map _ _ _ lay.1 ra
  rw [kqdPs_map] at hread
  have at' : ∀ i (hi : i < vs.length), readOf s.heap vs[i] = kqdP (ds[i]'(by omega)) := by
    intro i hi
    have h1 : (vs.map (readOf s.heap))[i]? = (ds.map kqdP)[i]? := by rw [hread]
    rw [List.getElem?_map, List.getElem?_map, List.getElem?_eq_getElem hi, List.getElem?_eq_getElem (by omega : i < ds.length)] at h1
    exact Option.some.inj h1
  refine call_meets PySem.F.slot_list_index ⟨_, (N _ hm).1, rfl⟩ PySem.F.entry_list_index (PySem.F.args_list_index_2 _ _)
    (list_indexAt l vs.toArray c none #[] x (fun y => PyData.eqv (readOf s.heap y) (kqdP d)) j (by simpa using (by omega : j < vs.length)) (by omega) ?hit ?hno) ⟨(N _ hm).1, items_eqAt (by simpa using ra) rx lay.1 ld.1 (by have := Nat.min_le_right (PyData.depthAll (kqdPs ds)) (kqdP d).depth; omega), h _ _⟩
  case hit =>
    have hj' : j < vs.length := by omega
    show PyData.eqv (readOf s.heap (vs.toArray[j]'_)) (kqdP d) = true
    rw [List.getElem_toArray, at' j hj']
    refine (kqd_eqv 8 _ d 8 (ha _ (List.getElem_mem _)) hd).mpr ?_
    rw [List.getElem?_eq_getElem hj] at hit
    exact Option.some.inj hit
  case hno =>
    intro i hi hij
    have hi' : i < vs.length := by simpa using hi
    show PyData.eqv (readOf s.heap (vs.toArray[i]'_)) (kqdP d) = false
    rw [List.getElem_toArray, at' i hi']
    refine Bool.eq_false_iff.mpr fun q => hno i hij ?_
    rw [List.getElem?_eq_getElem (by omega : i < ds.length)]
    exact congrArg some ((kqd_eqv 8 _ d 8 (ha _ (List.getElem_mem _)) hd).mp q)
/-- a comprehension over range(n) -/
def CompR (prog : Program) (w : World) (A : Around) (h₀ : Heap) (L : Addr) (m : Str → Option Value) (env : Env) (elt : PySem.Expr) (x : Str) (ifs : List PySem.Expr) (scope : Scope) (cl : List (Str × Addr)) (pz : Int → Bool) (d : Int → PyData) (Q : Value → Shared → Prop) (xv : Value) (s₁ : Shared) : Prop :=
  ∃ news : List (Addr × Obj), ∃ r b₀ t₀ u₀ v₀, ∃ n : Nat, xv = .ref r ∧ IsRange s₁.heap r 0 b₀ 1 t₀ u₀ v₀ ∧ b₀ = (n : Int) ∧ n ≤ 16384 ∧ Fr h₀ L s₁.heap m ∧ News h₀ L s₁.heap news ∧
      (∀ C (a : Int) v s₂ m₂ E', s₁.heap.objs.size ≤ C → (0 ≤ a ∧ a < n) → ItemKind.int.is a v → s₂.heap.Ns (compEnvC scope cl C env).locals m₂ → m₂ x = some v → (∀ b o, s₁.heap.get? b = some o → s₂.heap.get? b = some o) →
        wpAny (model prog w) A (forIn ifs true fun c r => if r = true then do let ok ← isTrue c (compEnvC scope cl C env) (eval c (compEnvC scope cl C env)); pure (ForInStep.yield ok) else pure (ForInStep.yield r))
          (fun ok s₃ => ok = pz a ∧ Keeps s₂ s₃) E' s₂) ∧
      (∀ C (a : Int) v s₂ m₂ E', s₁.heap.objs.size ≤ C → (0 ≤ a ∧ a < n) → ItemKind.int.is a v → pz a = true → s₂.heap.Ns (compEnvC scope cl C env).locals m₂ → m₂ x = some v → (∀ b o, s₁.heap.get? b = some o → s₂.heap.get? b = some o) →
        wpAny (model prog w) A (eval elt (compEnvC scope cl C env)) (fun y s₃ => Carried y (d a) ∧ Keeps s₂ s₃) E' s₂) ∧
      (∀ D (ys : List Value) h' tk, Fr h₀ L h' m → News h₀ L h' news → h₀.get? D = none → h'.IsList D ys.toArray → NewPlain h' news D ys.toArray → CarriedAll ys ((((List.range n).map fun i : Nat => (i : Int)).filter pz).map d) → Q (.ref D) { s₁ with heap := h', toks := tk })
theorem comp_r {elt iter : PySem.Expr} {x : Str} {px : Pos} {ifs : List PySem.Expr} {scope : Scope} {cl : List (Str × Addr)} {pos : Pos} {Q : Value → Shared → Prop} {pz : Int → Bool} {d : Int → PyData}
    (hh : A.handled = none) (hclos : closureFor scope env = pure cl) (hcell : ∀ y ∈ scope.names, y.2 ≠ .cell) (hkind : scope.kind = .function)
    (hnames : ∀ y ∈ scope.names, y.2 = .local → scope.names.lookup y.1 = some .local) (hx : scope.names.lookup x = some .local) (F : Fr h₀ L s.heap m)
    (h : wpAny (model prog w) A (eval iter env) (CompR prog w A h₀ L m env elt x ifs scope cl pz d Q) E s)
    (hs : ∀ x, foldedSetIterable iter env x = pure x) :
    wpAny (model prog w) A (eval (.ListComp elt [⟨.Name x px, iter, ifs, 0⟩] scope pos) env) Q E s := by
  refine ListComp_DCr (pz := pz) (d := d) (h₀ := h₀) (L := L) (m := m) hh hclos hcell hkind hnames hx (wpAny_mono h (fun xv s₁ h₁ => ?_) fun _ _ e => e) hs
  obtain ⟨news, r, b₀, t₀, u₀, v₀, n, rfl, hr, rfl, hn, F', N', tests, el, fin⟩ := h₁
  have e1 : rangeInts 0 1 n = (List.range n).map fun i : Nat => (i : Int) := by
    unfold rangeInts
    refine List.map_congr_left fun i _ => by omega
  have hmem : ∀ a : Int, a ∈ rangeInts 0 1 n → 0 ≤ a ∧ a < n := by
    intro a ha
    rw [e1] at ha
    obtain ⟨i, hi, rfl⟩ := List.mem_map.mp ha
    have := List.mem_range.mp hi
    omega
  refine ⟨news, r, 0, (n : Int), 1, t₀, u₀, v₀, n, rfl, hr, small_one (by decide) (by decide) (by omega) (by omega), ?_, by rw [sizeLine_eq]; omega, F', N', ?_, ?_, ?_⟩
  · rw [rangeSize_one]; split <;> omega
  · exact fun C a v s₂ m₂ E' hC ha => tests C a v s₂ m₂ E' hC (hmem a ha)
  · exact fun C a v s₂ m₂ E' hC ha => el C a v s₂ m₂ E' hC (hmem a ha)
  · intro D ys h' tk Fx Nx h0 hl hp hC
    rw [e1] at hC
    exact fin D ys h' tk Fx Nx h0 hl hp hC
end
end Mine
namespace Mine
theorem news_swap {h₀ h : Heap} {L : Addr} {x : Addr × Obj} {own news : List (Addr × Obj)} (N : News h₀ L h (x :: (own ++ news))) : News h₀ L h (x :: (news ++ own)) := by
  intro p hp
  refine N p ?_
  rcases List.mem_cons.mp hp with rfl | hp
  · exact .head _
  · refine .tail _ ?_
    rcases List.mem_append.mp hp with hp | hp
    · exact List.mem_append_right _ hp
    · exact List.mem_append_left _ hp
end Mine
namespace Mine
theorem dRow_inj {a b : List Int} (h : dRow a = dRow b) : a = b := by
  have e' : a.map Dat.int = b.map Dat.int := by unfold dRow at h; injection h
  exact (List.map_inj_right (fun a b h => by injection h)).mp e'
/-- the first place with the same row -/
def fstN (L : List (List Int)) (p : Int) : Nat := L.findIdx fun r => r == L.getD p.toNat []
theorem fst_spec {L : List (List Int)} {p : Int} {r : List Int} (h : L[p.toNat]? = some r) : fstN L p < (L.map dRow).length ∧ (L.map dRow)[fstN L p]? = some (dRow r) ∧ ∀ i < fstN L p, (L.map dRow)[i]? ≠ some (dRow r) := by
  have hg : L.getD p.toNat [] = r := by rw [List.getD_eq_getElem?_getD, h]; rfl
  have hm : r ∈ L := List.mem_of_getElem? h
  have hlt : fstN L p < L.length := by
    unfold fstN
    rw [hg]
    exact List.findIdx_lt_length_of_exists ⟨r, hm, by simp⟩
  refine ⟨by rw [List.length_map]; exact hlt, ?_, ?_⟩
  · rw [List.getElem?_map, List.getElem?_eq_getElem hlt]
    have := List.findIdx_getElem (p := fun x => x == L.getD p.toNat []) (w := hlt)
    have e : L[fstN L p] = L.getD p.toNat [] := eq_of_beq this
    rw [e, hg]; rfl
  · intro i hi e
    have := List.not_of_lt_findIdx (p := fun x => x == L.getD p.toNat []) (xs := L) hi
    have hi' : i < L.length := by omega
    rw [List.getElem?_map, List.getElem?_eq_getElem hi'] at e
    have e2 : L[i] = r := dRow_inj (Option.some.inj e)
    rw [e2] at this
    exact absurd (beq_iff_eq.mpr hg.symm) (by rw [this]; exact Bool.false_ne_true)
def posN (F : List Int) (v : Int) : Nat := F.findIdx fun x => x == v
theorem pos_spec {F : List Int} {v : Int} (hm : v ∈ F) : posN F v < (F.map Dat.int).length ∧ (F.map Dat.int)[posN F v]? = some (Dat.int v) ∧ ∀ i < posN F v, (F.map Dat.int)[i]? ≠ some (Dat.int v) := by
  have hlt : posN F v < F.length := List.findIdx_lt_length_of_exists ⟨v, hm, by simp⟩
  refine ⟨by rw [List.length_map]; exact hlt, ?_, ?_⟩
  · rw [List.getElem?_map, List.getElem?_eq_getElem hlt]
    have := List.findIdx_getElem (p := fun x => x == v) (w := hlt)
    have e : F[posN F v] = v := eq_of_beq this
    rw [e]; rfl
  · intro i hi e
    have := List.not_of_lt_findIdx (p := fun x => x == v) (xs := F) hi
    have hi' : i < F.length := by omega
    rw [List.getElem?_map, List.getElem?_eq_getElem hi'] at e
    have e2 : F[i] = v := by injection (Option.some.inj e)
    rw [e2] at this
    exact absurd (beq_self_eq_true v) (by rw [this]; exact Bool.false_ne_true)
theorem kqd_ints (l : List Int) : ∀ d ∈ l.map Dat.int, kqdOk 8 d = true := by
  intro d hd
  obtain ⟨r, _, rfl⟩ := List.mem_map.mp hd
  rfl
end Mine
namespace Mine
section
variable {prog : Program} {w : World} {A : Around} {E : Value → Shared → Prop} {s : Shared} {h₀ : Heap} {L : Addr} {m : Str → Option Value} {news n₁ n₂ : List (Addr × Obj)} {Q : Value → Shared → Prop}
theorem dat_eq {a b : Addr} {xs ys : List Value} {ka kb : Nat} {ds es : List Dat} (N : News h₀ L s.heap news) (ma : (a, W.listOf xs.toArray ka) ∈ news) (mb : (b, W.listOf ys.toArray kb) ∈ news) (Da : DatAll n₁ xs ds) (sa : ∀ p ∈ n₁, p ∈ news) (Db : DatAll n₂ ys es) (sb : ∀ p ∈ n₂, p ∈ news)
    (ha : ∀ d ∈ ds, kqdOk 8 d = true) (hb : ∀ d ∈ es, kqdOk 8 d = true) (hu : A.units + 64 < cLine) (r : Bool) (hr : ds = es ↔ r = true) (h : Q (.bool r) s) : wpAny (model prog w) A (compareOp .Eq (.ref a) (.ref b)) Q E s := by
  refine kqd_eq N ma rfl rfl Da sa mb rfl rfl Db sb ha hb hu ?_
  by_cases hq : ds = es
  · rw [@decide_eq_true _ (_) hq]; rw [hr.mp hq] at h; exact h
  · have : r = false := Bool.eq_false_iff.mpr fun x => hq (hr.mpr x)
    rw [@decide_eq_false _ (_) hq]
    rw [this] at h; exact h
theorem dat_ne {a b : Addr} {xs ys : List Value} {ka kb : Nat} {ds es : List Dat} (N : News h₀ L s.heap news) (ma : (a, W.listOf xs.toArray ka) ∈ news) (mb : (b, W.listOf ys.toArray kb) ∈ news) (Da : DatAll n₁ xs ds) (sa : ∀ p ∈ n₁, p ∈ news) (Db : DatAll n₂ ys es) (sb : ∀ p ∈ n₂, p ∈ news)
    (ha : ∀ d ∈ ds, kqdOk 8 d = true) (hb : ∀ d ∈ es, kqdOk 8 d = true) (hu : A.units + 64 < cLine) (r : Bool) (hr : ds = es ↔ r = false) (h : Q (.bool r) s) : wpAny (model prog w) A (compareOp .NotEq (.ref a) (.ref b)) Q E s := by
  refine kqd_ne N ma rfl rfl Da sa mb rfl rfl Db sb ha hb hu ?_
  by_cases hq : ds = es
  · rw [hr.mp hq] at h
    rw [@decide_eq_true _ (_) hq]; exact h
  · have : r = true := by
      cases r
      · exact absurd (hr.mpr rfl) hq
      · rfl
    rw [this] at h
    rw [@decide_eq_false _ (_) hq]; exact h
end
theorem carried_ints : ∀ {ys : List Value} {ns : List Int}, CarriedAll ys (ns.map PyData.int) → IntsAre ys ns := by
  intro ys
  induction ys with
  | nil =>
    intro xs h
    cases xs with
    | nil => exact .nil
    | cons x xs => cases h
  | cons y ys ih =>
    intro xs h
    cases xs with
    | nil => cases h
    | cons x xs =>
      cases h with
      | cons u v =>
        cases u with
        | int _ t => exact .cons _ t (ih v)
theorem dat_areStrs {led : List (Addr × Obj)} : ∀ {vs : List Value} {xs : List Str}, DatAll led vs (xs.map Dat.str) → AreOf ItemKind.str vs xs := by
  intro vs
  induction vs with
  | nil =>
    intro xs h
    cases xs with
    | nil => exact .nil
    | cons x xs => cases h
  | cons y ys ih =>
    intro xs h
    cases xs with
    | nil => cases h
    | cons x xs =>
      cases h with
      | cons u v =>
        cases u with
        | str _ t => exact .cons ⟨t, rfl⟩ (ih v)
/-- the letters, as the law takes them -/
def lettersF (ls : List Str) : List Str := ls.foldl (fun acc x => if acc.filter (userM x) = [] then acc ++ [x] else acc) []
theorem letters_step {ls : List Str} {i : Nat} {x : Str} (h : ls[i]? = some x) : lettersF (ls.take (i + 1)) = if (lettersF (ls.take i)).filter (userM x) = [] then lettersF (ls.take i) ++ [x] else lettersF (ls.take i) := by
  unfold lettersF
  rw [List.take_add_one, h, List.foldl_append]; rfl
theorem letters_len (ls : List Str) : (lettersF ls).length ≤ ls.length := by
  unfold lettersF
  have : ∀ (l acc : List Str), (l.foldl (fun acc x => if acc.filter (userM x) = [] then acc ++ [x] else acc) acc).length ≤ acc.length + l.length := by
    intro l
    induction l with
    | nil => intro acc; simp
    | cons x l ih =>
      intro acc
      rw [List.foldl_cons]
      refine Nat.le_trans (ih _) ?_
      split <;> simp <;> omega
  simpa using this ls []
theorem letters_sub (ls : List Str) : ∀ x ∈ lettersF ls, x ∈ ls := by
  unfold lettersF
  have : ∀ (l acc : List Str), ∀ x ∈ l.foldl (fun acc x => if acc.filter (userM x) = [] then acc ++ [x] else acc) acc, x ∈ acc ∨ x ∈ l := by
    intro l
    induction l with
    | nil => intro acc x hx; exact .inl hx
    | cons y l ih =>
      intro acc x hx
      rw [List.foldl_cons] at hx
      rcases ih _ x hx with h | h
      · split at h
        · rcases List.mem_append.mp h with h | h
          · exact .inl h
          · rw [List.mem_singleton.mp h]; exact .inr (.head _)
        · exact .inl h
      · exact .inr (.tail _ h)
  intro x hx
  rcases this ls [] x hx with h | h
  · cases h
  · exact h
end Mine
namespace Mine
def litJ (lt ca : Addr) (scr : Value) (LS : List Str) (fx : List (Addr × Obj)) (i : Nat) (m : Str → Option Value) (nx : List (Addr × Obj)) : Prop :=
  ∃ lv c o, nx = (lt, W.listOf (List.toArray lv) c) :: (ca, o) :: fx ∧ (∃ v0, o.data = Data.cell v0) ∧ DatAll [] lv ((lettersF (LS.take i)).map Dat.str) ∧ m (Str.ofString "letters") = some (.ref lt) ∧ m (Str.ofString "script") = some scr
end Mine
namespace Mine
theorem dat_str_at {led : List (Addr × Obj)} {vs : List Value} {xs : List Str} (h : DatAll led vs (xs.map Dat.str)) {i : Nat} {v : Value} (hv : vs[i]? = some v) : ∃ x, xs[i]? = some x ∧ DatIn led v (Dat.str x) := by
  have hl := h.length
  rw [List.length_map] at hl
  obtain ⟨hi, hvi⟩ := List.getElem?_eq_some_iff.mp hv
  have hi' : i < xs.length := by omega
  obtain ⟨v', hv', hD⟩ := h.get (k := i) (by rw [List.length_map]; exact hi')
  rw [hv] at hv'
  cases hv'
  rw [List.getElem_map] at hD
  exact ⟨xs[i], List.getElem?_eq_getElem hi', hD⟩
end Mine
namespace Mine
theorem news3 {h₀ h : Heap} {L : Addr} {a b c : Addr × Obj} {own news : List (Addr × Obj)} (N : News h₀ L h (own ++ news)) (m1 : a ∈ own) (m2 : b ∈ own) (m3 : c ∈ own) : News h₀ L h (a :: b :: c :: (news ++ own)) := by
  intro p hp
  simp only [List.mem_cons, List.mem_append] at hp
  rcases hp with rfl | rfl | rfl | hp | hp
  · exact N _ (List.mem_append_left _ m1)
  · exact N _ (List.mem_append_left _ m2)
  · exact N _ (List.mem_append_left _ m3)
  · exact N _ (List.mem_append_right _ hp)
  · exact N _ (List.mem_append_left _ hp)
theorem news1 {h₀ h : Heap} {L : Addr} {a : Addr × Obj} {own news : List (Addr × Obj)} (N : News h₀ L h (own ++ news)) (m1 : a ∈ own) : News h₀ L h (a :: (news ++ own)) := by
  intro p hp
  simp only [List.mem_cons, List.mem_append] at hp
  rcases hp with rfl | hp | hp
  · exact N _ (List.mem_append_left _ m1)
  · exact N _ (List.mem_append_right _ hp)
  · exact N _ (List.mem_append_left _ hp)
theorem kqd_strs {xs : List Str} (h : ∀ x ∈ xs, okS x) : ∀ d ∈ xs.map Dat.str, kqdOk 8 d = true := by
  intro d hd
  obtain ⟨x, hx, rfl⟩ := List.mem_map.mp hd
  show PyData.strOk x = true
  unfold PyData.strOk
  rw [← Array.all_toList, List.all_eq_true]
  intro c hc
  have := ((h x hx).1 c hc).1
  simp; omega
theorem kqd_levels (l : List (List (List Int))) : ∀ d ∈ l.map dLevel, kqdOk 8 d = true := by
  intro d hd
  obtain ⟨r, _, rfl⟩ := List.mem_map.mp hd
  simp [kqdOk, dLevel, dRow]
theorem okN.ok {xs : List Str} (h : okN xs) : ∀ x ∈ xs, okS x := fun x hx => ⟨(h x hx).2, Nat.le_trans (h x hx).1 (by decide)⟩
end Mine
namespace Mine
def CmAt (prog : Program) (w : World) (A : Around) (E : Value → Shared → Prop) (Q : Value → Shared → Prop) (op : CmpOp) (a b : Addr) (s : Shared) : Prop := wpAny (model prog w) A (compareOp op (.ref a) (.ref b)) Q E s
theorem cm_stop {prog : Program} {w : World} {A : Around} {E : Value → Shared → Prop} {s : Shared} {Q : Value → Shared → Prop} {op : CmpOp} {a b : Addr} (h : CmAt prog w A E Q op a b s) : wpAny (model prog w) A (compareOp op (.ref a) (.ref b)) Q E s := h
end Mine
namespace Mine
theorem dom_len {xs : List Str} (h : okN xs) {ns : List Int} (hl : ns.length ≤ 20) : (domS ns xs).length ≤ 990 := by
  have e : (domS ns xs).length = (ns.flatMap fun k => (cellS xs k).cps.toList).length := by rw [← dom_cps]; simp [Str.length]
  rw [e]
  have : ∀ ns : List Int, (ns.flatMap fun k => (cellS xs k).cps.toList).length ≤ ns.length * 11 := by
    intro ns
    induction ns with
    | nil => simp
    | cons k ns ih =>
      have := cell_len (fun x hx => (h x hx).1) k
      have e : (cellS xs k).cps.toList.length = (cellS xs k).length := by simp [Str.length]
      simp only [List.flatMap_cons, List.length_append, List.length_cons]
      omega
  have := this ns
  omega
theorem okS_behind {y : Str} (h : okS y) (hl : y.length ≤ 990) : okS (Str.ofString "x" ++ y ++ Str.ofString ".x") := by
  have h1 : (Str.ofString "x").cps.toList = [120] := by decide +kernel
  have h2 : (Str.ofString ".x").cps.toList = [46, 120] := by decide +kernel
  constructor
  · intro c hc
    rw [Str.cps_append, Array.toList_append, Str.cps_append, Array.toList_append, h1, h2] at hc
    rcases List.mem_append.mp hc with hc | hc
    · rcases List.mem_append.mp hc with hc | hc
      · rw [List.mem_singleton.mp hc]; decide +kernel
      · exact h.1 c hc
    · simp only [List.mem_cons, List.not_mem_nil, or_false] at hc
      rcases hc with rfl | rfl <;> decide +kernel
  · rw [Str.length_append, Str.length_append, show (Str.ofString "x").length = 1 by decide +kernel, show (Str.ofString ".x").length = 2 by decide +kernel]
    omega
end Mine
namespace Mine
theorem pull8 {h₀ h : Heap} {L : Addr} {a b1 b2 b3 b4 b5 c4 c3 c2 c1 : Addr × Obj} {r : List (Addr × Obj)} (N : News h₀ L h (a :: b1 :: b2 :: b3 :: b4 :: b5 :: c4 :: c3 :: c2 :: c1 :: r)) : News h₀ L h (a :: c4 :: b1 :: b2 :: b3 :: c3 :: c2 :: c1 :: r) := by
  obtain ⟨na, N⟩ := List.forall_mem_cons.mp N
  obtain ⟨n1, N⟩ := List.forall_mem_cons.mp N
  obtain ⟨n2, N⟩ := List.forall_mem_cons.mp N
  obtain ⟨n3, N⟩ := List.forall_mem_cons.mp N
  obtain ⟨n4, N⟩ := List.forall_mem_cons.mp N
  obtain ⟨n5, N⟩ := List.forall_mem_cons.mp N
  obtain ⟨m4, N⟩ := List.forall_mem_cons.mp N
  obtain ⟨m3, N⟩ := List.forall_mem_cons.mp N
  obtain ⟨m2, N⟩ := List.forall_mem_cons.mp N
  obtain ⟨m1, N⟩ := List.forall_mem_cons.mp N
  have c := fun {x : Addr × Obj} {l : List (Addr × Obj)} (u : h.get? x.1 = some x.2 ∧ x.1 ≠ L ∧ h₀.get? x.1 = none) (v : News h₀ L h l) => (List.forall_mem_cons (p := fun p : Addr × Obj => h.get? p.1 = some p.2 ∧ p.1 ≠ L ∧ h₀.get? p.1 = none)).mpr ⟨u, v⟩
  exact c na (c m4 (c n1 (c n2 (c n3 (c m3 (c m2 (c m1 N)))))))
end Mine
end

-- P1
section
open PySem PySem.W PyProof.Rows PySem.Spec PySem.Calls
set_option Elab.async false
set_option linter.unusedVariables false
set_option maxRecDepth 100000
namespace Mine
/-- a text's signs -/
abbrev cs (x : Str) : List Nat := x.cps.toList
theorem str_ext {x y : Str} (h : cs x = cs y) : x = y := by
  cases x; cases y
  have := Array.toList_inj.mp h
  simp_all
theorem cs_len (x : Str) : (cs x).length = x.length := by simp [Str.length]
theorem prefix_iff (l m : List Nat) : l <+: m ↔ l.length ≤ m.length ∧ m.take l.length = l := by
  constructor
  · intro h; exact ⟨h.length_le, (List.prefix_iff_eq_take.mp h).symm⟩
  · rintro ⟨_, h⟩; exact List.prefix_iff_eq_take.mpr h.symm
theorem starts_iff (x y : Str) : Txt.startswith x y = true ↔ cs y <+: cs x := by
  unfold Txt.startswith
  rw [Bool.and_eq_true, decide_eq_true_eq, StrLaws.subAt_eq, beq_iff_eq, Nat.zero_add, List.drop_zero, prefix_iff, cs_len, cs_len]
theorem ends_iff (x y : Str) : Txt.endswith x y = true ↔ cs y <:+ cs x := by
  unfold Txt.endswith
  rw [Bool.and_eq_true, decide_eq_true_eq, StrLaws.subAt_eq, beq_iff_eq, Nat.zero_add]
  have hx := cs_len x
  have hy := cs_len y
  constructor
  · rintro ⟨h1, h2⟩
    rw [List.take_of_length_le (by rw [List.length_drop, hx]; omega)] at h2
    rw [show cs y = (cs x).drop (x.length - y.length) from h2.symm]
    exact List.drop_suffix _ _
  · intro h
    have h1 := h.length_le
    refine ⟨by omega, ?_⟩
    rw [List.take_of_length_le (by rw [List.length_drop, hx]; omega)]
    have := List.suffix_iff_eq_drop.mp h
    rw [hx, hy] at this
    exact this.symm
theorem at_infix {x y : Str} {i : Nat} (h : StrLaws.At x y x.length i) : cs y <:+: cs x := by
  have h2 := h.2
  rw [StrLaws.subAt_eq, beq_iff_eq] at h2
  rw [show cs y = ((cs x).drop i).take y.length from h2.symm]
  exact (List.take_prefix _ _).isInfix.trans (List.drop_suffix _ _).isInfix
theorem infix_at {x y : Str} (h : cs y <:+: cs x) : ∃ i, StrLaws.At x y x.length i := by
  obtain ⟨s, t, e⟩ := h
  refine ⟨s.length, ?_, ?_⟩
  · have := congrArg List.length e
    have hx := cs_len x
    have hy := cs_len y
    simp only [List.length_append] at this
    omega
  · rw [StrLaws.subAt_eq, beq_iff_eq]
    show ((cs x).drop s.length).take y.length = cs y
    rw [← e, ← cs_len y, List.append_assoc, List.drop_left, List.take_left]
theorem rfind_iff (x y : Str) : Txt.rfind x y ≠ -1 ↔ cs y <:+: cs x := by
  rcases rfind_whole x y with ⟨h1, h2⟩ | ⟨i, h1, h2, _⟩
  · rw [h1]
    exact ⟨fun h => absurd rfl h, fun h => by obtain ⟨i, hi⟩ := infix_at h; exact absurd hi (h2 i)⟩
  · rw [h1]
    exact ⟨fun _ => at_infix h2, fun _ => by omega⟩
theorem rfind_zero {x y : Str} (h : Txt.rfind x y = 0) : cs y <+: cs x := by
  rcases rfind_whole x y with ⟨h1, _⟩ | ⟨i, h1, h2, _⟩
  · rw [h1] at h; cases h
  · rw [h1] at h
    have : i = 0 := by omega
    subst this
    have h3 := h2.2
    rw [StrLaws.subAt_eq, beq_iff_eq, List.drop_zero] at h3
    rw [show cs y = (cs x).take y.length from h3.symm]
    exact List.take_prefix _ _
theorem dot_cs : cs (Str.ofString ".") = [46] := by decide +kernel
/-- signs that make a host name -/
theorem isHDN_of {x : Str} {a b : Nat} {l : List Nat} (h : cs x = a :: l) (h2 : (cs x).getLast? = some b) (ha : a ≠ 46) (hb : b ≠ 46) : isHDNF x = true := by
  have hl : 0 < x.length := by rw [← cs_len, h]; simp
  have h0 : Txt.charAt x 0 = some a := by
    have e : seqIndex? 0 x.length = some 0 := by
      unfold seqIndex?
      simp [hl]
    unfold Txt.charAt
    rw [e]
    show x.cps[0]? = some a
    rw [← Array.getElem?_toList]; show (cs x)[0]? = _; rw [h]; rfl
  have h1 : Txt.charAt x (-1) = some b := by
    have e : seqIndex? (-1) x.length = some (x.length - 1) := by
      unfold seqIndex?
      simp only [show (-1 : Int) < 0 by decide, if_true]
      rw [if_pos (by simp; omega)]
      congr 1; omega
    unfold Txt.charAt
    rw [e]
    show x.cps[x.length - 1]? = some b
    rw [← Array.getElem?_toList]; show (cs x)[_]? = _
    rw [← cs_len, ← List.getLast?_eq_getElem?]; exact h2
  have ne : ∀ c : Nat, c ≠ 46 → ((⟨#[c]⟩ : Str) == Str.ofString ".") = false := by
    intro c hc
    rw [beq_eq_false_iff_ne]
    intro e
    have := congrArg cs e
    rw [dot_cs] at this
    injection this with h1 _
    exact hc h1
  unfold isHDNF Txt.item
  rw [h0, h1]
  have e1 : (x == Str.ofString "") = false := by
    rw [beq_eq_false_iff_ne]
    intro e
    rw [e] at hl
    exact absurd hl (by decide +kernel)
  rw [e1]
  simp only [Option.getD_some]
  rw [ne a ha, ne b hb]; rfl
/-- words, a dot ahead of each -/
def flat (ws : List (List Nat)) : List Nat := ws.flatMap fun w => 46 :: w
def goodW (w : List Nat) : Prop := w.length = 10 ∧ ∀ c ∈ w, c ≠ 46
theorem flat_cons (w : List Nat) (ws : List (List Nat)) : flat (w :: ws) = 46 :: (w ++ flat ws) := by simp [flat]
theorem flat_append (us vs : List (List Nat)) : flat (us ++ vs) = flat us ++ flat vs := by simp [flat]
theorem flat_prefix : ∀ (us vs : List (List Nat)), (∀ w ∈ us, goodW w) → (∀ w ∈ vs, goodW w) → (flat us <+: flat vs ↔ us <+: vs)
  | [], vs, _, _ => by simp [flat]
  | u :: us, [], _, _ => by simp [flat]
  | u :: us, v :: vs, hu, hv => by
    rw [flat_cons, flat_cons, List.cons_prefix_cons, List.cons_prefix_cons]
    have h1 := (hu u (.head _)).1
    have h2 := (hv v (.head _)).1
    have ih := flat_prefix us vs (fun w hw => hu w (.tail _ hw)) (fun w hw => hv w (.tail _ hw))
    constructor
    · rintro ⟨_, t, e⟩
      rw [List.append_assoc] at e
      obtain ⟨e1, e2⟩ := List.append_inj e (by omega)
      exact ⟨e1, ih.mp ⟨t, e2⟩⟩
    · rintro ⟨e, h⟩
      subst e
      exact ⟨rfl, (List.prefix_append_right_inj _).mpr (ih.mpr h)⟩
theorem flat_ne {us : List (List Nat)} (h : us ≠ []) : ∃ l, flat us = 46 :: l := by
  match us, h with
  | u :: us, _ => exact ⟨_, flat_cons u us⟩
theorem infix_past {us : List (List Nat)} (h : us ≠ []) {l : List Nat} : ∀ w : List Nat, (∀ c ∈ w, c ≠ 46) → flat us <:+: w ++ l → flat us <:+: l
  | [], _, hi => hi
  | c :: w, hw, hi => by
    rw [List.cons_append, List.infix_cons_iff] at hi
    rcases hi with hi | hi
    · obtain ⟨l', e⟩ := flat_ne h
      rw [e, List.cons_prefix_cons] at hi
      exact absurd hi.1.symm (hw c (.head _))
    · exact infix_past h w (fun c hc => hw c (.tail _ hc)) hi
theorem suffix_past {us : List (List Nat)} (h : us ≠ []) {l : List Nat} : ∀ w : List Nat, (∀ c ∈ w, c ≠ 46) → flat us <:+ w ++ l → flat us <:+ l
  | [], _, hi => hi
  | c :: w, hw, hi => by
    rw [List.cons_append, List.suffix_cons_iff] at hi
    rcases hi with hi | hi
    · obtain ⟨l', e⟩ := flat_ne h
      rw [e] at hi
      injection hi with h1 _
      exact absurd h1.symm (hw c (.head _))
    · exact suffix_past h w (fun c hc => hw c (.tail _ hc)) hi
theorem flat_infix {us : List (List Nat)} (hne : us ≠ []) (hu : ∀ w ∈ us, goodW w) : ∀ (vs : List (List Nat)), (∀ w ∈ vs, goodW w) → (flat us <:+: flat vs ↔ us <:+: vs)
  | [], _ => by
    obtain ⟨l, e⟩ := flat_ne hne
    constructor
    · intro h
      rw [e] at h
      exact absurd (List.infix_nil.mp h) (by simp)
    · intro h; exact absurd (List.infix_nil.mp h) hne
  | v :: vs, hv => by
    have ih := flat_infix hne hu vs fun w hw => hv w (.tail _ hw)
    constructor
    · intro h
      have h' := h
      rw [flat_cons, List.infix_cons_iff] at h
      rcases h with h | h
      · rw [← flat_cons] at h
        exact ((flat_prefix us _ hu hv).mp h).isInfix
      · exact (ih.mp (infix_past hne v (hv v (.head _)).2 h)).trans (List.suffix_cons _ _).isInfix
    · rintro ⟨s, t, e⟩
      exact ⟨flat s, flat t, by rw [← flat_append, ← flat_append, e]⟩
theorem flat_suffix {us : List (List Nat)} (hne : us ≠ []) (hu : ∀ w ∈ us, goodW w) : ∀ (vs : List (List Nat)), (∀ w ∈ vs, goodW w) → (flat us <:+ flat vs ↔ us <:+ vs)
  | [], _ => by
    obtain ⟨l, e⟩ := flat_ne hne
    constructor
    · intro h
      rw [e] at h
      exact absurd (List.suffix_nil.mp h) (by simp)
    · intro h; exact absurd (List.suffix_nil.mp h) hne
  | v :: vs, hv => by
    have ih := flat_suffix hne hu vs fun w hw => hv w (.tail _ hw)
    constructor
    · intro h
      rw [flat_cons, List.suffix_cons_iff] at h
      rcases h with h | h
      · rw [← flat_cons] at h
        have h1 := (flat_prefix us _ hu hv).mp (by rw [h]; exact List.prefix_refl _)
        have h2 := (flat_prefix _ us hv hu).mp (by rw [h]; exact List.prefix_refl _)
        have : us = v :: vs := h1.eq_of_length_le h2.length_le
        rw [this]; exact List.suffix_refl _
      · exact (ih.mp (suffix_past hne v (hv v (.head _)).2 h)).trans (List.suffix_cons _ _)
    · rintro ⟨s, e⟩
      exact ⟨flat s, by rw [← flat_append, e]⟩
theorem host_infix {us vs : List (List Nat)} (hne : us ≠ []) (hu : ∀ w ∈ us, goodW w) (hv : ∀ w ∈ vs, goodW w) : flat us <:+: 120 :: flat vs ↔ us <:+: vs := by
  rw [← flat_infix hne hu vs hv]
  exact ⟨fun h => infix_past hne [120] (by simp) h, fun h => h.trans (List.suffix_cons _ _).isInfix⟩
theorem host_suffix {us vs : List (List Nat)} (hne : us ≠ []) (hu : ∀ w ∈ us, goodW w) (hv : ∀ w ∈ vs, goodW w) : flat us <:+ 120 :: flat vs ↔ us <:+ vs := by
  rw [← flat_suffix hne hu vs hv]
  exact ⟨fun h => suffix_past hne [120] (by simp) h, fun h => h.trans (List.suffix_cons _ _)⟩
theorem flat_end : ∀ {us : List (List Nat)}, us ≠ [] → (∀ w ∈ us, goodW w) → ∃ p a b, flat us = p ++ [a, b] ∧ a ≠ 46 ∧ b ≠ 46
  | [], h, _ => absurd rfl h
  | [u], _, hu => by
    obtain ⟨hl, hc⟩ := hu u (.head _)
    have hd : (u.drop 8).length = 2 := by rw [List.length_drop, hl]
    obtain ⟨a, b, e⟩ : ∃ a b, u.drop 8 = [a, b] := by
      generalize u.drop 8 = l at hd
      cases l with
      | nil => cases hd
      | cons a l =>
        cases l with
        | nil => cases hd
        | cons b l =>
          cases l with
          | nil => exact ⟨a, b, rfl⟩
          | cons c l => exact absurd hd (by simp)
    have hs : ∀ c ∈ u.drop 8, c ≠ 46 := fun c h => hc c (List.mem_of_mem_drop h)
    rw [e] at hs
    refine ⟨46 :: u.take 8, a, b, ?_, hs a (.head _), hs b (.tail _ (.head _))⟩
    rw [flat_cons, ← e, List.cons_append, List.take_append_drop]
    simp [flat]
  | u :: v :: us, _, hu => by
    obtain ⟨p, a, b, e, ha, hb⟩ := flat_end (us := v :: us) (by simp) fun w hw => hu w (.tail _ hw)
    refine ⟨46 :: (u ++ p), a, b, ?_, ha, hb⟩
    rw [flat_cons, e]; simp
theorem behind_not {us : List (List Nat)} (hne : us ≠ []) (hu : ∀ w ∈ us, goodW w) {l : List Nat} : ¬ flat us <:+ l ++ [46, 120] := by
  rintro ⟨t, e⟩
  obtain ⟨p, a, b, h, ha, _⟩ := flat_end hne hu
  rw [h, ← List.append_assoc] at e
  have := (List.append_inj' e rfl).2
  injection this with h1 _
  exact ha h1
end Mine
end

-- PM
section
open PySem PySem.W PyProof.Rows PySem.Spec PySem.Calls
set_option Elab.async false
set_option linter.unusedVariables false
set_option maxRecDepth 100000
namespace Mine
/-- what the law asks of its files, in plain words -/
def MainF (xs LS : List Str) (LK : List (List Int)) (FF : List Int) : Prop :=
  ∀ mem : List Int, 2 ≤ mem.length → mem.length ≤ 5 → (∀ p ∈ mem, 0 ≤ p ∧ p < 3) → mem.take 2 = [0, 1] →
      (askF (askok (hostS mem LS) xs) xs.length 9 [[]]).1 = stretchF (mem.map fun p => ((posN FF ((fstN LK p : Nat) : Int) : Nat) : Int)) ∧
      (askF (regok xs ((askF (askok (hostS mem LS) xs) xs.length 9 [[]]).2.map fun r => domS r xs)) xs.length 9 [[]]).1 = stretchF (mem.map fun p => ((posN FF ((fstN LK p : Nat) : Int) : Nat) : Int)) ∧
      (∀ r ∈ (askF (askok (hostS mem LS) xs) xs.length 9 [[]]).2, r.length ≤ 20 ∧ userM (Str.ofString "x" ++ domS r xs ++ Str.ofString ".x") (domS r xs) = false) ∧ (askF (askok (hostS mem LS) xs) xs.length 9 [[]]).2.length ≤ 1000
end Mine
end

-- Ta
section
open PySem PySem.W PyProof.Rows PySem.Spec PySem.Calls
namespace Mine
def CpAt (prog : Program) (w : World) (A : Around) (E : Value → Shared → Prop) (Q : Value → Shared → Prop) (e : PySem.Expr) (env : Env) (s : Shared) : Prop := wpAny (model prog w) A (eval e env) Q E s
theorem comp_stop {prog : Program} {w : World} {A : Around} {E : Value → Shared → Prop} {s : Shared} {Q : Value → Shared → Prop} {elt : PySem.Expr} {gens} {scope} {pos} {env : Env} (h : CpAt prog w A E Q (.ListComp elt gens scope pos) env s) : wpAny (model prog w) A (eval (.ListComp elt gens scope pos) env) Q E s := h

end Mine
end

section
open PySem PySem.W PyProof.Rows PySem.Spec PySem.Calls Mine
local macro_rules | `(tactic| walk_at "eval ListComp") => `(tactic| (k_here; refine comp_stop ?_; k_whole))
local macro_rules | `(tactic| walk_at "call ref") => `(tactic| (k_here; (with_reducible show wpAny _ _ (call (Value.ref 118) _) _ _ _); k_dflt (refine' claim_use (c_modes _ _ _ _ _ _) ?B ?F ?X ?N (fun _ h => nomatch h) ?T ?hk ?hd ?hu ?_; walk_at "MINE use"; intro v9 own9 h9 tk9 hp9 F9 N9 hne9; obtain ⟨l9, f1, f2, f3, t1, t2, t3, e1, e2, hf1, hf2, hf3⟩ := hp9; subst e1; subst e2; (simp only [List.cons_append, List.nil_append] at N9); (have hne8 := allNe_of (fun q hq => (hne9 _ (List.Mem.head _) q hq).symm)); clear hne9; (simp only [AllNe, and_true] at hne8); (try dsimp only); (try k_fold))))
local macro_rules | `(tactic| walk_at "call ref") => `(tactic| (k_here; (with_reducible show wpAny _ _ (call (Value.ref 111) _) _ _ _); k_dflt (refine' claim_elt (c_filemode _ _ _ _ _ _ ?c1 ?c2) ?B ?F ?X ?N (fun _ h => nomatch h) ?T ?hk ?hd ?hu ?E ?_; walk_at "MINE use"; (case E => assumption); (case c1 => k_extra "MY c1"); (case c2 => k_extra "MY c2"); intro v9 h9 tk9 hp9 F9 N9 E9; obtain ⟨t9, e9⟩ := hp9; subst e9; (try dsimp only); (try k_fold))))
local macro_rules | `(tactic| walk_at "call ref") => `(tactic| (k_here; (with_reducible show wpAny _ _ (call (Value.ref 125) _) _ _ _); k_dflt (refine' claim_raw (c_look _ _ _ _ _ _ ?c1 ?c2) ?B ?F ?X ?N (fun _ h => nomatch h) ?T ?hk ?hd ?hu ?_; walk_at "MINE use"; (case c1 => k_extra "MY c1"); (case c2 => k_extra "MY c2"); intro v9 own9 h9 tk9 hp9 hk9 hf9; obtain ⟨l8, vs8, c8, e1, e2, hD8⟩ := hp9; subst e1; subst e2; exact ⟨_, _, _, rfl, hk9, hf9, DatIn.list (List.Mem.head _) (hD8.mono (fun _ h => absurd h (List.not_mem_nil)))⟩)))
local macro_rules | `(tactic| walk_at "call type:range") => `(tactic| (k_here; refine range1_rows (by k_asm) (by k_asm) ?_; intro h' tk' t1' u1' v1' hr' F' N' hkr'; (try dsimp only); (try k_fold)))
local macro_rules | `(tactic| walk_at "call builtin:list.index") => `(tactic| k_extra "MY index")
local macro_rules | `(tactic| walk_at "subscriptTail") => `(tactic| (refine item_at (by assumption) (by assumption) (by assumption) (by assumption) ?_))
local macro_rules | `(tactic| walk_at "TPost") => `(tactic| (dsimp only [TPost]))
local macro_rules | `(tactic| walk_at "compareOp Eq ref ref") => `(tactic| (refine cm_stop ?_; k_whole))
local macro_rules | `(tactic| walk_at "compareOp NotEq ref ref") => `(tactic| (refine cm_stop ?_; k_whole))
local macro_rules | `(tactic| walk_at "call ref") => `(tactic| (k_here; (with_reducible show wpAny _ _ (call (Value.ref 64) _) _ _ _); k_dflt (refine' claim_elt (c_user _ _ _ _ _ _ _ _ ?c1 ?c2) ?B ?F ?X ?N (fun _ h => nomatch h) ?T ?hk ?hd ?hu ?E ?_; walk_at "MINE use"; (case E => assumption); (case c1 => k_extra "MY c1"); (case c2 => k_extra "MY c2"); intro v9 h9 tk9 e9 F9 N9 E9; subst e9; (try dsimp only); (try k_fold))))
local macro_rules | `(tactic| walk_at "MINE up") => `(tactic| (repeat (first | assumption | (refine List.mem_cons_of_mem _ ?_))))
local macro_rules | `(tactic| walk_at "MINE ne") => `(tactic| first | assumption | exact Ne.symm (by assumption) | (refine neN ?_; dsimp only; omega))
local macro_rules | `(tactic| k_all) => `(tactic| first | assumption | exact List.forall_mem_nil _ | exact List.forall_mem_cons.mpr ⟨by walk_at "MINE ne", by k_all⟩)
local macro_rules | `(tactic| k_upd) => `(tactic| first | exact Upd.head (by k_all) | exact Upd.tail (by walk_at "MINE ne") (by k_upd))
local macro_rules | `(tactic| k_updF) => `(tactic| first | exact UpdF.head (by k_all) | exact UpdF.tail (by walk_at "MINE ne") (by k_updF))
local macro_rules | `(tactic| walk_at "MINE hyps") => `(tactic| ((case hh => with_unfolding_all rfl); (case hclos => with_unfolding_all rfl); (case hcell => decide); (case hkind => with_unfolding_all rfl); (case hnames => decide); (case hx => with_unfolding_all rfl); (case hs => intro _; with_unfolding_all rfl)))

-- T2
section
theorem Mine.reset_T2 : True := by
  w_top off
  k_with_none
  exact trivial
open PySem PySem.W PyProof.Rows PySem.Spec PySem.Calls
set_option Elab.async false
set_option linter.unusedVariables false
set_option pp.deepTerms false
set_option pp.deepTerms.threshold 6
namespace Mine
def lawStmt : Stmt := (PySem.Challenge.rw_tv0035_01.prog.main.body.getLast?).getD (.Pass ⟨0, 0, 0, 0⟩)
def lawBody : List Stmt := match lawStmt with
  | .FunctionDef _ _ body _ _ _ _ _ _ _ => body
  | _ => []
def lawScope : Scope := match lawStmt with
  | .FunctionDef _ _ _ _ _ _ scope _ _ _ => scope
  | _ => { kind := .function, names := [], isGenerator := false, isCoroutine := false, more := [] }
local macro_rules | `(tactic| walk_at "MINE up2") => `(tactic| first | assumption | (refine List.mem_cons_of_mem _ ?_; walk_at "MINE up2") | (refine List.mem_append_left _ ?_; walk_at "MINE up2") | (refine List.mem_append_right _ ?_; walk_at "MINE up2"))
local macro_rules | `(tactic| walk_at "call ref") => `(tactic| (k_here; (with_reducible show wpAny _ _ (call (Value.ref 130) _) _ _ _); k_extra "MY dom"))
local macro_rules | `(tactic| walk_at "call ref") => `(tactic| (k_here; (with_reducible show wpAny _ _ (call (Value.ref 137) _) _ _ _); k_extra "MY asked"))
local macro_rules | `(tactic| walk_at "call ref") => `(tactic| (k_here; (with_reducible show wpAny _ _ (call (Value.ref 144) _) _ _ _); k_extra "MY regrown"))
local macro_rules | `(tactic| walk_at "call ref") => `(tactic| (k_here; (with_reducible show wpAny _ _ (call (Value.ref 151) _) _ _ _); k_extra "MY stretches"))
set_option maxRecDepth 100000 in
set_option maxHeartbeats 8000000 in
theorem law_tail (w : World) (mean : ExcName → Option Value) (mg mb : Str → Option Value) (fa L scr : Addr) (cdv : Value) (h₀ : Heap) (m : Str → Option Value) (s : Shared) (Q : Flow → Shared → Prop) (E : Value → Shared → Prop)
    (vs : List Value) (ns : List Int) (hL : h₀.IsList scr vs.toArray) (hI : IntsAre vs ns) (hns : ns.length ≤ 63)
    (lt D D2 D3 : Addr) (lv ys ys2 ys3 : List Value) (c n n2 n3 : Nat) (o1 o2 o3 : Obj) (own : List (Addr × Obj)) (xs LS : List Str) (LK : List (List Int)) (FF : List Int)
    (K0 : Below callerA h₀ [] h₀) (F : Fr h₀ L s.heap (fun y => if y = Str.ofString "script" then some (.ref scr) else if y = Str.ofString "letters" then some (.ref lt) else m y))
    (N : News h₀ L s.heap ((lt, W.listOf lv.toArray c) :: (D3, W.listOf ys3.toArray n3) :: (D2, W.listOf ys2.toArray n2) :: (D, W.listOf ys.toArray n) :: (L + 1 + 1 + 1, o3) :: (L + 1 + 1, o2) :: (L + 1, o1) :: own))
    (d1 : o1.data = Data.cell (some (.ref D))) (d2 : o2.data = Data.cell (some (.ref D2))) (d3 : o3.data = Data.cell (some (.ref D3)))
    (DL : DatAll [] lv (xs.map Dat.str)) (hys : DatAll [] ys (LS.map Dat.str)) (hD2' : DatAll own ys2 (LK.map dRow)) (hys3 : IntsAre ys3 FF) (hLl : LS.length = 3) (hLK : LK.length = 3)
    (hxs : xs = FF.map fun p => LS.getD p.toNat Str.empty) (hFF : ∀ p ∈ FF, 0 ≤ p ∧ p < 3) (hFl : FF.length ≤ 3) (hfst : ∀ p : Int, 0 ≤ p → p < 3 → ((fstN LK p : Nat) : Int) ∈ FF) (hON : okN LS)
    (hmain : ∀ mem : List Int, 2 ≤ mem.length → mem.length ≤ 5 → (∀ p ∈ mem, 0 ≤ p ∧ p < 3) → mem.take 2 = [0, 1] →
      (askF (askok (hostS mem LS) xs) xs.length 9 [[]]).1 = stretchF (mem.map fun p => ((posN FF ((fstN LK p : Nat) : Int) : Nat) : Int)) ∧
      (askF (regok xs ((askF (askok (hostS mem LS) xs) xs.length 9 [[]]).2.map fun r => domS r xs)) xs.length 9 [[]]).1 = stretchF (mem.map fun p => ((posN FF ((fstN LK p : Nat) : Int) : Nat) : Int)) ∧
      (∀ r ∈ (askF (askok (hostS mem LS) xs) xs.length 9 [[]]).2, r.length ≤ 20 ∧ userM (Str.ofString "x" ++ domS r xs ++ Str.ofString ".x") (domS r xs) = false) ∧ (askF (askok (hostS mem LS) xs) xs.length 9 [[]]).2.length ≤ 1000)
    (hQ : ∀ h tk mQ, Fr h₀ L h mQ → Q (.ret (.bool true)) { s with heap := h, toks := tk }) :
    (Mine.hd.heap_39 w.params).In h₀ → Top Mine.hd.view_39 (looseW Mine.hd.view_39 [Str.ofString "IPV4_RE", Str.ofString "_filemode_table"]) mean mg mb h₀ →
    wpAny (model PySem.Challenge.rw_tv0035_01.row.prog w) (callerA.deeper (envOfC (Str.ofString "law") lawScope L fa cdv)) (execs (lawBody.drop 6) (envOfC (Str.ofString "law") lawScope L fa cdv)) Q E s := by
  k_fill
  intro X T
  have hb : lawBody.drop 6 = lawBody.drop 6 := rfl
  conv at hb => rhs; whnf
  rw [hb]; clear hb
  have hs : lawScope = lawScope := rfl
  conv at hs => rhs; whnf
  rw [hs]; clear hs
  have hxN : okN xs := by
    rw [hxs]; intro x hx
    obtain ⟨p, hp, rfl⟩ := List.mem_map.mp hx
    have := hFF p hp
    have hlt : p.toNat < LS.length := by omega
    rw [List.getD_eq_getElem?_getD, List.getElem?_eq_getElem hlt]
    exact hON _ (List.getElem_mem hlt)
  have hxl : xs.length ≤ 3 := by rw [hxs, List.length_map]; exact hFl
  have hylen : ys.length = 3 := by rw [hys.length, List.length_map, hLl]
  have hy2len : ys2.length = 3 := by rw [hD2'.length, List.length_map, hLK]
  (try k_fold)
  k_steps
  unfold CpAt
  refine' comp_d (K := ItemKind.int) (pz := fun _ => true) (d := fun p => PyData.str (LS.getD p.toNat Str.empty)) ?hh ?hclos ?hcell ?hkind ?hnames ?hx F ?h ?hs
  walk_at "MINE hyps"
  k_steps
  refine ⟨_, D3, ys3, FF, rfl, ⟨_, (N (D3, _) (by k_mem)).1, rfl, n3, rfl⟩, hys3.areOf, (by rw [sizeLine_eq]; omega), F, N, ?tests, ?elt, ?fin⟩
  case tests =>
    intro C a v s₂ m₂ E' _ _ _ _ _ _
    exact wpAny_pure ⟨rfl, keeps_refl _⟩
  case elt =>
    rintro C k v s₂ m₂ E' hC hk ⟨tk, rfl⟩ _ hns2 hmx hkeep
    have hk3 := hFF k hk
    have hLn : s₂.heap.IsList D ys.toArray := ⟨_, hkeep _ _ (N (D, _) (by k_mem)).1, rfl, n, rfl⟩
    have hlt : k.toNat < LS.length := by omega
    obtain ⟨y, hy, hyD⟩ := dat_get hys (k := k.toNat) (d := Dat.str (LS.getD k.toNat Str.empty)) (by rw [List.getElem?_map, List.getD_eq_getElem?_getD, List.getElem?_eq_getElem hlt]; rfl)
    have hk0 : 0 ≤ k := hk3.1
    have hk63 : k < 2 ^ 63 := by omega
    cases hyD with
    | str _ ty =>
    k_steps
    · exact Carried.str _ _
    · exact keeps_at fun _ _ e => e
  case fin =>
    intro D4 ys4 h' tk F' N' h0 hl' P' hC
    rw [List.filter_eq_self.mpr (fun _ _ => rfl)] at hC
    have hys4 : DatAll [] ys4 (xs.map Dat.str) := by
      have hC' : CarriedAll ys4 (xs.map PyData.str) := by rw [hxs, List.map_map]; exact hC
      exact carried_strs hC'
    obtain ⟨n4, N4, hne4⟩ := newPlain_led F' N' h0 P'
    clear hC N' P' hl' F N hne4
    (try k_fold)
    k_steps
    unfold CmAt
    refine' dat_ne (ds := xs.map Dat.str) (es := xs.map Dat.str) (by assumption) (by k_mem) (by k_mem) DL (fun _ h => absurd h List.not_mem_nil) hys4 (fun _ h => absurd h List.not_mem_nil) (kqd_strs hxN.ok) (kqd_strs hxN.ok) ?hu false ⟨fun _ => rfl, fun _ => rfl⟩ ?_
    case hu => ktr_units
    k_steps
    unfold CpAt
    (with_reducible rename Fr _ _ _ _ => F5)
    (with_reducible rename News _ _ _ _ => N5)
    refine' comp_d (K := ItemKind.int) (pz := fun _ => true) (d := fun p => PyData.int (p.fmod 3)) ?hh ?hclos ?hcell ?hkind ?hnames ?hx F5 ?h ?hs
    walk_at "MINE hyps"
    k_steps
    rename_i la hx1 l1a Ds wss hx2 F6 N6 hI6 hC6 hL6 l6
    refine ⟨_, Ds, wss, ns.take 3, rfl, ⟨_, (N6 (Ds, _) (by k_mem)).1, rfl, 0, rfl⟩, hI6.areOf, (by rw [sizeLine_eq]; omega), F6, N6, ?tests, ?elt, ?fin⟩
    case tests =>
      intro C a v s₂ m₂ E' _ _ _ _ _ _
      exact wpAny_pure ⟨rfl, keeps_refl _⟩
    case elt =>
      rintro C k v s₂ m₂ E' hC hk ⟨tk, rfl⟩ _ hns2 hmx hkeep
      k_steps
      · exact Carried.int _ _
      · exact keeps_at fun _ _ e => e
    case fin =>
      intro D6 ys6 h' tk F' N' h0 hl' P' hC
      rw [List.filter_eq_self.mpr (fun _ _ => rfl)] at hC
      have hys6 : IntsAre ys6 ((ns.take 3).map fun p => p.fmod 3) := by
        have hC' : CarriedAll ys6 (((ns.take 3).map fun p => p.fmod 3).map PyData.int) := by rw [List.map_map]; exact hC
        exact carried_ints hC'
      obtain ⟨n6, N7, hne6⟩ := newPlain_led F' N' h0 P'
      clear hC N' P' hl' F6 N6 hne6
      (try k_fold)
      k_steps
      rename_i mb us hx3 hI8 l8 hx4 F8 N8
      generalize hmem : [0, 1] ++ List.map (fun p => Int.fmod p 3) (List.take 3 ns) = mem at hI8
      have hml : 2 ≤ mem.length ∧ mem.length ≤ 5 := by
        rw [← hmem]; simp only [List.length_append, List.length_map, List.length_take, List.length_cons, List.length_nil]; omega
      have hm3 : ∀ p ∈ mem, 0 ≤ p ∧ p < 3 := by
        rw [← hmem]; intro p hp
        rcases List.mem_append.mp hp with hp | hp
        · simp only [List.mem_cons, List.not_mem_nil, or_false] at hp
          rcases hp with rfl | rfl <;> decide
        · obtain ⟨q, _, rfl⟩ := List.mem_map.mp hp
          exact ⟨Int.fmod_nonneg_of_pos _ (by decide), Int.fmod_lt_of_pos _ (by decide)⟩
      have hmt : mem.take 2 = [0, 1] := by rw [← hmem]; rfl
      obtain ⟨hA, hB, hC1, hC2⟩ := hmain mem hml.1 hml.2 hm3 hmt
      unfold CpAt
      refine' comp_d (K := ItemKind.int) (pz := fun _ => true) (d := fun p => PyData.int ((posN FF ((fstN LK p : Nat) : Int) : Nat) : Int)) ?hh ?hclos ?hcell ?hkind ?hnames ?hx F8 ?h ?hs
      walk_at "MINE hyps"
      k_steps
      refine ⟨_, mb, us, mem, rfl, ⟨_, (N8 (mb, _) (by k_mem)).1, rfl, 0, rfl⟩, hI8.areOf, (by rw [sizeLine_eq]; omega), F8, N8, ?tests, ?elt, ?fin⟩
      case tests =>
        intro C a v s₂ m₂ E' _ _ _ _ _ _
        exact wpAny_pure ⟨rfl, keeps_refl _⟩
      case elt =>
        rintro C a v s₂ m₂ E' hC ha ⟨tk, rfl⟩ _ hns2 hmx hkeep
        have ha3 := hm3 a ha
        have ha0 : 0 ≤ a := ha3.1
        have hi : a.toNat < ys2.length := by omega
        have ha63 : a < 2 ^ 63 := by omega
        obtain ⟨r, ra, us', cr, hr, hv, hm, hu⟩ := row_get hD2' (List.getElem?_eq_getElem hi)
        have hvi : ys2[a.toNat]? = some (.ref ra) := by rw [List.getElem?_eq_getElem hi, hv]
        have hLn : s₂.heap.IsList D2 ys2.toArray := ⟨_, hkeep _ _ (N8 (D2, _) (by k_mem)).1, rfl, n2, rfl⟩
        obtain ⟨fs1, fs2, fs3⟩ := fst_spec hr
        have fs4 : (LK.map dRow).length ≤ 16384 := by rw [List.length_map]; omega
        obtain ⟨ps1, ps2, ps3⟩ := pos_spec (hfst a ha3.1 ha3.2)
        have ps4 : (FF.map Dat.int).length ≤ 16384 := by rw [List.length_map]; omega
        k_with "MY index" => first
          | (refine' dat_index (by assumption) (by k_mem) hD2' ?sa (list_in hm hu) ?sx (kqd_rows _) (kqd_row _) ?hu fs1 fs4 fs2 fs3 ?_; (case sa => intro p hp; walk_at "MINE up"); (case sx => intro p hp; walk_at "MINE up"); (case hu => ktr_units); intro _ _)
          | (refine' dat_index (n₁ := []) (n₂ := []) (by assumption) (by k_mem) (ints_dat hys3) (fun _ h => absurd h List.not_mem_nil) (DatIn.int _ _) (fun _ h => absurd h List.not_mem_nil) (kqd_ints _) rfl ?hu ps1 ps4 ps2 ps3 ?_; (case hu => ktr_units); intro _ _)
        k_steps
        · exact Carried.int _ _
        · exact keeps_at fun _ _ e => e
      case fin =>
        intro D7 ys7 h' tk F' N' h0 hl' P' hC
        rw [List.filter_eq_self.mpr (fun _ _ => rfl)] at hC
        generalize hsp : (mem.map fun p => ((posN FF ((fstN LK p : Nat) : Int) : Nat) : Int)) = sp at hA hB
        have hys7 : IntsAre ys7 sp := by
          have hC' : CarriedAll ys7 (sp.map PyData.int) := by rw [← hsp, List.map_map]; exact hC
          exact carried_ints hC'
        have hspl : sp.length ≤ 5 := by rw [← hsp, List.length_map]; exact hml.2
        obtain ⟨n7, N9, hne7⟩ := newPlain_led F' N' h0 P'
        clear hC N' P' hl' F8 N8 hne7
        (try k_fold)
        k_with "MY stretches" => (k_dflt (refine' claim_use (c_stretches _ _ _ _ _ _ _ _ hys7 hspl) ?B ?F ?X ?N ?hs ?T ?hk ?hd ?hu ?_; walk_at "MINE use"; (case hs => intro p hp; rw [List.mem_singleton.mp hp]; k_mem); intro v9 own9 h9 tk9 hp9 F9 N9 hne9; obtain ⟨dueA, dueV, cdue, e9, m9, Ddue⟩ := hp9; subst e9; have N10 := news1 N9 m9; clear N9; (simp only [List.cons_append, List.nil_append] at N10); (try dsimp only); (try k_fold)))
        have hmL : ∀ k ∈ mem, 0 ≤ k ∧ k < (LS.length : Int) := fun k hk => by have := hm3 k hk; omega
        have hm20 : mem.length ≤ 20 := by omega
        have hL10 : ∀ x ∈ LS, x.length ≤ 10 := fun x hx => (hON x hx).1
        have hL20 : LS.length ≤ 20 := by omega
        have hokH : okS (Str.ofString "x" ++ domS mem LS) := okS_host hON hm20
        have hfit : (Str.ofString "x").length + (domS mem LS).length ≤ sizeLine := by
          have := hokH.2
          rw [Str.length_append] at this
          rw [sizeLine_eq]; omega
        k_with "MY dom" => (k_dflt (refine' claim_useL (c_domain _ _ _ _ _ _ _ _ _ _ mem LS [] (ints_dat hI8) hys hmL hm20 hL10 hL20) ?B ?F ?X ?N ?hs ?T ?hk ?hd ?hu ?_; walk_at "MINE use"; (case hs => intro p hp; rcases List.mem_cons.mp hp with rfl | hp; k_mem; rw [List.mem_singleton.mp hp]; k_mem); intro v9 h9 tk9 e9 F9 N9; obtain ⟨t9, e9⟩ := e9; subst e9; (try dsimp only); (try k_fold)))
        k_with "MY asked" => (k_dflt (refine' claim_use (c_asked _ _ _ _ (Str.ofString "x" ++ domS mem LS) _ lt lv c xs [] DL hokH hxN hxl) ?B ?F ?X ?N ?hs ?T ?hk ?hd ?hu ?_; walk_at "MINE use"; (case hs => intro p hp; rw [List.mem_singleton.mp hp]; k_mem); intro v8 own8 h8 tk8 hp8 F8 N8 hne8; obtain ⟨tA, fA, nA, fV, nV, cf, cn, e8, m81, m82, m83, Dfound, Dnoted⟩ := hp8; subst e8; have N11 := news3 N8 m81 m82 m83; clear N8; (simp only [List.cons_append, List.nil_append] at N11); (try dsimp only); (try k_fold)))
        k_steps
        rename_i hx5 hx6 hx7 F10 N12
        obtain ⟨den, hden⟩ : ∃ den, den = (askF (askok (hostS mem LS) xs) xs.length 9 [[]]).2.map fun r => domS r xs := ⟨_, rfl⟩
        rw [← hden] at hB
        have Dden : DatAll own8 nV (den.map Dat.str) := by rw [hden, List.map_map]; exact Dnoted
        have hdok : ∀ y ∈ den, okS y ∧ y.length ≤ 990 ∧ userM (Str.ofString "x" ++ y ++ Str.ofString ".x") y = false := by
          rw [hden]; intro y hy
          obtain ⟨r, hr, rfl⟩ := List.mem_map.mp hy
          obtain ⟨hr1, hr2⟩ := hC1 r hr
          exact ⟨okS_dom hxN hr1, dom_len hxN hr1, hr2⟩
        have hdlen : den.length ≤ 1000 := by rw [hden, List.length_map]; exact hC2
        unfold CpAt
        refine' comp_d (K := ItemKind.str) (pz := fun y => userM (Str.ofString "x" ++ y ++ Str.ofString ".x") y) (d := fun y => PyData.str y) ?hh ?hclos ?hcell ?hkind ?hnames ?hx F10 ?h ?hs
        walk_at "MINE hyps"
        k_steps
        refine ⟨_, nA, nV, den, rfl, ⟨_, (N12 (nA, _) (by k_mem)).1, rfl, cn, rfl⟩, dat_areStrs Dden, (by rw [sizeLine_eq]; omega), F10, N12, ?tests, ?elt, ?fin⟩
        case tests =>
          rintro C y v s₂ m₂ E' hC hy ⟨ty, rfl⟩ hns2 hmx hkeep
          obtain ⟨hy1, hy2, hy3⟩ := hdok y hy
          have hf1 : (Str.ofString "x").length + y.length ≤ sizeLine := by
            rw [show (Str.ofString "x").length = 1 by decide +kernel, sizeLine_eq]; omega
          have hf2 : (Str.ofString "x" ++ y).length + (Str.ofString ".x").length ≤ sizeLine := by
            rw [Str.length_append, show (Str.ofString "x").length = 1 by decide +kernel, show (Str.ofString ".x").length = 2 by decide +kernel, sizeLine_eq]; omega
          have hy4 := okS_behind hy1 hy2
          k_with "MY c1" => exact hy4
          k_with "MY c2" => exact hy1
          k_steps
          rename InElt _ _ => kE
          exact keeps_at kE
        case elt =>
          rintro C y v s₂ m₂ E' hC hy ⟨ty, rfl⟩ _ hns2 hmx hkeep
          k_steps
          · exact Carried.str _ _
          · exact keeps_at fun _ _ e => e
        case fin =>
          intro D8 ys8 h' tk F' N' h0 hl' P' hC
          rw [List.filter_eq_nil_iff.mpr fun y hy => by rw [(hdok y hy).2.2]; exact Bool.false_ne_true] at hC
          have hys8 : DatAll [] ys8 (([] : List Str).map Dat.str) := carried_strs hC
          obtain ⟨n8, N13, hne13⟩ := newPlain_led F' N' h0 P'
          clear hC N' P' hl' F10 N12 hne13
          (try k_fold)
          k_steps
          unfold CmAt
          refine' dat_ne (ds := []) (es := []) (xs := ys8) (ys := []) (n₁ := []) (n₂ := []) (by assumption) (by k_mem) (by k_mem) hys8 (fun _ h => absurd h List.not_mem_nil) .nil (fun _ h => absurd h List.not_mem_nil) (fun _ h => absurd h List.not_mem_nil) (fun _ h => absurd h List.not_mem_nil) ?hu false ⟨fun _ => rfl, fun _ => rfl⟩ ?_
          case hu => ktr_units
          k_steps
          unfold CmAt
          have Dfound' : DatAll own8 fV ((stretchF sp).map dLevel) := by
            have h := Dfound
            rw [show Str.ofString "x" ++ domS mem LS = hostS mem LS from rfl, hA] at h
            exact h
          refine' dat_eq (by assumption) (by k_mem) (by k_mem) Dfound' ?sa Ddue ?sb (kqd_levels _) (kqd_levels _) ?hu true ⟨fun _ => rfl, fun _ => rfl⟩ ?_
          case sa => intro p hp; walk_at "MINE up2"
          case sb => intro p hp; walk_at "MINE up2"
          case hu => ktr_units
          k_with "MY regrown" => (k_dflt (refine' claim_use (c_regrown _ _ _ _ lt nA lv nV c cn xs den [] own8 DL Dden (fun y hy => (hdok y hy).1) hxN hxl) ?B ?F ?X ?N ?hs ?T ?hk ?hd ?hu ?_; walk_at "MINE use"; (case hs => intro p hp; rcases List.mem_cons.mp hp with rfl | hp; k_mem; rw [List.mem_singleton.mp hp]; k_mem); intro v7 own7 h7 tk7 hp7 F7 N7 hne7; obtain ⟨gA, gV, cg, e7, m7, Dgrown⟩ := hp7; subst e7; have N14 := news1 N7 m7; clear N7; (simp only [List.cons_append, List.nil_append] at N14); (try dsimp only); (try k_fold)))
          k_steps
          unfold CmAt
          rw [hB] at Dgrown
          refine' dat_eq (by assumption) (by k_mem) (by k_mem) Dgrown ?sa2 Ddue ?sb2 (kqd_levels _) (kqd_levels _) ?hu2 true ⟨fun _ => rfl, fun _ => rfl⟩ ?_
          case sa2 => intro p hp; walk_at "MINE up2"
          case sb2 => intro p hp; walk_at "MINE up2"
          case hu2 => ktr_units
          k_steps
          all_goals exact hQ _ _ _ (by assumption)
end Mine
end

-- T3
section
theorem Mine.reset_T3 : True := by
  w_top off
  k_with_none
  exact trivial
open PySem PySem.W PyProof.Rows PySem.Spec PySem.Calls
set_option Elab.async false
set_option linter.unusedVariables false
set_option pp.deepTerms false
set_option pp.deepTerms.threshold 6
namespace Mine
set_option maxRecDepth 100000 in
set_option maxHeartbeats 8000000 in
theorem law_loop (w : World) (mean : ExcName → Option Value) (mg mb : Str → Option Value) (fa L scr : Addr) (cdv : Value) (h₀ : Heap) (m : Str → Option Value) (s : Shared) (Q : Flow → Shared → Prop) (E : Value → Shared → Prop)
    (vs : List Value) (ns : List Int) (hL : h₀.IsList scr vs.toArray) (hI : IntsAre vs ns) (hns : ns.length ≤ 63)
    (lt D D2 D3 : Addr) (ys ys2 ys3 : List Value) (n n2 n3 : Nat) (o1 o2 o3 o4 : Obj) (own : List (Addr × Obj)) (xs LS : List Str) (LK : List (List Int)) (FF : List Int)
    (K0 : Below callerA h₀ [] h₀) (F : Fr h₀ L s.heap (fun y => if y = Str.ofString "script" then some (.ref scr) else if y = Str.ofString "letters" then some (.ref lt) else m y))
    (N : News h₀ L s.heap ((lt, W.listOf ([] : List Value).toArray 0) :: (L + 1 + 1 + 1 + 1, o4) :: (D3, W.listOf ys3.toArray n3) :: (D2, W.listOf ys2.toArray n2) :: (D, W.listOf ys.toArray n) :: (L + 1 + 1 + 1, o3) :: (L + 1 + 1, o2) :: (L + 1, o1) :: own))
    (z1 : ∀ p ∈ (L + 1 + 1 + 1 + 1, o4) :: (D3, W.listOf ys3.toArray n3) :: (D2, W.listOf ys2.toArray n2) :: (D, W.listOf ys.toArray n) :: (L + 1 + 1 + 1, o3) :: (L + 1 + 1, o2) :: (L + 1, o1) :: own, p.1 ≠ lt)
    (z2 : ∀ p ∈ (D3, W.listOf ys3.toArray n3) :: (D2, W.listOf ys2.toArray n2) :: (D, W.listOf ys.toArray n) :: (L + 1 + 1 + 1, o3) :: (L + 1 + 1, o2) :: (L + 1, o1) :: own, p.1 ≠ L + 1 + 1 + 1 + 1)
    (d1 : o1.data = Data.cell (some (.ref D))) (d2 : o2.data = Data.cell (some (.ref D2))) (d3 : o3.data = Data.cell (some (.ref D3))) (d4 : ∃ v0, o4.data = Data.cell v0)
    (hys : DatAll [] ys (LS.map Dat.str)) (hD2' : DatAll own ys2 (LK.map dRow)) (hys3 : IntsAre ys3 FF) (hLl : LS.length = 3) (hLK : LK.length = 3) (hxe : lettersF LS = xs)
    (hxs : xs = FF.map fun p => LS.getD p.toNat Str.empty) (hFF : ∀ p ∈ FF, 0 ≤ p ∧ p < 3) (hFl : FF.length ≤ 3) (hfst : ∀ p : Int, 0 ≤ p → p < 3 → ((fstN LK p : Nat) : Int) ∈ FF) (hON : okN LS)
    (hmain : ∀ mem : List Int, 2 ≤ mem.length → mem.length ≤ 5 → (∀ p ∈ mem, 0 ≤ p ∧ p < 3) → mem.take 2 = [0, 1] →
      (askF (askok (hostS mem LS) xs) xs.length 9 [[]]).1 = stretchF (mem.map fun p => ((posN FF ((fstN LK p : Nat) : Int) : Nat) : Int)) ∧
      (askF (regok xs ((askF (askok (hostS mem LS) xs) xs.length 9 [[]]).2.map fun r => domS r xs)) xs.length 9 [[]]).1 = stretchF (mem.map fun p => ((posN FF ((fstN LK p : Nat) : Int) : Nat) : Int)) ∧
      (∀ r ∈ (askF (askok (hostS mem LS) xs) xs.length 9 [[]]).2, r.length ≤ 20 ∧ userM (Str.ofString "x" ++ domS r xs ++ Str.ofString ".x") (domS r xs) = false) ∧ (askF (askok (hostS mem LS) xs) xs.length 9 [[]]).2.length ≤ 1000)
    (hQ : ∀ h tk mQ, Fr h₀ L h mQ → Q (.ret (.bool true)) { s with heap := h, toks := tk }) :
    PassesOwn (model PySem.Challenge.rw_tv0035_01.row.prog w) (callerA.deeper (envOfC (Str.ofString "law") lawScope L fa cdv)) (envOfC (Str.ofString "law") lawScope L fa cdv) E →
    (Mine.hd.heap_39 w.params).In h₀ → Top Mine.hd.view_39 (looseW Mine.hd.view_39 [Str.ofString "IPV4_RE", Str.ofString "_filemode_table"]) mean mg mb h₀ →
    wpAny (model PySem.Challenge.rw_tv0035_01.row.prog w) (callerA.deeper (envOfC (Str.ofString "law") lawScope L fa cdv)) (execs (lawBody.drop 5) (envOfC (Str.ofString "law") lawScope L fa cdv)) Q E s := by
  k_fill
  have hokS : ∀ x ∈ LS, okS x := hON.ok
  have hylen : ys.length = 3 := by rw [hys.length, List.length_map, hLl]
  have tail := fun (h' : Heap) (tk : Nat) (m' : Str → Option Value) (lv : List Value) (c : Nat) => law_tail w mean mg mb fa L scr cdv h₀ m' { s with heap := h', toks := tk } Q E vs ns hL hI hns lt D D2 D3 lv ys ys2 ys3 c n n2 n3 o1 o2 o3 own xs LS LK FF K0
  have hb : lawBody.drop 5 = (lawBody.drop 5) := rfl
  conv at hb => rhs; whnf
  rw [hb]; clear hb
  have hs : lawScope = lawScope := rfl
  conv at hs => rhs; whnf
  rw [hs]; clear hs
  intro hE X T
  walk1
  refine for_loop F ?_ (hE := hE)
  walk1
  generalize hfx : (D3, W.listOf ys3.toArray n3) :: (D2, W.listOf ys2.toArray n2) :: (D, W.listOf ys.toArray n) :: (L + 1 + 1 + 1, o3) :: (L + 1 + 1, o2) :: (L + 1, o1) :: own = fx at N z1 z2
  have hDm : (D, W.listOf ys.toArray n) ∈ fx := by rw [← hfx]; k_mem
  obtain ⟨z0, z1⟩ := List.forall_mem_cons.mp z1
  dsimp only at z0
  refine loop_list (nn := n) (vs := ys) (litJ lt (L + 1 + 1 + 1 + 1) (.ref scr) LS fx) rfl F N (.tail _ (.tail _ hDm)) ?j2 ?turn2 ?done2
  case j2 => exact ⟨[], 0, o4, rfl, d4, .nil, rfl, rfl⟩
  case turn2 =>
    rintro i v m₂ nx₂ h₂ tk₂ its hv ⟨lv, c, o, rfl, ⟨v0, hod⟩, DL, q1, q2⟩ ha hkeep G₁ M₁
    replace G₁ : Fr h₀ L h₂ m₂ := G₁
    have G2 := fr_at (x := Str.ofString "letters") G₁ q1
    have G3 := fr_at (x := Str.ofString "script") G2 (by rw [if_neg (by decide)]; exact q2)
    clear G₁ G2 F N
    simp only [List.cons_append] at M₁
    replace M₁ : News h₀ L h₂ _ := M₁
    obtain ⟨x, hx, hxD⟩ := dat_str_at hys hv
    cases hxD with
    | str _ t =>
    have hiL : i < LS.length := (List.getElem?_eq_some_iff.mp hx).1
    have hokx : okS x := hokS x (List.mem_of_getElem? hx)
    have y1 : ∀ p ∈ fx ++ its, p.1 ≠ lt := fun p hp => by
      rcases List.mem_append.mp hp with hp | hp
      · exact z1 p hp
      · exact ha p hp _ (.head _)
    have y2 : ∀ p ∈ fx ++ its, p.1 ≠ L + 1 + 1 + 1 + 1 := fun p hp => by
      rcases List.mem_append.mp hp with hp | hp
      · exact z2 p hp
      · exact ha p hp _ (.tail _ (.head _))
    k_steps
    rename_i hx1 o' F5 N5 d5
    generalize hLT : lettersF (LS.take i) = LT at DL
    have hLTs : ∀ y ∈ LT, okS y := by rw [← hLT]; intro y hy; exact hokS y (List.mem_of_mem_take (letters_sub _ y hy))
    have hLTl : LT.length ≤ 3 := by
      rw [← hLT]
      have := letters_len (LS.take i)
      rw [List.length_take] at this
      omega
    have hline : lv.length + 1 ≤ sizeLine := by
      have h1 := DL.length
      rw [List.length_map] at h1
      rw [sizeLine_eq]; omega
    unfold CpAt
    refine' comp_d (K := ItemKind.str) (pz := fun y => userM x y) (d := fun y => PyData.str y) ?hh ?hclos ?hcell ?hkind ?hnames ?hx F5 ?h ?hs
    walk_at "MINE hyps"
    k_steps
    refine ⟨_, lt, lv, LT, rfl, ⟨_, (N5 (lt, _) (by k_mem)).1, rfl, c, rfl⟩, dat_areStrs DL, (by rw [sizeLine_eq]; omega), F5, N5, ?tests, ?elt, ?fin⟩
    case tests =>
      rintro C y v s₂ m₂ E' hC hy ⟨ty, rfl⟩ hns2 hmx hkeep2
      have hoky := hLTs y hy
      k_with "MY c1" => exact hokx
      k_with "MY c2" => exact hoky
      k_steps
      rename InElt _ _ => kE
      exact keeps_at kE
    case elt =>
      rintro C y v s₂ m₂ E' hC hy ⟨ty, rfl⟩ _ hns2 hmx hkeep2
      k_steps
      · exact Carried.str _ _
      · exact keeps_at fun _ _ e => e
    case fin =>
      intro D9 ys9 h' tk F' N' h0 hl' P' hC
      have hys9 : DatAll [] ys9 ((LT.filter (userM x)).map Dat.str) := carried_strs hC
      have hks : ∀ y ∈ LT.filter (userM x), okS y := fun y hy => hLTs y (List.mem_filter.mp hy).1
      obtain ⟨n9, N6, hne6⟩ := newPlain_led F' N' h0 P'
      have w1 : D9 ≠ lt := (hne6 _ (.head _)).symm
      have w2 : D9 ≠ L + 1 + 1 + 1 + 1 := (hne6 _ (.tail _ (.head _))).symm
      have w3 : ∀ p ∈ fx ++ its, p.1 ≠ D9 := fun p hp => hne6 p (.tail _ (.tail _ hp))
      have w4 : lt ≠ L + 1 + 1 + 1 + 1 := z0.symm
      have w5 : L + 1 + 1 + 1 + 1 ≠ lt := z0
      clear hC N' P' hl' F5 N5 hne6
      (try k_fold)
      k_steps
      unfold CmAt
      by_cases hq : LT.filter (userM x) = []
      · refine' dat_eq (ds := (LT.filter (userM x)).map Dat.str) (es := []) (ys := []) (n₁ := []) (n₂ := []) (by assumption) (by k_mem) (by k_mem) hys9 (fun _ h => absurd h List.not_mem_nil) .nil (fun _ h => absurd h List.not_mem_nil) (kqd_strs hks) (fun _ h => absurd h List.not_mem_nil) ?hu true ⟨fun _ => rfl, fun _ => by rw [hq]; rfl⟩ ?_
        case hu => ktr_units
        k_steps
        rename_i hz FZ NZ
        simp only [List.push_toArray] at NZ
        refine TEnd.intro ((lt, W.listOf (List.toArray (lv ++ [Value.str x t])) (c + 1)) :: (L + 1 + 1 + 1 + 1, o') :: fx) FZ NZ ?zi ?zn ?za ?zk ⟨lv ++ [Value.str x t], (c + 1), o', rfl, ⟨_, d5⟩, ?zD, rfl, rfl⟩
        case zi => intro p hp; have hp := List.mem_append_right fx hp; walk_at "MINE up"
        case zn =>
          intro p hp
          rcases List.mem_cons.mp hp with rfl | hp; k_mem
          rcases List.mem_cons.mp hp with rfl | hp; k_mem
          have hp := List.mem_append_left its hp; walk_at "MINE up"
        case za =>
          intro p hp q hq'
          rcases List.mem_cons.mp hq' with rfl | hq'; exact ha p hp (lt, W.listOf (List.toArray lv) c) (.head _)
          rcases List.mem_cons.mp hq' with rfl | hq'; exact ha p hp (L + 1 + 1 + 1 + 1, o) (.tail _ (.head _))
          exact ha p hp q (.tail _ (.tail _ hq'))
        case zk => intro p hp; rw [List.mem_singleton.mp hp]; exact .tail _ (.tail _ hDm)
        case zD => rw [letters_step hx, hLT, if_pos hq, List.map_append]; exact DL.append (DatAll.one (DatIn.str _ _))
      · refine' dat_eq (ds := (LT.filter (userM x)).map Dat.str) (es := []) (ys := []) (n₁ := []) (n₂ := []) (by assumption) (by k_mem) (by k_mem) hys9 (fun _ h => absurd h List.not_mem_nil) .nil (fun _ h => absurd h List.not_mem_nil) (kqd_strs hks) (fun _ h => absurd h List.not_mem_nil) ?hu false ⟨fun h => absurd (List.map_eq_nil_iff.mp h) hq, fun h => absurd h (by decide)⟩ ?_
        case hu => ktr_units
        k_steps
        (with_reducible rename News _ _ _ _ => NZ)
        (with_reducible rename Fr _ _ _ _ => FZ)
        refine TEnd.intro ((lt, W.listOf (List.toArray (lv)) c) :: (L + 1 + 1 + 1 + 1, o') :: fx) FZ NZ ?zi ?zn ?za ?zk ⟨lv, c, o', rfl, ⟨_, d5⟩, ?zD, rfl, rfl⟩
        case zi => intro p hp; have hp := List.mem_append_right fx hp; walk_at "MINE up"
        case zn =>
          intro p hp
          rcases List.mem_cons.mp hp with rfl | hp; k_mem
          rcases List.mem_cons.mp hp with rfl | hp; k_mem
          have hp := List.mem_append_left its hp; walk_at "MINE up"
        case za =>
          intro p hp q hq'
          rcases List.mem_cons.mp hq' with rfl | hq'; exact ha p hp (lt, W.listOf (List.toArray lv) c) (.head _)
          rcases List.mem_cons.mp hq' with rfl | hq'; exact ha p hp (L + 1 + 1 + 1 + 1, o) (.tail _ (.head _))
          exact ha p hp q (.tail _ (.tail _ hq'))
        case zk => intro p hp; rw [List.mem_singleton.mp hp]; exact .tail _ (.tail _ hDm)
        case zD => rw [letters_step hx, hLT, if_neg hq]; exact DL
  case done2 =>
    rintro h' tk m' nx ⟨lv, c, o, rfl, hod, DL, q1, q2⟩ _ K₁ P₁
    replace K₁ : Fr h₀ L h' m' := K₁
    have K2 := fr_at (x := Str.ofString "letters") K₁ q1
    have K3 := fr_at (x := Str.ofString "script") K2 (by rw [if_neg (by decide)]; exact q2)
    rw [show ys.length = LS.length by omega, List.take_length, hxe] at DL
    walk1
    refine tail h' tk m' lv c K3 (fun p hp => P₁ p ?_) d1 d2 d3 DL hys hD2' hys3 hLl hLK hxs hFF hFl hfst hON hmain (fun h tk mQ fQ => hQ h tk mQ fQ) X T
    rw [← hfx]
    simp only [List.mem_cons] at hp ⊢
    rcases hp with h | h | h | h | h | h | h | h <;> simp [h]
end Mine
end

-- P3
section
open PySem PySem.W PyProof.Rows PySem.Spec PySem.Calls
set_option Elab.async false
set_option linter.unusedVariables false
set_option maxRecDepth 100000
namespace Mine
def lw (x : Str) : List Nat := (cs x).map lowA
theorem pick1 {p : Int → Bool} {b : Int} {x d : Str} : pick p d [(b, x)] = if p b = true then x else d := by
  unfold pick
  cases h : p b <;> simp [List.find?, h]
theorem pick3 {p : Int → Bool} {b1 b2 b3 : Int} {x1 x2 x3 d : Str} : pick p d [(b1, x1), (b2, x2), (b3, x3)] = if p b1 = true then x1 else if p b2 = true then x2 else if p b3 = true then x3 else d := by
  unfold pick
  cases h1 : p b1 <;> cases h2 : p b2 <;> cases h3 : p b3 <;> simp [List.find?, h1, h2, h3]
theorem and_nat (N m : Nat) : Builtin.bitAnd (N : Int) (m : Int) = ((N &&& m : Nat) : Int) := by
  rw [bitAnd_pp (Int.natCast_nonneg _) (Int.natCast_nonneg _), Int.toNat_natCast, Int.toNat_natCast]
theorem bit_is (N k : Nat) : (Builtin.bitAnd (N : Int) ((2 ^ k : Nat) : Int) == ((2 ^ k : Nat) : Int)) = (N / 2 ^ k % 2 == 1) := by
  rw [and_nat, nat_and_pow]
  have hp : 0 < 2 ^ k := Nat.two_pow_pos k
  rcases Nat.mod_two_eq_zero_or_one (N / 2 ^ k) with q | q
  · rw [q, Nat.zero_mul]
    rw [beq_eq_false_iff_ne.mpr (fun e => by have := Int.natCast_inj.mp e; omega)]
    rfl
  · rw [q, Nat.one_mul]
    rw [Bool.eq_iff_iff]
    simp
theorem bits_is (N j k : Nat) (hjk : 2 ^ j + 2 ^ k = 2 ^ j ||| 2 ^ k) (h1 : (0 ||| 2 ^ k) ≠ 2 ^ j ||| 2 ^ k) (h2 : (2 ^ j ||| 0) ≠ 2 ^ j ||| 2 ^ k) (h3 : (0 ||| 0) ≠ 2 ^ j ||| 2 ^ k) : (Builtin.bitAnd (N : Int) ((2 ^ j + 2 ^ k : Nat) : Int) == ((2 ^ j + 2 ^ k : Nat) : Int)) = ((N / 2 ^ j % 2 == 1) && (N / 2 ^ k % 2 == 1)) := by
  rw [hjk, and_nat, Nat.and_or_distrib_left, nat_and_pow, nat_and_pow, Bool.eq_iff_iff]
  rw [beq_iff_eq, Bool.and_eq_true, beq_iff_eq, beq_iff_eq, Int.natCast_inj]
  rcases Nat.mod_two_eq_zero_or_one (N / 2 ^ j) with q | q <;> rcases Nat.mod_two_eq_zero_or_one (N / 2 ^ k) with r | r <;> rw [q, r] <;> simp only [Nat.zero_mul, Nat.one_mul]
  · exact ⟨fun h => absurd h h3, fun h => absurd h.1 (by decide)⟩
  · exact ⟨fun h => absurd h h1, fun h => absurd h.1 (by decide)⟩
  · exact ⟨fun h => absurd h h2, fun h => absurd h.2 (by decide)⟩
  · simp
def encB (c : Nat) (l : Int) : List Nat := if l = 1 then [c] else [45]
def encR (c : Nat) (l : Int) : List Nat := if l = 2 then [c] else if l = 1 then [120] else [45]
def enc0 (l : Int) : List Nat := if l = 10 then [108] else if l = 12 then [115] else if l = 8 then [45] else if l = 6 then [98] else if l = 4 then [100] else if l = 2 then [99] else if l = 1 then [112] else [63]
def encL : List Int → List Nat
  | [a0, a1, a2, a3, a4, a5, a6, a7, a8, a9] => enc0 a0 ++ (encB 114 a1 ++ (encB 119 a2 ++ (encR 115 a3 ++ (encB 114 a4 ++ (encB 119 a5 ++ (encR 115 a6 ++ (encB 114 a7 ++ (encB 119 a8 ++ encR 116 a9))))))))
  | _ => []
theorem look_bit (N k : Nat) : ((N : Int).fdiv ((2 ^ k : Nat) : Int)).fmod 2 = ((N / 2 ^ k % 2 : Nat) : Int) := by
  rw [Int.fdiv_eq_ediv_of_nonneg _ (Int.natCast_nonneg _), Int.fmod_eq_emod_of_nonneg _ (by decide)]
  norm_cast
theorem lw_r : lw (Str.ofString "r") = [114] := by decide +kernel
theorem lw_w : lw (Str.ofString "w") = [119] := by decide +kernel
theorem lw_x : lw (Str.ofString "x") = [120] := by decide +kernel
theorem lw_s : lw (Str.ofString "s") = [115] := by decide +kernel
theorem lw_S : lw (Str.ofString "S") = [115] := by decide +kernel
theorem lw_t : lw (Str.ofString "t") = [116] := by decide +kernel
theorem lw_T : lw (Str.ofString "T") = [116] := by decide +kernel
theorem lw_m : lw (Str.ofString "-") = [45] := by decide +kernel
theorem charB (N i k c : Nat) (x : Str) (hi : fmTabs.getD i [] = [(((2 ^ k : Nat) : Int), x)]) (h0 : i ≠ 0) (hx : lw x = [c]) : lw (charF (N : Int) i) = encB c (((N : Int).fdiv ((2 ^ k : Nat) : Int)).fmod 2) := by
  unfold charF
  rw [hi, if_neg h0, pick1]
  unfold hits
  rw [if_neg h0, bit_is, look_bit]
  rcases Nat.mod_two_eq_zero_or_one (N / 2 ^ k) with q | q
  · rw [q]; exact lw_m
  · rw [q]; exact hx
theorem charR (N i j k c : Nat) (x1 x2 x3 : Str) (hi : fmTabs.getD i [] = [(((2 ^ j + 2 ^ k : Nat) : Int), x1), (((2 ^ j : Nat) : Int), x2), (((2 ^ k : Nat) : Int), x3)]) (h0 : i ≠ 0) (hx1 : lw x1 = [c]) (hx2 : lw x2 = [c]) (hx3 : lw x3 = [120])
    (hjk : 2 ^ j + 2 ^ k = 2 ^ j ||| 2 ^ k) (h1 : (0 ||| 2 ^ k) ≠ 2 ^ j ||| 2 ^ k) (h2 : (2 ^ j ||| 0) ≠ 2 ^ j ||| 2 ^ k) (h3 : (0 ||| 0) ≠ 2 ^ j ||| 2 ^ k) (r a : Int) (hr : Int.fdiv r 4 = ((2 ^ k : Nat) : Int)) (ha : a = ((2 ^ j : Nat) : Int)) :
    lw (charF (N : Int) i) = encR c (runF (N : Int) a r) := by
  unfold charF
  rw [hi, if_neg h0, pick3]
  unfold hits runF
  rw [if_neg h0, if_neg h0, if_neg h0, bits_is N j k hjk h1 h2 h3, bit_is, bit_is, hr, ha, look_bit, look_bit]
  rcases Nat.mod_two_eq_zero_or_one (N / 2 ^ j) with q | q <;> rcases Nat.mod_two_eq_zero_or_one (N / 2 ^ k) with r | r <;> rw [q, r]
  · exact lw_m
  · exact hx3
  · exact hx2
  · exact hx1
theorem bits16 : ∀ v, v < 16 → v = 8 * (v / 8 % 2) + 4 * (v / 4 % 2) + 2 * (v / 2 % 2) + v % 2 := by decide
/-- the kind's sign -/
theorem kind_and (N : Nat) (h : N < 65536) : Builtin.bitAnd (N : Int) 61440 = ((N / 4096 * 4096 : Nat) : Int) := by
  have e : (61440 : Int) = ((61440 : Nat) : Int) := rfl
  rw [e, and_nat]
  congr 1
  have e2 : (61440 : Nat) = 2 ^ 15 ||| (2 ^ 14 ||| (2 ^ 13 ||| 2 ^ 12)) := by decide
  rw [e2, Nat.and_or_distrib_left, Nat.and_or_distrib_left, Nat.and_or_distrib_left, nat_and_pow, nat_and_pow, nat_and_pow, nat_and_pow]
  have s : N / 4096 = 8 * (N / 2 ^ 15 % 2) + 4 * (N / 2 ^ 14 % 2) + 2 * (N / 2 ^ 13 % 2) + N / 2 ^ 12 % 2 := by
    have q1 : N / 2 ^ 15 = N / 4096 / 8 := by rw [Nat.div_div_eq_div_mul]
    have q2 : N / 2 ^ 14 = N / 4096 / 4 := by rw [Nat.div_div_eq_div_mul]
    have q3 : N / 2 ^ 13 = N / 4096 / 2 := by rw [Nat.div_div_eq_div_mul]
    have q4 : N / 2 ^ 12 = N / 4096 := rfl
    rw [q1, q2, q3, q4]
    exact bits16 (N / 4096) (Nat.div_lt_of_lt_mul h)
  rw [s]
  rcases Nat.mod_two_eq_zero_or_one (N / 2 ^ 15) with a | a <;> rcases Nat.mod_two_eq_zero_or_one (N / 2 ^ 14) with b | b <;> rcases Nat.mod_two_eq_zero_or_one (N / 2 ^ 13) with c | c <;> rcases Nat.mod_two_eq_zero_or_one (N / 2 ^ 12) with d | d <;> rw [a, b, c, d] <;> decide
def kind0 (v : Int) : Int := if ([1, 2, 4, 6, 8, 10, 12].any fun x => x == v) = true then v else 0
def tab0 (v : Int) : Str := pick (fun b => v * 4096 == b) (Str.ofString "?") (fmTabs.getD 0 [])
theorem tab0_all : ∀ v : Nat, v < 16 → lw (tab0 (v : Int)) = enc0 (kind0 (v : Int)) := by decide +kernel
theorem char0 (N : Nat) (h : N < 65536) : lw (charF (N : Int) 0) = enc0 (if ([1, 2, 4, 6, 8, 10, 12].any fun x => x == (N : Int).fdiv 4096) = true then (N : Int).fdiv 4096 else 0) := by
  have e : (N : Int).fdiv 4096 = ((N / 4096 : Nat) : Int) := by
    rw [Int.fdiv_eq_ediv_of_nonneg _ (by decide)]; norm_cast
  rw [e]
  show _ = enc0 (kind0 _)
  rw [← tab0_all (N / 4096) (by omega)]
  unfold charF tab0 hits
  simp only [if_true]
  rw [kind_and N h]
  have e4 : ((N / 4096 * 4096 : Nat) : Int) = ((N / 4096 : Nat) : Int) * 4096 := by push_cast; rfl
  rw [e4]
/-- a listing, small: told by the look -/
theorem lw_mode (N : Nat) (h : N < 65536) : lw (modeS (N : Int)) = encL (lookF (N : Int)) := by
  have e : lw (modeS (N : Int)) = (List.range 10).flatMap fun i => lw (charF (N : Int) i) := by
    unfold lw modeS cs
    rw [join_cps]
    unfold charsF
    rw [List.flatMap_map, List.map_flatMap]
  rw [e]
  have e2 : List.range 10 = [0, 1, 2, 3, 4, 5, 6, 7, 8, 9] := by decide
  rw [e2]
  simp only [List.flatMap_cons, List.flatMap_nil, List.append_nil]
  rw [char0 N h, charB N 1 8 114 _ rfl (by decide) lw_r, charB N 2 7 119 _ rfl (by decide) lw_w,
    charR N 3 11 6 115 _ _ _ rfl (by decide) lw_s lw_S lw_x (by decide) (by decide) (by decide) (by decide) 256 2048 rfl rfl,
    charB N 4 5 114 _ rfl (by decide) lw_r, charB N 5 4 119 _ rfl (by decide) lw_w,
    charR N 6 10 3 115 _ _ _ rfl (by decide) lw_s lw_S lw_x (by decide) (by decide) (by decide) (by decide) 32 1024 rfl rfl,
    charB N 7 2 114 _ rfl (by decide) lw_r, charB N 8 1 119 _ rfl (by decide) lw_w,
    charR N 9 9 0 116 _ _ _ rfl (by decide) lw_t lw_T lw_x (by decide) (by decide) (by decide) (by decide) 4 512 rfl rfl]
  rfl
end Mine
end

-- P4
section
open PySem PySem.W PyProof.Rows PySem.Spec PySem.Calls
set_option Elab.async false
set_option linter.unusedVariables false
set_option maxRecDepth 100000
namespace Mine
theorem encB_len (c : Nat) (a : Int) : (encB c a).length = 1 := by unfold encB; split <;> rfl
theorem encR_len (c : Nat) (a : Int) : (encR c a).length = 1 := by unfold encR; split <;> (try split) <;> rfl
theorem enc0_len (a : Int) : (enc0 a).length = 1 := by unfold enc0; repeat' split
                                                       all_goals rfl
theorem encB_inj {c : Nat} {a b : Int} (hc : c ≠ 45) (ha : a = 0 ∨ a = 1) (hb : b = 0 ∨ b = 1) (h : encB c a = encB c b) : a = b := by
  unfold encB at h
  rcases ha with rfl | rfl <;> rcases hb with rfl | rfl <;> simp at h ⊢
  · exact hc h.symm
  · exact hc h
theorem encR_inj {c : Nat} {a b : Int} (hc : c ≠ 45) (hc2 : c ≠ 120) (ha : a = 0 ∨ a = 1 ∨ a = 2) (hb : b = 0 ∨ b = 1 ∨ b = 2) (h : encR c a = encR c b) : a = b := by
  unfold encR at h
  rcases ha with rfl | rfl | rfl <;> rcases hb with rfl | rfl | rfl <;> simp at h ⊢
  · exact hc h.symm
  · exact hc2 h.symm
  · exact hc h
  · exact hc2 h
def isKind (a : Int) : Prop := a = 0 ∨ a = 1 ∨ a = 2 ∨ a = 4 ∨ a = 6 ∨ a = 8 ∨ a = 10 ∨ a = 12
theorem enc0_inj {a b : Int} (ha : isKind a) (hb : isKind b) (h : enc0 a = enc0 b) : a = b := by
  unfold enc0 at h
  rcases ha with rfl | rfl | rfl | rfl | rfl | rfl | rfl | rfl <;> rcases hb with rfl | rfl | rfl | rfl | rfl | rfl | rfl | rfl <;> first | rfl | (exact absurd h (by decide))
theorem bit_val (N k : Nat) : ((N : Int).fdiv ((2 ^ k : Nat) : Int)).fmod 2 = 0 ∨ ((N : Int).fdiv ((2 ^ k : Nat) : Int)).fmod 2 = 1 := by
  rw [look_bit]
  rcases Nat.mod_two_eq_zero_or_one (N / 2 ^ k) with q | q
  · rw [q]; exact .inl rfl
  · rw [q]; exact .inr rfl
theorem run_val (N j k : Nat) (a r : Int) (hr : Int.fdiv r 4 = ((2 ^ k : Nat) : Int)) (ha : a = ((2 ^ j : Nat) : Int)) : runF (N : Int) a r = 0 ∨ runF (N : Int) a r = 1 ∨ runF (N : Int) a r = 2 := by
  unfold runF
  rw [hr]
  split
  · exact .inr (.inr rfl)
  · rcases bit_val N k with h | h
    · exact .inl h
    · exact .inr (.inl h)
theorem kind_val (v : Int) : isKind (if ([1, 2, 4, 6, 8, 10, 12].any fun x => x == v) = true then v else 0) := by
  split
  · rename_i h
    simp only [List.any_cons, List.any_nil, Bool.or_false, Bool.or_eq_true, beq_iff_eq] at h
    unfold isKind
    rcases h with h | h | h | h | h | h | h <;> subst h <;> simp
  · exact .inl rfl
theorem cons_eq {a b : Int} {l m : List Int} (h : a = b) (t : l = m) : a :: l = b :: m := by rw [h, t]
/-- looks are equal where the listings, small, are -/
theorem look_inj {N M : Nat} (hN : N < 65536) (hM : M < 65536) (h : lw (modeS (N : Int)) = lw (modeS (M : Int))) : lookF (N : Int) = lookF (M : Int) := by
  rw [lw_mode N hN, lw_mode M hM] at h
  unfold lookF encL at h
  unfold lookF
  obtain ⟨e0, h⟩ := List.append_inj h (by rw [enc0_len, enc0_len])
  obtain ⟨e1, h⟩ := List.append_inj h (by rw [encB_len, encB_len])
  obtain ⟨e2, h⟩ := List.append_inj h (by rw [encB_len, encB_len])
  obtain ⟨e3, h⟩ := List.append_inj h (by rw [encR_len, encR_len])
  obtain ⟨e4, h⟩ := List.append_inj h (by rw [encB_len, encB_len])
  obtain ⟨e5, h⟩ := List.append_inj h (by rw [encB_len, encB_len])
  obtain ⟨e6, h⟩ := List.append_inj h (by rw [encR_len, encR_len])
  obtain ⟨e7, h⟩ := List.append_inj h (by rw [encB_len, encB_len])
  obtain ⟨e8, e9⟩ := List.append_inj h (by rw [encB_len, encB_len])
  exact cons_eq (enc0_inj (kind_val _) (kind_val _) e0) (cons_eq (encB_inj (by decide) (bit_val N 8) (bit_val M 8) e1) (cons_eq (encB_inj (by decide) (bit_val N 7) (bit_val M 7) e2)
    (cons_eq (encR_inj (by decide) (by decide) (run_val N 11 6 _ _ rfl rfl) (run_val M 11 6 _ _ rfl rfl) e3)
    (cons_eq (encB_inj (by decide) (bit_val N 5) (bit_val M 5) e4) (cons_eq (encB_inj (by decide) (bit_val N 4) (bit_val M 4) e5)
    (cons_eq (encR_inj (by decide) (by decide) (run_val N 10 3 _ _ rfl rfl) (run_val M 10 3 _ _ rfl rfl) e6)
    (cons_eq (encB_inj (by decide) (bit_val N 2) (bit_val M 2) e7) (cons_eq (encB_inj (by decide) (bit_val N 1) (bit_val M 1) e8)
    (cons_eq (encR_inj (by decide) (by decide) (run_val N 9 0 _ _ rfl rfl) (run_val M 9 0 _ _ rfl rfl) e9) rfl)))))))))
theorem encL_good (a0 a1 a2 a3 a4 a5 a6 a7 a8 a9 : Int) : goodW (encL [a0, a1, a2, a3, a4, a5, a6, a7, a8, a9]) := by
  have hB : ∀ c a, c ≠ 46 → ∀ x ∈ encB c a, x ≠ 46 := by
    intro c a hc x hx
    unfold encB at hx
    split at hx <;> rw [List.mem_singleton.mp hx]
    · exact hc
    · decide
  have hR : ∀ c a, c ≠ 46 → ∀ x ∈ encR c a, x ≠ 46 := by
    intro c a hc x hx
    unfold encR at hx
    split at hx
    · rw [List.mem_singleton.mp hx]; exact hc
    · split at hx <;> rw [List.mem_singleton.mp hx] <;> decide
  have h0 : ∀ a, ∀ x ∈ enc0 a, x ≠ 46 := by
    intro a x hx
    unfold enc0 at hx
    repeat' split at hx
    all_goals (rw [List.mem_singleton.mp hx]; decide)
  constructor
  · show (enc0 a0 ++ _).length = 10
    simp only [List.length_append, enc0_len, encB_len, encR_len]
  · intro c hc
    unfold encL at hc
    simp only [List.mem_append] at hc
    rcases hc with h | h | h | h | h | h | h | h | h | h
    · exact h0 _ c h
    · exact hB _ _ (by decide) c h
    · exact hB _ _ (by decide) c h
    · exact hR _ _ (by decide) c h
    · exact hB _ _ (by decide) c h
    · exact hB _ _ (by decide) c h
    · exact hR _ _ (by decide) c h
    · exact hB _ _ (by decide) c h
    · exact hB _ _ (by decide) c h
    · exact hR _ _ (by decide) c h
theorem mode_good (N : Nat) (h : N < 65536) : goodW (lw (modeS (N : Int))) := by
  rw [lw_mode N h]
  exact encL_good _ _ _ _ _ _ _ _ _ _
theorem tabs_ok : ∀ tab ∈ fmTabs, ∀ e ∈ tab, ∀ c ∈ cs e.2, c < 128 ∧ Sre.isDigit c = false := by decide +kernel
theorem char_ok (n : Int) (i : Nat) : ∀ c ∈ cs (charF n i), c < 128 ∧ Sre.isDigit c = false := by
  unfold charF
  rcases pick_in (p := hits n i) (d := if i = 0 then Str.ofString "?" else Str.ofString "-") (tab := fmTabs.getD i []) with h | ⟨e, he, h⟩
  · rw [h]; split <;> decide +kernel
  · rw [h]
    rw [List.getD_eq_getElem?_getD] at he
    cases hq : fmTabs[i]? with
    | none => rw [hq] at he; simp at he
    | some tab => rw [hq] at he; exact tabs_ok tab (List.mem_of_getElem? hq) e he
theorem mode_ok (N : Nat) (h : N < 65536) : (modeS (N : Int)).length ≤ 10 ∧ ∀ c ∈ (modeS (N : Int)).cps.toList, c < 128 ∧ Sre.isDigit c = false := by
  constructor
  · have := (mode_good N h).1
    unfold lw at this
    rw [List.length_map, cs_len] at this
    omega
  · intro c hc
    unfold modeS charsF at hc
    rw [join_cps] at hc
    obtain ⟨x, hx, hc⟩ := List.mem_flatMap.mp hc
    obtain ⟨i, _, rfl⟩ := List.mem_map.mp hx
    exact char_ok _ _ c hc
/-- what user_domain_match says of two listings -/
theorem cs_lowS (x : Str) : cs (lowS x) = lw x := rfl
theorem user_mode {N M : Nat} (hN : N < 65536) (hM : M < 65536) : userM (modeS (N : Int)) (modeS (M : Int)) = decide (lookF (N : Int) = lookF (M : Int)) := by
  have oN : okS (modeS (N : Int)) := ⟨(mode_ok N hN).2, Nat.le_trans (mode_ok N hN).1 (by decide)⟩
  have oM : okS (modeS (M : Int)) := ⟨(mode_ok M hM).2, Nat.le_trans (mode_ok M hM).1 (by decide)⟩
  have gM := mode_good M hM
  unfold userM
  rw [lower_ok oN, lower_ok oM]
  have hs : Txt.startswith (lowS (modeS (M : Int))) (Str.ofString ".") = false := by
    refine Bool.eq_false_iff.mpr fun h => ?_
    have h := (starts_iff _ _).mp h
    rw [dot_cs, cs_lowS] at h
    exact gM.2 46 (h.subset (.head _)) rfl
  rw [hs, if_neg Bool.false_ne_true]
  by_cases hq : lookF (N : Int) = lookF (M : Int)
  · rw [decide_eq_true hq]
    refine beq_iff_eq.mpr (str_ext ?_)
    rw [cs_lowS, cs_lowS, lw_mode N hN, lw_mode M hM, hq]
  · rw [decide_eq_false hq]
    refine beq_eq_false_iff_ne.mpr fun e => hq (look_inj hN hM ?_)
    rw [← cs_lowS, ← cs_lowS, e]
end Mine
end

-- P5
section
open PySem PySem.W PyProof.Rows PySem.Spec PySem.Calls
set_option Elab.async false
set_option linter.unusedVariables false
set_option maxRecDepth 100000
namespace Mine
theorem slice_one {x : Str} (h : 1 ≤ x.length) : cs (Txt.slice x (some 1) none) = (cs x).drop 1 := by
  have e : Builtin.Str.strSliceIndices (some 1) none 1 x.length = Builtin.Str.strSliceIndices (some ((1 : Nat) : Int)) (some ((x.length : Nat) : Int)) 1 x.length := by
    simp only [Builtin.Str.strSliceIndices]
    have e1 : max (0 : Int) (min ((x.length : Nat) : Int) ((x.length : Nat) : Int)) = (x.length : Int) := by omega
    simp only [show ((1 : Int) > 0) = True from by simp, if_true, if_neg (show ¬ ((x.length : Nat) : Int) < 0 by omega), e1]
    rfl
  have hd := StrLaws.sliced_plain x h (Nat.le_refl _)
  rw [← e] at hd
  unfold Txt.slice
  have hlen : (Builtin.Str.strSliceIndices (some 1) none 1 x.length).length = x.length - 1 := by
    rw [e, StrLaws.strSliceIndices_plain h (Nat.le_refl _)]; simp
  rw [if_neg (by simp; omega)]
  show (List.filterMap _ _).toArray.toList = _
  rw [List.toList_toArray, hd]
  show ((cs x).drop 1).take (x.length - 1) = _
  rw [List.take_of_length_le (by rw [List.length_drop, cs_len]; omega)]
def wordsS (r : List Int) (xs : List Str) : List (List Nat) := r.map fun k => lw (xs.getD k.toNat Str.empty)
theorem dom_cs (r : List Int) (xs : List Str) : lw (domS r xs) = flat (wordsS r xs) := by
  unfold lw cs
  rw [dom_cps, List.map_flatMap]
  unfold flat wordsS
  rw [List.flatMap_map]
  congr 1; funext k
  unfold cellS lw
  rw [Str.cps_append, Array.toList_append, List.map_append]
  show List.map lowA (cs (Str.ofString ".")) ++ _ = _
  rw [dot_cs]; rfl
theorem x_cs : cs (Str.ofString "x") = [120] := by decide +kernel
theorem host_cs (r : List Int) (xs : List Str) : lw (hostS r xs) = 120 :: flat (wordsS r xs) := by
  rw [← dom_cs]
  unfold hostS lw cs
  rw [Str.cps_append, Array.toList_append, List.map_append]
  show List.map lowA (cs (Str.ofString "x")) ++ _ = _
  rw [x_cs]; rfl
theorem behind_cs (r : List Int) (xs : List Str) : lw (Str.ofString "x" ++ domS r xs ++ Str.ofString ".x") = (120 :: flat (wordsS r xs)) ++ [46, 120] := by
  rw [← host_cs]
  unfold lw cs
  rw [Str.cps_append, Array.toList_append, List.map_append]
  have e : (Str.ofString ".x").cps.toList = [46, 120] := by decide +kernel
  rw [e]; rfl
def goodR (r : List Int) (xs : List Str) : Prop := ∀ w ∈ wordsS r xs, goodW w
theorem words_ne {r : List Int} {xs : List Str} (h : r ≠ []) : wordsS r xs ≠ [] := fun e => h (List.map_eq_nil_iff.mp e)
theorem dot_start {y : Str} {l : List Nat} (h : cs y = 46 :: l) : Txt.startswith y (Str.ofString ".") = true := by
  refine (starts_iff _ _).mpr ?_
  rw [dot_cs, h]
  exact ⟨l, rfl⟩
/-- user_domain_match of a host and a domain with a dot ahead -/
theorem user_dom {a b : Str} (ha : okS a) (hb : okS b) {us : List (List Nat)} (hu : us ≠ []) (hbf : lw b = flat us) : userM a b = true ↔ flat us <:+ lw a := by
  obtain ⟨l, e⟩ := flat_ne hu
  unfold userM
  rw [lower_ok ha, lower_ok hb, dot_start (l := l) (by rw [cs_lowS, hbf, e]), if_pos rfl, ends_iff, cs_lowS, cs_lowS, hbf]
theorem user_host {xs : List Str} (h : okN xs) {r q : List Int} (hr : r.length ≤ 20) (hq : q.length ≤ 20) (hne : q ≠ []) (gr : goodR r xs) (gq : goodR q xs) : userM (hostS r xs) (domS q xs) = true ↔ wordsS q xs <:+ wordsS r xs := by
  rw [user_dom (okS_host h hr) (okS_dom h hq) (words_ne hne) (dom_cs q xs), host_cs]
  exact host_suffix (words_ne hne) gq gr
theorem user_behind {xs : List Str} (h : okN xs) {r : List Int} (hr : r.length ≤ 20) (hne : r ≠ []) (gr : goodR r xs) : userM (Str.ofString "x" ++ domS r xs ++ Str.ofString ".x") (domS r xs) = false := by
  refine Bool.eq_false_iff.mpr fun hx => ?_
  rw [user_dom (okS_behind (okS_dom h hr) (dom_len h hr)) (okS_dom h hr) (words_ne hne) (dom_cs r xs), behind_cs] at hx
  exact behind_not (words_ne hne) gr hx
/-- domain_match of a host and a domain -/
theorem dom_host {xs LS : List Str} (h : okN xs) (hL : okN LS) {r mem : List Int} (hr : r.length ≤ 20) (hm : mem.length ≤ 20) (hne : r ≠ []) (hme : mem ≠ []) (gr : goodR r xs) (gm : goodR mem LS) :
    domM (hostS mem LS) (domS r xs) = true ↔ wordsS r xs <:+: wordsS mem LS := by
  have oh := okS_host hL hm
  have od := okS_dom h hr
  obtain ⟨l, e⟩ := flat_ne (words_ne (xs := xs) hne)
  have ed : cs (lowS (domS r xs)) = 46 :: l := by rw [cs_lowS, dom_cs, e]
  have eh : cs (lowS (hostS mem LS)) = 120 :: flat (wordsS mem LS) := by rw [cs_lowS, host_cs]
  obtain ⟨p, a, b, e2, ha, hb⟩ := flat_end (words_ne (xs := LS) hme) gm
  obtain ⟨p', a', b', e2', ha', hb'⟩ := flat_end (words_ne (xs := xs) hne) gr
  unfold domM
  rw [lower_ok oh, lower_ok od]
  have h1 : (lowS (hostS mem LS) == lowS (domS r xs)) = false := by
    refine beq_eq_false_iff_ne.mpr fun q => ?_
    have := congrArg cs q
    rw [eh, ed] at this
    injection this with h _
    exact absurd h (by decide)
  have h2 : isHDNF (lowS (hostS mem LS)) = true := by
    refine isHDN_of eh ?_ (by decide) hb
    rw [eh, e2, show (120 :: (p ++ [a, b])) = (120 :: p ++ [a]) ++ [b] by simp, List.getLast?_append]; rfl
  have h3 : decide (Txt.rfind (lowS (hostS mem LS)) (lowS (domS r xs)) ≠ 0) = true := by
    refine decide_eq_true fun q => ?_
    have := rfind_zero q
    rw [eh, ed, List.cons_prefix_cons] at this
    exact absurd this.1 (by decide)
  have h5 : isHDNF (Txt.slice (lowS (domS r xs)) (some 1) none) = true := by
    have hl1 : 1 ≤ (lowS (domS r xs)).length := by rw [← cs_len, ed]; simp
    have e5 : cs (Txt.slice (lowS (domS r xs)) (some 1) none) = l := by rw [slice_one hl1, ed]; rfl
    have hw : ∃ w ws, wordsS r xs = w :: ws := by
      cases hq : wordsS r xs with
      | nil => exact absurd hq (words_ne hne)
      | cons w ws => exact ⟨w, ws, rfl⟩
    obtain ⟨w, ws, ew⟩ := hw
    have gw : goodW w := gr w (by rw [ew]; exact .head _)
    rw [ew, flat_cons] at e
    injection e with _ el
    obtain ⟨c0, w', ec⟩ : ∃ c0 w', w = c0 :: w' := by
      cases w with
      | nil => exact absurd gw.1 (by decide)
      | cons c0 w' => exact ⟨c0, w', rfl⟩
    refine isHDN_of (x := Txt.slice (lowS (domS r xs)) (some 1) none) (a := c0) (b := b') (l := w' ++ flat ws) (by rw [e5, ← el, ec]; rfl) ?_ (gw.2 c0 (by rw [ec]; exact .head _)) hb'
    rw [e5]
    have : 46 :: l = p' ++ [a', b'] := by rw [← e2', ← ed, cs_lowS, dom_cs]
    cases p' with
    | nil =>
      injection this with _ q2
      rw [q2]; rfl
    | cons c p'' =>
      injection this with _ q2
      rw [q2]
      show (p'' ++ [a', b']).getLast? = _
      rw [show p'' ++ [a', b'] = (p'' ++ [a']) ++ [b'] by simp, List.getLast?_append]; rfl
  rw [h1, h2, h3, dot_start ed, h5, Bool.false_or, Bool.true_and, Bool.and_true, Bool.and_true, Bool.and_true, decide_eq_true_iff, rfind_iff, eh, ed, ← e]
  exact host_infix (words_ne hne) gr gm
end Mine
end

-- P6
section
open PySem PySem.W PyProof.Rows PySem.Spec PySem.Calls
set_option Elab.async false
set_option linter.unusedVariables false
set_option maxRecDepth 100000
namespace Mine
def infB (r : List Int) : List Int → Bool
  | [] => r.isPrefixOf []
  | a :: l => r.isPrefixOf (a :: l) || infB r l
theorem infB_iff (r : List Int) : ∀ l, infB r l = true ↔ r <:+: l
  | [] => by
    unfold infB
    rw [List.isPrefixOf_iff_prefix]
    constructor
    · intro h; exact h.isInfix
    · intro h; rw [List.infix_nil.mp h]; exact List.prefix_refl _
  | a :: l => by
    unfold infB
    rw [Bool.or_eq_true, List.isPrefixOf_iff_prefix, infB_iff r l, List.infix_cons_iff]
def sufB (q r : List Int) : Bool := q.isSuffixOf r
theorem sufB_iff (q r : List Int) : sufB q r = true ↔ q <:+ r := List.isSuffixOf_iff_suffix
def ok1 (sp : List Int) (r : List Int) : Bool := infB r sp
def ok2 (no : List (List Int)) (r : List Int) : Bool := !(no.any fun q => sufB q r)
def rowB (n : Nat) (r : List Int) : Bool := !r.isEmpty && decide (r.length ≤ 9) && r.all fun k => decide (0 ≤ k) && decide (k < (n : Int))
def chk (n : Nat) (sp : List Int) : Bool :=
  (askF (ok1 sp) n 9 [[]]).1 == stretchF sp && ((askF (ok2 (askF (ok1 sp) n 9 [[]]).2) n 9 [[]]).1 == stretchF sp && ((askF (ok1 sp) n 9 [[]]).2.all (rowB n) && decide ((askF (ok1 sp) n 9 [[]]).2.length ≤ 1000)))
def allR (n : Nat) : Nat → List (List Int)
  | 0 => [[]]
  | l + 1 => (allR n l).flatMap fun r => (List.range n).map fun k : Nat => (k : Int) :: r
theorem allR_mem (n : Nat) : ∀ (l : Nat) (r : List Int), r.length = l → (∀ k ∈ r, 0 ≤ k ∧ k < (n : Int)) → r ∈ allR n l
  | 0, r, h, _ => by rw [List.length_eq_zero_iff.mp h]; exact .head _
  | l + 1, [], h, _ => by cases h
  | l + 1, a :: r, h, hk => by
    refine List.mem_flatMap.mpr ⟨r, allR_mem n l r (by simpa using h) fun k hk' => hk k (.tail _ hk'), ?_⟩
    have ha := hk a (.head _)
    exact List.mem_map.mpr ⟨a.toNat, List.mem_range.mpr (by omega), by rw [show ((a.toNat : Nat) : Int) = a by omega]⟩
theorem chk11 : ((allR 1 1).all fun r => chk 1 (0 :: r)) = true := by decide +kernel
theorem chk12 : ((allR 1 2).all fun r => chk 1 (0 :: r)) = true := by decide +kernel
theorem chk13 : ((allR 1 3).all fun r => chk 1 (0 :: r)) = true := by decide +kernel
theorem chk14 : ((allR 1 4).all fun r => chk 1 (0 :: r)) = true := by decide +kernel
theorem chk21 : ((allR 2 1).all fun r => chk 2 (0 :: r)) = true := by decide +kernel
theorem chk22 : ((allR 2 2).all fun r => chk 2 (0 :: r)) = true := by decide +kernel
theorem chk23 : ((allR 2 3).all fun r => chk 2 (0 :: r)) = true := by decide +kernel
theorem chk24 : ((allR 2 4).all fun r => chk 2 (0 :: r)) = true := by decide +kernel
theorem chk31 : ((allR 3 1).all fun r => chk 3 (0 :: r)) = true := by decide +kernel
theorem chk32 : ((allR 3 2).all fun r => chk 3 (0 :: r)) = true := by decide +kernel
theorem chk33 : ((allR 3 3).all fun r => chk 3 (0 :: r)) = true := by decide +kernel
theorem chk340 : ((allR 3 3).all fun r => chk 3 (0 :: 0 :: r)) = true := by decide +kernel
theorem chk341 : ((allR 3 3).all fun r => chk 3 (0 :: 1 :: r)) = true := by decide +kernel
theorem chk342 : ((allR 3 3).all fun r => chk 3 (0 :: 2 :: r)) = true := by decide +kernel
theorem chk34 : ((allR 3 4).all fun r => chk 3 (0 :: r)) = true := by
  refine List.all_eq_true.mpr fun r hr => ?_
  obtain ⟨q, hq, hr⟩ := List.mem_flatMap.mp hr
  obtain ⟨k, hk, rfl⟩ := List.mem_map.mp hr
  have hk' := List.mem_range.mp hk
  match k, hk' with
  | 0, _ => exact List.all_eq_true.mp chk340 q hq
  | 1, _ => exact List.all_eq_true.mp chk341 q hq
  | 2, _ => exact List.all_eq_true.mp chk342 q hq
theorem chk_all {n : Nat} (h1 : 1 ≤ n) (h3 : n ≤ 3) {r : List Int} (l1 : 1 ≤ r.length) (l4 : r.length ≤ 4) (hk : ∀ k ∈ r, 0 ≤ k ∧ k < (n : Int)) : chk n (0 :: r) = true := by
  have hm := allR_mem n r.length r rfl hk
  have key : ((allR n r.length).all fun r => chk n (0 :: r)) = true := by
    match n, h1, h3, r.length, l1, l4 with
    | 1, _, _, 1, _, _ => exact chk11
    | 1, _, _, 2, _, _ => exact chk12
    | 1, _, _, 3, _, _ => exact chk13
    | 1, _, _, 4, _, _ => exact chk14
    | 2, _, _, 1, _, _ => exact chk21
    | 2, _, _, 2, _, _ => exact chk22
    | 2, _, _, 3, _, _ => exact chk23
    | 2, _, _, 4, _, _ => exact chk24
    | 3, _, _, 1, _, _ => exact chk31
    | 3, _, _, 2, _, _ => exact chk32
    | 3, _, _, 3, _, _ => exact chk33
    | 3, _, _, 4, _, _ => exact chk34
  exact List.all_eq_true.mp key r hm
theorem flat_congr {f g : List Int → List (List Int)} : ∀ {l : List (List Int)}, (∀ a ∈ l, f a = g a) → l.flatMap f = l.flatMap g
  | [], _ => rfl
  | a :: l, h => by rw [List.flatMap_cons, List.flatMap_cons, h a (.head _), flat_congr fun b hb => h b (.tail _ hb)]
theorem askF_congr {ok ok' : List Int → Bool} {n : Nat} (h : ∀ r : List Int, r ≠ [] → r.length ≤ 9 → (∀ k ∈ r, 0 ≤ k ∧ k < (n : Int)) → ok r = ok' r) :
    ∀ (f d : Nat) (level : List (List Int)), rowsOk n d level → d + f ≤ 9 → askF ok n f level = askF ok' n f level
  | 0, _, _, _, _ => rfl
  | f + 1, d, level, hl, hd => by
    have hrow : ∀ row ∈ level, ∀ r ∈ moreF n row, ok r = ok' r := by
      intro row hr r hm
      obtain ⟨k, hk, rfl⟩ := List.mem_map.mp hm
      have hk' := List.mem_range.mp hk
      obtain ⟨h2, h3⟩ := hl row hr
      refine h _ (by simp) (by simp; omega) fun x hx => ?_
      rcases List.mem_append.mp hx with hx | hx
      · exact h3 x hx
      · rw [List.mem_singleton.mp hx]; omega
    have e1 : longF ok n level = longF ok' n level := by
      unfold longF
      refine flat_congr fun row hr => ?_
      unfold extF
      exact List.filter_congr fun r hm => hrow row hr r hm
    have e2 : noteF ok n level = noteF ok' n level := by
      unfold noteF
      refine flat_congr fun row hr => ?_
      unfold denF
      exact List.filter_congr fun r hm => by rw [hrow row hr r hm]
    by_cases hn : level = []
    · subst hn; rw [askF_nil, askF_nil]
    · rw [askF_step hn, askF_step hn, e1, e2]
      have := askF_congr h f (d + 1) (longF ok' n level) hl.long (by omega)
      rw [this]
theorem rows0 (n : Nat) : rowsOk n 0 [[]] := by
  intro r hr
  rw [List.mem_singleton.mp hr]; exact ⟨rfl, fun _ h => nomatch h⟩
end Mine
end

-- P7
section
open PySem PySem.W PyProof.Rows PySem.Spec PySem.Calls
set_option Elab.async false
set_option linter.unusedVariables false
set_option maxRecDepth 100000
namespace Mine
theorem infix_map {W : Int → List Nat} {S : Int → Prop} (hW : ∀ a b, S a → S b → W a = W b → a = b) {r sp : List Int} (hr : ∀ k ∈ r, S k) (hs : ∀ k ∈ sp, S k) : r.map W <:+: sp.map W ↔ r <:+: sp := by
  have inj : ∀ {u v : List Int}, (∀ k ∈ u, S k) → (∀ k ∈ v, S k) → u.map W = v.map W → u = v := by
    intro u
    induction u with
    | nil => intro v _ _ h; exact (List.map_eq_nil_iff.mp h.symm).symm
    | cons a u ih =>
      intro v hu hv h
      cases v with
      | nil => cases h
      | cons b v =>
        simp only [List.map_cons, List.cons.injEq] at h
        rw [hW a b (hu a (.head _)) (hv b (.head _)) h.1, ih (fun k hk => hu k (.tail _ hk)) (fun k hk => hv k (.tail _ hk)) h.2]
  constructor
  · rintro ⟨s, t, e⟩
    obtain ⟨l1, l2, e1, e2, e3⟩ := List.map_eq_append_iff.mp e.symm
    obtain ⟨l3, l4, e4, e5, e6⟩ := List.map_eq_append_iff.mp e2
    subst e1
    subst e4
    have : l4 = r := inj (fun k hk => hs k (List.mem_append_left _ (List.mem_append_right _ hk))) hr e6
    subst this
    exact ⟨l3, l2, rfl⟩
  · rintro ⟨s, t, e⟩
    exact ⟨s.map W, t.map W, by rw [← List.map_append, ← List.map_append, e]⟩
theorem suffix_map {W : Int → List Nat} {S : Int → Prop} (hW : ∀ a b, S a → S b → W a = W b → a = b) {r sp : List Int} (hr : ∀ k ∈ r, S k) (hs : ∀ k ∈ sp, S k) : r.map W <:+ sp.map W ↔ r <:+ sp := by
  have inj : ∀ {u v : List Int}, (∀ k ∈ u, S k) → (∀ k ∈ v, S k) → u.map W = v.map W → u = v := by
    intro u
    induction u with
    | nil => intro v _ _ h; exact (List.map_eq_nil_iff.mp h.symm).symm
    | cons a u ih =>
      intro v hu hv h
      cases v with
      | nil => cases h
      | cons b v =>
        simp only [List.map_cons, List.cons.injEq] at h
        rw [hW a b (hu a (.head _)) (hv b (.head _)) h.1, ih (fun k hk => hu k (.tail _ hk)) (fun k hk => hv k (.tail _ hk)) h.2]
  constructor
  · rintro ⟨s, e⟩
    obtain ⟨l1, l2, e1, e2, e3⟩ := List.map_eq_append_iff.mp e.symm
    subst e1
    have : l2 = r := inj (fun k hk => hs k (List.mem_append_right _ hk)) hr e3
    subst this
    exact ⟨l1, rfl⟩
  · rintro ⟨s, e⟩
    exact ⟨s.map W, by rw [← List.map_append, e]⟩
theorem fst0 (A B C : List Int) : fstN [A, B, C] 0 = 0 := by simp [fstN, List.findIdx_cons]
theorem fst1 (A B C : List Int) : fstN [A, B, C] 1 = if A = B then 0 else 1 := by
  by_cases h : A = B
  · simp [fstN, List.findIdx_cons, h]
  · simp [fstN, List.findIdx_cons, h, beq_eq_false_iff_ne.mpr h]
theorem fst2 (A B C : List Int) : fstN [A, B, C] 2 = if A = C then 0 else if B = C then 1 else 2 := by
  by_cases h : A = C
  · simp [fstN, List.findIdx_cons, h]
  · by_cases h2 : B = C
    · simp [fstN, List.findIdx_cons, h, h2, beq_eq_false_iff_ne.mpr h]
    · simp [fstN, List.findIdx_cons, h, h2, beq_eq_false_iff_ne.mpr h, beq_eq_false_iff_ne.mpr h2]
/-- the first places, told -/
structure Firsts (LK : List (List Int)) (LS : List Str) (FF : List Int) : Prop where
  letters : lettersF LS = FF.map fun p => LS.getD p.toNat Str.empty
  inn : ∀ p ∈ FF, 0 ≤ p ∧ p < 3
  len : FF.length ≤ 3
  pos : 1 ≤ FF.length
  fst : ∀ p : Int, 0 ≤ p → p < 3 → ((fstN LK p : Nat) : Int) ∈ FF
  same : ∀ p : Int, 0 ≤ p → p < 3 → LK.getD (fstN LK p) [] = LK.getD p.toNat []
  diff : ∀ i j : Nat, i < FF.length → j < FF.length → LK.getD (FF.getD i 0).toNat [] = LK.getD (FF.getD j 0).toNat [] → i = j
  zero : posN FF ((fstN LK 0 : Nat) : Int) = 0
theorem three {p : Int} (h0 : 0 ≤ p) (h3 : p < 3) : p = 0 ∨ p = 1 ∨ p = 2 := by omega
theorem firsts_of {A B C : List Int} {x y z : Str} (hyx : userM y x = decide (B = A)) (hzx : userM z x = decide (C = A)) (hzy : userM z y = decide (C = B)) :
    Firsts [A, B, C] [x, y, z] (((List.range 3).map fun i : Nat => (i : Int)).filter fun p => ((fstN [A, B, C] p : Nat) : Int) == p) := by
  have e0 : ((List.range 3).map fun i : Nat => (i : Int)) = [0, 1, 2] := by decide
  rw [e0]
  have eL : lettersF [x, y, z] = (if C = A ∨ ((if B = A then [x] else [x, y]) = [x, y] ∧ C = B) then (if B = A then [x] else [x, y]) else (if B = A then [x] else [x, y]) ++ [z]) := by
    unfold lettersF
    by_cases h1 : B = A
    · by_cases h2 : C = A <;> simp [hyx, hzx, hzy, h1, h2]
    · by_cases h2 : C = A
      · simp [hyx, hzx, hzy, h1, h2]
      · by_cases h3 : C = B <;> simp [hyx, hzx, hzy, h1, h2, h3]
  by_cases h1 : A = B
  · subst h1
    by_cases h2 : A = C
    · subst h2
      have eF : ([0, 1, 2].filter fun p : Int => ((fstN [A, A, A] p : Nat) : Int) == p) = [0] := by
        simp [List.filter, fst0, fst1, fst2]
      rw [eF]
      refine ⟨by rw [eL]; simp, by simp, by simp, by simp, ?_, ?_, ?_, by rw [fst0]; rfl⟩
      · intro p p0 p3
        rcases three p0 p3 with rfl | rfl | rfl <;> simp [fst0, fst1, fst2]
      · intro p p0 p3
        rcases three p0 p3 with rfl | rfl | rfl <;> simp [fst0, fst1, fst2]
      · intro i j hi hj _
        simp at hi hj; omega
    · have eF : ([0, 1, 2].filter fun p : Int => ((fstN [A, A, C] p : Nat) : Int) == p) = [0, 2] := by
        simp [List.filter, fst0, fst1, fst2, h2]
      rw [eF]
      have h2' : ¬ C = A := fun e => h2 e.symm
      refine ⟨by rw [eL]; simp [h2'], by simp, by simp, by simp, ?_, ?_, ?_, by rw [fst0]; rfl⟩
      · intro p p0 p3
        rcases three p0 p3 with rfl | rfl | rfl <;> simp [fst0, fst1, fst2, h2]
      · intro p p0 p3
        rcases three p0 p3 with rfl | rfl | rfl <;> simp [fst0, fst1, fst2, h2]
      · intro i j hi hj
        simp only [List.length_cons, List.length_nil] at hi hj
        match i, j, hi, hj with
        | 0, 0, _, _ => intro _; rfl
        | 0, 1, _, _ => intro e; exact absurd e h2
        | 1, 0, _, _ => intro e; exact absurd e h2'
        | 1, 1, _, _ => intro _; rfl
  · have h1' : ¬ B = A := fun e => h1 e.symm
    by_cases h2 : A = C
    · subst h2
      have eF : ([0, 1, 2].filter fun p : Int => ((fstN [A, B, A] p : Nat) : Int) == p) = [0, 1] := by
        simp [List.filter, fst0, fst1, fst2, h1]
      rw [eF]
      refine ⟨by rw [eL]; simp [h1'], by simp, by simp, by simp, ?_, ?_, ?_, by rw [fst0]; rfl⟩
      · intro p p0 p3
        rcases three p0 p3 with rfl | rfl | rfl <;> simp [fst0, fst1, fst2, h1]
      · intro p p0 p3
        rcases three p0 p3 with rfl | rfl | rfl <;> simp [fst0, fst1, fst2, h1]
      · intro i j hi hj
        simp only [List.length_cons, List.length_nil] at hi hj
        match i, j, hi, hj with
        | 0, 0, _, _ => intro _; rfl
        | 0, 1, _, _ => intro e; exact absurd e h1
        | 1, 0, _, _ => intro e; exact absurd e h1'
        | 1, 1, _, _ => intro _; rfl
    · have h2' : ¬ C = A := fun e => h2 e.symm
      by_cases h3 : B = C
      · subst h3
        have eF : ([0, 1, 2].filter fun p : Int => ((fstN [A, B, B] p : Nat) : Int) == p) = [0, 1] := by
          simp [List.filter, fst0, fst1, fst2, h1]
        rw [eF]
        refine ⟨by rw [eL]; simp [h1'], by simp, by simp, by simp, ?_, ?_, ?_, by rw [fst0]; rfl⟩
        · intro p p0 p3
          rcases three p0 p3 with rfl | rfl | rfl <;> simp [fst0, fst1, fst2, h1]
        · intro p p0 p3
          rcases three p0 p3 with rfl | rfl | rfl <;> simp [fst0, fst1, fst2, h1]
        · intro i j hi hj
          simp only [List.length_cons, List.length_nil] at hi hj
          match i, j, hi, hj with
          | 0, 0, _, _ => intro _; rfl
          | 0, 1, _, _ => intro e; exact absurd e h1
          | 1, 0, _, _ => intro e; exact absurd e h1'
          | 1, 1, _, _ => intro _; rfl
      · have h3' : ¬ C = B := fun e => h3 e.symm
        have eF : ([0, 1, 2].filter fun p : Int => ((fstN [A, B, C] p : Nat) : Int) == p) = [0, 1, 2] := by
          simp [List.filter, fst0, fst1, fst2, h1, h2, h3]
        rw [eF]
        refine ⟨by rw [eL]; simp [h1', h2', h3'], by simp, by simp, by simp, ?_, ?_, ?_, by rw [fst0]; rfl⟩
        · intro p p0 p3
          rcases three p0 p3 with rfl | rfl | rfl <;> simp [fst0, fst1, fst2, h1, h2, h3]
        · intro p p0 p3
          rcases three p0 p3 with rfl | rfl | rfl <;> simp [fst0, fst1, fst2, h1, h2, h3]
        · intro i j hi hj
          simp only [List.length_cons, List.length_nil] at hi hj
          match i, j, hi, hj with
          | 0, 0, _, _ => intro _; rfl
          | 1, 1, _, _ => intro _; rfl
          | 2, 2, _, _ => intro _; rfl
          | 0, 1, _, _ => intro e; exact absurd e h1
          | 1, 0, _, _ => intro e; exact absurd e h1'
          | 0, 2, _, _ => intro e; exact absurd e h2
          | 2, 0, _, _ => intro e; exact absurd e h2'
          | 1, 2, _, _ => intro e; exact absurd e h3
          | 2, 1, _, _ => intro e; exact absurd e h3'
end Mine
end

-- P8
section
open PySem PySem.W PyProof.Rows PySem.Spec PySem.Calls
set_option Elab.async false
set_option linter.unusedVariables false
set_option maxRecDepth 100000
namespace Mine
theorem main_of {LK : List (List Int)} {LS : List Str} {FF : List Int} (hF : Firsts LK LS FF) (hLl : LS.length = 3) (hLK : LK.length = 3) (hON : okN LS)
    (hgood : ∀ p : Int, 0 ≤ p → p < 3 → goodW (lw (LS.getD p.toNat Str.empty))) (hinj : ∀ p q : Int, 0 ≤ p → p < 3 → 0 ≤ q → q < 3 → (lw (LS.getD p.toNat Str.empty) = lw (LS.getD q.toNat Str.empty) ↔ LK.getD p.toNat [] = LK.getD q.toNat [])) :
    MainF (FF.map fun p => LS.getD p.toNat Str.empty) LS LK FF := by
  intro mem hm2 hm5 hm3 hmt
  generalize hxs : (FF.map fun p => LS.getD p.toNat Str.empty) = xs
  generalize hn : FF.length = n
  have hxl : xs.length = n := by rw [← hxs, List.length_map, hn]
  generalize hsp : (mem.map fun p => ((posN FF ((fstN LK p : Nat) : Int) : Nat) : Int)) = sp
  have hxN : okN xs := by
    rw [← hxs]; intro x hx
    obtain ⟨p, hp, rfl⟩ := List.mem_map.mp hx
    have := hF.inn p hp
    have hlt : p.toNat < LS.length := by omega
    rw [List.getD_eq_getElem?_getD, List.getElem?_eq_getElem hlt]
    exact hON _ (List.getElem_mem hlt)
  -- a letter's word
  have hW : ∀ k : Int, 0 ≤ k → k < (n : Int) → ∃ p, FF[k.toNat]? = some p ∧ xs.getD k.toNat Str.empty = LS.getD p.toNat Str.empty ∧ 0 ≤ p ∧ p < 3 := by
    intro k k0 kn
    have hk : k.toNat < FF.length := by omega
    refine ⟨FF[k.toNat], List.getElem?_eq_getElem hk, ?_, hF.inn _ (List.getElem_mem hk)⟩
    rw [← hxs, List.getD_eq_getElem?_getD, List.getElem?_map, List.getElem?_eq_getElem hk]; rfl
  have hWg : ∀ k : Int, 0 ≤ k → k < (n : Int) → goodW (lw (xs.getD k.toNat Str.empty)) := by
    intro k k0 kn
    obtain ⟨p, _, e, p0, p3⟩ := hW k k0 kn
    rw [e]; exact hgood p p0 p3
  have hWi : ∀ a b : Int, (0 ≤ a ∧ a < (n : Int)) → (0 ≤ b ∧ b < (n : Int)) → lw (xs.getD a.toNat Str.empty) = lw (xs.getD b.toNat Str.empty) → a = b := by
    intro a b ha hb h
    obtain ⟨p, ep, e, p0, p3⟩ := hW a ha.1 ha.2
    obtain ⟨q, eq, e', q0, q3⟩ := hW b hb.1 hb.2
    rw [e, e'] at h
    have h2 := (hinj p q p0 p3 q0 q3).mp h
    have g1 : FF.getD a.toNat 0 = p := by rw [List.getD_eq_getElem?_getD, ep]; rfl
    have g2 : FF.getD b.toNat 0 = q := by rw [List.getD_eq_getElem?_getD, eq]; rfl
    have := hF.diff a.toNat b.toNat (by omega) (by omega) (by rw [g1, g2]; exact h2)
    omega
  -- the host's row, in letters
  have hspI : ∀ p ∈ mem, 0 ≤ ((posN FF ((fstN LK p : Nat) : Int) : Nat) : Int) ∧ ((posN FF ((fstN LK p : Nat) : Int) : Nat) : Int) < (n : Int) ∧
      lw (xs.getD (((posN FF ((fstN LK p : Nat) : Int) : Nat) : Int)).toNat Str.empty) = lw (LS.getD p.toNat Str.empty) := by
    intro p hp
    obtain ⟨p0, p3⟩ := hm3 p hp
    have hmf := hF.fst p p0 p3
    obtain ⟨h1, h2, _⟩ := pos_spec hmf
    rw [List.length_map] at h1
    have hi := hF.inn _ hmf
    refine ⟨Int.natCast_nonneg _, by omega, ?_⟩
    obtain ⟨q, eq, e, q0, q3⟩ := hW ((posN FF ((fstN LK p : Nat) : Int) : Nat) : Int) (Int.natCast_nonneg _) (by omega)
    rw [Int.toNat_natCast] at eq
    rw [List.getElem?_map, eq] at h2
    have hq : q = ((fstN LK p : Nat) : Int) := by
      have := Option.some.inj h2
      injection this
    rw [e]
    refine (hinj q p q0 q3 p0 p3).mpr ?_
    rw [hq, Int.toNat_natCast]
    exact hF.same p p0 p3
  have hspE : ∀ k ∈ sp, 0 ≤ k ∧ k < (n : Int) := by
    rw [← hsp]; intro k hk
    obtain ⟨p, hp, rfl⟩ := List.mem_map.mp hk
    exact ⟨(hspI p hp).1, (hspI p hp).2.1⟩
  have hwm : wordsS mem LS = sp.map fun k => lw (xs.getD k.toNat Str.empty) := by
    unfold wordsS
    rw [← hsp, List.map_map]
    refine List.map_congr_left fun p hp => ?_
    exact (hspI p hp).2.2.symm
  have hgm : goodR mem LS := by
    intro w hw
    rw [hwm] at hw
    obtain ⟨k, hk, rfl⟩ := List.mem_map.mp hw
    exact hWg k (hspE k hk).1 (hspE k hk).2
  have hgr : ∀ r : List Int, (∀ k ∈ r, 0 ≤ k ∧ k < (n : Int)) → goodR r xs := by
    intro r hr w hw
    obtain ⟨k, hk, rfl⟩ := List.mem_map.mp hw
    exact hWg k (hr k hk).1 (hr k hk).2
  have hme : mem ≠ [] := fun e => by rw [e] at hm2; cases hm2
  -- what is asked of a row
  have hask : ∀ r : List Int, r ≠ [] → r.length ≤ 9 → (∀ k ∈ r, 0 ≤ k ∧ k < (n : Int)) → askok (hostS mem LS) xs r = ok1 sp r := by
    intro r hne hl hr
    rw [Bool.eq_iff_iff]
    unfold askok ok1
    rw [dom_host hxN hON (by omega) (by omega) hne hme (hgr r hr) hgm, infB_iff, hwm]
    exact infix_map hWi hr hspE
  have hA1 : askF (askok (hostS mem LS) xs) n 9 [[]] = askF (ok1 sp) n 9 [[]] := askF_congr hask 9 0 [[]] (rows0 n) (by omega)
  -- the finite part
  have hchk : chk n sp = true := by
    obtain ⟨m', hmm⟩ : ∃ m', mem = 0 :: m' := by
      match mem, hm2, hmt with
      | a :: b :: l, _, h =>
        simp at h
        exact ⟨b :: l, by rw [h.1]⟩
    have e : sp = 0 :: (m'.map fun p => ((posN FF ((fstN LK p : Nat) : Int) : Nat) : Int)) := by
      rw [← hsp, hmm, List.map_cons, hF.zero]; rfl
    rw [e]
    have hl : mem.length = m'.length + 1 := by rw [hmm]; rfl
    have := hF.pos
    have := hF.len
    refine chk_all (by omega) (by omega) (by rw [List.length_map]; omega) (by rw [List.length_map]; omega) fun k hk => ?_
    exact hspE k (by rw [e]; exact .tail _ hk)
  unfold chk at hchk
  simp only [Bool.and_eq_true, beq_iff_eq, decide_eq_true_eq] at hchk
  obtain ⟨c1, c2, c3, c4⟩ := hchk
  rw [hxl, hA1]
  generalize hno : (askF (ok1 sp) n 9 [[]]).2 = no at c2 c3 c4
  have hrow : ∀ q ∈ no, q ≠ [] ∧ q.length ≤ 9 ∧ ∀ k ∈ q, 0 ≤ k ∧ k < (n : Int) := by
    intro q hq
    have := List.all_eq_true.mp c3 q hq
    unfold rowB at this
    simp only [Bool.and_eq_true, Bool.not_eq_true', decide_eq_true_eq, List.all_eq_true] at this
    refine ⟨fun e => ?_, this.1.2, fun k hk => this.2 k hk⟩
    rw [e] at this
    exact absurd this.1.1 (by decide)
  refine ⟨c1, ?_, ?_, c4⟩
  · have hreg : ∀ r : List Int, r ≠ [] → r.length ≤ 9 → (∀ k ∈ r, 0 ≤ k ∧ k < (n : Int)) → regok xs (no.map fun r => domS r xs) r = ok2 no r := by
      intro r hne hl hr
      unfold regok ok2
      congr 1
      rw [List.any_map]
      have : ∀ l : List (List Int), (∀ q ∈ l, q ∈ no) → (l.any ((fun d => userM (hostS r xs) d) ∘ fun r => domS r xs)) = l.any fun q => sufB q r := by
        intro l
        induction l with
        | nil => intro _; rfl
        | cons q l ih =>
          intro h
          obtain ⟨q1, q2, q3⟩ := hrow q (h q (.head _))
          have e : userM (hostS r xs) (domS q xs) = sufB q r := by
            rw [Bool.eq_iff_iff, user_host hxN (by omega) (by omega) q1 (hgr r hr) (hgr q q3), sufB_iff]
            exact suffix_map hWi q3 hr
          rw [List.any_cons, List.any_cons, ih fun p hp => h p (.tail _ hp)]
          show (userM (hostS r xs) (domS q xs) || _) = _
          rw [e]
      exact this no fun _ h => h
    rw [askF_congr hreg 9 0 [[]] (rows0 n) (by omega)]
    exact c2
  · intro r hr
    obtain ⟨q1, q2, q3⟩ := hrow r hr
    exact ⟨by omega, user_behind hxN (by omega) q1 (hgr r q3)⟩
theorem law_pure {a b c : Int} (h1 : 0 ≤ a ∧ a < 65536) (h2 : 0 ≤ b ∧ b < 65536) (h3 : 0 ≤ c ∧ c < 65536) {LK : List (List Int)} {FF : List Int} {LS : List Str} (hLK : [lookF a, lookF b, lookF c] = LK) (hFF : ((List.range 3).map fun i : Nat => (i : Int)).filter (fun p => ((fstN LK p : Nat) : Int) == p) = FF) (hLS : [modeS a, modeS b, modeS c] = LS) :
    okN LS ∧ lettersF LS = FF.map (fun p => LS.getD p.toNat Str.empty) ∧ (∀ p ∈ FF, 0 ≤ p ∧ p < 3) ∧ FF.length ≤ 3 ∧ (∀ p : Int, 0 ≤ p → p < 3 → ((fstN LK p : Nat) : Int) ∈ FF) ∧ MainF (FF.map fun p => LS.getD p.toNat Str.empty) LS LK FF := by
  obtain ⟨N, rfl⟩ := Int.eq_ofNat_of_zero_le h1.1
  obtain ⟨M, rfl⟩ := Int.eq_ofNat_of_zero_le h2.1
  obtain ⟨K, rfl⟩ := Int.eq_ofNat_of_zero_le h3.1
  have hN : N < 65536 := by omega
  have hM : M < 65536 := by omega
  have hK : K < 65536 := by omega
  subst hLK hLS
  have hF := firsts_of (user_mode hM hN) (user_mode hK hN) (user_mode hK hM)
  rw [hFF] at hF
  have hON : okN [modeS (N : Int), modeS (M : Int), modeS (K : Int)] := by
    intro x hx
    simp only [List.mem_cons, List.not_mem_nil, or_false] at hx
    rcases hx with rfl | rfl | rfl
    · exact mode_ok N hN
    · exact mode_ok M hM
    · exact mode_ok K hK
  refine ⟨hON, hF.letters, hF.inn, hF.len, hF.fst, main_of hF rfl rfl hON ?_ ?_⟩
  · intro p p0 p3
    rcases three p0 p3 with rfl | rfl | rfl
    · exact mode_good N hN
    · exact mode_good M hM
    · exact mode_good K hK
  · have key : ∀ {U V : Nat}, U < 65536 → V < 65536 → (lw (modeS (U : Int)) = lw (modeS (V : Int)) ↔ lookF (U : Int) = lookF (V : Int)) := by
      intro U V hU hV
      exact ⟨look_inj hU hV, fun h => by rw [lw_mode U hU, lw_mode V hV, h]⟩
    intro p q p0 p3 q0 q3
    rcases three p0 p3 with rfl | rfl | rfl <;> rcases three q0 q3 with rfl | rfl | rfl
    · exact key hN hN
    · exact key hN hM
    · exact key hN hK
    · exact key hM hN
    · exact key hM hM
    · exact key hM hK
    · exact key hK hN
    · exact key hK hM
    · exact key hK hK
end Mine
end

-- L1
section
theorem Mine.reset_L1 : True := by
  w_top off
  k_with_none
  exact trivial
open PySem PySem.W PyProof.Rows PySem.Spec PySem.Calls
set_option Elab.async false
set_option linter.unusedVariables false
set_option pp.deepTerms false
set_option pp.deepTerms.threshold 5
namespace Mine
def ExAt (prog : Program) (w : World) (A : Around) (E : Value → Shared → Prop) (Q : Flow → Shared → Prop) (l : List Stmt) (env : Env) (s : Shared) : Prop := wpAny (model prog w) A (execs l env) Q E s
theorem ex_stop {prog : Program} {w : World} {A : Around} {E : Value → Shared → Prop} {s : Shared} {Q : Flow → Shared → Prop} {t i b o p r} {env : Env} (h : ExAt prog w A E Q (.For t i b o p :: r) env s) : wpAny (model prog w) A (execs (.For t i b o p :: r) env) Q E s := h
local macro_rules | `(tactic| walk_at "execs cons For cons") => `(tactic| (k_here; refine ex_stop ?_; k_whole))
set_option maxRecDepth 100000 in
set_option maxHeartbeats 8000000 in
theorem law_ok : PySem.Challenge.rw_tv0035_01.Holds := by
  refine Mine.hd ?_
  w_strict (k_go0; (all_goals try k_fold))
  k_steps
  rename_i h9 tk9 l9 f1 f2 f3 t1 t2 t3 hf1 hf2 hf3 hne9 hh F1 N1
  repeat (obtain ⟨hneY, hne9⟩ := hne9)
  unfold CpAt
  refine' comp_d (K := ItemKind.int) (pz := fun _ => true) (d := fun n => PyData.str (modeS n)) ?hh ?hclos ?hcell ?hkind ?hnames ?hx F1 ?h ?hs
  walk_at "MINE hyps"
  k_steps
  have hfs : ∀ n ∈ [f1, f2, f3], 0 ≤ n ∧ n < 65536 := by simp [hf1, hf2, hf3]
  refine ⟨_, l9, [.int f1 t1, .int f2 t2, .int f3 t3], [f1, f2, f3], rfl, ⟨_, (N1 (l9, _) (by k_mem)).1, rfl, 0, rfl⟩, dat_areInts (ints_dat (led := []) (.cons _ _ (.cons _ _ (.cons _ _ .nil)))), (by rw [sizeLine_eq]; exact (by decide : 3 ≤ 16777216)), F1, N1, ?tests, ?elt, ?fin⟩
  case tests =>
    intro C a v s₂ m₂ E' _ _ _ _ _ _
    exact wpAny_pure ⟨rfl, keeps_refl _⟩
  case elt =>
    rintro C k v s₂ m₂ E' hC hk ⟨tk, rfl⟩ _ hns hmx hkeep
    k_with "MY c1" => exact (hfs k hk).1
    k_with "MY c2" => exact (hfs k hk).2
    k_steps
    · exact Carried.str _ _
    · rename InElt _ _ => kE
      exact keeps_at kE
  case fin =>
    intro D ys h' tk F' N' h0 hl' P' hC
    rw [List.filter_eq_self.mpr (fun _ _ => rfl)] at hC
    have hys : DatAll [] ys ([modeS f1, modeS f2, modeS f3].map Dat.str) := carried_strs hC
    obtain ⟨n, N2, hne⟩ := newPlain_led F' N' h0 P'
    replace hne := allNe_of hne
    simp only [AllNe, and_true] at hne
    repeat (obtain ⟨hneY, hne⟩ := hne)
    clear hC N' P' hl' F1 N1
    (try k_fold)
    k_with "MY c1" => first | exact hf1.1 | exact hf2.1 | exact hf3.1
    k_with "MY c2" => first | exact hf1.2 | exact hf2.2 | exact hf3.2
    k_steps
    unfold CpAt
    rename_i h2 o2 F2 N2 d2
    refine' comp_new (ax := l9) (vs := [.int f1 t1, .int f2 t2, .int f3 t3]) (c := 0) [dRow (lookF f1), dRow (lookF f2), dRow (lookF f3)] F2 N2 (by k_mem) ?hh ?hclos ?hcell ?hkind ?hnames ?hx rfl (by rw [sizeLine_eq]; exact (by decide : 3 ≤ 16777216)) ?hit ?helt ?hfin ?hs
    walk_at "MINE hyps"
    case hit =>
      intro Q' hq
      k_steps
      exact hq
    case helt =>
      rintro i v d C m₂ h tk E' hv hd hns hmx F N
      obtain ⟨n, t, rfl, rfl, hn⟩ : ∃ n t, v = .int n t ∧ d = dRow (lookF n) ∧ 0 ≤ n ∧ n < 65536 := by
        match i, hv, hd with
        | 0, hv, hd => exact ⟨f1, t1, (Option.some.inj hv).symm, (Option.some.inj hd).symm, hf1⟩
        | 1, hv, hd => exact ⟨f2, t2, (Option.some.inj hv).symm, (Option.some.inj hd).symm, hf2⟩
        | 2, hv, hd => exact ⟨f3, t3, (Option.some.inj hv).symm, (Option.some.inj hd).symm, hf3⟩
        | n + 3, hv, _ => exact nomatch hv
      k_with "MY c1" => exact hn.1
      k_with "MY c2" => exact hn.2
      k_steps
    case hfin =>
      intro D2 ys2 n2 h' tk own hap F' N' hneD hD2
      have N3 := news_swap N'
      simp only [List.cons_append, List.nil_append] at N3
      have ho0 : ∀ p ∈ own, p.1 ≠ D2 := fun p hp => hneD p (List.mem_append_left _ hp)
      have ho1 := allNe_of fun p hp => hneD p (List.mem_append_right _ hp)
      have ho2 : ∀ p ∈ own, p.1 ≠ _ := fun p hp => hap p hp _ (.tail _ (.tail _ (.tail _ (.head _))))
      have ho3 : ∀ p ∈ own, p.1 ≠ _ := fun p hp => hap p hp _ (.tail _ (.tail _ (.tail _ (.tail _ (.head _)))))
      have ho4 : ∀ p ∈ own, p.1 ≠ _ := fun p hp => hap p hp _ (.tail _ (.tail _ (.tail _ (.tail _ (.tail _ (.head _))))))
      simp only [AllNe, and_true] at ho1
      repeat (obtain ⟨hneY, ho1⟩ := ho1)
      clear N' hneD hap F2 N2
      (try k_fold)
      k_steps
      unfold CpAt
      rename_i h3 o3 F3 N4 d3
      have hD2' : DatAll own ys2 ([lookF f1, lookF f2, lookF f3].map dRow) := hD2
      have hL3 : [lookF f1, lookF f2, lookF f3].length = 3 := rfl
      generalize hLK : [lookF f1, lookF f2, lookF f3] = LK at hD2' hL3
      have hl2 : ys2.length = 3 := by rw [hD2'.length, List.length_map, hL3]
      refine' comp_r (pz := fun p => ((fstN LK p : Nat) : Int) == p) (d := fun p => PyData.int p) ?hh ?hclos ?hcell ?hkind ?hnames ?hx F3 ?h ?hs
      walk_at "MINE hyps"
      k_steps
      rename_i h5 tk5 t5 u5 v5 hr5 F5 N5 hk5
      refine ⟨_, _, _, _, _, _, 3, rfl, hr5, rfl, by decide, F5, N5, ?tests, ?elt, ?fin⟩
      case tests =>
        rintro C a v s₂ m₂ E' hC ⟨ha0, ha3⟩ ⟨tk, rfl⟩ hns hmx hkeep
        have hi : a.toNat < ys2.length := by omega
        have ha63 : a < 2 ^ 63 := by omega
        obtain ⟨r, ra, us, cr, hr, hv, hm, hu⟩ := row_get hD2' (List.getElem?_eq_getElem hi)
        have hvi : ys2[a.toNat]? = some (.ref ra) := by rw [List.getElem?_eq_getElem hi, hv]
        have hLn : s₂.heap.IsList D2 ys2.toArray := ⟨_, hkeep _ _ (N5 (D2, _) (by k_mem)).1, rfl, n2, rfl⟩
        obtain ⟨fs1, fs2, fs3⟩ := fst_spec hr
        have fs4 : (LK.map dRow).length ≤ 16384 := by rw [List.length_map]; omega
        k_with "MY index" => (refine' dat_index (by assumption) (by k_mem) hD2' ?sa (list_in hm hu) ?sx (kqd_rows _) (kqd_row _) ?hu fs1 fs4 fs2 fs3 ?_; (case sa => intro p hp; walk_at "MINE up"); (case sx => intro p hp; walk_at "MINE up"); (case hu => ktr_units); intro _ _)
        k_steps
        exact keeps_at fun _ _ e => e
      case elt =>
        rintro C a v s₂ m₂ E' hC ⟨ha0, ha3⟩ ⟨tk, rfl⟩ _ hns hmx hkeep
        k_steps
        · exact Carried.int _ _
        · exact keeps_refl _
      case fin =>
        intro D3 ys3 h' tk F' N' h0 hl' P' hC
        generalize hFF : ((List.range 3).map fun i : Nat => (i : Int)).filter (fun p => ((fstN LK p : Nat) : Int) == p) = FF at hC
        have hys3 : IntsAre ys3 FF := carried_ints hC
        obtain ⟨n3, N6, hne3⟩ := newPlain_led F' N' h0 P'
        have hp0 : ∀ p ∈ own, p.1 ≠ D3 := fun p hp => hne3 p (by walk_at "MINE up")
        replace hne3 := allNe_of hne3
        simp only [AllNe] at hne3
        repeat (obtain ⟨hneY, hne3⟩ := hne3)
        clear hC N' P' hl' F3 N4 F5 N5 hk5 hr5
        (try k_fold)
        k_steps
        rename_i hx6 o6 d6 lt hx7 l7 hx8 F8 N8
        repeat (obtain ⟨hltY, l7⟩ := l7)
        have l8 := allLt_mem l7
        have l9 : ∀ p ∈ own, p.1 ≠ lt := fun p hp => Nat.ne_of_lt (l8 p hp)
        generalize hLS : [modeS f1, modeS f2, modeS f3] = LS at hys
        obtain ⟨u1, u2, u3, u4, u5, u6⟩ := law_pure hf1 hf2 hf3 hLK hFF hLS
        have hLl : LS.length = 3 := by rw [← hLS]; rfl
        have N9 := pull8 N8
        unfold ExAt
        refine' law_loop _ _ _ _ _ _ _ _ _ _ _ _ _ _ _ ?hL ?hI ?hns lt D D2 D3 ys ys2 ys3 n n2 n3 _ _ _ _ own _ LS LK FF ?K0 (fr_at (x := Str.ofString "script") F8 ?hscr) N9 ?z1 ?z2 ?d1 ?d2 ?d3 ?d4 hys hD2' hys3 hLl hL3 u2 rfl u3 u4 u5 u1 u6 ?hQ ?hE ?hX ?hT
        case hscr => with_unfolding_all exact rfl
        case hL => assumption
        case hI => assumption
        case hns => omega
        case K0 => assumption
        case z1 => k_all
        case z2 => k_all
        case d1 => assumption
        case d2 => assumption
        case d3 => assumption
        case d4 => exact ⟨_, by assumption⟩
        case hE => passes_own
        case hX => assumption
        case hT => assumption
        case hQ =>
          intro h tk mQ fQ
          k_steps
          done
end Mine
end
end
end
end

set_option maxRecDepth 100000 in
set_option maxHeartbeats 8000000 in
theorem PySem.Challenge.cw_tv0035_01_holds : PySem.Challenge.rw_tv0035_01.Holds := by
  exact Mine.law_ok
