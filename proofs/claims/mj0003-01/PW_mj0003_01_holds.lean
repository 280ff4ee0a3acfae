import PyProof.Rows.All
import Wide.All
import OpenK.AllK
import Wide.FinOn
import Lean
import PySem.Challenge.RW_mj0003_01
open PySem PySem.W PyProof.Rows
set_option Elab.async false
set_option maxRecDepth 100000
set_option maxHeartbeats 8000000

namespace Mine

open_top hd for PySem.Challenge.rw_mj0003_01

section
open PySem.Sre

def pcode : Array Nat := #[14, 4, 0, 0, 0, 6, 1, 5, 5, 0, 6, 6, 1, 1]
def bol (t : Array Nat) (i : Nat) : Bool := i == 0 || t.getD (i - 1) 0 == 10
def eol (t : Array Nat) (i : Nat) : Bool := i == t.size || t.getD i 0 == 10

def nxt (t : Array Nat) : Nat → Nat → Option Nat
  | 0, _ => none
  | k + 1, s => if (bol t s && !eol t s) = true then some s else nxt t k (s + 1)

def stM (text : Array Nat) (s : Nat) (first must : Bool) (sn : Sre.Seen) : M :=
  { code := pcode, text := text, lim := text.size, start := s, lastStart := text.size, mustAdvance := must, pc := 5, pos := s, handed := s, outermost := first, marks := Array.replicate (2 * 0) none,
    frames := [{ wait := .nextStart, pc := 5, pos := s, outermost := first }], weight := 1, seen := sn }

theorem runFor_add (a b : Nat) : ∀ m : M, M.runFor (a + b) m = M.runFor b (M.runFor a m) := by
  induction a with
  | zero => intro m; rw [Nat.zero_add]; rfl
  | succ a ih =>
    intro m
    rw [show a + 1 + b = (a + b) + 1 by omega]
    show (if m.outcome.isSome then m else M.runFor (a + b) m.step) = M.runFor b (if m.outcome.isSome then m else M.runFor a m.step)
    by_cases h : m.outcome.isSome = true
    · rw [if_pos h, if_pos h]
      cases b with
      | zero => rfl
      | succ b => show m = if m.outcome.isSome then m else _; rw [if_pos h]
    · rw [if_neg h, if_neg h, ih]

theorem runFor_done {m : M} (h : m.outcome.isSome = true) : ∀ n, M.runFor n m = m
  | 0 => rfl
  | n + 1 => by show (if m.outcome.isSome then m else _) = m; rw [if_pos h]

theorem run_succ {m : M} {n : Nat} (h : m.outcome = none) : M.runFor (n + 1) m = M.runFor n m.step := by
  show (if m.outcome.isSome then m else M.runFor n m.step) = _
  rw [h]; rfl

theorem st_look {t : Array Nat} {s : Nat} {f mu : Bool} {sn : Sre.Seen} :
    M.step (stM t s f mu sn) = if bol t s then { stM t s f mu ((sn.add 6).add 44) with pc := 7 } else { stM t s f mu ((sn.add 6).add 44) with answer := some false } := rfl

/-- the machine behind a start whose look fell -/
def fellM (t : Array Nat) (s : Nat) (f mu : Bool) (sn : Sre.Seen) (pc : Nat) : M := { stM t s f mu sn with pc := pc, answer := some false }

theorem fell_step {t : Array Nat} {s : Nat} {f mu : Bool} {sn : Sre.Seen} {pc : Nat} :
    M.step (fellM t s f mu sn pc) = if s < t.size then stM t (s + 1) false false sn else { stM t s f mu sn with frames := [], weight := 0, answer := some false } := rfl

theorem fell_end {t : Array Nat} {s : Nat} {f mu : Bool} {sn : Sre.Seen} :
    (M.step { stM t s f mu sn with frames := [], weight := 0, answer := some false }).outcome = some .failed := rfl

/-- the machine inside the look ahead -/
def lookM (t : Array Nat) (s : Nat) (f mu : Bool) (sn : Sre.Seen) : M :=
  { stM t s f mu sn with pc := 10, outermost := false, weight := 2, frames := [{ wait := .lookNot, pc := 7, pos := s, outermost := f, kept := (stM t s f mu sn).keep false }, { wait := .nextStart, pc := 5, pos := s, outermost := f }] }

theorem look_step {t : Array Nat} {s : Nat} {f mu : Bool} {sn : Sre.Seen} :
    M.step { stM t s f mu sn with pc := 7 } = lookM t s f mu (sn.add 5) := rfl

theorem in_step {t : Array Nat} {s : Nat} {f mu : Bool} {sn : Sre.Seen} :
    M.step (lookM t s f mu sn) = if eol t s then { lookM t s f mu ((sn.add 6).add 49) with pc := 12 } else { lookM t s f mu ((sn.add 6).add 49) with answer := some false } := rfl

theorem in_yes {t : Array Nat} {s : Nat} {f mu : Bool} {sn : Sre.Seen} :
    M.step (M.step { lookM t s f mu sn with pc := 12 }) = fellM t s f mu (sn.add 1) 7 := rfl

theorem in_no {t : Array Nat} {s : Nat} {f mu : Bool} {sn : Sre.Seen} :
    M.step { lookM t s f mu sn with answer := some false } = { stM t s f mu sn with pc := 13 } := rfl

theorem last_step {t : Array Nat} {s : Nat} {f mu : Bool} {sn : Sre.Seen} :
    M.step { stM t s f mu sn with pc := 13 } = if (f && (false || (mu && s == s))) = true then fellM t s f mu (sn.add 1) 13 else { stM t s f mu (sn.add 1) with pc := 13, answer := some true } := rfl
theorem last_out {t : Array Nat} {s : Nat} {f mu : Bool} {sn : Sre.Seen} :
    ∃ m', M.runFor 2 { stM t s f mu sn with pc := 13, answer := some true } = m' ∧ m'.outcome = some .matched ∧ m'.start = s ∧ m'.handed = s := ⟨_, rfl, rfl, rfl, rfl⟩

/-- one start: six steps at most to the next start, or the end -/
theorem one_start {t : Array Nat} {s : Nat} {f mu : Bool} {sn : Sre.Seen} :
    (∃ k sn' pc, k ≤ 5 ∧ ((bol t s && !eol t s) = false ∨ (f && mu) = true) ∧ M.runFor k (stM t s f mu sn) = fellM t s f mu sn' pc) ∨
    (∃ m', (bol t s && !eol t s) = true ∧ (f && mu) = false ∧ M.runFor 7 (stM t s f mu sn) = m' ∧ m'.outcome = some .matched ∧ m'.start = s ∧ m'.handed = s) := by
  cases hb : bol t s with
  | false =>
    refine .inl ⟨1, (sn.add 6).add 44, 5, by omega, .inl (by simp), ?_⟩
    show M.step (stM t s f mu sn) = _
    rw [st_look, hb]; rfl
  | true =>
    have e1 : M.step (stM t s f mu sn) = { stM t s f mu ((sn.add 6).add 44) with pc := 7 } := by rw [st_look, hb]; rfl
    have e2 : M.runFor 2 (stM t s f mu sn) = lookM t s f mu (((sn.add 6).add 44).add 5) := by
      rw [run_succ rfl, e1, run_succ rfl, look_step]; rfl
    cases he : eol t s with
    | true =>
      refine .inl ⟨5, (((((sn.add 6).add 44).add 5).add 6).add 49).add 1, 7, by omega, .inl (by simp), ?_⟩
      rw [show (5 : Nat) = 2 + 3 by rfl, runFor_add, e2]
      rw [run_succ rfl, in_step, he]
      exact in_yes
    | false =>
      have e4 : M.runFor 4 (stM t s f mu sn) = { stM t s f mu ((((sn.add 6).add 44).add 5).add 6 |>.add 49) with pc := 13 } := by
        rw [show (4 : Nat) = 2 + 2 by rfl, runFor_add, e2]
        rw [run_succ rfl, in_step, he]
        exact in_no
      cases hfm : f && mu with
      | true =>
        refine .inl ⟨5, (((((sn.add 6).add 44).add 5).add 6).add 49).add 1, 13, by omega, .inr rfl, ?_⟩
        rw [show (5 : Nat) = 4 + 1 by rfl, runFor_add, e4]
        show M.step { stM t s f mu _ with pc := 13 } = _
        rw [last_step]
        have : (f && (false || (mu && s == s))) = true := by simpa using hfm
        rw [if_pos this]
      | false =>
        refine .inr ?_
        have h2 : ∃ m', M.runFor 7 (stM t s f mu sn) = m' ∧ m'.outcome = some .matched ∧ m'.start = s ∧ m'.handed = s := by
          rw [show (7 : Nat) = 4 + 1 + 2 by rfl, runFor_add, runFor_add, e4]
          have e5 : M.runFor 1 { stM t s f mu ((((sn.add 6).add 44).add 5).add 6 |>.add 49) with pc := 13 } = { stM t s f mu (((((sn.add 6).add 44).add 5).add 6 |>.add 49).add 1) with pc := 13, answer := some true } := by
            show M.step { stM t s f mu _ with pc := 13 } = _
            rw [last_step]
            have : ¬ (f && (false || (mu && s == s))) = true := by simpa using hfm
            rw [if_neg this]
          rw [e5]
          exact last_out
        obtain ⟨m', h⟩ := h2
        exact ⟨m', by simp, rfl, h⟩

def Found (m : M) : Option Nat → Prop
  | some i => m.outcome = some .matched ∧ m.start = i ∧ m.handed = i
  | none => m.outcome = some .failed

theorem search_run {t : Array Nat} : ∀ (d s : Nat) (f mu : Bool) (sn : Sre.Seen), s ≤ t.size → t.size - s = d →
    ∃ k m', k ≤ 6 * d + 7 ∧ M.runFor k (stM t s f mu sn) = m' ∧ Found m' (if (f && mu) = true then nxt t (t.size - (s + 1)) (s + 1) else nxt t (t.size - s) s) := by
  intro d
  induction d with
  | zero =>
    intro s f mu sn hs hd
    have hse : s = t.size := by omega
    have heol : eol t s = true := by simp [eol, hse]
    rcases one_start (t := t) (s := s) (f := f) (mu := mu) (sn := sn) with ⟨k, sn', pc, hk, hc, hr⟩ | ⟨m', hb, _⟩
    · refine ⟨k + 2, _, by omega, rfl, ?_⟩
      rw [runFor_add, hr]
      have : nxt t (t.size - s) s = none := by rw [hd]; rfl
      have h2 : nxt t (t.size - (s + 1)) (s + 1) = none := by rw [show t.size - (s + 1) = 0 by omega]; rfl
      rw [this, h2, ite_self]
      rw [run_succ rfl, fell_step, if_neg (by omega)]
      exact fell_end
    · rw [heol] at hb; simp at hb
  | succ d ih =>
    intro s f mu sn hs hd
    rcases one_start (t := t) (s := s) (f := f) (mu := mu) (sn := sn) with ⟨k, sn', pc, hk, hc, hr⟩ | ⟨m', hb, hfm, hr, ho⟩
    · obtain ⟨k2, m', hk2, hr2, hf2⟩ := ih (s + 1) false false sn' (by omega) (by omega)
      refine ⟨k + (1 + k2), m', by omega, ?_, ?_⟩
      · rw [runFor_add, hr, runFor_add]
        have : M.runFor 1 (fellM t s f mu sn' pc) = stM t (s + 1) false false sn' := by
          show M.step (fellM t s f mu sn' pc) = _
          rw [fell_step, if_pos (by omega)]
        rw [this, hr2]
      · have e0 : (if (false && false) = true then nxt t (t.size - (s + 1 + 1)) (s + 1 + 1) else nxt t (t.size - (s + 1)) (s + 1)) = nxt t (t.size - (s + 1)) (s + 1) := rfl
        rw [e0] at hf2
        by_cases hfm : (f && mu) = true
        · rw [if_pos hfm]; exact hf2
        · rw [if_neg hfm]
          have hn : (bol t s && !eol t s) = false := hc.resolve_right hfm
          rw [show t.size - s = (t.size - (s + 1)) + 1 by omega]
          show Found m' (if (bol t s && !eol t s) = true then some s else nxt t (t.size - (s + 1)) (s + 1))
          rw [hn]; exact hf2
    · refine ⟨7, m', by omega, hr, ?_⟩
      have : ¬ (f && mu) = true := by rw [hfm]; simp
      rw [if_neg this, show t.size - s = (t.size - (s + 1)) + 1 by omega]
      show Found m' (if (bol t s && !eol t s) = true then some s else nxt t (t.size - (s + 1)) (s + 1))
      rw [hb]; exact ho

theorem forSearch_is {t : Array Nat} {s : Nat} {mu : Bool} (hs : s ≤ t.size) : ∃ sn, Sre.forSearch pcode t 0 s t.size mu = stM t s true mu sn := by
  refine ⟨({} : Sre.Seen).add 14, ?_⟩
  have h1 : ¬ (s > t.size) := by omega
  have h2 : (decide (s > t.size) || decide (t.size - s < 0)) = false := by simp; omega
  unfold Sre.forSearch
  have e : (Sre.header pcode).1 = 0 := rfl
  rw [e]
  simp only [Nat.not_lt_zero, or_false, h1, if_false]
  rfl
end

theorem plainAttrs_pat : PlainAttrs "re.Pattern" :=
  ⟨⟨"object.__getattribute__", by rw [typeLookup_type, builtinLookup_eq_fast]; kernel_rfl, by decide +kernel⟩, by rw [typeLookup_type, builtinLookup_eq_fast]; kernel_rfl⟩
theorem slot_sub : Slot "re.Pattern" "sub" "re.Pattern.sub" :=
  .of (owner := "re.Pattern") (n := "sub") (by rw [typeLookup_type, builtinLookup_eq_fast]; kernel_rfl) (by decide +kernel) (by decide +kernel) (by decide +kernel)
    (by first | exact .inl (by decide +kernel) | exact .inr (by decide +kernel)) (by rw [isSubtype_type]; kernel_rfl)
theorem type_sub : typeOf (.builtin "re.Pattern.sub") = pure (.type "method_descriptor") := by show builtinType _ = _; rw [builtinType_eq_fast]; kernel_rfl
theorem entry_sub : entryFor table "re.Pattern.sub" = some Builtin.«re.Pattern.sub» := entryFor_of_tree (by kernel_rfl)
theorem entry_sub_loop : entryFor table "re.Pattern.sub.loop" = some Builtin.«re.Pattern.sub.loop» := entryFor_of_tree (by kernel_rfl)
theorem plain_sub_loop : plainId "re.Pattern.sub.loop" = true := by decide +kernel
theorem args_sub_3 (a b c : Value) : argsOk "re.Pattern.sub" ⟨[a, b, c], []⟩ := by
  unfold argsOk; kernel_rfl
theorem str_no_call : typeLookup (.type "str") "__call__" = pure none := by rw [typeLookup_type, builtinLookup_eq_fast]; kernel_rfl

/-- a text set in: the pad ahead of each sign that begins a row and is no line end -/
def setInL (pad : List Nat) : Bool → List Nat → List Nat
  | _, [] => []
  | fresh, c :: r => (if (fresh && c != 10) = true then pad else []) ++ c :: setInL pad (c == 10) r

theorem setInL_len (pad : List Nat) : ∀ (l : List Nat) (f : Bool), (setInL pad f l).length ≤ l.length * (pad.length + 1)
  | [], _ => by simp [setInL]
  | c :: r, f => by
    have ih := setInL_len pad r (c == 10)
    simp only [setInL, List.length_append, List.length_cons]
    rw [Nat.add_mul]
    split <;> simp <;> omega

theorem bol_succ {t : Array Nat} {i : Nat} (h : i < t.size) : bol t (i + 1) = (t[i] == 10) := by
  simp [bol, Array.getD, h]
theorem eol_of_lt {t : Array Nat} {i : Nat} (h : i < t.size) : eol t i = (t[i] == 10) := by
  simp [eol, Array.getD, h]; omega

theorem drop_cons {t : Array Nat} {i : Nat} (h : i < t.size) : t.toList.drop i = t[i] :: t.toList.drop (i + 1) := by
  rw [List.drop_eq_getElem_cons (by simpa using h)]; simp

theorem setInL_step (pad : List Nat) {t : Array Nat} {i : Nat} (h : i < t.size) (f : Bool) :
    setInL pad f (t.toList.drop i) = (if (f && !eol t i) = true then pad else []) ++ t[i] :: setInL pad (bol t (i + 1)) (t.toList.drop (i + 1)) := by
  rw [drop_cons h, setInL, bol_succ h, eol_of_lt h]; rfl

theorem extract_step {t : Array Nat} {a b : Nat} (h : a < b) (hb : b ≤ t.size) : (t.extract a b).toList = t[a] :: (t.extract (a + 1) b).toList := by
  have ha : a < t.size := by omega
  simp only [Array.toList_extract, List.extract]
  rw [drop_cons ha, show b - a = (b - (a + 1)) + 1 by omega, List.take_succ_cons]

theorem extract_nil {t : Array Nat} {a : Nat} : (t.extract a a).toList = [] := by simp

/-- no place to set in from s to i: the signs stand as they are -/
theorem setInL_skip (pad : List Nat) {t : Array Nat} : ∀ (n s i : Nat), i - s = n → s ≤ i → i ≤ t.size → (∀ j, s ≤ j → j < i → (bol t j && !eol t j) = false) →
    setInL pad (bol t s) (t.toList.drop s) = (t.extract s i).toList ++ setInL pad (bol t i) (t.toList.drop i) := by
  intro n
  induction n with
  | zero => intro s i hn hsi _ _; have : s = i := by omega
            subst this; rw [extract_nil]; rfl
  | succ n ih =>
    intro s i hn hsi hi hj
    rw [setInL_step pad (by omega) _, hj s (by omega) (by omega), extract_step (by omega) hi, ih (s + 1) i (by omega) (by omega) hi (fun j h1 h2 => hj j (by omega) h2)]
    simp

theorem nxt_some {t : Array Nat} : ∀ (k s i : Nat), nxt t k s = some i → s ≤ i ∧ i < s + k ∧ (bol t i && !eol t i) = true ∧ ∀ j, s ≤ j → j < i → (bol t j && !eol t j) = false := by
  intro k
  induction k with
  | zero => intro s i h; cases h
  | succ k ih =>
    intro s i h
    rw [nxt] at h
    by_cases hc : (bol t s && !eol t s) = true
    · rw [if_pos hc] at h; cases h
      exact ⟨by omega, by omega, hc, fun j h1 h2 => by omega⟩
    · rw [if_neg hc] at h
      obtain ⟨h1, h2, h3, h4⟩ := ih _ _ h
      refine ⟨by omega, by omega, h3, fun j hj1 hj2 => ?_⟩
      by_cases hjs : j = s
      · subst hjs; simpa using hc
      · exact h4 j (by omega) hj2
theorem nxt_none {t : Array Nat} : ∀ (k s : Nat), nxt t k s = none → ∀ j, s ≤ j → j < s + k → (bol t j && !eol t j) = false := by
  intro k
  induction k with
  | zero => intro s _ j h1 h2; omega
  | succ k ih =>
    intro s h j h1 h2
    rw [nxt] at h
    by_cases hc : (bol t s && !eol t s) = true
    · rw [if_pos hc] at h; cases h
    · rw [if_neg hc] at h
      by_cases hjs : j = s
      · subst hjs; simpa using hc
      · exact ih _ h j (by omega) (by omega)

/-- what is still to be said from d on -/
def restL (pad : List Nat) (t : Array Nat) (d : Nat) (mu : Bool) : List Nat := setInL pad (bol t d && !mu) (t.toList.drop d)

def nextAt (t : Array Nat) (d : Nat) (mu : Bool) : Option Nat := if (true && mu) = true then nxt t (t.size - (d + 1)) (d + 1) else nxt t (t.size - d) d

theorem rest_end (pad : List Nat) {t : Array Nat} {d : Nat} {mu : Bool} (hd : d ≤ t.size) (h : nextAt t d mu = none) : restL pad t d mu = (t.extract d t.size).toList := by
  have key : ∀ s, s ≤ t.size → nxt t (t.size - s) s = none → setInL pad (bol t s) (t.toList.drop s) = (t.extract s t.size).toList := by
    intro s hs hn
    rw [setInL_skip pad (t.size - s) s t.size rfl hs (Nat.le_refl _) (fun j h1 h2 => nxt_none _ _ hn j h1 (by omega))]
    have : t.toList.drop t.size = [] := by simp
    rw [this]; simp [setInL]
  cases mu with
  | false => simp only [restL, Bool.not_false, Bool.and_true]; exact key d hd (by simpa [nextAt] using h)
  | true =>
    simp only [restL, Bool.not_true, Bool.and_false]
    by_cases hlt : d < t.size
    · rw [setInL_step pad hlt, key (d + 1) hlt (by simpa [nextAt] using h), extract_step hlt (Nat.le_refl _)]; simp
    · have : d = t.size := by omega
      subst this; rw [show t.toList.drop t.size = [] by simp]; simp [setInL]

theorem rest_next (pad : List Nat) {t : Array Nat} {d i : Nat} {mu : Bool} (h : nextAt t d mu = some i) (hd : d ≤ t.size) :
    d ≤ i ∧ i < t.size ∧ (mu = true → d < i) ∧ restL pad t d mu = (t.extract d i).toList ++ pad ++ restL pad t i true := by
  have key : ∀ s, s ≤ t.size → nxt t (t.size - s) s = some i → s ≤ i ∧ i < t.size ∧ setInL pad (bol t s) (t.toList.drop s) = (t.extract s i).toList ++ pad ++ restL pad t i true := by
    intro s hs hn
    obtain ⟨h1, h2, h3, h4⟩ := nxt_some _ _ _ hn
    have hit : i < t.size := by omega
    refine ⟨h1, hit, ?_⟩
    rw [setInL_skip pad (i - s) s i rfl h1 (by omega) h4, setInL_step pad hit, h3, restL, setInL_step pad hit]
    simp
  cases mu with
  | false =>
    obtain ⟨a, b, c⟩ := key d hd (by simpa [nextAt] using h)
    exact ⟨a, b, by simp, by simpa only [restL, Bool.not_false, Bool.and_true] using c⟩
  | true =>
    have h' : nxt t (t.size - (d + 1)) (d + 1) = some i := by simpa [nextAt] using h
    have hlt : d < t.size := by obtain ⟨h1, h2, _⟩ := nxt_some _ _ _ h'; omega
    obtain ⟨a, b, c⟩ := key (d + 1) hlt h'
    refine ⟨by omega, b, fun _ => by omega, ?_⟩
    rw [restL, Bool.not_true, Bool.and_false, setInL_step pad hlt, c, extract_step (a := d) (b := i) (by omega) (by omega)]; simp

section
open PySem.Builtin.Re PySem.Builtin

structure PatIs (h : Heap) (P T : Addr) (fs items : Array Value) : Prop where
  pat : ∃ op, h.get? P = some op ∧ op.cls = .type "re.Pattern" ∧ op.dict = none ∧ op.data = .fields fs
  five : fs.getD 5 .none = .ref T
  two : reRawNat (fs.getD 2 .none) = 0
  six : reRawNat (fs.getD 6 .none) = 0
  code : ∃ ot n, h.get? T = some ot ∧ ot.data = .seq items n
  is : (items.map reRawOf).map Int.toNat = pcode

theorem PatIs.keeps {h h' : Heap} {P T : Addr} {fs items : Array Value} (x : PatIs h P T fs items) (hP : ∀ o, h.get? P = some o → h'.get? P = some o) (hT : ∀ o, h.get? T = some o → h'.get? T = some o) : PatIs h' P T fs items :=
  ⟨let ⟨o, a, r⟩ := x.pat; ⟨o, hP o a, r⟩, x.five, x.two, x.six, let ⟨o, n, a, r⟩ := x.code; ⟨o, n, hT o a, r⟩, x.is⟩

def tgt (P : Addr) (x : Str) (u : Tok) : ReTarget := { pattern := .ref P, string := .str x u, code := pcode, text := x.cps, kind := 0, groups := 0, pos := 0, lim := x.cps.size }

section
variable {M : Model} {A : Around} {E : Value → Shared → Prop} {s : Shared}

theorem whole_target {P T : Addr} {fs items : Array Value} {x : Str} {u : Tok} {Q : ReTarget → Shared → Prop} (hP : PatIs s.heap P T fs items) (h : Q (tgt P x u) s) :
    wpAny M A (reWholeTarget (.ref P) (.str x u)) Q E s := by
  obtain ⟨op, ho, _, _, hd⟩ := hP.pat
  obtain ⟨ot, n, hto, htd⟩ := hP.code
  unfold reWholeTarget
  refine wpAny_bind (wpAny_fieldsOf ho hd ?_)
  show wpAny M A ((fun (p : Array Nat × Nat) => _) (x.cps, 0)) Q E s
  simp only [hP.six, hP.five, hP.two]
  show wpAny M A (reRawItems (.ref T) >>= _) Q E s
  refine wpAny_bind ?_
  unfold reRawItems
  refine wpAny_bind (wpAny_seqItems hto htd ?_)
  refine wpAny_pure ?_
  refine wpAny_pure ?_
  show Q { pattern := .ref P, string := .str x u, code := (items.map reRawOf).map (·.toNat), text := x.cps, kind := 0, groups := 0, pos := 0, lim := x.cps.size } s
  rw [hP.is]; exact h

theorem drive {Q : Sre.M → Shared → Prop} : ∀ (k turns : Nat) (m : Sre.M), k < turns → (Sre.M.runFor (4 * (k + 1)) m).outcome.isSome = true → Q (Sre.M.runFor (4 * (k + 1)) m) s → wpAny M A (reDrive turns m) Q E s := by
  intro k
  induction k with
  | zero =>
    intro turns m hk ho hq
    obtain ⟨t, rfl⟩ : ∃ t, turns = t + 1 := ⟨turns - 1, by omega⟩
    show wpAny M A (if (Sre.M.runFor 4 m).outcome.isSome = true then pure (Sre.M.runFor 4 m) else _) Q E s
    rw [if_pos ho]; exact wpAny_pure hq
  | succ k ih =>
    intro turns m hk ho hq
    obtain ⟨t, rfl⟩ : ∃ t, turns = t + 1 := ⟨turns - 1, by omega⟩
    have e : Sre.M.runFor (4 * (k + 1 + 1)) m = Sre.M.runFor (4 * (k + 1)) (Sre.M.runFor 4 m) := by rw [← runFor_add]; congr 1; omega
    rw [e] at ho hq
    show wpAny M A (if (Sre.M.runFor 4 m).outcome.isSome = true then pure (Sre.M.runFor 4 m) else (do rule "sre.turn"; reDrive t (Sre.M.runFor 4 m))) Q E s
    by_cases h1 : (Sre.M.runFor 4 m).outcome.isSome = true
    · rw [if_pos h1]; rw [runFor_done h1] at hq; exact wpAny_pure hq
    · rw [if_neg h1]
      exact wpAny_bind (wpAny_rule (ih t _ (by omega) ho hq))

theorem forIn_quiet {f : Nat → PUnit → Sem (ForInStep PUnit)} (hf : ∀ i (Q' : ForInStep PUnit → Shared → Prop), Q' (.yield ⟨⟩) s → wpAny M A (f i ⟨⟩) Q' E s) {Q : PUnit → Shared → Prop} (h : Q ⟨⟩ s) :
    ∀ l : List Nat, wpAny M A (forIn l PUnit.unit f) Q E s
  | [] => by rw [List.forIn_nil]; exact wpAny_pure h
  | i :: r => by
    rw [List.forIn_cons]
    exact wpAny_bind (hf i _ (forIn_quiet hf h r))

theorem run_to_end {m m' : Sre.M} {k : Nat} {Q : Option Sre.M → Shared → Prop} (hk : k < 2 ^ 60) (hr : Sre.M.runFor k m = m') {o : Option Nat} (hf : Found m' o)
    (h1 : ∀ i, o = some i → Q (some m') s) (h2 : o = none → Q none s) : wpAny M A (reRunToEnd m) Q E s := by
  have ho : m'.outcome.isSome = true := by cases o with | none => rw [show m'.outcome = _ from hf]; rfl | some i => rw [hf.1]; rfl
  have e : Sre.M.runFor (4 * (k + 1)) m = m' := by
    rw [show 4 * (k + 1) = k + (3 * k + 4) by omega, runFor_add, hr, runFor_done ho]
  unfold reRunToEnd
  refine wpAny_bind (drive k _ m (by omega) (by rw [e]; exact ho) ?_)
  rw [e]
  refine wpAny_bind (forIn_quiet ?_ ?_ _)
  · intro i Q' hq
    by_cases hs : m'.seen.has i = true
    · rw [if_pos hs]; exact wpAny_bind (wpAny_rule (wpAny_pure hq))
    · rw [if_neg hs]; exact wpAny_pure hq
  · cases o with
    | none => rw [show m'.outcome = _ from hf]; exact wpAny_pure (h2 rfl)
    | some i => rw [hf.1]; exact wpAny_pure (h1 i rfl)

theorem next_found {P : Addr} {x : Str} {u : Tok} {d : Nat} {mu : Bool} {Q : Option Sre.M → Shared → Prop} (hd : d ≤ x.cps.size) (hz : x.cps.size ≤ 2 ^ 24)
    (h : match nextAt x.cps d mu with | some i => ∀ m : Sre.M, m.start = i → m.handed = i → Q (some m) s | none => Q none s) : wpAny M A (reNextFound (tgt P x u) d mu) Q E s := by
  unfold reNextFound
  obtain ⟨sn, e⟩ := forSearch_is (t := x.cps) (s := d) (mu := mu) hd
  show wpAny M A (reRunToEnd (Sre.forSearch pcode x.cps 0 d x.cps.size mu)) Q E s
  rw [e]
  obtain ⟨k, m', hk, hr, hf⟩ := search_run (t := x.cps) (x.cps.size - d) d true mu sn hd rfl
  change Found m' (nextAt x.cps d mu) at hf
  refine run_to_end (k := k) (by omega) hr hf (fun i hn => ?_) fun hn => ?_
  · rw [hn] at h hf; exact h m' hf.2.1 hf.2.2
  · rw [hn] at h; exact h
end
end

section
open PySem.Builtin.Re PySem.Builtin

def cat (ys : List Str) : List Nat := (ys.map (·.cps.toList)).flatten
theorem cat_append (a b : List Str) : cat (a ++ b) = cat a ++ cat b := by simp [cat]
theorem cat_one (y : Str) : cat [y] = y.cps.toList := by simp [cat]
theorem cat_len : ∀ ys : List Str, (ys.map (·.length)).sum = (cat ys).length
  | [] => rfl
  | y :: r => by
    have := cat_len r
    simp only [cat, List.map_cons, List.sum_cons, List.flatten_cons, List.length_append] at this ⊢
    rw [← this]; rfl

theorem join_cat (sep : Str) (hs : sep.cps = #[]) : ∀ ys : List Str, Txt.join sep ys = ⟨(cat ys).toArray⟩ := by
  intro ys
  have key : ∀ ys : List Str, Str.join sep ys = ⟨(cat ys).toArray⟩ := by
    intro ys
    induction ys with
    | nil => rfl
    | cons y r ih =>
      cases r with
      | nil => simp [Str.join, cat]
      | cons z r' =>
        show (y ++ sep ++ Str.join sep (z :: r')) = _
        rw [ih]
        show (⟨y.cps ++ sep.cps ++ (cat (z :: r')).toArray⟩ : Str) = _
        rw [hs]
        congr 1
        apply Array.ext'
        simp [cat]
  exact (StrLaws.glued_eq_join sep ys).trans (key ys)

def subArgs (P : Addr) (x : Str) (u : Tok) (pad : Str) (v : Tok) (n d : Int) (mu : Bool) (l : Addr) : Args :=
  ⟨[.ref P, .str x u, .str pad v, rawInt 0, rawInt 0, rawInt n, rawInt d, rawInt d, .bool mu, .ref l, .bool false], []⟩

section
variable {prog : Program} {w : World} {A : Around} {E : Value → Shared → Prop} {R : Result → Shared → Prop}

theorem mapSeq_push {acc : Array Value} {c : Nat} {y : Value} : ∃ c', Obj.mapSeq (·.push y) { cls := .type "list", data := .seq acc c } = { cls := .type "list", data := .seq (acc.push y) c' } := ⟨_, rfl⟩

theorem push_one {α : Type} {M : Model} {s : Shared} {l : Addr} {acc : Array Value} {c : Nat} {ys : List Str} {y : Str} {t : Tok} {rest : Sem α} {Q : α → Shared → Prop} (hl : s.heap.get? l = some { cls := .type "list", data := .seq acc c })
    (hys : StrsAre acc.toList ys) (hz : acc.size ≤ 1000000)
    (h : ∀ h' acc' c', h'.get? l = some { cls := .type "list", data := .seq acc' c' } → StrsAre acc'.toList (ys ++ [y]) → acc'.size = acc.size + 1 →
      (∀ b o, b ≠ l → s.heap.get? b = some o → h'.get? b = some o) → wpAny M A rest Q E { s with heap := h' }) :
    wpAny M A (updateSeq l (fun x => x.push (.str y t)) >>= fun _ => rest) Q E s := by
  have hsl : sizeLine = 16777216 := by decide
  refine wpAny_bind (wpAny_updateSeq hl rfl ?_ (by omega) (by rw [Array.size_push]; omega))
  refine h _ (acc.push (.str y t)) _ (Heap.get?_update_self _ hl rfl) ?_ (Array.size_push _) fun b o hb e => (Heap.get?_update_other _ _ (Ne.symm hb)).trans e
  rw [Array.toList_push]
  exact StrsAre.append' hys (.cons _ _ .nil)

theorem piece {α : Type} {M : Model} {s : Shared} {l : Addr} {acc : Array Value} {c : Nat} {ys : List Str} {x : Str} {d e : Nat} {rest : Sem α} {Q : α → Shared → Prop} (hl : s.heap.get? l = some { cls := .type "list", data := .seq acc c })
    (hys : StrsAre acc.toList ys) (hz : acc.size ≤ 1000000) (hx : x.cps.size ≤ 100000)
    (h : ∀ h' tk acc' c' ys', h'.get? l = some { cls := .type "list", data := .seq acc' c' } → StrsAre acc'.toList ys' → cat ys' = cat ys ++ (x.cps.extract d e).toList → acc'.size ≤ acc.size + 1 →
      (∀ b o, b ≠ l → s.heap.get? b = some o → h'.get? b = some o) → wpAny M A rest Q E { s with heap := h', toks := tk }) :
    wpAny M A (if d < e then (do let p ← reSlice x.cps 0 d e; updateSeq l (fun x => x.push p); rest) else rest) Q E s := by
  by_cases hde : d < e
  · rw [if_pos hde]
    have hsl : sizeLine = 16777216 := by decide
    refine wpAny_bind (wpAny_mkStr ?_ (by show (x.cps.extract d e).size ≤ _; rw [Array.size_extract]; omega))
    refine push_one (s := { s with toks := s.toks + 1 }) hl hys hz fun h' acc' c' h1 h2 h3 h4 => ?_
    exact h h' _ acc' c' _ h1 h2 (by rw [cat_append, cat_one]) (by omega) h4
  · rw [if_neg hde]
    exact h s.heap s.toks acc c ys hl hys (by rw [Array.toList_extract]; simp [List.extract, Nat.sub_eq_zero_of_le (Nat.le_of_not_lt hde)]) (by omega) fun _ _ _ e => e

theorem join_end {s : Shared} {l : Addr} {acc : Array Value} {c : Nat} {ys : List Str} {x : Str} {n : Int} (hl : s.heap.get? l = some { cls := .type "list", data := .seq acc c })
    (hys : StrsAre acc.toList ys) (hW : (cat ys).length ≤ 16777216)
    (h : ∀ t' tk, R (.ok (.ret (.str ⟨(cat ys).toArray⟩ t'))) { s with toks := tk }) :
    wpAny (model prog w) A.in1 (do
      let joiner ← reSlice x.cps 0 0 0
      let q ← seqItems? (Value.ref l)
      if (q.getD #[]).isEmpty = true then do
          let text ← pure joiner
          if false = true then do
              let r ← holding [text] do
                    let k ← mkInt n
                    newTuple [text, k]
              ret r
            else ret text
        else do
          let text ← call (Value.builtin (if ((0 : Nat) == 0) = true then "str.join" else "bytes.join")) [joiner, Value.ref l]
          if false = true then do
              let r ← holding [text] do
                    let k ← mkInt n
                    newTuple [text, k]
              ret r
            else ret text)
    (fun fin s' => match fin with | .done f => R (.ok f) s' | .again c' => c'.quiet = true ∧ codeAny (model prog w) A c' R s') (fun e s' => R (.error e) s') s := by
  have hemp : (⟨x.cps.extract 0 0⟩ : Str).cps = #[] := by simp
  refine wpAny_bind (wpAny_mkStr ?_ (by show (x.cps.extract 0 0).size ≤ _; simp))
  refine wpAny_bind (wpAny_seqItems hl rfl ?_)
  show wpAny _ _ (if acc.isEmpty = true then _ else _) _ _ _
  by_cases he : acc.isEmpty = true
  · rw [if_pos he]
    have hnil : acc.toList = [] := by simpa using he
    rw [hnil] at hys
    cases hys
    refine wpAny_bind (wpAny_pure ?_)
    refine wpAny_pure ?_
    have := h s.toks (s.toks + 1)
    have e0 : (⟨x.cps.extract 0 0⟩ : Str) = ⟨(cat []).toArray⟩ := by simp [cat]
    rw [← e0] at this
    exact this
  · rw [if_neg he]
    refine wpAny_bind (join_list (s := { s with toks := s.toks + 1 }) (D := l) (items := acc) (ys := ys) ⟨_, hl, rfl, _, rfl⟩ hys ?_ fun t' k => ?_)
    · rw [cat_len]
      show _ + ys.length * (x.cps.extract 0 0).size ≤ _
      simpa using hW
    · rw [join_cat _ hemp]
      exact wpAny_pure (h t' k)

theorem sub_loop {P T l : Addr} {fs items : Array Value} {x pad : Str} {u v : Tok} {W : List Nat} (hPl : P ≠ l) (hTl : T ≠ l) (hz : x.cps.size ≤ 100000) (hW : W.length ≤ 16777216) :
    ∀ (k d : Nat) (mu : Bool) (n : Int) (s : Shared) (acc : Array Value) (c : Nat) (ys : List Str), 2 * (x.cps.size - d) + (if mu then 0 else 1) = k → d ≤ x.cps.size → PatIs s.heap P T fs items →
      s.heap.get? l = some { cls := .type "list", data := .seq acc c } → StrsAre acc.toList ys → acc.size ≤ 2 * d + (if mu then 2 else 0) → cat ys ++ restL pad.cps.toList x.cps d mu = W →
      (∀ t' h' tk, (∀ b o, b ≠ l → s.heap.get? b = some o → h'.get? b = some o) → R (.ok (.ret (.str ⟨W.toArray⟩ t'))) { s with heap := h', toks := tk }) →
      codeAny (model prog w) A (.builtin "re.Pattern.sub.loop" (subArgs P x u pad v n d mu l)) R s := by
  intro k
  induction k using Nat.strongRecOn with
  | ind k ih =>
    intro d mu n s acc c ys hk hd hP hl hys hacc hcat hR
    have hmu2 : (if mu = true then 2 else 0) ≤ 2 := by split <;> omega
    refine codeAny_builtin entry_sub_loop ?_
    rw [Around.under_plainId plain_sub_loop _]
    show wpAny _ A.in1 (reWholeTarget (.ref P) (.str x u) >>= _) _ _ s
    refine wpAny_bind (whole_target hP ?_)
    show wpAny _ A.in1 (reNextFound (tgt P x u) (Int.toNat (d : Int)) mu >>= _) _ _ s
    rw [Int.toNat_natCast]
    refine wpAny_bind (next_found hd (by omega) ?_)
    cases hn : nextAt x.cps d mu with
    | none =>
      refine piece (x := x) (d := d) (e := x.cps.size) hl hys (by omega) hz fun h' tk acc' c' ys' h1 h2 h3 h4 h5 => ?_
      have hW' : cat ys' = W := by rw [h3, ← hcat, rest_end _ hd hn]
      refine join_end (s := { s with heap := h', toks := tk }) h1 h2 (by rw [hW']; exact hW) fun t' tk' => ?_
      rw [hW']
      exact hR t' h' tk' h5
    | some i =>
      intro m hm1 hm2
      obtain ⟨hdi, hi, hlt, hrest⟩ := rest_next pad.cps.toList hn hd
      subst hm1
      refine piece (x := x) (d := d) (e := m.start) hl hys (by omega) hz fun h' tk acc' c' ys' h1 h2 h3 h4 h5 => ?_
      refine push_one (s := { s with heap := h', toks := tk }) h1 h2 (by omega) fun h'' acc'' c'' k1 k2 k3 k4 => ?_
      refine wpAny_pure ⟨plainId_quiet plain_sub_loop _, ?_⟩
      show codeAny _ A (.builtin "re.Pattern.sub.loop" (subArgs P x u pad v (n + 1) (m.handed : Int) (m.handed == m.start) l)) R _
      rw [hm2, beq_self_eq_true]
      refine ih (2 * (x.cps.size - m.start) + (if true = true then 0 else 1)) ?_ m.start true (n + 1) _ acc'' c'' _ rfl (by omega) ?_ k1 k2 ?_ ?_ fun t' h3 tk' h6 => ?_
      · rw [← hk]; cases mu with
        | true => have := hlt rfl; simp; omega
        | false => simp; omega
      · exact hP.keeps (fun o e => k4 _ _ hPl (h5 _ _ hPl e)) (fun o e => k4 _ _ hTl (h5 _ _ hTl e))
      · rw [if_pos rfl]
        cases mu with
        | true => have := hlt rfl; simp at hacc; omega
        | false => simp at hacc; omega
      · rw [cat_append, cat_one, h3, ← hcat, hrest]; simp
      · exact hR t' h3 tk' fun b o hb e => h6 b o hb (k4 b o hb (h5 b o hb e))
end
end

section
open PySem.Builtin.Re PySem.Builtin

def setIn (pad : Str) (x : Str) : Str := ⟨(setInL pad.cps.toList true x.cps.toList).toArray⟩

theorem named_sub (a b : Value) : reNamed "re.Pattern.sub" "sub" ["repl", "string", "count"] 2 [a, b] [] = pure [some a, some b, none] := by
  unfold reNamed
  rfl
section
variable {prog : Program} {w : World} {A : Around} {E : Value → Shared → Prop} {s : Shared} {Q : Value → Shared → Prop}

theorem sub_call {P T : Addr} {fs items : Array Value} {x pad : Str} {u v : Tok} (hP : PatIs s.heap P T fs items) (hz : x.cps.size ≤ 100000) (hp : pad.cps.size ≤ 100) (h92 : pad.cps.contains 92 = false)
    (h : ∀ t' h' tk, (∀ b o, s.heap.get? b = some o → h'.get? b = some o) → Q (.str (setIn pad x) t') { s with heap := h', toks := tk }) :
    wpAny (model prog w) A (call (.builtin "re.Pattern.sub") [.ref P, .str pad v, .str x u]) Q E s := by
  obtain ⟨op, hop, hcls, _, _⟩ := hP.pat
  obtain ⟨ot, _, hot, _⟩ := hP.code
  refine wpAny_call (codeAny_call_builtin slot_sub.plain entry_sub (slot_sub.check _ _ _ _ _ _ _ _ ⟨op, hop, hcls⟩ (args_sub_3 _ _ _) ?_))
  show wpAny _ A.in1 (reSubstitute "re.Pattern.sub" "sub" false ⟨[.ref P, .str pad v, .str x u], []⟩) _ _ s
  unfold reSubstitute
  refine wpAny_bind (wpAny_of_eq (named_sub _ _) ?_)
  refine wpAny_bind (wpAny_pure ?_)
  refine wpAny_bind (wpAny_specialOf (typeIs_str _ _ _) str_no_call ?_)
  refine wpAny_bind (wpAny_pure ?_)
  refine wpAny_bind (wpAny_pure ?_)
  dsimp only
  rw [h92]
  refine wpAny_bind (wpAny_pure ?_)
  refine wpAny_bind (wpAny_holding (whole_target hP ?_))
  show wpAny _ A.in1 (newList [] >>= _) _ _ s
  refine wpAny_bind (wpAny_newList ?_)
  refine wpAny_pure ⟨plainId_quiet plain_sub_loop _, ?_⟩
  have hlen : (setInL pad.cps.toList true x.cps.toList).length ≤ 16777216 := by
    refine Nat.le_trans (setInL_len _ _ _) ?_
    have h1 : x.cps.toList.length ≤ 100000 := by simpa using hz
    have h2 : pad.cps.toList.length + 1 ≤ 101 := by simp; omega
    exact Nat.le_trans (Nat.mul_le_mul h1 h2) (by omega)
  refine sub_loop (T := T) (fs := fs) (items := items) (l := s.heap.objs.size) (W := setInL pad.cps.toList true x.cps.toList) (fun e => ?_) (fun e => ?_) hz hlen _ 0 false 0 _ #[] 0 [] rfl (Nat.zero_le _)
    (hP.keeps (fun o e => Heap.get?_push_of_some _ e) (fun o e => Heap.get?_push_of_some _ e)) (Heap.get?_push_size _ rfl) .nil (Nat.zero_le _) ?_ fun t' h' tk hk => ?_
  · exact absurd (Heap.lt_size hop) (by rw [e]; exact Nat.lt_irrefl _)
  · exact absurd (Heap.lt_size hot) (by rw [e]; exact Nat.lt_irrefl _)
  · simp [cat, restL, bol]
  · exact h t' h' tk fun b o e => hk b o (fun e2 => absurd (Heap.lt_size e) (by rw [e2]; exact Nat.lt_irrefl _)) (Heap.get?_push_of_some _ e)
end
end

noncomputable abbrev LOOSE : List Str := looseW hd.view_39 [Str.ofString "_twin_re_1", Str.ofString "_indent"]

def cline (x : Str) : Str := if (Txt.rstrip x).length = 0 then Str.ofString "#" else Str.ofString "# " ++ Txt.rstrip x

theorem cline_call (w : World) (mean : ExcName → Option Value) (mg mb : Str → Option Value) (news : List (Addr × Obj)) (x : Str) (t : Tok) :
    CbClaim Challenge.rw_mj0003_01.row.prog w (hd.heap_39 w.params) hd.view_39 LOOSE mean mg mb 51 news [] (x.length ≤ 1000) [.str x t] (fun t => .str (cline x) t) := by
  w_top off
  k_with_none
  k_fill
  dsimp only [CbClaim, CbLists, CbRet]
  intros
  rename_i hret
  refine wpAny_call ?_
  k_dflt cell_enter
  k_steps
  all_goals (refine' cb_retS hret ?e1 ?e2 ?e3; (case e2 => k_asm); (case e3 => k_asm); (case e1 => (unfold cline; split <;> first | rfl | omega)))

def blanks (k : Int) : Str := ⟨Array.replicate k.toNat 32⟩

section
variable {prog : Program} {w : World} {A : Around} {E : Value → Shared → Prop} {s : Shared} {x : Str} {t u : Tok} {Q : Value → Shared → Prop}
theorem imul_str {n : Int} (hok : MulOk x n) (h : ∀ t' k, Q (.str (Txt.mul x n) t') { s with toks := k }) : wpAny (model prog w) A (binaryOp .Mult (.int n u) (.str x t)) Q E s := by
  refine lm_binaryOp_repeat_right (T := "str") (U := "int") (by decide) (fun s' => typeIs_int s' n u) (typeIs_str s x t) F.fills_int_mul noFill_str_mul F.slot_int_mul lm_noRepeat_int repeat_str F.slot_int_index.lookup
    (call_gives F.slot_int_mul (typeIs_int s n u) F.entry_int_mul (F.args_int_mul_2 _ _) (AutoIntG3.int___mul___int_str_0 n u x t)
      ⟨rfl, typeIs_str s x t, call_gives F.slot_str_mul (typeIs_str s x t) F.entry_str_mul (F.args_str_mul_2 _ _) (gives_str_mul x n t u hok.1 hok.2.1 hok.2.2) ?_⟩)
  unfold Txt.mul at h
  by_cases h1 : n < 1
  · rw [if_pos h1]; have h' := h s.toks (s.toks + 1); rw [if_pos h1] at h'; exact ⟨by decide, h'⟩
  · rw [if_neg h1]; refine post_val_or_made (fun hc => fits_reps (hok.2.2 h1 (by simpa using hc))) fun t' k => ?_
    have h' := h t' k; rw [if_neg h1] at h'; exact h'
end

theorem pat_K {w : World} {h : Heap} (X : (hd.heap_39 w.params).In h) : PatIs h 36 35
    #[.str (Str.ofString "(?m)^(?!$)") 285, .int 40 302, .int 0 0, .none, .none, .ref 35, .int 0 0]
    #[.int 14 0, .int 4 0, .int 0 0, .int 0 0, .int 0 0, .int 6 0, .int 1 0, .int 5 0, .int 5 0, .int 0 0, .int 6 0, .int 6 0, .int 1 0, .int 1 0] :=
  ⟨⟨_, X 36 _ rfl, rfl, rfl, rfl⟩, rfl, rfl, rfl, ⟨_, _, X 35 _ rfl, rfl⟩, by decide +kernel⟩

theorem pat_method {M : Model} {A : Around} {E : Value → Shared → Prop} {s : Shared} {w : World} {pl : Sem Bool} {Q : Value × List Value → Shared → Prop} {h₀ : Heap} {L : Addr} {m : Str → Option Value}
    (X : (hd.heap_39 w.params).In h₀) (F : Fr h₀ L s.heap m) (h : Q (.builtin "re.Pattern.sub", [.ref 36]) s) : wpAny M A (getMethod (.ref 36) (Str.ofString "sub") pl) Q E s := by
  obtain ⟨op, ho, hc, hd, _⟩ := (pat_K (X.keeps F.keep)).pat
  exact getMethod_builtin (T := "re.Pattern") ⟨op, ho, hc⟩ plainAttrs_pat slot_sub type_sub (fun a e => by cases e; exact ⟨op, ho, hd⟩) h

local macro_rules | `(tactic| walk_at "getMethod ref") => `(tactic| (k_here; (with_reducible show wpAny _ _ (getMethod (Value.ref 36) _ _) _ _ _); (k_dflt (refine' pat_method ?k1 ?k2 ?_; (case k1 => k_asm); (case k2 => k_asm))); k_whole))

theorem ofString_blank : Str.ofString " " = ⟨#[32]⟩ := by decide +kernel
theorem foldl_blank : ∀ (n : Nat) (acc : Array Nat), (List.replicate n (#[32] : Array Nat)).foldl (· ++ ·) acc = acc ++ Array.replicate n 32
  | 0, acc => by simp
  | n + 1, acc => by
    rw [List.replicate_succ, List.foldl_cons, foldl_blank n]
    apply Array.ext'
    simp [List.replicate_succ]
theorem mul_blank (k : Int) : Txt.mul (Str.ofString " ") k = blanks k := by
  rw [ofString_blank]
  unfold Txt.mul blanks
  by_cases h1 : k < 1
  · rw [if_pos h1, show k.toNat = 0 by omega]; rfl
  · rw [if_neg h1]
    by_cases h2 : k = 1
    · subst h2; rfl
    · have : (k == 1 || Str.length ⟨#[32]⟩ == 0) = false := by simp [h2, Str.length]
      rw [this]
      simp only [Bool.false_eq_true, if_false]
      rw [foldl_blank]; simp

theorem blanks_len (k : Int) : (blanks k).cps.size = k.toNat := by simp [blanks]
theorem blanks_no92 (k : Int) : (blanks k).cps.contains 92 = false := by
  unfold blanks
  rw [Bool.eq_false_iff]
  intro h
  rw [Array.contains_iff_mem] at h
  have := Array.mem_replicate.mp h
  omega

theorem sub_K {w : World} {A : Around} {E : Value → Shared → Prop} {s : Shared} {Q : Value → Shared → Prop} {prog : Program} {h₀ : Heap} {L : Addr} {m : Str → Option Value} {news : List (Addr × Obj)} {x : Str} {k : Int} {u v : Tok}
    (X : (hd.heap_39 w.params).In h₀) (F : Fr h₀ L s.heap m) (N : News h₀ L s.heap news) (hz : x.length ≤ 100000) (hk : k ≤ 100)
    (h : ∀ t' h' tk, Fr h₀ L h' m → News h₀ L h' news → Q (.str (setIn (blanks k) x) t') { s with heap := h', toks := tk }) :
    wpAny (model prog w) A (call (.builtin "re.Pattern.sub") [.ref 36, .str (Txt.mul (Str.ofString " ") k) v, .str x u]) Q E s := by
  rw [mul_blank]
  exact sub_call (pat_K (X.keeps F.keep)) hz (by rw [blanks_len]; omega) (blanks_no92 k) fun t' h' tk hk' => h t' h' tk (F.grownK hk') (N.grown hk')

local macro_rules | `(tactic| walk_at "binaryOp Mult int str") => `(tactic| (k_here; (with_reducible show wpAny _ _ (binaryOp Operator.Mult (Value.int _ _) (Value.str _ _)) _ _ _); (refine imul_str (mulOk_of 16 100 (by decide) (by omega) (by omega) (by decide) (by decide)) ?_); intro _ _))
local macro_rules | `(tactic| walk_at "call builtin:re.Pattern.sub") => `(tactic| (k_here; (k_dflt (refine' sub_K ?k1 ?k2 ?k3 ?k4 ?k5 ?_; (case k1 => k_asm); (case k2 => k_asm); (case k3 => k_asm); (case k4 => omega); (case k5 => omega); k_whole)); intro _ h' _ F' N'))

theorem indent_call (w : World) (mean : ExcName → Option Value) (mg mb : Str → Option Value) (news : List (Addr × Obj)) (x : Str) (t : Tok) (k : Int) (u : Tok) :
    CbClaim Challenge.rw_mj0003_01.row.prog w (hd.heap_39 w.params) hd.view_39 LOOSE mean mg mb 44 news [] (x.length ≤ 100000 ∧ -8 ≤ k ∧ k ≤ 100) [.str x t, .int k u] (fun t => .str (setIn (blanks k) x) t) := by
  w_top off
  k_with_none
  k_fill
  dsimp only [CbClaim, CbLists, CbRet]
  intros
  rename_i hret
  refine wpAny_call ?_
  k_dflt (refine' code_def ?k1 ?k2 ?k3 ?k4 ?k5 ?kA ?kF ?kK ?k6 ?k7 ?k8 ?k9 ?kB ?_ ?c2 ?c3 ?c4 ?c5; (case kA => exact rfl); (case kF => exact rfl); (case kK => assumption); (case k1 => k_asm); (case k2 => k_asm); (case k3 => k_asm); (case k4 => k_asm); (case k5 => k_asm); (case k6 => k_is); (case k7 => k_is); (case k8 => ktr_room); (case k9 => exact binds_K (by k_in) rfl (by k_is) rfl rfl rfl); (case c5 => decide); (case kB => exact locs rfl); (case c2 => exact rfl); (case c3 => exact rfl); (case c4 => exact rfl); k_whole; intro g' L' h' FG' F' N' B' X' T'; (try dsimp only); (try k_lift B'); (try k_fold))
  k_steps
  all_goals (refine' cb_retS hret ?e1 ?e2 ?e3; (case e2 => k_asm); (case e3 => k_asm); (case e1 => rfl))
theorem indent_call1 (w : World) (mean : ExcName → Option Value) (mg mb : Str → Option Value) (news : List (Addr × Obj)) (x : Str) (t : Tok) :
    CbClaim Challenge.rw_mj0003_01.row.prog w (hd.heap_39 w.params) hd.view_39 LOOSE mean mg mb 44 news [] (x.length ≤ 100000) [.str x t] (fun t => .str (setIn (blanks 4) x) t) := by
  w_top off
  k_with_none
  k_fill
  dsimp only [CbClaim, CbLists, CbRet]
  intros
  rename_i hret
  refine wpAny_call ?_
  k_dflt (refine' code_def ?k1 ?k2 ?k3 ?k4 ?k5 ?kA ?kF ?kK ?k6 ?k7 ?k8 ?k9 ?kB ?_ ?c2 ?c3 ?c4 ?c5; (case kA => exact rfl); (case kF => exact rfl); (case kK => assumption); (case k1 => k_asm); (case k2 => k_asm); (case k3 => k_asm); (case k4 => k_asm); (case k5 => k_asm); (case k6 => k_is); (case k7 => k_is); (case k8 => ktr_room); (case k9 => exact binds_K (by k_in) rfl (by k_is) rfl rfl rfl); (case c5 => decide); (case kB => exact locs rfl); (case c2 => exact rfl); (case c3 => exact rfl); (case c4 => exact rfl); k_whole; intro g' L' h' FG' F' N' B' X' T'; (try dsimp only); (try k_lift B'); (try k_fold))
  k_steps
  all_goals (refine' cb_retS hret ?e1 ?e2 ?e3; (case e2 => k_asm); (case e3 => k_asm); (case e1 => rfl))

def freshOf (pre : List Int) : Bool := match pre.getLast? with | none => true | some c => c == 10
def toldOf (k : Int) (pre : List Int) : Str := ⟨(setInL (List.replicate k.toNat 32) true (pre.map Int.toNat)).toArray⟩
def ToldP (k : Int) (pre : List Int) (told : Str) (fresh : Bool) : Prop := told = toldOf k pre ∧ fresh = freshOf pre ∧ told.length ≤ 101 * pre.length

theorem mul_len_blank (k : Int) : (Txt.mul (Str.ofString " ") k).length = k.toNat := by rw [mul_blank]; exact blanks_len k
theorem len_one (n : Nat) : Str.length ⟨#[n]⟩ = 1 := rfl
theorem told_small {k : Int} {pre post : List Int} {n : Nat} {told x : Str} {fresh : Bool} (h : ToldP k pre told fresh) (e : KStt.codes x = pre ++ (n : Int) :: post) (hx : x.length ≤ 1000 ∧ 0 ≤ k ∧ k ≤ 100) : told.length ≤ 101000 := by
  have h1 := KStt.codes_length x
  rw [e, List.length_append, List.length_cons] at h1
  have := h.2.2
  omega

local macro_rules | `(tactic| walk_at "binaryOp Add str str") => `(tactic| (k_here; (with_reducible show wpAny _ _ (binaryOp Operator.Add (Value.str _ _) (Value.str _ _)) _ _ _); (refine' add_str ?_ ?sz; (case sz => (have hb9 := told_small (by assumption) (by assumption) (by assumption)); (simp only [Str.length_append, mul_len_blank, len_one]); (rw [sizeLine_eq]); omega)); (intro _ _)))

theorem setInL_snoc (pad : List Nat) (c : Nat) : ∀ (l : List Nat) (f : Bool), setInL pad f (l ++ [c]) = setInL pad f l ++ ((if ((match l.getLast? with | none => f | some d => d == 10) && c != 10) = true then pad else []) ++ [c])
  | [], f => by simp [setInL]
  | d :: r, f => by
    have ih := setInL_snoc pad c r (d == 10)
    rw [List.cons_append, setInL, ih, setInL]
    cases r with
    | nil => simp
    | cons e r' =>
      obtain ⟨z, hz⟩ : ∃ z, (e :: r').getLast? = some z := ⟨_, List.getLast?_eq_some_getLast (by simp)⟩
      rw [List.getLast?_cons_cons, hz]
      simp

theorem freshOf_nat (pre : List Int) (hn : ∀ c ∈ pre, 0 ≤ c) : freshOf pre = (match (pre.map Int.toNat).getLast? with | none => true | some d => d == 10) := by
  unfold freshOf
  rw [List.getLast?_map]
  cases h : pre.getLast? with
  | none => rfl
  | some c =>
    have hc := hn c (List.mem_of_getLast? h)
    show (c == 10) = (c.toNat == 10)
    rw [Bool.eq_iff_iff, beq_iff_eq, beq_iff_eq]; omega

theorem told_start {k : Int} : ToldP k [] (Str.ofString "") true := ⟨(by decide +kernel : Str.ofString "" = ⟨#[]⟩), rfl, by decide +kernel⟩

theorem nl_eq (n : Nat) : ((⟨#[n]⟩ : Str) == Str.ofString "\n") = (n == 10) := by
  rw [show Str.ofString "\n" = ⟨#[10]⟩ by decide +kernel, Bool.eq_iff_iff, beq_iff_eq, beq_iff_eq, Str.mk.injEq]
  constructor
  · intro h; simpa using h
  · intro h; rw [h]

theorem told_step {k : Int} {pre post : List Int} {n : Nat} {told x : Str} {fresh : Bool} (h : ToldP k pre told fresh) (e : KStt.codes x = pre ++ (n : Int) :: post) (hx : x.length ≤ 1000 ∧ 0 ≤ k ∧ k ≤ 100) :
    ToldP k (pre ++ [(n : Int)]) (told ++ (if (fresh && n != 10) = true then Txt.mul (Str.ofString " ") k else Str.empty) ++ ⟨#[n]⟩) ((⟨#[n]⟩ : Str) == Str.ofString "\n") := by
  obtain ⟨h1, h2, h3⟩ := h
  have hnn : ∀ c ∈ pre, (0 : Int) ≤ c := by
    intro c hc
    have : c ∈ KStt.codes x := by rw [e]; exact List.mem_append_left _ hc
    simp only [KStt.codes, List.mem_map] at this
    obtain ⟨d, _, rfl⟩ := this
    exact Int.natCast_nonneg d
  refine ⟨?_, ?_, ?_⟩
  · rw [h1, toldOf, toldOf, List.map_append]
    show _ = (⟨(setInL _ true (pre.map Int.toNat ++ [((n : Int)).toNat])).toArray⟩ : Str)
    rw [setInL_snoc, ← freshOf_nat pre hnn, ← h2, Int.toNat_natCast]
    by_cases hc : (fresh && n != 10) = true
    · rw [if_pos hc, if_pos hc, mul_blank]
      show (⟨_ ++ _ ++ _⟩ : Str) = _
      congr 1; apply Array.ext'; simp [blanks]
    · rw [if_neg hc, if_neg hc]
      show (⟨_ ++ _ ++ _⟩ : Str) = _
      congr 1; apply Array.ext'; simp [Str.empty]
  · rw [nl_eq, freshOf, List.getLast?_append]
    simp only [List.getLast?_singleton, Option.some_or]
    rw [Bool.eq_iff_iff, beq_iff_eq, beq_iff_eq]; omega
  · rw [Str.length_append, Str.length_append, len_one, List.length_append, List.length_singleton]
    have : (if (fresh && n != 10) = true then Txt.mul (Str.ofString " ") k else Str.empty).length ≤ 100 := by
      split
      · rw [mul_len_blank]; omega
      · exact Nat.zero_le _
    omega

theorem append_empty (x : Str) : x ++ Str.empty = x := by
  show (⟨x.cps ++ #[]⟩ : Str) = x
  simp

theorem told_pad {k : Int} {pre post : List Int} {n : Nat} {told x : Str} {fresh : Bool} (h : ToldP k pre told fresh) (e : KStt.codes x = pre ++ (n : Int) :: post) (hx : x.length ≤ 1000 ∧ 0 ≤ k ∧ k ≤ 100)
    (hf : fresh = true) (hn : ((⟨#[n]⟩ : Str) != Str.ofString "\n") = true) : ToldP k (pre ++ [(n : Int)]) (told ++ Txt.mul (Str.ofString " ") k ++ ⟨#[n]⟩) ((⟨#[n]⟩ : Str) == Str.ofString "\n") := by
  have := told_step h e hx
  rw [bne, nl_eq] at hn
  have hc : (fresh && n != 10) = true := by rw [hf]; simpa using hn
  rwa [if_pos hc] at this
theorem told_plain {k : Int} {pre post : List Int} {n : Nat} {told x : Str} {fresh : Bool} (h : ToldP k pre told fresh) (e : KStt.codes x = pre ++ (n : Int) :: post) (hx : x.length ≤ 1000 ∧ 0 ≤ k ∧ k ≤ 100)
    (hf : fresh = false ∨ ((⟨#[n]⟩ : Str) != Str.ofString "\n") = false) : ToldP k (pre ++ [(n : Int)]) (told ++ ⟨#[n]⟩) ((⟨#[n]⟩ : Str) == Str.ofString "\n") := by
  have := told_step h e hx
  rw [bne, nl_eq n] at hf
  have hc : ¬ (fresh && n != 10) = true := by
    rcases hf with hf | hf
    · rw [hf]; simp
    · have : n = 10 := by simpa using hf
      simp [this]
  rwa [if_neg hc, append_empty] at this

theorem told_end {k : Int} {x told : Str} {fresh : Bool} (h : ToldP k (KStt.codes x) told fresh) : told = setIn (blanks k) x := by
  rw [h.1, toldOf, setIn]
  congr 2
  have e : (KStt.codes x).map Int.toNat = x.cps.toList := by
    unfold KStt.codes
    rw [List.map_map]
    exact (List.map_congr_left (g := _root_.id) fun c _ => Int.toNat_natCast c).trans (List.map_id _)
  rw [e]; simp [blanks]

local macro_rules | `(tactic| walk_at "InvEndN") => `(tactic| k_dflt kst_close)

theorem setin_call (w : World) (mean : ExcName → Option Value) (mg mb : Str → Option Value) (news : List (Addr × Obj)) (x : Str) (t : Tok) (k : Int) (u : Tok) :
    CbClaim Challenge.rw_mj0003_01.row.prog w (hd.heap_39 w.params) hd.view_39 LOOSE mean mg mb 72 news [] (x.length ≤ 1000 ∧ 0 ≤ k ∧ k ≤ 100) [.str x t, .int k u] (fun t => .str (setIn (blanks k) x) t) := by
  w_top off
  k_with_none
  k_fill
  dsimp only [CbClaim, CbLists, CbRet]
  intros
  rename_i hret
  refine wpAny_call ?_
  k_dflt cell_enter
  k_with "pyIter str" => k_state (fun pre told fresh => ToldP k pre told fresh) "told" "fresh"
  k_with "state" => first | exact told_start | exact told_pad (by assumption) (by assumption) (by assumption) (by assumption) (by assumption) | exact told_plain (by assumption) (by assumption) (by assumption) (.inl (by assumption)) | exact told_plain (by assumption) (by assumption) (by assumption) (.inr (by assumption))
  k_steps
  all_goals (refine' cb_retS hret ?e1 ?e2 ?e3; (case e2 => k_asm); (case e3 => k_asm); (case e1 => exact told_end (by assumption)))

def whitesL : List Int := [9, 10, 11, 12, 13, 28, 29, 30, 31, 32, 133, 160, 5760, 8192, 8193, 8194, 8195, 8196, 8197, 8198, 8199, 8200, 8201, 8202, 8232, 8233, 8239, 8287, 12288]

theorem whites_call (w : World) (mean : ExcName → Option Value) (mg mb : Str → Option Value) (news : List (Addr × Obj)) :
  ∀ (dp un : Nat) (gd : Option (List Code)) (cn : Str) (cs : Scope) (a : Addr) (ccd : Value) (cl : List (Str × Addr)) (outer : List Env) (A₀ : Around) (base h₀ : Heap) (L : Addr) (m : Str → Option Value) (s : Shared) (Q E : Value → Shared → Prop),
    Below A₀ base outer h₀ → Fr h₀ L s.heap m → (hd.heap_39 w.params).In h₀ → News h₀ L s.heap news → Top hd.view_39 LOOSE mean mg mb h₀ → cs.kind = .function →
    dp + 1 < recursionLimit → un + 8 < cLine →
    (∀ (D : Addr) (vs : List Value) (h' : Heap) (tk' : Nat), Fr h₀ L h' m → News h₀ L h' ((D, W.listOf vs.toArray 0) :: news) → IntsAre vs whitesL → Q (.ref D) { s with heap := h', toks := tk' }) →
      wpAny (model Challenge.rw_mj0003_01.row.prog w) (ktrTop dp un gd cn cs L a ccd cl outer) (call (.ref 58) []) Q E s := by
  w_top off
  k_with_none
  k_fill
  intros
  rename_i hret
  refine wpAny_call ?_
  k_dflt cell_enter
  k_steps
  (rename CarriedAll _ _ => hc'; have hj' := IntsAre.ofCarried hc'; clear hc')
  k_steps
  rename IntsAre _ (_ ++ _ ++ _) => hI
  rename News _ _ _ _ => hN
  refine hret _ _ _ _ (by k_asm) (fun p hp => hN p ?_) hI
  rcases List.mem_cons.mp hp with e | e
  · rw [e]; exact .head _
  · exact .tail _ (.tail _ (.tail _ (.tail _ e)))

def menuS : List Str := [Str.ofString "\n", Str.ofString "a", Str.ofString " ", Str.ofString "#", Str.ofString "\n\n", Str.ofString "\t", Str.ofString "\r", Str.ofString "\n ", Str.ofString "b\n"]
def menuC : List Int := [8203, 65279, 6158, 27, 14, 8288]
def signF (x : Int) : Str :=
  if x.fmod 12 < 9 then menuS.getD (x.fmod 12).toNat Str.empty
  else if x.fmod 12 = 9 then ⟨#[(whitesL.getD ((x.fdiv 12).fmod 29).toNat 0).toNat]⟩
  else if x.fmod 12 = 10 then ⟨#[(menuC.getD ((x.fdiv 12).fmod 6).toNat 0).toNat]⟩
  else if (x.fdiv 12).fmod 63488 ≥ 55296 then ⟨#[((x.fdiv 12).fmod 63488 + 2048).toNat]⟩
  else ⟨#[((x.fdiv 12).fmod 63488).toNat]⟩

theorem menuC_lo (i : Nat) : 0 ≤ menuC.getD i 0 ∧ menuC.getD i 0 ≤ 1114111 := by
  unfold menuC
  match i with
  | 0 | 1 | 2 | 3 | 4 | 5 => decide
  | n + 6 => simp
theorem whitesL_lo (i : Nat) : 0 ≤ whitesL.getD i 0 ∧ whitesL.getD i 0 ≤ 1114111 := by
  by_cases h : i < 29
  · have : ∀ j : Fin 29, 0 ≤ whitesL.getD j.1 0 ∧ whitesL.getD j.1 0 ≤ 1114111 := by decide +kernel
    exact this ⟨i, h⟩
  · have e : whitesL[i]? = none := List.getElem?_eq_none (by show 29 ≤ i; omega)
    rw [List.getD_eq_getElem?_getD, e]; decide

def SignClaim (w : World) (mean : ExcName → Option Value) (mg mb : Str → Option Value) (news : List (Addr × Obj)) (x : Int) (t : Tok) : Prop :=
  ∀ (dp un : Nat) (gd : Option (List Code)) (cn : Str) (cs : Scope) (a : Addr) (ccd : Value) (cl : List (Str × Addr)) (outer : List Env) (A₀ : Around) (base h₀ : Heap) (L : Addr) (m : Str → Option Value) (s : Shared) (Q E : Value → Shared → Prop),
    Below A₀ base outer h₀ → Fr h₀ L s.heap m → (hd.heap_39 w.params).In h₀ → News h₀ L s.heap news → Top hd.view_39 LOOSE mean mg mb h₀ → cs.kind = .function → 0 ≤ x ∧ x < 9142272 →
    dp + 4 < recursionLimit → un + 20 < cLine → (∀ (t : Tok) (h' : Heap) (tk' : Nat), Fr h₀ L h' m → News h₀ L h' news → Q (.str (signF x) t) { s with heap := h', toks := tk' }) →
      wpAny (model Challenge.rw_mj0003_01.row.prog w) (ktrTop dp un gd cn cs L a ccd cl outer) (call (.ref 65) [.int x t]) Q E s

local macro_rules | `(tactic| walk_at "call ref") => `(tactic| (k_here; (with_reducible show wpAny _ _ (call (Value.ref 58) _) _ _ _); (k_dflt (refine' whites_call _ _ _ _ _ _ _ _ _ _ _ _ _ _ _ _ _ _ _ _ _ _ ?k1 ?k2 ?k3 ?k4 ?k5 ?k6 ?k7 ?k8 ?_; (case k1 => k_asm); (case k2 => k_asm); (case k3 => k_asm); (case k4 => k_asm); (case k5 => k_asm); (case k6 => exact rfl); (case k7 => ktr_room); (case k8 => ktr_units))); k_whole; intro D' vs' h' tk' F' N' hI'; (try dsimp only); (try k_fold)))
local macro_rules | `(tactic| walk_at "call builtin:chr") => `(tactic| (k_here; (with_reducible show wpAny _ _ (call (Value.builtin "chr") [Value.int _ _]) _ _ _); first | refine chr_of_range (menuC_lo _).1 (menuC_lo _).2 ?_ | refine chr_of_range (whitesL_lo _).1 (whitesL_lo _).2 ?_))

theorem sign_call (w : World) (mean : ExcName → Option Value) (mg mb : Str → Option Value) (news : List (Addr × Obj)) (x : Int) (t : Tok) : SignClaim w mean mg mb news x t := by
  unfold SignClaim
  w_top off
  k_with_none
  k_fill
  intros
  rename_i hret
  refine wpAny_call ?_
  k_dflt cell_enter
  k_steps
  all_goals (refine' cb_retS hret ?e1 ?e2 ?e3; (case e2 => k_asm); (case e3 => first | k_asm | (refine' cb_drop ?cbN ?cbS; (case cbN => assumption); (case cbS => kcj_all))); (case e1 => (simp only [decide_eq_true_eq, decide_eq_false_iff_not] at *; unfold signF; (repeat' split) <;> first | rfl | omega)))

section
variable {w : World} {mean : ExcName → Option Value} {mg mb : Str → Option Value} {news : List (Addr × Obj)} {x : Str} {k n : Int} {t u : Tok} {dp un : Nat} {gd : Option (List Code)} {cn : Str} {cs : Scope} {a : Addr} {ccd : Value} {cl : List (Str × Addr)} {outer : List Env} {A₀ : Around} {base h₀ : Heap} {L : Addr} {m : Str → Option Value} {s : Shared} {Q E : Value → Shared → Prop}
theorem indent_use (B : Below A₀ base outer h₀) (F : Fr h₀ L s.heap m) (X : (hd.heap_39 w.params).In h₀) (N : News h₀ L s.heap news) (T : Top hd.view_39 LOOSE mean mg mb h₀) (hk : cs.kind = .function) (hp : x.length ≤ 100000 ∧ -8 ≤ k ∧ k ≤ 100) (hdp : dp + 1 < recursionLimit) (hun : un + 8 < cLine)
    (h : ∀ (t : Tok) (h' : Heap) (tk' : Nat), Fr h₀ L h' m → News h₀ L h' news → Q (.str (setIn (blanks k) x) t) { s with heap := h', toks := tk' }) :
    wpAny (model Challenge.rw_mj0003_01.row.prog w) (ktrTop dp un gd cn cs L a ccd cl outer) (call (.ref 44) [.str x t, .int k u]) Q E s :=
  indent_call w mean mg mb news x t k u dp un gd cn cs a ccd cl outer A₀ base h₀ L m s Q E B F X N T hk hp hdp hun h
theorem indent_use1 (B : Below A₀ base outer h₀) (F : Fr h₀ L s.heap m) (X : (hd.heap_39 w.params).In h₀) (N : News h₀ L s.heap news) (T : Top hd.view_39 LOOSE mean mg mb h₀) (hk : cs.kind = .function) (hp : x.length ≤ 100000) (hdp : dp + 1 < recursionLimit) (hun : un + 8 < cLine)
    (h : ∀ (t : Tok) (h' : Heap) (tk' : Nat), Fr h₀ L h' m → News h₀ L h' news → Q (.str (setIn (blanks 4) x) t) { s with heap := h', toks := tk' }) :
    wpAny (model Challenge.rw_mj0003_01.row.prog w) (ktrTop dp un gd cn cs L a ccd cl outer) (call (.ref 44) [.str x t]) Q E s :=
  indent_call1 w mean mg mb news x t dp un gd cn cs a ccd cl outer A₀ base h₀ L m s Q E B F X N T hk hp hdp hun h
theorem setin_use (B : Below A₀ base outer h₀) (F : Fr h₀ L s.heap m) (X : (hd.heap_39 w.params).In h₀) (N : News h₀ L s.heap news) (T : Top hd.view_39 LOOSE mean mg mb h₀) (hk : cs.kind = .function) (hp : x.length ≤ 1000 ∧ 0 ≤ k ∧ k ≤ 100) (hdp : dp + 1 < recursionLimit) (hun : un + 8 < cLine)
    (h : ∀ (t : Tok) (h' : Heap) (tk' : Nat), Fr h₀ L h' m → News h₀ L h' news → Q (.str (setIn (blanks k) x) t) { s with heap := h', toks := tk' }) :
    wpAny (model Challenge.rw_mj0003_01.row.prog w) (ktrTop dp un gd cn cs L a ccd cl outer) (call (.ref 72) [.str x t, .int k u]) Q E s :=
  setin_call w mean mg mb news x t k u dp un gd cn cs a ccd cl outer A₀ base h₀ L m s Q E B F X N T hk hp hdp hun h
theorem cline_use (B : Below A₀ base outer h₀) (F : Fr h₀ L s.heap m) (X : (hd.heap_39 w.params).In h₀) (N : News h₀ L s.heap news) (T : Top hd.view_39 LOOSE mean mg mb h₀) (hk : cs.kind = .function) (hp : x.length ≤ 1000) (hdp : dp + 1 < recursionLimit) (hun : un + 8 < cLine)
    (h : ∀ (t : Tok) (h' : Heap) (tk' : Nat), Fr h₀ L h' m → News h₀ L h' news → Q (.str (cline x) t) { s with heap := h', toks := tk' }) :
    wpAny (model Challenge.rw_mj0003_01.row.prog w) (ktrTop dp un gd cn cs L a ccd cl outer) (call (.ref 51) [.str x t]) Q E s :=
  cline_call w mean mg mb news x t dp un gd cn cs a ccd cl outer A₀ base h₀ L m s Q E B F X N T hk hp hdp hun h
theorem sign_use (B : Below A₀ base outer h₀) (F : Fr h₀ L s.heap m) (X : (hd.heap_39 w.params).In h₀) (N : News h₀ L s.heap news) (T : Top hd.view_39 LOOSE mean mg mb h₀) (hk : cs.kind = .function) (hp : 0 ≤ n ∧ n < 9142272) (hdp : dp + 4 < recursionLimit) (hun : un + 20 < cLine)
    (h : ∀ (t : Tok) (h' : Heap) (tk' : Nat), Fr h₀ L h' m → News h₀ L h' news → Q (.str (signF n) t) { s with heap := h', toks := tk' }) :
    wpAny (model Challenge.rw_mj0003_01.row.prog w) (ktrTop dp un gd cn cs L a ccd cl outer) (call (.ref 65) [.int n t]) Q E s :=
  sign_call w mean mg mb news n t dp un gd cn cs a ccd cl outer A₀ base h₀ L m s Q E B F X N T hk hp hdp hun h
theorem whites_use (B : Below A₀ base outer h₀) (F : Fr h₀ L s.heap m) (X : (hd.heap_39 w.params).In h₀) (N : News h₀ L s.heap news) (T : Top hd.view_39 LOOSE mean mg mb h₀) (hk : cs.kind = .function) (hdp : dp + 1 < recursionLimit) (hun : un + 8 < cLine)
    (h : ∀ (D : Addr) (vs : List Value) (h' : Heap) (tk' : Nat), Fr h₀ L h' m → News h₀ L h' ((D, W.listOf vs.toArray 0) :: news) → IntsAre vs whitesL → Q (.ref D) { s with heap := h', toks := tk' }) :
    wpAny (model Challenge.rw_mj0003_01.row.prog w) (ktrTop dp un gd cn cs L a ccd cl outer) (call (.ref 58) []) Q E s :=
  whites_call w mean mg mb news dp un gd cn cs a ccd cl outer A₀ base h₀ L m s Q E B F X N T hk hdp hun h
end

theorem blanks_max (k : Int) : blanks (if 0 > k then 0 else k) = blanks k := by
  unfold blanks
  split
  · rw [show k.toNat = 0 by omega]; rfl
  · rfl

theorem setInL_blankF (p : List Nat) : ∀ (n : Nat) (l : List Nat), setInL p false (List.replicate n 32 ++ l) = List.replicate n 32 ++ setInL p false l
  | 0, l => rfl
  | n + 1, l => by
    rw [List.replicate_succ, List.cons_append, setInL]
    simp only [Bool.false_and, Bool.false_eq_true, if_false, List.nil_append]
    rw [show ((32 : Nat) == 10) = false from rfl, setInL_blankF p n l]; rfl
theorem setInL_blankT (p : List Nat) (n : Nat) (c : Nat) (r : List Nat) (hc : c ≠ 10) : setInL p true (List.replicate n 32 ++ c :: r) = p ++ (List.replicate n 32 ++ c :: setInL p (c == 10) r) := by
  cases n with
  | zero => simp [setInL, hc]
  | succ n =>
    rw [List.replicate_succ, List.cons_append, setInL]
    simp only [Bool.true_and]
    rw [show ((32 : Nat) == 10) = false from rfl, setInL_blankF, setInL]
    simp [List.replicate_succ]

theorem setInL_twice (a b : Nat) : ∀ (l : List Nat) (f : Bool), setInL (List.replicate a 32) f (setInL (List.replicate b 32) f l) = setInL (List.replicate (a + b) 32) f l
  | [], f => rfl
  | c :: r, f => by
    have ih := setInL_twice a b r (c == 10)
    rw [setInL, setInL]
    by_cases hc : (f && c != 10) = true
    · rw [if_pos hc, if_pos hc]
      have hf : f = true := by cases f <;> simp_all
      have hn : c ≠ 10 := by cases f <;> simp_all
      rw [hf, setInL_blankT _ _ _ _ hn, ih, ← List.append_assoc, List.replicate_append_replicate]
    · rw [if_neg hc, if_neg hc, List.nil_append, setInL, if_neg hc, ih]

theorem setIn_twice {k : Int} (x : Str) : setIn (blanks 3) (setIn (blanks k) x) = setIn (blanks ((if 0 > k then 0 else k) + 3)) x := by
  have e : ∀ n : Int, (blanks n).cps.toList = List.replicate n.toNat 32 := fun n => by simp [blanks]
  unfold setIn
  rw [e, e, e]
  congr 2
  show setInL _ true (setInL _ true x.cps.toList) = _
  rw [show (3 : Int).toNat = 3 from rfl, setInL_twice]
  congr 2
  split <;> omega

theorem setIn_short {x : Str} {k : Int} (hx : x.length ≤ 24) (hk : k ≤ 5) : (setIn (blanks k) x).length ≤ 1000 := by
  show (setInL (blanks k).cps.toList true x.cps.toList).toArray.size ≤ 1000
  rw [List.size_toArray]
  refine Nat.le_trans (setInL_len _ _ _) ?_
  have h1 : x.cps.toList.length ≤ 24 := by simpa [Str.length] using hx
  have h2 : (blanks k).cps.toList.length + 1 ≤ 6 := by simp [blanks]; omega
  exact Nat.le_trans (Nat.mul_le_mul h1 h2) (by omega)
theorem bne_self' {x : Str} (h : (x != x) = true) : False := by simp at h

noncomputable def lawBody : List Stmt := match Challenge.pw_mj0003_01.main.body.getLast? with
  | some (.FunctionDef _ _ b _ _ _ _ _ _ _) => b
  | _ => []
noncomputable def lawScope : Scope := match Challenge.pw_mj0003_01.main.body.getLast? with
  | some (.FunctionDef _ _ _ _ _ _ s _ _ _) => s
  | _ => default
theorem menuS_len (i : Nat) : (menuS.getD i Str.empty).length ≤ 2 := by
  by_cases h : i < 9
  · have : ∀ j : Fin 9, (menuS.getD j.1 Str.empty).length ≤ 2 := by decide +kernel
    exact this ⟨i, h⟩
  · have e : menuS[i]? = none := List.getElem?_eq_none (by show 9 ≤ i; omega)
    rw [List.getD_eq_getElem?_getD, e]; decide
theorem signF_len (n : Int) : (signF n).length ≤ 2 := by
  unfold signF
  split
  · exact menuS_len _
  · (repeat' split) <;> exact Nat.le_succ 1
theorem signs_sum : ∀ cs : List Int, ((cs.map signF).map (·.length)).sum ≤ 2 * cs.length
  | [] => by simp
  | c :: r => by
    have h1 := signs_sum r
    have h2 := signF_len c
    simp only [List.map_cons, List.sum_cons, List.length_cons]
    omega
theorem join_signs {prog : Program} {w : World} {A : Around} {E : Value → Shared → Prop} {s : Shared} {Q : Value → Shared → Prop} {h₀ : Heap} {L D : Addr} {news : List (Addr × Obj)} {ys : List Value} {cs : List Int} {t : Tok}
    (N : News h₀ L s.heap news) (hm : (D, LCg.lst ys) ∈ news) (hc : CarriedAll ys (cs.map fun k => PyData.str (signF k))) (hlen : cs.length ≤ 12)
    (h : ∀ x : Str, x.length ≤ 24 → ∀ t' k, Q (.str x t') { s with toks := k }) : wpAny (model prog w) A (call (.builtin "str.join") [.str (Str.ofString "") t, .ref D]) Q E s := by
  have e0 : (Str.ofString "").cps = #[] := by decide +kernel
  have e1 : (Str.ofString "").length = 0 := by decide +kernel
  have hs := signs_sum cs
  refine join_list (News.isList N hm) (CarriedAll.strsOf hc) (by rw [e1]; omega) fun t' k => h _ ?_ t' k
  rw [join_cat _ e0]
  show (cat (cs.map signF)).toArray.size ≤ 24
  rw [List.size_toArray, ← cat_len]
  omega
local macro_rules | `(tactic| walk_at "call builtin:str.join") => `(tactic| (k_here; (with_reducible show wpAny _ _ (call (Value.builtin "str.join") [Value.str _ _, Value.ref _]) _ _ _); (k_dflt (refine' join_signs ?k1 ?k2 ?k3 ?k4 ?_; (case k1 => k_asm); (case k3 => assumption); (case k2 => k_mem); (case k4 => assumption))); intro x' hx' _ _))
local macro_rules | `(tactic| walk_at "call ref") => `(tactic| (k_here; (with_reducible show wpAny _ _ (call (Value.ref 65) _) _ _ _); (k_dflt (refine' sign_use ?k1 ?k2 ?k3 ?k4 ?k5 ?k6 ?kp ?k7 ?k8 ?_; (case k1 => k_asm); (case k2 => k_asm); (case k3 => k_asm); (case k4 => k_asm); (case k5 => k_asm); (case k6 => first | exact rfl | assumption); (case kp => omega); (case k7 => ktr_room); (case k8 => ktr_units))); k_whole; intro t' h' tk' F' N'; (try dsimp only); (try k_fold)))

theorem fmod7 (n : Int) : -1 ≤ n.fmod 7 - 1 ∧ n.fmod 7 - 1 ≤ 5 := by
  have h1 := Int.fmod_nonneg_of_pos n (b := 7) (by omega)
  have h2 := Int.fmod_lt_of_pos n (b := 7) (by omega)
  omega
theorem stageA (w : World) (mean : ExcName → Option Value) (mg mb : Str → Option Value) (h₀ : Heap) (L fa cd D : Addr) (base : Heap) (s : Shared) (m : Str → Option Value) (news : List (Addr × Obj)) (vs : List Value) (nn : Nat) (cs : List Int) (qk : Flow → Shared → Prop) (ek : Value → Shared → Prop) (rest : List Stmt)
    (B : Below callerA base [] h₀) (X : (hd.heap_39 w.params).In h₀) (T : Top hd.view_39 LOOSE mean mg mb h₀)
    (F : Fr h₀ L s.heap (fun z => if z = Str.ofString "cells" then some (Value.ref D) else m z)) (N : News h₀ L s.heap ((D, W.listOf vs.toArray nn) :: news)) (hI : IntsAre vs cs) (hlen : cs.length ≤ 12) (hcs : ∀ c ∈ cs, 0 ≤ c ∧ c < 9142272)
    (hrest : ∀ (x : Str) (t : Tok) (k : Int) (u : Tok) (h' : Heap) (tk' : Nat) (m' : Str → Option Value), x.length ≤ 24 → -1 ≤ k → k ≤ 5 → Fr h₀ L h' (fun z => if z = Str.ofString "width" then some (Value.int k u) else if z = Str.ofString "text" then some (Value.str x t) else m' z) →
      wpAny (model Challenge.rw_mj0003_01.row.prog w) (callerA.deeper (envOf (Str.ofString "law") lawScope L fa (Value.ref cd))) (execs rest (envOf (Str.ofString "law") lawScope L fa (Value.ref cd))) qk ek { s with heap := h', toks := tk' }) :
    wpAny (model Challenge.rw_mj0003_01.row.prog w) (callerA.deeper (envOf (Str.ofString "law") lawScope L fa (Value.ref cd))) (execs ((lawBody.drop 2).take 2 ++ rest) (envOf (Str.ofString "law") lawScope L fa (Value.ref cd))) qk ek s := by
  revert X
  w_top off
  k_with_none
  k_fill
  intro X
  simp only [lawBody, lawScope, Challenge.pw_mj0003_01, List.getLast?_cons_cons, List.getLast?_singleton, List.drop_succ_cons, List.drop_zero, List.take_succ_cons, List.take_zero, List.cons_append, List.nil_append] at hrest ⊢
  k_steps
  refine LCg.CompSrc.ledger (by rfl) (by k_asm) (by k_asm) (by k_mem) (by rw [sizeLine_eq]; have := hI.length; simp; omega) ?_
  intro g'
  refine kct_list signF hI (fun k' t' I' oI' C' oC' D' m' ys' h' tk' E' hk' hC' hx' F' N' off' ne' hMark' => ?_) ?_
  · have hb := hcs k' hk'
    k_steps
    exact LCg.CompEnd.intro (by k_asm) (by k_asm) ((D, W.listOf vs.toArray nn) :: news) (fun p hp => hp) off' (.inr ⟨_, .head _, rfl, _, rfl⟩) ⟨rfl, _, rfl⟩
  · unfold KPfDone
    intro ys hc hl
    k_steps
    rename Fr _ _ _ _ => F9
    exact hrest _ _ _ _ _ _ _ (by assumption) (fmod7 _).1 (fmod7 _).2 F9

theorem cells_len (ns : List Int) : (List.map (fun k' => Int.fmod k' 9142272) (List.take 12 ns)).length ≤ 12 := by
  rw [List.length_map, List.length_take]; omega
theorem cells_bound (ns : List Int) : ∀ c ∈ List.map (fun k' => Int.fmod k' 9142272) (List.take 12 ns), 0 ≤ c ∧ c < 9142272 := by
  intro c hc
  obtain ⟨a, _, rfl⟩ := List.mem_map.mp hc
  exact ⟨Int.fmod_nonneg_of_pos a (by omega), Int.fmod_lt_of_pos a (by omega)⟩
theorem stage0 (w : World) (mean : ExcName → Option Value) (mg mb : Str → Option Value) (h₀ : Heap) (L fa cd l : Addr) (base : Heap) (s : Shared) (m : Str → Option Value) (vs : List Value) (ns : List Int) (qk : Flow → Shared → Prop) (ek : Value → Shared → Prop) (rest : List Stmt)
    (B : Below callerA base [] h₀) (X : (hd.heap_39 w.params).In h₀) (T : Top hd.view_39 LOOSE mean mg mb h₀)
    (hl : h₀.IsList l vs.toArray) (hi : IntsAre vs ns) (h63 : ns.length ≤ 63)
    (F : Fr h₀ L s.heap (fun z => if z = Str.ofString "script" then some (Value.ref l) else m z))
    (hrest : ∀ (D : Addr) (vs' : List Value) (nn : Nat) (cs : List Int) (h' : Heap) (tk' : Nat) (m' : Str → Option Value) (news : List (Addr × Obj)), Fr h₀ L h' (fun z => if z = Str.ofString "cells" then some (Value.ref D) else m' z) → News h₀ L h' ((D, W.listOf vs'.toArray nn) :: news) → IntsAre vs' cs → cs.length ≤ 12 → (∀ c ∈ cs, 0 ≤ c ∧ c < 9142272) →
      wpAny (model Challenge.rw_mj0003_01.row.prog w) (callerA.deeper (envOf (Str.ofString "law") lawScope L fa (Value.ref cd))) (execs rest (envOf (Str.ofString "law") lawScope L fa (Value.ref cd))) qk ek { s with heap := h', toks := tk' }) :
    wpAny (model Challenge.rw_mj0003_01.row.prog w) (callerA.deeper (envOf (Str.ofString "law") lawScope L fa (Value.ref cd))) (execs (lawBody.take 2 ++ rest) (envOf (Str.ofString "law") lawScope L fa (Value.ref cd))) qk ek s := by
  revert X
  w_top off
  k_with_none
  k_fill
  intro X
  have N : News h₀ L s.heap [] := fun p hp => nomatch hp
  simp only [lawBody, lawScope, Challenge.pw_mj0003_01, List.getLast?_cons_cons, List.getLast?_singleton, List.drop_succ_cons, List.drop_zero, List.take_succ_cons, List.take_zero, List.cons_append, List.nil_append] at hrest ⊢
  repeat' (first | (k_unfold; (try dsimp only)) | walk1 | (dsimp only; walk1) | fail "no step")
  · dsimp only
    rename Fr _ _ _ _ => F9
    rename News _ _ _ _ => N9
    exact hrest _ _ _ [8, 6, 7, 2, 1, 5] _ _ _ _ F9 N9 (by l_ints) (by decide) (by decide)
  · dsimp only
    rename Fr _ _ _ _ => F9
    rename News _ _ _ _ => N9
    rename IntsAre _ (List.map _ _) => hI9
    exact hrest _ _ _ _ _ _ _ _ F9 (fun p hp => N9 p (.tail _ hp)) hI9 (cells_len ns) (cells_bound ns)

local macro_rules | `(tactic| walk_at "call ref") => `(tactic| (k_here; (with_reducible show wpAny _ _ (call (Value.ref 72) _) _ _ _); (k_dflt (refine' setin_use ?k1 ?k2 ?k3 ?k4 ?k5 ?k6 ?kp ?k7 ?k8 ?_; (case k1 => k_asm); (case k2 => k_asm); (case k3 => k_asm); (case k4 => k_asm); (case k5 => k_asm); (case k6 => first | exact rfl | assumption); (case kp => omega); (case k7 => ktr_room); (case k8 => ktr_units))); k_whole; intro t' h' tk' F' N'; (try dsimp only); (try k_fold)))
local macro_rules | `(tactic| walk_at "call ref") => `(tactic| (k_here; (with_reducible show wpAny _ _ (call (Value.ref 44) _) _ _ _); (k_dflt (refine' indent_use1 ?k1 ?k2 ?k3 ?k4 ?k5 ?k6 ?kp ?k7 ?k8 ?_; (case k1 => k_asm); (case k2 => k_asm); (case k3 => k_asm); (case k4 => k_asm); (case k5 => k_asm); (case k6 => first | exact rfl | assumption); (case kp => omega); (case k7 => ktr_room); (case k8 => ktr_units))); k_whole; intro t' h' tk' F' N'; (try dsimp only); (try k_fold)))
local macro_rules | `(tactic| walk_at "call ref") => `(tactic| (k_here; (with_reducible show wpAny _ _ (call (Value.ref 44) _) _ _ _); (k_dflt (refine' indent_use ?k1 ?k2 ?k3 ?k4 ?k5 ?k6 ?kp ?k7 ?k8 ?_; (case k1 => k_asm); (case k2 => k_asm); (case k3 => k_asm); (case k4 => k_asm); (case k5 => k_asm); (case k6 => first | exact rfl | assumption); (case kp => first | omega | exact ⟨Nat.le_trans (setIn_short (by assumption) (by assumption)) (by decide), by omega, by omega⟩); (case k7 => ktr_room); (case k8 => ktr_units))); k_whole; intro t' h' tk' F' N'; (try dsimp only); (try k_fold)))

theorem fr_over {h₀ h : Heap} {L : Addr} {M : Str → Option Value} {y : Str} {v : Value} (F : Fr h₀ L h M) (e : M y = some v) : Fr h₀ L h (fun z => if z = y then some v else M z) := by
  have : (fun z => if z = y then some v else M z) = M := by
    funext z
    by_cases hz : z = y
    · rw [if_pos hz, hz, e]
    · rw [if_neg hz]
  rw [this]; exact F

theorem stageB (w : World) (mean : ExcName → Option Value) (mg mb : Str → Option Value) (h₀ : Heap) (L fa cd : Addr) (base : Heap) (s : Shared) (m : Str → Option Value) (x : Str) (t : Tok) (k : Int) (u : Tok) (qk : Flow → Shared → Prop) (ek : Value → Shared → Prop) (rest : List Stmt)
    (B : Below callerA base [] h₀) (X : (hd.heap_39 w.params).In h₀) (T : Top hd.view_39 LOOSE mean mg mb h₀)
    (hx : x.length ≤ 24) (hk1 : -1 ≤ k) (hk2 : k ≤ 5) (F : Fr h₀ L s.heap (fun z => if z = Str.ofString "width" then some (Value.int k u) else if z = Str.ofString "text" then some (Value.str x t) else m z))
    (hrest : ∀ (tp : Tok) (h' : Heap) (tk' : Nat) (m' : Str → Option Value), Fr h₀ L h' (fun z => if z = Str.ofString "pad" then some (Value.str (blanks k) tp) else if z = Str.ofString "width" then some (Value.int k u) else if z = Str.ofString "text" then some (Value.str x t) else m' z) →
      wpAny (model Challenge.rw_mj0003_01.row.prog w) (callerA.deeper (envOf (Str.ofString "law") lawScope L fa (Value.ref cd))) (execs rest (envOf (Str.ofString "law") lawScope L fa (Value.ref cd))) qk ek { s with heap := h', toks := tk' }) :
    wpAny (model Challenge.rw_mj0003_01.row.prog w) (callerA.deeper (envOf (Str.ofString "law") lawScope L fa (Value.ref cd))) (execs ((lawBody.drop 4).take 5 ++ rest) (envOf (Str.ofString "law") lawScope L fa (Value.ref cd))) qk ek s := by
  revert X
  w_top off
  k_with_none
  k_fill
  intro X
  have N : News h₀ L s.heap [] := fun p hp => nomatch hp
  simp only [lawBody, lawScope, Challenge.pw_mj0003_01, List.getLast?_cons_cons, List.getLast?_singleton, List.drop_succ_cons, List.drop_zero, List.take_succ_cons, List.take_zero, List.cons_append, List.nil_append] at hrest ⊢
  k_steps
  · exfalso
    rename ((setIn _ _ != _) = true) => h9
    rw [blanks_max] at h9
    exact bne_self' h9
  · exfalso
    rename ((setIn _ _ != _) = true) => h9
    exact bne_self' h9
  · exfalso
    rename ((setIn _ _ != _) = true) => h9
    rw [setIn_twice] at h9
    exact bne_self' h9
  · rename Fr _ _ _ _ => F9
    have e9 : Txt.mul (Str.ofString " ") (if 0 > k then 0 else k) = blanks k := (mul_blank _).trans (blanks_max k)
    rw [e9] at F9
    exact hrest _ _ _ _ (fr_over (fr_over (fr_over F9 (by with_unfolding_all rfl)) (by with_unfolding_all rfl)) (by with_unfolding_all rfl))

section
open PySem.Builtin PySem.Builtin.Str

def keptN (l : List Nat) : Nat → Nat
  | 0 => 0
  | n + 1 => if Unicode.isSpace (l.getD n 0) = true then keptN l n else n + 1
theorem keptN_le (l : List Nat) : ∀ n, keptN l n ≤ n
  | 0 => Nat.le_refl _
  | n + 1 => by
    have := keptN_le l n
    rw [keptN]; split <;> omega

def khi (l : List Nat) : Nat := l.length - (l.reverse.takeWhile Unicode.isSpace).length
theorem tw_le (l : List Nat) : (l.reverse.takeWhile Unicode.isSpace).length ≤ l.length := by
  have := (List.takeWhile_sublist (p := Unicode.isSpace) (l := l.reverse)).length_le
  simpa using this
theorem khi_nil : khi [] = 0 := rfl
theorem khi_snoc (l : List Nat) (c : Nat) : khi (l ++ [c]) = if Unicode.isSpace c = true then khi l else l.length + 1 := by
  unfold khi
  have := tw_le l
  rw [List.reverse_append, List.reverse_singleton, List.singleton_append, List.takeWhile_cons]
  split <;> simp <;> omega
theorem khi_take (l : List Nat) : ∀ n, n ≤ l.length → khi (l.take n) = keptN l n
  | 0, _ => by simp [khi, keptN]
  | n + 1, h => by
    have ih := khi_take l n (by omega)
    have e : l.take (n + 1) = l.take n ++ [l.getD n 0] := by
      rw [List.take_add_one, List.getD_eq_getElem?_getD, List.getElem?_eq_getElem (by omega)]; rfl
    rw [e, khi_snoc, ih, keptN, List.length_take, Nat.min_eq_left (by omega)]
theorem khi_le (l : List Nat) : khi l ≤ l.length := Nat.sub_le _ _

theorem rstrip_eq (x : Str) : Txt.rstrip x = ⟨(x.cps.toList.take (khi x.cps.toList)).toArray⟩ := by
  unfold Txt.rstrip
  rw [PyProof.Rows.stripBy_eq]
  have e1 : stripLo Unicode.isSpace false x = 0 := rfl
  have e2 : stripHi Unicode.isSpace true x 0 = khi x.cps.toList := by
    unfold stripHi khi
    simp [Str.length]
  rw [e1, e2]
  unfold strSub
  congr 1
  apply Array.ext'
  simp

theorem any_white (c : Nat) : (whitesL.any fun y => y == (c : Int)) = Unicode.isSpace c := by
  rw [Bool.eq_iff_iff]
  simp only [whitesL, Unicode.isSpace, UnicodeData.space, UnicodeData.space0, Unicode.within, List.any_cons, List.any_nil, Bool.or_false, Bool.or_eq_true, beq_iff_eq]
  (repeat' split) <;> simp <;> omega

theorem slice_take {x : Str} {k : Int} (h0 : 0 ≤ k) (h1 : k ≤ x.length) : Txt.slice x none (some k) = ⟨(x.cps.toList.take k.toNat).toArray⟩ := by
  have h := slice_closes_to (x := x) (j := k) ⟨h0, by simpa [Str.length] using h1⟩
  have h2 := eq_of_beq h
  simpa using h2

theorem item_code {x : Str} {k : Int} (h0 : 0 < k) (h1 : k ≤ x.length) : (Txt.item x (k - 1)).cps.getD 0 0 = x.cps.toList.getD (k.toNat - 1) 0 := by
  have hs : seqIndex? (k - 1) x.length = some (k.toNat - 1) := by
    unfold seqIndex?
    have e1 : ¬ (k - 1 < 0) := by omega
    have e2 : (k - 1).toNat = k.toNat - 1 := by omega
    simp only [e1, if_false]
    have e3 : (decide (0 ≤ k - 1) && decide (k - 1 < (x.length : Int))) = true := by simp; omega
    rw [if_pos e3, e2]
  show (Txt.charAt x (k - 1)).getD 0 = _
  unfold Txt.charAt
  rw [hs, List.getD_eq_getElem?_getD]
  simp

def KeptP (x : Str) (pre : List Int) (kept : Int) : Prop := kept = (keptN x.cps.toList (pre.length - 1) : Int)
theorem kept_start {x : Str} : KeptP x [] 0 := rfl

/-- what the turn at k leaves in kept -/
theorem kept_turn {x : Str} {pre : List Int} {kept k : Int} {n : Nat} (h : KeptP x pre kept) (e : k = 0 + (pre.length : Int)) (hlt : pre.length < n) (hn : n = ((x.length : Int) + 1 - 0).toNat) (hk : 0 < k) :
    (keptN x.cps.toList pre.length : Int) = if (whitesL.any fun y => y == (((Txt.item x (k - 1)).cps.getD 0 0 : Nat) : Int)) = true then kept else k := by
  rw [item_code hk (by omega), any_white]
  obtain ⟨j, hj⟩ : ∃ j, pre.length = j + 1 := ⟨pre.length - 1, by omega⟩
  have hk1 : k.toNat - 1 = j := by omega
  rw [hj, keptN, hk1]
  have h' : kept = (keptN x.cps.toList j : Int) := by rw [h, hj]; rfl
  split
  · rw [h']
  · omega
theorem kept_turn0 {x : Str} {pre : List Int} {kept k : Int} (h : KeptP x pre kept) (e : k = 0 + (pre.length : Int)) (hk : ¬ 0 < k) : (keptN x.cps.toList pre.length : Int) = kept := by
  have hp : pre.length = 0 := by omega
  rw [h, hp]

theorem kept_snoc {x : Str} {pre : List Int} {k v : Int} (h : (keptN x.cps.toList pre.length : Int) = v) : KeptP x (pre ++ [k]) v := by
  unfold KeptP
  rw [← h, List.length_append]; rfl

theorem cline_take {x : Str} {n : Nat} (hn : n ≤ x.length) : cline ⟨(x.cps.toList.take n).toArray⟩ = if keptN x.cps.toList n = 0 then Str.ofString "#" else Str.ofString "# " ++ ⟨(x.cps.toList.take (keptN x.cps.toList n)).toArray⟩ := by
  have hl : n ≤ x.cps.toList.length := by simpa [Str.length] using hn
  have hk := keptN_le x.cps.toList n
  have e : Txt.rstrip ⟨(x.cps.toList.take n).toArray⟩ = ⟨(x.cps.toList.take (keptN x.cps.toList n)).toArray⟩ := by
    rw [rstrip_eq]
    show (⟨((x.cps.toList.take n).take (khi (x.cps.toList.take n))).toArray⟩ : Str) = _
    rw [khi_take _ _ hl, List.take_take, Nat.min_eq_left hk]
  unfold cline
  rw [e]
  have e2 : (⟨(x.cps.toList.take (keptN x.cps.toList n)).toArray⟩ : Str).length = keptN x.cps.toList n := by
    show (List.take _ _).toArray.size = _
    rw [List.size_toArray, List.length_take]; omega
  rw [e2]

/-- what is asked in the loop over the fronts -/
theorem front_due {x : Str} {pre : List Int} {k kept : Int} {n : Nat} (h : (keptN x.cps.toList pre.length : Int) = kept) (e : k = 0 + (pre.length : Int)) (hlt : pre.length < n) (hn : n = ((x.length : Int) + 1 - 0).toNat) :
    cline (Txt.slice x none (some k)) = if 0 < kept then Str.ofString "# " ++ Txt.slice x none (some kept) else Str.ofString "#" := by
  have hk := keptN_le x.cps.toList pre.length
  rw [slice_take (k := k) (by omega) (by omega), cline_take (by omega), show k.toNat = pre.length by omega]
  by_cases h0 : 0 < kept
  · rw [if_pos h0, if_neg (by omega), slice_take (k := kept) (by omega) (by omega), show kept.toNat = keptN x.cps.toList pre.length by omega]
  · rw [if_neg h0, if_pos (by omega)]

theorem front_pos {x : Str} {pre : List Int} {k kept : Int} {n : Nat} (h : (keptN x.cps.toList pre.length : Int) = kept) (e : k = 0 + (pre.length : Int)) (hlt : pre.length < n) (hn : n = ((x.length : Int) + 1 - 0).toNat) (h0 : 0 < kept)
    (hb : (cline (Txt.slice x none (some k)) != Str.ofString "# " ++ Txt.slice x none (some kept)) = true) : False := by
  rw [front_due h e hlt hn, if_pos h0] at hb
  exact bne_self' hb
theorem front_neg {x : Str} {pre : List Int} {k kept : Int} {n : Nat} (h : (keptN x.cps.toList pre.length : Int) = kept) (e : k = 0 + (pre.length : Int)) (hlt : pre.length < n) (hn : n = ((x.length : Int) + 1 - 0).toNat) (h0 : ¬ 0 < kept)
    (hb : (cline (Txt.slice x none (some k)) != Str.ofString "#") = true) : False := by
  rw [front_due h e hlt hn, if_neg h0] at hb
  exact bne_self' hb
theorem kv1 {x : Str} {pre : List Int} {kept k : Int} (h : KeptP x pre kept) (e : k = 0 + (pre.length : Int)) (hk : ¬ 0 < k) : (keptN x.cps.toList pre.length : Int) = kept := kept_turn0 h e hk
theorem kv2 {x : Str} {pre : List Int} {kept k : Int} (h : KeptP x pre kept) (e : k = 0 + (pre.length : Int)) (hlt : pre.length < ((x.length : Int) + 1 - 0).toNat) (hk : 0 < k) (ha : (whitesL.any fun y => y == (((Txt.item x (k - 1)).cps.getD 0 0 : Nat) : Int)) = true) : (keptN x.cps.toList pre.length : Int) = kept := by
  rw [kept_turn h e hlt rfl hk, if_pos ha]
theorem kv3 {x : Str} {pre : List Int} {kept k : Int} (h : KeptP x pre kept) (e : k = 0 + (pre.length : Int)) (hlt : pre.length < ((x.length : Int) + 1 - 0).toNat) (hk : 0 < k) (ha : (whitesL.any fun y => y == (((Txt.item x (k - 1)).cps.getD 0 0 : Nat) : Int)) = false) : (keptN x.cps.toList pre.length : Int) = k := by
  rw [kept_turn h e hlt rfl hk, if_neg (by rw [ha]; decide)]
end

local macro_rules | `(tactic| walk_at "call ref") => `(tactic| (k_here; (with_reducible show wpAny _ _ (call (Value.ref 58) _) _ _ _); (k_dflt (refine' whites_use ?k1 ?k2 ?k3 ?k4 ?k5 ?k6 ?k7 ?k8 ?_; (case k1 => k_asm); (case k2 => k_asm); (case k3 => k_asm); (case k4 => k_asm); (case k5 => k_asm); (case k6 => first | exact rfl | assumption); (case k7 => ktr_room); (case k8 => ktr_units))); k_whole; intro D' vs' h' tk' F' N' hI'; (try dsimp only); (try k_fold)))
local macro_rules | `(tactic| walk_at "call ref") => `(tactic| (k_here; (with_reducible show wpAny _ _ (call (Value.ref 51) _) _ _ _); (k_dflt (refine' cline_use ?k1 ?k2 ?k3 ?k4 ?k5 ?k6 ?kp ?k7 ?k8 ?_; (case k1 => k_asm); (case k2 => k_asm); (case k3 => k_asm); (case k4 => k_asm); (case k5 => k_asm); (case k6 => first | exact rfl | assumption); (case kp => omega); (case k7 => ktr_room); (case k8 => ktr_units))); k_whole; intro t' h' tk' F' N'; (try dsimp only); (try k_fold)))

local macro_rules | `(tactic| walk_at "InvEndN") => `(tactic| k_dflt kst_close)

theorem stageC (w : World) (mean : ExcName → Option Value) (mg mb : Str → Option Value) (h₀ : Heap) (L fa cd : Addr) (base : Heap) (s : Shared) (m : Str → Option Value) (x : Str) (t : Tok) (k : Int) (u tp : Tok) (qk : Flow → Shared → Prop) (rest : List Stmt)
    (B : Below callerA base [] h₀) (X : (hd.heap_39 w.params).In h₀) (T : Top hd.view_39 LOOSE mean mg mb h₀)
    (hx : x.length ≤ 24) (F : Fr h₀ L s.heap (fun z => if z = Str.ofString "pad" then some (Value.str (blanks k) tp) else if z = Str.ofString "width" then some (Value.int k u) else if z = Str.ofString "text" then some (Value.str x t) else m z))
    (hrest : ∀ (h' : Heap) (tk' : Nat) (m' : Str → Option Value), Fr h₀ L h' (fun z => if z = Str.ofString "pad" then some (Value.str (blanks k) tp) else if z = Str.ofString "width" then some (Value.int k u) else if z = Str.ofString "text" then some (Value.str x t) else m' z) →
      wpAny (model Challenge.rw_mj0003_01.row.prog w) (callerA.deeper (envOf (Str.ofString "law") lawScope L fa (Value.ref cd))) (execs rest (envOf (Str.ofString "law") lawScope L fa (Value.ref cd))) qk (fun _ _ => False) { s with heap := h', toks := tk' }) :
    wpAny (model Challenge.rw_mj0003_01.row.prog w) (callerA.deeper (envOf (Str.ofString "law") lawScope L fa (Value.ref cd))) (execs ((lawBody.drop 9).take 3 ++ rest) (envOf (Str.ofString "law") lawScope L fa (Value.ref cd))) qk (fun _ _ => False) s := by
  revert X
  w_top off
  k_with_none
  k_fill
  intro X
  have N : News h₀ L s.heap [] := fun p hp => nomatch hp
  simp only [lawBody, lawScope, Challenge.pw_mj0003_01, List.getLast?_cons_cons, List.getLast?_singleton, List.drop_succ_cons, List.drop_zero, List.take_succ_cons, List.take_zero, List.cons_append, List.nil_append] at hrest ⊢
  k_with "pyIter ref" => k_state (fun pre kept => KeptP x pre kept) "kept"
  k_with "state" => first | (with_reducible exact kept_start) | exact kept_snoc (kv1 kInv kEq (by with_reducible assumption)) | exact kept_snoc (kv2 kInv kEq kLt (by with_reducible assumption) (by with_reducible assumption)) | exact kept_snoc (kv3 kInv kEq kLt (by with_reducible assumption) (by with_reducible assumption))
  repeat' (first | (k_unfold; (try dsimp only)) | walk1 | (dsimp only; walk1) | (leave1; (try dsimp only)) | fail "no step")
  all_goals first
    | (exfalso; first | (exact front_pos (kv1 kInv kEq (by with_reducible assumption)) kEq kLt rfl (by with_reducible assumption) (by with_reducible assumption)) | (exact front_pos (kv2 kInv kEq kLt (by with_reducible assumption) (by with_reducible assumption)) kEq kLt rfl (by with_reducible assumption) (by with_reducible assumption)) | (exact front_pos (kv3 kInv kEq kLt (by with_reducible assumption) (by with_reducible assumption)) kEq kLt rfl (by with_reducible assumption) (by with_reducible assumption)) | (exact front_neg (kv1 kInv kEq (by with_reducible assumption)) kEq kLt rfl (by with_reducible assumption) (by with_reducible assumption)) | (exact front_neg (kv2 kInv kEq kLt (by with_reducible assumption) (by with_reducible assumption)) kEq kLt rfl (by with_reducible assumption) (by with_reducible assumption)) | (exact front_neg (kv3 kInv kEq kLt (by with_reducible assumption) (by with_reducible assumption)) kEq kLt rfl (by with_reducible assumption) (by with_reducible assumption)))
    | (dsimp only
       rename Fr _ _ _ _ => F9
       exact hrest _ _ _ (fr_over (fr_over (fr_over F9 (by with_unfolding_all rfl)) (by with_unfolding_all rfl)) (by with_unfolding_all rfl)))

section
open PySem.Builtin PySem.Builtin.Str

theorem setInL_false (p : List Nat) : ∀ l : List Nat, 10 ∉ l → setInL p false l = l
  | [], _ => rfl
  | c :: r, h => by
    have hc : (c == 10) = false := by
      rw [beq_eq_false_iff_ne]; intro e; exact h (by rw [e]; exact .head _)
    rw [setInL, hc, setInL_false p r (fun e => h (.tail _ e))]; simp
theorem setInL_row (p : List Nat) (l : List Nat) (h : 10 ∉ l) : setInL p true l = if l = [] then [] else p ++ l := by
  cases l with
  | nil => rfl
  | cons c r =>
    have hc : (c == 10) = false := by
      rw [beq_eq_false_iff_ne]; intro e; exact h (by rw [e]; exact .head _)
    have hc2 : (c != 10) = true := by rw [bne, hc]; rfl
    rw [setInL, hc, hc2, setInL_false p r (fun e => h (.tail _ e))]; simp

theorem khi_append (a : List Nat) : ∀ b : List Nat, khi (a ++ b) = if khi b = 0 then khi a else a.length + khi b := by
  have key : ∀ r : List Nat, khi (a ++ r.reverse) = if khi r.reverse = 0 then khi a else a.length + khi r.reverse := by
    intro r
    induction r with
    | nil => simp [khi_nil]
    | cons c r ih =>
      rw [List.reverse_cons, ← List.append_assoc, khi_snoc, khi_snoc]
      split
      · exact ih
      · rw [if_neg (by omega), List.length_append]; omega
  intro b
  have := key b.reverse
  rwa [List.reverse_reverse] at this
theorem khi_blank : ∀ n : Nat, khi (List.replicate n 32) = 0
  | 0 => rfl
  | n + 1 => by
    rw [List.replicate_succ', khi_snoc, khi_blank n]
    have : Unicode.isSpace 32 = true := by decide +kernel
    rw [if_pos this]

theorem cline_eq (y : Str) : cline y = if khi y.cps.toList = 0 then Str.ofString "#" else Str.ofString "# " ++ ⟨(y.cps.toList.take (khi y.cps.toList)).toArray⟩ := by
  unfold cline
  rw [rstrip_eq]
  have e2 : (⟨(y.cps.toList.take (khi y.cps.toList)).toArray⟩ : Str).length = khi y.cps.toList := by
    show (List.take _ _).toArray.size = _
    have := khi_le y.cps.toList
    rw [List.size_toArray, List.length_take]; omega
  rw [e2]
theorem hash_len : (Str.ofString "#").length = 1 := by decide +kernel
theorem hash2_len : (Str.ofString "# ").length = 2 := by decide +kernel
theorem cline_len {y : Str} (h : y.length ≤ 24) : (cline y).length ≤ 26 := by
  rw [cline_eq]
  split
  · rw [hash_len]; omega
  · rw [Str.length_append, hash2_len]
    have h1 : (⟨(y.cps.toList.take (khi y.cps.toList)).toArray⟩ : Str).length ≤ y.length := by
      show (List.take _ _).toArray.size ≤ y.cps.size
      rw [List.size_toArray, List.length_take]; simp; omega
    omega

theorem setIn_row {k : Int} {y : Str} (h : 10 ∉ y.cps.toList) : (setIn (blanks k) y).cps.toList = if y.cps.toList = [] then [] else List.replicate k.toNat 32 ++ y.cps.toList := by
  show (setInL (blanks k).cps.toList true y.cps.toList) = _
  rw [setInL_row _ _ h]
  simp [blanks]

theorem cline_is {y : Str} {n : Nat} {l : List Nat} (hl : y.cps.toList = l) (hn : khi l = n) : cline y = if n = 0 then Str.ofString "#" else Str.ofString "# " ++ ⟨(l.take n).toArray⟩ := by
  rw [cline_eq, hl, hn]

theorem not_hash (z : Str) : (Str.ofString "# " ++ z != Str.ofString "#") = true := by
  rw [bne_iff_ne]
  intro e
  have := congrArg Str.length e
  rw [Str.length_append, hash_len, hash2_len] at this
  omega

theorem slice_two (z : Str) : Txt.slice (Str.ofString "# " ++ z) (some 2) none = z := by
  have h := slice_from_eq (x := Str.ofString "# " ++ z) (i := 2) (b := ((Str.ofString "# " ++ z).length : Int)) (by omega) (by rw [Str.length_append, hash2_len]; omega) rfl
  rw [h]
  have e : (Str.ofString "# " ++ z).cps.toList = [35, 32] ++ z.cps.toList := by
    have : Str.ofString "# " = ⟨#[35, 32]⟩ := by decide +kernel
    rw [this]
    show ((#[35, 32] ++ z.cps : Array Nat)).toList = _
    simp
  have e3 : (((Str.ofString "# " ++ z).length : Int) - 2).toNat = z.cps.toList.length := by
    rw [Str.length_append, hash2_len]
    simp [Str.length]
    omega
  rw [e, e3]
  show (⟨(List.take _ z.cps.toList).toArray⟩ : Str) = z
  rw [List.take_length]

theorem row_plain {k : Int} {y : Str} (h : 10 ∉ y.cps.toList) (hb : (cline y != Str.ofString "#") = false) : cline (setIn (blanks k) y) = cline y := by
  have hk : khi y.cps.toList = 0 := by
    by_cases h0 : khi y.cps.toList = 0
    · exact h0
    · rw [cline_eq, if_neg h0, not_hash] at hb
      cases hb
  have e : khi (if y.cps.toList = [] then [] else List.replicate k.toNat 32 ++ y.cps.toList) = 0 := by
    split
    · rfl
    · rw [khi_append, if_pos hk, khi_blank]
  rw [cline_is (n := 0) (l := y.cps.toList) rfl hk, cline_is (n := 0) (setIn_row h) e, if_pos rfl, if_pos rfl]

theorem row_pad {k : Int} {y : Str} (h : 10 ∉ y.cps.toList) (hb : (cline y != Str.ofString "#") = true) : cline (setIn (blanks k) y) = Str.ofString "# " ++ blanks k ++ Txt.slice (cline y) (some 2) none := by
  have hk : khi y.cps.toList ≠ 0 := by
    intro h0
    rw [cline_eq, if_pos h0] at hb
    exact bne_self' hb
  have hne : y.cps.toList ≠ [] := by
    intro e; rw [e] at hk; exact hk rfl
  have e1 : cline y = Str.ofString "# " ++ ⟨(y.cps.toList.take (khi y.cps.toList)).toArray⟩ := by rw [cline_eq, if_neg hk]
  have hs := setIn_row (k := k) h
  rw [if_neg hne] at hs
  rw [cline_is hs (n := k.toNat + khi y.cps.toList) (by rw [khi_append, if_neg hk, List.length_replicate]), if_neg (by omega), e1, slice_two]
  have e2 : (List.replicate k.toNat 32 ++ y.cps.toList).take (k.toNat + khi y.cps.toList) = List.replicate k.toNat 32 ++ y.cps.toList.take (khi y.cps.toList) := by
    rw [List.take_append]
    simp
  rw [e2]
  show (⟨_ ++ _⟩ : Str) = ⟨_ ++ _ ++ _⟩
  congr 1
  apply Array.ext'
  simp [blanks]

theorem row_free {x y : Str} {l : List (Str × Tok)} (e : l.map (·.1) = Txt.split x (Str.ofString "\n")) (h : y ∈ l.map (·.1)) : 10 ∉ y.cps.toList := by
  rw [e, show Str.ofString "\n" = ⟨#[10]⟩ by decide +kernel] at h
  exact StrLaws.split_free x 10 y h
theorem row_bad1 {k : Int} {y : Str} (h : 10 ∉ y.cps.toList) (hb : (cline y != Str.ofString "#") = true) (hc : (cline (setIn (blanks k) y) != Str.ofString "# " ++ blanks k ++ Txt.slice (cline y) (some 2) none) = true) : False := by
  rw [row_pad h hb] at hc; exact bne_self' hc
theorem row_bad2 {k : Int} {y : Str} (h : 10 ∉ y.cps.toList) (hb : (cline y != Str.ofString "#") = false) (hc : (cline (setIn (blanks k) y) != cline y) = true) : False := by
  rw [row_plain h hb] at hc; exact bne_self' hc
theorem blanks_len5 {k : Int} (h : k ≤ 5) : (blanks k).length ≤ 5 := by
  have := blanks_len k
  show (blanks k).cps.size ≤ 5
  omega
end

local macro_rules | `(tactic| walk_at "call ref") => `(tactic| (k_here; (with_reducible show wpAny _ _ (call (Value.ref 51) _) _ _ _); (k_dflt (refine' cline_use ?k1 ?k2 ?k3 ?k4 ?k5 ?k6 ?kp ?k7 ?k8 ?_; (case k1 => k_asm); (case k2 => k_asm); (case k3 => k_asm); (case k4 => k_asm); (case k5 => k_asm); (case k6 => first | exact rfl | assumption); (case kp => omega); (case k7 => ktr_room); (case k8 => ktr_units))); k_whole; intro t' h' tk' F' N'; (try dsimp only); (try k_fold)))
local macro_rules | `(tactic| walk_at "call ref") => `(tactic| (k_here; (with_reducible show wpAny _ _ (call (Value.ref 44) _) _ _ _); (k_dflt (refine' indent_use ?k1 ?k2 ?k3 ?k4 ?k5 ?k6 ?kp ?k7 ?k8 ?_; (case k1 => k_asm); (case k2 => k_asm); (case k3 => k_asm); (case k4 => k_asm); (case k5 => k_asm); (case k6 => first | exact rfl | assumption); (case kp => omega); (case k7 => ktr_room); (case k8 => ktr_units))); k_whole; intro t' h' tk' F' N'; (try dsimp only); (try k_fold)))

theorem iter_strs {prog : Program} {w : World} {A : Around} {E : Value → Shared → Prop} {s : Shared} {env : Env} {h₀ : Heap} {x : Str} {body : List Stmt} {Q : Flow → Shared → Prop} {l : Addr} {vs : List Value} {ys : List Str} {m₀ : Str → Option Value}
    (J : (Str → Option Value) → Prop) (hh : A.handled = none) (hls : s.heap.IsList l vs.toArray) (hlL : env.locals ≠ l) (hi : StrsAre vs ys) (F : Fr h₀ env.locals s.heap m₀) (hj : J m₀)
    (turn : ∀ y t m₁ h tk own, y ∈ ys → J m₁ → Fr h₀ env.locals h (fun z => if z = x then some (.str y t) else m₁ z) → News h₀ env.locals h own →
      wpAny (model prog w) A (execs body env) (InvPostN h₀ env.locals (fun m' nx => nx = [] ∧ J m') own [] { s with heap := h, toks := tk } Q) E { s with heap := h, toks := tk })
    (done : ∀ m₁ h tk, J m₁ → Fr h₀ env.locals h m₁ → Q .next { s with heap := h, toks := tk }) :
    wpAny (model prog w) A (pyIter (.ref l)) (fun it s₂ => LoopAtV prog w A h₀ env x body Q E it s₂) E s := by
  obtain ⟨ol, hol, r⟩ := id hls
  have hne : l ≠ s.heap.objs.size := Nat.ne_of_lt (Heap.lt_size hol)
  refine wpAny_pyIter_list hls ?_
  have W := Walks.list (prog := prog) (w := w) hh s.heap.objs.size l hne vs.toArray
  refine loop_invN (news := []) (fun _ m nx => nx = [] ∧ J m) W ?_ ?_ (fun p hp => nomatch hp) (fun p hp => nomatch hp)
    ⟨⟨_, Heap.get?_push_size _ rfl, rfl, rfl⟩, hls.at fun o e => Heap.get?_push_of_some _ e⟩ (F.push _) (fun p hp => nomatch hp) ⟨rfl, hj⟩ ?_ ?_
  · intro hm
    rcases List.mem_cons.mp hm with e | hm
    · exact absurd F.ns.lt (e ▸ Nat.lt_irrefl _)
    · exact hlL (List.mem_singleton.mp hm)
  · intro b hb
    rw [List.mem_singleton.mp hb]
    exact next_is_new F
  · rintro i v m₁ news₁ h tk own hin hP _ _ ⟨rfl, hJ⟩ F₁ N₁
    have hP' : vs[i]? = some v := by simpa using hP
    obtain ⟨lv, hv, hy⟩ := strsAre_values hi
    subst hv
    have hmem : ∃ y t, v = .str y t ∧ y ∈ ys := by
      have := List.mem_of_getElem? hP'
      simp only [strValues, List.mem_map] at this
      obtain ⟨q, hq, rfl⟩ := this
      exact ⟨q.1, q.2, rfl, by rw [← hy]; exact List.mem_map.mpr ⟨q, hq, rfl⟩⟩
    obtain ⟨y, t, rfl, hmy⟩ := hmem
    exact turn y t m₁ h tk own hmy hJ F₁ N₁
  · rintro m₁ news₁ h tk ⟨_, hJ⟩ F₁ _
    exact done m₁ h tk hJ F₁

local macro_rules | `(tactic| walk_at "exec For Name Call cons nil") => `(tactic| (k_here; (rename Fr _ _ _ _ => lF'); (with_unfolding_all refine' For_invVF lF' ?k1 ?k2 ?_; (case k1 => exact rfl); (case k2 => exact rfl); k_whole)))
local macro_rules | `(tactic| walk_at "binaryOp Add str str") => `(tactic| (k_here; (with_reducible show wpAny _ _ (binaryOp Operator.Add (Value.str _ _) (Value.str _ _)) _ _ _); (refine' add_str ?_ ?sz; (case sz => ((try simp only [Str.length_append]); (rw [sizeLine_eq]); omega)); (intro _ _))))
local macro_rules | `(tactic| walk_at "InvEndN") => `(tactic| k_dflt (refine' InvEndN.intro ?i1 ?i2 ?i3 ?i4 ?i5 ?i6; (case i1 => k_asm); (case i2 => k_asm); (case i3 => exact ⟨rfl, by with_unfolding_all rfl, by with_unfolding_all rfl⟩); (case i4 => exact rfl); (case i5 => exact fun p hp => nomatch hp); (case i6 => exact fun p hp => hp)))

theorem stageD (w : World) (mean : ExcName → Option Value) (mg mb : Str → Option Value) (h₀ : Heap) (L fa cd : Addr) (base : Heap) (s : Shared) (m : Str → Option Value) (x : Str) (t : Tok) (k : Int) (u tp : Tok) (qk : Flow → Shared → Prop)
    (B : Below callerA base [] h₀) (X : (hd.heap_39 w.params).In h₀) (T : Top hd.view_39 LOOSE mean mg mb h₀)
    (hx : x.length ≤ 24) (hk1 : -1 ≤ k) (hk2 : k ≤ 5) (F : Fr h₀ L s.heap (fun z => if z = Str.ofString "pad" then some (Value.str (blanks k) tp) else if z = Str.ofString "width" then some (Value.int k u) else if z = Str.ofString "text" then some (Value.str x t) else m z))
    (hq : ∀ h' tk' m', Fr h₀ L h' m' → qk (.ret (.bool true)) { s with heap := h', toks := tk' }) :
    wpAny (model Challenge.rw_mj0003_01.row.prog w) (callerA.deeper (envOf (Str.ofString "law") lawScope L fa (Value.ref cd))) (execs (lawBody.drop 12) (envOf (Str.ofString "law") lawScope L fa (Value.ref cd))) qk (fun _ _ => False) s := by
  revert X
  w_top off
  k_with_none
  k_fill
  intro X
  have N : News h₀ L s.heap [] := fun p hp => nomatch hp
  simp only [lawBody, lawScope, Challenge.pw_mj0003_01, List.getLast?_cons_cons, List.getLast?_singleton, List.drop_succ_cons, List.drop_zero, List.take_succ_cons, List.take_zero, List.cons_append, List.nil_append] at ⊢
  repeat (first | (k_unfold; (try dsimp only)) | walk1 | (dsimp only; walk1) | fail "no step")
  rename StrsAre _ _ => hS
  rename (List.map _ _ = Txt.split _ _) => hsp
  rename Heap.IsList _ _ _ => hls
  rename News _ _ _ _ => N9
  rename Fr _ _ _ _ => F9
  refine iter_strs (fun m₁ => m₁ (Str.ofString "pad") = some (.str (blanks k) tp) ∧ m₁ (Str.ofString "width") = some (.int k u)) rfl hls ?_ hS F9 ⟨by with_unfolding_all rfl, by with_unfolding_all rfl⟩ ?_ ?_
  · intro e
    have := (N9 _ (.head _)).2.1
    exact this e.symm
  · intro y ty m₁ h tk own hy hJ F₁ N₁
    have hy24 : y.length ≤ 24 := by
      rename_i hsh _
      exact Nat.le_trans (part_short (hsp ▸ hy)) hx
    have hfree := row_free hsp hy
    have hcl := cline_len hy24
    have hbl := blanks_len5 hk2
    have hh2 := hash2_len
    have hsi := setIn_short hy24 hk2
    have F₂ := fr_over (fr_over F₁ (y := Str.ofString "width") (v := .int k u) ((if_neg (by decide)).trans hJ.2)) (y := Str.ofString "pad") (v := .str (blanks k) tp) ((if_neg (by decide)).trans ((if_neg (by decide)).trans hJ.1))
    clear F₁ F9 N9 hls
    repeat' (first | (k_unfold; (try dsimp only)) | walk1 | (dsimp only; walk1) | fail "no step")
    all_goals (exfalso; first | exact row_bad1 hfree (by with_reducible assumption) (by with_reducible assumption) | exact row_bad2 hfree (by with_reducible assumption) (by with_reducible assumption))
  · intro m₁ h tk hJ F₁
    dsimp only
    repeat' (first | (k_unfold; (try dsimp only)) | walk1 | (dsimp only; walk1) | fail "no step")
    all_goals exact hq _ _ _ F₁

theorem law_all (w : World) (mean : ExcName → Option Value) (mg mb : Str → Option Value) (h₀ : Heap) (L fa cd l : Addr) (base : Heap) (s : Shared) (m : Str → Option Value) (vs : List Value) (ns : List Int) (qk : Flow → Shared → Prop)
    (B : Below callerA base [] h₀) (X : (hd.heap_39 w.params).In h₀) (T : Top hd.view_39 LOOSE mean mg mb h₀)
    (hl : h₀.IsList l vs.toArray) (hi : IntsAre vs ns) (h63 : ns.length ≤ 63)
    (F : Fr h₀ L s.heap m) (hm : m (Str.ofString "script") = some (Value.ref l))
    (hq : ∀ h' tk' m', Fr h₀ L h' m' → qk (.ret (.bool true)) { s with heap := h', toks := tk' }) :
    wpAny (model Challenge.rw_mj0003_01.row.prog w) (callerA.deeper (envOf (Str.ofString "law") lawScope L fa (Value.ref cd))) (execs lawBody (envOf (Str.ofString "law") lawScope L fa (Value.ref cd))) qk (fun _ _ => False) s := by
  have e0 : lawBody = lawBody.take 2 ++ lawBody.drop 2 := (List.take_append_drop 2 lawBody).symm
  have e2 : lawBody.drop 2 = (lawBody.drop 2).take 2 ++ lawBody.drop 4 := by
    have := (List.take_append_drop 2 (lawBody.drop 2)).symm
    rwa [List.drop_drop] at this
  have e4 : lawBody.drop 4 = (lawBody.drop 4).take 5 ++ lawBody.drop 9 := by
    have := (List.take_append_drop 5 (lawBody.drop 4)).symm
    rwa [List.drop_drop] at this
  have e9 : lawBody.drop 9 = (lawBody.drop 9).take 3 ++ lawBody.drop 12 := by
    have := (List.take_append_drop 3 (lawBody.drop 9)).symm
    rwa [List.drop_drop] at this
  rw [e0]
  refine stage0 w mean mg mb h₀ L fa cd l base s m vs ns qk _ _ B X T hl hi h63 (fr_over F hm) ?_
  intro D vs' nn cs h1 tk1 m1 news F1 N1 hI1 hc1 hc2
  rw [e2]
  refine stageA w mean mg mb h₀ L fa cd D base _ m1 news vs' nn cs qk _ _ B X T F1 N1 hI1 hc1 hc2 ?_
  intro x t k u h2 tk2 m2 hx hk1 hk2 F2
  rw [e4]
  refine stageB w mean mg mb h₀ L fa cd base _ m2 x t k u qk _ _ B X T hx hk1 hk2 F2 ?_
  intro tp h3 tk3 m3 F3
  rw [e9]
  refine stageC w mean mg mb h₀ L fa cd base _ m3 x t k u tp qk _ B X T hx F3 ?_
  intro h4 tk4 m4 F4
  exact stageD w mean mg mb h₀ L fa cd base _ m4 x t k u tp qk B X T hx hk1 hk2 F4 fun h' tk' m' F' => hq h' tk' m' F'

end Mine

theorem PySem.Challenge.cw_mj0003_01_holds : PySem.Challenge.rw_mj0003_01.Holds := by
  refine Mine.hd ?_
  k_with_none
  k_go0
  rename Below _ _ _ _ => B9
  rename Top _ _ _ _ _ _ => T9
  rename IntsAre _ _ => I9
  rename Frag.In _ _ => X9
  rename Heap.IsList _ _ _ => L9
  rename Fr _ _ _ _ => F9
  rename (¬ (_ : Int) < _) => hc9
  refine wpAny_mono (Mine.law_all _ _ _ _ _ _ _ _ _ _ _ _ _ _ _ B9 X9 T9 L9 I9 (by omega) F9 (by with_unfolding_all rfl) ?_) (fun _ _ h => h) (fun _ _ h => h.elim)
  intro h' tk' m' F'
  clear F9
  dsimp only
  first | kc_close | wrow_close
