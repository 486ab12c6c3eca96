import PyProof.Rows.All
import Wide.All
import OpenK.AllK
import Wide.FinOn
import PySem.Challenge.RW_be5035_01
open PySem PySem.W PyProof.Rows
set_option Elab.async false
set_option maxRecDepth 100000
set_option maxHeartbeats 8000000
-- part Hd
namespace Mine
open_top hd for PySem.Challenge.rw_be5035_01
end Mine
-- part S1
namespace Mine
open PySem.Calls

theorem pa_pattern : PlainAttrs "re.Pattern" :=
  ⟨⟨"object.__getattribute__", by rw [typeLookup_type, builtinLookup_eq_fast]; kernel_rfl, by decide +kernel⟩, by rw [typeLookup_type, builtinLookup_eq_fast]; kernel_rfl⟩
theorem owner_pattern : Manifest.owners.lookup (String.ofList ['n', 'r', 'e', 't', 't', 'a', 'P', '.', 'e', 'r'].reverse) = some Manifest.sig_re_Pattern := by kernel_rfl
theorem pa_match : PlainAttrs "re.Match" :=
  ⟨⟨"object.__getattribute__", by rw [typeLookup_type, builtinLookup_eq_fast]; kernel_rfl, by decide +kernel⟩, by rw [typeLookup_type, builtinLookup_eq_fast]; kernel_rfl⟩
theorem owner_match : Manifest.owners.lookup (String.ofList ['h', 'c', 't', 'a', 'M', '.', 'e', 'r'].reverse) = some Manifest.sig_re_Match := by kernel_rfl
theorem slot_search : Slot "re.Pattern" "search" "re.Pattern.search" :=
  .of (owner := "re.Pattern") (n := "search") (by rw [typeLookup_type, builtinLookup_eq_fast]; kernel_rfl) (by decide +kernel) (by decide +kernel) (by decide +kernel)
    (by first | exact .inl (by decide +kernel) | exact .inr (by decide +kernel)) (by rw [isSubtype_type]; kernel_rfl)
theorem type_search : typeOf (.builtin "re.Pattern.search") = pure (.type "method_descriptor") := by show builtinType _ = _; rw [builtinType_eq_fast]; kernel_rfl
theorem entry_search : entryFor table "re.Pattern.search" = some Builtin.«re.Pattern.search» := entryFor_of_tree (by kernel_rfl)
theorem args_search (a b c : Value) : argsOk "re.Pattern.search" ⟨[a, b, c], []⟩ := by
  unfold argsOk; rw [signature?_of (id := "re.Pattern.search") (n := ['h', 'c', 'r', 'a', 'e', 's']) (o := ['n', 'r', 'e', 't', 't', 'a', 'P', '.', 'e', 'r']) (by kernel_rfl) owner_pattern]; kernel_rfl
theorem slot_sub : Slot "re.Pattern" "sub" "re.Pattern.sub" :=
  .of (owner := "re.Pattern") (n := "sub") (by rw [typeLookup_type, builtinLookup_eq_fast]; kernel_rfl) (by decide +kernel) (by decide +kernel) (by decide +kernel)
    (by first | exact .inl (by decide +kernel) | exact .inr (by decide +kernel)) (by rw [isSubtype_type]; kernel_rfl)
theorem type_sub : typeOf (.builtin "re.Pattern.sub") = pure (.type "method_descriptor") := by show builtinType _ = _; rw [builtinType_eq_fast]; kernel_rfl
theorem entry_sub : entryFor table "re.Pattern.sub" = some Builtin.«re.Pattern.sub» := entryFor_of_tree (by kernel_rfl)
theorem args_sub (a b c : Value) : argsOk "re.Pattern.sub" ⟨[a, b, c], []⟩ := by
  unfold argsOk; rw [signature?_of (id := "re.Pattern.sub") (n := ['b', 'u', 's']) (o := ['n', 'r', 'e', 't', 't', 'a', 'P', '.', 'e', 'r']) (by kernel_rfl) owner_pattern]; kernel_rfl
theorem slot_start : Slot "re.Match" "start" "re.Match.start" :=
  .of (owner := "re.Match") (n := "start") (by rw [typeLookup_type, builtinLookup_eq_fast]; kernel_rfl) (by decide +kernel) (by decide +kernel) (by decide +kernel)
    (by first | exact .inl (by decide +kernel) | exact .inr (by decide +kernel)) (by rw [isSubtype_type]; kernel_rfl)
theorem type_start : typeOf (.builtin "re.Match.start") = pure (.type "method_descriptor") := by show builtinType _ = _; rw [builtinType_eq_fast]; kernel_rfl
theorem entry_start : entryFor table "re.Match.start" = some Builtin.«re.Match.start» := entryFor_of_tree (by kernel_rfl)
theorem args_start (a : Value) : argsOk "re.Match.start" ⟨[a], []⟩ := by
  unfold argsOk; rw [signature?_of (id := "re.Match.start") (n := ['t', 'r', 'a', 't', 's']) (o := ['h', 'c', 't', 'a', 'M', '.', 'e', 'r']) (by kernel_rfl) owner_match]; kernel_rfl
theorem slot_groups : Slot "re.Match" "groups" "re.Match.groups" :=
  .of (owner := "re.Match") (n := "groups") (by rw [typeLookup_type, builtinLookup_eq_fast]; kernel_rfl) (by decide +kernel) (by decide +kernel) (by decide +kernel)
    (by first | exact .inl (by decide +kernel) | exact .inr (by decide +kernel)) (by rw [isSubtype_type]; kernel_rfl)
theorem type_groups : typeOf (.builtin "re.Match.groups") = pure (.type "method_descriptor") := by show builtinType _ = _; rw [builtinType_eq_fast]; kernel_rfl
theorem entry_groups : entryFor table "re.Match.groups" = some Builtin.«re.Match.groups» := entryFor_of_tree (by kernel_rfl)
theorem args_groups (a : Value) : argsOk "re.Match.groups" ⟨[a], []⟩ := by
  unfold argsOk; rw [signature?_of (id := "re.Match.groups") (n := ['s', 'p', 'u', 'o', 'r', 'g']) (o := ['h', 'c', 't', 'a', 'M', '.', 'e', 'r']) (by kernel_rfl) owner_match]; kernel_rfl
theorem entry_subloop : entryFor table "re.Pattern.sub.loop" = some Builtin.«re.Pattern.sub.loop» := entryFor_of_tree (by kernel_rfl)
end Mine
-- part S3
open PySem
namespace Mine
open PySem.Sre
def C171 : Array Nat := #[14, 8, 1, 2, 10, 1, 1, 92, 0, 16, 92, 7, 19, 17, 0, 13, 11, 9, 0, 132, 268435456, 1327172, 0, 0, 0, 0, 0, 17, 1, 15, 55, 53, 17, 2, 7, 22, 16, 117, 24, 16, 4, 4, 13, 11, 9, 0, 67043328, 126, 126, 0, 0, 0, 0, 0, 1, 15, 24, 22, 16, 85, 24, 16, 8, 8, 13, 11, 9, 0, 67043328, 126, 126, 0, 0, 0, 0, 0, 1, 15, 2, 0, 17, 3, 15, 2, 0, 1]
/-- the machine over the turtle pattern, its fields that move -/
def mst (t : Array Nat) (s pc pos h : Nat) (om : Bool) (marks : Array (Option Nat)) (lm li : Int) (fr : List Sre.Frame) (wt : Nat) (ans : Option Bool) (seen : Sre.Seen) : M :=
  { code := C171, text := t, lim := t.size, start := s, lastStart := t.size, pc, pos, handed := h, outermost := om, marks, lastmark := lm, lastindex := li, frames := fr, weight := wt, answer := ans, seen }
def fStart (s : Nat) (first : Bool) : Sre.Frame := { wait := .nextStart, pc := 9, pos := s, outermost := first }
def at0 (t : Array Nat) (s : Nat) (first : Bool) (marks : Array (Option Nat)) (seen : Sre.Seen) : M :=
  mst t s 9 s s first marks (-1) (-1) [fStart s first] 1 none seen
theorem seg_lit {t : Array Nat} {s : Nat} {first : Bool} {marks : Array (Option Nat)} {seen : Sre.Seen} :
    (at0 t s first marks seen).step = if s ≥ t.size then mst t s 9 s s first marks (-1) (-1) [fStart s first] 1 (some false) (seen.add 16)
      else bif (t.getD s 0 == 92) then mst t s 11 (s + 1) s first marks (-1) (-1) [fStart s first] 1 none (seen.add 16)
      else mst t s 9 s s first marks (-1) (-1) [fStart s first] 1 (some false) (seen.add 16) := by
  kernel_rfl!
theorem seg_miss {t : Array Nat} {s h : Nat} {om first : Bool} {pc pos : Nat} {marks : Array (Option Nat)} {lm li : Int} {seen : Sre.Seen} :
    (mst t s pc pos h om marks lm li [fStart s first] 1 (some false) seen).step = if s < t.size then at0 t (s + 1) false marks seen
      else mst t s 9 s h first marks lm li [] 0 (some false) seen := by
  kernel_rfl!
theorem seg_over {t : Array Nat} {s h : Nat} {om : Bool} {pc pos : Nat} {marks : Array (Option Nat)} {lm li : Int} {seen : Sre.Seen} :
    (mst t s pc pos h om marks lm li [] 0 (some false) seen).step.outcome = some .failed := by
  kernel_rfl!
def fAlt (pc pos : Nat) (om : Bool) : Sre.Frame := { wait := .nextBranch, pc, pos, outermost := om, kept := { lastmark := -1, lastindex := -1, whole := false, marks := #[] } }
-- BRANCH, MARK 0, IN
def hit (c : Nat) : Bool := c < 256 && (C171.getD (17 + (1 + c / 32)) 0).testBit (c % 32)

theorem seg_in {t : Array Nat} {s q h : Nat} {om : Bool} {m0 m1 m2 m3 : Option Nat} {first : Bool} {seen : Sre.Seen} :
    (mst t s 11 q h om #[m0, m1, m2, m3] (-1) (-1) [fStart s first] 1 none seen).step.step = mst t s 15 q q om #[some q, m1, m2, m3] 0 (-1) [fAlt 12 q om, fStart s first] 2 none ((seen.add 7).add 17) := by
  kernel_rfl!
theorem acc_in {c : Nat} {seen : Sre.Seen} : accepts C171 15 c seen = if hit c = true then .ok (true, seen.add 9) else .ok (false, (seen.add 9).add 0) := by
  kernel_rfl!
def afterOne (pc w s q h : Nat) (t : Array Nat) (om : Bool) (marks : Array (Option Nat)) (lm li : Int) (fr : List Sre.Frame) (wt : Nat) (r : Except String (Bool × Sre.Seen)) : M := match r with
  | .error why => (mst t s pc q h om marks lm li fr wt none {}).stick why
  | .ok (false, seen) => mst t s pc q h om marks lm li fr wt (some false) seen
  | .ok (true, seen) => mst t s (pc + w) (q + 1) h om marks lm li fr wt none seen
theorem seg_in1 {t : Array Nat} {s q h : Nat} {om : Bool} {marks : Array (Option Nat)} {lm li : Int} {fr : List Sre.Frame} {wt : Nat} {seen : Sre.Seen} (hq : q < t.size) {b : Bool} (hc : hit (t.getD q 0) = b) :
    ∃ seen', (mst t s 15 q h om marks lm li fr wt none seen).step = bif b then mst t s 27 (q + 1) h om marks lm li fr wt none seen' else mst t s 15 q h om marks lm li fr wt (some false) seen' := by
  have e : (mst t s 15 q h om marks lm li fr wt none seen).step = if q ≥ t.size then mst t s 15 q h om marks lm li fr wt (some false) (seen.add 13)
      else (match accepts C171 15 (t.getD q 0) (seen.add 13) with
        | .error why => (mst t s 15 q h om marks lm li fr wt none (seen.add 13)).stick why
        | .ok (false, seen) => mst t s 15 q h om marks lm li fr wt (some false) seen
        | .ok (true, seen) => mst t s 27 (q + 1) h om marks lm li fr wt none seen) := by kernel_rfl!
  rw [e, if_neg (Nat.not_le.mpr hq), acc_in, hc]
  cases b with
  | true => exact ⟨_, rfl⟩
  | false => exact ⟨_, rfl⟩
-- a miss in the first branch: the second one opens, its first branch too
theorem seg_b2 {t : Array Nat} {s q h : Nat} {om om' : Bool} {pc q' : Nat} {m0 m1 m2 m3 : Option Nat} {lm li : Int} {first : Bool} {seen : Sre.Seen} :
    (mst t s pc q' h om' #[m0, m1, m2, m3] lm li [fAlt 12 q om, fStart s first] 2 (some false) seen).step.step.step =
      mst t s 36 q q om #[none, none, some q, m3] 2 (-1) [{ fAlt 35 q om with kept := { lastmark := 2, lastindex := -1, whole := false, marks := #[] } }, fAlt 31 q om, fStart s first] 3 none ((seen.add 17).add 7) := by
  kernel_rfl!
def fU (pc q : Nat) (om : Bool) : Sre.Frame := { fAlt pc q om with kept := { lastmark := 2, lastindex := -1, whole := false, marks := #[] } }
theorem seg_u {t : Array Nat} {s q h : Nat} {om : Bool} {marks : Array (Option Nat)} {lm li : Int} {fr : List Sre.Frame} {wt : Nat} {seen : Sre.Seen} (hq : q < t.size) {b : Bool} (hc : (t.getD q 0 == 117) = b) :
    ∃ seen', (mst t s 36 q h om marks lm li fr wt none seen).step = bif b then mst t s 38 (q + 1) h om marks lm li fr wt none seen' else mst t s 36 q h om marks lm li fr wt (some false) seen' := by
  have e : (mst t s 36 q h om marks lm li fr wt none seen).step = if q ≥ t.size then mst t s 36 q h om marks lm li fr wt (some false) (seen.add 16)
      else bif (t.getD q 0 == 117) then mst t s 38 (q + 1) h om marks lm li fr wt none (seen.add 16) else mst t s 36 q h om marks lm li fr wt (some false) (seen.add 16) := by kernel_rfl!
  rw [e, if_neg (Nat.not_le.mpr hq), hc]
  cases b with
  | true => exact ⟨_, rfl⟩
  | false => exact ⟨_, rfl⟩
theorem seg_U {t : Array Nat} {s q h : Nat} {om : Bool} {marks : Array (Option Nat)} {lm li : Int} {fr : List Sre.Frame} {wt : Nat} {seen : Sre.Seen} (hq : q < t.size) {b : Bool} (hc : (t.getD q 0 == 85) = b) :
    ∃ seen', (mst t s 58 q h om marks lm li fr wt none seen).step = bif b then mst t s 60 (q + 1) h om marks lm li fr wt none seen' else mst t s 58 q h om marks lm li fr wt (some false) seen' := by
  have e : (mst t s 58 q h om marks lm li fr wt none seen).step = if q ≥ t.size then mst t s 58 q h om marks lm li fr wt (some false) (seen.add 16)
      else bif (t.getD q 0 == 85) then mst t s 60 (q + 1) h om marks lm li fr wt none (seen.add 16) else mst t s 58 q h om marks lm li fr wt (some false) (seen.add 16) := by kernel_rfl!
  rw [e, if_neg (Nat.not_le.mpr hq), hc]
  cases b with
  | true => exact ⟨_, rfl⟩
  | false => exact ⟨_, rfl⟩
-- a miss at the letter u (or in its digits): the letter U
theorem seg_b3 {t : Array Nat} {s q h : Nat} {om om' : Bool} {pc q' : Nat} {marks : Array (Option Nat)} {lm li : Int} {first : Bool} {seen : Sre.Seen} :
    (mst t s pc q' h om' marks lm li [fU 35 q om, fAlt 31 q om, fStart s first] 3 (some false) seen).step =
      mst t s 58 q q om marks 2 (-1) [fU 57 q om, fAlt 31 q om, fStart s first] 3 none seen := by
  kernel_rfl!
-- a miss at the letter U: no branch is left
theorem seg_b4 {t : Array Nat} {s q h : Nat} {om om' : Bool} {pc q' : Nat} {marks : Array (Option Nat)} {lm li : Int} {first : Bool} {seen : Sre.Seen} :
    (mst t s pc q' h om' marks lm li [fU 57 q om, fAlt 31 q om, fStart s first] 3 (some false) seen).step.step =
      mst t s 31 q h om marks (-1) (-1) [fStart s first] 1 (some false) seen := by
  kernel_rfl!
-- a hit: MARK 1, JUMP, SUCCESS, and back
theorem seg_hit {t : Array Nat} {s q h : Nat} {om : Bool} {m0 m1 m2 m3 : Option Nat} {first : Bool} {seen : Sre.Seen} :
    (mst t s 27 (q + 1) h om #[m0, m1, m2, m3] 0 (-1) [fAlt 12 q om, fStart s first] 2 none seen).step.step.step.step.step.step =
      { mst t s 9 s (q + 1) first #[m0, some (q + 1), m2, m3] 1 1 [] 0 (some true) (((seen.add 17).add 15).add 1) with outcome := some .matched } := by
  cases om with
  | true => kernel_rfl!
  | false => kernel_rfl!
-- the digits' room
theorem seg_r4 {t : Array Nat} {s q h : Nat} {om : Bool} {marks : Array (Option Nat)} {lm li : Int} {fr : List Sre.Frame} {wt : Nat} {seen : Sre.Seen} (hq : (4 : Int) > (t.size : Int) - (q : Int)) :
    (mst t s 38 q h om marks lm li fr wt none seen).step = mst t s 38 q h om marks lm li fr wt (some false) (seen.add 24) := by
  have e : (mst t s 38 q h om marks lm li fr wt none seen).step = (mst t s 38 q h om marks lm li fr wt none seen).exec := by kernel_rfl!
  rw [e]
  unfold M.exec
  simp only [show (ops[(mst t s 38 q h om marks lm li fr wt none seen).word 0]?) = some .REPEAT_ONE from by kernel_rfl!]
  refine (if_pos (show (4 : Int) > (t.size : Int) - (q : Int) from hq)).trans ?_
  kernel_rfl!
theorem seg_r8 {t : Array Nat} {s q h : Nat} {om : Bool} {marks : Array (Option Nat)} {lm li : Int} {fr : List Sre.Frame} {wt : Nat} {seen : Sre.Seen} (hq : (8 : Int) > (t.size : Int) - (q : Int)) :
    (mst t s 60 q h om marks lm li fr wt none seen).step = mst t s 60 q h om marks lm li fr wt (some false) (seen.add 24) := by
  have e : (mst t s 60 q h om marks lm li fr wt none seen).step = (mst t s 60 q h om marks lm li fr wt none seen).exec := by kernel_rfl!
  rw [e]
  unfold M.exec
  simp only [show (ops[(mst t s 60 q h om marks lm li fr wt none seen).word 0]?) = some .REPEAT_ONE from by kernel_rfl!]
  refine (if_pos (show (8 : Int) > (t.size : Int) - (q : Int) from hq)).trans ?_
  kernel_rfl!

theorem runFor_step {n : Nat} {m : M} (h : m.outcome = none) : m.runFor (n + 1) = m.step.runFor n := by
  show (if m.outcome.isSome = true then m else m.step.runFor n) = _
  rw [h]; rfl
theorem runFor_done {m : M} (h : m.outcome.isSome = true) : ∀ n, m.runFor n = m
  | 0 => rfl
  | n + 1 => by show (if m.outcome.isSome = true then m else m.step.runFor n) = _; rw [if_pos h]
theorem runFor_add {m : M} : ∀ (a b : Nat), m.runFor (a + b) = (m.runFor a).runFor b
  | 0, b => by rw [Nat.zero_add]; rfl
  | a + 1, b => by
    cases h : m.outcome with
    | some o =>
      have hs : m.outcome.isSome = true := by rw [h]; rfl
      rw [runFor_done hs, runFor_done hs, runFor_done hs]
    | none => rw [Nat.add_right_comm, runFor_step h, runFor_step h]; exact runFor_add (m := m.step) a b

/-- it comes to an end within n steps, with P -/
def Ends (n : Nat) (m : M) (P : M → Prop) : Prop := ∃ m', m.runFor n = m' ∧ m'.outcome.isSome = true ∧ P m'
theorem Ends.step {n : Nat} {m : M} {P : M → Prop} (h : m.outcome = none) (e : Ends n m.step P) : Ends (n + 1) m P := by
  obtain ⟨m', h1, h2, h3⟩ := e
  exact ⟨m', by rw [runFor_step h, h1], h2, h3⟩
theorem Ends.here {m : M} {P : M → Prop} (h : m.outcome.isSome = true) (hp : P m) : Ends 0 m P := ⟨m, rfl, h, hp⟩
theorem Ends.more {n k : Nat} {m : M} {P : M → Prop} (e : Ends n m P) (h : n ≤ k) : Ends k m P := by
  obtain ⟨m', h1, h2, h3⟩ := e
  obtain ⟨d, rfl⟩ := Nat.exists_eq_add_of_le h
  exact ⟨m', by rw [runFor_add, h1, runFor_done h2], h2, h3⟩
def Fails (n : Nat) (m : M) : Prop := Ends n m (fun m' => m'.outcome = some .failed)
/-- the record's part that a reader of the match asks -/
structure Hit (m : M) (b e : Nat) : Prop where
  out : m.outcome = some .matched
  start : m.start = b
  handed : m.handed = e
  lastmark : m.lastmark = 1
  lastindex : m.lastindex = 1
  marks : ∃ m2 m3, m.marks = #[some (b + 1), some (b + 2), m2, m3]

theorem outcome_mst {t s pc pos h om marks lm li fr wt ans seen} : (mst t s pc pos h om marks lm li fr wt ans seen).outcome = none := rfl
theorem outcome_at0 {t s first marks seen} : (at0 t s first marks seen).outcome = none := rfl

/-- text[s] is no backslash: the next start -/
theorem miss_at {n : Nat} {t : Array Nat} {s : Nat} {first : Bool} {marks : Array (Option Nat)} {seen : Sre.Seen} {P : M → Prop} (hs : s < t.size) (hc : (t.getD s 0 == 92) = false)
    (k : ∀ seen', Ends n (at0 t (s + 1) false marks seen') P) : Ends (n + 2) (at0 t s first marks seen) P := by
  refine Ends.step outcome_at0 ?_
  rw [seg_lit, if_neg (Nat.not_le.mpr hs), hc, cond_false]
  refine Ends.step outcome_mst ?_
  rw [seg_miss, if_pos hs]
  exact k _
/-- the end of the text -/
theorem end_at {t : Array Nat} {s : Nat} {first : Bool} {marks : Array (Option Nat)} {seen : Sre.Seen} (hs : t.size ≤ s) : Fails 3 (at0 t s first marks seen) := by
  refine Ends.step outcome_at0 ?_
  rw [seg_lit, if_pos hs]
  refine Ends.step outcome_mst ?_
  rw [seg_miss, if_neg (Nat.not_lt.mpr hs)]
  refine Ends.step outcome_mst ?_
  exact Ends.here (by rw [seg_over]; rfl) seg_over
/-- no backslash from s on -/
theorem tail_at {t : Array Nat} : ∀ (d s : Nat) {first : Bool} {marks : Array (Option Nat)} {seen : Sre.Seen}, t.size ≤ s + d → (∀ k, s ≤ k → k < t.size → (t.getD k 0 == 92) = false) → Fails (2 * d + 3) (at0 t s first marks seen)
  | 0, s, _, _, _, h, _ => end_at h
  | d + 1, s, _, _, _, h, hn => by
    by_cases hs : s < t.size
    · exact miss_at hs (hn s (Nat.le_refl _) hs) fun _ => tail_at d (s + 1) (by omega) fun k hk => hn k (by omega)
    · exact (end_at (Nat.not_lt.mp hs)).more (by omega)
/-- a run of signs that are no backslash -/
theorem skip_at {n : Nat} {t : Array Nat} {P : M → Prop} : ∀ (d s : Nat) {first : Bool} {marks : Array (Option Nat)} {seen : Sre.Seen}, s + d ≤ t.size → (∀ k, s ≤ k → k < s + d → (t.getD k 0 == 92) = false) →
    (∀ first' seen', Ends n (at0 t (s + d) first' marks seen') P) → Ends (n + 2 * d) (at0 t s first marks seen) P
  | 0, s, _, _, _, _, _, k => k _ _
  | d + 1, s, _, _, _, h, hn, k => by
    have e : n + 2 * (d + 1) = n + 2 * d + 2 := by omega
    rw [e]
    refine miss_at (by omega) (hn s (Nat.le_refl _) (by omega)) fun _ => skip_at d (s + 1) (by omega) (fun k h1 h2 => hn k (by omega) (by omega)) fun f' s' => ?_
    have e2 : s + 1 + d = s + (d + 1) := by omega
    rw [e2]
    exact k f' s'
/-- a backslash and a sign of the eight -/
theorem good_at {t : Array Nat} {s : Nat} {first : Bool} {m0 m1 m2 m3 : Option Nat} {seen : Sre.Seen} (hs : s + 1 < t.size) (hb : (t.getD s 0 == 92) = true) (hc : hit (t.getD (s + 1) 0) = true) :
    Ends 10 (at0 t s first #[m0, m1, m2, m3] seen) (fun m' => Hit m' s (s + 2)) := by
  refine Ends.step outcome_at0 ?_
  rw [seg_lit, if_neg (by omega), hb, cond_true]
  refine Ends.step outcome_mst (Ends.step (by kernel_rfl!) ?_)
  rw [seg_in]
  refine Ends.step outcome_mst ?_
  obtain ⟨seen', e⟩ := seg_in1 (s := s) (h := s + 1) (om := first) (marks := #[some (s + 1), m1, m2, m3]) (lm := 0) (li := -1) (fr := [fAlt 12 (s + 1) first, fStart s first]) (wt := 2) (seen := ((seen.add 16).add 7).add 17) hs hc
  rw [e, cond_true]
  have q : ∀ m : M, m.outcome = none → m.step.outcome = none → m.step.step.outcome = none → m.step.step.step.outcome = none → m.step.step.step.step.outcome = none → m.step.step.step.step.step.outcome = none → M.runFor 6 m = m.step.step.step.step.step.step := by
    intro m h0 h1 h2 h3 h4 h5
    rw [runFor_step h0, runFor_step h1, runFor_step h2, runFor_step h3, runFor_step h4, runFor_step h5]
    rfl
  have key := (q (mst t s 27 (s + 1 + 1) (s + 1) first #[some (s + 1), m1, m2, m3] 0 (-1) [fAlt 12 (s + 1) first, fStart s first] 2 none seen') outcome_mst (by kernel_rfl!) (by kernel_rfl!)
    (by cases first with | true => kernel_rfl! | false => kernel_rfl!) (by cases first with | true => kernel_rfl! | false => kernel_rfl!) (by cases first with | true => kernel_rfl! | false => kernel_rfl!)).trans seg_hit
  exact ⟨_, key, rfl, ⟨rfl, rfl, rfl, rfl, rfl, ⟨m2, m3, rfl⟩⟩⟩
/-- a backslash and another sign, or u, U with too little room -/
theorem bad_at {n : Nat} {t : Array Nat} {s : Nat} {first : Bool} {m0 m1 m2 m3 : Option Nat} {seen : Sre.Seen} {P : M → Prop} (hs : s + 1 < t.size) (hb : (t.getD s 0 == 92) = true) (hc : hit (t.getD (s + 1) 0) = false)
    (hr : t.size < s + 2 + 4) (k : ∀ seen', Ends n (at0 t (s + 1) false #[none, none, some (s + 1), m3] seen') P) : Ends (n + 15) (at0 t s first #[m0, m1, m2, m3] seen) P := by
  have last : ∀ {pc q' : Nat} {om' : Bool} {lm li : Int} {seen : Sre.Seen}, Ends (n + 3) (mst t s pc q' (s + 1) om' #[none, none, some (s + 1), m3] lm li [fU 57 (s + 1) first, fAlt 31 (s + 1) first, fStart s first] 3 (some false) seen) P := by
    intro pc q' om' lm li seen
    refine Ends.step outcome_mst (Ends.step (by kernel_rfl!) ?_)
    rw [seg_b4]
    refine Ends.step outcome_mst ?_
    rw [seg_miss, if_pos (by omega)]
    exact k _
  have lastU : ∀ {pc q' : Nat} {om' : Bool} {lm li : Int} {seen : Sre.Seen}, Ends (n + 6) (mst t s pc q' (s + 1) om' #[none, none, some (s + 1), m3] lm li [fU 35 (s + 1) first, fAlt 31 (s + 1) first, fStart s first] 3 (some false) seen) P := by
    intro pc q' om' lm li seen
    refine Ends.step outcome_mst ?_
    rw [seg_b3]
    refine Ends.step outcome_mst ?_
    cases hU : (t.getD (s + 1) 0 == 85) with
    | false =>
      obtain ⟨seen', e⟩ := seg_U (s := s) (h := s + 1) (om := first) (marks := #[none, none, some (s + 1), m3]) (lm := 2) (li := -1) (fr := [fU 57 (s + 1) first, fAlt 31 (s + 1) first, fStart s first]) (wt := 3) (seen := seen) hs hU
      rw [e, cond_false]
      exact last.more (by omega)
    | true =>
      obtain ⟨seen', e⟩ := seg_U (s := s) (h := s + 1) (om := first) (marks := #[none, none, some (s + 1), m3]) (lm := 2) (li := -1) (fr := [fU 57 (s + 1) first, fAlt 31 (s + 1) first, fStart s first]) (wt := 3) (seen := seen) hs hU
      rw [e, cond_true]
      refine Ends.step outcome_mst ?_
      rw [seg_r8 (by omega)]
      exact last
  have e15 : n + 15 = n + 14 + 1 := rfl
  rw [e15]
  refine Ends.step outcome_at0 ?_
  rw [seg_lit, if_neg (by omega), hb, cond_true]
  refine Ends.step outcome_mst (Ends.step (by kernel_rfl!) ?_)
  rw [seg_in]
  refine Ends.step outcome_mst ?_
  obtain ⟨seen', e⟩ := seg_in1 (s := s) (h := s + 1) (om := first) (marks := #[some (s + 1), m1, m2, m3]) (lm := 0) (li := -1) (fr := [fAlt 12 (s + 1) first, fStart s first]) (wt := 2) (seen := ((seen.add 16).add 7).add 17) hs hc
  rw [e, cond_false]
  refine Ends.step outcome_mst (Ends.step (by kernel_rfl!) (Ends.step (by kernel_rfl!) ?_))
  rw [seg_b2]
  refine Ends.step outcome_mst ?_
  show Ends (n + 7) (mst t s 36 (s + 1) (s + 1) first #[none, none, some (s + 1), m3] 2 (-1) [fU 35 (s + 1) first, fAlt 31 (s + 1) first, fStart s first] 3 none _).step P
  cases hu : (t.getD (s + 1) 0 == 117) with
  | false =>
    obtain ⟨seen', e⟩ := seg_u (s := s) (h := s + 1) (om := first) (marks := #[none, none, some (s + 1), m3]) (lm := 2) (li := -1) (fr := [fU 35 (s + 1) first, fAlt 31 (s + 1) first, fStart s first]) (wt := 3) (seen := (seen'.add 17).add 7) hs hu
    rw [e, cond_false]
    exact lastU.more (by omega)
  | true =>
    obtain ⟨seen', e⟩ := seg_u (s := s) (h := s + 1) (om := first) (marks := #[none, none, some (s + 1), m3]) (lm := 2) (li := -1) (fr := [fU 35 (s + 1) first, fAlt 31 (s + 1) first, fStart s first]) (wt := 3) (seen := (seen'.add 17).add 7) hs hu
    rw [e, cond_true]
    refine Ends.step outcome_mst ?_
    rw [seg_r4 (by omega)]
    exact lastU
/-- where a search begins -/
theorem search_at {t : Array Nat} {p : Nat} (hp : p + 2 ≤ t.size) : Sre.forSearch C171 t 2 p t.size false = at0 t p true #[none, none, none, none] (({} : Sre.Seen).add 14) := by
  have e : Sre.forSearch C171 t 2 p t.size false = if p > t.size || t.size - p < 2 then ({ at0 t p true #[none, none, none, none] (({} : Sre.Seen).add 14) with lastStart := 0, frames := [], weight := 0 } : M).say false else at0 t p true #[none, none, none, none] (({} : Sre.Seen).add 14) := by
    kernel_rfl!
  rw [e, if_neg]
  simp only [Bool.or_eq_true, decide_eq_true_eq]
  omega
theorem search_out {t : Array Nat} {p : Nat} (hp : t.size < p + 2) : Fails 1 (Sre.forSearch C171 t 2 p t.size false) := by
  have e : Sre.forSearch C171 t 2 p t.size false = if p > t.size || t.size - p < 2 then ({ at0 t p true #[none, none, none, none] (({} : Sre.Seen).add 14) with lastStart := 0, frames := [], weight := 0 } : M).say false else at0 t p true #[none, none, none, none] (({} : Sre.Seen).add 14) := by
    kernel_rfl!
  rw [e, if_pos]
  · exact ⟨_, rfl, rfl, rfl⟩
  · simp only [Bool.or_eq_true, decide_eq_true_eq]
    omega
end Mine
-- part S4
open PySem
namespace Mine
open PySem.Sre
def C68 : Array Nat := #[14, 14, 4, 1, 1, 9, 9216, 132, 268435456, 0, 0, 0, 0, 0, 0, 13, 11, 9, 9216, 132, 268435456, 0, 0, 0, 0, 0, 0, 1]
def ist (t : Array Nat) (s pc pos h : Nat) (om : Bool) (fr : List Sre.Frame) (wt : Nat) (ans : Option Bool) (seen : Sre.Seen) : M :=
  { code := C68, text := t, lim := t.size, start := s, lastStart := t.size, pc, pos, handed := h, outermost := om, marks := #[], frames := fr, weight := wt, answer := ans, seen }
def fI (s : Nat) : Sre.Frame := { wait := .nextStart, pc := 15, pos := s, outermost := true }
def stop (c : Nat) : Bool := c < 256 && (C68.getD (5 + (1 + c / 32)) 0).testBit (c % 32)
def stop2 (c : Nat) : Bool := c < 256 && (C68.getD (17 + (1 + c / 32)) 0).testBit (c % 32)
theorem stop2_eq : ∀ c, c < 256 → stop2 c = stop c := by decide +kernel
theorem stop2_of {c : Nat} (h : stop c = true) : stop2 c = true := by
  by_cases hc : c < 256
  · rw [stop2_eq c hc]; exact h
  · unfold stop at h
    simp [hc] at h
theorem set68 {c : Nat} {seen : Sre.Seen} : inSet C68 c C68.size 5 true seen = if stop c = true then .ok (true, seen.add 9) else .ok (false, (seen.add 9).add 0) := by kernel_rfl!
theorem acc68 {c : Nat} {seen : Sre.Seen} : accepts C68 15 c seen = if stop2 c = true then .ok (true, seen.add 9) else .ok (false, (seen.add 9).add 0) := by kernel_rfl!
/-- the first sign of the set, from s on, is at i -/
theorem admitted68 {m : M} (hc : m.code = C68) : ∀ (fuel s i : Nat) (seen : Sre.Seen), s ≤ i → i < m.lim → i < s + fuel → (∀ k, s ≤ k → k < i → stop (m.text.getD k 0) = false) → stop (m.text.getD i 0) = true →
    ∃ seen', M.admitted m fuel s seen = .ok (some i, seen')
  | 0, s, i, _, h1, _, h3, _, _ => by omega
  | fuel + 1, s, i, seen, h1, h2, h3, h4, h5 => by
    unfold M.admitted
    rw [if_neg (by omega), hc, set68]
    by_cases e : s = i
    · subst e
      rw [h5]
      exact ⟨_, rfl⟩
    · rw [h4 s (Nat.le_refl _) (by omega)]
      exact admitted68 hc fuel (s + 1) i _ (by omega) h2 (by omega) (fun k a b => h4 k (by omega) b) h5
structure Found (m : M) (b e : Nat) : Prop where
  out : m.outcome = some .matched
  start : m.start = b
  handed : m.handed = e
  lastmark : m.lastmark = -1
  lastindex : m.lastindex = -1
  marks : m.marks = #[]
theorem iseg1 {t : Array Nat} {s : Nat} {seen : Sre.Seen} (hs : s < t.size) (hc : stop (t.getD s 0) = true) :
    ∃ seen', (ist t s 15 s s true [fI s] 1 none seen).step = ist t s 27 (s + 1) s true [fI s] 1 none seen' := by
  have e : (ist t s 15 s s true [fI s] 1 none seen).step = if s ≥ t.size then ist t s 15 s s true [fI s] 1 (some false) (seen.add 13)
      else (match accepts C68 15 (t.getD s 0) (seen.add 13) with
        | .error why => (ist t s 15 s s true [fI s] 1 none (seen.add 13)).stick why
        | .ok (false, seen) => ist t s 15 s s true [fI s] 1 (some false) seen
        | .ok (true, seen) => ist t s 27 (s + 1) s true [fI s] 1 none seen) := by kernel_rfl!
  rw [e, if_neg (Nat.not_le.mpr hs), acc68, stop2_of hc]
  exact ⟨_, rfl⟩
theorem iseg2 {t : Array Nat} {s : Nat} {seen : Sre.Seen} :
    (ist t s 27 (s + 1) s true [fI s] 1 none seen).step.step.step = { ist t s 15 s (s + 1) true [] 0 (some true) (seen.add 1) with outcome := some .matched } := by
  kernel_rfl!
theorem interesting_at {t : Array Nat} {p i : Nat} (h1 : p ≤ i) (h2 : i < t.size) (h4 : ∀ k, p ≤ k → k < i → stop (t.getD k 0) = false) (h5 : stop (t.getD i 0) = true) :
    Ends 4 (Sre.forSearch C68 t 0 p t.size false) (fun m' => Found m' i (i + 1)) := by
  let mm : M := { ist t p 15 p p true [] 0 none (({} : Sre.Seen).add 14) with }
  have e : Sre.forSearch C68 t 0 p t.size false = if p > t.size || t.size - p < 1 then ({ mm with lastStart := 0 } : M).say false else M.attemptFrom mm p true := by kernel_rfl!
  rw [e, if_neg (by simp only [Bool.or_eq_true, decide_eq_true_eq]; omega)]
  obtain ⟨seen', ha⟩ := admitted68 (m := mm) rfl (t.size + 1 - p) p i (({} : Sre.Seen).add 14) h1 h2 (by omega) h4 h5
  have e2 : M.attemptFrom mm p true = match M.admitted mm (t.size + 1 - p) p (({} : Sre.Seen).add 14) with
      | .ok (some s, seen) => { mm with mustAdvance := false, seen }.attemptAt s true
      | .ok (none, seen) => { mm with seen }.say false
      | .error why => mm.stick why := by kernel_rfl!
  rw [e2, ha]
  show Ends 4 ({ mm with mustAdvance := false, seen := seen' }.attemptAt i true) _
  have e3 : ({ mm with mustAdvance := false, seen := seen' } : M).attemptAt i true = ist t i 15 i i true [fI i] 1 none seen' := by kernel_rfl!
  rw [e3]
  refine Ends.step rfl ?_
  obtain ⟨seen2, e4⟩ := iseg1 (s := i) (seen := seen') h2 h5
  rw [e4]
  have q : ∀ m : M, m.outcome = none → m.step.outcome = none → m.step.step.outcome = none → M.runFor 3 m = m.step.step.step := by
    intro m h0 h1 h2
    rw [runFor_step h0, runFor_step h1, runFor_step h2]
    rfl
  have key := (q (ist t i 27 (i + 1) i true [fI i] 1 none seen2) rfl (by kernel_rfl!) (by kernel_rfl!)).trans iseg2
  exact ⟨_, key, rfl, ⟨rfl, rfl, rfl, rfl, rfl, rfl⟩⟩
end Mine
-- part S5
namespace Mine
open PySem.Calls PySem.Builtin.Re
section
variable {M : Model} {A : Around} {E : Value → Shared → Prop} {s : Shared}
theorem drive {Q : Sre.M → Shared → Prop} {P : Sre.M → Prop} : ∀ (turns n : Nat) (m : Sre.M), Ends n m P → n ≤ 4 * turns → 0 < turns → (∀ m', m'.outcome.isSome = true → P m' → Q m' s) → wpAny M A (reDrive turns m) Q E s
  | 0, _, _, _, _, h, _ => by omega
  | turns + 1, n, m, e, h, _, k => by
    obtain ⟨m', h1, h2, h3⟩ := e
    show wpAny M A (if (m.runFor 4).outcome.isSome then pure (m.runFor 4) else do rule "sre.turn"; reDrive turns (m.runFor 4)) Q E s
    by_cases hn : n ≤ 4
    · obtain ⟨d, hd⟩ : ∃ d, 4 = n + d := ⟨4 - n, by omega⟩
      have e4 : m.runFor 4 = m' := by rw [hd, runFor_add, h1, runFor_done h2]
      rw [e4, if_pos h2]
      exact wpAny_pure (k m' h2 h3)
    · obtain ⟨d, rfl⟩ : ∃ d, n = 4 + d := ⟨n - 4, by omega⟩
      rw [runFor_add] at h1
      by_cases h4 : (m.runFor 4).outcome.isSome = true
      · rw [runFor_done h4] at h1
        rw [if_pos h4, h1]
        exact wpAny_pure (k m' h2 h3)
      · rw [if_neg h4]
        exact wpAny_bind (wpAny_rule (drive turns d _ ⟨m', h1, h2, h3⟩ (by omega) (by omega) k))

theorem toEnd {Q : Option Sre.M → Shared → Prop} {P : Sre.M → Prop} {n : Nat} {m : Sre.M} (e : Ends n m P) (hn : n ≤ 2 ^ 60)
    (hm : ∀ m', P m' → (m'.outcome = some .matched ∧ Q (some m') s) ∨ (m'.outcome = some .failed ∧ Q none s)) : wpAny M A (reRunToEnd m) Q E s := by
  unfold reRunToEnd
  refine wpAny_bind (drive (2 ^ 64) n m e (by omega) (by decide) fun m' _ hp => ?_)
  refine wpAny_bind (wpAny_forIn_list _ (fun _ _ s' => s' = s) _ ?_ ?_ _ _ rfl)
  · rintro i rest b s' rfl
    by_cases h : m'.seen.has i = true
    · simp only [h, if_true]
      exact wpAny_bind (wpAny_rule (wpAny_pure rfl))
    · simp only [h]
      first | exact wpAny_bind (wpAny_pure (wpAny_pure rfl)) | exact wpAny_pure rfl
  rintro b s' rfl
  rcases hm m' hp with ⟨ho, hq⟩ | ⟨ho, hq⟩
  · rw [ho]; exact wpAny_pure hq
  · rw [ho]; exact wpAny_pure hq
end
theorem named_search (a b : Value) : reNamed "re.Pattern.search" "search" ["string", "pos", "endpos"] 1 [a, b] [] = pure [some a, some b, none] := by kernel_rfl!
theorem named_sub (a b : Value) : reNamed "re.Pattern.sub" "sub" ["repl", "string", "count"] 2 [a, b] [] = pure [some a, some b, none] := by kernel_rfl!
theorem named_groups : reNamed "re.Match.groups" "groups" ["default"] 0 [] [] = pure [none] := by kernel_rfl!
end Mine
-- part S6
namespace Mine
open PySem.Calls PySem.Builtin.Re PySem.Builtin
/-- the pattern's object lies at p, its words at tp -/
structure PatAt (h : Heap) (p : Addr) (code : Array Nat) (groups : Nat) : Prop where
  ex : ∃ (op : Obj) (fs : Array Value) (tp : Addr) (ot : Obj) (items : Array Value) (n : Nat), h.get? p = some op ∧ op.cls = .type "re.Pattern" ∧ op.dict = none ∧ op.data = .fields fs ∧ fs.getD 5 .none = .ref tp ∧ reRawNat (fs.getD 6 .none) = 0 ∧ reRawNat (fs.getD 2 .none) = groups ∧
    h.get? tp = some ot ∧ ot.data = .seq items n ∧ (items.map reRawOf).map (·.toNat) = code
theorem PatAt.keeps {h h' : Heap} {p : Addr} {code : Array Nat} {groups : Nat} (x : PatAt h p code groups) (k : ∀ b o, h.get? b = some o → h'.get? b = some o) : PatAt h' p code groups := by
  obtain ⟨op, fs, tp, ot, items, n, hp, hc, hd, hf, h5, h6, h2, ht, htd, hcode⟩ := x.ex
  exact ⟨op, fs, tp, ot, items, n, k _ _ hp, hc, hd, hf, h5, h6, h2, k _ _ ht, htd, hcode⟩
theorem PatAt.typeIs {s : Shared} {p : Addr} {code : Array Nat} {groups : Nat} (x : PatAt s.heap p code groups) : s.TypeIs (.ref p) "re.Pattern" := by
  obtain ⟨op, fs, tp, ot, items, n, hp, hc, _⟩ := x.ex
  exact ⟨op, hp, hc⟩
section
variable {M : Model} {A : Around} {E : Value → Shared → Prop} {s : Shared}
theorem rawItems_at {tp : Addr} {ot : Obj} {items : Array Value} {n : Nat} {Q : Array Int → Shared → Prop} (ho : s.heap.get? tp = some ot) (hd : ot.data = .seq items n) (h : Q (items.map reRawOf) s) : wpAny M A (reRawItems (.ref tp)) Q E s := by
  unfold reRawItems
  exact wpAny_bind (wpAny_seqItems ho hd (wpAny_pure h))
theorem getMethod_pattern {p : Addr} {code : Array Nat} {groups : Nat} {name : Str} {id : String} {pl : Sem Bool} {Q : Value × List Value → Shared → Prop} (hp : PatAt s.heap p code groups) (slot : Slot "re.Pattern" name id)
    (hty : typeOf (.builtin id) = pure (.type "method_descriptor")) (h : Q (.builtin id, [.ref p]) s) : wpAny M A (getMethod (.ref p) name pl) Q E s := by
  refine getMethod_builtin hp.typeIs pa_pattern slot hty (fun a e => ?_) h
  cases e
  obtain ⟨op, fs, tp, ot, items, n, hp, hc, hd, _⟩ := hp.ex
  exact ⟨op, hp, hd⟩
theorem target_at {p : Addr} {code : Array Nat} {groups : Nat} {x : Str} {t u : Tok} {j : Int} {Q : ReTarget → Shared → Prop} (hp : PatAt s.heap p code groups) (h0 : 0 ≤ j) (h1 : j ≤ x.cps.size) (h2 : x.cps.size < 2 ^ 62)
    (h : Q { pattern := .ref p, string := .str x t, code, text := x.cps, kind := 0, groups, pos := j.toNat, lim := x.cps.size } s) :
    wpAny M A (reTarget "re.Pattern.search" "search" ⟨[.ref p, .str x t, .int j u], []⟩) Q E s := by
  obtain ⟨op, fs, tp, ot, items, n, hp, hc, hd, hf, h5, h6, hg, ht, htd, hcode⟩ := hp.ex
  unfold reTarget
  simp only []
  rw [named_search]
  refine wpAny_bind (wpAny_pure ?_)
  simp only []
  refine wpAny_bind (m := reSsize (.int j u)) ?_
  unfold reSsize
  refine wpAny_bind (m := asIndex (.int j u)) (wpAny_pure ?_)
  have hf1 : (decide (j < -2 ^ 63) || decide (j ≥ 2 ^ 63)) = false := by simp only [Bool.or_eq_false_iff, decide_eq_false_iff_not]; omega
  simp only [hf1, Bool.false_eq_true, if_false]
  refine wpAny_pure ?_
  refine wpAny_bind (m := pure (2 ^ 63 - 1 : Int)) (wpAny_pure ?_)
  refine wpAny_bind (wpAny_fieldsOf hp hf ?_)
  refine wpAny_bind (m := reTextOf (.str x t)) (wpAny_pure ?_)
  simp only [h6]
  have e1 : ((0 : Nat) == 0 && (0 : Nat) == 1) = false := by decide
  have e2 : ((0 : Nat) == 1 && (0 : Nat) == 0) = false := by decide
  simp only [e1, e2, Bool.false_eq_true, if_false]
  refine wpAny_bind (m := reNoCollectionInside (.str x t) 0) (wpAny_pure ?_)
  rw [h5]
  refine wpAny_bind (rawItems_at ht htd (wpAny_pure ?_))
  rw [hcode, hg]
  have e3 : Min.min j.toNat x.cps.size = j.toNat := by omega
  have e4 : Min.min (2 ^ 63 - 1 : Int).toNat x.cps.size = x.cps.size := by omega
  rw [e3, e4]
  exact h
def matchFields (p : Addr) (str : Value) (pos lim : Nat) (li : Int) (tp : Addr) : Array Value := #[str, .ref p, .int (pos : Nat) 0, .int (lim : Nat) 0, .int li 0, .ref tp]
abbrev matchObj (p : Addr) (str : Value) (pos lim : Nat) (li : Int) (tp : Addr) : Obj := { cls := .type "re.Match", data := .fields (matchFields p str pos lim li tp) }
abbrev spanObj (vs : List Int) : Obj := { cls := .type "tuple", data := .seq (vs.map fun i => Value.int i 0).toArray }
theorem newMatch0 {p : Addr} {str : Value} {pos lim b e : Nat} {m : Sre.M} {Q : Value → Shared → Prop} (hf : Found m b e)
    (h : Q (.ref (s.heap.objs.size + 1)) { s with heap := (s.heap.push (spanObj [(b : Int), (e : Int)])).push (matchObj p str pos lim (-1) s.heap.objs.size) }) :
    wpAny M A (reNewMatch (.ref p) str 0 pos lim m) Q E s := by
  obtain ⟨-, h1, h2, h3, h4, -⟩ := hf
  unfold reNewMatch
  simp only [List.range_zero, List.flatMap_nil, List.any_nil, Bool.false_eq_true, if_false]
  refine wpAny_bind (wpAny_newTuple ?_ (show 2 ≤ sizeLine by decide))
  unfold newFields
  refine wpAny_newObj_type ?_ ?_
  · rw [h1, h2, h4]
    have e : (s.heap.push (spanObj [(b : Int), (e : Int)])).objs.size = s.heap.objs.size + 1 := Heap.size_push ..
    rw [← e] at h
    exact h
  · exact (by decide : (6 : Nat) ≤ sizeLine + 2)
end
section
variable {prog : Program} {w : World} {A : Around} {E : Value → Shared → Prop} {s : Shared}
/-- interesting.search(x, j): the first sign of the set, from j on, is at i -/
theorem search_call {p : Addr} {x : Str} {t u : Tok} {j : Int} {i : Nat} {Q : Value → Shared → Prop} (hp : PatAt s.heap p C68 0) (h0 : 0 ≤ j) (h1 : j.toNat ≤ i) (h2 : i < x.cps.size) (h3 : x.cps.size < 2 ^ 24)
    (hn : ∀ k, j.toNat ≤ k → k < i → stop (x.cps.getD k 0) = false) (hi : stop (x.cps.getD i 0) = true)
    (h : Q (.ref (s.heap.objs.size + 1)) { s with heap := (s.heap.push (spanObj [(i : Int), ((i + 1 : Nat) : Int)])).push (matchObj p (.str x t) j.toNat x.cps.size (-1) s.heap.objs.size) }) :
    wpAny (model prog w) A (call (.builtin "re.Pattern.search") [.ref p, .str x t, .int j u]) Q E s := by
  refine wpAny_call (codeAny_call_builtin slot_search.plain entry_search (slot_search.check _ _ _ _ _ _ _ _ hp.typeIs (args_search _ _ _) ?_))
  unfold Builtin.«re.Pattern.search»
  refine wpAny_bind (target_at hp h0 (by omega) (by omega) ?_)
  unfold reAnswer
  refine wpAny_bind (toEnd (interesting_at h1 h2 hn hi) (by decide) fun m' hf => .inl ⟨hf.out, ?_⟩)
  exact wpAny_bind (newMatch0 hf (wpAny_pure h))
end
end Mine
-- part S7
namespace Mine
open PySem.Calls PySem.Builtin.Re PySem.Builtin
/-- a match's object lies at a -/
structure MatchAt (h : Heap) (a : Addr) (str : Value) (spans : List Int) : Prop where
  ex : ∃ (p : Addr) (pos lim : Nat) (li : Int) (tp : Addr), h.get? a = some (matchObj p str pos lim li tp) ∧ h.get? tp = some (spanObj spans)
theorem MatchAt.typeIs {s : Shared} {a : Addr} {str : Value} {spans : List Int} (x : MatchAt s.heap a str spans) : s.TypeIs (.ref a) "re.Match" := by
  obtain ⟨p, pos, lim, li, tp, h1, h2⟩ := x.ex
  exact ⟨_, h1, rfl⟩
theorem rawOf_ints (vs : List Int) : (vs.map fun i => Value.int i 0).toArray.map reRawOf = vs.toArray := by
  simp only [List.map_toArray, List.map_map]
  congr 1
  exact List.map_id'' (fun _ => rfl) vs
section
variable {M : Model} {A : Around} {E : Value → Shared → Prop} {s : Shared}
theorem getMethod_match {a : Addr} {str : Value} {spans : List Int} {name : Str} {id : String} {pl : Sem Bool} {Q : Value × List Value → Shared → Prop} (hp : MatchAt s.heap a str spans) (slot : Slot "re.Match" name id)
    (hty : typeOf (.builtin id) = pure (.type "method_descriptor")) (h : Q (.builtin id, [.ref a]) s) : wpAny M A (getMethod (.ref a) name pl) Q E s := by
  refine getMethod_builtin hp.typeIs pa_match slot hty (fun a e => ?_) h
  cases e
  obtain ⟨p, pos, lim, li, tp, h1, h2⟩ := hp.ex
  exact ⟨_, h1, rfl⟩
theorem found_at {a : Addr} {str : Value} {spans : List Int} {Q : ReFound → Shared → Prop} (hp : MatchAt s.heap a str spans) (h : ∀ fs, fs.getD 0 .none = str → Q ⟨fs, spans.toArray⟩ s) : wpAny M A (reFound (.ref a)) Q E s := by
  obtain ⟨p, pos, lim, li, tp, h1, h2⟩ := hp.ex
  unfold reFound
  refine wpAny_bind (wpAny_fieldsOf h1 rfl ?_)
  refine wpAny_bind (rawItems_at h2 rfl (wpAny_pure ?_))
  rw [rawOf_ints]
  exact h _ rfl
end
section
variable {prog : Program} {w : World} {A : Around} {E : Value → Shared → Prop} {s : Shared}
theorem start_call {a : Addr} {str : Value} {b : Int} {rest : List Int} {Q : Value → Shared → Prop} (hp : MatchAt s.heap a str (b :: rest)) (h : Q (.int b s.toks) { s with toks := s.toks + 1 }) :
    wpAny (model prog w) A (call (.builtin "re.Match.start") [.ref a]) Q E s := by
  refine wpAny_call (codeAny_call_builtin slot_start.plain entry_start (slot_start.check _ _ _ _ _ _ _ _ hp.typeIs (args_start _) ?_))
  unfold Builtin.«re.Match.start» reOneGroup
  refine wpAny_bind (wpAny_bind (m := selfAndSome "Match.start" "start" 0 1 ⟨[.ref a], []⟩) ?_)
  have e : selfAndSome "Match.start" "start" 0 1 ⟨[.ref a], []⟩ = pure (.ref a, []) := by kernel_rfl!
  rw [e]
  refine wpAny_pure ?_
  refine wpAny_bind (found_at hp fun fs hfs => ?_)
  refine wpAny_bind (m := pure 0) (wpAny_pure (wpAny_pure ?_))
  unfold retInt
  have e2 : ((b :: rest).toArray).getD (2 * 0) (-1) = b := by simp
  simp only [e2]
  exact wpAny_bind (wpAny_mkInt (wpAny_pure h))
theorem groups_call {a : Addr} {x : Str} {t : Tok} {b0 e0 : Int} {b e : Nat} {Q : Value → Shared → Prop} (hp : MatchAt s.heap a (.str x t) [b0, e0, (b : Int), (e : Int), -1, -1]) (hx : x.cps.size < 2 ^ 24)
    (h : Q (.ref s.heap.objs.size) { s with toks := s.toks + 1, heap := s.heap.push { cls := .type "tuple", data := .seq #[.str ⟨x.cps.extract b e⟩ s.toks, .none] } }) :
    wpAny (model prog w) A (call (.builtin "re.Match.groups") [.ref a]) Q E s := by
  refine wpAny_call (codeAny_call_builtin slot_groups.plain entry_groups (slot_groups.check _ _ _ _ _ _ _ _ hp.typeIs (args_groups _) ?_))
  unfold Builtin.«re.Match.groups» reWithDefault
  simp only []
  rw [named_groups]
  refine wpAny_bind (wpAny_bind (wpAny_pure ?_))
  simp only []
  refine wpAny_bind (found_at hp fun fs hfs => wpAny_pure ?_)
  simp only []
  have e1 : List.range (([b0, e0, (b : Int), (e : Int), -1, -1] : List Int).toArray.size / 2 - 1) = [0, 1] := by
    simp only [List.size_toArray, List.length_cons, List.length_nil]; rfl
  rw [e1]
  simp only [List.mapM_cons, List.mapM_nil]
  refine wpAny_bind (wpAny_bind ?_)
  unfold reGroupText
  have g1 : (([b0, e0, (b : Int), (e : Int), -1, -1] : List Int).toArray).getD (2 * (0 + 1)) (-1) = (b : Int) := by simp
  have g2 : (([b0, e0, (b : Int), (e : Int), -1, -1] : List Int).toArray).getD (2 * (0 + 1) + 1) (-1) = (e : Int) := by simp
  have g3 : (([b0, e0, (b : Int), (e : Int), -1, -1] : List Int).toArray).getD (2 * (1 + 1)) (-1) = -1 := by simp
  have g4 : (([b0, e0, (b : Int), (e : Int), -1, -1] : List Int).toArray).getD (2 * (1 + 1) + 1) (-1) = -1 := by simp
  simp only [g1, g2, g3, g4, hfs]
  have k1 : (decide ((b : Int) < 0) || decide ((e : Int) < 0)) = false := by simp
  have k2 : (decide ((-1 : Int) < 0) || decide ((-1 : Int) < 0)) = true := by decide
  simp only [k1, k2, Bool.false_eq_true, if_false, if_true]
  refine wpAny_bind (m := reTextOf (.str x t)) (wpAny_pure ?_)
  unfold reSlice
  simp only [beq_self_eq_true, if_true, Int.toNat_natCast]
  refine wpAny_mkStr ?_ ?_
  · repeat (with_reducible (first | refine wpAny_pure ?_ | refine wpAny_bind ?_))
    refine wpAny_newTuple ?_ (show 2 ≤ sizeLine by decide)
    exact wpAny_pure h
  · show (x.cps.extract b e).size ≤ sizeLine
    rw [Array.size_extract, PySem.sizeLine_eq]
    omega
end
end Mine
-- part S8
namespace Mine
open PySem.Calls PySem.Builtin.Re PySem.Builtin
def es : Str := ⟨#[]⟩
section
variable {M : Model} {A : Around} {E : Value → Shared → Prop} {s : Shared}
theorem whole_at {p : Addr} {code : Array Nat} {groups : Nat} {x : Str} {t : Tok} {Q : ReTarget → Shared → Prop} (hp : PatAt s.heap p code groups)
    (h : Q { pattern := .ref p, string := .str x t, code, text := x.cps, kind := 0, groups, pos := 0, lim := x.cps.size } s) :
    wpAny M A (reWholeTarget (.ref p) (.str x t)) Q E s := by
  obtain ⟨op, fs, tp, ot, items, n, hp, hc, hd, hf, h5, h6, hg, ht, htd, hcode⟩ := hp.ex
  unfold reWholeTarget
  refine wpAny_bind (wpAny_fieldsOf hp hf ?_)
  refine wpAny_bind (m := reTextOf (.str x t)) (wpAny_pure ?_)
  simp only [h6]
  have e1 : ((0 : Nat) == 0 && (0 : Nat) == 1) = false := by decide
  have e2 : ((0 : Nat) == 1 && (0 : Nat) == 0) = false := by decide
  simp only [e1, e2, Bool.false_eq_true, if_false]
  refine wpAny_bind (m := reNoCollectionInside (.str x t) 0) (wpAny_pure ?_)
  rw [h5]
  refine wpAny_bind (rawItems_at ht htd (wpAny_pure ?_))
  rw [hcode, hg]
  exact h
theorem slice_at {x : Str} {b e : Nat} {Q : Value → Shared → Prop} (hx : x.cps.size < 2 ^ 24) (h : Q (.str ⟨x.cps.extract b e⟩ s.toks) { s with toks := s.toks + 1 }) : wpAny M A (reSlice x.cps 0 b e) Q E s := by
  unfold reSlice
  simp only [beq_self_eq_true, if_true]
  refine wpAny_mkStr h ?_
  show (x.cps.extract b e).size ≤ sizeLine
  rw [Array.size_extract, PySem.sizeLine_eq]
  omega
theorem newMatch2 {p : Addr} {str : Value} {pos lim b : Nat} {m : Sre.M} {Q : Value → Shared → Prop} (hf : Hit m b (b + 2))
    (h : Q (.ref (s.heap.objs.size + 1)) { s with heap := (s.heap.push (spanObj [(b : Int), ((b + 2 : Nat) : Int), ((b + 1 : Nat) : Int), ((b + 2 : Nat) : Int), -1, -1])).push (matchObj p str pos lim 1 s.heap.objs.size) }) :
    wpAny M A (reNewMatch (.ref p) str 2 pos lim m) Q E s := by
  obtain ⟨-, h1, h2, h3, h4, m2, m3, h5⟩ := hf
  unfold reNewMatch
  have er : List.range 2 = [0, 1] := rfl
  simp only [er, h3, h5, List.flatMap_cons, List.flatMap_nil, List.any_cons, List.any_nil]
  have g0 : (#[some (b + 1), some (b + 2), m2, m3] : Array (Option Nat)).getD (2 * 0) none = some (b + 1) := rfl
  have g1 : (#[some (b + 1), some (b + 2), m2, m3] : Array (Option Nat)).getD (2 * 0 + 1) none = some (b + 2) := rfl
  simp only [g0, g1]
  have k1 : (((2 * 0 + 1 : Nat) : Int) ≤ 1) = True := by simp
  have k2 : (((2 * 1 + 1 : Nat) : Int) ≤ 1) = False := by simp
  simp only [k1, k2, if_true, if_false, decide_true, decide_false, Bool.true_and, Bool.false_and]
  have k3 : decide (b + 2 < b + 1) = false := by simp
  rw [if_neg (by simp only [k3, Bool.false_or, Bool.or_false]; split <;> simp)]
  refine wpAny_bind (wpAny_newTuple ?_ (show 6 ≤ sizeLine by decide))
  unfold newFields
  refine wpAny_newObj_type ?_ ?_
  · rw [h1, h2, h4]
    have e : (s.heap.push (spanObj [(b : Int), ((b + 2 : Nat) : Int), ((b + 1 : Nat) : Int), ((b + 2 : Nat) : Int), -1, -1])).objs.size = s.heap.objs.size + 1 := Heap.size_push ..
    rw [← e] at h
    exact h
  · exact (by decide : (6 : Nat) ≤ sizeLine + 2)
end
end Mine
-- part S9
namespace Mine
open PySem.Calls PySem.Builtin.Re PySem.Builtin
theorem plain_subloop : plainId "re.Pattern.sub.loop" = true := by decide +kernel
def loopArgs (p f D : Addr) (x : Str) (t : Tok) (n done start : Nat) : Args := ⟨[.ref p, .str x t, .ref f, .int 1 0, .int 0 0, .int (n : Nat) 0, .int (done : Nat) 0, .int (start : Nat) 0, .bool false, .ref D, .bool false], []⟩
/-- the list D in the ledger takes one more item -/
theorem grow {h₀ h : Heap} {L D : Addr} {m : Str → Option Value} {acc : Array Value} {c : Nat} {v : Value} {news : List (Addr × Obj)} (F : Fr h₀ L h m) (N : News h₀ L h ((D, W.listOf acc c) :: news)) (hn : ∀ q ∈ news, q.1 ≠ D) :
    Fr h₀ L (h.update D (Obj.mapSeq (·.push v))) m ∧ News h₀ L (h.update D (Obj.mapSeq (·.push v))) ((D, W.listOf (acc.push v) (c + 1)) :: news) := by
  refine news_upd (pre := []) (post := news) F N (fun _ h => nomatch h) hn ?_ rfl
  have e : (acc.push v).size ≠ acc.size := by rw [Array.size_push]; omega
  simp only [W.listOf, Obj.mapSeq, Array.size_push]
  simp
theorem lens_sum {parts : List Str} (h : ∀ y ∈ parts, y.length ≤ 2 ^ 20) : (parts.map (·.length)).sum ≤ parts.length * 2 ^ 20 := by
  induction parts with
  | nil => exact Nat.zero_le _
  | cons y r ih =>
    rw [List.map_cons, List.sum_cons, List.length_cons]
    have h1 := h y (.head _)
    have h2 := ih fun z hz => h z (.tail _ hz)
    omega
theorem strsAre_len {vs : List Value} {ys : List Str} (h : StrsAre vs ys) : vs.length = ys.length := by
  induction h with
  | nil => rfl
  | cons _ _ _ ih => simp [ih]
theorem strsAre_snoc {vs : List Value} {ys : List Str} {y : Str} {t : Tok} (h : StrsAre vs ys) : StrsAre (vs ++ [.str y t]) (ys ++ [y]) := by
  induction h with
  | nil => exact .cons y t .nil
  | cons z u _ ih => exact .cons z u ih
section
variable {prog : Program} {w : World} {A : Around} {E : Value → Shared → Prop} {s : Shared} {h₀ : Heap} {L : Addr} {m : Str → Option Value} {news : List (Addr × Obj)}
theorem join_tail {D : Addr} {x : Str} {acc : Array Value} {c : Nat} {parts : List Str} {R : Fin → Shared → Prop} (F : Fr h₀ L s.heap m) (N : News h₀ L s.heap ((D, W.listOf acc c) :: news))
    (hx : x.cps.size < 2 ^ 20) (hacc : StrsAre acc.toList parts) (hal : acc.size ≤ 4) (hpl : ∀ y ∈ parts, y.length ≤ 2 ^ 20) (hne : 0 < acc.size)
    (h : ∀ t' k', R (.done (.ret (.str (Txt.join es parts) t'))) { s with toks := k' }) :
    wpAny (model prog w) A (do
      let joiner ← reSlice x.cps 0 0 0
      let text ← if ((← seqItems? (Value.ref D)).getD #[]).isEmpty then pure joiner else call (Value.builtin (if (0 : Nat) == 0 then "str.join" else "bytes.join")) [joiner, Value.ref D]
      ret text) R E s := by
  have ho := (N _ (.head _)).1
  refine wpAny_bind (slice_at (by omega) ?_)
  refine wpAny_bind (wpAny_seqItems (s := { s with toks := s.toks + 1 }) ho rfl ?_)
  have e1 : ((some acc : Option (Array Value)).getD #[]).isEmpty = false := by
    simp only [Option.getD_some]
    rw [Array.isEmpty_eq_false_iff]
    intro q; rw [q] at hne; exact absurd hne (by decide)
  simp only [e1, Bool.false_eq_true, if_false, beq_self_eq_true, if_true]
  have e2 : (⟨x.cps.extract 0 0⟩ : Str) = es := by
    unfold es
    congr 1
    apply Array.eq_empty_of_size_eq_zero
    simp
  rw [e2]
  have hlen := strsAre_len hacc
  have hs := lens_sum hpl
  refine wpAny_bind (join_list (s := { s with toks := s.toks + 1 }) (ys := parts) ⟨_, ho, rfl, _, rfl⟩ hacc ?_ fun t' k' => ?_)
  · show (parts.map (·.length)).sum + parts.length * 0 ≤ 16777216
    rw [Array.length_toList] at hlen
    have h3 : parts.length * 2 ^ 20 ≤ 4 * 2 ^ 20 := Nat.mul_le_mul_right _ (by omega)
    omega
  · exact wpAny_pure (h t' k')
theorem subloop_end {p f D : Addr} {x : Str} {t : Tok} {n dn st k : Nat} {acc : Array Value} {c : Nat} {parts : List Str} {R : Result → Shared → Prop} (F : Fr h₀ L s.heap m) (N : News h₀ L s.heap ((D, W.listOf acc c) :: news)) (hn : ∀ q ∈ news, q.1 ≠ D)
    (hp : PatAt s.heap p C171 2) (hx : x.cps.size < 2 ^ 20) (hf : Fails k (Sre.forSearch C171 x.cps 2 st x.cps.size false)) (hk : k ≤ 2 ^ 60) (hacc : StrsAre acc.toList parts) (hal : acc.size ≤ 3) (hpl : ∀ y ∈ parts, y.length ≤ 2 ^ 20) (hne : 0 < acc.size ∨ dn < x.cps.size)
    (h : ∀ h' t' k', Fr h₀ L h' m → News h₀ L h' news → R (.ok (.ret (.str (Txt.join es (parts ++ (if dn < x.cps.size then [⟨x.cps.extract dn x.cps.size⟩] else []))) t'))) { s with heap := h', toks := k' }) :
    codeAny (model prog w) A (.builtin "re.Pattern.sub.loop" (loopArgs p f D x t n dn st)) R s := by
  refine codeAny_builtin entry_subloop ?_
  rw [Around.under_plainId plain_subloop _]
  unfold loopArgs Builtin.«re.Pattern.sub.loop»
  simp only []
  refine wpAny_bind (whole_at hp ?_)
  simp only [show ((1 : Int) == 0) = false from rfl, show ((0 : Int) != 0) = false from rfl, Bool.false_and, Bool.false_eq_true, if_false]
  unfold reNextFound
  refine wpAny_bind (toEnd hf hk fun m' hm => .inr ⟨hm, ?_⟩)
  simp only [Int.toNat_natCast]
  by_cases hd : dn < x.cps.size
  · simp only [if_pos hd] at h ⊢
    refine wpAny_bind (slice_at (by omega) ?_)
    have ho := (N _ (.head _)).1
    obtain ⟨F1, N1⟩ := grow (v := .str ⟨x.cps.extract dn x.cps.size⟩ s.toks) F N hn
    refine wpAny_bind (wpAny_updateSeq (s := { s with toks := s.toks + 1 }) (o := W.listOf acc c) ho rfl ?_ (by rw [PySem.sizeLine_eq]; omega) (by rw [Array.size_push, PySem.sizeLine_eq]; omega))
    refine join_tail (s := ⟨s.heap.update D (Obj.mapSeq (·.push (.str ⟨x.cps.extract dn x.cps.size⟩ s.toks))), s.gens, s.drawn, s.toks + 1, s.os⟩) (parts := parts ++ [⟨x.cps.extract dn x.cps.size⟩]) F1 N1 hx ?_ ?_ ?_ ?_ fun t' k' => ?_
    · rw [Array.toList_push]; exact strsAre_snoc hacc
    · rw [Array.size_push]; omega
    · intro y hy
      rcases List.mem_append.mp hy with hy | hy
      · exact hpl y hy
      · rw [List.mem_singleton.mp hy]
        show (x.cps.extract dn x.cps.size).size ≤ _
        rw [Array.size_extract]; omega
    · rw [Array.size_push]; omega
    · exact h _ t' k' F1 fun q hq => N1 q (.tail _ hq)
  · simp only [if_neg hd, List.append_nil] at h ⊢
    refine join_tail (s := s) F N hx hacc (by omega) hpl (by omega) fun t' k' => ?_
    exact h _ t' k' F fun q hq => N q (.tail _ hq)
end
end Mine
-- part S10
namespace Mine
open PySem.Calls PySem.Builtin.Re PySem.Builtin
section
variable {prog : Program} {w : World} {A : Around} {E : Value → Shared → Prop} {s : Shared} {h₀ : Heap} {L : Addr} {m : Str → Option Value} {news : List (Addr × Obj)}
/-- the match's object, the span's object -/
abbrev hitNews (a tp p : Addr) (x : Str) (t : Tok) (b : Nat) : List (Addr × Obj) :=
  [(a, matchObj p (.str x t) 0 x.cps.size 1 tp), (tp, spanObj [(b : Int), ((b + 2 : Nat) : Int), ((b + 1 : Nat) : Int), ((b + 2 : Nat) : Int), -1, -1])]
/-- what the function that is called at a match hands back -/
def Answers (prog : Program) (w : World) (A : Around) (h₀ : Heap) (L : Addr) (m : Str → Option Value) (s : Shared) (f p : Addr) (x : Str) (t : Tok) (b : Nat) (y : Str) : Prop :=
  ∀ (news : List (Addr × Obj)) a tp h1 tk (Q' E' : Value → Shared → Prop), Fr h₀ L h1 m → News h₀ L h1 (hitNews a tp p x t b ++ news) →
      (∀ t' h2 tk2, Fr h₀ L h2 m → News h₀ L h2 (hitNews a tp p x t b ++ news) → Q' (.str y t') { s with heap := h2, toks := tk2 }) →
      wpAny (model prog w) A.in1 (call (.ref f) [.ref a]) Q' E' { s with heap := h1, toks := tk }
theorem subloop_hit_tail {p f D : Addr} {x : Str} {t : Tok} {n b : Nat} {acc : Array Value} {c : Nat} {y : Str} {R : Result → Shared → Prop} {m' : Sre.M} (hh : Hit m' b (b + 2))
    (F : Fr h₀ L s.heap m) (N : News h₀ L s.heap ((D, W.listOf acc c) :: news)) (hn : ∀ q ∈ news, q.1 ≠ D) (hal : acc.size ≤ 3)
    (hcall : Answers prog w A h₀ L m s f p x t b y)
    (h : ∀ h' t' tk', Fr h₀ L h' m → News h₀ L h' ((D, W.listOf (acc.push (.str y t')) (c + 1)) :: news) → codeAny (model prog w) A (.builtin "re.Pattern.sub.loop" (loopArgs p f D x t (n + 1) (b + 2) (b + 2))) R { s with heap := h', toks := tk' }) :
    wpAny (model prog w) A.in1 (do
      let found ← reNewMatch (.ref p) (.str x t) 2 0 x.cps.size m'
      let item ← holding [found] (call (.ref f) [found])
      if item != .none then updateSeq D (·.push item)
      again (.builtin "re.Pattern.sub.loop" ⟨[.ref p, .str x t, .ref f, rawInt 1, rawInt 0, rawInt ((n : Nat) + 1), rawInt m'.handed, rawInt m'.handed, .bool (m'.handed == m'.start), .ref D, .bool false], []⟩))
      (fun fin s' => match fin with | .done f => R (.ok f) s' | .again c' => c'.quiet = true ∧ codeAny (model prog w) A c' R s') (fun e s' => R (.error e) s') s := by
  refine wpAny_bind (newMatch2 hh ?_)
  have F1 := (F.push (spanObj [(b : Int), ((b + 2 : Nat) : Int), ((b + 1 : Nat) : Int), ((b + 2 : Nat) : Int), -1, -1]))
  have N1 := News.push F N (spanObj [(b : Int), ((b + 2 : Nat) : Int), ((b + 1 : Nat) : Int), ((b + 2 : Nat) : Int), -1, -1])
  have F2 := F1.push (matchObj p (.str x t) 0 x.cps.size 1 s.heap.objs.size)
  have N2 := News.push F1 N1 (matchObj p (.str x t) 0 x.cps.size 1 s.heap.objs.size)
  have e : (s.heap.push (spanObj [(b : Int), ((b + 2 : Nat) : Int), ((b + 1 : Nat) : Int), ((b + 2 : Nat) : Int), -1, -1])).objs.size = s.heap.objs.size + 1 := Heap.size_push ..
  rw [e] at N2
  have hD : D < s.heap.objs.size := Heap.lt_size (N _ (.head _)).1
  refine wpAny_bind (wpAny_holding ?_)
  refine hcall ((D, W.listOf acc c) :: news) (s.heap.objs.size + 1) s.heap.objs.size _ s.toks _ _ F2 N2 fun t' h2 tk2 F3 N3 => ?_
  have hne : ((Value.str y t') != Value.none) = true := by simp
  simp only [hne, if_true]
  have N4 : News h₀ L h2 ((D, W.listOf acc c) :: news) := fun q hq => N3 q (List.mem_append_right _ hq)
  obtain ⟨F5, N5⟩ := grow (v := .str y t') F3 N4 hn
  have ho := (N4 _ (.head _)).1
  refine wpAny_bind (wpAny_updateSeq (s := { s with heap := h2, toks := tk2 }) (o := W.listOf acc c) ho rfl ?_ (by rw [PySem.sizeLine_eq]; omega) (by rw [Array.size_push, PySem.sizeLine_eq]; omega))
  refine wpAny_pure ⟨plainId_quiet plain_subloop _, ?_⟩
  have k := h _ t' tk2 F5 N5
  have e1 : (m'.handed == m'.start) = false := by rw [hh.handed, hh.start]; simp
  rw [e1, hh.handed]
  unfold loopArgs at k
  have e2 : ((n + 1 : Nat) : Int) = (n : Int) + 1 := rfl
  exact k
theorem subloop_hit {p f D : Addr} {x : Str} {t : Tok} {n dn st b k : Nat} {acc : Array Value} {c : Nat} {y : Str} {R : Result → Shared → Prop} (F : Fr h₀ L s.heap m) (N : News h₀ L s.heap ((D, W.listOf acc c) :: news)) (hn : ∀ q ∈ news, q.1 ≠ D) (hal : acc.size ≤ 2)
    (hp : PatAt s.heap p C171 2) (hx : x.cps.size < 2 ^ 20) (hf : Ends k (Sre.forSearch C171 x.cps 2 st x.cps.size false) (fun m' => Hit m' b (b + 2))) (hk : k ≤ 2 ^ 60)
    (hcall : Answers prog w A h₀ L m s f p x t b y)
    (h : ∀ h' u t' tk', Fr h₀ L h' m → News h₀ L h' ((D, W.listOf ((if dn < b then acc.push (.str ⟨x.cps.extract dn b⟩ u) else acc).push (.str y t')) ((if dn < b then c + 1 else c) + 1)) :: news) → codeAny (model prog w) A (.builtin "re.Pattern.sub.loop" (loopArgs p f D x t (n + 1) (b + 2) (b + 2))) R { s with heap := h', toks := tk' }) :
    codeAny (model prog w) A (.builtin "re.Pattern.sub.loop" (loopArgs p f D x t n dn st)) R s := by
  refine codeAny_builtin entry_subloop ?_
  rw [Around.under_plainId plain_subloop _]
  unfold loopArgs Builtin.«re.Pattern.sub.loop»
  simp only []
  refine wpAny_bind (whole_at hp ?_)
  simp only [show ((1 : Int) == 0) = false from rfl, show ((0 : Int) != 0) = false from rfl, show ((1 : Int) == 1) = true from rfl, Bool.false_and, Bool.false_eq_true, if_false, if_true]
  unfold reNextFound
  refine wpAny_bind (toEnd hf hk fun m' hm => .inl ⟨hm.out, ?_⟩)
  simp only [Int.toNat_natCast]
  have hb := hm.start
  subst hb
  by_cases hd : dn < m'.start
  · simp only [if_pos hd] at h ⊢
    refine wpAny_bind (slice_at (by omega) ?_)
    have ho := (N _ (.head _)).1
    obtain ⟨F1, N1⟩ := grow (v := .str ⟨x.cps.extract dn m'.start⟩ s.toks) F N hn
    refine wpAny_bind (wpAny_updateSeq (s := { s with toks := s.toks + 1 }) (o := W.listOf acc c) ho rfl ?_ (by rw [PySem.sizeLine_eq]; omega) (by rw [Array.size_push, PySem.sizeLine_eq]; omega))
    exact subloop_hit_tail (s := ⟨s.heap.update D (Obj.mapSeq (·.push (.str ⟨x.cps.extract dn m'.start⟩ s.toks))), s.gens, s.drawn, s.toks + 1, s.os⟩) hm F1 N1 hn (by rw [Array.size_push]; omega) hcall fun h' t' tk' F' N' => h h' _ t' tk' F' N'
  · simp only [if_neg hd] at h ⊢
    exact subloop_hit_tail hm F N hn (by omega) hcall fun h' t' tk' F' N' => h h' 0 t' tk' F' N'
end
end Mine
-- part S11
namespace Mine
open PySem.Calls PySem.Builtin.Re PySem.Builtin
theorem call_function_call : typeLookup (.type "function") "__call__" = pure (some (.builtin "function.__call__")) := by rw [typeLookup_type, builtinLookup_eq_fast]; kernel_rfl
theorem sub_str_bytearray : isSubtype (.type "str") (.type "bytearray") = pure false := by rw [isSubtype_type]; kernel_rfl
section
variable {prog : Program} {w : World} {A : Around} {E : Value → Shared → Prop} {s : Shared} {h₀ : Heap} {L : Addr} {m : Str → Option Value} {news : List (Addr × Obj)}
theorem sub_open {p f : Addr} {of : Obj} {x : Str} {t : Tok} {R : Result → Shared → Prop} (hp : PatAt s.heap p C171 2) (hf : s.heap.get? f = some of) (hfc : of.cls = .type "function")
    (h : codeAny (model prog w) A (.builtin "re.Pattern.sub.loop" (loopArgs p f s.heap.objs.size x t 0 0 0)) R { s with heap := s.heap.push (W.listOf #[] 0) }) :
    codeAny (model prog w) A (.call (.builtin "re.Pattern.sub") ⟨[.ref p, .ref f, .str x t], []⟩) R s := by
  have hT : s.TypeIs (.ref f) "function" := ⟨of, hf, hfc⟩
  refine codeAny_call_builtin slot_sub.plain entry_sub (slot_sub.check _ _ _ _ _ _ _ _ hp.typeIs (args_sub _ _ _) ?_)
  unfold Builtin.«re.Pattern.sub» reSubstitute
  simp only []
  rw [named_sub]
  refine wpAny_bind (wpAny_pure ?_)
  simp only []
  refine wpAny_bind (m := pure (0 : Int)) (wpAny_pure ?_)
  refine wpAny_bind (wpAny_specialOf hT call_function_call ?_)
  simp only [Option.isSome_some, if_true]
  refine wpAny_bind (m := pure false) (wpAny_pure ?_)
  refine wpAny_bind (m := pure (Value.ref f, (1 : Int))) (wpAny_pure ?_)
  refine wpAny_bind (wpAny_holding (whole_at hp ?_))
  simp only [show ((1 : Int) == 1) = true from rfl, if_true]
  refine wpAny_bind (m := reNotHeld "re.Pattern.sub" (.str x t)) ?_
  unfold reNotHeld
  refine wpAny_bind (wpAny_isInstance (T := "str") rfl sub_str_bytearray ?_)
  simp only [Bool.false_eq_true, if_false]
  refine wpAny_pure ?_
  refine wpAny_bind (wpAny_newList (wpAny_pure ⟨plainId_quiet plain_subloop _, h⟩) (show 0 ≤ sizeLine by decide))
/-- no place is found: the text comes back -/
theorem sub_none {p f : Addr} {x : Str} {t : Tok} {k : Nat} {Q : Value → Shared → Prop} (F : Fr h₀ L s.heap m) (N : News h₀ L s.heap news) (hp : PatAt s.heap p C171 2) (hfo : ∃ o, s.heap.get? f = some o ∧ o.cls = .type "function")
    (hx : x.cps.size < 2 ^ 20) (hx0 : 0 < x.cps.size) (he : Fails k (Sre.forSearch C171 x.cps 2 0 x.cps.size false)) (hk : k ≤ 2 ^ 60)
    (h : ∀ h' t' k', Fr h₀ L h' m → News h₀ L h' news → Q (.str x t') { s with heap := h', toks := k' }) :
    wpAny (model prog w) A (call (.builtin "re.Pattern.sub") [.ref p, .ref f, .str x t]) Q E s := by
  obtain ⟨of, hf, hfc⟩ := hfo
  refine wpAny_call (sub_open hp hf hfc ?_)
  have F1 := F.push (W.listOf #[] 0)
  have N1 := News.push F N (W.listOf #[] 0)
  have hn : ∀ q ∈ news, q.1 ≠ s.heap.objs.size := fun q hq => Nat.ne_of_lt (Heap.lt_size (N q hq).1)
  refine subloop_end (s := { s with heap := s.heap.push (W.listOf #[] 0) }) (parts := []) F1 N1 hn (hp.keeps fun b o e => Heap.get?_push_of_some _ e) hx he hk .nil (by decide) (fun _ h => nomatch h) (.inr hx0) fun h' t' k' F' N' => ?_
  have e1 : Txt.join es ([] ++ if 0 < x.cps.size then [(⟨x.cps.extract 0 x.cps.size⟩ : Str)] else []) = x := by
    rw [if_pos hx0]
    have e2 : (⟨x.cps.extract 0 x.cps.size⟩ : Str) = x := PySem.Str.ext' (by simp)
    rw [e2]
    rfl
  rw [e1]
  exact h h' t' k' F' N'
/-- one place is found -/
theorem sub_one {p f : Addr} {x y : Str} {t : Tok} {b k k2 : Nat} {Q : Value → Shared → Prop} (F : Fr h₀ L s.heap m) (N : News h₀ L s.heap news) (hp : ∀ h', (∀ b o, h₀.get? b = some o → h'.get? b = some o) → PatAt h' p C171 2) (hfo : ∃ o, s.heap.get? f = some o ∧ o.cls = .type "function")
    (hx : x.cps.size < 2 ^ 20) (hy : y.length ≤ 2 ^ 20) (he : Ends k (Sre.forSearch C171 x.cps 2 0 x.cps.size false) (fun m' => Hit m' b (b + 2))) (hk : k ≤ 2 ^ 60)
    (he2 : Fails k2 (Sre.forSearch C171 x.cps 2 (b + 2) x.cps.size false)) (hk2 : k2 ≤ 2 ^ 60)
    (hcall : Answers prog w A h₀ L m s f p x t b y)
    (h : ∀ h' t' k', Fr h₀ L h' m → News h₀ L h' news → Q (.str (Txt.join es ((if 0 < b then [⟨x.cps.extract 0 b⟩] else []) ++ [y] ++ (if b + 2 < x.cps.size then [⟨x.cps.extract (b + 2) x.cps.size⟩] else []))) t') { s with heap := h', toks := k' }) :
    wpAny (model prog w) A (call (.builtin "re.Pattern.sub") [.ref p, .ref f, .str x t]) Q E s := by
  obtain ⟨of, hf, hfc⟩ := hfo
  refine wpAny_call (sub_open (hp _ F.keep) hf hfc ?_)
  have F1 := F.push (W.listOf #[] 0)
  have N1 := News.push F N (W.listOf #[] 0)
  have hn : ∀ q ∈ news, q.1 ≠ s.heap.objs.size := fun q hq => Nat.ne_of_lt (Heap.lt_size (N q hq).1)
  refine subloop_hit (s := { s with heap := s.heap.push (W.listOf #[] 0) }) (n := 0) F1 N1 hn (by decide) (hp _ F1.keep) hx he hk hcall fun h1 u t1 k1 F2 N2 => ?_
  refine subloop_end (s := { s with heap := h1, toks := k1 }) (parts := (if 0 < b then [⟨x.cps.extract 0 b⟩] else []) ++ [y]) F2 N2 hn (hp _ F2.keep) hx he2 hk2 ?_ ?_ ?_ ?_ fun h' t' k' F' N' => h h' t' k' F' N'
  · by_cases hb : 0 < b
    · simp only [if_pos hb, Array.toList_push]
      exact .cons _ _ (.cons _ _ .nil)
    · simp only [if_neg hb, Array.toList_push]
      exact .cons _ _ .nil
  · by_cases hb : 0 < b
    · simp only [if_pos hb, Array.size_push]; exact (by decide : 2 ≤ 3)
    · simp only [if_neg hb, Array.size_push]; exact (by decide : 1 ≤ 3)
  · intro z hz
    rcases List.mem_append.mp hz with hz | hz
    · by_cases hb : 0 < b
      · rw [if_pos hb] at hz
        rw [List.mem_singleton.mp hz]
        show (x.cps.extract 0 b).size ≤ _
        rw [Array.size_extract]; omega
      · rw [if_neg hb] at hz; cases hz
    · rw [List.mem_singleton.mp hz]; exact hy
  · refine .inl ?_
    rw [Array.size_push]; omega
end
end Mine
-- part S12
namespace Mine
open PySem.Calls PySem.Builtin.Re PySem.Builtin
/-- y stands in x, or not -/
def InIs (y x : Str) (b : Bool) : Prop := (!(Builtin.Str.occurrences x y 0 x.length 1).isEmpty) = b
theorem inIs_of {x : Str} {c : Nat} {b : Bool} (h : decide (c ∈ x.cps.toList) = b) : InIs ⟨#[c]⟩ x b := by
  unfold InIs
  rw [StrLaws.found_one]; exact h
section
variable {prog : Program} {w : World} {A : Around} {E : Value → Shared → Prop} {s : Shared} {x y : Str} {t u : Tok} {b : Bool} {Q : Value → Shared → Prop}
theorem in_is (hb : InIs y x b) (h : Q (.bool b) s) : wpAny (model prog w) A (compareOp .In (.str y u) (.str x t)) Q E s := by
  refine in_str ?_
  unfold InIs at hb
  rw [hb]; exact h
theorem notIn_is (hb : InIs y x b) (h : Q (.bool (!b)) s) : wpAny (model prog w) A (compareOp .NotIn (.str y u) (.str x t)) Q E s := by
  refine notIn_str ?_
  unfold InIs at hb
  rw [hb]; exact h
end
-- a text of three parts
def txt (al : List Nat) (c : Nat) (bl : List Nat) : Array Nat := (al ++ 92 :: c :: bl).toArray
theorem txt_size (al : List Nat) (c : Nat) (bl : List Nat) : (txt al c bl).size = al.length + 2 + bl.length := by
  simp only [txt, List.size_toArray, List.length_append, List.length_cons]; omega
theorem txt_al {al : List Nat} {c : Nat} {bl : List Nat} {k : Nat} (h : k < al.length) : (txt al c bl).getD k 0 = al[k] := by
  have h2 : k < (txt al c bl).size := by rw [txt_size]; omega
  rw [Array.getD_eq_getD_getElem?, Array.getElem?_eq_getElem h2]
  simp [txt, h]
theorem txt_bs {al : List Nat} {c : Nat} {bl : List Nat} : (txt al c bl).getD al.length 0 = 92 := by
  simp [txt, Array.getD_eq_getD_getElem?]
theorem txt_c {al : List Nat} {c : Nat} {bl : List Nat} : (txt al c bl).getD (al.length + 1) 0 = c := by
  simp [txt, Array.getD_eq_getD_getElem?]
theorem txt_bl {al : List Nat} {c : Nat} {bl : List Nat} {k : Nat} (h : k < bl.length) : (txt al c bl).getD (al.length + 2 + k) 0 = bl[k] := by
  have h2 : al.length + 2 + k < (txt al c bl).size := by rw [txt_size]; omega
  rw [Array.getD_eq_getD_getElem?, Array.getElem?_eq_getElem h2]
  simp only [txt, Option.getD_some, List.getElem_toArray]
  rw [List.getElem_append_right (by omega)]
  have e : al.length + 2 + k - al.length = k + 2 := by omega
  simp only [e, List.getElem_cons_succ]
theorem ne92 {l : List Nat} {k : Nat} (h : 92 ∉ l) (hk : k < l.length) : (l[k] == 92) = false := by
  rw [beq_eq_false_iff_ne]
  intro e
  exact h (e ▸ List.getElem_mem hk)
/-- a sign of the eight: found at once, and no other place behind it -/
theorem turtle_hit {al : List Nat} {c : Nat} {bl : List Nat} (ha : 92 ∉ al) (hc : hit c = true) : Ends (10 + 2 * al.length) (Sre.forSearch C171 (txt al c bl) 2 0 (txt al c bl).size false) (fun m' => Hit m' al.length (al.length + 2)) := by
  rw [search_at (by rw [txt_size]; omega)]
  refine skip_at al.length 0 (by rw [txt_size]; omega) (fun k _ hk => ?_) fun f' s' => ?_
  · rw [txt_al (by omega)]; exact ne92 ha (by omega)
  · rw [Nat.zero_add]
    exact good_at (by rw [txt_size]; omega) (by rw [txt_bs]; rfl) (by rw [txt_c]; exact hc)
theorem turtle_behind {al : List Nat} {c : Nat} {bl : List Nat} (hb : 92 ∉ bl) : Fails (2 * bl.length + 3) (Sre.forSearch C171 (txt al c bl) 2 (al.length + 2) (txt al c bl).size false) := by
  by_cases h : 2 ≤ bl.length
  · rw [search_at (by rw [txt_size]; omega)]
    refine tail_at bl.length (al.length + 2) (by rw [txt_size]; omega) fun k h1 h2 => ?_
    rw [txt_size] at h2
    obtain ⟨j, rfl⟩ := Nat.exists_eq_add_of_le h1
    rw [txt_bl (by omega)]; exact ne92 hb (by omega)
  · exact (search_out (by rw [txt_size]; omega)).more (by omega)
/-- another sign: nothing is found -/
theorem turtle_none {al : List Nat} {c : Nat} {bl : List Nat} (ha : 92 ∉ al) (hb : 92 ∉ bl) (hc : hit c = false) (hc92 : c ≠ 92) (hl : bl.length ≤ 3) : Fails (2 * (bl.length + 1) + 3 + 15 + 2 * al.length) (Sre.forSearch C171 (txt al c bl) 2 0 (txt al c bl).size false) := by
  rw [search_at (by rw [txt_size]; omega)]
  refine skip_at al.length 0 (by rw [txt_size]; omega) (fun k _ hk => ?_) fun f' s' => ?_
  · rw [txt_al (by omega)]; exact ne92 ha (by omega)
  · rw [Nat.zero_add]
    refine bad_at (by rw [txt_size]; omega) (by rw [txt_bs]; rfl) (by rw [txt_c]; exact hc) (by rw [txt_size]; omega) fun s2 => ?_
    refine tail_at (bl.length + 1) (al.length + 1) (by rw [txt_size]; omega) fun k h1 h2 => ?_
    rw [txt_size] at h2
    by_cases hk : k = al.length + 1
    · subst hk
      rw [txt_c, beq_eq_false_iff_ne]; exact hc92
    · obtain ⟨j, rfl⟩ := Nat.exists_eq_add_of_le (show al.length + 2 ≤ k by omega)
      rw [txt_bl (by omega)]; exact ne92 hb (by omega)
theorem txt_extract {al : List Nat} {c : Nat} {bl : List Nat} : (⟨(txt al c bl).extract (al.length + 1) (al.length + 2)⟩ : Str) = ⟨#[c]⟩ := by
  apply PySem.Str.ext'
  show ((txt al c bl).extract (al.length + 1) (al.length + 2)) = _
  apply Array.ext'
  simp only [txt, List.extract_toArray, List.extract_eq_take_drop]
  have e : al.length + 2 - (al.length + 1) = 1 := by omega
  rw [e, ← List.drop_drop]
  simp
theorem txt_join {al : List Nat} {c r : Nat} {bl : List Nat} : Txt.join es ((if 0 < al.length then [⟨(txt al c bl).extract 0 al.length⟩] else []) ++ [⟨#[r]⟩] ++ (if al.length + 2 < (txt al c bl).size then [⟨(txt al c bl).extract (al.length + 2) (txt al c bl).size⟩] else [])) = ⟨(al ++ r :: bl).toArray⟩ := by
  have e1 : (⟨(txt al c bl).extract 0 al.length⟩ : Str) = ⟨al.toArray⟩ := by
    apply PySem.Str.ext'
    show (txt al c bl).extract 0 al.length = al.toArray
    apply Array.ext'
    simp [txt, List.extract_toArray]
  have e2 : (⟨(txt al c bl).extract (al.length + 2) (txt al c bl).size⟩ : Str) = ⟨bl.toArray⟩ := by
    apply PySem.Str.ext'
    show (txt al c bl).extract (al.length + 2) (txt al c bl).size = bl.toArray
    apply Array.ext'
    rw [txt_size]
    simp only [txt, List.extract_toArray, List.extract_eq_take_drop]
    have e : al.length + 2 + bl.length - (al.length + 2) = bl.length := by omega
    rw [e, ← List.drop_drop]
    simp
  rw [e1, e2, txt_size]
  apply PySem.Str.ext'
  by_cases ha : 0 < al.length
  · by_cases hb : 0 < bl.length
    · rw [if_pos ha, if_pos (by omega)]
      apply Array.ext'
      simp [Txt.join, Builtin.Str.glued, es]
    · have hb' : bl = [] := List.eq_nil_of_length_eq_zero (by omega)
      subst hb'
      rw [if_pos ha, if_neg (by simp)]
      apply Array.ext'
      simp [Txt.join, Builtin.Str.glued, es]
  · have ha' : al = [] := List.eq_nil_of_length_eq_zero (by omega)
    subst ha'
    by_cases hb : 0 < bl.length
    · rw [if_neg ha, if_pos (by omega)]
      apply Array.ext'
      simp [Txt.join, Builtin.Str.glued, es]
    · have hb' : bl = [] := List.eq_nil_of_length_eq_zero (by omega)
      subst hb'
      rw [if_neg ha, if_neg (by simp)]
      rfl
end Mine
-- part C1
namespace Mine
open PySem.Calls
def ntTab : List (Nat × Nat) := [(98, 8), (102, 12), (110, 10), (114, 13), (116, 9), (92, 92), (34, 34), (39, 39)]
theorem esc_map (P : Params) {c r : Nat} (h : (c, r) ∈ ntTab) : ∃ u, nsIn (hd.heap_39 P) 160 ⟨#[c]⟩ = some (some (.str ⟨#[r]⟩ u)) := by
  simp only [ntTab, List.mem_cons, Prod.mk.injEq, List.not_mem_nil, or_false] at h
  rcases h with ⟨rfl, rfl⟩ | ⟨rfl, rfl⟩ | ⟨rfl, rfl⟩ | ⟨rfl, rfl⟩ | ⟨rfl, rfl⟩ | ⟨rfl, rfl⟩ | ⟨rfl, rfl⟩ | ⟨rfl, rfl⟩
  · exact ⟨729, by kernel_rfl!⟩
  · exact ⟨735, by kernel_rfl!⟩
  · exact ⟨731, by kernel_rfl!⟩
  · exact ⟨733, by kernel_rfl!⟩
  · exact ⟨727, by kernel_rfl!⟩
  · exact ⟨741, by kernel_rfl!⟩
  · exact ⟨737, by kernel_rfl!⟩
  · exact ⟨739, by kernel_rfl!⟩
def patObj (pat : Str) (t1 t2 : Tok) (fl : Int) (g tp : Nat) : Obj := { cls := .type "re.Pattern", data := .fields #[.str pat t1, .int fl t2, .int (g : Nat) 0, .none, .none, .ref tp, .int 0 0] }
def wordsObj (code : Array Nat) : Obj := { cls := .type "tuple", data := .seq (code.map fun (w : Nat) => Value.int w 0) }
theorem words_raw (code : Array Nat) : ((code.map fun (w : Nat) => Value.int w 0).map Builtin.Re.reRawOf).map (·.toNat) = code := by
  rw [Array.map_map, Array.map_map]
  exact Array.map_id'' (fun _ => rfl) code
theorem patAt_of {h : Heap} {p tp : Addr} {pat : Str} {t1 t2 : Tok} {fl : Int} {g : Nat} {code : Array Nat} (h1 : h.get? p = some (patObj pat t1 t2 fl g tp)) (h2 : h.get? tp = some (wordsObj code)) : PatAt h p code g :=
  ⟨_, _, tp, _, _, _, h1, rfl, rfl, rfl, rfl, rfl, rfl, h2, rfl, words_raw code⟩
theorem pat172 (P : Params) {h : Heap} (X : (hd.heap_39 P).In h) : PatAt h 172 C171 2 :=
  patAt_of (pat := Str.ofString "\\\\(?:([tbnrf\"'\\\\])|(u[0-9A-Fa-f]{4}|U[0-9A-Fa-f]{8}))") (t1 := 761) (t2 := 850) (fl := 32) (X 172 _ (by kernel_rfl!)) (X 171 _ (by kernel_rfl!))
theorem pat68 (P : Params) {h : Heap} (X : (hd.heap_39 P).In h) : PatAt h 68 C68 0 :=
  patAt_of (pat := Str.ofString "[\\\\\\r\\n\\\"\\']") (t1 := 507) (t2 := 538) (fl := 32) (X 68 _ (by kernel_rfl!)) (X 67 _ (by kernel_rfl!))
end Mine
-- part C2
namespace Mine
open PySem.Calls
/-- how a function of the text is called: from a def's frame, its own ledger beside -/
abbrev Asked (w : World) (lv : Nat) (f : Addr) (vs : List Value) (news : List (Addr × Obj)) (Ret : Heap → Addr → (Str → Option Value) → Shared → (Value → Shared → Prop) → Prop) : Prop :=
  ∀ (dp un : Nat) (gd : Option (List Code)) (cn : Str) (cs : Scope) (a : Addr) (ccd : Value) (cl : List (Str × Addr)) (outer : List Env) (A₀ : Around) (base h₀ : Heap) (L : Addr) (m : Str → Option Value) (s : Shared) (Q E : Value → Shared → Prop)
    (p : Program) (loose : List Str) (mean : ExcName → Option Value) (mg mb : Str → Option Value),
    Below A₀ base outer h₀ → Fr h₀ L s.heap m → (hd.heap_39 w.params).In h₀ → News h₀ L s.heap news → Top p loose mean mg mb h₀ → cs.kind = .function → dp + lv < recursionLimit → un + 10 * lv < cLine →
    Ret h₀ L m s Q → wpAny (model PySem.Challenge.rw_be5035_01.row.prog w) (ktrTop dp un gd cn cs L a ccd cl outer) (call (.ref f) vs) Q E s
theorem matchAt_of {h₀ h : Heap} {L a tp p : Addr} {str : Value} {pos lim : Nat} {li : Int} {spans : List Int} {l : List (Addr × Obj)} (N : News h₀ L h l) (h1 : (a, matchObj p str pos lim li tp) ∈ l) (h2 : (tp, spanObj spans) ∈ l) : MatchAt h a str spans :=
  ⟨p, pos, lim, li, tp, (N _ h1).1, (N _ h2).1⟩
section
variable {prog : Program} {w : World} {A : Around} {E : Value → Shared → Prop} {s : Shared} {h₀ : Heap} {L : Addr} {m : Str → Option Value} {news : List (Addr × Obj)}
theorem groups_N {a : Addr} {x : Str} {t : Tok} {b0 e0 : Int} {b e : Nat} {Q : Value → Shared → Prop} (F : Fr h₀ L s.heap m) (N : News h₀ L s.heap news) (hp : MatchAt s.heap a (.str x t) [b0, e0, (b : Int), (e : Int), -1, -1]) (hx : x.cps.size < 2 ^ 20)
    {y : Str} (hy : (⟨x.cps.extract b e⟩ : Str) = y)
    (h : ∀ D u h', Fr h₀ L h' m → News h₀ L h' ((D, { cls := .type "tuple", data := .seq #[.str y u, .none] }) :: news) → (∀ q ∈ news, q.1 < D) → Q (.ref D) { s with toks := s.toks + 1, heap := h' }) :
    wpAny (model prog w) A (call (.builtin "re.Match.groups") [.ref a]) Q E s := by
  refine groups_call hp (Nat.lt_trans hx (by decide)) ?_
  rw [hy]
  exact h _ _ _ (F.push _) (News.push F N _) fun q hq => Heap.lt_size (N q hq).1
end
local macro_rules | `(tactic| walk_at "getMethod ref") => `(tactic| (k_here; (with_reducible show wpAny _ _ (getMethod (Value.ref _) (Str.ofString "groups") _) _ _ _); refine' getMethod_match ?k1 slot_groups type_groups ?_; (case k1 => exact matchAt_of (by k_asm) (by k_mem) (by k_mem))))
local macro_rules | `(tactic| walk_at "call builtin:re.Match.groups") => `(tactic| (k_here; refine' groups_N ?k0 ?k1 ?k2 ?k3 ?k4 ?_; (case k0 => k_asm); (case k1 => k_asm); (case k2 => exact matchAt_of (by k_asm) (by k_mem) (by k_mem)); (case k3 => assumption); (case k4 => assumption); intro D' u' h' F' N' l1; k_lt l1))
local macro_rules | `(tactic| walk_at "subscriptTail") => `(tactic| (k_here; (with_reducible show wpAny _ _ (subscriptTail _ _ (Value.ref 160) (Value.str _ _)) _ _ _); k_dflt (refine' topItem_K ?F ?X ?l ?k ?e ?_; (case F => k_asm); (case X => k_asm); (case l => k_is); (case k => k_keys); (case e => assumption))))
def Hold (P : Prop) : Prop := P
theorem Hold.out {P : Prop} (h : Hold P) : P := h
theorem subber_goal (w : World) (a tp : Addr) (x : Str) (t : Tok) (b c r : Nat) (news : List (Addr × Obj)) (hcr : (c, r) ∈ ntTab) (hc : (⟨x.cps.extract (b + 1) (b + 2)⟩ : Str) = ⟨#[c]⟩) (hx : x.cps.size < 2 ^ 20) :
    Asked w 2 167 [.ref a] ((a, matchObj 172 (.str x t) 0 x.cps.size 1 tp) :: (tp, spanObj [(b : Int), ((b + 2 : Nat) : Int), ((b + 1 : Nat) : Int), ((b + 2 : Nat) : Int), -1, -1]) :: news)
      (fun h₀ L m s Q => ∀ t' h' tk', Fr h₀ L h' m → News h₀ L h' ((a, matchObj 172 (.str x t) 0 x.cps.size 1 tp) :: (tp, spanObj [(b : Int), ((b + 2 : Nat) : Int), ((b + 1 : Nat) : Int), ((b + 2 : Nat) : Int), -1, -1]) :: news) → Q (.str ⟨#[r]⟩ t') { s with heap := h', toks := tk' }) := by
  unfold Asked
  k_fill
  w_top off
  k_with_none
  intro dp un gd cn cs a' ccd cl outer A₀ base h₀ L m s Q E p loose mean mg mb hB hF hK hN hT hk hdp hun hret
  obtain ⟨u, he⟩ := esc_map w.params hcr
  refine wpAny_call ?_
  k_dflt cell_enter
  k_steps
  all_goals (refine hret _ _ _ (by k_asm) (cb_drop (by assumption) ?_); intro q hq; exact .tail _ hq)
end Mine
-- part C3
namespace Mine
open PySem.Calls
theorem hit_tab {c r : Nat} (h : (c, r) ∈ ntTab) : hit c = true := by
  simp only [ntTab, List.mem_cons, Prod.mk.injEq, List.not_mem_nil, or_false] at h
  rcases h with ⟨rfl, rfl⟩ | ⟨rfl, rfl⟩ | ⟨rfl, rfl⟩ | ⟨rfl, rfl⟩ | ⟨rfl, rfl⟩ | ⟨rfl, rfl⟩ | ⟨rfl, rfl⟩ | ⟨rfl, rfl⟩ <;> rfl
theorem fn167 (P : Params) {h : Heap} (X : (hd.heap_39 P).In h) : ∃ o, h.get? 167 = some o ∧ o.cls = .type "function" := by
  have e : ((hd.heap_39 P).lookup 167).map (·.cls) = some (.type "function") := by kernel_rfl!
  cases q : (hd.heap_39 P).lookup 167 with
  | none => rw [q] at e; cases e
  | some o => rw [q] at e; exact ⟨o, X 167 o q, Option.some.inj e⟩
local macro_rules | `(tactic| walk_at "getMethod ref") => `(tactic| (k_here; (with_reducible show wpAny _ _ (getMethod (Value.ref 172) (Str.ofString "sub") _) _ _ _); refine' getMethod_pattern ?k1 slot_sub type_sub ?_; (case k1 => exact pat172 _ (by k_in))))
local macro_rules | `(tactic| walk_at "compareOp NotIn str str") => `(tactic| (k_here; refine notIn_is (by assumption) ?_))
theorem decode_bad (w : World) (t : Tok) (al bl : List Nat) (c : Nat) (news : List (Addr × Obj)) (ha : 92 ∉ al) (hb : 92 ∉ bl) (hla : al.length ≤ 100) (hlb : bl.length ≤ 3) (hc : hit c = false) (hc92 : c ≠ 92) :
    Asked w 5 179 [.str ⟨txt al c bl⟩ t] news
      (fun h₀ L m s Q => ∀ t' h' tk', Fr h₀ L h' m → News h₀ L h' news → Q (.str ⟨txt al c bl⟩ t') { s with heap := h', toks := tk' }) := by
  have hin : InIs (Str.ofString "\\") ⟨txt al c bl⟩ true := inIs_of (c := 92) (by simp [txt])
  have hsz : (⟨txt al c bl⟩ : Str).cps.size < 2 ^ 20 := by show (txt al c bl).size < _; rw [txt_size]; omega
  have hs0 : 0 < (⟨txt al c bl⟩ : Str).cps.size := by show 0 < (txt al c bl).size; rw [txt_size]; omega
  unfold Asked
  k_fill
  w_top off
  k_with_none
  intro dp un gd cn cs a' ccd cl outer A₀ base h₀ L m s Q E p loose mean mg mb hB hF hK hN hT hk hdp hun hret
  k_with_none
  k_with "call builtin:re.Pattern.sub" => (refine sub_none (by k_asm) (by k_asm) (pat172 _ (by k_in)) (fn167 _ (by k_in)) hsz hs0 (turtle_none ha hb hc hc92 hlb) (by omega) ?_; intro h' t' k' F' N')
  refine wpAny_call ?_
  k_dflt cell_enter
  k_steps
  all_goals exact hret _ _ _ (by k_asm) (by k_asm)
theorem decode_good (w : World) (t : Tok) (al bl : List Nat) (c r : Nat) (news : List (Addr × Obj)) (ha : 92 ∉ al) (hb : 92 ∉ bl) (hla : al.length ≤ 100) (hlb : bl.length ≤ 3) (hcr : (c, r) ∈ ntTab) :
    Asked w 5 179 [.str ⟨txt al c bl⟩ t] news
      (fun h₀ L m s Q => ∀ t' h' tk', Fr h₀ L h' m → News h₀ L h' news → Q (.str ⟨(al ++ r :: bl).toArray⟩ t') { s with heap := h', toks := tk' }) := by
  have hin : InIs (Str.ofString "\\") ⟨txt al c bl⟩ true := inIs_of (c := 92) (by simp [txt])
  have hsz : (⟨txt al c bl⟩ : Str).cps.size < 2 ^ 20 := by show (txt al c bl).size < _; rw [txt_size]; omega
  have hs0 : 0 < (⟨txt al c bl⟩ : Str).cps.size := by show 0 < (txt al c bl).size; rw [txt_size]; omega
  unfold Asked
  k_fill
  w_top off
  k_with_none
  intro dp un gd cn cs a' ccd cl outer A₀ base h₀ L m s Q E p loose mean mg mb hB hF hK hN hT hk hdp hun hret
  k_with_none
  k_with "call builtin:re.Pattern.sub" => (refine sub_one (b := al.length) (y := ⟨#[r]⟩) (by k_asm) (by k_asm) (fun h' k' => pat172 _ (Frag.In.keeps (by assumption) k')) (fn167 _ (by k_in)) hsz (by show 1 ≤ _; omega) (turtle_hit ha (hit_tab hcr)) (by omega) (turtle_behind hb) (by omega) ?_ ?_; refine Hold.out ?_; rotate_left; rw [txt_join]; intro h' t' k' F' N')
  refine wpAny_call ?_
  k_dflt cell_enter
  k_steps
  · exact hret _ _ _ (by k_asm) (by k_asm)
  · unfold Hold
    intro news' a tp h1 tk Q' E' F1 N1 k1
    with_unfolding_all refine' subber_goal w a tp _ t _ c r news' hcr txt_extract hsz _ _ _ _ _ _ _ [] _ _ _ _ _ _ _ _ _ _ _ _ _ _ ?k1 F1 ?k3 N1 ?k5 ?kK ?kd ?ku ?kR
    case k1 => k_asm
    case k3 => k_asm
    case k5 => k_asm
    case kK => rfl
    case kd => (show dp + 1 + 2 < recursionLimit); omega
    case ku => (show un + 3 + 1 + 10 * 2 < cLine); omega
    case kR => exact k1
end Mine
-- part E2
namespace Mine
open PySem.Calls
abbrev excObj (C t : Addr) : Obj := { cls := .ref C, data := .fields #[.ref t, .none, .none, .none, .bool false, .none] }
abbrev argsObj (rest : List Value) : Obj := { cls := .type "tuple", data := .seq rest.toArray }
section
variable {M : Model} {A : Around} {E : Value → Shared → Prop} {h : Heap} {g : Array GenState} {d : Drawn} {t : Nat} {os : OsState}
variable {nm q : Str} {C N : Addr} {bs bm : List Value} {hdct : Bool} {sn : List Str} {sub : List Value} {ab : Bool} {col : Option Bool} {dd : Option Addr} {k0 k1 k2 k3 k5 : Option Value}
theorem check_new_exc (hB : bm.contains (.type "Exception") = true) {rest : List Value} {Q : Unit → Shared → Prop} (hC : h.get? C = some (excClassObj nm q C N bs bm hdct sn sub ab col dd k0 k1 k2 k3 k5 "Exception.__new__"))
    (hq : Q () ⟨h, g, d, t, os⟩) : wpAny M A (checkBuiltinCall "Exception.__new__" ⟨.ref C :: rest, []⟩) Q E ⟨h, g, d, t, os⟩ := by
  have F := PySem.F.excBase_Exception
  have hcont : (Value.ref C :: bm).contains (.type "Exception") = true := by rw [List.contains_cons, hB, Bool.or_true]
  have hstar := F.noStar
  simp only [checkBuiltinCall, F.newKind, F.newSplit, F.newRow]
  repeat (first | refine wpAny_loadPart_at hC ?_ | (refine wpAny_isSubtype_exc hC ?_; rw [hcont]) | refine wpAny_staticBase_exc hC ?_ | refine wpAny_madeBy_exc hC ?_ | simp only [bne_self_eq_false, Bool.false_eq_true, if_false] | wp_step)
  exact hq
end
section
variable {prog : Program} {w : World} {A : Around} {R : Result → Shared → Prop} {h : Heap} {g : Array GenState} {d : Drawn} {t : Nat} {os : OsState}
variable {nm q : Str} {C N : Addr} {bs bm : List Value} {hdct : Bool} {sn : List Str} {sub : List Value} {ab : Bool} {col : Option Bool} {dd : Option Addr} {k0 k1 k2 k3 k5 : Option Value}
theorem new_exc (hB : bm.contains (.type "Exception") = true) (hA : bm.contains (.type "AttributeError") = false) (hN : bm.contains (.type "NameError") = false) {rest : List Value}
    (hC : h.get? C = some (excClassObj nm q C N bs bm hdct sn sub ab col dd k0 k1 k2 k3 k5 "Exception.__new__"))
    (hq : R (.ok (.ret (.ref (h.objs.size + 1)))) ⟨(h.push (argsObj rest)).push (excObj C h.objs.size), g, d, t, os⟩) (hrest : rest.length ≤ sizeLine := by size_fits) :
    codeAny (model prog w) A (.builtin "Exception.__new__" ⟨.ref C :: rest, []⟩) R ⟨h, g, d, t, os⟩ := by
  have F := PySem.F.excBase_Exception
  have hends := F.ends
  have hcB : (Value.ref C :: bm).contains (.type "Exception") = true := by rw [List.contains_cons, hB, Bool.or_true]
  have hcA : (Value.ref C :: bm).contains (.type "AttributeError") = false := by rw [List.contains_cons, hA]; rfl
  have hcN : (Value.ref C :: bm).contains (.type "NameError") = false := by rw [List.contains_cons, hN]; rfl
  refine codeAny_builtinAt F.entry ?_
  unfold Builtin.«BaseException.__new__»
  refine PySem.wpAt_bind ?_
  show PySem.wpAt _ _ _ (stack >>= _) _ _ _
  refine PySem.wpAt_bind (PySem.wpAt_stack fun p below => PySem.wpAt_of_wpAny ?_)
  wp_walk
  refine PySem.wpAt_of_wpAny ?_
  rw [F.owner]
  repeat (first | with_reducible refine wpAny_madeHere_exc F.canon hC ?_ | with_reducible refine wpAny_loadPart_at hC ?_ | (with_reducible refine wpAny_isSubtype_exc hC ?_; first | rw [hcB] | rw [hcA] | rw [hcN]) | wp_step)
  show R _ _
  rw [Heap.size_push]
  exact hq
theorem make_exc (hB : bm.contains (.type "Exception") = true) (hA : bm.contains (.type "AttributeError") = false) (hN : bm.contains (.type "NameError") = false) {rest : List Value} {fI : Addr}
    (hC : h.get? C = some (excClassObj nm q C N bs bm hdct sn sub ab col dd k0 k1 k2 k3 k5 "Exception.__new__"))
    (hi : Looks (model prog w) h (typeLookup (.ref C) "__init__") (some (.ref fI))) (hb : ∀ self, Looks (model prog w) h (bindSpecial (.ref fI) self) (.ref fI, [self]))
    (hq : codeAny (model prog w) (A.under (.builtin "type.__call__" ⟨.ref C :: rest, []⟩)) (.call (.ref fI) ⟨.ref (h.objs.size + 1) :: rest, []⟩) (InitBack (h.objs.size + 1) R) ⟨(h.push (argsObj rest)).push (excObj C h.objs.size), g, d, t, os⟩) (hrest : rest.length ≤ sizeLine := by size_fits) :
    codeAny (model prog w) A (.call (.ref C) ⟨rest, []⟩) R ⟨h, g, d, t, os⟩ := by
  have F := PySem.F.excBase_Exception
  have f1 := tc_lookup
  have f2 := tc_bind (.ref C)
  have hT : (⟨h, g, d, t, os⟩ : Shared).TypeIs (.ref C) "type" := ⟨_, hC, rfl⟩
  refine codeAny_of_tree ?_
  show wpAny _ _ (callAny (.ref C) _) _ _ _
  repeat (any_goals (first | assumption | with_reducible refine wpAny_loadPart_at hC ?_ | wp_step))
  refine ⟨rfl, ?_⟩
  refine codeAny_call_builtin_at (Code.quiet_builtin _ (by decide +kernel)) entry_typeCall (wpAny_check_type_call_sub hC ?_)
  repeat (first | with_reducible refine wpAny_loadPart_at hC ?_ | with_reducible refine wpAny_madeBy_exc hC ?_ | wp_step)
  refine codeAny_call_builtin_code (Code.quiet_builtin _ F.quiet) (check_new_exc hB hC ?_)
  refine new_exc hB hA hN hC ?_ hrest
  show wpAny _ _ _ _ _ _
  have hC₁ := Heap.get?_push_of_some (excObj C h.objs.size) (Heap.get?_push_of_some (argsObj rest) hC)
  have k : ∀ b o, h.get? b = some o → ((h.push (argsObj rest)).push (excObj C h.objs.size)).get? b = some o := fun b o e => Heap.get?_push_of_some _ (Heap.get?_push_of_some _ e)
  have hget : ((h.push (argsObj rest)).push (excObj C h.objs.size)).get? (h.objs.size + 1) = some (excObj C h.objs.size) := by heap_get
  have hcC : (Value.ref C :: bm).contains (.ref C) = true := by simp
  have t1 : Looks (model prog w) ((h.push (argsObj rest)).push (excObj C h.objs.size)) (typeOf (.ref (h.objs.size + 1))) (.ref C) := (Looks.ld hget).andThen .now
  have i1 := hi.keeps k
  have b1 := (hb (.ref (h.objs.size + 1))).keeps k
  unfold isInstance
  refine wpAny_bind (wpAny_bind (t1.at ?_))
  refine wpAny_isSubtype_exc hC₁ ?_
  rw [hcC]
  unfold callSpecial? specialOf
  repeat (first | with_reducible refine wpAny_call ?_ | lk)
  refine codeAny_mono hq fun r s' z => ?_
  rcases r with e | (v | _ | _ | _) <;> first | exact z | exact z.elim | skip
  obtain ⟨rfl, z⟩ := z
  exact wpAny_pure (wpAny_pure z)
end
end Mine
-- part E3
namespace Mine
open PySem.Calls PySem.Builtin PySem.Builtin.ObjectAttr
abbrev excD (C t d : Addr) : Obj := { cls := .ref C, dict := some d, data := .fields #[.ref t, .none, .none, .none, .bool false, .none] }
def badMro : List Value := [.ref 156, .type "SyntaxError", .type "Exception", .type "BaseException", .type "object"]
theorem refuse_bad (self : Value) : refuseLoop self "__setattr__" badMro = pure () := by
  unfold badMro
  rw [refuseLoop_ref]
  kernel_rfl!
section
variable {prog : Program} {w : World} {A : Around} {E : Value → Shared → Prop} {s : Shared} {K : Frag} {x C L : Addr} {h₀ : Heap} {m : Str → Option Value} {news : List (Addr × Obj)} {R : Result → Shared → Prop}
theorem osaE_open {ox : Obj} {od : Option Obj} {name : Str} {tk : Tok} {v : Value} {cd : ClassData} (X : K.In s.heap) (I : InstAt s.heap x ox C od) (hc : clsIn K C = some cd) (ho : cd.mro.contains (.type "object") = true) (hr : ∀ self, refuseLoop self "__setattr__" cd.mro = pure ()) (ha : findIn K (.ref C) name = some none)
    (h : ∀ b, wpAny (model prog w) A.in1 (storeInOwnDict (.ref x) (.ref C) (.str name tk) name v b)
      (fun fin s' => match fin with | .done f => R (.ok f) s' | .again c' => c'.quiet = true ∧ codeAny (model prog w) A c' R s') (fun e s' => R (.error e) s') s) :
    codeAny (model prog w) A (.call (.builtin "object.__setattr__") ⟨[.ref x, .str name tk, v], []⟩) R s := by
  have SF := PySem.F.store_object
  have ne : cd.mro.isEmpty = false := by cases q : cd.mro with | nil => rw [q] at ho; cases ho | cons _ _ => rfl
  have sub : Looks (model prog w) s.heap (isInstance (.ref x) (.type "object")) true := I.type.andThen (looks_mroIn X (by unfold mroIn; rw [hc, Option.bind_some, if_neg (by rw [ne]; decide), ho]))
  refine codeAny_call_builtin SF.slot.plain SF.entry (@check_slot (model prog w) _ _ s "object.__setattr__" "object" "__setattr__" (.ref x) [.str name tk, v] [] _ SF.kind SF.split sub (SF.args (.ref x) (.str name tk) v) ?_)
  have hm : Looks (model prog w) s.heap (mroOf (.ref C)) cd.mro := (looks_clsIn X hc).andThen .now
  rw [osa_eq, refuse_eq]
  refine wpAny_bind (wpAny_bind (I.type.here (wpAny_bind (hm.here ?_))))
  rw [hr]
  refine wpAny_pure (wpAny_bind (I.type.here (wpAny_bind ((looks_findIn X ha).here (wpAny_bind (wpAny_pure ?_))))))
  exact h _
/-- a store into an exception that has no dict yet -/
theorem set_exc0 {t : Addr} {name : Str} {v : Value} {cd : ClassData} {Q : Unit → Shared → Prop} (F : Fr h₀ L s.heap m) (X₀ : K.In h₀) (N : News h₀ L s.heap ((x, excObj C t) :: news)) (hn : ∀ q ∈ news, q.1 ≠ x)
    (hs : findIn K (.ref C) "__setattr__" = some (some (.builtin "object.__setattr__"))) (hc : clsIn K C = some cd) (hh : cd.hasDict = true) (ho : cd.mro.contains (.type "object") = true) (hr : ∀ self, refuseLoop self "__setattr__" cd.mro = pure ()) (ha : findIn K (.ref C) name = some none)
    (h : ∀ d h' tk, Fr h₀ L h' m → News h₀ L h' ((d, dictOf [⟨PyData.keyHash w.params name, .str name (s.toks + 1), v⟩] 1) :: (x, excD C t d) :: news) → x < d → (∀ q ∈ news, q.1 < d) → Q () { s with heap := h', toks := tk }) :
    wpAny (model prog w) A (setAttr (.ref x) name v) Q E s := by
  have I : InstAt s.heap x (excObj C t) C none := ⟨(N _ (.head _)).1, rfl, rfl, trivial⟩
  have X := X₀.keeps F.keep
  refine set_plain X I hs (osaE_open (s := { s with toks := s.toks + 1 }) X I hc ho hr ha fun b => ?_)
  obtain ⟨hh', g, dr, tk, os⟩ := s
  have hx := (N _ (.head _)).1
  have F1 := F.push emptyDict
  have N1 := News.push F N emptyDict
  have hx1 := (N1 _ (.tail _ (.head _))).1
  have hlt : x < hh'.objs.size := Heap.lt_size hx
  have hlt2 : ∀ q ∈ news, q.1 < hh'.objs.size := fun q hq => Heap.lt_size (N q (.tail _ hq)).1
  obtain ⟨F2, N2⟩ := news_upd (pre := [(hh'.objs.size, emptyDict)]) (d := x) (o := excObj C t) (o' := excD C t hh'.objs.size) (f := fun o => { o with dict := some hh'.objs.size }) (post := news) F1 N1
    (fun q hq => by rw [List.mem_singleton.mp hq]; exact Nat.ne_of_gt hlt) hn rfl rfl
  have N2' : News h₀ L ((hh'.push emptyDict).update x fun o => { o with dict := some hh'.objs.size }) ([] ++ (hh'.objs.size, dictOf [] 0) :: (x, excD C t hh'.objs.size) :: news) := N2
  obtain ⟨F3, N3⟩ := news_upd (f := Obj.putName name (PyData.keyHash w.params name) (.str name (tk + 1)) v) F2 N2' (fun _ hq => nomatch hq) (fun q hq => by
    rcases List.mem_cons.mp hq with rfl | hq
    · exact Nat.ne_of_lt hlt
    · exact Nat.ne_of_lt (hlt2 q hq)) (putName_dict _ _ _ _ _ _) rfl
  have D := (N2' (hh'.objs.size, dictOf [] 0) (by simp)).1
  have D3 := (N3 (hh'.objs.size, _) (by exact .head _)).1
  refine wpAny_bind (wpAny_pure (wpAny_bind (wpAny_bind (wpAny_loadPart hx (wpAny_bind ((looks_clsIn X hc).at ?_))))))
  have hcond : (!true || !typeHasDict (excObj C t).cls) = false := rfl
  simp only [hh, Bool.not_true, Bool.false_eq_true, if_false, hcond]
  refine wpAny_bind (wpAny_alloc (wpAny_bind (wpAny_update hx1 (wpAny_pure (a := some hh'.objs.size) ?_))))
  unfold storeInDict
  refine wpAny_bind (m := newKeyGuard hh'.objs.size name (.str name tk)) (wpAny_pure ?_)
  unfold nsSet
  refine wpAny_bind (wpAny_bind (wpAny_bind (wpAny_askSetting (wpAny_pure (wpAny_bind (wpAny_mkText (wpAny_bind (wpAny_loadPart D ?_))))))))
  have c : aRefKeyMayBeTheName name (#[] : Array DictEntry) = false := by rw [aRefKeyMayBeTheName_at]; simp
  dsimp only [dictOf]
  rw [c]
  refine wpAny_updatePart D ?_
  refine wpAny_bind (wpAny_lookBehind D3 rfl ?_)
  exact wpAny_pure (h hh'.objs.size _ _ F3 N3 hlt hlt2)
/-- a further store -/
theorem set_excN {t d : Addr} {name : Str} {v : Value} {cd : ClassData} {es es' : List DictEntry} {n n' : Nat} {Q : Unit → Shared → Prop} (F : Fr h₀ L s.heap m) (X₀ : K.In h₀) (N : News h₀ L s.heap ((d, dictOf es n) :: (x, excD C t d) :: news)) (hxd : x < d) (hn : ∀ q ∈ news, q.1 < d)
    (hs : findIn K (.ref C) "__setattr__" = some (some (.builtin "object.__setattr__"))) (hc : clsIn K C = some cd) (hh : cd.hasDict = true) (ho : cd.mro.contains (.type "object") = true) (hr : ∀ self, refuseLoop self "__setattr__" cd.mro = pure ()) (ha : findIn K (.ref C) name = some none)
    (hl : (getL name es).isSome = true) (e : (putL name (PyData.keyHash w.params name) (.str name (s.toks + 1)) v es, putN name es n) = (es', n')) (hz : es'.length ≤ 1000)
    (h : ∀ h' tk, Fr h₀ L h' m → News h₀ L h' ((d, dictOf es' n') :: (x, excD C t d) :: news) → Q () { s with heap := h', toks := tk }) :
    wpAny (model prog w) A (setAttr (.ref x) name v) Q E s := by
  have D := (N _ (.head _)).1
  have hx := (N _ (.tail _ (.head _))).1
  have I : InstAt s.heap x (excD C t d) C (some (dictOf es n)) := ⟨hx, rfl, rfl, D⟩
  have X := X₀.keeps F.keep
  refine set_plain X I hs (osaE_open (s := { s with toks := s.toks + 1 }) X I hc ho hr ha fun b => ?_)
  obtain ⟨hh', g, dr, tk, os⟩ := s
  obtain ⟨e1, e2⟩ := Prod.mk.inj e
  obtain ⟨F3, N3⟩ := news_upd (pre := []) (d := d) (o := dictOf es n) (o' := dictOf es' n') (f := Obj.putName name (PyData.keyHash w.params name) (.str name (tk + 1)) v) F N (fun _ hq => nomatch hq) (fun q hq => by
    rcases List.mem_cons.mp hq with rfl | hq
    · exact Nat.ne_of_lt hxd
    · exact Nat.ne_of_lt (hn q hq)) (by rw [putName_dict, e1, e2]) rfl
  have D3 := (N3 _ (.head _)).1
  refine wpAny_bind (wpAny_pure (wpAny_bind (wpAny_bind (wpAny_loadPart hx (wpAny_bind ((looks_clsIn X hc).at ?_))))))
  simp only [hh, Bool.not_true, Bool.false_eq_true, if_false]
  refine wpAny_pure (a := some d) ?_
  unfold storeInDict
  refine wpAny_bind (m := newKeyGuard d name (.str name tk)) (wpAny_pure ?_)
  unfold nsSet
  refine wpAny_bind (wpAny_bind (wpAny_bind (wpAny_askSetting (wpAny_pure (wpAny_bind (wpAny_mkText (wpAny_bind (wpAny_loadPart D ?_))))))))
  have c : aRefKeyMayBeTheName name es.toArray = false := by
    rw [aRefKeyMayBeTheName_at]
    unfold getL at hl
    rw [← Array.any_toList, ← Array.any_toList]
    split at hl
    · rename_i en he
      rw [List.any_eq_true.mpr ⟨en, List.mem_of_find?_eq_some he, List.find?_some he⟩]; rfl
    · split at hl
      · cases hl
      · rename_i z; rw [Bool.not_eq_true] at z; rw [z, Bool.and_false]
  dsimp only [dictOf]
  rw [c]
  refine wpAny_updatePart D ?_
  refine wpAny_bind (wpAny_lookBehind D3 (pastItsLine_dict (by rw [List.size_toArray, sizeLine_eq]; omega)) ?_)
  exact wpAny_pure (h _ _ F3 N3)
end
end Mine
-- part E4
namespace Mine
open PySem.Calls PySem.Spec
section
variable {M : Model} {A : Around} {E : Value → Shared → Prop} {env : Env} {K : Frag} {C : Addr}
/-- what is raised: an own exception with a dict of its own -/
def RaiseEnd (K : Frag) (C : Addr) (E : Value → Shared → Prop) (v : Value) (s : Shared) : Prop := ∃ e t d, v = .ref e ∧ s.heap.get? e = some (excD C t d) ∧ K.In s.heap ∧ E (.ref e) s
theorem raise_exc {s : Shared} {x : Expr} {pos : Pos} {Q : Flow → Shared → Prop} (hq : ktsIn K C "BaseException" = true) (hh : A.handled = none)
    (h : wpAny M A (eval x env) (RaiseEnd K C E) E s) :
    wpAny M A (exec (.Raise (some x) none pos) env) Q E s := by
  rw [arm_exec_Raise]
  refine wpAny_bind (wpAny_standAt ?_)
  unfold raiseStmt
  refine wpAny_bind (wpAny_bind (wpAny_mono h (fun v s₁ h₁ => ?_) fun _ _ x => x))
  obtain ⟨e, t, d, rfl, he, X, hE⟩ := h₁
  obtain ⟨nm, qn, N, bs, bm, hdct, sn, sub, ab, col, dd, k0, k1, k2, k3, k5, newId, hC₁, hbase, -⟩ := kts_cls X hq
  have hcB : (Value.ref C :: bm).contains (.type "BaseException") = true := by rw [List.contains_cons, hbase, Bool.or_true]
  obtain ⟨hp, g, dr, tk, os⟩ := s₁
  refine wpAny_bind (wpAny_standAt (wpAny_pure ?_))
  repeat (first | with_reducible refine wpAny_loadPart_at he ?_ | with_reducible refine wpAny_loadPart_at hC₁ ?_ | (with_reducible refine wpAny_isSubtype_exc hC₁ ?_; rw [hcB]) | wp_step)
  exact wpAny_raiseNew_none hh hE
end
section
variable {M : Model} {A : Around} {E : Value → Shared → Prop} {s' : Shared} {base g : Heap} {outer : List Env} {L a e C t d : Addr} {m : Str → Option Value} {name : Str} {scope : Scope} {cd : Value} {Q : Unit → Shared → Prop} {news news' : List (Addr × Obj)}
/-- it leaves the frame where it was raised -/
theorem leave_exc (K : Below A base outer g) (F : Fr g L s'.heap m) (N : News g L s'.heap news') (he : (e, excD C t d) ∈ news') (hs : ∀ q ∈ news, q ∈ news') (hne : ∀ q ∈ news, q.1 ≠ e)
    (hQ : ∀ h', RaisedSN base g outer e (.ref C) news h' → g.UpToSlots h' → Q () { s' with heap := h' }) (hk : scope.kind = .function := by rfl) :
    wpAny M (A.deeper (envOf name scope L a cd)) (leaving (envOf name scope L a cd) (.ref e)) Q E s' := by
  have K' := K.push (name := name) (a := a) (cd := cd) F hk
  have hE := N _ he
  have hin : ∀ env ∈ (envOf name scope L a cd :: outer), ∀ b, env.frame = some b → b ∈ e :: (envOf name scope L a cd :: outer).filterMap (·.frame) := fun env he b hb => .tail _ (List.mem_filterMap.mpr ⟨env, he, hb⟩)
  have st : base.StaysIn (hideAll s'.heap (e :: (envOf name scope L a cd :: outer).filterMap (·.frame))) := fun b o q => hideAll_get _ (K'.stays b o q) fun hm => by
    rcases List.mem_cons.mp hm with rfl | hm
    · rw [fresh_of_stays K.stays hE.2.2] at q; cases q
    · rw [(K'.frames.mem hm).1] at q; cases q
  have sg : ∀ b o, g.get? b = some o → b ∉ outer.filterMap (·.frame) → (hideAll s'.heap (e :: (envOf name scope L a cd :: outer).filterMap (·.frame))).get? b = some o := fun b o q nm => hideAll_get _ (F.keep b o q) fun hm => by
    rcases List.mem_cons.mp hm with rfl | hm
    · rw [hE.2.2] at q; cases q
    · rcases kts_mem hm with z | z
      · rw [z, kts_self F] at q
        cases q
      · exact nm z
  have hl : ∀ q ∈ news, (hideAll s'.heap (e :: (envOf name scope L a cd :: outer).filterMap (·.frame))).get? q.1 = some q.2 ∧ g.get? q.1 = none ∧ base.get? q.1 = none := fun q hq => by
    have Nq := N q (hs q hq)
    refine ⟨hideAll_get _ Nq.1 fun hm => ?_, Nq.2.2, fresh_of_stays K.stays Nq.2.2⟩
    rcases List.mem_cons.mp hm with z | hm
    · exact hne q hq z
    obtain ⟨env, he, hf⟩ := List.mem_filterMap.mp hm
    rcases List.mem_cons.mp he with rfl | he
    · exact Nq.2.1 (Option.some.inj hf).symm
    · obtain ⟨o, ho, _⟩ := (K.frames.mem (List.mem_filterMap.mpr ⟨env, he, hf⟩)).2
      rw [Nq.2.2] at ho; cases ho
  have hen : (hideAll s'.heap (e :: (envOf name scope L a cd :: outer).filterMap (·.frame))).get? e = none := hideAll_none _ (.head _)
  refine wpAny_leaving_firstW (a0 := .ref t) K'.stack (funFrames_hide K'.frames hin) rfl hE.1 (fun b o hb => of_hideAll _ hb) hen rfl rfl rfl fun h' hL => ?_
  obtain ⟨k1, ⟨_, _, k2⟩, k3, k4⟩ := hL
  have R : RaisedSN base g outer e (.ref C) news h' := ⟨_, .ref t, st, sg, hl, k1, hen, k2, k3⟩
  exact hQ h' R ((Heap.UpToSlots.of_keeps F.keep).trans k4)
end
section
variable {prog : Program} {w : World} {A₀ : Around} {E : Value → Shared → Prop} {s' : Shared} {base g g₀ G : Heap} {outer : List Env} {L a e C : Addr} {m : Str → Option Value} {name : Str} {scope : Scope} {cd : Value}
  {n : Str} {b₀ : Stmt} {suite : List Stmt} {pos np : Pos} {rest : List ExceptHandler} {Q : Flow → Shared → Prop} {news : List (Addr × Obj)} {KF : Frag}
  {p : Program} {loose : List Str} {mean : ExcName → Option Value} {mg mb : Str → Option Value} {x : Str}
/-- it is caught by its own class -/
theorem caught_exc (R : RaisedSN base G (envOf name scope L a cd :: outer) e (.ref C) news s'.heap) (F : Fr g L G m) (K : Below A₀ base outer g) (hsm : G.UpToSlots s'.heap) (XB : KF.In base) (TB : Top p loose mean mg mb base)
    (T0 : KtsTurn (outer.filterMap (·.frame)) g₀ g)
    (ex : nsIn KF mainGlobals x = some (some (.ref C))) (q : ktsIn KF C "BaseException" = true)
    (k : ∀ h' g', KtsTurn (outer.filterMap (·.frame)) g₀ g' → Fr g' L h' m → News g' L h' news → Below A₀ base outer g' → KF.In g' → Top p loose mean mg mb g' →
      wpAny (model prog w) ((A₀.deeper (envOf name scope L a cd)).mark (some (.ref e))) (execs (b₀ :: suite) (envOf name scope L a cd)) Q E { s' with heap := h' })
    (hk : scope.kind = .function := by rfl) (hx : (envOf name scope L a cd).kindOf x = some .globalImplicit := by rfl) (hd : (x == ("__debug__" : Str)) = false := by decide)
    (hE : PassesOwnAt (model prog w) ((A₀.deeper (envOf name scope L a cd)).mark (some (.ref e))) (A₀.deeper (envOf name scope L a cd)) (envOf name scope L a cd) E := by passes_own) :
    wpAny (model prog w) (A₀.deeper (envOf name scope L a cd)) (noteFrame (.ref e) (envOf name scope L a cd))
      (fun _ s₂ => wpAny (model prog w) (A₀.deeper (envOf name scope L a cd)) (setFlight (.ref e) none) (fun _ s₃ =>
        wpAny (model prog w) (A₀.deeper (envOf name scope L a cd)) (handleBy (.ref e) (envOf name scope L a cd) (.ExceptHandler (some (.Name x np)) none (b₀ :: suite) pos :: rest)) Q E s₃) E s₂) E s' := by
  obtain ⟨B, a0, hB, hBG, hl, hfl⟩ := R
  have hL : B.get? L = none := by
    obtain ⟨_, ⟨L', _, hf, hn', _⟩, _⟩ := hfl.2.2.1
    obtain rfl : L = L' := Option.some.inj hf
    exact hn'
  refine wpAny_looks_onW (Around.frames_deeper K.stack) rfl hfl fun h₄ hheld₄ hsm₄ => ?_
  refine wpAny_landsW hheld₄ fun h₅ hheld hsm₅' => ?_
  have hsm₅ := hsm₄.trans hsm₅'
  obtain ⟨g₅, T₅, F₅, K₅⟩ := kts_ground K F hBG hheld.1 (hsm.trans hsm₅)
  have X₅ : KF.In g₅ := XB.keeps K₅.stays
  have P₅ : TopRead p loose mg mb g₅ := topRead_of (TB.keeps K₅.stays)
  obtain ⟨ob, hob, hobc⟩ := hheld.there
  obtain ⟨nm, q', N, bs, bm, hdct, sn, sub, ab, col, dd, k0, k1, k2, k3, k5, newId, hC, hbase, hbT⟩ := kts_cls X₅ q
  have hC₅ := F₅.keep _ _ hC
  refine wpAny_handleBy_cons (codeAny_handlers_test (name_K F₅ X₅ P₅ ex ?_ hk hx hd)) (by intro q; cases q)
  refine wpAny_excMatches_sub_self hC₅ hob hobc hbase (codeAny_handlers_suite ?_)
  refine lands_againW hheld fun h₆ hfl₆ hsm₆ => ?_
  obtain ⟨g₆, T₆, F₆, K₆⟩ := kts_ground K F hBG hfl₆.1 ((hsm.trans hsm₅).trans hsm₆)
  have Nl : News g₆ L h₆ news := fun q hq => ⟨hfl₆.1 _ _ (hl q hq).1, (fun z => by have := (hl q hq).1; rw [z, hL] at this; cases this), T₆.none_ _ (kts_none F.keep (hl q hq).2.1)⟩
  exact wpAny_passesOwnAt hE (k h₆ g₆ (T0.trans T₆) F₆ Nl K₆ (XB.keeps K₆.stays) (TB.keeps K₆.stays))
end
end Mine
-- part E5
namespace Mine
open PySem.Calls PySem.Builtin PySem.Builtin._codecs
section
variable {M : Model} {A : Around} {E : Value → Shared → Prop} {s : Shared}
theorem utf8_len {y : Nat} (h : y < 256) : (Str.utf8Of y).length ≤ 4 := by
  unfold Str.utf8Of
  repeat (first | split | (simp only [List.length_cons, List.length_nil]; omega))
theorem utf8_fold (l : List Nat) (a : Array UInt8) (h : ∀ y ∈ l, y < 256) : (l.foldl (fun acc y => acc ++ (Str.utf8Of y).toArray) a).size ≤ a.size + 4 * l.length := by
  induction l generalizing a with
  | nil => simp
  | cons y l ih =>
    rw [List.foldl_cons]
    refine Nat.le_trans (ih _ fun z hz => h z (.tail _ hz)) ?_
    have := utf8_len (h y (.head _))
    have e : (a ++ (Str.utf8Of y).toArray).size = a.size + (Str.utf8Of y).length := by simp
    rw [e, List.length_cons]
    omega
theorem not_sur {y : Nat} (h : y < 256) : Str.isSurrogate y = false := by
  unfold Str.isSurrogate
  simp only [Bool.and_eq_false_iff, decide_eq_false_iff_not]
  omega
theorem encode_narrow {x : Str} {self : Value} {Q : Array UInt8 → Shared → Prop} (hx : ∀ y ∈ x.cps.toList, y < 256) (hs : x.cps.size ≤ 1000)
    (h : ∀ b : Array UInt8, b.size ≤ 4000 → Q b s) : wpAny M A (encodeNarrow "str.encode" utf8Codec none self x) Q E s := by
  unfold encodeNarrow
  simp only []
  rw [Std.Legacy.Range.forIn_eq_forIn_range']
  refine wpAny_bind (wpAny_forIn_list _ (fun rest b s' => s' = s ∧ (b.1 = 0 ∧ b.2.1 = #[] ∨ b.1 = x.cps.size ∧ b.2.1.size ≤ 4000)) _ ?_ ?_ _ _ ⟨rfl, .inl ⟨rfl, rfl⟩⟩)
  · rintro i rest ⟨a, b, c⟩ s' ⟨rfl, hb⟩
    have hsz : ¬ b.size > sizeLine := by
      rw [sizeLine_eq]
      rcases hb with ⟨-, hb⟩ | ⟨-, hb⟩
      · simp only at hb; rw [hb]; decide
      · simp only at hb; omega
    simp only [if_neg hsz]
    rcases hb with ⟨ha, hb⟩ | ⟨ha, hb⟩
    · simp only at ha hb
      subst ha hb
      cases hz : x.cps[0]? with
      | none =>
        exact wpAny_pure (a := ForInStep.done (0, #[], c)) (wpAny_pure (h _ (Nat.zero_le _)))
      | some y =>
        have hy : y < 256 := hx y (by
          rw [Array.getElem?_eq_some_iff] at hz
          obtain ⟨hq, rfl⟩ := hz
          simp)
        have hbad : utf8Codec.bad y = false := not_sur hy
        simp only [hbad, Bool.not_false, if_true]
        have hnone : Array.findIdx? utf8Codec.bad (x.cps.extract 0) = none := by
          rw [Array.findIdx?_eq_none_iff]
          intro z hz
          refine not_sur (hx z ?_)
          simpa using hz
        rw [hnone]
        refine wpAny_pure ⟨rfl, .inr ⟨by simp, ?_⟩⟩
        have e : (x.cps.extract 0).extract 0 (none.getD (x.cps.extract 0).size) = x.cps := by simp
        simp only [e]
        rw [← Array.foldl_toList]
        have := utf8_fold x.cps.toList #[] hx
        refine Nat.le_trans this ?_
        simp only [Array.length_toList, List.size_toArray, List.length_nil]
        omega
    · simp only at ha hb
      have : x.cps[a]? = none := by rw [ha]; simp
      rw [this]
      exact wpAny_pure (wpAny_pure (h _ hb))
  · rintro ⟨a, b, c⟩ s' ⟨rfl, hb⟩
    refine wpAny_pure (h _ ?_)
    rcases hb with ⟨-, hb⟩ | ⟨-, hb⟩
    · simp only at hb; subst hb; exact Nat.zero_le _
    · exact hb
theorem encode_call {prog : Program} {w : World} {x : Str} {t u : Tok} {Q : Value → Shared → Prop} (hx : ∀ y ∈ x.cps.toList, y < 256) (hs : x.cps.size ≤ 1000)
    (h : ∀ b tk k, Q (.bytes b tk) { s with toks := k }) : wpAny (model prog w) A (call (.builtin "str.encode") [.str x t, .str (Str.ofString "utf-8") u]) Q E s := by
  have e : «str.encode» ⟨[.str x t, .str (Str.ofString "utf-8") u], []⟩ = (do ret (← encodeRoad "str.encode" (.str x t) x (Str.ofString "utf-8") none)) := by kernel_rfl!
  refine wpAny_call (codeAny_call_builtin PySem.F.slot_str_encode.plain PySem.F.entry_str_encode (PySem.F.slot_str_encode.check _ _ _ _ _ _ _ _ (typeIs_str _ _ _) (PySem.F.args_str_encode_2 _ _) ?_))
  rw [e, encodeRoad_utf8]
  refine wpAny_bind (wpAny_bind (encode_narrow hx hs fun b hb => wpAny_mkBytes ?_ (by rw [sizeLine_eq]; omega)))
  exact wpAny_pure (h _ _ _)
end
end Mine
-- part E6
namespace Mine
open PySem.Calls PySem.Builtin
theorem noBool_match : typeLookup (.type "re.Match") "__bool__" = pure none := by rw [typeLookup_type, builtinLookup_eq_fast]; kernel_rfl!
theorem noLen_match : typeLookup (.type "re.Match") "__len__" = pure none := by rw [typeLookup_type, builtinLookup_eq_fast]; kernel_rfl!
section
variable {M : Model} {A : Around} {E : Value → Shared → Prop} {s : Shared}
theorem truthy_match {a : Addr} {str : Value} {spans : List Int} {Q : Bool → Shared → Prop} (hp : MatchAt s.heap a str spans) (h : Q true s) : wpAny M A (truthy (.ref a)) Q E s := by
  unfold truthy
  first
    | refine wpAny_bind (wpAny_callSpecial?_none (name := Str.ofString "__bool__") hp.typeIs noBool_match ?_)
    | refine wpAny_bind (wpAny_pure (wpAny_bind (wpAny_callSpecial?_none (name := Str.ofString "__bool__") hp.typeIs noBool_match ?_)))
  first
    | refine wpAny_bind (wpAny_specialOf (name := Str.ofString "__len__") hp.typeIs noLen_match ?_)
    | refine wpAny_bind (wpAny_pure (wpAny_bind (wpAny_specialOf (name := Str.ofString "__len__") hp.typeIs noLen_match ?_)))
  exact wpAny_pure h
end
section
variable {prog : Program} {w : World} {A : Around} {E : Value → Shared → Prop} {s : Shared} {h₀ : Heap} {L : Addr} {m : Str → Option Value} {news : List (Addr × Obj)}
theorem search_N {p : Addr} {x : Str} {t u : Tok} {j : Int} {i : Nat} {Q : Value → Shared → Prop} (F : Fr h₀ L s.heap m) (N : News h₀ L s.heap news) (hp : PatAt s.heap p C68 0) (h0 : 0 ≤ j) (h1 : j.toNat ≤ i) (h2 : i < x.cps.size) (h3 : x.cps.size < 2 ^ 20)
    (hn : ∀ k, j.toNat ≤ k → k < i → stop (x.cps.getD k 0) = false) (hi : stop (x.cps.getD i 0) = true)
    (h : ∀ D T h' pos lim, Fr h₀ L h' m → News h₀ L h' ((D, matchObj p (.str x t) pos lim (-1) T) :: (T, spanObj [(i : Int), ((i + 1 : Nat) : Int)]) :: news) → (∀ q ∈ news, q.1 < T) → T < D → Q (.ref D) { s with heap := h' }) :
    wpAny (model prog w) A (call (.builtin "re.Pattern.search") [.ref p, .str x t, .int j u]) Q E s := by
  refine search_call hp h0 h1 h2 (Nat.lt_trans h3 (by decide)) hn hi ?_
  have F1 := F.push (spanObj [(i : Int), ((i + 1 : Nat) : Int)])
  have N1 := News.push F N (spanObj [(i : Int), ((i + 1 : Nat) : Int)])
  have F2 := F1.push (matchObj p (.str x t) j.toNat x.cps.size (-1) s.heap.objs.size)
  have N2 := News.push F1 N1 (matchObj p (.str x t) j.toNat x.cps.size (-1) s.heap.objs.size)
  rw [Heap.size_push] at N2
  exact h _ _ _ _ _ F2 N2 (fun q hq => Heap.lt_size (N q hq).1) (Nat.lt_succ_self _)
theorem start_N {a : Addr} {str : Value} {b : Int} {rest : List Int} {Q : Value → Shared → Prop} (hp : MatchAt s.heap a str (b :: rest)) (h : ∀ u k, Q (.int b u) { s with toks := k }) :
    wpAny (model prog w) A (call (.builtin "re.Match.start") [.ref a]) Q E s := start_call hp (h _ _)
end
section
variable {prog : Program} {w : World} {A : Around} {E : Value → Shared → Prop} {s : Shared} {env : Env} {Q : Flow → Shared → Prop}
/-- a while in one turn, and the same while again -/
def Spin (M : Model) (A : Around) (test : Expr) (body : List Stmt) (env : Env) (Q : Flow → Shared → Prop) (E : Value → Shared → Prop) (s : Shared) : Prop :=
  codeAny M A (.whileLoop test body [] env) (fun r s' => match r with | .ok f => Q f s' | .error e => cameBackBy M A env E e s') s
def SpinPost (M : Model) (A : Around) (test : Expr) (body : List Stmt) (env : Env) (Q : Flow → Shared → Prop) (E : Value → Shared → Prop) (f : Flow) (s : Shared) : Prop :=
  match f with
  | .next | .cont => Spin M A test body env Q E s
  | .brk => Q .next s
  | .ret v => Q (.ret v) s
theorem spin_in {test body pos} (h : Spin (model prog w) A test body env Q E s) : wpAny (model prog w) A (exec (.While test body [] pos) env) Q E s := wpAny_While h
theorem spin_next {test body} (h : Spin (model prog w) A test body env Q E s) : SpinPost (model prog w) A test body env Q E .next s := h
theorem spin_cont {test body} (h : Spin (model prog w) A test body env Q E s) : SpinPost (model prog w) A test body env Q E .cont s := h
theorem spin_brk {test body} (h : Q .next s) : SpinPost (model prog w) A test body env Q E .brk s := h
theorem spin_ret {test body v} (h : Q (.ret v) s) : SpinPost (model prog w) A test body env Q E (.ret v) s := h
theorem spin_turn {test body} (h : wpAny (model prog w) A (isTrue test env (eval test env)) (fun b s₂ => if b = true then wpAny (model prog w) A (execs body env) (SpinPost (model prog w) A test body env Q E) E s₂ else Q .next s₂) E s)
    (hE : PassesOwn (model prog w) A env E := by passes_own) : Spin (model prog w) A test body env Q E s := by
  refine codeAny_of_tree ?_
  show wpAny _ A ((whileTurn test body [] env).onRaise (fun x => do noteFrame x env; theTreesLotGoes x)) _ _ s
  refine wpAny_noted ?_
  simp only [whileTurn]
  refine wpAny_bind (wpAny_mono h (fun b s₂ h₂ => ?_) hE)
  cases b with
  | false =>
    simp only [Bool.false_eq_true, if_false] at h₂ ⊢
    exact wpAny_bind (wpAny_execs_nil (wpAny_pure h₂))
  | true =>
    simp only [if_true] at h₂ ⊢
    refine wpAny_bind (wpAny_mono h₂ (fun f s₃ h₃ => ?_) hE)
    cases f with
    | next => exact wpAny_pure ⟨rfl, h₃⟩
    | cont => exact wpAny_pure ⟨rfl, h₃⟩
    | brk => exact wpAny_pure h₃
    | ret v => exact wpAny_pure h₃
end
end Mine
-- part E7
namespace Mine
open PySem.Calls PySem.Builtin PySem.Builtin.Str
theorem txt_item {x : Str} {i : Int} {c : Nat} (h0 : 0 ≤ i) (hc : x.cps[i.toNat]? = some c) : Txt.item x i = ⟨#[c]⟩ := by
  have hl : i.toNat < x.cps.size := by rw [Array.getElem?_eq_some_iff] at hc; exact hc.1
  have e : seqIndex? i x.length = some i.toNat := by
    unfold seqIndex?
    show (if _ then _ else _) = _
    have : ¬ i < 0 := by omega
    have h2 : i < (x.length : Int) := by show i < (x.cps.size : Int); omega
    simp only [this, if_false]
    simp [h0, h2]
  unfold Txt.item Txt.charAt
  rw [e, Option.bind_some, hc, Option.getD_some]
theorem txt_slice {x : Str} {a b : Nat} (hab : a ≤ b) (hb : b ≤ x.cps.size) : Txt.slice x (some (a : Int)) (some (b : Int)) = ⟨((x.cps.toList.drop a).take (b - a)).toArray⟩ := by
  unfold Txt.slice
  have e2 := StrLaws.sliced_plain x hab hb
  have e3 := StrLaws.strSliceIndices_plain (len := x.length) hab hb
  rw [e3] at e2 ⊢
  split
  · rename_i h
    have h' : b - a = x.cps.size := by simpa [Str.length] using h
    have ha : a = 0 := by omega
    have hb' : b = x.cps.size := by omega
    subst ha hb'
    have e : List.take x.cps.size x.cps.toList = x.cps.toList := List.take_of_length_le (by simp)
    simp [e]
  · rw [e2]
section
variable {prog : Program} {w : World} {A : Around} {E : Value → Shared → Prop} {s : Shared} {value slice : Expr} {x y z : Str} {t u : Tok} {h₀ : Heap} {L : Addr} {m : Str → Option Value} {news : List (Addr × Obj)} {Q : Value → Shared → Prop}
theorem item_is {i : Int} {c : Nat} (h0 : 0 ≤ i) (hz : x.cps.size < 1000) (hc : x.cps[i.toNat]? = some c)
    (h : ∀ t' k, Q (.str ⟨#[c]⟩ t') { s with toks := k })
    (hs : subscripted slice false (.str x t) (.int i u) = operate [.str x t, .int i u] (getItem (.str x t) (.int i u)) := by with_unfolding_all rfl)
    (ht : ∀ r, letTemporaryGo value (.str x t) r = pure () := by intro _; with_unfolding_all rfl) :
    wpAny (model prog w) A (subscriptTail value slice (.str x t) (.int i u)) Q E s := by
  have hl : i.toNat < x.cps.size := by rw [Array.getElem?_eq_some_iff] at hc; exact hc.1
  refine item_str (fitsSsize_of (N := 9223372036854775808) (by omega) (by omega) (Int.le_refl _)) (by show -(x.cps.size : Int) ≤ i; omega) (by show i < (x.cps.size : Int); omega) (fun _ => ?_) hs ht
  rw [txt_item h0 hc]
  exact h _ _
theorem slice_is {i j : Int} {ui uj : Tok} (hF : Fr h₀ L s.heap m) (hN : News h₀ L s.heap news) (hz : x.cps.size < 1000) (e : Txt.slice x (some i) (some j) = y)
    (h : ∀ h' t' k, Fr h₀ L h' m → News h₀ L h' news → Q (.str y t') { s with heap := h', toks := k })
    (hs : subscripted slice false (.str x t) (.ref s.heap.objs.size) = operate [.ref s.heap.objs.size, .str x t] (getItem (.str x t) (.ref s.heap.objs.size)) := by with_unfolding_all rfl)
    (ht : ∀ r, letTemporaryGo value (.str x t) r = pure () := by intro _; with_unfolding_all rfl) :
    wpAny (model prog w) A (subscriptTail value slice (.str x t) (.ref s.heap.objs.size)) Q E { s with heap := s.heap.push { cls := .type "slice", data := .fields #[.int i ui, .int j uj, .none] } } := by
  refine slice_strN_ss hF hN (fun h' t' k F N => ?_) hs ht (by show x.cps.size ≤ _; rw [sizeLine_eq]; omega)
  rw [e]
  exact h _ _ _ F N
theorem eq_is {b : Bool} (e : (x == y) = b) (h : Q (.bool b) s) : wpAny (model prog w) A (compareOp .Eq (.str x t) (.str y u)) Q E s := by
  refine P.eq_str ?_
  have : (x.cps.toList == y.cps.toList) = (x == y) := by
    rcases x with ⟨⟨x⟩⟩; rcases y with ⟨⟨y⟩⟩
    rw [Bool.eq_iff_iff]
    simp
  rw [this, e]
  exact h
theorem ne_is {b : Bool} (e : (x == y) = !b) (h : Q (.bool b) s) : wpAny (model prog w) A (compareOp .NotEq (.str x t) (.str y u)) Q E s := by
  refine P.ne_str ?_
  have : (x.cps.toList != y.cps.toList) = !(x == y) := by
    rcases x with ⟨⟨x⟩⟩; rcases y with ⟨⟨y⟩⟩
    rw [Bool.eq_iff_iff]
    simp
  rw [this, e, Bool.not_not]
  exact h
theorem len_is {n : Nat} (e : x.cps.size = n) (hz : n < 1000) (h : ∀ t' k, Q (.int (n : Int) t') { s with toks := k }) : wpAny (model prog w) A (call (.builtin "len") [.str x t]) Q E s := by
  refine P.len_str (by show ¬ (x.cps.size : Int) ≥ 2 ^ 63; omega) ?_
  have : x.length = n := e
  rw [this]
  exact h _ _
theorem iadd_is (e : x ++ y = z) (hz : z.cps.size < 1000) (h : ∀ t' k, Q (.str z t') { s with toks := k }) : wpAny (model prog w) A (inplaceOp .Add (.str x t) (.str y u)) Q E s := by
  refine SBL.iadd (fun t' k _ => ?_) ?_
  · rw [e]; exact h _ _
  · have := PySem.Str.length_append x y
    rw [e] at this
    rw [← this]
    show z.cps.size ≤ _
    rw [sizeLine_eq]; omega
theorem add_is (e : x ++ y = z) (hz : z.cps.size < 1000) (h : ∀ t' k, Q (.str z t') { s with toks := k }) : wpAny (model prog w) A (binaryOp .Add (.str x t) (.str y u)) Q E s := by
  refine SBL.add (fun t' k _ => ?_) ?_
  · rw [e]; exact h _ _
  · have := PySem.Str.length_append x y
    rw [e] at this
    rw [← this]
    show z.cps.size ≤ _
    rw [sizeLine_eq]; omega
theorem mul_is {n : Int} (h1 : MulOk x n) (e : Txt.mul x n = y) (h : ∀ t' k, Q (.str y t') { s with toks := k }) : wpAny (model prog w) A (binaryOp .Mult (.str x t) (.int n u)) Q E s := by
  refine SB.mul h1 fun t' k => ?_
  rw [e]; exact h _ _
theorem find_is {k : Int} (e : Txt.find x y = k) (h : ∀ t' n, Q (.int k t') { s with toks := n }) : wpAny (model prog w) A (call (.builtin "str.find") [.str x t, .str y u]) Q E s := by
  refine SC.find ?_
  rw [e]
  exact h _ _
theorem truthy_is {c : Nat} {Q : Bool → Shared → Prop} (h : ∀ k, Q true { s with toks := k }) : wpAny (model prog w) A (truthy (.str ⟨#[c]⟩ t)) Q E s := by
  refine SBL.truthy (by show ((1 : Nat) : Int) < _; decide) ?_
  exact h _
end
/-- from j on, the first sign of interest is at i -/
structure Seek (X : Str) (j : Int) (i : Nat) : Prop where
  h0 : 0 ≤ j
  h1 : j.toNat ≤ i
  h2 : i < X.cps.size
  h3 : X.cps.size < 2 ^ 20
  hn : ∀ k, j.toNat ≤ k → k < i → stop (X.cps.getD k 0) = false
  hi : stop (X.cps.getD i 0) = true
theorem search_S {prog : Program} {w : World} {A : Around} {E : Value → Shared → Prop} {s : Shared} {h₀ : Heap} {L : Addr} {m : Str → Option Value} {news : List (Addr × Obj)} {Q : Value → Shared → Prop} {p : Addr} {x : Str} {t u : Tok} {j : Int} {i : Nat} (F : Fr h₀ L s.heap m) (N : News h₀ L s.heap news) (hp : PatAt s.heap p C68 0) (S : Seek x j i)
    (h : ∀ D T h' pos lim, Fr h₀ L h' m → News h₀ L h' ((D, matchObj p (.str x t) pos lim (-1) T) :: (T, spanObj [(i : Int), ((i + 1 : Nat) : Int)]) :: news) → (∀ q ∈ news, q.1 < T) → T < D → Q (.ref D) { s with heap := h' }) :
    wpAny (model prog w) A (call (.builtin "re.Pattern.search") [.ref p, .str x t, .int j u]) Q E s := search_N F N hp S.h0 S.h1 S.h2 S.h3 S.hn S.hi h
theorem mulOk1 (q : Nat) {n : Int} (h0 : 0 ≤ n) (h : n ≤ 5) : MulOk ⟨#[q]⟩ n := mulOk_of 16 1048576 (by show (1 : Nat) ≤ 16; omega) (by omega) (by omega) (by decide) (by decide)
theorem mul2 (q : Nat) : Txt.mul ⟨#[q]⟩ 2 = ⟨#[q, q]⟩ := by rfl
theorem mul3 (q : Nat) : Txt.mul ⟨#[q]⟩ 3 = ⟨#[q, q, q]⟩ := by rfl
theorem mul4 (q : Nat) : Txt.mul ⟨#[q]⟩ 4 = ⟨#[q, q, q, q]⟩ := by rfl
theorem mul5 (q : Nat) : Txt.mul ⟨#[q]⟩ 5 = ⟨#[q, q, q, q, q]⟩ := by rfl
end Mine
-- part E8
namespace Mine
open PySem.Calls
def parserEs (P : Params) (T : Nat → Tok) (v0 v6 v8 v9 v10 v13 : Value) : List DictEntry := [
  ⟨PyData.keyHash P (Str.ofString "_bindings"), .str (Str.ofString "_bindings") (T 0), v0⟩,
  ⟨PyData.keyHash P (Str.ofString "_store"), .str (Str.ofString "_store") (T 1), .none⟩,
  ⟨PyData.keyHash P (Str.ofString "_thisDoc"), .str (Str.ofString "_thisDoc") (T 2), .str (Str.ofString "") 552⟩,
  ⟨PyData.keyHash P (Str.ofString "lines"), .str (Str.ofString "lines") (T 3), .int 0 (T 15)⟩,
  ⟨PyData.keyHash P (Str.ofString "startOfLine"), .str (Str.ofString "startOfLine") (T 4), .int 0 (T 16)⟩,
  ⟨PyData.keyHash P (Str.ofString "_genPrefix"), .str (Str.ofString "_genPrefix") (T 5), .str (Str.ofString "") 553⟩,
  ⟨PyData.keyHash P (Str.ofString "keywords"), .str (Str.ofString "keywords") (T 6), v6⟩,
  ⟨PyData.keyHash P (Str.ofString "keywordsSet"), .str (Str.ofString "keywordsSet") (T 7), .int 0 (T 17)⟩,
  ⟨PyData.keyHash P (Str.ofString "_anonymousNodes"), .str (Str.ofString "_anonymousNodes") (T 8), v8⟩,
  ⟨PyData.keyHash P (Str.ofString "_variables"), .str (Str.ofString "_variables") (T 9), v9⟩,
  ⟨PyData.keyHash P (Str.ofString "_parentVariables"), .str (Str.ofString "_parentVariables") (T 10), v10⟩,
  ⟨PyData.keyHash P (Str.ofString "_reason"), .str (Str.ofString "_reason") (T 11), .none⟩,
  ⟨PyData.keyHash P (Str.ofString "turtle"), .str (Str.ofString "turtle") (T 12), .bool false⟩,
  ⟨PyData.keyHash P (Str.ofString "string_delimiters"), .str (Str.ofString "string_delimiters") (T 13), v13⟩,
  ⟨PyData.keyHash P (Str.ofString "_baseURI"), .str (Str.ofString "_baseURI") (T 14), .none⟩]
local macro_rules | `(tactic| walk_at "exec While Compare cons nil") => `(tactic| (k_here; refine spin_in ?_; refine Hold.out ?_))
local macro_rules | `(tactic| walk_at "subscriptTail Name Name str int") => `(tactic| (k_here; k_extra "item"))
local macro_rules | `(tactic| walk_at "subscriptTail Name BinOp str int") => `(tactic| (k_here; k_extra "item"))
local macro_rules | `(tactic| walk_at "subscriptTail Name Constant str int") => `(tactic| (k_here; k_extra "item"))
local macro_rules | `(tactic| walk_at "subscriptTail Constant Name str int") => `(tactic| (k_here; k_extra "item"))
local macro_rules | `(tactic| walk_at "subscriptTail") => `(tactic| (k_here; (with_reducible show wpAny _ _ (subscriptTail _ _ (Value.str _ _) (Value.int _ _)) _ _ _); k_extra "item"))
local macro_rules | `(tactic| walk_at "subscriptTail Name Slice str ref") => `(tactic| (k_here; k_extra "slice"))
local macro_rules | `(tactic| walk_at "binaryOp Mult str int") => `(tactic| (k_here; (with_reducible show wpAny _ _ (binaryOp Operator.Mult (Value.str ⟨#[_]⟩ _) (Value.int _ _)) _ _ _); refine mul_is (mulOk1 _ (by omega) (by omega)) (by first | exact mul2 _ | exact mul3 _ | exact mul4 _ | exact mul5 _) ?_; intro _ _))
local macro_rules | `(tactic| walk_at "call builtin:len") => `(tactic| (k_here; refine len_is (by assumption) ?el ?_; (case el => omega); intro _ _))
local macro_rules | `(tactic| walk_at "compareOp Eq str str") => `(tactic| (k_here; refine eq_is (by first | assumption | exact (show _ = true by kernel_rfl!) | exact (show _ = false by kernel_rfl!)) ?_))
local macro_rules | `(tactic| walk_at "inplaceOp Add str str") => `(tactic| (k_here; refine iadd_is (by assumption) (by assumption) ?_; intro _ _))
local macro_rules | `(tactic| walk_at "compareOp NotEq str str") => `(tactic| (k_here; refine ne_is (by first | assumption | exact (show _ = !false by kernel_rfl!) | exact (show _ = !true by kernel_rfl!)) ?_))
local macro_rules | `(tactic| walk_at "getMethod ref") => `(tactic| (k_here; (with_reducible show wpAny _ _ (getMethod (Value.ref 68) (Str.ofString "search") _) _ _ _); refine' getMethod_pattern ?k1 slot_search type_search ?_; (case k1 => exact pat68 _ (by k_in))))
local macro_rules | `(tactic| walk_at "getMethod ref") => `(tactic| (k_here; (with_reducible show wpAny _ _ (getMethod (Value.ref _) (Str.ofString "start") _) _ _ _); refine' getMethod_match ?k1 slot_start type_start ?_; (case k1 => exact matchAt_of (by k_asm) (by k_mem) (by k_mem))))
local macro_rules | `(tactic| walk_at "call builtin:re.Match.start") => `(tactic| (k_here; refine' start_N ?k1 ?_; (case k1 => exact matchAt_of (by k_asm) (by k_mem) (by k_mem)); intro _ _))
local macro_rules | `(tactic| walk_at "truthy ref") => `(tactic| (k_here; refine' truthy_match ?k1 ?_; (case k1 => exact matchAt_of (by k_asm) (by k_mem) (by k_mem))))
local macro_rules | `(tactic| walk_at "truthy str") => `(tactic| (k_here; refine truthy_is ?_; intro _))
local macro_rules | `(tactic| walk_at "call builtin:str.find") => `(tactic| (k_here; refine find_is (by assumption) ?_; intro _ _))
theorem ret_tuple {h₀ h : Heap} {L D : Addr} {i : Int} {n : Nat} {u T : Tok} {x : Str} {led rest : List (Addr × Obj)} (N : News h₀ L h ((D, { cls := .type "tuple", data := .seq #[.int i u, .str x T] }) :: rest)) (e : i = n) (hs : ∀ q ∈ led, q ∈ rest) :
    News h₀ L h ((D, { cls := .type "tuple", data := .seq #[.int (n : Nat) u, .str x T] }) :: led) := by
  subst e
  exact cb_drop N fun q hq => by
    rcases List.mem_cons.mp hq with rfl | hq
    · exact .head _
    · exact .tail _ (hs q hq)
theorem strconst_facts (w : World) (px pd : Addr) (T : Nat → Tok) (v0 v6 v8 v9 v10 v13 : Value) (X A A2 A3 B D : Str) (n1 nb n x0 x2 c r q : Nat) (k : Int) (t u v : Tok) (news : List (Addr × Obj)) (hDz : D.cps.size < 1000) (hD0 : D.cps[(0 : Int).toNat]? = some q) (hX : X.cps.size = n) (hn : n < 1000)
    (hXz : X.cps.size < 1000) (hAz : A.cps.size < 1000) (hA2z : A2.cps.size < 1000) (hn1 : n1 + 2 < n) (hx0 : X.cps[(0 : Int).toNat]? = some x0) (hxq : ((⟨#[x0]⟩ : Str) == ⟨#[q]⟩) = false) (hS1 : ∀ j : Int, j = 0 → Seek X j n1)
    (hL1 : ∀ i j : Int, i = 0 → j = n1 → Txt.slice X (some i) (some j) = A) (hA1 : Str.ofString "" ++ A = A) (hI1 : ∀ i : Int, i = n1 → X.cps[i.toNat]? = some 92) (h92q : (Str.ofString "\\" == ⟨#[q]⟩) = false)
    (hI2 : ∀ i : Int, i = n1 + 1 → X.cps[i.toNat]? = some c) (hF : Txt.find (Str.ofString "abfrtvn\\\"'") ⟨#[c]⟩ = k) (hk0 : 0 ≤ k) (hk1 : k < 10)
    (hR : ∀ i : Int, i = k → (Str.ofString "\x07\x08\x0c\r\t\x0b\n\\\"'").cps[i.toNat]? = some r) (hRz : (Str.ofString "\x07\x08\x0c\r\t\x0b\n\\\"'").cps.size < 1000) (hA2 : A ++ ⟨#[r]⟩ = A2)
    (hB : (nb = 0 ∧ A2 = A3) ∨ ((∀ i : Int, i = n1 + 2 → X.cps[i.toNat]? = some x2) ∧ ((⟨#[x2]⟩ : Str) == ⟨#[q]⟩) = false ∧ (∀ j : Int, j = n1 + 2 → Seek X j (n1 + 2 + nb)) ∧ (∀ i j : Int, i = n1 + 2 → j = n1 + 2 + nb → Txt.slice X (some i) (some j) = B) ∧ A2 ++ B = A3 ∧ A3.cps.size < 1000))
    (hC : ∀ i : Int, i = n1 + 2 + nb → X.cps[i.toNat]? = some q) (hqq : ((⟨#[q]⟩ : Str) == ⟨#[q]⟩) = true) (hlt : n1 + 2 + nb < n)
    (hD : (D = ⟨#[q]⟩ ∧ n = n1 + 2 + nb + 1) ∨ (D = ⟨#[q, q, q]⟩ ∧ n = n1 + 2 + nb + 3 ∧ ((⟨#[q, q, q]⟩ : Str) == ⟨#[q]⟩) = false ∧ ((⟨#[q, q, q]⟩ : Str) == ⟨#[q, q, q]⟩) = true ∧ ((⟨#[q, q, q]⟩ : Str) == ⟨#[q, q, q, q]⟩) = false ∧ ((⟨#[q, q, q]⟩ : Str) == ⟨#[q, q, q, q, q]⟩) = false ∧ (∀ i j : Int, i = n1 + 2 + nb → i + 3 ≤ j → Txt.slice X (some i) (some j) = ⟨#[q, q, q]⟩))) :
    Asked w 10 104 [.ref px, .str X t, .int 0 v, .str D u] ((px, instObj 135 pd) :: (pd, dictOf (parserEs w.params T v0 v6 v8 v9 v10 v13) 15) :: news)
      (fun h₀ L m s Q => ∀ D T' h' tk' u, Fr h₀ L h' m → News h₀ L h' ((D, { cls := .type "tuple", data := .seq #[.int (n : Nat) u, .str A3 T'] }) :: (px, instObj 135 pd) :: (pd, dictOf (parserEs w.params T v0 v6 v8 v9 v10 v13) 15) :: news) → Q (.ref D) { s with heap := h', toks := tk' }) := by
  unfold Asked
  k_fill
  w_top off
  k_with_none
  intro dp un gd cn cs a' ccd cl outer A₀ base h₀ L m s Q E p loose mean mg mb hB' hF' hK hN hT hk hdp hun hret
  k_with_none
  k_with "call builtin:re.Pattern.search" => (refine search_S (by k_asm) (by k_asm) (pat68 _ (by k_in)) (by first | exact hS1 _ (by omega)) ?_; intro D' T' h' p' m' F' N' l1 l2; k_lt l1)
  k_with "slice" => (refine slice_is (by k_asm) (by k_asm) (by assumption) (hL1 _ _ (by omega) (by omega)) ?_; intro h' t' k' F' N')
  k_with "item" => (refine item_is (by omega) (by assumption) (by first | assumption | exact hI1 _ (by omega) | exact hI2 _ (by omega) | exact hR _ (by omega)) ?_; intro _ _)
  refine wpAny_call ?_
  k_dflt cell_enter
  k_steps
  all_goals (unfold Hold; refine spin_turn ?_)
  k_steps
  clear hR hF hI1 hI2 hL1 hS1 hA1 hxq hx0
  rcases hB with ⟨hb, rfl⟩ | ⟨b1, b2, b3, b4, b5, b6⟩
  all_goals show Spin _ _ _ _ _ _ _ _
  all_goals refine spin_turn ?_
  case inr =>
    k_with_none
    k_with "call builtin:re.Pattern.search" => (refine search_S (by k_asm) (by k_asm) (pat68 _ (by k_in)) (b3 _ (by omega)) ?_; intro D' T' h' p' m' F' N' l1 l2; k_lt l1)
    k_with "slice" => (refine slice_is (by k_asm) (by k_asm) (by assumption) (b4 _ _ (by omega) (by omega)) ?_; intro h' t' k' F' N')
    k_with "item" => (refine item_is (by omega) (by assumption) (by first | exact b1 _ (by omega) | exact hC _ (by omega)) ?_; intro _ _)
    k_steps
    clear b1 b2 b3 b4 b5
    show Spin _ _ _ _ _ _ _ _
    refine spin_turn ?_
    rcases hD with ⟨rfl, hd1⟩ | ⟨rfl, hd1, d1, d2, d3, d4, d5⟩
    · k_with_none
      k_with "item" => (refine item_is (by omega) (by assumption) (by first | exact hC _ (by omega)) ?_; intro _ _)
      k_steps
      refine spin_ret ?_
      k_steps
      all_goals (refine hret _ _ _ _ _ (by k_asm) (ret_tuple (by assumption) (by omega) ?_); intro q hq; repeat (first | exact hq | refine List.Mem.tail _ ?_))
    · k_with_none
      k_with "slice" => (refine slice_is (by k_asm) (by k_asm) (by assumption) (d5 _ _ (by omega) (by omega)) ?_; intro h' t' k' F' N')
      k_with "item" => (refine item_is (by omega) (by assumption) (by first | exact hC _ (by omega)) ?_; intro _ _)
      k_steps
      refine spin_ret ?_
      k_steps
      all_goals (refine hret _ _ _ _ _ (by k_asm) (ret_tuple (by assumption) (by omega) ?_); intro q hq; repeat (first | exact hq | refine List.Mem.tail _ ?_))
  case inl =>
    rcases hD with ⟨rfl, hd1⟩ | ⟨rfl, hd1, d1, d2, d3, d4, d5⟩
    · k_with_none
      k_with "item" => (refine item_is (by omega) (by assumption) (by first | exact hC _ (by omega)) ?_; intro _ _)
      k_steps
      refine spin_ret ?_
      k_steps
      all_goals (refine hret _ _ _ _ _ (by k_asm) (ret_tuple (by assumption) (by omega) ?_); intro q hq; repeat (first | exact hq | refine List.Mem.tail _ ?_))
    · k_with_none
      k_with "slice" => (refine slice_is (by k_asm) (by k_asm) (by assumption) (d5 _ _ (by omega) (by omega)) ?_; intro h' t' k' F' N')
      k_with "item" => (refine item_is (by omega) (by assumption) (by first | exact hC _ (by omega)) ?_; intro _ _)
      k_steps
      refine spin_ret ?_
      k_steps
      all_goals (refine hret _ _ _ _ _ (by k_asm) (ret_tuple (by assumption) (by omega) ?_); intro q hq; repeat (first | exact hq | refine List.Mem.tail _ ?_))
end Mine
-- part L1
namespace Mine
open PySem.Calls
local macro_rules | `(tactic| walk_at "call ref") => `(tactic| (k_here; (with_reducible show wpAny _ _ (call (Value.ref 104) _) _ _ _); k_extra "call104"))
theorem law_string_good (w : World) (px pd : Addr) (T : Nat → Tok) (v0 v6 v8 v9 v10 v13 : Value) (X D A3 : Str) (n : Nat) (t u : Tok) (news : List (Addr × Obj))
    (hS : ∀ t v u, Asked w 10 104 [.ref px, .str X t, .int 0 v, .str D u] ((px, instObj 135 pd) :: (pd, dictOf (parserEs w.params T v0 v6 v8 v9 v10 v13) 15) :: news)
      (fun h₀ L m s Q => ∀ D T' h' tk' u, Fr h₀ L h' m → News h₀ L h' ((D, { cls := .type "tuple", data := .seq #[.int (n : Nat) u, .str A3 T'] }) :: (px, instObj 135 pd) :: (pd, dictOf (parserEs w.params T v0 v6 v8 v9 v10 v13) 15) :: news) → Q (.ref D) { s with heap := h', toks := tk' })) :
    Asked w 20 228 [.ref px, .str X t, .str D u] ((px, instObj 135 pd) :: (pd, dictOf (parserEs w.params T v0 v6 v8 v9 v10 v13) 15) :: news)
      (fun h₀ L m s Q => ∀ D T' h' tk' u, Fr h₀ L h' m → News h₀ L h' ((D, { cls := .type "tuple", data := .seq #[.int (n : Nat) u, .str A3 T'] }) :: (px, instObj 135 pd) :: (pd, dictOf (parserEs w.params T v0 v6 v8 v9 v10 v13) 15) :: news) → Q (.ref D) { s with heap := h', toks := tk' }) := by
  unfold Asked
  k_fill
  w_top off
  k_with_none
  intro dp un gd cn cs a' ccd cl outer A₀ base h₀ L m s Q E p loose mean mg mb hB hF hK hN hT hk hdp hun hret
  k_with_none
  k_with "call104" => (with_unfolding_all refine' hS _ _ _ _ _ _ _ _ _ _ [] _ _ _ _ _ _ _ _ _ _ _ _ _ _ ?k1 ?k2 ?k3 ?k4 ?k5 ?kK ?kd ?ku ?kR; (case k1 => k_asm); (case k2 => k_asm); (case k3 => k_asm); (case k4 => k_asm); (case k5 => k_asm); (case kK => rfl); (case kd => (show dp + 1 + 10 < recursionLimit); omega); (case ku => (show un + 3 + 10 * 10 < cLine); omega); intro D' T' h' k' u' F' N')
  refine wpAny_call ?_
  k_dflt cell_enter
  k_steps
  all_goals (refine hret _ _ _ _ _ (by k_asm) (by k_asm))
end Mine
-- part E9
namespace Mine
open PySem.Calls
def xIn (K : Frag) (C : Addr) : Bool := match K.lookup C with
  | some ⟨.type "type", _, .cls cd, sl⟩ => (match cd.mro, sl.toList with
    | .ref C' :: bm, [_, _, _, _, some (.builtin n), _] => C' == C && !cd.hasDel && bm.contains (.type "Exception") && !bm.contains (.type "AttributeError") && !bm.contains (.type "NameError") && n == "Exception.__new__"
    | _, _ => false)
  | _ => false
theorem x_cls {K : Frag} {h : Heap} {C : Addr} (X : K.In h) (q : xIn K C = true) : ∃ nm qn N bs bm hdct sn sub ab col dd k0 k1 k2 k3 k5,
    h.get? C = some (excClassObj nm qn C N bs bm hdct sn sub ab col dd k0 k1 k2 k3 k5 "Exception.__new__") ∧ bm.contains (.type "Exception") = true ∧ bm.contains (.type "AttributeError") = false ∧ bm.contains (.type "NameError") = false := by
  unfold xIn at q
  split at q
  · rename_i dd cd sl ho
    split at q
    · rename_i C' bm k0 k1 k2 k3 n k5 hm hs
      simp only [Bool.and_eq_true, beq_iff_eq, Bool.not_eq_true'] at q
      obtain ⟨⟨⟨⟨⟨rfl, hdel⟩, hb⟩, ha⟩, hn⟩, rfl⟩ := q
      obtain ⟨nm, bs, mro, ns, qn, hd, sn, sub, ab, col, del⟩ := cd
      dsimp only at hm hdel
      subst hm hdel
      have hsl : sl = #[k0, k1, k2, k3, some (.builtin "Exception.__new__"), k5] := by
        obtain ⟨l⟩ := sl
        simp only at hs
        rw [hs]
      subst hsl
      exact ⟨nm, qn, ns, bs, bm, hd, sn, sub, ab, col, dd, k0, k1, k2, k3, k5, X _ _ ho, hb, ha, hn⟩
    · cases q
  · cases q
section
variable {prog : Program} {w : World} {A : Around} {K : Frag} {C : Addr} {s : Shared} {h₀ : Heap} {L : Addr} {m : Str → Option Value} {news : List (Addr × Obj)} {R : Result → Shared → Prop}
theorem makeExc_K {rest : List Value} {fI : Addr} (F : Fr h₀ L s.heap m) (X₀ : K.In h₀) (N : News h₀ L s.heap news) (q : xIn K C = true)
    (hi : findIn K (.ref C) "__init__" = some (some (.ref fI))) (hf : typeIn K (.ref fI) = some (.type "function"))
    (h : ∀ x t h', Fr h₀ L h' m → News h₀ L h' ((x, excObj C t) :: (t, argsObj rest) :: news) → (∀ q ∈ ((t, argsObj rest) :: news : List (Addr × Obj)), q.1 < x) →
      codeAny (model prog w) (A.under (.builtin "type.__call__" ⟨.ref C :: rest, []⟩)) (.call (.ref fI) ⟨.ref x :: rest, []⟩) (InitBack x R) { s with heap := h' }) (hrest : rest.length ≤ sizeLine := by size_fits) :
    codeAny (model prog w) A (.call (.ref C) ⟨rest, []⟩) R s := by
  have X := X₀.keeps F.keep
  obtain ⟨nm, qn, Nn, bs, bm, hdct, sn, sub, ab, col, dd, k0, k1, k2, k3, k5, hC, hB, hA, hN⟩ := x_cls X q
  obtain ⟨hh, g, d, t, os⟩ := s
  have N' := (N.push F (argsObj rest)).push (F.push _) (excObj C hh.objs.size)
  rw [Heap.size_push] at N'
  exact make_exc hB hA hN hC (looks_findIn X hi) (fun self => bind_fn X self hf) (h _ hh.objs.size _ ((F.push _).push _) N' (List.forall_mem_cons.mpr ⟨Nat.lt_succ_self _, fun p hp => Nat.lt_succ_of_lt (Heap.lt_size (N p hp).1)⟩)) hrest
theorem getMethod_encode {M : Model} {A : Around} {E : Value → Shared → Prop} {x : Str} {t : Tok} {pl : Sem Bool} {Q : Value × List Value → Shared → Prop} (h : Q (.builtin "str.encode", [.str x t]) s) : wpAny M A (getMethod (.str x t) (Str.ofString "encode") pl) Q E s :=
  getMethod_builtin (typeIs_str _ _ _) F.plainAttrs_str F.slot_str_encode F.type_str_encode (fun _ e => nomatch e) h
theorem raise_end {E : Value → Shared → Prop} {e t d : Addr} {s : Shared} (F : Fr h₀ L s.heap m) (X₀ : K.In h₀) (N : News h₀ L s.heap news) (he : (e, excD C t d) ∈ news) (h : E (.ref e) s) : RaiseEnd K C E (.ref e) s :=
  ⟨e, t, d, rfl, (N _ he).1, X₀.keeps F.keep, h⟩
end
end Mine
-- part E10
namespace Mine
open PySem.Calls
theorem x156 (P : Params) : xIn (hd.heap_39 P) 156 = true := by kernel_rfl!
theorem kts156 (P : Params) : ktsIn (hd.heap_39 P) 156 "BaseException" = true := by kernel_rfl!
theorem init156 (P : Params) : findIn (hd.heap_39 P) (.ref 156) "__init__" = some (some (.ref 153)) := by kernel_rfl!
theorem fn153 (P : Params) : typeIn (hd.heap_39 P) (.ref 153) = some (.type "function") := by kernel_rfl!
theorem set156 (P : Params) : findIn (hd.heap_39 P) (.ref 156) "__setattr__" = some (some (.builtin "object.__setattr__")) := by kernel_rfl!
theorem cls156 (P : Params) : ∃ cd, clsIn (hd.heap_39 P) 156 = some cd ∧ cd.hasDict = true ∧ cd.mro = badMro := by
  have e : (clsIn (hd.heap_39 P) 156).map (fun cd => (cd.hasDict, cd.mro)) = some (true, badMro) := by kernel_rfl!
  cases q : clsIn (hd.heap_39 P) 156 with
  | none => rw [q] at e; cases e
  | some cd =>
    rw [q] at e
    have e' := Option.some.inj e
    exact ⟨cd, rfl, (Prod.mk.inj e').1, (Prod.mk.inj e').2⟩
section
variable {prog : Program} {w : World} {A : Around} {E : Value → Shared → Prop} {s : Shared} {x L : Addr} {h₀ : Heap} {m : Str → Option Value} {news : List (Addr × Obj)}
theorem set1 {t : Addr} {name : Str} {v : Value} {Q : Unit → Shared → Prop} (F : Fr h₀ L s.heap m) (X₀ : (hd.heap_39 w.params).In h₀) (N : News h₀ L s.heap ((x, excObj 156 t) :: news)) (hn : ∀ q ∈ news, q.1 < x)
    (ha : findIn (hd.heap_39 w.params) (.ref 156) name = some none)
    (h : ∀ d h' tk, Fr h₀ L h' m → News h₀ L h' ((d, dictOf [⟨PyData.keyHash w.params name, .str name (s.toks + 1), v⟩] 1) :: (x, excD 156 t d) :: news) → x < d → (∀ q ∈ news, q.1 < d) → Q () { s with heap := h', toks := tk }) :
    wpAny (model prog w) A (setAttr (.ref x) name v) Q E s := by
  obtain ⟨cd, hc, hh, hm⟩ := cls156 w.params
  exact set_exc0 F X₀ N (fun q hq => Nat.ne_of_lt (hn q hq)) (set156 _) hc hh (by rw [hm]; rfl) (by rw [hm]; exact refuse_bad) ha h
theorem setM {t d : Addr} {name : Str} {v : Value} {es es' : List DictEntry} {n n' : Nat} {Q : Unit → Shared → Prop} (F : Fr h₀ L s.heap m) (X₀ : (hd.heap_39 w.params).In h₀) (N : News h₀ L s.heap ((d, dictOf es n) :: (x, excD 156 t d) :: news)) (hxd : x < d) (hn : ∀ q ∈ news, q.1 < d)
    (ha : findIn (hd.heap_39 w.params) (.ref 156) name = some none)
    (hl : (getL name es).isSome = true) (e : (putL name (PyData.keyHash w.params name) (.str name (s.toks + 1)) v es, putN name es n) = (es', n')) (hz : es'.length ≤ 1000)
    (h : ∀ h' tk, Fr h₀ L h' m → News h₀ L h' ((d, dictOf es' n') :: (x, excD 156 t d) :: news) → Q () { s with heap := h', toks := tk }) :
    wpAny (model prog w) A (setAttr (.ref x) name v) Q E s := by
  obtain ⟨cd, hc, hh, hm⟩ := cls156 w.params
  exact set_excN F X₀ N hxd hn (set156 _) hc hh (by rw [hm]; rfl) (by rw [hm]; exact refuse_bad) ha hl e hz h
end
end Mine
-- part B1
namespace Mine
open PySem.Calls
/-- the same, where an exception may be caught inside: the caller is the first frame -/
abbrev Asked0 (w : World) (lv : Nat) (f : Addr) (vs : List Value) (news : List (Addr × Obj)) (Ret : Heap → Addr → (Str → Option Value) → Shared → (Value → Shared → Prop) → Prop) : Prop :=
  ∀ (dp un : Nat) (gd : Option (List Code)) (cn : Str) (cs : Scope) (a : Addr) (ccd : Value) (A₀ : Around) (base h₀ : Heap) (L : Addr) (m : Str → Option Value) (s : Shared) (Q E : Value → Shared → Prop)
    (p : Program) (loose : List Str) (mean : ExcName → Option Value) (mg mb : Str → Option Value),
    Below A₀ base [] h₀ → Fr h₀ L s.heap m → (hd.heap_39 w.params).In h₀ → News h₀ L s.heap news → Top p loose mean mg mb h₀ → cs.kind = .function → dp + lv < recursionLimit → un + 10 * lv < cLine → (hd.heap_39 w.params).In base → Top p loose mean mg mb base →
    Ret h₀ L m s Q → wpAny (model PySem.Challenge.rw_be5035_01.row.prog w) (ktrTop dp un gd cn cs L a ccd [] []) (call (.ref f) vs) Q E s
local macro_rules | `(tactic| walk_at "exec While Compare cons nil") => `(tactic| (k_here; refine spin_in ?_; refine Hold.out ?_))
local macro_rules | `(tactic| walk_at "subscriptTail Name Name str int") => `(tactic| (k_here; k_extra "item"))
local macro_rules | `(tactic| walk_at "subscriptTail Name BinOp str int") => `(tactic| (k_here; k_extra "item"))
local macro_rules | `(tactic| walk_at "subscriptTail Name Constant str int") => `(tactic| (k_here; k_extra "item"))
local macro_rules | `(tactic| walk_at "subscriptTail Constant Name str int") => `(tactic| (k_here; k_extra "item"))
local macro_rules | `(tactic| walk_at "subscriptTail") => `(tactic| (k_here; (with_reducible show wpAny _ _ (subscriptTail _ _ (Value.str _ _) (Value.int _ _)) _ _ _); k_extra "item"))
local macro_rules | `(tactic| walk_at "subscriptTail Name Slice str ref") => `(tactic| (k_here; k_extra "slice"))
local macro_rules | `(tactic| walk_at "binaryOp Mult str int") => `(tactic| (k_here; (with_reducible show wpAny _ _ (binaryOp Operator.Mult (Value.str ⟨#[_]⟩ _) (Value.int _ _)) _ _ _); refine mul_is (mulOk1 _ (by omega) (by omega)) (by first | exact mul2 _ | exact mul3 _ | exact mul4 _ | exact mul5 _) ?_; intro _ _))
local macro_rules | `(tactic| walk_at "call builtin:len") => `(tactic| (k_here; refine len_is (by assumption) ?el ?_; (case el => omega); intro _ _))
local macro_rules | `(tactic| walk_at "compareOp Eq str str") => `(tactic| (k_here; refine eq_is (by first | assumption | exact (show _ = true by kernel_rfl!) | exact (show _ = false by kernel_rfl!)) ?_))
local macro_rules | `(tactic| walk_at "inplaceOp Add str str") => `(tactic| (k_here; refine iadd_is (by assumption) (by assumption) ?_; intro _ _))
local macro_rules | `(tactic| walk_at "compareOp NotEq str str") => `(tactic| (k_here; refine ne_is (by first | assumption | exact (show _ = !false by kernel_rfl!) | exact (show _ = !true by kernel_rfl!)) ?_))
local macro_rules | `(tactic| walk_at "getMethod ref") => `(tactic| (k_here; (with_reducible show wpAny _ _ (getMethod (Value.ref 68) (Str.ofString "search") _) _ _ _); refine' getMethod_pattern ?k1 slot_search type_search ?_; (case k1 => exact pat68 _ (by k_in))))
local macro_rules | `(tactic| walk_at "getMethod ref") => `(tactic| (k_here; (with_reducible show wpAny _ _ (getMethod (Value.ref _) (Str.ofString "start") _) _ _ _); refine' getMethod_match ?k1 slot_start type_start ?_; (case k1 => exact matchAt_of (by k_asm) (by k_mem) (by k_mem))))
local macro_rules | `(tactic| walk_at "call builtin:re.Match.start") => `(tactic| (k_here; refine' start_N ?k1 ?_; (case k1 => exact matchAt_of (by k_asm) (by k_mem) (by k_mem)); intro _ _))
local macro_rules | `(tactic| walk_at "truthy ref") => `(tactic| (k_here; refine' truthy_match ?k1 ?_; (case k1 => exact matchAt_of (by k_asm) (by k_mem) (by k_mem))))
local macro_rules | `(tactic| walk_at "truthy str") => `(tactic| (k_here; refine truthy_is ?_; intro _))
local macro_rules | `(tactic| walk_at "call builtin:str.find") => `(tactic| (k_here; refine find_is (by assumption) ?_; intro _ _))
local macro_rules | `(tactic| walk_at "call ref") => `(tactic| (k_here; (with_reducible show wpAny _ _ (call (Value.ref 104) _) _ _ _); k_dflt (refine wpAny_call ?_; refine' code_def ?k1 ?k2 ?k3 ?k4 ?k5 ?kA ?kF ?kK ?k6 ?k7 ?k8 ?k9 ?kB ?_ ?c2 ?c3 ?c4 ?c5; (case kA => exact rfl); (case kF => exact rfl); (case kK => exact rfl); (case k1 => k_asm); (case k2 => k_asm); (case k3 => k_asm); (case k4 => k_asm); (case k5 => k_asm); (case k6 => k_is); (case k7 => k_is); (case k8 => ktr_room); (case k9 => first | exact BindsTo.of_eq rfl | exact binds_K (by k_in) rfl (by k_is) rfl rfl rfl); (case c5 => decide); (case kB => exact locs rfl); (case c2 => exact rfl); (case c3 => exact rfl); (case c4 => exact rfl); k_whole; intro g' L' h' FG' F' N' B' X' T'; (try dsimp only); (try k_lift B'); (try k_fold))))
local macro_rules | `(tactic| walk_at "call ref") => `(tactic| (k_here; (with_reducible show wpAny _ _ (call (Value.ref 132) _) _ _ _); k_dflt (refine wpAny_call ?_; refine' code_def ?k1 ?k2 ?k3 ?k4 ?k5 ?kA ?kF ?kK ?k6 ?k7 ?k8 ?k9 ?kB ?_ ?c2 ?c3 ?c4 ?c5; (case kA => exact rfl); (case kF => exact rfl); (case kK => exact rfl); (case k1 => k_asm); (case k2 => k_asm); (case k3 => k_asm); (case k4 => k_asm); (case k5 => k_asm); (case k6 => k_is); (case k7 => k_is); (case k8 => ktr_room); (case k9 => first | exact BindsTo.of_eq rfl | exact binds_K (by k_in) rfl (by k_is) rfl rfl rfl); (case c5 => decide); (case kB => exact locs rfl); (case c2 => exact rfl); (case c3 => exact rfl); (case c4 => exact rfl); k_whole; intro g' L' h' FG' F' N' B' X' T'; (try dsimp only); (try k_lift B'); (try k_fold))))
local macro_rules | `(tactic| walk_at "getMethod str") => `(tactic| (k_here; (with_reducible show wpAny _ _ (getMethod (Value.str _ _) (Str.ofString "encode") _) _ _ _); refine getMethod_encode ?_))
local macro_rules | `(tactic| walk_at "exec Raise some none") => `(tactic| (k_here; k_extra "raise"))
local macro_rules | `(tactic| walk_at "call ref") => `(tactic| (k_here; (with_reducible show wpAny _ _ (call (Value.ref 156) _ _) _ _ _); k_extra "new156"; refine' code_def ?k1 ?k2 ?k3 ?k4 ?k5 ?kA ?kF ?kK ?k6 ?k7 ?k8 ?k9 ?kB ?_ ?c2 ?c3 ?c4 ?c5; (case kA => exact rfl); (case kF => exact rfl); (case kK => exact rfl); (case k1 => k_asm); (case k2 => k_asm); (case k3 => k_asm); (case k4 => k_asm); (case k5 => k_asm); (case k6 => k_is); (case k7 => k_is); (case k8 => ktr_room); (case k9 => first | exact BindsTo.of_eq rfl | exact binds_K (by k_in) rfl (by k_is) rfl rfl rfl); (case c5 => decide); (case kB => exact locs rfl); (case c2 => exact rfl); (case c3 => exact rfl); (case c4 => exact rfl); k_whole; intro g' L' h' FG' F' N' B' X' T'; (try dsimp only); (try k_lift B'); (try k_fold)))
local macro_rules | `(tactic| walk_at "call builtin:str.encode") => `(tactic| (k_here; refine encode_call (by assumption) (by omega) ?_; intro b' t' k'))
local macro_rules | `(tactic| walk_at "setAttr ref") => `(tactic| (k_here; k_dflt (refine set1 (by k_asm) (by k_asm) (by k_asm) (by assumption) (by kernel_rfl!) ?_); intro d' h' k' F' N' l1 l2))
local macro_rules | `(tactic| walk_at "setAttr ref") => `(tactic| (k_here; k_dflt (refine' setM ?k1 ?k2 ?k3 ?k4 ?k5 ?k6 ?k7 ?k8 ?k9 ?_; (case k1 => k_asm); (case k2 => k_asm); (case k3 => k_asm); (case k4 => assumption); (case k5 => assumption); (case k6 => kernel_rfl!); (case k7 => k_get); (case k8 => k_put); (case k9 => exact Nat.le_of_ble_eq_true rfl)); intro h' k' F' N'))
local macro_rules | `(tactic| walk_at "leaving ref") => `(tactic| (k_here; k_extra "leave"))
local macro_rules | `(tactic| walk_at "noteFrame ref") => `(tactic| (k_here; (rename RaisedSN _ _ _ _ _ _ _ => rsX); k_extra "caught"))
theorem law_string_bad (w : World) (px pd : Addr) (T : Nat → Tok) (v0 v6 v8 v9 v10 v13 : Value) (X A D : Str) (n1 n x0 c q : Nat) (k : Int) (t u : Tok) (news : List (Addr × Obj)) (hDz : D.cps.size < 1000) (hD0 : D.cps[(0 : Int).toNat]? = some q) (hX : X.cps.size = n) (hn : n < 1000)
    (hXz : X.cps.size < 1000) (hAz : A.cps.size < 1000) (hn1 : n1 + 2 < n) (hx0 : X.cps[(0 : Int).toNat]? = some x0) (hxq : ((⟨#[x0]⟩ : Str) == ⟨#[q]⟩) = false) (hS1 : ∀ j : Int, j = 0 → Seek X j n1)
    (hL1 : ∀ i j : Int, i = 0 → j = n1 → Txt.slice X (some i) (some j) = A) (hA1 : Str.ofString "" ++ A = A) (hI1 : ∀ i : Int, i = n1 → X.cps[i.toNat]? = some 92) (h92q : (Str.ofString "\\" == ⟨#[q]⟩) = false)
    (hI2 : ∀ i : Int, i = n1 + 1 → X.cps[i.toNat]? = some c) (hF : Txt.find (Str.ofString "abfrtvn\\\"'") ⟨#[c]⟩ = k) (hk0 : k < 0) (hcu : ((⟨#[c]⟩ : Str) == Str.ofString "u") = false) (hcU : ((⟨#[c]⟩ : Str) == Str.ofString "U") = false) (hXs : ∀ y ∈ X.cps.toList, y < 256) :
    Asked0 w 20 228 [.ref px, .str X t, .str D u] ((px, instObj 135 pd) :: (pd, dictOf (parserEs w.params T v0 v6 v8 v9 v10 v13) 15) :: news)
      (fun h₀ L m s Q => ∀ h' tk', Fr h₀ L h' m → News h₀ L h' ((px, instObj 135 pd) :: (pd, dictOf (parserEs w.params T v0 v6 v8 v9 v10 v13) 15) :: news) → Q .none { s with heap := h', toks := tk' }) := by
  unfold Asked0
  k_fill
  w_top off
  k_with_none
  intro dp un gd cn cs a' ccd A₀ base h₀ L m s Q E p loose mean mg mb hB hF' hK hN hT hk hdp hun hKB hTB hret
  k_with_none
  k_with "call builtin:re.Pattern.search" => (refine search_S (by k_asm) (by k_asm) (pat68 _ (by k_in)) (by first | exact hS1 _ (by omega)) ?_; intro D' T' h' p' m' F' N' l1 l2; k_lt l1)
  k_with "slice" => (refine slice_is (by k_asm) (by k_asm) (by assumption) (hL1 _ _ (by omega) (by omega)) ?_; intro h' t' k' F' N')
  k_with "item" => (refine item_is (by omega) (by assumption) (by first | assumption | exact hI1 _ (by omega) | exact hI2 _ (by omega)) ?_; intro _ _)
  k_with "raise" => (k_dflt (refine raise_exc (K := hd.heap_39 w.params) (C := 156) (kts156 _) rfl ?_))
  k_with "new156" => (k_dflt (refine wpAny_call (makeExc_K (by k_asm) (by k_asm) (by k_asm) (x156 _) (init156 _) (fn153 _) ?_)); intro x' t' h' F' N' l1)
  k_with "leave" => (refine' leave_onSN ?k1 ?k2 ?k3 ?k4 ?_; (case k3 => assumption); (case k2 => assumption); (case k1 => assumption); (case k4 => assumption); intro h' S' R' U'; (try dsimp only at S' R' U' ⊢))
  k_with "caught" => (k_dflt (refine' caught_exc ?R ?F ?K ?U ?XB ?TB ?T0 ?ex ?q ?_; (case R => assumption); (case F => assumption); (case K => assumption); (case U => assumption); (case XB => assumption); (case TB => assumption); (case T0 => exact KtsTurn.refl); (case q => exact kts156 _); (case ex => kernel_rfl!)); intro h' g' T' F' N' K' X' P')
  refine wpAny_call ?_
  refine' code_defS0 hB hF' hK hN hT rfl ?k6 ?k7 ?k8 ?k9 ?kB ?_ hk ?c2 ?c3 ?c4 ?c5
  case k6 => k_is
  case k7 => k_is
  case k8 => (show dp < recursionLimit); omega
  case k9 => exact BindsTo.of_eq rfl
  case kB => exact locs rfl
  case c2 => exact rfl
  case c3 => exact rfl
  case c4 => exact rfl
  case c5 => decide
  intro g' L' h' FG' F' N' B' X' T' D'
  (try dsimp only); (try k_lift B'); (try k_fold)
  clear hF' hN
  k_steps
  all_goals (unfold Hold; refine spin_turn ?_)
  k_steps
  refine raise_end (by k_asm) (by k_asm) (by k_asm) (by k_mem) ?_
  refine leave_exc (news := (px, instObj 135 pd) :: (pd, dictOf (parserEs w.params T v0 v6 v8 v9 v10 v13) 15) :: news) (by k_asm) (by k_asm) (by k_asm) (by k_mem) ?_ ?_ ?_
  · intro q hq; repeat (first | exact hq | refine List.Mem.tail _ ?_)
  · intro q hq; refine Nat.ne_of_lt (l1 q ?_); repeat (first | exact hq | refine List.Mem.tail _ ?_)
  intro h' R' U'
  all_goals (try k_steps)
  all_goals exact hret _ _ (by k_asm) (by k_asm)
end Mine
-- part N3
namespace Mine
open PySem.Calls
def BoolIs (b : Bool) (s : Shared) (b' : Bool) (s' : Shared) : Prop := b' = b ∧ ∃ k, s' = { s with toks := k }
theorem bool_cut {M : Model} {A : Around} {E : Value → Shared → Prop} {s : Shared} {t : Sem Bool} {Q : Bool → Shared → Prop} (b : Bool) (h : wpAny M A t (BoolIs b s) E s) (k : ∀ tk, Q b { s with toks := tk }) : wpAny M A t Q E s :=
  wpAny_mono h (fun v s' hv => by obtain ⟨rfl, n, rfl⟩ := hv; exact k n) fun _ _ x => x
def midNames : List Str := [Str.ofString "i", Str.ofString "ln", Str.ofString "lastslash", Str.ofString "start", Str.ofString "c"]
theorem mid_ne {y : Str} (hy : midNames.contains y = false) : ¬ y = Str.ofString "i" ∧ ¬ y = Str.ofString "ln" ∧ ¬ y = Str.ofString "lastslash" ∧ ¬ y = Str.ofString "start" ∧ ¬ y = Str.ofString "c" := by
  simpa only [midNames, List.contains_cons, List.contains_nil, Bool.or_false, Bool.or_eq_false_iff, beq_eq_false_iff_ne] using hy
/-- the reader of names behind the backslash: what its frame holds -/
def Mid (k : Nat) (B : Str) (m m' : Str → Option Value) : Prop :=
  (∃ i t, m' (Str.ofString "i") = some (.int i t) ∧ i = 3 + (k : Int)) ∧ (∃ t, m' (Str.ofString "ln") = some (.str B t)) ∧ m' (Str.ofString "lastslash") = some (.bool true) ∧
  (∃ i t, m' (Str.ofString "start") = some (.int i t) ∧ i = 3 + (k : Int)) ∧ (∃ v, m' (Str.ofString "c") = some v) ∧ (∀ y, midNames.contains y = false → m' y = m y)
abbrev midMap (i1 i2 : Int) (B : Str) (t1 t2 t3 : Tok) (v : Value) (m : Str → Option Value) : Str → Option Value := fun y =>
  if y = Str.ofString "c" then some v
  else if y = Str.ofString "lastslash" then some (Value.bool true)
  else if y = Str.ofString "start" then some (Value.int i2 t3)
  else if y = Str.ofString "ln" then some (Value.str B t2)
  else if y = Str.ofString "i" then some (Value.int i1 t1)
  else m y
theorem mid_map {k : Nat} {B : Str} {m m' : Str → Option Value} (H : Mid k B m m') : ∃ i1 i2 t1 t2 t3 v, i1 = 3 + (k : Int) ∧ i2 = 3 + (k : Int) ∧ m' = midMap i1 i2 B t1 t2 t3 v m := by
  obtain ⟨⟨i1, t1, e1, r1⟩, ⟨t2, e2⟩, e3, ⟨i2, t3, e4, r2⟩, ⟨v, e5⟩, e6⟩ := H
  refine ⟨i1, i2, t1, t2, t3, v, r1, r2, ?_⟩
  funext y
  unfold midMap
  by_cases q1 : y = Str.ofString "c"
  · rw [if_pos q1, q1, e5]
  by_cases q2 : y = Str.ofString "lastslash"
  · rw [if_neg q1, if_pos q2, q2, e3]
  by_cases q3 : y = Str.ofString "start"
  · rw [if_neg q1, if_neg q2, if_pos q3, q3, e4]
  by_cases q4 : y = Str.ofString "ln"
  · rw [if_neg q1, if_neg q2, if_neg q3, if_pos q4, q4, e2]
  by_cases q5 : y = Str.ofString "i"
  · rw [if_neg q1, if_neg q2, if_neg q3, if_neg q4, if_pos q5, q5, e1]
  rw [if_neg q1, if_neg q2, if_neg q3, if_neg q4, if_neg q5]
  refine e6 y ?_
  simp only [midNames, List.contains_cons, List.contains_nil, Bool.or_false, Bool.or_eq_false_iff, beq_eq_false_iff_ne]
  exact ⟨q5, q4, q2, q3, q1⟩
theorem spin_mid {prog : Program} {w : World} {A : Around} {E : Value → Shared → Prop} {s : Shared} {env : Env} {Q : Flow → Shared → Prop} {test : Expr} {body : List Stmt} {hh : Heap} {LL : Addr} {m : Str → Option Value} {news : List (Addr × Obj)} (k : Nat) (B : Str)
    (_F : Fr hh LL s.heap m) (_N : News hh LL s.heap news)
    (h1 : (∀ h' tk' m', Fr hh LL h' m' → Mid k B m m' → News hh LL h' news → Spin (model prog w) A test body env Q E { s with heap := h', toks := tk' }) → Spin (model prog w) A test body env Q E s)
    (h2 : ∀ h' tk' i1 i2 t1 t2 t3 v, i1 = 3 + (k : Int) → i2 = 3 + (k : Int) → Fr hh LL h' (midMap i1 i2 B t1 t2 t3 v m) → News hh LL h' news → Spin (model prog w) A test body env Q E { s with heap := h', toks := tk' }) : Spin (model prog w) A test body env Q E s := by
  refine h1 fun h' tk' m' F' H N' => ?_
  obtain ⟨i1, i2, t1, t2, t3, v, r1, r2, rfl⟩ := mid_map H
  exact h2 _ _ _ _ _ _ _ _ r1 r2 F' N'
local macro_rules | `(tactic| walk_at "exec While Compare cons nil") => `(tactic| (k_here; refine spin_in ?_))
local macro_rules | `(tactic| walk_at "exec While Compare cons nil") => `(tactic| (k_here; (with_reducible show wpAny _ _ (exec (Stmt.While (Expr.Compare _ [CmpOp.Lt] _ _) _ _ _) _) _ _ _); refine spin_in ?_; refine Hold.out ?_))
local macro_rules | `(tactic| walk_at "exec While Constant cons nil") => `(tactic| (k_here; refine spin_in ?_))
local macro_rules | `(tactic| walk_at "Spin") => `(tactic| k_extra "spin")
local macro_rules | `(tactic| walk_at "SpinPost") => `(tactic| first | refine spin_next ?_ | refine spin_cont ?_ | refine spin_brk ?_ | refine spin_ret ?_)
local macro_rules | `(tactic| walk_at "subscriptTail Name Name str int") => `(tactic| (k_here; k_extra "item"))
local macro_rules | `(tactic| walk_at "subscriptTail Name BinOp str int") => `(tactic| (k_here; k_extra "item"))
local macro_rules | `(tactic| walk_at "subscriptTail Name Constant str int") => `(tactic| (k_here; k_extra "item"))
local macro_rules | `(tactic| walk_at "subscriptTail Constant Name str int") => `(tactic| (k_here; k_extra "item"))
local macro_rules | `(tactic| walk_at "subscriptTail Name Slice str ref") => `(tactic| (k_here; k_extra "slice"))
local macro_rules | `(tactic| walk_at "call builtin:len") => `(tactic| (k_here; refine len_is (by assumption) ?el ?_; (case el => omega); intro _ _))
local macro_rules | `(tactic| walk_at "compareOp Eq str str") => `(tactic| (k_here; refine eq_is (by first | assumption | exact (show _ = true by kernel_rfl!) | exact (show _ = false by kernel_rfl!)) ?_))
local macro_rules | `(tactic| walk_at "compareOp In str str") => `(tactic| (k_here; refine in_is (by first | assumption | exact (show InIs _ _ true by unfold InIs; kernel_rfl!) | exact (show InIs _ _ false by unfold InIs; kernel_rfl!)) ?_))
local macro_rules | `(tactic| walk_at "compareOp NotIn str str") => `(tactic| (k_here; refine notIn_is (by first | assumption | exact (show InIs _ _ true by unfold InIs; kernel_rfl!) | exact (show InIs _ _ false by unfold InIs; kernel_rfl!)) ?_))
local macro_rules | `(tactic| walk_at "inplaceOp Add str str") => `(tactic| (k_here; k_extra "iadd"))
local macro_rules | `(tactic| walk_at "call ref") => `(tactic| (k_here; (with_reducible show wpAny _ _ (call (Value.ref 97) _) _ _ _); k_dflt (refine wpAny_call ?_; refine' code_def ?k1 ?k2 ?k3 ?k4 ?k5 ?kA ?kF ?kK ?k6 ?k7 ?k8 ?k9 ?kB ?_ ?c2 ?c3 ?c4 ?c5; (case kA => exact rfl); (case kF => exact rfl); (case kK => exact rfl); (case k1 => k_asm); (case k2 => k_asm); (case k3 => k_asm); (case k4 => k_asm); (case k5 => k_asm); (case k6 => k_is); (case k7 => k_is); (case k8 => ktr_room); (case k9 => first | exact BindsTo.of_eq rfl | exact binds_K (by k_in) rfl (by k_is) rfl rfl rfl); (case c5 => decide); (case kB => exact locs rfl); (case c2 => exact rfl); (case c3 => exact rfl); (case c4 => exact rfl); k_whole; intro g' L' h' FG' F' N' B' X' T'; (try dsimp only); (try k_lift B'); (try k_fold))))
local macro_rules | `(tactic| walk_at "call ref") => `(tactic| (k_here; (with_reducible show wpAny _ _ (call (Value.ref 90) _) _ _ _); k_dflt (refine wpAny_call ?_; refine' code_def ?k1 ?k2 ?k3 ?k4 ?k5 ?kA ?kF ?kK ?k6 ?k7 ?k8 ?k9 ?kB ?_ ?c2 ?c3 ?c4 ?c5; (case kA => exact rfl); (case kF => exact rfl); (case kK => exact rfl); (case k1 => k_asm); (case k2 => k_asm); (case k3 => k_asm); (case k4 => k_asm); (case k5 => k_asm); (case k6 => k_is); (case k7 => k_is); (case k8 => ktr_room); (case k9 => first | exact BindsTo.of_eq rfl | exact binds_K (by k_in) rfl (by k_is) rfl rfl rfl); (case c5 => decide); (case kB => exact locs rfl); (case c2 => exact rfl); (case c3 => exact rfl); (case c4 => exact rfl); k_whole; intro g' L' h' FG' F' N' B' X' T'; (try dsimp only); (try k_lift B'); (try k_fold))))
local macro_rules | `(tactic| walk_at "getMethod str") => `(tactic| (k_here; (with_reducible show wpAny _ _ (getMethod (Value.str _ _) (Str.ofString "encode") _) _ _ _); refine getMethod_encode ?_))
local macro_rules | `(tactic| walk_at "exec Raise some none") => `(tactic| (k_here; k_extra "raise"))
local macro_rules | `(tactic| walk_at "call ref") => `(tactic| (k_here; (with_reducible show wpAny _ _ (call (Value.ref 156) _ _) _ _ _); k_extra "new156"; refine' code_def ?k1 ?k2 ?k3 ?k4 ?k5 ?kA ?kF ?kK ?k6 ?k7 ?k8 ?k9 ?kB ?_ ?c2 ?c3 ?c4 ?c5; (case kA => exact rfl); (case kF => exact rfl); (case kK => exact rfl); (case k1 => k_asm); (case k2 => k_asm); (case k3 => k_asm); (case k4 => k_asm); (case k5 => k_asm); (case k6 => k_is); (case k7 => k_is); (case k8 => ktr_room); (case k9 => first | exact BindsTo.of_eq rfl | exact binds_K (by k_in) rfl (by k_is) rfl rfl rfl); (case c5 => decide); (case kB => exact locs rfl); (case c2 => exact rfl); (case c3 => exact rfl); (case c4 => exact rfl); k_whole; intro g' L' h' FG' F' N' B' X' T'; (try dsimp only); (try k_lift B'); (try k_fold)))
local macro_rules | `(tactic| walk_at "call builtin:str.encode") => `(tactic| (k_here; refine encode_call (by assumption) (by omega) ?_; intro b' t' k'))
local macro_rules | `(tactic| walk_at "setAttr ref") => `(tactic| (k_here; k_dflt (refine set1 (by k_asm) (by k_asm) (by k_asm) (by assumption) (by kernel_rfl!) ?_); intro d' h' k' F' N' l1 l2))
local macro_rules | `(tactic| walk_at "setAttr ref") => `(tactic| (k_here; k_dflt (refine' setM ?k1 ?k2 ?k3 ?k4 ?k5 ?k6 ?k7 ?k8 ?k9 ?_; (case k1 => k_asm); (case k2 => k_asm); (case k3 => k_asm); (case k4 => assumption); (case k5 => assumption); (case k6 => kernel_rfl!); (case k7 => k_get); (case k8 => k_put); (case k9 => exact Nat.le_of_ble_eq_true rfl)); intro h' k' F' N'))
local macro_rules | `(tactic| walk_at "leaving ref") => `(tactic| (k_here; k_extra "leave"))
local macro_rules | `(tactic| walk_at "noteFrame ref") => `(tactic| (k_here; (rename RaisedSN _ _ _ _ _ _ _ => rsX); k_extra "caught"))
local macro_rules | `(tactic| walk_at "binaryOp Add str str") => `(tactic| (k_here; k_extra "add"))
local macro_rules | `(tactic| walk_at "RaiseEnd") => `(tactic| (k_extra "raised"))
theorem leave_all {M : Model} {A : Around} {E : Value → Shared → Prop} {s' : Shared} {base g : Heap} {outer : List Env} {L a e C t d : Addr} {m : Str → Option Value} {name : Str} {scope : Scope} {cd : Value} {Q : Unit → Shared → Prop} {news : List (Addr × Obj)} {p0 : Addr × Obj} (K : Below A base outer g) (F : Fr g L s'.heap m) (N : News g L s'.heap (p0 :: (e, excD C t d) :: news)) (hne : ∀ q ∈ news, q.1 < e)
    (hQ : ∀ h', RaisedSN base g outer e (.ref C) news h' → g.UpToSlots h' → Q () { s' with heap := h' }) (hk : scope.kind = .function := by rfl) :
    wpAny M (A.deeper (envOf name scope L a cd)) (leaving (envOf name scope L a cd) (.ref e)) Q E s' :=
  leave_exc K F N (.tail _ (.head _)) (fun q hq => .tail _ (.tail _ hq)) (fun q hq => Nat.ne_of_lt (hne q hq)) hQ hk
local macro_rules | `(tactic| walk_at "isTrue BoolOp") => `(tactic| (k_here; (with_reducible show wpAny _ _ (isTrue (Expr.BoolOp BoolOp.And _ _) _ _) _ _ _); (fail_if_success (with_reducible show wpAny _ _ _ (BoolIs _ _) _ _)); k_extra "and"))
local macro_rules | `(tactic| walk_at "isTrue BoolOp") => `(tactic| (k_here; (with_reducible show wpAny _ _ (isTrue (Expr.BoolOp BoolOp.Or _ _) _ _) _ _ _); (fail_if_success (with_reducible show wpAny _ _ _ (BoolIs _ _) _ _)); k_extra "or"))
local macro_rules | `(tactic| walk_at "BoolIs") => `(tactic| exact ⟨rfl, _, rfl⟩)
theorem name_tuple {h₀ h : Heap} {L D fl tp : Addr} {i n : Int} {nl : Nat} {u T' T'' : Tok} {x R : Str} {led rest : List (Addr × Obj)} (N : News h₀ L h ((D, { cls := .type "tuple", data := .seq #[.int i u, .ref fl] }) :: (tp, { cls := .type "tuple", data := .seq #[.str x T', .str R T''] }) :: rest)) (e : i = n)
    (hl : (fl, ({ cls := .type "list", data := .seq #[.ref tp] nl } : Obj)) ∈ rest) (hs : ∀ q ∈ led, q ∈ rest) :
    News h₀ L h ((D, { cls := .type "tuple", data := .seq #[.int n u, .ref fl] }) :: (tp, { cls := .type "tuple", data := .seq #[.str x T', .str R T''] }) :: (fl, { cls := .type "list", data := .seq #[.ref tp] nl }) :: led) := by
  subst e
  exact cb_drop N fun q hq => by
    rcases List.mem_cons.mp hq with rfl | hq
    · exact .head _
    rcases List.mem_cons.mp hq with rfl | hq
    · exact .tail _ (.head _)
    rcases List.mem_cons.mp hq with rfl | hq
    · exact .tail _ (.tail _ hl)
    · exact .tail _ (.tail _ (hs q hq))
theorem law_name_any (w : World) (px pd : Addr) (T : Nat → Tok) (v0 v6 v8 v9 v10 v13 : Value) (X B CB R MM : Str) (k n y1 y2 c : Nat) (bq bs cf : Bool) (t : Tok) (news : List (Addr × Obj)) (hk : k = 0 ∨ k = 1 ∨ k = 2) (hX : X.cps.size = n) (hn : n = k + 6) (hXz : X.cps.size < 1000)
    (hI0 : ∀ i : Int, i = 0 → X.cps[i.toNat]? = some 120) (hI1 : ∀ i : Int, i = 1 → X.cps[i.toNat]? = some 58) (hI2 : ∀ i : Int, i = 2 + k → X.cps[i.toNat]? = some 92) (hI3 : ∀ i : Int, i = 3 + k → X.cps[i.toNat]? = some c) (hI4 : ∀ i : Int, i = 4 + k → X.cps[i.toNat]? = some 98) (hI5 : ∀ i : Int, i = 5 + k → X.cps[i.toNat]? = some 32)
    (hY1 : 1 ≤ k → ∀ i : Int, i = 2 → X.cps[i.toNat]? = some y1) (hY2 : 2 ≤ k → ∀ i : Int, i = 3 → X.cps[i.toNat]? = some y2) (hL0 : ∀ i j : Int, i = 0 → j = 1 → Txt.slice X (some i) (some j) = Str.ofString "x") (hLB : 1 ≤ k → ∀ i j : Int, i = 2 → j = 2 + k → Txt.slice X (some i) (some j) = B) (hLC : ∀ i j : Int, i = 3 + k → j = 5 + k → Txt.slice X (some i) (some j) = CB)
    (y1a : InIs ⟨#[y1]⟩ (Str.ofString "\t\r\n !\"#$&'()*+,/;<=>?\x40[\\]^`{|}~") false) (y1b : ((⟨#[y1]⟩ : Str) == Str.ofString "\\") = false) (y1c : ((⟨#[y1]⟩ : Str) == Str.ofString "%") = false) (y2a : InIs ⟨#[y2]⟩ (Str.ofString "\t\r\n !\"#$&'()*+,/;<=>?\x40[\\]^`{|}~") false) (y2b : ((⟨#[y2]⟩ : Str) == Str.ofString "\\") = false) (y2c : ((⟨#[y2]⟩ : Str) == Str.ofString "%") = false)
    (c1 : ((⟨#[c]⟩ : Str) == Str.ofString "\\") = bs) (c2 : InIs ⟨#[c]⟩ (Str.ofString "\t\r\n !\"#$&'()*+,/;<=>?\x40[\\]^`{|}~") bq) (c3 : InIs ⟨#[c]⟩ (Str.ofString "(_~.-!$&'()*+,;=/?#@%)") cf) (hB : Str.ofString "" ++ B = B) (hBz : B.cps.size < 1000) (hB0 : k = 0 → B = Str.ofString "") (hR : B ++ CB = R) (hRz : R.cps.size < 1000) (hM : Str.ofString "illegal escape " ++ ⟨#[c]⟩ = MM) (hMz : MM.cps.size < 1000) (hXs : ∀ y ∈ X.cps.toList, y < 256) :
    Asked0 w 20 235 [.ref px, .str X t] ((px, instObj 135 pd) :: (pd, dictOf (parserEs w.params T v0 v6 v8 v9 v10 v13) 15) :: news)
      (fun h₀ L m s Q => (cf = true → ∀ D fl tp T' T'' h' tk' u nl, Fr h₀ L h' m → News h₀ L h' ((D, { cls := .type "tuple", data := .seq #[.int ((n - 1 : Nat) : Int) u, .ref fl] }) :: (tp, { cls := .type "tuple", data := .seq #[.str (Str.ofString "x") T', .str R T''] }) :: (fl, { cls := .type "list", data := .seq #[.ref tp] nl }) :: (px, instObj 135 pd) :: (pd, dictOf (parserEs w.params T v0 v6 v8 v9 v10 v13) 15) :: news) → Q (.ref D) { s with heap := h', toks := tk' }) ∧
        (cf = false → ∀ h' tk', Fr h₀ L h' m → News h₀ L h' ((px, instObj 135 pd) :: (pd, dictOf (parserEs w.params T v0 v6 v8 v9 v10 v13) 15) :: news) → Q .none { s with heap := h', toks := tk' })) := by
  unfold Asked0
  k_fill
  w_top off
  k_with_none
  intro dp un gd cn cs a' ccd A₀ base h₀ L m s Q E p loose mean mg mb hB' hF' hK hN hT hk' hdp hun hKB hTB hret
  k_with_none
  k_with "spin" => (refine spin_turn ?_)
  k_with "slice" => (refine slice_is (by k_asm) (by k_asm) (by assumption) (by first | exact hL0 _ _ (by omega) (by omega) | exact hLB (by omega) _ _ (by omega) (by omega)) ?_; intro h' t' k' F' N')
  k_with "item" => (refine item_is (by omega) (by assumption) (by first | exact hI0 _ (by omega) | exact hI1 _ (by omega) | exact hI2 _ (by omega) | exact hI3 _ (by omega) | exact hY1 (by omega) _ (by omega) | exact hY2 (by omega) _ (by omega)) ?_; intro _ _)
  k_with "iadd" => (refine iadd_is (by assumption) (by assumption) ?_; intro _ _)
  k_with "add" => (refine add_is (by assumption) (by assumption) ?_; intro _ _)
  k_with "raise" => (k_dflt (refine raise_exc (K := hd.heap_39 w.params) (C := 156) (kts156 _) rfl ?_))
  k_with "new156" => (k_dflt (refine wpAny_call (makeExc_K (by k_asm) (by k_asm) (by k_asm) (x156 _) (init156 _) (fn153 _) ?_)); intro x' t' h' F' N' l1)
  k_with "raised" => (refine raise_end (by k_asm) (by k_asm) (by k_asm) (by k_mem) ?_; refine leave_all (by k_asm) (by k_asm) (by k_asm) (by assumption) ?_; intro h' R' U')
  k_with "leave" => (refine' leave_onSN ?k1 ?k2 ?k3 ?k4 ?_; (case k3 => assumption); (case k2 => assumption); (case k1 => assumption); (case k4 => assumption); intro h' S' R' U'; (try dsimp only at S' R' U' ⊢))
  k_with "caught" => (k_dflt (refine' caught_exc ?R ?F ?K ?U ?XB ?TB ?T0 ?ex ?q ?_; (case R => assumption); (case F => assumption); (case K => assumption); (case U => assumption); (case XB => assumption); (case TB => assumption); (case T0 => exact KtsTurn.refl); (case q => exact kts156 _); (case ex => kernel_rfl!)); intro h' g' T' F' N' K' X' P')
  refine wpAny_call ?_
  refine' code_defS0 hB' hF' hK hN hT rfl ?k6 ?k7 ?k8 ?k9 ?kB ?_ hk' ?c2 ?c3 ?c4 ?c5
  case k6 => k_is
  case k7 => k_is
  case k8 => (show dp < recursionLimit); omega
  case k9 => exact BindsTo.of_eq rfl
  case kB => exact locs rfl
  case c2 => exact rfl
  case c3 => exact rfl
  case c4 => exact rfl
  case c5 => decide
  intro g' L' h' FG' F' N' B' X' T' D'
  (try dsimp only); (try k_lift B'); (try k_fold)
  clear hF' hN
  k_steps
  unfold Hold
  refine spin_mid k B (by k_asm) (by k_asm) ?_ ?_
  · intro Ht
    k_with "spin" => (refine Hold.out ?_)
    rcases hk with rfl | rfl | rfl
    case' inr.inr => (refine spin_turn ?_; k_steps; unfold Hold)
    case' inr.inl => (refine spin_turn ?_; k_steps; unfold Hold)
    case' inr.inr => (refine spin_turn ?_; k_steps; unfold Hold)
    all_goals (refine spin_turn ?_; k_steps; unfold Hold; rename Fr _ _ _ _ => fX; rename News _ _ _ _ => nX; refine Ht _ _ _ fX ⟨⟨_, _, rfl, by omega⟩, ⟨_, by first | rfl | (rw [hB0 rfl]; rfl)⟩, rfl, ⟨_, _, rfl, by omega⟩, ⟨_, rfl⟩, ?_⟩ nX)
    all_goals (intro y hy; obtain ⟨z1, z2, z3, z4, z5⟩ := mid_ne hy; repeat (first | with_reducible rfl | with_reducible refine (if_neg z1).trans ?_ | with_reducible refine (if_neg z2).trans ?_ | with_reducible refine (if_neg z3).trans ?_ | with_reducible refine (if_neg z4).trans ?_ | with_reducible refine (if_neg z5).trans ?_))
  · intro hx tx i1 i2 t1 t2 t3 v r1 r2 Fx Nx
    unfold midMap at Fx
    k_with_none
    k_with "slice" => (refine slice_is (by k_asm) (by k_asm) (by assumption) (hLC _ _ (by omega) (by omega)) ?_; intro h' t' k' F' N')
    k_with "item" => (refine item_is (by omega) (by assumption) (by first | exact hI3 _ (by omega) | exact hI4 _ (by omega) | exact hI5 _ (by omega)) ?_; intro _ _)
    k_with "iadd" => (refine iadd_is (by assumption) (by assumption) ?_; intro _ _)
    k_with "add" => (refine add_is (by assumption) (by assumption) ?_; intro _ _)
    k_with "raise" => (k_dflt (refine raise_exc (K := hd.heap_39 w.params) (C := 156) (kts156 _) rfl ?_))
    k_with "new156" => (k_dflt (refine wpAny_call (makeExc_K (by k_asm) (by k_asm) (by k_asm) (x156 _) (init156 _) (fn153 _) ?_)); intro x' t' h' F' N' l1)
    k_with "raised" => (refine raise_end (by k_asm) (by k_asm) (by k_asm) (by k_mem) ?_; refine leave_all (by k_asm) (by k_asm) (by k_asm) (by assumption) ?_; intro h' R' U')
    k_with "leave" => (refine' leave_onSN ?k1 ?k2 ?k3 ?k4 ?_; (case k3 => assumption); (case k2 => assumption); (case k1 => assumption); (case k4 => assumption); intro h' S' R' U'; (try dsimp only at S' R' U' ⊢))
    k_with "caught" => (k_dflt (refine' caught_exc ?R ?F ?K ?U ?XB ?TB ?T0 ?ex ?q ?_; (case R => assumption); (case F => assumption); (case K => assumption); (case U => assumption); (case XB => assumption); (case TB => assumption); (case T0 => exact KtsTurn.refl); (case q => exact kts156 _); (case ex => kernel_rfl!)); intro h' g' T' F' N' K' X' P')
    k_with "and" => (refine bool_cut false ?_ ?_; rotate_left; intro tkb; rotate_left)
    k_with "or" => (refine bool_cut true ?_ ?_; rotate_left; intro tkb; rotate_left)
    k_with "spin" => (refine Hold.out ?_)
    refine spin_turn ?_
    k_steps
    rotate_left
    · exact hret.2 (by first | assumption | exact Bool.eq_false_iff.mpr (by assumption)) _ _ (by k_asm) (cb_drop (by assumption) (by intro q hq; repeat (first | exact hq | refine List.Mem.tail _ ?_)))
    unfold Hold
    k_with_none
    k_with "slice" => (refine slice_is (by k_asm) (by k_asm) (by assumption) (hLC _ _ (by omega) (by omega)) ?_; intro h' t' k' F' N')
    k_with "item" => (refine item_is (by omega) (by assumption) (by first | exact hI3 _ (by omega) | exact hI4 _ (by omega) | exact hI5 _ (by omega)) ?_; intro _ _)
    k_with "iadd" => (refine iadd_is (by assumption) (by assumption) ?_; intro _ _)
    k_with "spin" => (refine spin_turn ?_)
    k_steps
    refine hret.1 (by assumption) _ _ _ _ _ _ _ _ _ (by k_asm) (name_tuple (nl := 0 + 1) (by assumption) (by omega) ?_ ?_)
    all_goals first | (intro q hq; (repeat (first | exact hq | refine List.Mem.tail _ ?_)); done) | ((repeat (first | exact List.Mem.head _ | refine List.Mem.tail _ ?_)); done)
end Mine
-- part LW
namespace Mine
open PySem.Calls
section
variable {prog : Program} {w : World} {A : Around} {E : Value → Shared → Prop} {s : Shared}
theorem pick_P {value slice : PySem.Expr} {l : Addr} {vs : List Value} {k : Int} {u : Tok} {Q : Value → Shared → Prop} (P : List Nat → Prop) (hl : s.heap.IsList l vs.toArray)
    (h0 : 0 ≤ k) (h1 : k < vs.length) (hz : vs.length ≤ 100) (hv : ∀ v ∈ vs, ∃ y u, v = .str ⟨y.toArray⟩ u ∧ P y) (h : ∀ y u, P y → Q (.str ⟨y.toArray⟩ u) s)
    (hs : subscripted slice false (.ref l) (.int k u) = operate [.ref l, .int k u] (getItem (.ref l) (.int k u)) := by with_unfolding_all rfl) :
    wpAny (model prog w) A (subscriptTail value slice (.ref l) (.int k u)) Q E s := by
  have hlt : k.toNat < vs.length := by omega
  refine tail_any hl.typeIs slot_list_getitem.lookup (wpAny_getItem_list hl h0 (by omega) (x := vs[k.toNat]) (by simp [hlt]) ?_) hs
  obtain ⟨y, u, e, hp⟩ := hv _ (List.getElem_mem hlt)
  rw [e]
  exact h _ _ hp
theorem mul_any {a b : Int} {t u : Tok} {Q : Value → Shared → Prop} (h1 : -(2 ^ 64) < a) (h2 : a < 2 ^ 64) (h : ∀ (z : Int) t' k, Q (.int z t') { s with toks := k }) : wpAny (model prog w) A (binaryOp .Mult (.int a t) (.int b u)) Q E s := by
  refine P.mul_int ?_ (IntMulOk.of_left (intBits_le_64 h1 h2))
  exact h _ _ _
def SignOf (s : Shared) (v : Value) (s' : Shared) : Prop := ∃ (c : Nat) (t : Tok) (k : Nat), c < 256 ∧ v = .str ⟨#[c]⟩ t ∧ s' = { s with toks := k }
theorem sign_cut {M : Model} {t : Sem Value} {Q : Value → Shared → Prop} (h : wpAny M A t (SignOf s) E s) (k : ∀ c t k, c < 256 → Q (.str ⟨#[c]⟩ t) { s with toks := k }) : wpAny M A t Q E s :=
  wpAny_mono h (fun v s' hv => by obtain ⟨c, t, n, hc, rfl, rfl⟩ := hv; exact k c t n hc) fun _ _ x => x
theorem eacute : Str.ofString "é" = ⟨#[233]⟩ := by kernel_rfl!
theorem sign_e {t : Tok} {k : Nat} : SignOf s (.str (Str.ofString "é") t) { s with toks := k } := ⟨233, t, k, by decide, by rw [eacute], rfl⟩
theorem sign_chr {z : Int} {t : Tok} {k : Nat} : SignOf s (.str ⟨#[(32 + z.fmod 96).toNat]⟩ t) { s with toks := k } := by
  refine ⟨_, t, k, ?_, rfl, rfl⟩
  have := Int.fmod_lt_of_pos z (by decide : (0 : Int) < 96)
  omega
theorem ne_t {x y : Str} {t u : Tok} {Q : Value → Shared → Prop} (e : (x == y) = false) (h : Q (.bool true) s) : wpAny (model prog w) A (compareOp .NotEq (.str x t) (.str y u)) Q E s := ne_is (b := true) e h
theorem ne_f {x y : Str} {t u : Tok} {Q : Value → Shared → Prop} (e : (x == y) = true) (h : Q (.bool false) s) : wpAny (model prog w) A (compareOp .NotEq (.str x t) (.str y u)) Q E s := ne_is (b := false) e h
theorem add_l {x y : List Nat} {t u : Tok} {Q : Value → Shared → Prop} (hz : x.length + y.length < 1000) (h : ∀ t' k, Q (.str ⟨(x ++ y).toArray⟩ t') { s with toks := k }) : wpAny (model prog w) A (binaryOp .Add (.str ⟨x.toArray⟩ t) (.str ⟨y.toArray⟩ u)) Q E s := by
  refine add_is (z := ⟨(x ++ y).toArray⟩) ?_ ?_ h
  · show (⟨x.toArray ++ y.toArray⟩ : Str) = _
    simp
  · simpa using hz
theorem ofBs : Str.ofString "\\" = ⟨[92].toArray⟩ := by kernel_rfl!
theorem ofX : Str.ofString "x:" = ⟨[120, 58].toArray⟩ := by kernel_rfl!
theorem ofB : Str.ofString "b" = ⟨[98].toArray⟩ := by kernel_rfl!
theorem ofBb : Str.ofString "b " = ⟨[98, 32].toArray⟩ := by kernel_rfl!
theorem add_r {x : List Nat} {y : Str} {yl : List Nat} {t u : Tok} {Q : Value → Shared → Prop} (e : y = ⟨yl.toArray⟩) (hz : x.length + yl.length < 1000) (h : ∀ t' k, Q (.str ⟨(x ++ yl).toArray⟩ t') { s with toks := k }) : wpAny (model prog w) A (binaryOp .Add (.str ⟨x.toArray⟩ t) (.str y u)) Q E s := by
  subst e; exact add_l hz h
theorem add_x {x : Str} {xl y : List Nat} {t u : Tok} {Q : Value → Shared → Prop} (e : x = ⟨xl.toArray⟩) (hz : xl.length + y.length < 1000) (h : ∀ t' k, Q (.str ⟨(xl ++ y).toArray⟩ t') { s with toks := k }) : wpAny (model prog w) A (binaryOp .Add (.str x t) (.str ⟨y.toArray⟩ u)) Q E s := by
  subst e; exact add_l hz h
theorem len_l {x : List Nat} {t : Tok} {Q : Value → Shared → Prop} (hz : x.length < 1000) (h : ∀ t' k, Q (.int (x.length : Int) t') { s with toks := k }) : wpAny (model prog w) A (call (.builtin "len") [.str ⟨x.toArray⟩ t]) Q E s := len_is (by simp) hz h
end
-- the law's tables
def aheadTab : List (List Nat) := [[112], [], [233], [97, 98, 32, 99]]
def behindTab : List (List Nat) := [[113], [], [233, 49]]
def opensTab : List (List Nat) := [[34], [39], [34, 34, 34], [39, 39, 39]]
def nameTab : List (List Nat) := [[97], [], [233], [98, 48]]
theorem of_p : Str.ofString "p" = ⟨[112].toArray⟩ := by kernel_rfl!
theorem of_nil : Str.ofString "" = ⟨([] : List Nat).toArray⟩ := by kernel_rfl!
theorem of_ab : Str.ofString "ab c" = ⟨[97, 98, 32, 99].toArray⟩ := by kernel_rfl!
theorem of_q : Str.ofString "q" = ⟨[113].toArray⟩ := by kernel_rfl!
theorem of_e1 : Str.ofString "é1" = ⟨[233, 49].toArray⟩ := by kernel_rfl!
theorem of_d1 : Str.ofString "\"" = ⟨[34].toArray⟩ := by kernel_rfl!
theorem of_d2 : Str.ofString "'" = ⟨[39].toArray⟩ := by kernel_rfl!
theorem of_d3 : Str.ofString "\"\"\"" = ⟨[34, 34, 34].toArray⟩ := by kernel_rfl!
theorem of_d4 : Str.ofString "'''" = ⟨[39, 39, 39].toArray⟩ := by kernel_rfl!
theorem of_a : Str.ofString "a" = ⟨[97].toArray⟩ := by kernel_rfl!
theorem of_b0 : Str.ofString "b0" = ⟨[98, 48].toArray⟩ := by kernel_rfl!
theorem inTab {T : List (List Nat)} {x : Str} {y : List Nat} {t : Tok} (e : x = ⟨y.toArray⟩) (h : y ∈ T) : ∃ y u, Value.str x t = .str ⟨y.toArray⟩ u ∧ y ∈ T := ⟨y, t, by rw [e], h⟩
theorem hvA {t1 t2 t3 t4 : Tok} : ∀ v ∈ [Value.str (Str.ofString "p") t1, .str (Str.ofString "") t2, .str (Str.ofString "é") t3, .str (Str.ofString "ab c") t4], ∃ y u, v = .str ⟨y.toArray⟩ u ∧ y ∈ aheadTab := by
  simp only [List.forall_mem_cons]
  exact ⟨inTab of_p (by decide), inTab of_nil (by decide), inTab eacute (by decide), inTab of_ab (by decide), by simp⟩
theorem hvB {t1 t2 t3 : Tok} : ∀ v ∈ [Value.str (Str.ofString "q") t1, .str (Str.ofString "") t2, .str (Str.ofString "é1") t3], ∃ y u, v = .str ⟨y.toArray⟩ u ∧ y ∈ behindTab := by
  simp only [List.forall_mem_cons]
  exact ⟨inTab of_q (by decide), inTab of_nil (by decide), inTab of_e1 (by decide), by simp⟩
theorem hvD {t1 t2 t3 t4 : Tok} : ∀ v ∈ [Value.str (Str.ofString "\"") t1, .str (Str.ofString "'") t2, .str (Str.ofString "\"\"\"") t3, .str (Str.ofString "'''") t4], ∃ y u, v = .str ⟨y.toArray⟩ u ∧ y ∈ opensTab := by
  simp only [List.forall_mem_cons]
  exact ⟨inTab of_d1 (by decide), inTab of_d2 (by decide), inTab of_d3 (by decide), inTab of_d4 (by decide), by simp⟩
theorem hvN {t1 t2 t3 t4 : Tok} : ∀ v ∈ [Value.str (Str.ofString "a") t1, .str (Str.ofString "") t2, .str (Str.ofString "é") t3, .str (Str.ofString "b0") t4], ∃ y u, v = .str ⟨y.toArray⟩ u ∧ y ∈ nameTab := by
  simp only [List.forall_mem_cons]
  exact ⟨inTab of_a (by decide), inTab of_nil (by decide), inTab eacute (by decide), inTab of_b0 (by decide), by simp⟩
def SmallTab (T : List (List Nat)) : Bool := T.all fun y => y.length ≤ 4 && y.all fun z => z < 256
theorem small_len {T : List (List Nat)} {y : List Nat} (hT : SmallTab T = true) (h : y ∈ T) : y.length ≤ 4 := by
  unfold SmallTab at hT
  have := (List.all_eq_true.mp hT) y h
  simp only [Bool.and_eq_true, decide_eq_true_eq] at this
  exact this.1
theorem small_lt {T : List (List Nat)} {y : List Nat} (hT : SmallTab T = true) (h : y ∈ T) : ∀ z ∈ y, z < 256 := by
  unfold SmallTab at hT
  have := (List.all_eq_true.mp hT) y h
  simp only [Bool.and_eq_true, decide_eq_true_eq, List.all_eq_true] at this
  exact this.2
section
variable {prog : Program} {w : World} {A : Around} {E : Value → Shared → Prop} {s : Shared}
theorem pickA {value slice : PySem.Expr} {l : Addr} {z : Int} {u t1 t2 t3 t4 : Tok} {Q : Value → Shared → Prop} (hl : s.heap.IsList l ([Value.str (Str.ofString "p") t1, Value.str (Str.ofString "") t2, Value.str (Str.ofString "é") t3, Value.str (Str.ofString "ab c") t4] : List Value).toArray) (h : ∀ y u, y ∈ aheadTab → Q (.str ⟨y.toArray⟩ u) s)
    (hs : subscripted slice false (.ref l) (.int (z.fmod 4) u) = operate [.ref l, .int (z.fmod 4) u] (getItem (.ref l) (.int (z.fmod 4) u)) := by with_unfolding_all rfl) :
    wpAny (model prog w) A (subscriptTail value slice (.ref l) (.int (z.fmod 4) u)) Q E s :=
  pick_P (· ∈ aheadTab) hl (Int.fmod_nonneg_of_pos _ (by decide)) (Int.fmod_lt_of_pos _ (by decide)) (Nat.le_of_ble_eq_true rfl) hvA h hs
theorem pickB {value slice : PySem.Expr} {l : Addr} {z : Int} {u t1 t2 t3 : Tok} {Q : Value → Shared → Prop} (hl : s.heap.IsList l ([Value.str (Str.ofString "q") t1, Value.str (Str.ofString "") t2, Value.str (Str.ofString "é1") t3] : List Value).toArray) (h : ∀ y u, y ∈ behindTab → Q (.str ⟨y.toArray⟩ u) s)
    (hs : subscripted slice false (.ref l) (.int (z.fmod 3) u) = operate [.ref l, .int (z.fmod 3) u] (getItem (.ref l) (.int (z.fmod 3) u)) := by with_unfolding_all rfl) :
    wpAny (model prog w) A (subscriptTail value slice (.ref l) (.int (z.fmod 3) u)) Q E s :=
  pick_P (· ∈ behindTab) hl (Int.fmod_nonneg_of_pos _ (by decide)) (Int.fmod_lt_of_pos _ (by decide)) (Nat.le_of_ble_eq_true rfl) hvB h hs
theorem pickD {value slice : PySem.Expr} {l : Addr} {z : Int} {u t1 t2 t3 t4 : Tok} {Q : Value → Shared → Prop} (hl : s.heap.IsList l ([Value.str (Str.ofString "\"") t1, Value.str (Str.ofString "'") t2, Value.str (Str.ofString "\"\"\"") t3, Value.str (Str.ofString "'''") t4] : List Value).toArray) (h : ∀ y u, y ∈ opensTab → Q (.str ⟨y.toArray⟩ u) s)
    (hs : subscripted slice false (.ref l) (.int (z.fmod 4) u) = operate [.ref l, .int (z.fmod 4) u] (getItem (.ref l) (.int (z.fmod 4) u)) := by with_unfolding_all rfl) :
    wpAny (model prog w) A (subscriptTail value slice (.ref l) (.int (z.fmod 4) u)) Q E s :=
  pick_P (· ∈ opensTab) hl (Int.fmod_nonneg_of_pos _ (by decide)) (Int.fmod_lt_of_pos _ (by decide)) (Nat.le_of_ble_eq_true rfl) hvD h hs
theorem pickN {value slice : PySem.Expr} {l : Addr} {z : Int} {u t1 t2 t3 t4 : Tok} {Q : Value → Shared → Prop} (hl : s.heap.IsList l ([Value.str (Str.ofString "a") t1, Value.str (Str.ofString "") t2, Value.str (Str.ofString "é") t3, Value.str (Str.ofString "b0") t4] : List Value).toArray) (h : ∀ y u, y ∈ nameTab → Q (.str ⟨y.toArray⟩ u) s)
    (hs : subscripted slice false (.ref l) (.int (z.fmod 4) u) = operate [.ref l, .int (z.fmod 4) u] (getItem (.ref l) (.int (z.fmod 4) u)) := by with_unfolding_all rfl) :
    wpAny (model prog w) A (subscriptTail value slice (.ref l) (.int (z.fmod 4) u)) Q E s :=
  pick_P (· ∈ nameTab) hl (Int.fmod_nonneg_of_pos _ (by decide)) (Int.fmod_lt_of_pos _ (by decide)) (Nat.le_of_ble_eq_true rfl) hvN h hs
end
end Mine
-- part P1
namespace Mine
open PySem.Calls PySem.Builtin PySem.Builtin.Str
abbrev lit (l : List Nat) : Str := ⟨l.toArray⟩
theorem lit_size (l : List Nat) : (lit l).cps.size = l.length := by simp [lit]
theorem lit_at {l : List Nat} {i : Int} {n c : Nat} (e : i.toNat = n) (h : l[n]? = some c) : (lit l).cps[i.toNat]? = some c := by
  rw [e]; simpa [lit] using h
theorem mid_at {pre post : List Nat} {x n : Nat} (e : pre.length = n) : (pre ++ x :: post)[n]? = some x := by
  subst e; simp
theorem lit_slice {l r : List Nat} {i j : Int} {a b : Nat} (ei : i = (a : Int)) (ej : j = (b : Int)) (hab : a ≤ b) (hb : b ≤ l.length) (e : (l.drop a).take (b - a) = r) : Txt.slice (lit l) (some i) (some j) = lit r := by
  subst ei ej
  rw [txt_slice hab (by rw [lit_size]; exact hb)]
  simp only [lit] at e ⊢
  rw [e]
theorem lit_slice_cap {l r : List Nat} {i j : Int} {a : Nat} (ei : i = (a : Int)) (hj : (l.length : Int) ≤ j) (ha : a ≤ l.length) (e : l.drop a = r) : Txt.slice (lit l) (some i) (some j) = lit r := by
  subst ei
  have hlen : (lit l).length = l.length := lit_size l
  have e1 : Txt.slice (lit l) (some (a : Int)) (some j) = Txt.slice (lit l) (some (a : Int)) (some (l.length : Int)) := by
    unfold Txt.slice
    have h : strSliceIndices (some (a : Int)) (some j) 1 (lit l).length = strSliceIndices (some (a : Int)) (some (l.length : Int)) 1 (lit l).length := by
      rw [hlen]
      have h1 : ¬ j < 0 := by omega
      have h2 : ¬ ((l.length : Int) < 0) := by omega
      have h3 : (1 : Int) > 0 := by decide
      simp only [strSliceIndices, h1, h2, h3, if_false, if_true, Int.min_eq_right hj, Int.min_self]
    rw [h]
  rw [e1]
  refine lit_slice rfl rfl ha (Nat.le_refl _) ?_
  rw [e, ← e, List.take_of_length_le (by simp)]
theorem lit_seek {pre post : List Nat} {x a : Nat} {j : Int} {i : Nat} (hj : j = (a : Int)) (ha : a ≤ pre.length) (hi : i = pre.length) (hl : (pre ++ x :: post).length < 1000) (hp : ∀ z ∈ pre.drop a, stop z = false) (hx : stop x = true) : Seek (lit (pre ++ x :: post)) j i := by
  subst hj hi
  refine ⟨by omega, by omega, ?_, ?_, ?_, ?_⟩
  · rw [lit_size]; simp
  · rw [lit_size]; omega
  · intro k h1 h2
    have h1' : a ≤ k := by omega
    have e : (lit (pre ++ x :: post)).cps.getD k 0 = pre[k] := by
      rw [Array.getD_eq_getD_getElem?]
      simp only [List.getElem?_toArray, List.getElem?_append_left h2, List.getElem?_eq_getElem h2, Option.getD_some]
    rw [e]
    refine hp _ ?_
    rw [List.mem_iff_getElem]
    refine ⟨k - a, by simp; omega, ?_⟩
    simp only [List.getElem_drop]
    congr 1
    omega
  · rw [Array.getD_eq_getD_getElem?]
    simp [lit, hx]
theorem one_ne {x y : Nat} (h : x ≠ y) : ((⟨#[x]⟩ : Str) == ⟨#[y]⟩) = false := by
  rw [beq_eq_false_iff_ne]
  intro e
  injection e with e
  injection e with e
  injection e with e
  exact h e
theorem one_eq (x : Nat) : ((⟨#[x]⟩ : Str) == ⟨#[x]⟩) = true := beq_self_eq_true _
theorem lit_append (a b : List Nat) : lit a ++ lit b = lit (a ++ b) := by
  show (⟨a.toArray ++ b.toArray⟩ : Str) = _
  simp [lit]
theorem nil_lit (a : List Nat) : Str.ofString "" ++ lit a = lit a := by
  have e : Str.ofString "" = lit [] := by kernel_rfl!
  rw [e, lit_append]; rfl
end Mine
-- part P2
namespace Mine
open PySem.Calls
-- the law's tables
def n3Tab : List (Nat × Nat) := [(97, 7), (98, 8), (102, 12), (110, 10), (114, 13), (116, 9), (118, 11), (92, 92), (34, 34), (39, 39)]
/-- a part ahead of the sign, or behind it: short, and nothing of interest in it -/
structure Calm (l : List Nat) : Prop where
  len : l.length ≤ 4
  lt : ∀ z ∈ l, z < 256
  calm : ∀ z ∈ l, stop z = false
  n34 : 34 ∉ l
  n39 : 39 ∉ l
  n92 : 92 ∉ l
theorem calm_of {l : List Nat} (h : (l.length ≤ 4 && l.all fun z => z < 256 && !stop z && z != 34 && z != 39 && z != 92) = true) : Calm l := by
  simp only [Bool.and_eq_true, decide_eq_true_eq, List.all_eq_true, Bool.not_eq_true', bne_iff_ne] at h
  obtain ⟨h1, h2⟩ := h
  exact ⟨h1, fun z hz => (h2 z hz).1.1.1.1, fun z hz => (h2 z hz).1.1.1.2, fun hm => (h2 _ hm).1.1.2 rfl, fun hm => (h2 _ hm).1.2 rfl, fun hm => (h2 _ hm).2 rfl⟩
theorem calm_all {T : List (List Nat)} (h : (T.all fun l => l.length ≤ 4 && l.all fun z => z < 256 && !stop z && z != 34 && z != 39 && z != 92) = true) {l : List Nat} (hl : l ∈ T) : Calm l :=
  calm_of (List.all_eq_true.mp h l hl)
theorem calmA {l : List Nat} (h : l ∈ aheadTab) : Calm l := calm_all (by decide +kernel) h
theorem calmB {l : List Nat} (h : l ∈ behindTab) : Calm l := calm_all (by decide +kernel) h
theorem calmN {l : List Nat} (h : l ∈ nameTab) : Calm l := calm_all (by decide +kernel) h
theorem opens_of {l : List Nat} (h : l ∈ opensTab) : ∃ q, (q = 34 ∨ q = 39) ∧ (l = [q] ∨ l = [q, q, q]) := by
  simp only [opensTab, List.mem_cons, List.not_mem_nil, or_false] at h
  rcases h with rfl | rfl | rfl | rfl
  · exact ⟨34, .inl rfl, .inl rfl⟩
  · exact ⟨39, .inr rfl, .inl rfl⟩
  · exact ⟨34, .inl rfl, .inr rfl⟩
  · exact ⟨39, .inr rfl, .inr rfl⟩
/-- the first sign of a calm part and what stands behind it -/
theorem first_of {l r : List Nat} {x q : Nat} (C : Calm l) (hq : q = 34 ∨ q = 39) (hx : x ≠ q) : ∃ y, (l ++ x :: r)[0]? = some y ∧ y ≠ q := by
  cases l with
  | nil => exact ⟨x, by simp, hx⟩
  | cons z l =>
    refine ⟨z, by simp, ?_⟩
    rintro rfl
    rcases hq with rfl | rfl
    · exact C.n34 (.head _)
    · exact C.n39 (.head _)
theorem lit_ne {x y : List Nat} (h : x.length ≠ y.length) : (lit x == lit y) = false := by
  rw [beq_eq_false_iff_ne]
  intro e
  injection e with e
  injection e with e
  exact h (by rw [e])
def findAt (c : Nat) : Int := Txt.find (Str.ofString "abfrtvn\\\"'") ⟨#[c]⟩
theorem n3_find {c r : Nat} (h : (c, r) ∈ n3Tab) : ∃ k : Int, Txt.find (Str.ofString "abfrtvn\\\"'") ⟨#[c]⟩ = k ∧ 0 ≤ k ∧ k < 10 ∧ (Str.ofString "\x07\x08\x0c\r\t\x0b\n\\\"'").cps[k.toNat]? = some r := by
  simp only [n3Tab, List.mem_cons, Prod.mk.injEq, List.not_mem_nil, or_false] at h
  rcases h with ⟨rfl, rfl⟩ | ⟨rfl, rfl⟩ | ⟨rfl, rfl⟩ | ⟨rfl, rfl⟩ | ⟨rfl, rfl⟩ | ⟨rfl, rfl⟩ | ⟨rfl, rfl⟩ | ⟨rfl, rfl⟩ | ⟨rfl, rfl⟩ | ⟨rfl, rfl⟩
  · exact ⟨0, by kernel_rfl!, by decide, by decide, by kernel_rfl!⟩
  · exact ⟨1, by kernel_rfl!, by decide, by decide, by kernel_rfl!⟩
  · exact ⟨2, by kernel_rfl!, by decide, by decide, by kernel_rfl!⟩
  · exact ⟨6, by kernel_rfl!, by decide, by decide, by kernel_rfl!⟩
  · exact ⟨3, by kernel_rfl!, by decide, by decide, by kernel_rfl!⟩
  · exact ⟨4, by kernel_rfl!, by decide, by decide, by kernel_rfl!⟩
  · exact ⟨5, by kernel_rfl!, by decide, by decide, by kernel_rfl!⟩
  · exact ⟨7, by kernel_rfl!, by decide, by decide, by kernel_rfl!⟩
  · exact ⟨8, by kernel_rfl!, by decide, by decide, by kernel_rfl!⟩
  · exact ⟨9, by kernel_rfl!, by decide, by decide, by kernel_rfl!⟩
theorem bs_ne {q : Nat} (hq : q = 34 ∨ q = 39) : (Str.ofString "\\" == ⟨#[q]⟩) = false := by
  have e : Str.ofString "\\" = ⟨#[92]⟩ := by kernel_rfl!
  rw [e]
  exact one_ne (by omega)
theorem stop92 : stop 92 = true := by decide +kernel
theorem stopq {q : Nat} (hq : q = 34 ∨ q = 39) : stop q = true := by
  rcases hq with rfl | rfl <;> decide +kernel
theorem rz : (Str.ofString "\x07\x08\x0c\r\t\x0b\n\\\"'").cps.size < 1000 := by
  have e : (Str.ofString "\x07\x08\x0c\r\t\x0b\n\\\"'").cps.size = 10 := by kernel_rfl!
  rw [e]; decide
abbrev parserLed (w : World) (px pd : Addr) (T : Nat → Tok) (v0 v6 v8 v9 v10 v13 : Value) (news : List (Addr × Obj)) : List (Addr × Obj) := (px, instObj 135 pd) :: (pd, dictOf (parserEs w.params T v0 v6 v8 v9 v10 v13) 15) :: news
abbrev pairObj (n : Int) (u : Tok) (x : Str) (t : Tok) : Obj := { cls := .type "tuple", data := .seq #[.int n u, .str x t] }
theorem string_good (w : World) (px pd : Addr) (T : Nat → Tok) (v0 v6 v8 v9 v10 v13 : Value) (al bl dl : List Nat) (c r : Nat) (t u : Tok) (news : List (Addr × Obj)) (ha : al ∈ aheadTab) (hb : bl ∈ behindTab) (hd : dl ∈ opensTab) (hc : (c, r) ∈ n3Tab) :
    Asked w 20 228 [.ref px, .str ⟨(al ++ [92] ++ [c] ++ bl ++ dl).toArray⟩ t, .str ⟨dl.toArray⟩ u] ((px, instObj 135 pd) :: (pd, dictOf (parserEs w.params T v0 v6 v8 v9 v10 v13) 15) :: news)
      (fun h₀ L m s Q => ∀ D T' h' tk' u, Fr h₀ L h' m → News h₀ L h' ((D, { cls := .type "tuple", data := .seq #[.int ((al ++ [92] ++ [c] ++ bl ++ dl).length : Nat) u, .str ⟨(al ++ [r] ++ bl).toArray⟩ T'] }) :: (px, instObj 135 pd) :: (pd, dictOf (parserEs w.params T v0 v6 v8 v9 v10 v13) 15) :: news) → Q (.ref D) { s with heap := h', toks := tk' }) := by
  have CA := calmA ha
  have CB := calmB hb
  obtain ⟨q, hq, hdl⟩ := opens_of hd
  have hA := CA.len
  have hB := CB.len
  have hD : dl.length ≤ 3 := by rcases hdl with rfl | rfl <;> simp
  have e : al ++ [92] ++ [c] ++ bl ++ dl = al ++ 92 :: (c :: (bl ++ dl)) := by simp
  have e' : al ++ 92 :: (c :: (bl ++ dl)) = (al ++ [92, c] ++ bl) ++ dl := by simp
  have hlen : (al ++ 92 :: (c :: (bl ++ dl))).length = al.length + 2 + bl.length + dl.length := by simp only [List.length_append, List.length_cons]; omega
  obtain ⟨k, hk, hk0, hk1, hr⟩ := n3_find hc
  obtain ⟨x0, hx0, hxq⟩ := first_of (r := c :: (bl ++ dl)) CA hq (show 92 ≠ q by omega)
  rw [e]
  refine law_string_good w px pd T v0 v6 v8 v9 v10 v13 (lit (al ++ 92 :: (c :: (bl ++ dl)))) (lit dl) (lit (al ++ [r] ++ bl)) _ t u news fun t v u => ?_
  obtain ⟨dr, hdr⟩ : ∃ dr, dl = q :: dr := by rcases hdl with h | h <;> exact ⟨_, h⟩
  have hB2 : bl = [] ∨ ∃ x2, bl[0]? = some x2 ∧ x2 ≠ q := by
    rcases bl with _ | ⟨z, bl⟩
    · exact .inl rfl
    · refine .inr ⟨z, rfl, ?_⟩
      rintro rfl
      rcases hq with rfl | rfl
      · exact CB.n34 (.head _)
      · exact CB.n39 (.head _)
  have hlead : (al ++ 92 :: (c :: (bl ++ dl))).length < 1000 := by omega
  have x2at : ∀ {j : Nat} {z : Nat}, bl[j]? = some z → (al ++ 92 :: (c :: (bl ++ dl)))[al.length + 2 + j]? = some z := by
    intro j z hz
    have hj : j < bl.length := (List.getElem?_eq_some_iff.mp hz).1
    rw [e', List.getElem?_append_left (by simp only [List.length_append, List.length_cons, List.length_nil]; omega), List.getElem?_append_right (by simp only [List.length_append, List.length_cons, List.length_nil]; omega)]
    simp only [List.length_append, List.length_cons, List.length_nil]
    rw [← hz]; congr 1; omega
  have hdrop : (al ++ 92 :: (c :: (bl ++ dl))).drop (al.length + 2 + bl.length) = dl := by
    rw [e']
    exact List.drop_left' (by simp only [List.length_append, List.length_cons, List.length_nil])
  have hmk : ∀ x2 : Nat, ((bl.length = 0 ∧ lit (al ++ [r]) = lit (al ++ [r] ++ bl)) ∨ ((∀ i : Int, i = (al.length : Int) + 2 → (lit (al ++ 92 :: (c :: (bl ++ dl)))).cps[i.toNat]? = some x2) ∧ ((⟨#[x2]⟩ : Str) == ⟨#[q]⟩) = false ∧ (∀ j : Int, j = (al.length : Int) + 2 → Seek (lit (al ++ 92 :: (c :: (bl ++ dl)))) j (al.length + 2 + bl.length)) ∧ (∀ i j : Int, i = (al.length : Int) + 2 → j = (al.length : Int) + 2 + bl.length → Txt.slice (lit (al ++ 92 :: (c :: (bl ++ dl)))) (some i) (some j) = lit bl) ∧ lit (al ++ [r]) ++ lit bl = lit (al ++ [r] ++ bl) ∧ (lit (al ++ [r] ++ bl)).cps.size < 1000)) →
      Asked w 10 104 [.ref px, .str (lit (al ++ 92 :: (c :: (bl ++ dl)))) t, .int 0 v, .str (lit dl) u] ((px, instObj 135 pd) :: (pd, dictOf (parserEs w.params T v0 v6 v8 v9 v10 v13) 15) :: news)
        (fun h₀ L m s Q => ∀ D T' h' tk' u, Fr h₀ L h' m → News h₀ L h' ((D, { cls := .type "tuple", data := .seq #[.int ((al ++ 92 :: (c :: (bl ++ dl))).length : Nat) u, .str (lit (al ++ [r] ++ bl)) T'] }) :: (px, instObj 135 pd) :: (pd, dictOf (parserEs w.params T v0 v6 v8 v9 v10 v13) 15) :: news) → Q (.ref D) { s with heap := h', toks := tk' }) := by
    intro x2 hBB
    refine strconst_facts w px pd T v0 v6 v8 v9 v10 v13 (lit (al ++ 92 :: (c :: (bl ++ dl)))) (lit al) (lit (al ++ [r])) (lit (al ++ [r] ++ bl)) (lit bl) (lit dl) al.length bl.length _ x0 x2 c r q k t u v news
      ?hDz ?hD0 ?hX ?hn ?hXz ?hAz ?hA2z ?hn1 ?hx0 ?hxq ?hS1 ?hL1 ?hA1 ?hI1 ?h92q ?hI2 hk hk0 hk1 ?hR rz ?hA2 hBB ?hC (one_eq q) ?hlt ?hD
    case hDz => rw [lit_size]; omega
    case hD0 => exact lit_at (n := 0) rfl (by rw [hdr]; rfl)
    case hX => rw [lit_size]
    case hn => exact hlead
    case hXz => rw [lit_size]; exact hlead
    case hAz => rw [lit_size]; omega
    case hA2z => rw [lit_size, List.length_append, List.length_singleton]; omega
    case hn1 => rw [hlen, hdr, List.length_cons]; omega
    case hx0 => exact lit_at (n := 0) rfl hx0
    case hxq => exact one_ne hxq
    case hS1 => intro j hj; exact lit_seek (a := 0) hj (Nat.zero_le _) rfl hlead (by simpa using CA.calm) stop92
    case hL1 => intro i j hi hj; exact lit_slice (a := 0) (b := al.length) hi hj (Nat.zero_le _) (by omega) (by simp)
    case hA1 => exact nil_lit _
    case hI1 => intro i hi; exact lit_at (n := al.length) (by omega) (mid_at rfl)
    case h92q => exact bs_ne hq
    case hI2 => intro i hi; exact lit_at (n := al.length + 1) (by omega) (by simp)
    case hR => intro i hi; rw [hi]; exact hr
    case hA2 => exact lit_append al [r]
    case hC =>
      intro i hi
      refine lit_at (n := al.length + 2 + bl.length) (by omega) ?_
      rw [e', hdr]
      exact mid_at (by simp only [List.length_append, List.length_cons, List.length_nil])
    case hlt => rw [hlen, hdr, List.length_cons]; omega
    case hD =>
      rcases hdl with h | h
      · refine .inl ⟨by rw [h], ?_⟩
        rw [hlen, h]; rfl
      · refine .inr ⟨by rw [h], ?_, lit_ne (by simp), beq_self_eq_true _, ?_, ?_, ?_⟩
        · rw [hlen, h]; rfl
        · exact lit_ne (by simp)
        · exact lit_ne (by simp)
        · intro i j hi hj
          rw [← show lit dl = ⟨#[q, q, q]⟩ by rw [h]]
          refine lit_slice_cap (a := al.length + 2 + bl.length) (by omega) ?_ (by omega) hdrop
          rw [hlen, h]; simp only [List.length_cons, List.length_nil]; omega
  rcases hB2 with hb0 | ⟨x2, hx2, hx2q⟩
  · exact hmk 0 (.inl ⟨by rw [hb0]; rfl, by rw [hb0, List.append_nil]⟩)
  · refine hmk x2 (.inr ⟨fun i hi => lit_at (n := al.length + 2 + 0) (by omega) (x2at hx2), one_ne hx2q, fun j hj => ?_, fun i j hi hj => ?_, lit_append _ _, ?_⟩)
    · have hS := lit_seek (pre := al ++ [92, c] ++ bl) (post := dr) (x := q) (a := al.length + 2) (j := j) (i := al.length + 2 + bl.length) (by omega) (by simp only [List.length_append, List.length_cons, List.length_nil]; omega) (by simp only [List.length_append, List.length_cons, List.length_nil]) (by rw [← hdr, ← e']; exact hlead) ?_ (stopq hq)
      · rw [← hdr, ← e'] at hS; exact hS
      · rw [List.drop_left' (by simp only [List.length_append, List.length_cons, List.length_nil])]
        exact CB.calm
    · refine lit_slice (a := al.length + 2) (b := al.length + 2 + bl.length) (by omega) (by omega) (by omega) (by omega) ?_
      rw [e', List.append_assoc, List.drop_left' (by simp only [List.length_append, List.length_cons, List.length_nil])]
      rw [show al.length + 2 + bl.length - (al.length + 2) = bl.length by omega]
      simp
    · rw [lit_size]; simp only [List.length_append, List.length_cons, List.length_nil]; omega
end Mine
-- part P3
namespace Mine
open PySem.Calls
def freedTab : List Nat := [95, 126, 46, 45, 33, 36, 38, 39, 40, 41, 42, 43, 44, 59, 61, 47, 63, 35, 64, 37]
def n3Keys : List Nat := n3Tab.map (·.1)
theorem find_none : ∀ c, c < 256 → c ∉ n3Keys → Txt.find (Str.ofString "abfrtvn\\\"'") ⟨#[c]⟩ = -1 := by decide +kernel
theorem esc_in : ∀ c, c < 256 → c ∈ freedTab → decide (c ∈ (Str.ofString "(_~.-!$&'()*+,;=/?#@%)").cps.toList) = true := by decide +kernel
theorem esc_out : ∀ c, c < 256 → c ∉ freedTab → decide (c ∈ (Str.ofString "(_~.-!$&'()*+,;=/?#@%)").cps.toList) = false := by decide +kernel
theorem of_u : Str.ofString "u" = ⟨#[117]⟩ := by kernel_rfl!
theorem of_U : Str.ofString "U" = ⟨#[85]⟩ := by kernel_rfl!
theorem of_pc : Str.ofString "%" = ⟨#[37]⟩ := by kernel_rfl!
theorem of_bs1 : Str.ofString "\\" = ⟨#[92]⟩ := by kernel_rfl!
theorem lt_of_freed {c : Nat} (h : c ∈ freedTab) : c < 256 ∧ c ≠ 92 := by
  have e : (freedTab.all fun c => c < 256 && c != 92) = true := by decide
  have := List.all_eq_true.mp e c h
  simpa using this
theorem opens_lt {l : List Nat} (h : l ∈ opensTab) : ∀ z ∈ l, z < 256 := by
  have e : (opensTab.all fun l => l.all fun z => z < 256) = true := by decide
  have := List.all_eq_true.mp e l h
  simpa using this
theorem string_bad (w : World) (px pd : Addr) (T : Nat → Tok) (v0 v6 v8 v9 v10 v13 : Value) (al bl dl : List Nat) (c : Nat) (t u : Tok) (news : List (Addr × Obj)) (ha : al ∈ aheadTab) (hb : bl ∈ behindTab) (hd : dl ∈ opensTab) (hc : c < 256) (hc3 : c ∉ n3Keys) (hcu : c ≠ 117) (hcU : c ≠ 85) :
    Asked0 w 20 228 [.ref px, .str ⟨(al ++ [92] ++ [c] ++ bl ++ dl).toArray⟩ t, .str ⟨dl.toArray⟩ u] ((px, instObj 135 pd) :: (pd, dictOf (parserEs w.params T v0 v6 v8 v9 v10 v13) 15) :: news)
      (fun h₀ L m s Q => ∀ h' tk', Fr h₀ L h' m → News h₀ L h' ((px, instObj 135 pd) :: (pd, dictOf (parserEs w.params T v0 v6 v8 v9 v10 v13) 15) :: news) → Q .none { s with heap := h', toks := tk' }) := by
  have CA := calmA ha
  have CB := calmB hb
  obtain ⟨q, hq, hdl⟩ := opens_of hd
  have hA := CA.len
  have hB := CB.len
  have hD : dl.length ≤ 3 := by rcases hdl with rfl | rfl <;> simp
  have hD' : 1 ≤ dl.length := by rcases hdl with rfl | rfl <;> simp
  have e : al ++ [92] ++ [c] ++ bl ++ dl = al ++ 92 :: (c :: (bl ++ dl)) := by simp
  have hlen : (al ++ 92 :: (c :: (bl ++ dl))).length = al.length + 2 + bl.length + dl.length := by simp only [List.length_append, List.length_cons]; omega
  obtain ⟨x0, hx0, hxq⟩ := first_of (r := c :: (bl ++ dl)) CA hq (show 92 ≠ q by omega)
  have hlead : (al ++ 92 :: (c :: (bl ++ dl))).length < 1000 := by omega
  have hd0 : dl[0]? = some q := by rcases hdl with h | h <;> (rw [h]; rfl)
  rw [e]
  refine law_string_bad w px pd T v0 v6 v8 v9 v10 v13 (lit (al ++ 92 :: (c :: (bl ++ dl)))) (lit al) (lit dl) al.length (al ++ 92 :: (c :: (bl ++ dl))).length x0 c q (-1) t u news
    ?hDz ?hD0 ?hX ?hn ?hXz ?hAz ?hn1 ?hx0 ?hxq ?hS1 ?hL1 ?hA1 ?hI1 ?h92q ?hI2 (find_none c hc hc3) (by decide) ?hcu ?hcU ?hXs
  case hDz => rw [lit_size]; omega
  case hD0 => exact lit_at (n := 0) rfl hd0
  case hX => rw [lit_size]
  case hn => exact hlead
  case hXz => rw [lit_size]; exact hlead
  case hAz => rw [lit_size]; omega
  case hn1 => rw [hlen]; omega
  case hx0 => exact lit_at (n := 0) rfl hx0
  case hxq => exact one_ne hxq
  case hS1 => intro j hj; exact lit_seek (a := 0) hj (Nat.zero_le _) rfl hlead (by simpa using CA.calm) stop92
  case hL1 => intro i j hi hj; exact lit_slice (a := 0) (b := al.length) hi hj (Nat.zero_le _) (by omega) (by simp)
  case hA1 => exact nil_lit _
  case hI1 => intro i hi; exact lit_at (n := al.length) (by omega) (mid_at rfl)
  case h92q => exact bs_ne hq
  case hI2 => intro i hi; exact lit_at (n := al.length + 1) (by omega) (by simp)
  case hcu => rw [of_u]; exact one_ne hcu
  case hcU => rw [of_U]; exact one_ne hcU
  case hXs =>
    show ∀ y ∈ al ++ 92 :: (c :: (bl ++ dl)), y < 256
    simp only [List.mem_append, List.mem_cons]
    rintro y (h | rfl | rfl | h | h)
    · exact CA.lt y h
    · decide
    · exact hc
    · exact CB.lt y h
    · exact opens_lt hd y h
theorem of_x : Str.ofString "x" = lit [120] := by kernel_rfl!
theorem nq_97 : InIs ⟨#[97]⟩ (Str.ofString "\t\r\n !\"#$&'()*+,/;<=>?\x40[\\]^`{|}~") false := by unfold InIs; kernel_rfl!
theorem nq_233 : InIs ⟨#[233]⟩ (Str.ofString "\t\r\n !\"#$&'()*+,/;<=>?\x40[\\]^`{|}~") false := by unfold InIs; kernel_rfl!
theorem nq_98 : InIs ⟨#[98]⟩ (Str.ofString "\t\r\n !\"#$&'()*+,/;<=>?\x40[\\]^`{|}~") false := by unfold InIs; kernel_rfl!
theorem nq_48 : InIs ⟨#[48]⟩ (Str.ofString "\t\r\n !\"#$&'()*+,/;<=>?\x40[\\]^`{|}~") false := by unfold InIs; kernel_rfl!
theorem lit_nil : Str.ofString "" = lit [] := by kernel_rfl!
theorem name_any (w : World) (px pd : Addr) (T : Nat → Tok) (v0 v6 v8 v9 v10 v13 : Value) (be : List Nat) (c : Nat) (cf : Bool) (t : Tok) (news : List (Addr × Obj)) (hb : be ∈ nameTab) (hc256 : c < 256) (hc : decide (c ∈ freedTab) = cf) :
    Asked0 w 20 235 [.ref px, .str ⟨([120, 58] ++ be ++ [92] ++ [c] ++ [98, 32]).toArray⟩ t] ((px, instObj 135 pd) :: (pd, dictOf (parserEs w.params T v0 v6 v8 v9 v10 v13) 15) :: news)
      (fun h₀ L m s Q => (cf = true → ∀ D fl tp T' T'' h' tk' u nl, Fr h₀ L h' m → News h₀ L h' ((D, { cls := .type "tuple", data := .seq #[.int ((([120, 58] ++ be ++ [92] ++ [c] ++ [98, 32]).length : Int) - 1) u, .ref fl] }) :: (tp, { cls := .type "tuple", data := .seq #[.str (Str.ofString "x") T', .str ⟨(be ++ [c] ++ [98]).toArray⟩ T''] }) :: (fl, { cls := .type "list", data := .seq #[.ref tp] nl }) :: (px, instObj 135 pd) :: (pd, dictOf (parserEs w.params T v0 v6 v8 v9 v10 v13) 15) :: news) → Q (.ref D) { s with heap := h', toks := tk' }) ∧
        (cf = false → ∀ h' tk', Fr h₀ L h' m → News h₀ L h' ((px, instObj 135 pd) :: (pd, dictOf (parserEs w.params T v0 v6 v8 v9 v10 v13) 15) :: news) → Q .none { s with heap := h', toks := tk' })) := by
  have c3 : InIs ⟨#[c]⟩ (Str.ofString "(_~.-!$&'()*+,;=/?#@%)") cf := inIs_of (by
    by_cases h : c ∈ freedTab
    · rw [esc_in c hc256 h, ← hc, decide_eq_true h]
    · rw [esc_out c hc256 h, ← hc, decide_eq_false h])
  obtain ⟨MM, hM, hMz⟩ : ∃ MM, Str.ofString "illegal escape " ++ ⟨#[c]⟩ = MM ∧ MM.cps.size < 1000 := by
    refine ⟨_, rfl, ?_⟩
    show ((Str.ofString "illegal escape ").cps ++ #[c]).size < 1000
    rw [Array.size_append]
    have e1 : (Str.ofString "illegal escape ").cps.size = 15 := by kernel_rfl!
    rw [e1]; show 15 + 1 < 1000; decide
  clear hc
  simp only [nameTab, List.mem_cons, List.not_mem_nil, or_false] at hb
  rcases hb with rfl | rfl | rfl | rfl
  · refine law_name_any w px pd T v0 v6 v8 v9 v10 v13 (lit ([120, 58] ++ [97] ++ [92] ++ [c] ++ [98, 32])) (lit [97]) (lit [c, 98]) (lit ([97] ++ [c] ++ [98])) MM 1 7 97 97 c _ _ cf t news (by omega) ?hX rfl ?hXz ?hI0 ?hI1 ?hI2 ?hI3 ?hI4 ?hI5 ?hY1 ?hY2 ?hL0 ?hLB ?hLC ?y1a ?y1b ?y1c ?y2a ?y2b ?y2c rfl (inIs_of rfl) c3 (nil_lit _) ?hBz ?hB0 (lit_append _ _) ?hRz hM hMz ?hXs
    case hX => rw [lit_size]; rfl
    case hXz => rw [lit_size]; show 7 < 1000; decide
    case hI0 => intro i hi; exact lit_at (n := 0) (by omega) rfl
    case hI1 => intro i hi; exact lit_at (n := 1) (by omega) rfl
    case hI2 => intro i hi; exact lit_at (n := 3) (by omega) rfl
    case hI3 => intro i hi; exact lit_at (n := 4) (by omega) rfl
    case hI4 => intro i hi; exact lit_at (n := 5) (by omega) rfl
    case hI5 => intro i hi; exact lit_at (n := 6) (by omega) rfl
    case hY1 => intro h i hi; exact lit_at (n := 2) (by omega) rfl
    case hY2 => intro h i hi; omega
    case hL0 => intro i j hi hj; rw [of_x]; exact lit_slice (a := 0) (b := 1) hi hj (by decide) (by show 1 ≤ 7; decide) rfl
    case hLB => intro h i j hi hj; exact lit_slice (a := 2) (b := 3) (by omega) (by omega) (by decide) (by show 3 ≤ 7; decide) rfl
    case hLC => intro i j hi hj; exact lit_slice (a := 4) (b := 6) (by omega) (by omega) (by decide) (by show 6 ≤ 7; decide) rfl
    case y1a => exact nq_97
    case y1b => rw [of_bs1]; exact one_ne (by decide)
    case y1c => rw [of_pc]; exact one_ne (by decide)
    case y2a => exact nq_97
    case y2b => rw [of_bs1]; exact one_ne (by decide)
    case y2c => rw [of_pc]; exact one_ne (by decide)
    case hBz => rw [lit_size]; show 1 < 1000; decide
    case hB0 => intro h; omega
    case hRz => rw [lit_size]; show 3 < 1000; decide
    case hXs => show ∀ y ∈ ([120, 58] ++ [97] ++ [92] ++ [c] ++ [98, 32]), y < 256; intro y hy; simp only [List.mem_append, List.mem_cons, List.not_mem_nil, or_false, or_assoc] at hy; omega
  · refine law_name_any w px pd T v0 v6 v8 v9 v10 v13 (lit ([120, 58] ++ ([] : List Nat) ++ [92] ++ [c] ++ [98, 32])) (lit ([] : List Nat)) (lit [c, 98]) (lit (([] : List Nat) ++ [c] ++ [98])) MM 0 6 97 97 c _ _ cf t news (by omega) ?hX rfl ?hXz ?hI0 ?hI1 ?hI2 ?hI3 ?hI4 ?hI5 ?hY1 ?hY2 ?hL0 ?hLB ?hLC ?y1a ?y1b ?y1c ?y2a ?y2b ?y2c rfl (inIs_of rfl) c3 (nil_lit _) ?hBz ?hB0 (lit_append _ _) ?hRz hM hMz ?hXs
    case hX => rw [lit_size]; rfl
    case hXz => rw [lit_size]; show 6 < 1000; decide
    case hI0 => intro i hi; exact lit_at (n := 0) (by omega) rfl
    case hI1 => intro i hi; exact lit_at (n := 1) (by omega) rfl
    case hI2 => intro i hi; exact lit_at (n := 2) (by omega) rfl
    case hI3 => intro i hi; exact lit_at (n := 3) (by omega) rfl
    case hI4 => intro i hi; exact lit_at (n := 4) (by omega) rfl
    case hI5 => intro i hi; exact lit_at (n := 5) (by omega) rfl
    case hY1 => intro h i hi; omega
    case hY2 => intro h i hi; omega
    case hL0 => intro i j hi hj; rw [of_x]; exact lit_slice (a := 0) (b := 1) hi hj (by decide) (by show 1 ≤ 6; decide) rfl
    case hLB => intro h i j hi hj; omega
    case hLC => intro i j hi hj; exact lit_slice (a := 3) (b := 5) (by omega) (by omega) (by decide) (by show 5 ≤ 6; decide) rfl
    case y1a => exact nq_97
    case y1b => rw [of_bs1]; exact one_ne (by decide)
    case y1c => rw [of_pc]; exact one_ne (by decide)
    case y2a => exact nq_97
    case y2b => rw [of_bs1]; exact one_ne (by decide)
    case y2c => rw [of_pc]; exact one_ne (by decide)
    case hBz => rw [lit_size]; show 0 < 1000; decide
    case hB0 => intro h; exact lit_nil.symm
    case hRz => rw [lit_size]; show 2 < 1000; decide
    case hXs => show ∀ y ∈ ([120, 58] ++ ([] : List Nat) ++ [92] ++ [c] ++ [98, 32]), y < 256; intro y hy; simp only [List.mem_append, List.mem_cons, List.not_mem_nil, or_false, or_assoc] at hy; omega
  · refine law_name_any w px pd T v0 v6 v8 v9 v10 v13 (lit ([120, 58] ++ [233] ++ [92] ++ [c] ++ [98, 32])) (lit [233]) (lit [c, 98]) (lit ([233] ++ [c] ++ [98])) MM 1 7 233 97 c _ _ cf t news (by omega) ?hX rfl ?hXz ?hI0 ?hI1 ?hI2 ?hI3 ?hI4 ?hI5 ?hY1 ?hY2 ?hL0 ?hLB ?hLC ?y1a ?y1b ?y1c ?y2a ?y2b ?y2c rfl (inIs_of rfl) c3 (nil_lit _) ?hBz ?hB0 (lit_append _ _) ?hRz hM hMz ?hXs
    case hX => rw [lit_size]; rfl
    case hXz => rw [lit_size]; show 7 < 1000; decide
    case hI0 => intro i hi; exact lit_at (n := 0) (by omega) rfl
    case hI1 => intro i hi; exact lit_at (n := 1) (by omega) rfl
    case hI2 => intro i hi; exact lit_at (n := 3) (by omega) rfl
    case hI3 => intro i hi; exact lit_at (n := 4) (by omega) rfl
    case hI4 => intro i hi; exact lit_at (n := 5) (by omega) rfl
    case hI5 => intro i hi; exact lit_at (n := 6) (by omega) rfl
    case hY1 => intro h i hi; exact lit_at (n := 2) (by omega) rfl
    case hY2 => intro h i hi; omega
    case hL0 => intro i j hi hj; rw [of_x]; exact lit_slice (a := 0) (b := 1) hi hj (by decide) (by show 1 ≤ 7; decide) rfl
    case hLB => intro h i j hi hj; exact lit_slice (a := 2) (b := 3) (by omega) (by omega) (by decide) (by show 3 ≤ 7; decide) rfl
    case hLC => intro i j hi hj; exact lit_slice (a := 4) (b := 6) (by omega) (by omega) (by decide) (by show 6 ≤ 7; decide) rfl
    case y1a => exact nq_233
    case y1b => rw [of_bs1]; exact one_ne (by decide)
    case y1c => rw [of_pc]; exact one_ne (by decide)
    case y2a => exact nq_97
    case y2b => rw [of_bs1]; exact one_ne (by decide)
    case y2c => rw [of_pc]; exact one_ne (by decide)
    case hBz => rw [lit_size]; show 1 < 1000; decide
    case hB0 => intro h; omega
    case hRz => rw [lit_size]; show 3 < 1000; decide
    case hXs => show ∀ y ∈ ([120, 58] ++ [233] ++ [92] ++ [c] ++ [98, 32]), y < 256; intro y hy; simp only [List.mem_append, List.mem_cons, List.not_mem_nil, or_false, or_assoc] at hy; omega
  · refine law_name_any w px pd T v0 v6 v8 v9 v10 v13 (lit ([120, 58] ++ [98, 48] ++ [92] ++ [c] ++ [98, 32])) (lit [98, 48]) (lit [c, 98]) (lit ([98, 48] ++ [c] ++ [98])) MM 2 8 98 48 c _ _ cf t news (by omega) ?hX rfl ?hXz ?hI0 ?hI1 ?hI2 ?hI3 ?hI4 ?hI5 ?hY1 ?hY2 ?hL0 ?hLB ?hLC ?y1a ?y1b ?y1c ?y2a ?y2b ?y2c rfl (inIs_of rfl) c3 (nil_lit _) ?hBz ?hB0 (lit_append _ _) ?hRz hM hMz ?hXs
    case hX => rw [lit_size]; rfl
    case hXz => rw [lit_size]; show 8 < 1000; decide
    case hI0 => intro i hi; exact lit_at (n := 0) (by omega) rfl
    case hI1 => intro i hi; exact lit_at (n := 1) (by omega) rfl
    case hI2 => intro i hi; exact lit_at (n := 4) (by omega) rfl
    case hI3 => intro i hi; exact lit_at (n := 5) (by omega) rfl
    case hI4 => intro i hi; exact lit_at (n := 6) (by omega) rfl
    case hI5 => intro i hi; exact lit_at (n := 7) (by omega) rfl
    case hY1 => intro h i hi; exact lit_at (n := 2) (by omega) rfl
    case hY2 => intro h i hi; exact lit_at (n := 3) (by omega) rfl
    case hL0 => intro i j hi hj; rw [of_x]; exact lit_slice (a := 0) (b := 1) hi hj (by decide) (by show 1 ≤ 8; decide) rfl
    case hLB => intro h i j hi hj; exact lit_slice (a := 2) (b := 4) (by omega) (by omega) (by decide) (by show 4 ≤ 8; decide) rfl
    case hLC => intro i j hi hj; exact lit_slice (a := 5) (b := 7) (by omega) (by omega) (by decide) (by show 7 ≤ 8; decide) rfl
    case y1a => exact nq_98
    case y1b => rw [of_bs1]; exact one_ne (by decide)
    case y1c => rw [of_pc]; exact one_ne (by decide)
    case y2a => exact nq_48
    case y2b => rw [of_bs1]; exact one_ne (by decide)
    case y2c => rw [of_pc]; exact one_ne (by decide)
    case hBz => rw [lit_size]; show 2 < 1000; decide
    case hB0 => intro h; omega
    case hRz => rw [lit_size]; show 4 < 1000; decide
    case hXs => show ∀ y ∈ ([120, 58] ++ [98, 48] ++ [92] ++ [c] ++ [98, 32]), y < 256; intro y hy; simp only [List.mem_append, List.mem_cons, List.not_mem_nil, or_false, or_assoc] at hy; omega
end Mine
-- part Q0
namespace Mine
open PySem.Calls
/-- the law's own body and names, read off the row -/
def lawDef : List Stmt × Scope := match PySem.Challenge.rw_be5035_01.row.prog.main.body.getLast? with
  | some (.FunctionDef _ _ b _ _ _ sc _ _ _) => (b, sc)
  | _ => ([], default)
def loopBody : List Stmt := match lawDef.1 with
  | [_, _, _, _, .For _ _ b _ _, _] => b
  | _ => []
def turn1 : List Stmt := match loopBody with
  | _ :: _ :: _ :: _ :: _ :: t => t
  | _ => []
def turn0a : List Stmt := match loopBody with
  | _ :: a :: b :: c :: d :: _ => [a, b, c, d]
  | _ => []
def turn0 : List Stmt := match loopBody with
  | _ :: t => t
  | _ => []
def if1 : Stmt := match turn1 with
  | a :: _ => a
  | _ => default
def turn2 : List Stmt := match turn1 with
  | _ :: t => t
  | _ => []
def turn2a : List Stmt := match turn2 with
  | a :: b :: c :: _ => [a, b, c]
  | _ => []
def turn3 : List Stmt := match turn2 with
  | _ :: _ :: _ :: t => t
  | _ => []
def lawScope : Scope := lawDef.2
abbrev lawA (dp un : Nat) (gd : Option (List Code)) (L a : Addr) (ccd : Value) : Around := ktrTop dp un gd (Str.ofString "law") lawScope L a ccd [] []
abbrev lawEnv (L a : Addr) (ccd : Value) : Env := envX (Str.ofString "law") lawScope L a ccd []
/-- the law's frame behind the turn's picks -/
abbrev picked (al bl dl : List Nat) (c : Nat) (z : Int) (px : Addr) (t1 t2 t3 t4 t5 : Tok) (m0 : Str → Option Value) : Str → Option Value := fun y =>
  if y = Str.ofString "delim" then some (Value.str ⟨dl.toArray⟩ t3)
  else if y = Str.ofString "behind" then some (Value.str ⟨bl.toArray⟩ t2)
  else if y = Str.ofString "ahead" then some (Value.str ⟨al.toArray⟩ t1)
  else if y = Str.ofString "sign" then some (Value.str ⟨#[c]⟩ t4)
  else if y = Str.ofString "number" then some (Value.int z t5)
  else if y = Str.ofString "parser" then some (Value.ref px)
  else m0 y
theorem fr_stored {names : List Str} {h₀ h : Heap} {L : Addr} {m F : Str → Option Value} (H : Fr h₀ L h F) (e : ∀ y, names.contains y = false → F y = m y) : Fr h₀ L h (fun y => if names.contains y = true then F y else m y) := by
  have : (fun y => if names.contains y = true then F y else m y) = F := by
    funext y
    cases q : names.contains y with
    | true => simp
    | false => simp [e y q]
  rw [this]; exact H
theorem N_front1 {h₀ h : Heap} {L : Addr} {x p q : Addr × Obj} {news : List (Addr × Obj)} (N : News h₀ L h (x :: p :: q :: news)) : News h₀ L h (p :: q :: x :: news) :=
  cb_drop N fun r hr => by
    simp only [List.mem_cons] at hr ⊢
    rcases hr with h | h | h | h <;> simp [h]
theorem N_front3 {h₀ h : Heap} {L : Addr} {x y z p q : Addr × Obj} {news : List (Addr × Obj)} (N : News h₀ L h (x :: y :: z :: p :: q :: news)) : News h₀ L h (p :: q :: x :: y :: z :: news) :=
  cb_drop N fun r hr => by
    simp only [List.mem_cons] at hr ⊢
    rcases hr with h | h | h | h | h | h <;> simp [h]
open PyProof.V PySem.Spec
def n3D : List (PyData × PyData) := [(.str (Str.ofString "a"), .str (Str.ofString "\x07")), (.str (Str.ofString "b"), .str (Str.ofString "\x08")), (.str (Str.ofString "f"), .str (Str.ofString "\x0c")), (.str (Str.ofString "n"), .str (Str.ofString "\n")), (.str (Str.ofString "r"), .str (Str.ofString "\r")), (.str (Str.ofString "t"), .str (Str.ofString "\t")), (.str (Str.ofString "v"), .str (Str.ofString "\x0b")), (.str (Str.ofString "\\"), .str (Str.ofString "\\")), (.str (Str.ofString "\""), .str (Str.ofString "\"")), (.str (Str.ofString "'"), .str (Str.ofString "'"))]
def ntD : List (PyData × PyData) := [(.str (Str.ofString "b"), .str (Str.ofString "\x08")), (.str (Str.ofString "f"), .str (Str.ofString "\x0c")), (.str (Str.ofString "n"), .str (Str.ofString "\n")), (.str (Str.ofString "r"), .str (Str.ofString "\r")), (.str (Str.ofString "t"), .str (Str.ofString "\t")), (.str (Str.ofString "\\"), .str (Str.ofString "\\")), (.str (Str.ofString "\""), .str (Str.ofString "\"")), (.str (Str.ofString "'"), .str (Str.ofString "'"))]
def ntKeys : List Nat := ntTab.map (·.1)
theorem n3_isSome : ∀ c, c < 256 → (lookup (.str ⟨#[c]⟩) n3D).isSome = decide (c ∈ n3Keys) := by decide +kernel
theorem nt_isSome : ∀ c, c < 256 → (lookup (.str ⟨#[c]⟩) ntD).isSome = decide (c ∈ ntKeys) := by decide +kernel
theorem n3_look {c r : Nat} (h : (c, r) ∈ n3Tab) : lookup (.str ⟨#[c]⟩) n3D = some (.str ⟨#[r]⟩) := by
  simp only [n3Tab, List.mem_cons, Prod.mk.injEq, List.not_mem_nil, or_false] at h
  rcases h with ⟨rfl, rfl⟩ | ⟨rfl, rfl⟩ | ⟨rfl, rfl⟩ | ⟨rfl, rfl⟩ | ⟨rfl, rfl⟩ | ⟨rfl, rfl⟩ | ⟨rfl, rfl⟩ | ⟨rfl, rfl⟩ | ⟨rfl, rfl⟩ | ⟨rfl, rfl⟩ <;> kernel_rfl!
theorem nt_look {c r : Nat} (h : (c, r) ∈ ntTab) : lookup (.str ⟨#[c]⟩) ntD = some (.str ⟨#[r]⟩) := by
  simp only [ntTab, List.mem_cons, Prod.mk.injEq, List.not_mem_nil, or_false] at h
  rcases h with ⟨rfl, rfl⟩ | ⟨rfl, rfl⟩ | ⟨rfl, rfl⟩ | ⟨rfl, rfl⟩ | ⟨rfl, rfl⟩ | ⟨rfl, rfl⟩ | ⟨rfl, rfl⟩ | ⟨rfl, rfl⟩ <;> kernel_rfl!
theorem n3_of {c : Nat} (h : c ∈ n3Keys) : ∃ r, (c, r) ∈ n3Tab := by
  obtain ⟨⟨a, r⟩, hm, rfl⟩ := List.mem_map.mp h
  exact ⟨r, hm⟩
theorem nt_of {c : Nat} (h : c ∈ ntKeys) : ∃ r, (c, r) ∈ ntTab := by
  obtain ⟨⟨a, r⟩, hm, rfl⟩ := List.mem_map.mp h
  exact ⟨r, hm⟩
section
variable {prog : Program} {w : World} {A : Around} {E : Value → Shared → Prop} {s : Shared} {d : Addr} {D D' : List (PyData × PyData)} {x y : Str} {t : Tok}
theorem in_tabX {b : Bool} {Q : Value → Shared → Prop} (T : StrTab prog w s.heap d D) (e : D = D') (hb : (lookup (.str x) D').isSome = b) (h : Q (.bool b) { s with toks := s.toks + 1 }) :
    wpAny (model prog w) A (compareOp .In (.str x t) (.ref d)) Q E s := by
  subst e hb
  exact in_strTab T h
theorem getItem_tabX {Q : Value → Shared → Prop} (T : StrTab prog w s.heap d D) (e : D = D') (hl : lookup (.str x) D' = some (.str y)) (h : ∀ t, Q (.str y t) { s with toks := s.toks + 1 }) :
    wpAny (model prog w) A (getItem (.ref d) (.str x t)) Q E s := by
  subst e
  refine getItem_tab same_str (strKind_is _ _ _ _) T hl (fun v hv => ?_)
  obtain ⟨t, rfl⟩ := Flat.str_inv hv
  exact h t
end
section
variable {prog : Program} {w : World} {A : Around} {E : Value → Shared → Prop} {s : Shared} {h₀ : Heap} {L D D2 : Addr} {news : List (Addr × Obj)}
theorem ne_pair {n : Int} {u u2 t t2 : Tok} {x : Str} {Q : Value → Shared → Prop} (hx : PyData.strOk x = true) (N : News h₀ L s.heap news) (h1 : (D, ({ cls := .type "tuple", data := .seq #[.int n u, .str x t] } : Obj)) ∈ news) (h2 : (D2, ({ cls := .type "tuple", data := .seq #[.int n u2, .str x t2] } : Obj)) ∈ news) (hu : A.units + 64 < cLine) (h : Q (.bool false) s) :
    wpAny (model prog w) A (compareOp .NotEq (.ref D) (.ref D2)) Q E s := by
  refine ne_dataH (reads_tuple_at (N.get h1) rfl rfl (.cons (.int _ _) (.cons (.str _ _) .nil))) (reads_tuple_at (N.get h2) rfl rfl (.cons (.int _ _) (.cons (.str _ _) .nil))) ?_ ?_ hu ?_
  · simp [hx, SeqAt.shaped, PyData.canLay0, PyData.canLayAll0, PyData.depth, PyData.depthAll]
  · simp [hx, SeqAt.shaped, PyData.canLay0, PyData.canLayAll0, PyData.depth, PyData.depthAll]
  · have e : PyData.eqv (.tuple [.int n, .str x]) (.tuple [.int n, .str x]) = true := by simp [PyData.eqv, PyData.eqvAll]
    rw [e]; exact h
theorem ne_found {n : Int} {u u2 t t2 t3 t4 : Tok} {x y : Str} {fl fl2 tp tp2 : Addr} {nl nl2 : Nat} {Q : Value → Shared → Prop} (hx : PyData.strOk x = true) (hy : PyData.strOk y = true) (N : News h₀ L s.heap news) (h1 : (D, ({ cls := .type "tuple", data := .seq #[.int n u, .ref fl] } : Obj)) ∈ news) (h2 : (fl, ({ cls := .type "list", data := .seq #[.ref tp] nl } : Obj)) ∈ news) (h3 : (tp, ({ cls := .type "tuple", data := .seq #[.str x t, .str y t2] } : Obj)) ∈ news)
    (g1 : (D2, ({ cls := .type "tuple", data := .seq #[.int n u2, .ref fl2] } : Obj)) ∈ news) (g2 : (fl2, ({ cls := .type "list", data := .seq #[.ref tp2] nl2 } : Obj)) ∈ news) (g3 : (tp2, ({ cls := .type "tuple", data := .seq #[.str x t3, .str y t4] } : Obj)) ∈ news) (hu : A.units + 64 < cLine) (h : Q (.bool false) s) :
    wpAny (model prog w) A (compareOp .NotEq (.ref D) (.ref D2)) Q E s := by
  refine ne_dataH (reads_tuple_at (N.get h1) rfl rfl (.cons (.int _ _) (.cons (reads_list_at (N.get h2) rfl rfl (.cons (reads_tuple_at (N.get h3) rfl rfl (.cons (.str _ _) (.cons (.str _ _) .nil))) .nil)) .nil)))
    (reads_tuple_at (N.get g1) rfl rfl (.cons (.int _ _) (.cons (reads_list_at (N.get g2) rfl rfl (.cons (reads_tuple_at (N.get g3) rfl rfl (.cons (.str _ _) (.cons (.str _ _) .nil))) .nil)) .nil))) ?_ ?_ hu ?_
  · simp [hx, hy, SeqAt.shaped, PyData.canLay0, PyData.canLayAll0, PyData.depth, PyData.depthAll]
  · simp [hx, hy, SeqAt.shaped, PyData.canLay0, PyData.canLayAll0, PyData.depth, PyData.depthAll]
  · have e : PyData.eqv (.tuple [.int n, .list [.tuple [.str x, .str y]]]) (.tuple [.int n, .list [.tuple [.str x, .str y]]]) = true := by simp [PyData.eqv, PyData.eqvAll]
    rw [e]; exact h
end
theorem strOk_of {l : List Nat} (h : ∀ z ∈ l, z < 256) : PyData.strOk ⟨l.toArray⟩ = true := by
  simp only [PyData.strOk, List.all_toArray, List.all_eq_true, decide_eq_true_eq]
  exact fun z hz => Nat.lt_trans (h z hz) (by decide)
theorem n3_lt {c r : Nat} (h : (c, r) ∈ n3Tab) : c < 256 ∧ r < 256 := by
  have e : (n3Tab.all fun p => p.1 < 256 && p.2 < 256) = true := by decide
  have := List.all_eq_true.mp e _ h
  simpa using this
theorem picked_more {names : List Str} {al bl dl : List Nat} {c : Nat} {z : Int} {px : Addr} {t1 t2 t3 t4 t5 : Tok} {m0 u : Str → Option Value} {h₀ h : Heap} {L : Addr}
    (hn : ([Str.ofString "delim", Str.ofString "behind", Str.ofString "ahead", Str.ofString "sign", Str.ofString "number", Str.ofString "parser"].all fun y => !names.contains y) = true)
    (F : Fr h₀ L h (fun y => if names.contains y = true then u y else picked al bl dl c z px t1 t2 t3 t4 t5 m0 y)) : Fr h₀ L h (picked al bl dl c z px t1 t2 t3 t4 t5 (fun y => if names.contains y = true then u y else m0 y)) := by
  have e : (fun y => if names.contains y = true then u y else picked al bl dl c z px t1 t2 t3 t4 t5 m0 y) = picked al bl dl c z px t1 t2 t3 t4 t5 (fun y => if names.contains y = true then u y else m0 y) := by
    funext y
    simp only [List.all_cons, List.all_nil, Bool.and_true, Bool.and_eq_true, Bool.not_eq_true'] at hn
    obtain ⟨n1, n2, n3, n4, n5, n6⟩ := hn
    unfold picked
    by_cases e1 : y = Str.ofString "delim"
    · simp only [e1, n1, if_true, Bool.false_eq_true, if_false]
    by_cases e2 : y = Str.ofString "behind"
    · simp only [e2, n2, if_true, Bool.false_eq_true, if_false]
    by_cases e3 : y = Str.ofString "ahead"
    · simp only [e3, n3, if_true, Bool.false_eq_true, if_false]
    by_cases e4 : y = Str.ofString "sign"
    · simp only [e4, n4, if_true, Bool.false_eq_true, if_false]
    by_cases e5 : y = Str.ofString "number"
    · simp only [e5, n5, if_true, Bool.false_eq_true, if_false]
    by_cases e6 : y = Str.ofString "parser"
    · simp only [e6, n6, if_true, Bool.false_eq_true, if_false]
    simp only [if_neg e1, if_neg e2, if_neg e3, if_neg e4, if_neg e5, if_neg e6]
  rw [← e]; exact F
theorem hit_nt : ∀ c, c < 256 → hit c = decide (c ∈ ntKeys) := by decide +kernel
theorem nt92 : 92 ∈ ntKeys := by decide
theorem txt_eq (al : List Nat) (c : Nat) (bl : List Nat) : (al ++ [92] ++ [c] ++ bl).toArray = txt al c bl := by simp [txt]
theorem behind_len {l : List Nat} (h : l ∈ behindTab) : l.length ≤ 3 := by
  have e : (behindTab.all fun l => decide (l.length ≤ 3)) = true := by decide
  exact of_decide_eq_true (List.all_eq_true.mp e l h)
theorem esc_bad (w : World) (al bl : List Nat) (c : Nat) (t : Tok) (news : List (Addr × Obj)) (ha : al ∈ aheadTab) (hb : bl ∈ behindTab) (hc : c < 256) (hn : c ∉ ntKeys) :
    Asked w 5 179 [.str ⟨(al ++ [92] ++ [c] ++ bl).toArray⟩ t] news
      (fun h₀ L m s Q => ∀ t' h' tk', Fr h₀ L h' m → News h₀ L h' news → Q (.str ⟨(al ++ [92] ++ [c] ++ bl).toArray⟩ t') { s with heap := h', toks := tk' }) := by
  rw [txt_eq]
  have h1 := (calmA ha).len
  exact decode_bad w t al bl c news (calmA ha).n92 (calmB hb).n92 (by omega) (behind_len hb) (by rw [hit_nt c hc]; exact decide_eq_false hn) (by rintro rfl; exact hn nt92)
theorem esc_good (w : World) (al bl : List Nat) (c r : Nat) (t : Tok) (news : List (Addr × Obj)) (ha : al ∈ aheadTab) (hb : bl ∈ behindTab) (hr : (c, r) ∈ ntTab) :
    Asked w 5 179 [.str ⟨(al ++ [92] ++ [c] ++ bl).toArray⟩ t] news
      (fun h₀ L m s Q => ∀ t' h' tk', Fr h₀ L h' m → News h₀ L h' news → Q (.str ⟨(al ++ [r] ++ bl).toArray⟩ t') { s with heap := h', toks := tk' }) := by
  rw [txt_eq, show al ++ [r] ++ bl = al ++ r :: bl by simp]
  have h1 := (calmA ha).len
  exact decode_good w t al bl c r news (calmA ha).n92 (calmB hb).n92 (by omega) (behind_len hb) hr
theorem N_front4 {h₀ h : Heap} {L : Addr} {x y z v p q : Addr × Obj} {news : List (Addr × Obj)} (N : News h₀ L h (x :: y :: z :: v :: p :: q :: news)) : News h₀ L h (p :: q :: x :: y :: z :: v :: news) :=
  cb_drop N fun r hr => by
    simp only [List.mem_cons] at hr ⊢
    rcases hr with h | h | h | h | h | h | h <;> simp [h]
theorem name_good2 (w : World) (px pd : Addr) (T : Nat → Tok) (v0 v6 v8 v9 v10 v13 : Value) (be : List Nat) (c : Nat) (t : Tok) (news : List (Addr × Obj)) (hb : be ∈ nameTab) (hc256 : c < 256) (hc : c ∈ freedTab) :
    Asked0 w 20 235 [.ref px, .str ⟨(120 :: 58 :: (be ++ [92] ++ [c] ++ [98, 32])).toArray⟩ t] ((px, instObj 135 pd) :: (pd, dictOf (parserEs w.params T v0 v6 v8 v9 v10 v13) 15) :: news)
      (fun h₀ L m s Q => ∀ D fl tp T' T'' h' tk' u nl, Fr h₀ L h' m → News h₀ L h' ((D, { cls := .type "tuple", data := .seq #[.int (((120 :: 58 :: (be ++ [92] ++ [c] ++ [98, 32])).length : Int) - 1) u, .ref fl] }) :: (tp, { cls := .type "tuple", data := .seq #[.str (Str.ofString "x") T', .str ⟨(be ++ [c] ++ [98]).toArray⟩ T''] }) :: (fl, { cls := .type "list", data := .seq #[.ref tp] nl }) :: (px, instObj 135 pd) :: (pd, dictOf (parserEs w.params T v0 v6 v8 v9 v10 v13) 15) :: news) → Q (.ref D) { s with heap := h', toks := tk' }) := by
  intro dp un gd cn cs a ccd A₀ base h₀ L m s Q E p loose mean mg mb hB hF hK hN hT hk hdp hun hKB hTB hret
  exact name_any w px pd T v0 v6 v8 v9 v10 v13 be c true t news hb hc256 (decide_eq_true hc) dp un gd cn cs a ccd A₀ base h₀ L m s Q E p loose mean mg mb hB hF hK hN hT hk hdp hun hKB hTB ⟨fun _ => hret, (fun h => nomatch h)⟩
theorem name_bad2 (w : World) (px pd : Addr) (T : Nat → Tok) (v0 v6 v8 v9 v10 v13 : Value) (be : List Nat) (c : Nat) (t : Tok) (news : List (Addr × Obj)) (hb : be ∈ nameTab) (hc256 : c < 256) (hc : c ∉ freedTab) :
    Asked0 w 20 235 [.ref px, .str ⟨(120 :: 58 :: (be ++ [92] ++ [c] ++ [98, 32])).toArray⟩ t] ((px, instObj 135 pd) :: (pd, dictOf (parserEs w.params T v0 v6 v8 v9 v10 v13) 15) :: news)
      (fun h₀ L m s Q => ∀ h' tk', Fr h₀ L h' m → News h₀ L h' ((px, instObj 135 pd) :: (pd, dictOf (parserEs w.params T v0 v6 v8 v9 v10 v13) 15) :: news) → Q .none { s with heap := h', toks := tk' }) := by
  intro dp un gd cn cs a ccd A₀ base h₀ L m s Q E p loose mean mg mb hB hF hK hN hT hk hdp hun hKB hTB hret
  exact name_any w px pd T v0 v6 v8 v9 v10 v13 be c false t news hb hc256 (decide_eq_false hc) dp un gd cn cs a ccd A₀ base h₀ L m s Q E p loose mean mg mb hB hF hK hN hT hk hdp hun hKB hTB ⟨(fun h => nomatch h), fun _ => hret⟩
theorem strOk_x : PyData.strOk (Str.ofString "x") = true := by kernel_rfl!
end Mine
-- part Q1
namespace Mine
open PySem.Calls
local macro_rules | `(tactic| walk_at "compareOp NotEq str str") => `(tactic| (k_here; (with_reducible show wpAny _ _ (compareOp CmpOp.NotEq (Value.str ⟨#[_]⟩ _) _) _ _ _); first | refine ne_t (by assumption) ?_ | refine ne_f (by assumption) ?_))
local macro_rules | `(tactic| walk_at "binaryOp Add str str") => `(tactic| (k_here; k_extra "add"))
local macro_rules | `(tactic| walk_at "call builtin:len") => `(tactic| (k_here; (with_reducible show wpAny _ _ (call (Value.builtin "len") [Value.str _ _]) _ _ _); k_extra "len"))
local macro_rules | `(tactic| walk_at "compareOp In str ref") => `(tactic| (k_here; k_dflt (k_extra "isin")))
local macro_rules | `(tactic| walk_at "getItem ref str") => `(tactic| (k_here; k_dflt (k_extra "item")))
local macro_rules | `(tactic| walk_at "callWith ref") => `(tactic| (k_here; (with_reducible show wpAny _ _ (callWith _ (Value.ref _) [] (backTo _ (starEach [] _)) []) _ _ _); k_extra "cw"))
local macro_rules | `(tactic| walk_at "call ref") => `(tactic| (k_here; (with_reducible show wpAny _ _ (call (Value.ref _) [] _) _ _ _); k_dflt (refine wpAny_call ?_; refine' code_def ?k1 ?k2 ?k3 ?k4 ?k5 ?kA ?kF ?kK ?k6 ?k7 ?k8 ?k9 ?kB ?_ ?c2 ?c3 ?c4 ?c5; (case kA => exact rfl); (case kF => exact rfl); (case kK => exact rfl); (case k1 => k_asm); (case k2 => k_asm); (case k3 => k_asm); (case k4 => k_asm); (case k5 => k_asm); (case k6 => k_is); (case k7 => k_is); (case k8 => ktr_room); (case k9 => first | exact BindsTo.of_eq rfl | exact binds_K (by k_in) rfl (by k_is) rfl rfl rfl); (case c5 => decide); (case kB => exact locs rfl); (case c2 => exact rfl); (case c3 => exact rfl); (case c4 => exact rfl); k_whole; intro g' L' h' FG' F' N' B' X' T'; (try dsimp only); (try k_lift B'); (try k_fold))))
local macro_rules | `(tactic| walk_at "call ref") => `(tactic| (k_here; (with_reducible show wpAny _ _ (call (Value.ref 228) _) _ _ _); k_extra "call228"))
local macro_rules | `(tactic| walk_at "compareOp NotEq ref ref") => `(tactic| (k_here; k_dflt (k_extra "ne")))
theorem seg1 (w : World) (px pd : Addr) (T : Nat → Tok) (v0 v6 v8 v9 v10 v13 : Value) (al bl dl : List Nat) (c : Nat) (z : Int) (t1 t2 t3 t4 t5 : Tok) (m0 : Str → Option Value) (news : List (Addr × Obj)) (ha : al ∈ aheadTab) (hb : bl ∈ behindTab) (hdl : dl ∈ opensTab) (hc : c < 256) :
    ∀ (dp un : Nat) (gd : Option (List Code)) (a : Addr) (ccd : Value) (A₀ : Around) (base h₀ : Heap) (L : Addr) (s : Shared) (Q : Flow → Shared → Prop) (E : Value → Shared → Prop)
      (p : Program) (loose : List Str) (mean : ExcName → Option Value) (mg mb : Str → Option Value),
      Below A₀ base [] h₀ → Fr h₀ L s.heap (picked al bl dl c z px t1 t2 t3 t4 t5 m0) → (hd.heap_39 w.params).In h₀ → News h₀ L s.heap ((px, instObj 135 pd) :: (pd, dictOf (parserEs w.params T v0 v6 v8 v9 v10 v13) 15) :: news) → Top p loose mean mg mb h₀ → dp + 30 < recursionLimit → un + 400 < cLine → (hd.heap_39 w.params).In base → Top p loose mean mg mb base →
      (∀ h' tk' (u : Str → Option Value), Fr h₀ L h' (fun y => if [Str.ofString "text", Str.ofString "due"].contains y = true then u y else picked al bl dl c z px t1 t2 t3 t4 t5 m0 y) → News h₀ L h' ((px, instObj 135 pd) :: (pd, dictOf (parserEs w.params T v0 v6 v8 v9 v10 v13) 15) :: news) → Q .next { s with heap := h', toks := tk' }) →
      wpAny (model PySem.Challenge.rw_be5035_01.row.prog w) (lawA dp un gd L a ccd) (exec if1 (lawEnv L a ccd)) Q E s := by
  k_fill
  w_top off
  k_with_none
  have hA := small_len (T := aheadTab) (by decide) ha
  have hB := small_len (T := behindTab) (by decide) hb
  have hD := small_len (T := opensTab) (by decide) hdl
  intro dp un gd a ccd A₀ base h₀ L s Q E p loose mean mg mb hBel hF hK hN hT hdp hun hKB hTB hret
  unfold lawA lawEnv
  unfold picked at hF hret
  conv in if1 => whnf
  have sc : lawScope = lawScope := rfl
  conv at sc => rhs; whnf
  rw [sc]
  clear sc
  by_cases c3 : c ∈ n3Keys
  case pos =>
    have u1 : ((⟨#[c]⟩ : Str) == Str.ofString "u") = false := by rw [of_u]; exact one_ne (by rintro rfl; revert c3; decide)
    have u2 : ((⟨#[c]⟩ : Str) == Str.ofString "U") = false := by rw [of_U]; exact one_ne (by rintro rfl; revert c3; decide)
    obtain ⟨r, hr⟩ := n3_of c3
    have hok : PyData.strOk ⟨(al ++ [r] ++ bl).toArray⟩ = true := strOk_of (by
      simp only [List.mem_append, List.mem_cons, List.not_mem_nil, or_false]
      rintro z ((h | rfl) | h)
      · exact (calmA ha).lt z h
      · exact (n3_lt hr).2
      · exact (calmB hb).lt z h)
    k_with_none
    k_with "add" => (first
      | (refine add_l (by simp only [List.length_append, List.length_cons, List.length_nil]; omega) ?_; intro _ _) | (refine add_r ofBs (by simp only [List.length_append, List.length_cons, List.length_nil]; omega) ?_; intro _ _))
    k_with "cw" => (refine' callWith_K0 (K := hd.heap_39 w.params) ?k1 ?k2 ?_; (case k1 => exact Frag.In.keeps hK (Fr.keep (by k_asm))); (case k2 => k_is); (try dsimp only [List.nil_append]))
    k_with "len" => (refine len_l (by simp only [List.length_append, List.length_cons, List.length_nil]; omega) ?_; intro _ _)
    k_with "isin" => (refine in_tabX (b := true) (D' := n3D) (by k_tabat) (by rfl) (by rw [n3_isSome c hc]; exact decide_eq_true c3) ?_)
    k_with "item" => (refine getItem_tabX (D' := n3D) (by k_tabat) (by rfl) (n3_look hr) ?_; intro _)
    k_with "call228" => (with_unfolding_all refine' string_good w px pd T v0 v6 v8 v9 v10 v13 al bl dl c r _ _ _ ha hb hdl hr _ _ _ _ _ _ _ [] _ _ _ _ _ _ _ _ _ _ _ _ _ _ ?k1 ?k2 ?k3 ?k4 ?k5 ?kK ?kd ?ku ?kR; (case k1 => k_asm); (case k2 => k_asm); (case k3 => k_asm); (case k4 => exact N_front3 (by k_asm)); (case k5 => k_asm); (case kK => rfl); (case kd => (show dp + 20 < recursionLimit); omega); (case ku => (show un + 10 * 20 < cLine); omega); intro D' T' h' k' u' F' N')
    k_with "ne" => (refine ne_pair hok (by k_asm) (by k_mem) (by k_mem) (by (show un + 64 < cLine); omega) ?_)
    k_steps
    all_goals (refine hret _ _ _ (fr_stored (by k_asm) ?_) (cb_drop (by assumption) ?_))
    all_goals first | (intro q hq; (rcases List.mem_cons.mp hq with e | hq); (rw [e]; k_mem); (rcases List.mem_cons.mp hq with e | hq); (rw [e]; k_mem); (repeat (first | exact hq | refine List.Mem.tail _ ?_)); done) | (intro y hy; simp only [List.contains_cons, List.contains_nil, Bool.or_false, Bool.or_eq_false_iff, beq_eq_false_iff_ne] at hy; simp only [if_neg hy.1, if_neg hy.2])
  case neg =>
    by_cases cu : c = 117
    · have u1 : ((⟨#[c]⟩ : Str) == Str.ofString "u") = true := by rw [of_u, cu]; exact one_eq _
      k_with_none
      k_steps
      all_goals (refine hret _ _ _ (fr_stored (by k_asm) ?_) (cb_drop (by assumption) ?_))
      all_goals first | (intro q hq; (rcases List.mem_cons.mp hq with e | hq); (rw [e]; k_mem); (rcases List.mem_cons.mp hq with e | hq); (rw [e]; k_mem); (repeat (first | exact hq | refine List.Mem.tail _ ?_)); done) | (intro y hy; simp only [List.contains_cons, List.contains_nil, Bool.or_false, Bool.or_eq_false_iff, beq_eq_false_iff_ne] at hy; simp only [if_neg hy.1, if_neg hy.2])
    by_cases cU : c = 85
    · have u1 : ((⟨#[c]⟩ : Str) == Str.ofString "u") = false := by rw [of_u]; exact one_ne cu
      have u2 : ((⟨#[c]⟩ : Str) == Str.ofString "U") = true := by rw [of_U, cU]; exact one_eq _
      k_with_none
      k_steps
      all_goals (refine hret _ _ _ (fr_stored (by k_asm) ?_) (cb_drop (by assumption) ?_))
      all_goals first | (intro q hq; (rcases List.mem_cons.mp hq with e | hq); (rw [e]; k_mem); (rcases List.mem_cons.mp hq with e | hq); (rw [e]; k_mem); (repeat (first | exact hq | refine List.Mem.tail _ ?_)); done) | (intro y hy; simp only [List.contains_cons, List.contains_nil, Bool.or_false, Bool.or_eq_false_iff, beq_eq_false_iff_ne] at hy; simp only [if_neg hy.1, if_neg hy.2])
    have u1 : ((⟨#[c]⟩ : Str) == Str.ofString "u") = false := by rw [of_u]; exact one_ne cu
    have u2 : ((⟨#[c]⟩ : Str) == Str.ofString "U") = false := by rw [of_U]; exact one_ne cU
    k_with_none
    k_with "add" => (first
      | (refine add_l (by simp only [List.length_append, List.length_cons, List.length_nil]; omega) ?_; intro _ _) | (refine add_r ofBs (by simp only [List.length_append, List.length_cons, List.length_nil]; omega) ?_; intro _ _))
    k_with "cw" => (refine' callWith_K0 (K := hd.heap_39 w.params) ?k1 ?k2 ?_; (case k1 => exact Frag.In.keeps hK (Fr.keep (by k_asm))); (case k2 => k_is); (try dsimp only [List.nil_append]))
    k_with "isin" => (refine in_tabX (b := false) (D' := n3D) (by k_tabat) (by rfl) (by rw [n3_isSome c hc]; exact decide_eq_false c3) ?_)
    k_with "call228" => (with_unfolding_all refine' string_bad w px pd T v0 v6 v8 v9 v10 v13 al bl dl c _ _ _ ha hb hdl hc c3 cu cU _ _ _ _ _ _ _ _ _ _ _ _ _ _ _ _ _ _ _ _ ?jj1 ?jj2 ?jj3 ?jj4 ?jj5 ?jjK ?jjd ?jju ?jjX ?jjT ?jjR; (case jj1 => k_asm); (case jj2 => k_asm); (case jj3 => k_asm); (case jj4 => exact N_front1 (by k_asm)); (case jj5 => k_asm); (case jjK => rfl); (case jjd => (show dp + 20 < recursionLimit); omega); (case jju => (show un + 10 * 20 < cLine); omega); (case jjX => k_asm); (case jjT => k_asm); intro h' k' F' N')
    k_steps
    all_goals (refine hret _ _ _ (fr_stored (by k_asm) ?_) (cb_drop (by assumption) ?_))
    all_goals first | (intro q hq; (rcases List.mem_cons.mp hq with e | hq); (rw [e]; k_mem); (rcases List.mem_cons.mp hq with e | hq); (rw [e]; k_mem); (repeat (first | exact hq | refine List.Mem.tail _ ?_)); done) | (intro y hy; simp only [List.contains_cons, List.contains_nil, Bool.or_false, Bool.or_eq_false_iff, beq_eq_false_iff_ne] at hy; simp only [if_neg hy.1, if_neg hy.2])
end Mine
-- part Q2
namespace Mine
open PySem.Calls
local macro_rules | `(tactic| walk_at "binaryOp Add str str") => `(tactic| (k_here; k_extra "add"))
local macro_rules | `(tactic| walk_at "callWith ref") => `(tactic| (k_here; (with_reducible show wpAny _ _ (callWith _ (Value.ref _) [] (backTo _ (starEach [] _)) []) _ _ _); k_extra "cw"))
local macro_rules | `(tactic| walk_at "call ref") => `(tactic| (k_here; (with_reducible show wpAny _ _ (call (Value.ref _) [] _) _ _ _); k_dflt (refine wpAny_call ?_; refine' code_def ?k1 ?k2 ?k3 ?k4 ?k5 ?kA ?kF ?kK ?k6 ?k7 ?k8 ?k9 ?kB ?_ ?c2 ?c3 ?c4 ?c5; (case kA => exact rfl); (case kF => exact rfl); (case kK => exact rfl); (case k1 => k_asm); (case k2 => k_asm); (case k3 => k_asm); (case k4 => k_asm); (case k5 => k_asm); (case k6 => k_is); (case k7 => k_is); (case k8 => ktr_room); (case k9 => first | exact BindsTo.of_eq rfl | exact binds_K (by k_in) rfl (by k_is) rfl rfl rfl); (case c5 => decide); (case kB => exact locs rfl); (case c2 => exact rfl); (case c3 => exact rfl); (case c4 => exact rfl); k_whole; intro g' L' h' FG' F' N' B' X' T'; (try dsimp only); (try k_lift B'); (try k_fold))))
local macro_rules | `(tactic| walk_at "compareOp In str ref") => `(tactic| (k_here; k_dflt (k_extra "isin")))
local macro_rules | `(tactic| walk_at "getItem ref str") => `(tactic| (k_here; k_dflt (k_extra "item")))
local macro_rules | `(tactic| walk_at "compareOp NotEq str str") => `(tactic| (k_here; refine ne_f (beq_self_eq_true _) ?_))
local macro_rules | `(tactic| walk_at "call ref") => `(tactic| (k_here; (with_reducible show wpAny _ _ (call (Value.ref 179) _) _ _ _); k_extra "call179"))
theorem seg2 (w : World) (px pd : Addr) (T : Nat → Tok) (v0 v6 v8 v9 v10 v13 : Value) (al bl dl : List Nat) (c : Nat) (z : Int) (t1 t2 t3 t4 t5 : Tok) (m0 : Str → Option Value) (news : List (Addr × Obj)) (ha : al ∈ aheadTab) (hb : bl ∈ behindTab) (hdl : dl ∈ opensTab) (hc : c < 256) (rest : List Stmt) :
    ∀ (dp un : Nat) (gd : Option (List Code)) (a : Addr) (ccd : Value) (A₀ : Around) (base h₀ : Heap) (L : Addr) (s : Shared) (Q : Flow → Shared → Prop) (E : Value → Shared → Prop)
      (p : Program) (loose : List Str) (mean : ExcName → Option Value) (mg mb : Str → Option Value),
      Below A₀ base [] h₀ → Fr h₀ L s.heap (picked al bl dl c z px t1 t2 t3 t4 t5 m0) → (hd.heap_39 w.params).In h₀ → News h₀ L s.heap ((px, instObj 135 pd) :: (pd, dictOf (parserEs w.params T v0 v6 v8 v9 v10 v13) 15) :: news) → Top p loose mean mg mb h₀ → dp + 30 < recursionLimit → un + 400 < cLine → (hd.heap_39 w.params).In base → Top p loose mean mg mb base →
      (∀ h' tk' (u : Str → Option Value), Fr h₀ L h' (fun y => if [Str.ofString "told", Str.ofString "due"].contains y = true then u y else picked al bl dl c z px t1 t2 t3 t4 t5 m0 y) → News h₀ L h' ((px, instObj 135 pd) :: (pd, dictOf (parserEs w.params T v0 v6 v8 v9 v10 v13) 15) :: news) → wpAny (model PySem.Challenge.rw_be5035_01.row.prog w) (lawA dp un gd L a ccd) (execs rest (lawEnv L a ccd)) Q E { s with heap := h', toks := tk' }) →
      wpAny (model PySem.Challenge.rw_be5035_01.row.prog w) (lawA dp un gd L a ccd) (execs (turn2a ++ rest) (lawEnv L a ccd)) Q E s := by
  k_fill
  w_top off
  k_with_none
  have hA := small_len (T := aheadTab) (by decide) ha
  have hB := small_len (T := behindTab) (by decide) hb
  have hD := small_len (T := opensTab) (by decide) hdl
  intro dp un gd a ccd A₀ base h₀ L s Q E p loose mean mg mb hBel hF hK hN hT hdp hun hKB hTB hret
  unfold lawA lawEnv at hret ⊢
  unfold picked at hF hret
  have sc : lawScope = lawScope := rfl
  conv at sc => rhs; whnf
  rw [sc] at hret ⊢
  clear sc
  conv in turn2a => whnf
  simp only [List.cons_append, List.nil_append]
  by_cases cn : c ∈ ntKeys
  · obtain ⟨r, hr⟩ := nt_of cn
    k_with_none
    k_with "add" => (first
      | (refine add_l (by simp only [List.length_append, List.length_cons, List.length_nil]; omega) ?_; intro _ _) | (refine add_r ofBs (by simp only [List.length_append, List.length_cons, List.length_nil]; omega) ?_; intro _ _))
    k_with "cw" => (refine' callWith_K0 (K := hd.heap_39 w.params) ?k1 ?k2 ?_; (case k1 => exact Frag.In.keeps hK (Fr.keep (by k_asm))); (case k2 => k_is); (try dsimp only [List.nil_append]))
    k_with "isin" => (refine in_tabX (b := true) (D' := ntD) (by k_tabat) (by rfl) (by rw [nt_isSome c hc]; exact decide_eq_true cn) ?_)
    k_with "item" => (refine getItem_tabX (D' := ntD) (by k_tabat) (by rfl) (nt_look hr) ?_; intro _)
    k_with "call179" => (with_unfolding_all refine' esc_good w al bl c r _ _ ha hb hr _ _ _ _ _ _ _ [] _ _ _ _ _ _ _ _ _ _ _ _ _ _ ?a1 ?a2 ?a3 ?a4 ?a5 ?aK ?ad ?au ?aR; (case a1 => k_asm); (case a2 => k_asm); (case a3 => k_asm); (case a4 => k_asm); (case a5 => k_asm); (case aK => rfl); (case ad => (show dp + 5 < recursionLimit); omega); (case au => (show un + 10 * 5 < cLine); omega); intro t' h' k' F' N')
    k_steps
    all_goals (refine hret _ _ _ (fr_stored (by k_asm) ?_) (cb_drop (by assumption) ?_))
    all_goals first | (intro q hq; (rcases List.mem_cons.mp hq with e | hq); (rw [e]; k_mem); (rcases List.mem_cons.mp hq with e | hq); (rw [e]; k_mem); (repeat (first | exact hq | refine List.Mem.tail _ ?_)); done) | (intro y hy; simp only [List.contains_cons, List.contains_nil, Bool.or_false, Bool.or_eq_false_iff, beq_eq_false_iff_ne] at hy; simp only [if_neg hy.1, if_neg hy.2])
  · k_with_none
    k_with "add" => (first
      | (refine add_l (by simp only [List.length_append, List.length_cons, List.length_nil]; omega) ?_; intro _ _) | (refine add_r ofBs (by simp only [List.length_append, List.length_cons, List.length_nil]; omega) ?_; intro _ _))
    k_with "cw" => (refine' callWith_K0 (K := hd.heap_39 w.params) ?k1 ?k2 ?_; (case k1 => exact Frag.In.keeps hK (Fr.keep (by k_asm))); (case k2 => k_is); (try dsimp only [List.nil_append]))
    k_with "isin" => (refine in_tabX (b := false) (D' := ntD) (by k_tabat) (by rfl) (by rw [nt_isSome c hc]; exact decide_eq_false cn) ?_)
    k_with "call179" => (with_unfolding_all refine' esc_bad w al bl c _ _ ha hb hc cn _ _ _ _ _ _ _ [] _ _ _ _ _ _ _ _ _ _ _ _ _ _ ?b1 ?b2 ?b3 ?b4 ?b5 ?bK ?bd ?bu ?bR; (case b1 => k_asm); (case b2 => k_asm); (case b3 => k_asm); (case b4 => k_asm); (case b5 => k_asm); (case bK => rfl); (case bd => (show dp + 5 < recursionLimit); omega); (case bu => (show un + 10 * 5 < cLine); omega); intro t' h' k' F' N')
    k_steps
    all_goals (refine hret _ _ _ (fr_stored (by k_asm) ?_) (cb_drop (by assumption) ?_))
    all_goals first | (intro q hq; (rcases List.mem_cons.mp hq with e | hq); (rw [e]; k_mem); (rcases List.mem_cons.mp hq with e | hq); (rw [e]; k_mem); (repeat (first | exact hq | refine List.Mem.tail _ ?_)); done) | (intro y hy; simp only [List.contains_cons, List.contains_nil, Bool.or_false, Bool.or_eq_false_iff, beq_eq_false_iff_ne] at hy; simp only [if_neg hy.1, if_neg hy.2])
end Mine
-- part Q3
namespace Mine
open PySem.Calls
local macro_rules | `(tactic| walk_at "binaryOp Add str str") => `(tactic| (k_here; k_extra "add"))
local macro_rules | `(tactic| walk_at "callWith ref") => `(tactic| (k_here; (with_reducible show wpAny _ _ (callWith _ (Value.ref _) [] (backTo _ (starEach [] _)) []) _ _ _); k_extra "cw"))
local macro_rules | `(tactic| walk_at "call ref") => `(tactic| (k_here; (with_reducible show wpAny _ _ (call (Value.ref _) [] _) _ _ _); k_dflt (refine wpAny_call ?_; refine' code_def ?k1 ?k2 ?k3 ?k4 ?k5 ?kA ?kF ?kK ?k6 ?k7 ?k8 ?k9 ?kB ?_ ?c2 ?c3 ?c4 ?c5; (case kA => exact rfl); (case kF => exact rfl); (case kK => exact rfl); (case k1 => k_asm); (case k2 => k_asm); (case k3 => k_asm); (case k4 => k_asm); (case k5 => k_asm); (case k6 => k_is); (case k7 => k_is); (case k8 => ktr_room); (case k9 => first | exact BindsTo.of_eq rfl | exact binds_K (by k_in) rfl (by k_is) rfl rfl rfl); (case c5 => decide); (case kB => exact locs rfl); (case c2 => exact rfl); (case c3 => exact rfl); (case c4 => exact rfl); k_whole; intro g' L' h' FG' F' N' B' X' T'; (try dsimp only); (try k_lift B'); (try k_fold))))
local macro_rules | `(tactic| walk_at "subscriptTail") => `(tactic| (k_here; (with_reducible show wpAny _ _ (subscriptTail (Expr.Call (Expr.Name (Str.ofString "_law_NAME_AHEAD") _) _ _ _) _ (Value.ref _) (Value.int _ _)) _ _ _); refine pickN (by is_list) ?_; k_extra "picked"))
local macro_rules | `(tactic| walk_at "compareOp In str str") => `(tactic| (k_here; k_extra "instr"))
local macro_rules | `(tactic| walk_at "call builtin:len") => `(tactic| (k_here; (with_reducible show wpAny _ _ (call (Value.builtin "len") [Value.str _ _]) _ _ _); k_extra "len"))
local macro_rules | `(tactic| walk_at "call ref") => `(tactic| (k_here; (with_reducible show wpAny _ _ (call (Value.ref 235) _) _ _ _); k_extra "call235"))
local macro_rules | `(tactic| walk_at "compareOp NotEq ref ref") => `(tactic| (k_here; k_dflt (k_extra "ne")))
theorem freed_in : ∀ c, c < 256 → c ∈ freedTab → decide (c ∈ (Str.ofString "_~.-!$&'()*+,;=/?#@%").cps.toList) = true := by decide +kernel
theorem freed_out : ∀ c, c < 256 → c ∉ freedTab → decide (c ∈ (Str.ofString "_~.-!$&'()*+,;=/?#@%").cps.toList) = false := by decide +kernel
theorem strOk_name {be : List Nat} {c : Nat} (hb : be ∈ nameTab) (hc : c < 256) : PyData.strOk ⟨(be ++ [c] ++ [98]).toArray⟩ = true := strOk_of (by
  simp only [List.mem_append, List.mem_cons, List.not_mem_nil, or_false]
  rintro z ((h | rfl) | rfl)
  · exact (calmN hb).lt z h
  · exact hc
  · decide)
theorem seg3 (w : World) (px pd : Addr) (T : Nat → Tok) (v0 v6 v8 v9 v10 v13 : Value) (al bl dl : List Nat) (c : Nat) (z : Int) (t1 t2 t3 t4 t5 : Tok) (m0 : Str → Option Value) (news : List (Addr × Obj)) (ha : al ∈ aheadTab) (hb : bl ∈ behindTab) (hdl : dl ∈ opensTab) (hc : c < 256) :
    ∀ (dp un : Nat) (gd : Option (List Code)) (a : Addr) (ccd : Value) (A₀ : Around) (base h₀ : Heap) (L : Addr) (s : Shared) (Q : Flow → Shared → Prop) (E : Value → Shared → Prop)
      (p : Program) (loose : List Str) (mean : ExcName → Option Value) (mg mb : Str → Option Value),
      Below A₀ base [] h₀ → Fr h₀ L s.heap (picked al bl dl c z px t1 t2 t3 t4 t5 m0) → (hd.heap_39 w.params).In h₀ → News h₀ L s.heap ((px, instObj 135 pd) :: (pd, dictOf (parserEs w.params T v0 v6 v8 v9 v10 v13) 15) :: news) → Top p loose mean mg mb h₀ → dp + 30 < recursionLimit → un + 400 < cLine → (hd.heap_39 w.params).In base → Top p loose mean mg mb base →
      (∀ h' tk' (u : Str → Option Value), Fr h₀ L h' (fun y => if [Str.ofString "before", Str.ofString "text", Str.ofString "due"].contains y = true then u y else picked al bl dl c z px t1 t2 t3 t4 t5 m0 y) → News h₀ L h' ((px, instObj 135 pd) :: (pd, dictOf (parserEs w.params T v0 v6 v8 v9 v10 v13) 15) :: news) → Q .next { s with heap := h', toks := tk' }) →
      wpAny (model PySem.Challenge.rw_be5035_01.row.prog w) (lawA dp un gd L a ccd) (execs turn3 (lawEnv L a ccd)) Q E s := by
  k_fill
  w_top off
  k_with_none
  have hA := small_len (T := aheadTab) (by decide) ha
  have hB := small_len (T := behindTab) (by decide) hb
  have hD := small_len (T := opensTab) (by decide) hdl
  intro dp un gd a ccd A₀ base h₀ L s Q E p loose mean mg mb hBel hF hK hN hT hdp hun hKB hTB hret
  unfold lawA lawEnv
  unfold picked at hF hret
  have sc : lawScope = lawScope := rfl
  conv at sc => rhs; whnf
  rw [sc]
  clear sc
  conv in turn3 => whnf
  by_cases cf : c ∈ freedTab
  · k_with_none
    k_with "picked" => (intro be tb hbe; have hbl := small_len (by decide) hbe)
    k_with "add" => (first
      | (refine add_l (by simp only [List.length_append, List.length_cons, List.length_nil]; omega) ?_; intro _ _) | (refine add_r ofBs (by simp only [List.length_append, List.length_cons, List.length_nil]; omega) ?_; intro _ _) | (refine add_r ofBb (by simp only [List.length_append, List.length_cons, List.length_nil]; omega) ?_; intro _ _) | (refine add_r ofB (by simp only [List.length_append, List.length_cons, List.length_nil]; omega) ?_; intro _ _) | (refine add_x ofX (by simp only [List.length_append, List.length_cons, List.length_nil]; omega) ?_; intro _ _))
    k_with "len" => (refine len_l (by simp only [List.length_append, List.length_cons, List.length_nil]; omega) ?_; intro _ _)
    k_with "cw" => (refine' callWith_K0 (K := hd.heap_39 w.params) ?k1 ?k2 ?_; (case k1 => exact Frag.In.keeps hK (Fr.keep (by k_asm))); (case k2 => k_is); (try dsimp only [List.nil_append]))
    k_with "instr" => (refine in_is (b := true) (inIs_of (freed_in c hc cf)) ?_)
    k_with "call235" => (with_unfolding_all refine' name_good2 w px pd T v0 v6 v8 v9 v10 v13 _ c _ _ (by assumption) hc cf _ _ _ _ _ _ _ _ _ _ _ _ _ _ _ _ _ _ _ _ ?a1 ?a2 ?a3 ?a4 ?a5 ?aK ?ad ?au ?aX ?aT ?aR; (case a1 => k_asm); (case a2 => k_asm); (case a3 => k_asm); (case a4 => exact N_front4 (by k_asm)); (case a5 => k_asm); (case aK => rfl); (case ad => (show dp + 20 < recursionLimit); omega); (case au => (show un + 10 * 20 < cLine); omega); (case aX => k_asm); (case aT => k_asm); intro D' fl' tp' T1' T2' h' k' u' nl' F' N')
    k_with "ne" => (refine ne_found strOk_x (strOk_name (by assumption) hc) (by k_asm) (by k_mem) (by k_mem) (by k_mem) (by k_mem) (by k_mem) (by k_mem) (by (show un + 64 < cLine); omega) ?_)
    k_steps
    all_goals (refine hret _ _ _ (fr_stored (by k_asm) ?_) (cb_drop (by assumption) ?_))
    all_goals first | (intro q hq; (rcases List.mem_cons.mp hq with e | hq); (rw [e]; k_mem); (rcases List.mem_cons.mp hq with e | hq); (rw [e]; k_mem); (repeat (first | exact hq | refine List.Mem.tail _ ?_)); done) | (intro y hy; simp only [List.contains_cons, List.contains_nil, Bool.or_false, Bool.or_eq_false_iff, beq_eq_false_iff_ne] at hy; simp only [if_neg hy.1, if_neg hy.2.1, if_neg hy.2.2])
  · k_with_none
    k_with "picked" => (intro be tb hbe; have hbl := small_len (by decide) hbe)
    k_with "add" => (first
      | (refine add_l (by simp only [List.length_append, List.length_cons, List.length_nil]; omega) ?_; intro _ _) | (refine add_r ofBs (by simp only [List.length_append, List.length_cons, List.length_nil]; omega) ?_; intro _ _) | (refine add_r ofBb (by simp only [List.length_append, List.length_cons, List.length_nil]; omega) ?_; intro _ _) | (refine add_r ofB (by simp only [List.length_append, List.length_cons, List.length_nil]; omega) ?_; intro _ _) | (refine add_x ofX (by simp only [List.length_append, List.length_cons, List.length_nil]; omega) ?_; intro _ _))
    k_with "len" => (refine len_l (by simp only [List.length_append, List.length_cons, List.length_nil]; omega) ?_; intro _ _)
    k_with "cw" => (refine' callWith_K0 (K := hd.heap_39 w.params) ?k1 ?k2 ?_; (case k1 => exact Frag.In.keeps hK (Fr.keep (by k_asm))); (case k2 => k_is); (try dsimp only [List.nil_append]))
    k_with "instr" => (refine in_is (b := false) (inIs_of (freed_out c hc cf)) ?_)
    k_with "call235" => (with_unfolding_all refine' name_bad2 w px pd T v0 v6 v8 v9 v10 v13 _ c _ _ (by assumption) hc cf _ _ _ _ _ _ _ _ _ _ _ _ _ _ _ _ _ _ _ _ ?b1 ?b2 ?b3 ?b4 ?b5 ?bK ?bd ?bu ?bX ?bT ?bR; (case b1 => k_asm); (case b2 => k_asm); (case b3 => k_asm); (case b4 => exact N_front1 (by k_asm)); (case b5 => k_asm); (case bK => rfl); (case bd => (show dp + 20 < recursionLimit); omega); (case bu => (show un + 10 * 20 < cLine); omega); (case bX => k_asm); (case bT => k_asm); intro h' k' F' N')
    k_steps
    all_goals (refine hret _ _ _ (fr_stored (by k_asm) ?_) (cb_drop (by assumption) ?_))
    all_goals first | (intro q hq; (rcases List.mem_cons.mp hq with e | hq); (rw [e]; k_mem); (rcases List.mem_cons.mp hq with e | hq); (rw [e]; k_mem); (repeat (first | exact hq | refine List.Mem.tail _ ?_)); done) | (intro y hy; simp only [List.contains_cons, List.contains_nil, Bool.or_false, Bool.or_eq_false_iff, beq_eq_false_iff_ne] at hy; simp only [if_neg hy.1, if_neg hy.2.1, if_neg hy.2.2])
end Mine
-- part Q5
namespace Mine
open PySem.Calls
local macro_rules | `(tactic| walk_at "eval IfExp") => `(tactic| (k_here; (with_reducible show wpAny _ _ (eval (Expr.IfExp _ (Expr.Constant _ _ _) _ _) _) _ _ _); (fail_if_success (with_reducible show wpAny _ _ _ (SignOf _) _ _)); k_extra "sign"))
local macro_rules | `(tactic| walk_at "SignOf") => `(tactic| first | exact sign_e | exact sign_chr)
local macro_rules | `(tactic| walk_at "subscriptTail") => `(tactic| (k_here; (with_reducible show wpAny _ _ (subscriptTail (Expr.Call (Expr.Name (Str.ofString "_law_AHEAD") _) _ _ _) _ (Value.ref _) (Value.int _ _)) _ _ _); refine pickA (by is_list) ?_; intro y' t' h'; have z' := small_len (by decide) h'))
local macro_rules | `(tactic| walk_at "subscriptTail") => `(tactic| (k_here; (with_reducible show wpAny _ _ (subscriptTail (Expr.Call (Expr.Name (Str.ofString "_law_BEHIND") _) _ _ _) _ (Value.ref _) (Value.int _ _)) _ _ _); refine pickB (by is_list) ?_; intro y' t' h'; have z' := small_len (by decide) h'))
local macro_rules | `(tactic| walk_at "subscriptTail") => `(tactic| (k_here; (with_reducible show wpAny _ _ (subscriptTail (Expr.Call (Expr.Name (Str.ofString "_law_OPENS") _) _ _ _) _ (Value.ref _) (Value.int _ _)) _ _ _); refine pickD (by is_list) ?_; intro y' t' h'; have z' := small_len (by decide) h'))
local macro_rules | `(tactic| walk_at "callWith ref") => `(tactic| (k_here; (with_reducible show wpAny _ _ (callWith _ (Value.ref _) [] (backTo _ (starEach [] _)) []) _ _ _); k_extra "cw"))
local macro_rules | `(tactic| walk_at "call ref") => `(tactic| (k_here; (with_reducible show wpAny _ _ (call (Value.ref _) [] _) _ _ _); k_dflt (refine wpAny_call ?_; refine' code_def ?k1 ?k2 ?k3 ?k4 ?k5 ?kA ?kF ?kK ?k6 ?k7 ?k8 ?k9 ?kB ?_ ?c2 ?c3 ?c4 ?c5; (case kA => exact rfl); (case kF => exact rfl); (case kK => exact rfl); (case k1 => k_asm); (case k2 => k_asm); (case k3 => k_asm); (case k4 => k_asm); (case k5 => k_asm); (case k6 => k_is); (case k7 => k_is); (case k8 => ktr_room); (case k9 => first | exact BindsTo.of_eq rfl | exact binds_K (by k_in) rfl (by k_is) rfl rfl rfl); (case c5 => decide); (case kB => exact locs rfl); (case c2 => exact rfl); (case c3 => exact rfl); (case c4 => exact rfl); k_whole; intro g' L' h' FG' F' N' B' X' T'; (try dsimp only); (try k_lift B'); (try k_fold))))
abbrev based (z f k : Int) (px : Addr) (tz tf tk : Tok) (m0 : Str → Option Value) : Str → Option Value := fun y =>
  if y = Str.ofString "number" then some (Value.int z tz)
  else if y = Str.ofString "k" then some (Value.int k tk)
  else if y = Str.ofString "first" then some (Value.int f tf)
  else if y = Str.ofString "parser" then some (Value.ref px)
  else m0 y
abbrev onBase (al bl dl : List Nat) (c : Nat) (t1 t2 t3 t4 : Tok) (m : Str → Option Value) : Str → Option Value := fun y =>
  if y = Str.ofString "delim" then some (Value.str ⟨dl.toArray⟩ t3)
  else if y = Str.ofString "behind" then some (Value.str ⟨bl.toArray⟩ t2)
  else if y = Str.ofString "ahead" then some (Value.str ⟨al.toArray⟩ t1)
  else if y = Str.ofString "sign" then some (Value.str ⟨#[c]⟩ t4)
  else m y
theorem seg0 (w : World) (z f k : Int) (px : Addr) (tz tf tk : Tok) (m0 : Str → Option Value) (news : List (Addr × Obj)) (rest : List Stmt) :
    ∀ (dp un : Nat) (gd : Option (List Code)) (a : Addr) (ccd : Value) (A₀ : Around) (base h₀ : Heap) (L : Addr) (s : Shared) (Q : Flow → Shared → Prop) (E : Value → Shared → Prop)
      (p : Program) (loose : List Str) (mean : ExcName → Option Value) (mg mb : Str → Option Value),
      Below A₀ base [] h₀ → Fr h₀ L s.heap (based z f k px tz tf tk m0) → (hd.heap_39 w.params).In h₀ → News h₀ L s.heap news → Top p loose mean mg mb h₀ → dp + 30 < recursionLimit → un + 400 < cLine → (hd.heap_39 w.params).In base → Top p loose mean mg mb base →
      (∀ al bl dl c t1 t2 t3 t4 h' tk', al ∈ aheadTab → bl ∈ behindTab → dl ∈ opensTab → c < 256 → Fr h₀ L h' (onBase al bl dl c t1 t2 t3 t4 (based z f k px tz tf tk m0)) → News h₀ L h' news → wpAny (model PySem.Challenge.rw_be5035_01.row.prog w) (lawA dp un gd L a ccd) (execs rest (lawEnv L a ccd)) Q E { s with heap := h', toks := tk' }) →
      wpAny (model PySem.Challenge.rw_be5035_01.row.prog w) (lawA dp un gd L a ccd) (execs (turn0a ++ rest) (lawEnv L a ccd)) Q E s := by
  k_fill
  w_top off
  k_with_none
  intro dp un gd a ccd A₀ base h₀ L s Q E p loose mean mg mb hBel hF hK hN hT hdp hun hKB hTB hret
  unfold lawA lawEnv at hret ⊢
  unfold onBase at hret
  unfold based at hF hret
  have sc : lawScope = lawScope := rfl
  conv at sc => rhs; whnf
  rw [sc] at hret ⊢
  clear sc
  conv in turn0a => whnf
  simp only [List.cons_append, List.nil_append]
  k_with_none
  k_with "sign" => (refine sign_cut ?_ ?_; rotate_left; intro c tc kc hc; rotate_left)
  k_with "cw" => (refine' callWith_K0 (K := hd.heap_39 w.params) ?k1 ?k2 ?_; (case k1 => exact Frag.In.keeps hK (Fr.keep (by k_asm))); (case k2 => k_is); (try dsimp only [List.nil_append]))
  k_steps
  all_goals exact hret _ _ _ _ _ _ _ _ _ _ (by assumption) (by assumption) (by assumption) (by assumption) (by k_asm) (cb_drop (by assumption) (by intro q hq; repeat (first | exact hq | refine List.Mem.tail _ ?_)))
end Mine
-- part Q4
namespace Mine
open PySem.Calls
def turnNames : List Str := [Str.ofString "text", Str.ofString "due", Str.ofString "told", Str.ofString "before"]
theorem picked_of {F : Str → Option Value} {al bl dl : List Nat} {c : Nat} {z : Int} {px : Addr} {t1 t2 t3 t4 t5 : Tok}
    (e1 : F (Str.ofString "delim") = some (Value.str ⟨dl.toArray⟩ t3)) (e2 : F (Str.ofString "behind") = some (Value.str ⟨bl.toArray⟩ t2)) (e3 : F (Str.ofString "ahead") = some (Value.str ⟨al.toArray⟩ t1))
    (e4 : F (Str.ofString "sign") = some (Value.str ⟨#[c]⟩ t4)) (e5 : F (Str.ofString "number") = some (Value.int z t5)) (e6 : F (Str.ofString "parser") = some (Value.ref px)) :
    picked al bl dl c z px t1 t2 t3 t4 t5 F = F := by
  funext y
  unfold picked
  by_cases q1 : y = Str.ofString "delim"
  · rw [if_pos q1, q1, e1]
  by_cases q2 : y = Str.ofString "behind"
  · rw [if_neg q1, if_pos q2, q2, e2]
  by_cases q3 : y = Str.ofString "ahead"
  · rw [if_neg q1, if_neg q2, if_pos q3, q3, e3]
  by_cases q4 : y = Str.ofString "sign"
  · rw [if_neg q1, if_neg q2, if_neg q3, if_pos q4, q4, e4]
  by_cases q5 : y = Str.ofString "number"
  · rw [if_neg q1, if_neg q2, if_neg q3, if_neg q4, if_pos q5, q5, e5]
  by_cases q6 : y = Str.ofString "parser"
  · rw [if_neg q1, if_neg q2, if_neg q3, if_neg q4, if_neg q5, if_pos q6, q6, e6]
  rw [if_neg q1, if_neg q2, if_neg q3, if_neg q4, if_neg q5, if_neg q6]
theorem parser_led {P : Params} {h₀ h : Heap} {L px pd : Addr} {t0 t1 t2 t3 t4 t5 t6 t7 t8 t9 t10 t11 t12 t13 t14 t15 t16 t17 : Tok} {v0 v6 v8 v9 v10 v13 : Value} {news : List (Addr × Obj)} (N : News h₀ L h news) (h1 : (px, instObj 135 pd) ∈ news)
    (h2 : (pd, dictOf [
      ⟨PyData.keyHash P (Str.ofString "_bindings"), .str (Str.ofString "_bindings") t0, v0⟩,
      ⟨PyData.keyHash P (Str.ofString "_store"), .str (Str.ofString "_store") t1, .none⟩,
      ⟨PyData.keyHash P (Str.ofString "_thisDoc"), .str (Str.ofString "_thisDoc") t2, .str (Str.ofString "") 552⟩,
      ⟨PyData.keyHash P (Str.ofString "lines"), .str (Str.ofString "lines") t3, .int 0 t15⟩,
      ⟨PyData.keyHash P (Str.ofString "startOfLine"), .str (Str.ofString "startOfLine") t4, .int 0 t16⟩,
      ⟨PyData.keyHash P (Str.ofString "_genPrefix"), .str (Str.ofString "_genPrefix") t5, .str (Str.ofString "") 553⟩,
      ⟨PyData.keyHash P (Str.ofString "keywords"), .str (Str.ofString "keywords") t6, v6⟩,
      ⟨PyData.keyHash P (Str.ofString "keywordsSet"), .str (Str.ofString "keywordsSet") t7, .int 0 t17⟩,
      ⟨PyData.keyHash P (Str.ofString "_anonymousNodes"), .str (Str.ofString "_anonymousNodes") t8, v8⟩,
      ⟨PyData.keyHash P (Str.ofString "_variables"), .str (Str.ofString "_variables") t9, v9⟩,
      ⟨PyData.keyHash P (Str.ofString "_parentVariables"), .str (Str.ofString "_parentVariables") t10, v10⟩,
      ⟨PyData.keyHash P (Str.ofString "_reason"), .str (Str.ofString "_reason") t11, .none⟩,
      ⟨PyData.keyHash P (Str.ofString "turtle"), .str (Str.ofString "turtle") t12, .bool false⟩,
      ⟨PyData.keyHash P (Str.ofString "string_delimiters"), .str (Str.ofString "string_delimiters") t13, v13⟩,
      ⟨PyData.keyHash P (Str.ofString "_baseURI"), .str (Str.ofString "_baseURI") t14, .none⟩] 15) ∈ news) :
    ∃ T : Nat → Tok, News h₀ L h ((px, instObj 135 pd) :: (pd, dictOf (parserEs P T v0 v6 v8 v9 v10 v13) 15) :: news) := by
  refine ⟨fun n => [t0, t1, t2, t3, t4, t5, t6, t7, t8, t9, t10, t11, t12, t13, t14, t15, t16, t17].getD n 0, cb_drop N fun q hq => ?_⟩
  rcases List.mem_cons.mp hq with e | hq
  · rw [e]; exact h1
  rcases List.mem_cons.mp hq with e | hq
  · rw [e]; exact h2
  exact hq
theorem turn_all (w : World) (px pd : Addr) (T : Nat → Tok) (v0 v6 v8 v9 v10 v13 : Value) (al bl dl : List Nat) (c : Nat) (z : Int) (t1 t2 t3 t4 t5 : Tok) (F : Str → Option Value) (news : List (Addr × Obj)) (ha : al ∈ aheadTab) (hb : bl ∈ behindTab) (hdl : dl ∈ opensTab) (hc : c < 256)
    (e1 : F (Str.ofString "delim") = some (Value.str ⟨dl.toArray⟩ t3)) (e2 : F (Str.ofString "behind") = some (Value.str ⟨bl.toArray⟩ t2)) (e3 : F (Str.ofString "ahead") = some (Value.str ⟨al.toArray⟩ t1))
    (e4 : F (Str.ofString "sign") = some (Value.str ⟨#[c]⟩ t4)) (e5 : F (Str.ofString "number") = some (Value.int z t5)) (e6 : F (Str.ofString "parser") = some (Value.ref px)) :
    ∀ (dp un : Nat) (gd : Option (List Code)) (a : Addr) (ccd : Value) (A₀ : Around) (base h₀ : Heap) (L : Addr) (s : Shared) (Q : Flow → Shared → Prop) (E : Value → Shared → Prop)
      (p : Program) (loose : List Str) (mean : ExcName → Option Value) (mg mb : Str → Option Value),
      Below A₀ base [] h₀ → Fr h₀ L s.heap F → (hd.heap_39 w.params).In h₀ → News h₀ L s.heap ((px, instObj 135 pd) :: (pd, dictOf (parserEs w.params T v0 v6 v8 v9 v10 v13) 15) :: news) → Top p loose mean mg mb h₀ → dp + 30 < recursionLimit → un + 400 < cLine → (hd.heap_39 w.params).In base → Top p loose mean mg mb base →
      (∀ h' tk' (m' : Str → Option Value), Fr h₀ L h' m' → (∀ y, turnNames.contains y = false → m' y = F y) → News h₀ L h' ((px, instObj 135 pd) :: (pd, dictOf (parserEs w.params T v0 v6 v8 v9 v10 v13) 15) :: news) → Q .next { s with heap := h', toks := tk' }) →
      wpAny (model PySem.Challenge.rw_be5035_01.row.prog w) (lawA dp un gd L a ccd) (execs turn1 (lawEnv L a ccd)) Q E s := by
  intro dp un gd a ccd A₀ base h₀ L s Q E p loose mean mg mb hBel hF hK hN hT hdp hun hKB hTB hret
  have hp := picked_of e1 e2 e3 e4 e5 e6
  have sp : turn1 = if1 :: (turn2a ++ turn3) := rfl
  rw [sp]
  refine wpAny_execs_cons ?_
  rw [← hp] at hF
  refine seg1 w px pd T v0 v6 v8 v9 v10 v13 al bl dl c z t1 t2 t3 t4 t5 F news ha hb hdl hc dp un gd a ccd A₀ base h₀ L s _ E p loose mean mg mb hBel hF hK hN hT hdp hun hKB hTB ?_
  intro h1 k1 u1 F1 N1
  have G1 := picked_more (by kernel_rfl!) F1
  refine seg2 w px pd T v0 v6 v8 v9 v10 v13 al bl dl c z t1 t2 t3 t4 t5 _ news ha hb hdl hc turn3 dp un gd a ccd A₀ base h₀ L _ _ E p loose mean mg mb hBel G1 hK N1 hT hdp hun hKB hTB ?_
  intro h2 k2 u2 F2 N2
  have G2 := picked_more (by kernel_rfl!) F2
  refine seg3 w px pd T v0 v6 v8 v9 v10 v13 al bl dl c z t1 t2 t3 t4 t5 _ news ha hb hdl hc dp un gd a ccd A₀ base h₀ L _ _ E p loose mean mg mb hBel G2 hK N2 hT hdp hun hKB hTB ?_
  intro h3 k3 u3 F3 N3
  refine hret _ _ _ F3 (fun y hy => ?_) N3
  simp only [turnNames, List.contains_cons, List.contains_nil, Bool.or_false, Bool.or_eq_false_iff] at hy
  obtain ⟨y1, y2, y3, y4⟩ := hy
  conv => rhs; rw [← hp]
  simp only [picked, List.contains_cons, List.contains_nil, y1, y2, y3, y4, Bool.or_false, Bool.false_eq_true, if_false]
def wholeNames : List Str := [Str.ofString "sign", Str.ofString "ahead", Str.ofString "behind", Str.ofString "delim", Str.ofString "text", Str.ofString "due", Str.ofString "told", Str.ofString "before"]
theorem based_of {F : Str → Option Value} {z f k : Int} {px : Addr} {tz tf tk : Tok}
    (e1 : F (Str.ofString "number") = some (Value.int z tz)) (e2 : F (Str.ofString "k") = some (Value.int k tk)) (e3 : F (Str.ofString "first") = some (Value.int f tf)) (e4 : F (Str.ofString "parser") = some (Value.ref px)) :
    based z f k px tz tf tk F = F := by
  funext y
  unfold based
  by_cases q1 : y = Str.ofString "number"
  · rw [if_pos q1, q1, e1]
  by_cases q2 : y = Str.ofString "k"
  · rw [if_neg q1, if_pos q2, q2, e2]
  by_cases q3 : y = Str.ofString "first"
  · rw [if_neg q1, if_neg q2, if_pos q3, q3, e3]
  by_cases q4 : y = Str.ofString "parser"
  · rw [if_neg q1, if_neg q2, if_neg q3, if_pos q4, q4, e4]
  rw [if_neg q1, if_neg q2, if_neg q3, if_neg q4]
theorem turn_whole (w : World) (px pd : Addr) (T : Nat → Tok) (v0 v6 v8 v9 v10 v13 : Value) (z f k : Int) (tz tf tk : Tok) (F : Str → Option Value) (news : List (Addr × Obj))
    (e1 : F (Str.ofString "number") = some (Value.int z tz)) (e2 : F (Str.ofString "k") = some (Value.int k tk)) (e3 : F (Str.ofString "first") = some (Value.int f tf)) (e4 : F (Str.ofString "parser") = some (Value.ref px)) :
    ∀ (dp un : Nat) (gd : Option (List Code)) (a : Addr) (ccd : Value) (A₀ : Around) (base h₀ : Heap) (L : Addr) (s : Shared) (Q : Flow → Shared → Prop) (E : Value → Shared → Prop)
      (p : Program) (loose : List Str) (mean : ExcName → Option Value) (mg mb : Str → Option Value),
      Below A₀ base [] h₀ → Fr h₀ L s.heap F → (hd.heap_39 w.params).In h₀ → News h₀ L s.heap ((px, instObj 135 pd) :: (pd, dictOf (parserEs w.params T v0 v6 v8 v9 v10 v13) 15) :: news) → Top p loose mean mg mb h₀ → dp + 30 < recursionLimit → un + 400 < cLine → (hd.heap_39 w.params).In base → Top p loose mean mg mb base →
      (∀ h' tk' (m' : Str → Option Value), Fr h₀ L h' m' → (∀ y, wholeNames.contains y = false → m' y = F y) → News h₀ L h' ((px, instObj 135 pd) :: (pd, dictOf (parserEs w.params T v0 v6 v8 v9 v10 v13) 15) :: news) → Q .next { s with heap := h', toks := tk' }) →
      wpAny (model PySem.Challenge.rw_be5035_01.row.prog w) (lawA dp un gd L a ccd) (execs turn0 (lawEnv L a ccd)) Q E s := by
  intro dp un gd a ccd A₀ base h₀ L s Q E p loose mean mg mb hBel hF hK hN hT hdp hun hKB hTB hret
  have hp := based_of e1 e2 e3 e4
  have sp : turn0 = turn0a ++ turn1 := rfl
  rw [sp]
  rw [← hp] at hF
  refine seg0 w z f k px tz tf tk F _ turn1 dp un gd a ccd A₀ base h₀ L s _ E p loose mean mg mb hBel hF hK hN hT hdp hun hKB hTB ?_
  intro al bl dl c t1 t2 t3 t4 h1 k1 ha hb hdl hc F1 N1
  refine turn_all w px pd T v0 v6 v8 v9 v10 v13 al bl dl c z t1 t2 t3 t4 tz _ news ha hb hdl hc rfl rfl rfl rfl rfl rfl dp un gd a ccd A₀ base h₀ L _ _ E p loose mean mg mb hBel F1 hK N1 hT hdp hun hKB hTB ?_
  intro h2 k2 m2 F2 e2' N2
  refine hret _ _ _ F2 (fun y hy => ?_) N2
  simp only [wholeNames, List.contains_cons, List.contains_nil, Bool.or_false, Bool.or_eq_false_iff] at hy
  obtain ⟨y1, y2, y3, y4, y5, y6, y7, y8⟩ := hy
  rw [e2' y (by simp only [turnNames, List.contains_cons, List.contains_nil, y5, y6, y7, y8, Bool.or_false])]
  conv => rhs; rw [← hp]
  rw [beq_eq_false_iff_ne] at y1 y2 y3 y4
  simp only [onBase, if_neg y1, if_neg y2, if_neg y3, if_neg y4]
end Mine
-- part M1
namespace Mine
local macro_rules | `(tactic| walk_at "binaryOp Mult int int") => `(tactic| (k_here; refine mul_any (by decide) (by decide) ?_; intro z' t' k'))
local macro_rules | `(tactic| walk_at "execs cons") => `(tactic| (k_here; (with_reducible show wpAny _ _ (execs (Stmt.Assign [Expr.Name (Str.ofString "sign") _] _ _ :: _) _) _ _ _); refine Hold.out ?_))
theorem main : PySem.Challenge.rw_be5035_01.Holds := hd (by
  w_top off
  k_with_none
  k_with "pyIter ref" => (k_search (fun (_ : List Int) => True); refine Mine.Hold.out ?_)
  k_go0; (all_goals try k_fold); k_steps
  all_goals unfold Hold
  all_goals k_steps
  all_goals unfold Hold
  all_goals (rename News _ _ _ _ => nE; rename Fr _ _ _ _ => fE)
  all_goals (obtain ⟨TT, NT⟩ := parser_led nE (by k_mem) (by k_mem))
  all_goals (with_unfolding_all refine' turn_whole _ _ _ TT _ _ _ _ _ _ _ _ _ _ _ _ _ _ ?e1 ?e2 ?e3 ?e4 _ _ _ _ _ _ _ _ _ _ _ _ _ _ _ _ _ ?g1 ?g2 ?g3 ?g4 ?g5 ?g6 ?g7 ?g8 ?g9 ?_; (case g2 => exact fE); (case g4 => exact NT); (case g1 => k_asm); (case g3 => k_asm); (case g5 => k_asm); (case g8 => k_asm); (case g9 => k_asm); (case e1 => rfl); (case e2 => rfl); (case e3 => rfl); (case e4 => rfl); (case g6 => decide); (case g7 => decide))
  all_goals (intro h3 k3 m3 F3 e3 N3)
  all_goals (with_unfolding_all refine kst_end () F3 N3 (by kst_in) (by intro p hp; kst_mem) (by rfl) True.intro (List.forall_mem_nil _) ?_ trivial)
  all_goals (intro z q1 q2 q3; have q4 := q3; simp only [List.contains_cons, List.contains_nil, Bool.or_false, Bool.or_eq_false_iff] at q4; obtain ⟨r1, r2, r3, r4, r5, r6, r7, r8, r9⟩ := q4)
  all_goals (rw [e3 z (by simp only [wholeNames, List.contains_cons, List.contains_nil, r2, r3, r4, r5, r6, r7, r8, r9, Bool.or_false])])
  all_goals (rw [beq_eq_false_iff_ne] at r1; simp only [if_neg r1, if_neg q1, q3, Bool.false_eq_true, if_false]))
end Mine
theorem PySem.Challenge.cw_be5035_01_holds : PySem.Challenge.rw_be5035_01.Holds :=
  Mine.main
