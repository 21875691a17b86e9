import PyProof.Rows.All
import Wide.All
import OpenK.AllK
import Wide.FinOn
import KE.KNest
import KE.KNestM
import PySem.Builtin.Sre.Common
import PyProof.Rules
import KE.RegKStar
import Lean
import PySem.Challenge.RW_yf0025_01

set_option Elab.async false
local macro_rules | `(tactic| walk_at $s:str) => `(tactic| k_extra $s)
local macro_rules | `(tactic| k_ne) => `(tactic| k_extra "k_ne")
section
set_option maxRecDepth 100000
namespace Mine
open PySem PySem.Sre

noncomputable def reC : Array Nat := #[14, 4, 0, 1, 4294967295, 17, 0, 24, 11, 1, 4294967295, 13, 6, 16, 32, 16, 9, 0, 1, 17, 1, 1]
noncomputable def stepN : Nat → M → M
  | 0, m => m
  | n + 1, m => stepN n m.step
theorem step_done {m : M} (h : m.outcome.isSome = true) : m.step = m := by unfold M.step; rw [if_pos h]
theorem stepN_done {m : M} (h : m.outcome.isSome = true) : ∀ n, stepN n m = m
  | 0 => rfl
  | n + 1 => by show stepN n m.step = m; rw [step_done h]; exact stepN_done h n
theorem stepN_add (m : M) : ∀ a b, stepN (a + b) m = stepN b (stepN a m)
  | 0, b => by rw [Nat.zero_add]; rfl
  | a + 1, b => by rw [Nat.add_right_comm]; exact stepN_add m.step a b
theorem runFor_eq : ∀ n (m : M), m.runFor n = stepN n m
  | 0, _ => rfl
  | n + 1, m => by
    show (if m.outcome.isSome then m else M.runFor n m.step) = stepN n m.step
    by_cases h : m.outcome.isSome = true
    · rw [if_pos h, step_done h, stepN_done h]
    · rw [if_neg h]; exact runFor_eq n m.step

noncomputable def reS (T : Array Nat) (s : Nat) (marks : Array (Option Nat)) (first must : Bool) (seen : Seen) : M :=
  { code := reC, text := T, lim := T.size, start := s, lastStart := T.size, mustAdvance := must, pc := 5, pos := s, handed := s, outermost := first, marks, frames := [{ wait := .nextStart, pc := 5, pos := s, outermost := first }], weight := 1, seen }
/-- behind the first mark -/
noncomputable def reS1 (T : Array Nat) (s : Nat) (marks : Array (Option Nat)) (first must : Bool) (seen : Seen) : M :=
  { reS T s (marks.setIfInBounds 0 (some s)) first must (seen.add 17) with pc := 7, lastmark := 0 }
theorem re_step1 (T : Array Nat) (s : Nat) (marks : Array (Option Nat)) (first must : Bool) (seen : Seen) : (reS T s marks first must seen).step = reS1 T s marks first must seen := by
  rfl
theorem re_rep (T : Array Nat) (s : Nat) (marks : Array (Option Nat)) (first must : Bool) (seen : Seen) : (reS1 T s marks first must seen).step =
    (if ((1 : Nat) : Int) > (T.size : Int) - (s : Nat) then ({ reS1 T s marks first must seen with seen := (seen.add 17).add 24 }).say false else
     match run reC T 11 (min 4294967295 ((T.size : Int) - (s : Nat)).toNat) s 0 (((seen.add 17).add 24).add 13) with
     | .error why => ({ reS1 T s marks first must seen with seen := (seen.add 17).add 24 }).stick why
     | .ok (n, seen') =>
       if n < 1 then ({ reS1 T s marks first must seen with seen := seen' }).say false
       else ({ reS1 T s marks first must seen with seen := seen', pos := s + n }).afterRun .giveBack n (({ reS1 T s marks first must seen with seen := seen', pos := s + n }).keep false)) := by
  rfl

theorem run_none {T : Array Nat} {s k : Nat} {seen : Seen} (h1 : T.getD s 0 ≠ 32) (h2 : T.getD s 0 ≠ 9) : ∃ seen', run reC T 11 (k + 1) s 0 seen = .ok (0, seen') := by
  have e1 : (T.getD s 0 == 32) = false := by simpa using h1
  have e2 : (T.getD s 0 == 9) = false := by simpa using h2
  have ha : ∃ seen', accepts reC 11 (T.getD s 0) seen = .ok (false, seen') := by
    refine ⟨((seen.add 16).add 16).add 0, ?_⟩
    show (if (T.getD s 0 == 32) = true then _ else if (T.getD s 0 == 9) = true then _ else _) = _
    rw [e1, e2]
    rfl
  obtain ⟨seen', ha⟩ := ha
  refine ⟨seen', ?_⟩
  show (accepts reC 11 (T.getD s 0) seen >>= fun x => _) = _
  rw [ha]
  rfl
theorem run_one {T : Array Nat} {s k : Nat} {seen : Seen} (h0 : T.getD s 0 = 32) (h1 : k = 0 ∨ (T.getD (s + 1) 0 ≠ 32 ∧ T.getD (s + 1) 0 ≠ 9)) : ∃ seen', run reC T 11 (k + 1) s 0 seen = .ok (1, seen') := by
  have ha : ∃ seen', accepts reC 11 (T.getD s 0) seen = .ok (true, seen') := by
    refine ⟨seen.add 16, ?_⟩
    rw [h0]
    rfl
  obtain ⟨seen', ha⟩ := ha
  have key : run reC T 11 (k + 1) s 0 seen = run reC T 11 k (s + 1) 1 seen' := by
    show (accepts reC 11 (T.getD s 0) seen >>= fun x => _) = _
    rw [ha]
    rfl
  rw [key]
  cases k with
  | zero => exact ⟨_, rfl⟩
  | succ k =>
    obtain ⟨h1, h2⟩ := h1.resolve_left (by omega)
    have e1 : (T.getD (s + 1) 0 == 32) = false := by simpa using h1
    have e2 : (T.getD (s + 1) 0 == 9) = false := by simpa using h2
    have hb : ∃ seen'', accepts reC 11 (T.getD (s + 1) 0) seen' = .ok (false, seen'') := by
      refine ⟨((seen'.add 16).add 16).add 0, ?_⟩
      show (if (T.getD (s + 1) 0 == 32) = true then _ else if (T.getD (s + 1) 0 == 9) = true then _ else _) = _
      rw [e1, e2]
      rfl
    obtain ⟨seen'', hb⟩ := hb
    refine ⟨seen'', ?_⟩
    show (accepts reC 11 (T.getD (s + 1) 0) seen' >>= fun x => _) = _
    rw [hb]
    rfl

/-- one character that is no blank -/
theorem re_miss {T : Array Nat} {s : Nat} {marks : Array (Option Nat)} {first must : Bool} {seen : Seen} (hs : s < T.size) (h1 : T.getD s 0 ≠ 32) (h2 : T.getD s 0 ≠ 9) (hm : marks.size = 2) :
    ∃ marks' seen', marks'.size = 2 ∧ stepN 3 (reS T s marks first must seen) = reS T (s + 1) marks' false false seen' := by
  obtain ⟨k, hk⟩ : ∃ k, min 4294967295 ((T.size : Int) - (s : Nat)).toNat = k + 1 := ⟨min 4294967295 ((T.size : Int) - (s : Nat)).toNat - 1, by omega⟩
  obtain ⟨seen', hr⟩ := run_none (k := k) (seen := ((seen.add 17).add 24).add 13) h1 h2
  have e2 : (reS1 T s marks first must seen).step = ({ reS1 T s marks first must seen with seen := seen' }).say false := by
    rw [re_rep, if_neg (by omega), hk, hr]
    rfl
  refine ⟨marks.setIfInBounds 0 (some s), seen', by simp [hm], ?_⟩
  show ((reS T s marks first must seen).step.step).step = _
  rw [re_step1, e2]
  show (if (s : Nat) < T.size then _ else _) = _
  rw [if_pos hs]
  rfl

theorem re_end {T : Array Nat} {marks : Array (Option Nat)} {first must : Bool} {seen : Seen} :
    (stepN 4 (reS T T.size marks first must seen)).outcome = some .failed := by
  have e2 : (reS1 T T.size marks first must seen).step = ({ reS1 T T.size marks first must seen with seen := (seen.add 17).add 24 }).say false := by
    rw [re_rep, if_pos (by omega)]
  show ((((reS T T.size marks first must seen).step.step).step).step).outcome = _
  rw [re_step1, e2]
  have e3 : (({ reS1 T T.size marks first must seen with seen := (seen.add 17).add 24 } : M).say false).step = ({ reS1 T T.size marks first must seen with seen := (seen.add 17).add 24, frames := [], weight := 0, pc := 5 } : M).say false := by
    show (if (T.size : Nat) < T.size then _ else _) = _
    rw [if_neg (by omega)]
    cases first <;> rfl
  rw [e3]
  rfl
structure Found (m : M) (q : Nat) : Prop where
  out : m.outcome = some .matched
  start : m.start = q
  handed : m.handed = q + 1
  last : m.lastmark = 1
  m0 : m.marks.getD 0 none = some q
  m1 : m.marks.getD 1 none = some (q + 1)
noncomputable def reS3 (T : Array Nat) (s : Nat) (first must : Bool) (seen : Seen) : M :=
  { reS T s #[some s, some (s + 1)] first must seen with pc := 21, pos := s + 1, handed := s + 1, lastmark := 1, lastindex := 1, weight := 2, frames := [{ wait := .giveBack, pc := 7, pos := s + 1, outermost := first, count := 1, kept := { lastmark := 0, lastindex := -1, whole := false, marks := #[] } }, { wait := .nextStart, pc := 5, pos := s, outermost := first }] }
noncomputable def reS2 (T : Array Nat) (s : Nat) (b : Option Nat) (first must : Bool) (seen : Seen) : M :=
  { reS T s #[some s, b] first must seen with pc := 19, pos := s + 1, handed := s + 1, lastmark := 0, lastindex := -1, weight := 2, frames := [{ wait := .giveBack, pc := 7, pos := s + 1, outermost := first, count := 1, kept := { lastmark := 0, lastindex := -1, whole := false, marks := #[] } }, { wait := .nextStart, pc := 5, pos := s, outermost := first }] }
theorem re_step2 (T : Array Nat) (s : Nat) (a b : Option Nat) (first must : Bool) (seen seen' : Seen) : ({ reS1 T s #[a, b] first must seen with seen := seen', pos := s + 1 } : M).afterRun .giveBack 1 (({ reS1 T s #[a, b] first must seen with seen := seen', pos := s + 1 }).keep false) = reS2 T s b first must seen' := rfl
theorem re_step3 (T : Array Nat) (s : Nat) (b : Option Nat) (first must : Bool) (seen : Seen) : (reS2 T s b first must seen).step = reS3 T s first must (seen.add 17) := by
  show M.mark { reS2 T s b first must seen with seen := seen.add 17 } 1 = _
  unfold M.mark
  rfl
theorem re_step4 (T : Array Nat) (s : Nat) (first must : Bool) (seen : Seen) : (reS3 T s first must seen).step = { reS3 T s first must (seen.add 1) with answer := some true } := by
  have hb : (s + 1 == s) = false := by simp
  have hand : (first && ((false && (s + 1 != T.size)) || (must && (s + 1 == s)))) = false := by rw [hb]; simp
  show (if (first && ((false && (s + 1 != T.size)) || (must && (s + 1 == s)))) = true then _ else _) = _
  rw [hand, if_neg (by decide)]
  rfl
theorem re_step5 (T : Array Nat) (s : Nat) (first must : Bool) (seen : Seen) : M.step { reS3 T s first must seen with answer := some true } = { reS3 T s first must seen with pc := 7, weight := 1, frames := [{ wait := .nextStart, pc := 5, pos := s, outermost := first }], answer := some true } := rfl
theorem re_step6 (T : Array Nat) (s : Nat) (first must : Bool) (seen : Seen) : M.step { reS3 T s first must seen with pc := 7, weight := 1, frames := [{ wait := .nextStart, pc := 5, pos := s, outermost := first }], answer := some true } = { reS3 T s first must seen with pc := 5, pos := s, weight := 0, frames := [], answer := some true } := rfl
theorem re_step7 (T : Array Nat) (s : Nat) (first must : Bool) (seen : Seen) : M.step { reS3 T s first must seen with pc := 5, pos := s, weight := 0, frames := [], answer := some true } = { reS3 T s first must seen with pc := 5, pos := s, weight := 0, frames := [], answer := some true, outcome := some .matched } := rfl
theorem re_hit {T : Array Nat} {s : Nat} {marks : Array (Option Nat)} {first must : Bool} {seen : Seen} (hs : s < T.size) (h0 : T.getD s 0 = 32) (h1 : T.getD (s + 1) 0 ≠ 32 ∧ T.getD (s + 1) 0 ≠ 9) (hm : marks.size = 2) :
    Found (stepN 7 (reS T s marks first must seen)) s := by
  obtain ⟨k, hk⟩ : ∃ k, min 4294967295 ((T.size : Int) - (s : Nat)).toNat = k + 1 := ⟨min 4294967295 ((T.size : Int) - (s : Nat)).toNat - 1, by omega⟩
  obtain ⟨seen', hr⟩ := run_one (k := k) (seen := ((seen.add 17).add 24).add 13) h0 (.inr h1)
  have e2 : (reS1 T s marks first must seen).step = ({ reS1 T s marks first must seen with seen := seen', pos := s + 1 }).afterRun .giveBack 1 (({ reS1 T s marks first must seen with seen := seen', pos := s + 1 }).keep false) := by
    rw [re_rep, if_neg (by omega), hk, hr]
    rfl
  obtain ⟨a, b, rfl⟩ : ∃ a b, marks = #[a, b] := by
    obtain ⟨l⟩ := marks
    match l, hm with
    | [a, b], _ => exact ⟨a, b, rfl⟩
  show Found ((((((reS T s #[a, b] first must seen).step.step).step).step).step).step).step s
  rw [re_step1, e2, re_step2, re_step3, re_step4, re_step5, re_step6, re_step7]
  exact ⟨rfl, rfl, rfl, rfl, rfl, rfl⟩
/-- a search: it finds the next blank -/
theorem re_walk {T : Array Nat} : ∀ (d : Nat) (s : Nat) (marks : Array (Option Nat)) (first must : Bool) (seen : Seen), marks.size = 2 → s + d ≤ T.size → (∀ j, s ≤ j → j < s + d → T.getD j 0 ≠ 32 ∧ T.getD j 0 ≠ 9) →
    ∃ marks' first' must' seen', marks'.size = 2 ∧ stepN (3 * d) (reS T s marks first must seen) = reS T (s + d) marks' first' must' seen'
  | 0, s, marks, first, must, seen, hm, _, _ => ⟨marks, first, must, seen, hm, rfl⟩
  | d + 1, s, marks, first, must, seen, hm, hd, hw => by
    obtain ⟨m1, s1, hm1, e1⟩ := re_miss (first := first) (must := must) (seen := seen) (s := s) (T := T) (by omega) (hw s (by omega) (by omega)).1 (hw s (by omega) (by omega)).2 hm
    obtain ⟨m2, f2, u2, s2, hm2, e2⟩ := re_walk d (s + 1) m1 false false s1 hm1 (by omega) (fun j h1 h2 => hw j (by omega) (by omega))
    refine ⟨m2, f2, u2, s2, hm2, ?_⟩
    rw [show 3 * (d + 1) = 3 + 3 * d by omega, stepN_add, e1, e2, show s + 1 + d = s + (d + 1) by omega]
theorem forSearch_eq {T : Array Nat} {s : Nat} {must : Bool} (h : s < T.size) : ∃ seen, forSearch reC T 1 s T.size must = reS T s #[none, none] true must seen := by
  refine ⟨({} : Seen).add 14, ?_⟩
  show (if (decide (s > T.size) || decide (T.size - s < 1)) = true then _ else _) = _
  rw [if_neg (by simp; omega)]
  rfl
theorem search_hit {T : Array Nat} {s d : Nat} {must : Bool} (hd : s + d < T.size) (hw : ∀ j, s ≤ j → j < s + d → T.getD j 0 ≠ 32 ∧ T.getD j 0 ≠ 9) (h0 : T.getD (s + d) 0 = 32) (h1 : T.getD (s + d + 1) 0 ≠ 32 ∧ T.getD (s + d + 1) 0 ≠ 9) :
    Found (stepN (3 * d + 7) (forSearch reC T 1 s T.size must)) (s + d) := by
  obtain ⟨seen, e⟩ := forSearch_eq (must := must) (show s < T.size by omega)
  obtain ⟨m2, f2, u2, s2, hm2, e2⟩ := re_walk (T := T) d s #[none, none] true must seen rfl (by omega) hw
  rw [e, stepN_add, e2]
  exact re_hit hd h0 h1 hm2
theorem search_end {T : Array Nat} {s d : Nat} {must : Bool} (hd : s + d = T.size) (hw : ∀ j, s ≤ j → j < s + d → T.getD j 0 ≠ 32 ∧ T.getD j 0 ≠ 9) :
    (stepN (3 * d + 4) (forSearch reC T 1 s T.size must)).outcome = some .failed := by
  rcases Nat.eq_zero_or_pos d with rfl | hp
  · have e1 : ∃ m : M, forSearch reC T 1 s T.size must = m.say false ∧ m.outcome = none ∧ m.frames = [] := by
      refine ⟨{ code := reC, text := T, lim := T.size, start := s, pc := 5, pos := s, handed := s, marks := #[none, none], mustAdvance := must, seen := ({} : Seen).add 14 }, ?_, rfl, rfl⟩
      show (if (decide (s > T.size) || decide (T.size - s < 1)) = true then _ else _) = _
      rw [if_pos (by simp; omega)]
      rfl
    obtain ⟨m, e1, ho, hf⟩ := e1
    rw [e1]
    have e2 : (m.say false).step = { m.say false with outcome := some .failed } := by
      unfold M.step
      rw [if_neg (by show ¬ (m.outcome.isSome = true); rw [ho]; decide)]
      show (match some false, m.frames with | some yes, [] => _ | some yes, f :: rest => _ | none, _ => _) = _
      rw [hf]
      rfl
    show (stepN 3 (m.say false).step).outcome = _
    rw [e2, stepN_done rfl]
  · obtain ⟨seen, e⟩ := forSearch_eq (must := must) (show s < T.size by omega)
    obtain ⟨m2, f2, u2, s2, hm2, e2⟩ := re_walk (T := T) d s #[none, none] true must seen rfl (by omega) hw
    rw [e, stepN_add, e2, hd]
    exact re_end
end Mine
end
section
open PySem PySem.W PyProof.Rows
set_option Elab.async false
set_option maxRecDepth 100000
set_option maxHeartbeats 0
namespace Mine.U
noncomputable def uS (x : String) (t : Nat) : Value := .str (Str.ofString x) t
noncomputable def uE (P : Params) (x : String) (t : Nat) (v : Value) : DictEntry := ⟨PyData.keyHash P (Str.ofString x), .str (Str.ofString x) t, v⟩
noncomputable def uD (l : List DictEntry) (n : Nat) : Obj := ⟨.type "dict", none, .dict ⟨l⟩ n, #[]⟩
noncomputable def uQ (c : Value) (l : List Value) (n : Nat) : Obj := ⟨c, none, .seq ⟨l⟩ n, #[]⟩
noncomputable def uF (c : Value) (l : List Value) : Obj := ⟨c, none, .fields ⟨l⟩, #[]⟩
noncomputable def uG (c : Value) (l : List (Option Value)) : Obj := ⟨c, none, .plain, ⟨l⟩⟩
noncomputable def uM (c : Value) (d : Addr) : Obj := ⟨c, some d, .plain, #[]⟩
noncomputable def uK (K : Frag) (a : Addr) : Obj := (K.lookup a).getD default
noncomputable def uT (K : Frag) (a : Addr) : Obj := match uK K a with
  | ⟨_, _, .func f, _⟩ => ⟨.none, none, .func { name := f.name, qualname := f.qualname, params := f.params, body := f.body, scope := f.scope, globals := 0, closure := [], defaults := .none, kwdefaults := .none }, #[]⟩
  | o => o
noncomputable def uP (K : Frag) (n : Nat) : Obj := match uK K 2 with
  | ⟨c, d, .dict ⟨l⟩ _, s⟩ => ⟨c, d, .dict ⟨l.take n⟩ n, s⟩
  | o => o
noncomputable def uN (K : Frag) (n : Nat) (x : String) (t : Nat) : Obj := match uK K 3 with
  | ⟨c, d, .dict ⟨e :: l⟩ _, s⟩ => ⟨c, d, .dict ⟨(⟨e.hash, e.key, uS x t⟩ :: l).take n⟩ n, s⟩
  | o => o
noncomputable def uL (n : Nat) : Obj := uF .none (List.take n [(.int 2 0), (.int 0 0), (.ref 37), (.int 6 0), (.int 0 0), (.ref 44), (.int 23 0), (.int 0 0), (.ref 56), (.int 95 0), (.int 0 0), (.ref 134), (.int 132 0), (.int 0 0), (.ref 217), (.int 134 0), (.int 0 0), (.ref 230), (.int 136 0), (.int 0 0), (.ref 242), (.int 154 0), (.int 0 0), (.ref 247), (.int 165 0), (.int 0 0), (.ref 254), (.int 176 0), (.int 0 0), (.ref 259), (.int 193 0), (.int 0 0), (.ref 264)])
noncomputable def oA (_ : Frag) (P : Params) (r : List Obj) : List Obj :=
  boot_o_0 P ::
  uD [uE P "builtins" 162 (.ref 4), uE P "__main__" 163 (.ref 5), uE P "_sre" 244 (.ref 12)] 3 :: r
noncomputable def oB (_ : Frag) (P : Params) (r : List Obj) : List Obj :=
  boot_o_4 P ::
  boot_o_5 P ::
  boot_o_6 P ::
  boot_o_7 P ::
  boot_o_8 P ::
  boot_o_9 P ::
  boot_o_10 P ::
  uD [uE P "__name__" 247 (uS "_sre" 246), uE P "__doc__" 248 .none, uE P "__package__" 250 (uS "" 249), uE P "__loader__" 251 (.builtin "off-the-table:_sre.__loader__:shared#opaque"), uE P "__spec__" 252 (.builtin "off-the-table:_sre.__spec__:shared#opaque"), uE P "compile" 253 (.builtin "_sre.compile"), uE P "template" 254 (.builtin "off-the-table:_sre.template:shared#opaque"), uE P "getcodesize" 255 (.builtin "off-the-table:_sre.getcodesize:shared#opaque"), uE P "ascii_iscased" 256 (.builtin "off-the-table:_sre.ascii_iscased:shared#opaque"), uE P "unicode_iscased" 257 (.builtin "off-the-table:_sre.unicode_iscased:shared#opaque"), uE P "ascii_tolower" 258 (.builtin "off-the-table:_sre.ascii_tolower:shared#opaque"), uE P "unicode_tolower" 259 (.builtin "off-the-table:_sre.unicode_tolower:shared#opaque"), uE P "MAGIC" 261 (.int 20230612 260), uE P "CODESIZE" 263 (.int 4 262), uE P "MAXREPEAT" 265 (.int 4294967295 264), uE P "MAXGROUPS" 267 (.int 1073741823 266), uE P "copyright" 269 (uS " SRE 2.2.2 Copyright (c) 1997-2002 by Secret Labs AB " 268)] 17 ::
  uM (.type "module") 11 ::
  uD [uE P "__module__" 189 (uS "_frozen_importlib" 186), uE P "__firstlineno__" 190 (.int 971 187), uE P "__doc__" 191 (.builtin "_frozen_importlib.BuiltinImporter.__doc__:str#opaque"), uE P "_ORIGIN" 192 (uS "built-in" 188), uE P "find_spec" 193 (.builtin "_frozen_importlib.BuiltinImporter.find_spec#opaque"), uE P "create_module" 194 (.builtin "_frozen_importlib.BuiltinImporter.create_module#opaque"), uE P "exec_module" 195 (.builtin "_frozen_importlib.BuiltinImporter.exec_module#opaque"), uE P "get_code" 196 (.builtin "_frozen_importlib.BuiltinImporter.get_code#opaque"), uE P "get_source" 197 (.builtin "_frozen_importlib.BuiltinImporter.get_source#opaque"), uE P "is_package" 198 (.builtin "_frozen_importlib.BuiltinImporter.is_package#opaque"), uE P "load_module" 199 (.builtin "_frozen_importlib.BuiltinImporter.load_module#opaque"), uE P "__static_attributes__" 200 (.ref 15), uE P "__dict__" 202 (.ref 16), uE P "__weakref__" 204 (.ref 17)] 14 ::
  { cls := Value.type "type", data :=  Data.cls  { name := Str.ofString "BuiltinImporter", bases := [Value.type "object"],   mro := [Value.ref 14, Value.type "object"], ns := 13, qualname := Str.ofString "BuiltinImporter" } } ::
  uQ (.type "tuple") [] 0 ::
  uF (.type "getset_descriptor") [(uS "__dict__" 201), (.ref 14), (.builtin "function.__dict__"), (.builtin "function.__dict__#set")] ::
  uF (.type "getset_descriptor") [(uS "__weakref__" 203), (.ref 14), (.builtin "ExceptionGroup.__weakref__"), .none] ::
  uQ .none [(.int 13 0), (.str ⟨#[6, 189, 10, 95, 95, 109, 111, 100, 117, 108, 101, 95, 95, 6, 186, 17, 95, 102, 114, 111, 122, 101, 110, 95, 105, 109, 112, 111, 114, 116, 108, 105, 98, 6, 190, 15, 95, 95, 102, 105, 114, 115, 116, 108, 105, 110, 101, 110, 111, 95, 95, 4, 187, 0, 971, 6, 191, 7, 95, 95, 100, 111, 99, 95, 95, 9, 52, 95, 102, 114, 111, 122, 101, 110, 95, 105, 109, 112, 111, 114, 116, 108, 105, 98, 46, 66, 117, 105, 108, 116, 105, 110, 73, 109, 112, 111, 114, 116, 101, 114, 46, 95, 95, 100, 111, 99, 95, 95, 58, 115, 116, 114, 35, 111, 112, 97, 113, 117, 101, 6, 192, 7, 95, 79, 82, 73, 71, 73, 78, 6, 188, 8, 98, 117, 105, 108, 116, 45, 105, 110, 6, 193, 9, 102, 105, 110, 100, 95, 115, 112, 101, 99, 9, 50, 95, 102, 114, 111, 122, 101, 110, 95, 105, 109, 112, 111, 114, 116, 108, 105, 98, 46, 66, 117, 105, 108, 116, 105, 110, 73, 109, 112, 111, 114, 116, 101, 114, 46, 102, 105, 110, 100, 95, 115, 112, 101, 99, 35, 111, 112, 97, 113, 117, 101, 6, 194, 13, 99, 114, 101, 97, 116, 101, 95, 109, 111, 100, 117, 108, 101, 9, 54, 95, 102, 114, 111, 122, 101, 110, 95, 105, 109, 112, 111, 114, 116, 108, 105, 98, 46, 66, 117, 105, 108, 116, 105, 110, 73, 109, 112, 111, 114, 116, 101, 114, 46, 99, 114, 101, 97, 116, 101, 95, 109, 111, 100, 117, 108, 101, 35, 111, 112, 97, 113, 117, 101, 6, 195, 11, 101, 120, 101, 99, 95, 109, 111, 100, 117, 108, 101, 9, 52, 95, 102, 114, 111, 122, 101, 110, 95, 105, 109, 112, 111, 114, 116, 108, 105, 98, 46, 66, 117, 105, 108, 116, 105, 110, 73, 109, 112, 111, 114, 116, 101, 114, 46, 101, 120, 101, 99, 95, 109, 111, 100, 117, 108, 101, 35, 111, 112, 97, 113, 117, 101, 6, 196, 8, 103, 101, 116, 95, 99, 111, 100, 101, 9, 49, 95, 102, 114, 111, 122, 101, 110, 95, 105, 109, 112, 111, 114, 116, 108, 105, 98, 46, 66, 117, 105, 108, 116, 105, 110, 73, 109, 112, 111, 114, 116, 101, 114, 46, 103, 101, 116, 95, 99, 111, 100, 101, 35, 111, 112, 97, 113, 117, 101, 6, 197, 10, 103, 101, 116, 95, 115, 111, 117, 114, 99, 101, 9, 51, 95, 102, 114, 111, 122, 101, 110, 95, 105, 109, 112, 111, 114, 116, 108, 105, 98, 46, 66, 117, 105, 108, 116, 105, 110, 73, 109, 112, 111, 114, 116, 101, 114, 46, 103, 101, 116, 95, 115, 111, 117, 114, 99, 101, 35, 111, 112, 97, 113, 117, 101, 6, 198, 10, 105, 115, 95, 112, 97, 99, 107, 97, 103, 101, 9, 51, 95, 102, 114, 111, 122, 101, 110, 95, 105, 109, 112, 111, 114, 116, 108, 105, 98, 46, 66, 117, 105, 108, 116, 105, 110, 73, 109, 112, 111, 114, 116, 101, 114, 46, 105, 115, 95, 112, 97, 99, 107, 97, 103, 101, 35, 111, 112, 97, 113, 117, 101, 6, 199, 11, 108, 111, 97, 100, 95, 109, 111, 100, 117, 108, 101, 9, 52, 95, 102, 114, 111, 122, 101, 110, 95, 105, 109, 112, 111, 114, 116, 108, 105, 98, 46, 66, 117, 105, 108, 116, 105, 110, 73, 109, 112, 111, 114, 116, 101, 114, 46, 108, 111, 97, 100, 95, 109, 111, 100, 117, 108, 101, 35, 111, 112, 97, 113, 117, 101, 6, 200, 21, 95, 95, 115, 116, 97, 116, 105, 99, 95, 97, 116, 116, 114, 105, 98, 117, 116, 101, 115, 95, 95, 4, 0, 0, 15, 6, 202, 8, 95, 95, 100, 105, 99, 116, 95, 95, 4, 0, 0, 16, 6, 204, 11, 95, 95, 119, 101, 97, 107, 114, 101, 102, 95, 95, 4, 0, 0, 17]⟩ 0), (.bool true), (.bool true), (uS "" 205), (.int 21 0), (.str ⟨#[6, 227, 10, 95, 95, 109, 111, 100, 117, 108, 101, 95, 95, 6, 217, 17, 95, 102, 114, 111, 122, 101, 110, 95, 105, 109, 112, 111, 114, 116, 108, 105, 98, 6, 228, 15, 95, 95, 102, 105, 114, 115, 116, 108, 105, 110, 101, 110, 111, 95, 95, 4, 218, 0, 562, 6, 229, 7, 95, 95, 100, 111, 99, 95, 95, 9, 47, 95, 102, 114, 111, 122, 101, 110, 95, 105, 109, 112, 111, 114, 116, 108, 105, 98, 46, 77, 111, 100, 117, 108, 101, 83, 112, 101, 99, 46, 95, 95, 100, 111, 99, 95, 95, 58, 115, 116, 114, 35, 111, 112, 97, 113, 117, 101, 6, 230, 8, 95, 95, 105, 110, 105, 116, 95, 95, 9, 44, 95, 102, 114, 111, 122, 101, 110, 95, 105, 109, 112, 111, 114, 116, 108, 105, 98, 46, 77, 111, 100, 117, 108, 101, 83, 112, 101, 99, 46, 95, 95, 105, 110, 105, 116, 95, 95, 35, 111, 112, 97, 113, 117, 101, 6, 231, 8, 95, 95, 114, 101, 112, 114, 95, 95, 9, 44, 95, 102, 114, 111, 122, 101, 110, 95, 105, 109, 112, 111, 114, 116, 108, 105, 98, 46, 77, 111, 100, 117, 108, 101, 83, 112, 101, 99, 46, 95, 95, 114, 101, 112, 114, 95, 95, 35, 111, 112, 97, 113, 117, 101, 6, 232, 6, 95, 95, 101, 113, 95, 95, 9, 42, 95, 102, 114, 111, 122, 101, 110, 95, 105, 109, 112, 111, 114, 116, 108, 105, 98, 46, 77, 111, 100, 117, 108, 101, 83, 112, 101, 99, 46, 95, 95, 101, 113, 95, 95, 35, 111, 112, 97, 113, 117, 101, 6, 233, 6, 99, 97, 99, 104, 101, 100, 9, 42, 95, 102, 114, 111, 122, 101, 110, 95, 105, 109, 112, 111, 114, 116, 108, 105, 98, 46, 77, 111, 100, 117, 108, 101, 83, 112, 101, 99, 46, 99, 97, 99, 104, 101, 100, 35, 111, 112, 97, 113, 117, 101, 6, 234, 6, 112, 97, 114, 101, 110, 116, 9, 42, 95, 102, 114, 111, 122, 101, 110, 95, 105, 109, 112, 111, 114, 116, 108, 105, 98, 46, 77, 111, 100, 117, 108, 101, 83, 112, 101, 99, 46, 112, 97, 114, 101, 110, 116, 35, 111, 112, 97, 113, 117, 101, 6, 235, 12, 104, 97, 115, 95, 108, 111, 99, 97, 116, 105, 111, 110, 9, 48, 95, 102, 114, 111, 122, 101, 110, 95, 105, 109, 112, 111, 114, 116, 108, 105, 98, 46, 77, 111, 100, 117, 108, 101, 83, 112, 101, 99, 46, 104, 97, 115, 95, 108, 111, 99, 97, 116, 105, 111, 110, 35, 111, 112, 97, 113, 117, 101, 6, 236, 21, 95, 95, 115, 116, 97, 116, 105, 99, 95, 97, 116, 116, 114, 105, 98, 117, 116, 101, 115, 95, 95, 4, 0, 0, 23, 6, 238, 8, 95, 95, 100, 105, 99, 116, 95, 95, 4, 0, 0, 24, 6, 240, 11, 95, 95, 119, 101, 97, 107, 114, 101, 102, 95, 95, 4, 0, 0, 25, 6, 241, 8, 95, 95, 104, 97, 115, 104, 95, 95, 0]⟩ 0), (.bool true), (.bool true), (uS "" 242)] 1 ::
  uQ (.type "list") [] 0 ::
  uD [uE P "name" 208 (uS "_sre" 207), uE P "loader" 209 (.ref 14), uE P "origin" 210 (uS "built-in" 184), uE P "loader_state" 211 .none, uE P "submodule_search_locations" 212 .none, uE P "_uninitialized_submodules" 213 (.ref 19), uE P "_set_fileattr" 214 (.bool false), uE P "_cached" 215 .none, uE P "_initializing" 243 (.bool false)] 9 ::
  uD [uE P "__module__" 227 (uS "_frozen_importlib" 217), uE P "__firstlineno__" 228 (.int 562 218), uE P "__doc__" 229 (.builtin "_frozen_importlib.ModuleSpec.__doc__:str#opaque"), uE P "__init__" 230 (.builtin "_frozen_importlib.ModuleSpec.__init__#opaque"), uE P "__repr__" 231 (.builtin "_frozen_importlib.ModuleSpec.__repr__#opaque"), uE P "__eq__" 232 (.builtin "_frozen_importlib.ModuleSpec.__eq__#opaque"), uE P "cached" 233 (.builtin "_frozen_importlib.ModuleSpec.cached#opaque"), uE P "parent" 234 (.builtin "_frozen_importlib.ModuleSpec.parent#opaque"), uE P "has_location" 235 (.builtin "_frozen_importlib.ModuleSpec.has_location#opaque"), uE P "__static_attributes__" 236 (.ref 23), uE P "__dict__" 238 (.ref 24), uE P "__weakref__" 240 (.ref 25), uE P "__hash__" 241 .none] 13 ::
  { cls := Value.type "type", data :=  Data.cls  { name := Str.ofString "ModuleSpec", bases := [Value.type "object"], mro := [Value.ref 22, Value.type "object"],   ns := 21, qualname := Str.ofString "ModuleSpec" } } ::
  uQ (.type "tuple") [(uS "_cached" 219), (uS "_set_fileattr" 220), (uS "_uninitialized_submodules" 221), (uS "loader" 222), (uS "loader_state" 223), (uS "name" 224), (uS "origin" 225), (uS "submodule_search_locations" 226)] 0 ::
  uF (.type "getset_descriptor") [(uS "__dict__" 237), (.ref 22), (.builtin "function.__dict__"), (.builtin "function.__dict__#set")] ::
  uF (.type "getset_descriptor") [(uS "__weakref__" 239), (.ref 22), (.builtin "ExceptionGroup.__weakref__"), .none] ::
  uM (.ref 22) 20 ::
  uQ .none [(.int 11 0), (.str ⟨#[6, 247, 8, 95, 95, 110, 97, 109, 101, 95, 95, 6, 246, 4, 95, 115, 114, 101, 6, 248, 7, 95, 95, 100, 111, 99, 95, 95, 0, 6, 250, 11, 95, 95, 112, 97, 99, 107, 97, 103, 101, 95, 95, 6, 249, 0, 6, 251, 10, 95, 95, 108, 111, 97, 100, 101, 114, 95, 95, 4, 0, 0, 14, 6, 252, 8, 95, 95, 115, 112, 101, 99, 95, 95, 4, 0, 0, 26, 6, 253, 7, 99, 111, 109, 112, 105, 108, 101, 9, 12, 95, 115, 114, 101, 46, 99, 111, 109, 112, 105, 108, 101, 6, 254, 8, 116, 101, 109, 112, 108, 97, 116, 101, 9, 13, 95, 115, 114, 101, 46, 116, 101, 109, 112, 108, 97, 116, 101, 6, 255, 11, 103, 101, 116, 99, 111, 100, 101, 115, 105, 122, 101, 9, 16, 95, 115, 114, 101, 46, 103, 101, 116, 99, 111, 100, 101, 115, 105, 122, 101, 6, 256, 13, 97, 115, 99, 105, 105, 95, 105, 115, 99, 97, 115, 101, 100, 9, 18, 95, 115, 114, 101, 46, 97, 115, 99, 105, 105, 95, 105, 115, 99, 97, 115, 101, 100, 6, 257, 15, 117, 110, 105, 99, 111, 100, 101, 95, 105, 115, 99, 97, 115, 101, 100, 9, 20, 95, 115, 114, 101, 46, 117, 110, 105, 99, 111, 100, 101, 95, 105, 115, 99, 97, 115, 101, 100, 6, 258, 13, 97, 115, 99, 105, 105, 95, 116, 111, 108, 111, 119, 101, 114, 9, 18, 95, 115, 114, 101, 46, 97, 115, 99, 105, 105, 95, 116, 111, 108, 111, 119, 101, 114, 6, 259, 15, 117, 110, 105, 99, 111, 100, 101, 95, 116, 111, 108, 111, 119, 101, 114, 9, 20, 95, 115, 114, 101, 46, 117, 110, 105, 99, 111, 100, 101, 95, 116, 111, 108, 111, 119, 101, 114, 6, 261, 5, 77, 65, 71, 73, 67, 4, 260, 0, 20230612, 6, 263, 8, 67, 79, 68, 69, 83, 73, 90, 69, 4, 262, 0, 4, 6, 265, 9, 77, 65, 88, 82, 69, 80, 69, 65, 84, 4, 264, 0, 4294967295, 6, 267, 9, 77, 65, 88, 71, 82, 79, 85, 80, 83, 4, 266, 0, 1073741823, 6, 269, 9, 99, 111, 112, 121, 114, 105, 103, 104, 116, 6, 268, 53, 32, 83, 82, 69, 32, 50, 46, 50, 46, 50, 32, 67, 111, 112, 121, 114, 105, 103, 104, 116, 32, 40, 99, 41, 32, 49, 57, 57, 55, 45, 50, 48, 48, 50, 32, 98, 121, 32, 83, 101, 99, 114, 101, 116, 32, 76, 97, 98, 115, 32, 65, 66, 32]⟩ 0), (.bool true), (.bool false), (uS "_sre" 271)] 0 :: r
noncomputable def oC (_ : Frag) (_ : Params) (r : List Obj) : List Obj :=
  uF (.type "code") [(uS "<module>" 277), (uS "<module>" 278), (uS "/claim/cut.py" 279), (.int 1 0), (.int 0 0), (.int 0 0), (.int 0 0), (.int 0 0), (.ref 28), (.bool false), (.int 276 0), (.ref 29), .none, .none, .none, .none, (.int 280 0), (.int 1 0), (uS "/claim/cut.py" 281)] ::
  uG (.type "frame") [some (.ref 30), some (.ref 3), some (.ref 3), none, some (uS "__main__" 164), none, some (.ref 0)] :: r
noncomputable def oD (K : Frag) (P : Params) (r : List Obj) : List Obj :=
  uK K 32 ::
  uF .none [] ::
  uK K 34 ::
  uK K 35 ::
  uT K 38 ::
  uK K 37 ::
  uK K 38 ::
  uK K 39 ::
  uF .none [] ::
  uK K 41 ::
  uK K 42 ::
  uT K 45 ::
  uK K 44 ::
  uK K 45 ::
  uQ (.type "list") [(.int 14 306), (.int 4 307), (.int 0 308), (.int 1 309), (.int 4294967295 310), (.int 17 311), (.int 0 312), (.int 24 313), (.int 11 314), (.int 1 315), (.int 4294967295 316), (.int 13 317), (.int 6 318), (.int 16 319), (.int 32 320), (.int 16 321), (.int 9 322), (.int 0 323), (.int 1 324), (.int 17 325), (.int 1 326), (.int 1 327)] 0 ::
  uD [] 0 ::
  uQ (.type "tuple") [.none, .none] 0 ::
  uK K 49 ::
  uK K 50 ::
  uQ (.type "tuple") [] 0 ::
  uF (.type "builtin_function_or_method") [(.builtin "type.__prepare__"), (.type "type")] ::
  uD [uE P "__module__" 342 (uS "cpy313.email.header" 301), uE P "__qualname__" 344 (uS "_ValueFormatter" 343), uE P "__firstlineno__" 346 (.int 23 345), uE P "__init__" 357 (.ref 64), uE P "_str" 365 (.ref 71), uE P "__str__" 372 (.ref 78), uE P "newline" 380 (.ref 85), uE P "add_transition" 387 (.ref 92), uE P "feed" 397 (.ref 99), uE P "_maxlengths" 404 (.ref 106), uE P "_ascii_split" 416 (.ref 113), uE P "_append_chunk" 430 (.ref 120), uE P "__static_attributes__" 437 (.ref 121)] 13 ::
  uQ (.type "tuple") [] 0 ::
  uF .none [(.int 25 0), (.int 4 0), (.ref 63), (.int 33 0), (.int 4 0), (.ref 70), (.int 37 0), (.int 4 0), (.ref 77), (.int 40 0), (.int 4 0), (.ref 84), (.int 51 0), (.int 4 0), (.ref 91), (.int 54 0), (.int 4 0), (.ref 98), (.int 57 0), (.int 4 0), (.ref 105), (.int 60 0), (.int 4 0), (.ref 112), (.int 69 0), (.int 4 0), (.ref 119)] ::
  uF (.type "code") [(uS "_ValueFormatter" 337), (uS "_ValueFormatter" 338), (uS "/claim/cut.py" 339), (.int 23 0), (.int 0 0), (.int 0 0), (.int 0 0), (.int 0 0), (.ref 54), (.bool false), (.int 276 0), (.ref 55), .none, .none, .none, .none, (.int 340 0), (.int 23 0), (uS "/claim/cut.py" 341)] ::
  uG (.type "frame") [some (.ref 56), some (.ref 3), some (.ref 53), none, some (uS "cpy313.email.header" 301), none, some (.ref 0)] ::
  uK K 58 ::
  uF .none [] ::
  uK K 60 ::
  uK K 61 ::
  uT K 64 ::
  uK K 63 ::
  uK K 64 ::
  uK K 65 ::
  uF .none [] ::
  uK K 67 ::
  uK K 68 ::
  uT K 71 ::
  uK K 70 ::
  uK K 71 ::
  uK K 72 ::
  uF .none [] ::
  uK K 74 ::
  uK K 75 ::
  uT K 78 ::
  uK K 77 ::
  uK K 78 ::
  uK K 79 ::
  uF .none [] ::
  uK K 81 ::
  uK K 82 ::
  uT K 85 ::
  uK K 84 ::
  uK K 85 ::
  uK K 86 ::
  uF .none [] ::
  uK K 88 ::
  uK K 89 ::
  uT K 92 ::
  uK K 91 ::
  uK K 92 ::
  uK K 93 ::
  uF .none [] ::
  uK K 95 ::
  uK K 96 ::
  uT K 99 ::
  uK K 98 ::
  uK K 99 ::
  uK K 100 ::
  uF .none [] ::
  uK K 102 ::
  uK K 103 ::
  uT K 106 ::
  uK K 105 ::
  uK K 106 ::
  uK K 107 ::
  uF .none [] ::
  uK K 109 ::
  uK K 110 ::
  uT K 113 ::
  uK K 112 ::
  uK K 113 ::
  uK K 114 ::
  uF .none [] ::
  uK K 116 ::
  uK K 117 ::
  uT K 120 ::
  uK K 119 ::
  uK K 120 ::
  uK K 121 ::
  uK K 122 ::
  uK K 123 ::
  uK K 124 ::
  uK K 125 ::
  uF (.type "super") [(.ref 123), (.ref 123), (.ref 123)] ::
  uF (.type "builtin_function_or_method") [(.builtin "object.__init_subclass__"), (.ref 123)] :: r
noncomputable def oE (K : Frag) (P : Params) (r : List Obj) : List Obj :=
  uK K 128 ::
  uF (.type "builtin_function_or_method") [(.builtin "type.__prepare__"), (.type "type")] ::
  uD [uE P "__module__" 452 (uS "cpy313.email.header" 301), uE P "__qualname__" 454 (uS "_Accumulator" 453), uE P "__firstlineno__" 456 (.int 95 455), uE P "__init__" 466 (.ref 144), uE P "push" 475 (.ref 151), uE P "pop_from" 485 (.ref 159), uE P "pop" 493 (.ref 167), uE P "__len__" 500 (.ref 174), uE P "__str__" 507 (.ref 181), uE P "reset" 515 (.ref 189), uE P "is_onlyws" 522 (.ref 196), uE P "part_count" 530 (.ref 204), uE P "__static_attributes__" 532 (.ref 205), uE P "__classcell__" 533 (.ref 131)] 14 ::
  uK K 131 ::
  uQ (.type "tuple") [] 0 ::
  uF .none [(.int 97 0), (.int 4 0), (.ref 143), (.int 101 0), (.int 4 0), (.ref 150), (.int 104 0), (.int 4 0), (.ref 158), (.int 109 0), (.int 4 0), (.ref 166), (.int 114 0), (.int 4 0), (.ref 173), (.int 117 0), (.int 4 0), (.ref 180), (.int 120 0), (.int 4 0), (.ref 188), (.int 126 0), (.int 4 0), (.ref 195), (.int 129 0), (.int 4 0), (.ref 203)] ::
  uF (.type "code") [(uS "_Accumulator" 447), (uS "_Accumulator" 448), (uS "/claim/cut.py" 449), (.int 95 0), (.int 0 0), (.int 0 0), (.int 0 0), (.int 0 0), (.ref 132), (.bool false), (.int 276 0), (.ref 133), .none, .none, .none, .none, (.int 450 0), (.int 95 0), (uS "/claim/cut.py" 451)] ::
  uG (.type "frame") [some (.ref 134), some (.ref 3), some (.ref 130), none, some (uS "cpy313.email.header" 301), none, some (.ref 0)] ::
  uK K 136 ::
  uK K 137 ::
  uK K 138 ::
  uF .none [] ::
  uK K 140 ::
  uK K 141 ::
  uT K 144 ::
  uK K 143 ::
  uK K 144 ::
  uK K 145 ::
  uF .none [] ::
  uK K 147 ::
  uK K 148 ::
  uT K 151 ::
  uK K 150 ::
  uK K 151 ::
  uK K 152 ::
  uK K 153 ::
  uF .none [] ::
  uK K 155 ::
  uK K 156 ::
  uT K 159 ::
  uK K 158 ::
  uK K 159 ::
  uK K 160 ::
  uK K 161 ::
  uF .none [] ::
  uK K 163 ::
  uK K 164 ::
  uT K 167 ::
  uK K 166 ::
  uK K 167 ::
  uK K 168 ::
  uF .none [] ::
  uK K 170 ::
  uK K 171 ::
  uT K 174 ::
  uK K 173 ::
  uK K 174 ::
  uK K 175 ::
  uF .none [] ::
  uK K 177 ::
  uK K 178 ::
  uT K 181 ::
  uK K 180 ::
  uK K 181 ::
  uK K 182 ::
  uK K 183 ::
  uF .none [] ::
  uK K 185 ::
  uK K 186 ::
  uT K 189 ::
  uK K 188 ::
  uK K 189 ::
  uK K 190 ::
  uF .none [] ::
  uK K 192 ::
  uK K 193 ::
  uT K 196 ::
  uK K 195 ::
  uK K 196 ::
  uK K 197 ::
  uK K 198 ::
  uF .none [] ::
  uK K 200 ::
  uK K 201 ::
  uT K 204 ::
  uK K 203 ::
  uK K 204 ::
  uK K 205 ::
  uK K 206 ::
  uK K 207 ::
  uK K 208 ::
  uK K 209 ::
  uF (.type "super") [(.ref 207), (.ref 207), (.ref 207)] ::
  uF (.type "builtin_function_or_method") [(.builtin "object.__init_subclass__"), (.ref 207)] :: r
noncomputable def oF (K : Frag) (P : Params) (r : List Obj) : List Obj :=
  uK K 212 ::
  uF (.type "builtin_function_or_method") [(.builtin "type.__prepare__"), (.type "type")] ::
  uD [uE P "__module__" 550 (uS "cpy313.ftplib" 541), uE P "__qualname__" 552 (uS "Error" 551), uE P "__firstlineno__" 554 (.int 132 553), uE P "__static_attributes__" 555 (.ref 219)] 4 ::
  uQ (.type "tuple") [] 0 ::
  uF .none [] ::
  uF (.type "code") [(uS "Error" 545), (uS "Error" 546), (uS "/claim/cut.py" 547), (.int 132 0), (.int 0 0), (.int 0 0), (.int 0 0), (.int 0 0), (.ref 215), (.bool false), (.int 276 0), (.ref 216), .none, .none, .none, .none, (.int 548 0), (.int 132 0), (uS "/claim/cut.py" 549)] ::
  uG (.type "frame") [some (.ref 217), some (.ref 3), some (.ref 214), none, some (uS "cpy313.ftplib" 541), none, some (.ref 0)] ::
  uK K 219 ::
  uK K 220 ::
  uK K 221 ::
  uK K 222 ::
  uF (.type "super") [(.ref 221), (.ref 221), (.ref 221)] ::
  uF (.type "builtin_function_or_method") [(.builtin "object.__init_subclass__"), (.ref 221)] ::
  uK K 225 ::
  uF (.type "builtin_function_or_method") [(.builtin "type.__prepare__"), (.type "type")] ::
  uD [uE P "__module__" 570 (uS "cpy313.ftplib" 541), uE P "__qualname__" 572 (uS "error_reply" 571), uE P "__firstlineno__" 574 (.int 134 573), uE P "__static_attributes__" 575 (.ref 232)] 4 ::
  uQ (.type "tuple") [] 0 ::
  uF .none [] ::
  uF (.type "code") [(uS "error_reply" 565), (uS "error_reply" 566), (uS "/claim/cut.py" 567), (.int 134 0), (.int 0 0), (.int 0 0), (.int 0 0), (.int 0 0), (.ref 228), (.bool false), (.int 276 0), (.ref 229), .none, .none, .none, .none, (.int 568 0), (.int 134 0), (uS "/claim/cut.py" 569)] ::
  uG (.type "frame") [some (.ref 230), some (.ref 3), some (.ref 227), none, some (uS "cpy313.ftplib" 541), none, some (.ref 0)] ::
  uK K 232 ::
  uK K 233 ::
  uK K 234 ::
  uF (.type "super") [(.ref 234), (.ref 234), (.ref 234)] ::
  uF (.type "builtin_function_or_method") [(.builtin "object.__init_subclass__"), (.ref 234)] ::
  uK K 237 ::
  uF .none [] ::
  uK K 239 ::
  uK K 240 ::
  uT K 243 ::
  uK K 242 ::
  uK K 243 ::
  uK K 244 ::
  uF .none [] ::
  uT K 248 ::
  uK K 247 ::
  uK K 248 ::
  uK K 249 ::
  uF .none [] ::
  uK K 251 ::
  uK K 252 ::
  uT K 255 ::
  uK K 254 ::
  uK K 255 ::
  uK K 256 ::
  uF .none [] ::
  uT K 260 ::
  uK K 259 ::
  uK K 260 ::
  uK K 261 ::
  uF .none [] ::
  uT K 265 ::
  uK K 264 ::
  uK K 265 :: r
noncomputable def eo : Bool → List Obj → List Obj
  | _, [] => []
  | true, x :: r => x :: eo false r
  | false, _ :: r => eo true r
noncomputable def mT : Nat → List Obj → BT
  | 0, _ => .nil
  | _, [] => .nil
  | n + 1, x :: r => .node x (mT n (eo true r)) (mT n (eo false r))
noncomputable abbrev l0 (K : Frag) (P : Params) : List Obj := oA K P (uP K 9 :: uN K 10 "__main__" 164 :: oB K P [])
noncomputable abbrev lA (K : Frag) (P : Params) : List Obj := oA K P (uP K 9 :: uN K 10 "__main__" 164 :: oB K P (uQ (.type "tuple") [] 0 :: uL 0 :: oC K P []))
noncomputable abbrev lB (K : Frag) (P : Params) : List Obj := oA K P (uP K 9 :: uN K 16 "cpy313.email.header" 301 :: oB K P (uQ (.type "tuple") [] 0 :: uL 9 :: oC K P (oD K P [])))
noncomputable abbrev lC (K : Frag) (P : Params) : List Obj := oA K P (uP K 9 :: uN K 17 "cpy313.email.header" 301 :: oB K P (uQ (.type "tuple") [] 0 :: uL 12 :: oC K P (oD K P (oE K P []))))
noncomputable abbrev lZ (K : Frag) (P : Params) : List Obj := oA K P (uK K 2 :: uK K 3 :: oB K P (uQ (.type "tuple") [] 0 :: uL 33 :: oC K P (oD K P (oE K P (oF K P [])))))
noncomputable abbrev hh (l : List Obj) (P : Params) : Heap := ⟨⟨l⟩, (boot_heap P).life⟩
noncomputable abbrev sh (l : List Obj) (P : Params) (k : Nat) (os : OsState) : Shared := ⟨hh l P, #[], boot_drawn, k, os⟩
noncomputable abbrev st (l : List Obj) (P : Params) (n k : Nat) (os : OsState) : SharedT := ⟨mT 9 l, n, (boot_heap P).life, #[], boot_drawn, k, os⟩
noncomputable def bE (p : Program) : Env := { scope := p.main.scope, locals := mainNs, globals := mainNs, cells := [], code := .ref 30, frame := some 31 }
noncomputable abbrev bC (p : Program) : Code := .body (behindTheImports p) (bE p)
noncomputable abbrev po (l c m d : Nat) : Pos := { line := l, col := c, endLine := m, endCol := d }
noncomputable abbrev pq : Pos := po 0 0 0 0
noncomputable abbrev rT (p : Program) (w : World) (n : Nat) (s : SharedT) (l : List Stmt) (q : Pos) : Option (Flow × SharedT × Code × Pos) := segRunT treeTable p w 28 (some (.ref 6)) 1 n s (piecesOf l (bE p) (bC p) q [topFrame pq])
theorem left_by {p q : Program} {loose : List Str} {Xt : Shared → Bool} {K : Params → Frag} {as ts : List Addr} {e : ∀ P, as = (K P).map (·.1)} {N : Nat} {g0 : Bool} {n1 n2 n3 m : Nat}
    (ho : ∀ w : World, (fencedOpening treeTable p w N).map (fun s => (s.heap, s.gens, s.drawn, s.toks)) = some (hh (l0 (K w.params) w.params) w.params, #[], boot_drawn, 276))
    (hs : ∀ w : World, ((hh (l0 (K w.params) w.params) w.params).isNs mainGlobals && (#[] : Array GenState).size == 0, (hh (l0 (K w.params) w.params) w.params).objs.size, (hh (l0 (K w.params) w.params) w.params).nsMap mainGlobals "__annotations__") = (true, 28, some (.ref 6)))
    (hp : ∀ (w : World) (os : OsState), topGo treeTable p w 28 (some (.ref 6)) 12 (sh (l0 (K w.params) w.params) w.params 276 os) (topStub p) = some (sh (lA (K w.params) w.params) w.params m os, ⟨denote treeTable (bC p), bC p, pq, [topFrame pq]⟩))
    (hb : ∀ (w : World) (os : OsState), segRun treeTable p w 28 (some (.ref 6)) 1 1 (sh (lA (K w.params) w.params) w.params m os) (blockOf (behindTheImports p) (bE p) (bC p) pq [topFrame pq]) = some (.next, (st (lA (K w.params) w.params) w.params 32 m os).abs, bC p, pq))
    (r1 : ∀ (w : World) (os : OsState), rT p w n1 (st (lA (K w.params) w.params) w.params 32 m os) ((behindTheImports p).take 8) pq = some (.next, st (lB (K w.params) w.params) w.params 128 445 os, bC p, po 23 0 94 47))
    (r2 : ∀ (w : World) (os : OsState), rT p w n2 (st (lB (K w.params) w.params) w.params 128 445 os) (((behindTheImports p).drop 8).take 1) (po 23 0 94 47) = some (.next, st (lC (K w.params) w.params) w.params 212 541 os, bC p, po 95 0 130 32))
    (r3 : ∀ (w : World) (os : OsState), rT p w n3 (st (lC (K w.params) w.params) w.params 212 541 os) (((behindTheImports p).drop 8).drop 1) (po 95 0 130 32) = some (.next, st (lZ (K w.params) w.params) w.params 266 622 os, bC p, po 193 0 202 15))
    (hf : ∀ (w : World) (os : OsState), topRun treeTable p w 28 (some (.ref 6)) 2 (st (lZ (K w.params) w.params) w.params 266 622 os).abs ⟨doneF .next, bC p, po 193 0 202 15, [topFrame pq]⟩ = some (sh (lZ (K w.params) w.params) w.params 622 os))
    (le : Nat.ble (12 + (1 + (n1 + (n2 + (n3 + 2))))) N = true)
    (l1 : ∀ (w : World) (os : OsState), (staticsOk (importedModules p.main.body) (hh (l0 (K w.params) w.params) w.params) (hh (lZ (K w.params) w.params) w.params) && namesBound p (hh (lZ (K w.params) w.params) w.params) && gensDone (sh (lZ (K w.params) w.params) w.params 622 os) && laidKept (hh (l0 (K w.params) w.params) w.params) (hh (lZ (K w.params) w.params) w.params)) = true)
    (l2 : ∀ (w : World) (os : OsState), openSeen q loose (importedModules p.main.body) Xt g0 (sh (lZ (K w.params) w.params) w.params 622 os) = openGood q loose)
    (l3 : ∀ (w : World) (os : OsState), (kmHook K as e ts).obs (sh (lZ (K w.params) w.params) w.params 622 os) = (kmHook K as e ts).val w) :
    LeftO p q loose Xt (kmHook K as e ts).obs (kmHook K as e ts).val N g0 :=
  LeftO.of_pieces (H₀ := fun P => hh (l0 (K P) P) P) (H₁ := fun P => hh (lZ (K P) P) P) ho hs (fun w os => by
    refine go_top (hp w os) (piece_block (hb w os) ?_)
    have h := piece_app (segRun_of (r1 w os)) (rest := (behindTheImports p).drop 8) (r := sh (lZ (K w.params) w.params) w.params 622 os) (N := n2 + (n3 + 2)) (by
      have h := piece_app (segRun_of (r2 w os)) (rest := ((behindTheImports p).drop 8).drop 1) (r := sh (lZ (K w.params) w.params) w.params 622 os) (N := n3 + 2) (by
        have h := piece_app (segRun_of (r3 w os)) (rest := []) (r := sh (lZ (K w.params) w.params) w.params 622 os) (N := 2) (piece_nil (hf w os))
        rwa [List.append_nil] at h)
      rwa [List.take_append_drop] at h)
    rwa [List.take_append_drop] at h) le (fun w => funext fun os => Prod.ext (l1 w os) (Prod.ext (l2 w os) (l3 w os)))
theorem said_well : OpenLaw.wellSaid PySem.Challenge.rw_yf0025_01 = true := by
  unfold OpenLaw.wellSaid
  repeat' (with_reducible refine look_both ?_ ?_)
  all_goals (try unfold OpenRow.wellSaid OpenRow.partSaid)
  repeat' (with_reducible refine look_both ?_ ?_)
  all_goals (try unfold looksOpen)
  repeat' (with_reducible refine look_both ?_ ?_)
  all_goals decide +kernel
end Mine.U
namespace Mine
local macro_rules | `(tactic| o_head ($_ $k $a $e)) => `(tactic| o_head (kmHook $k $a $e [169, 176]))
local macro_rules | `(tactic| refine PySem.W.holds_open $as*) => `(tactic| (refine' (fun z : _ ∧ _ => PySem.W.holds_open $as*) ?hc2; (case hl => exact z.1); (case hc => exact z.2)))
local macro_rules | `(tactic| o_law) => `(tactic| refine PySem.W.holds_law U.said_well fun said => ?_)
open_top hd for PySem.Challenge.rw_yf0025_01
end Mine
end
section
set_option Elab.async false
namespace Mine
theorem exE2 {A0 A1 : Type} {p : A0 → A1 → Prop} {G : Prop} (q : ∃ x0 x1, p x0 x1) (k : ∀ x0 x1, p x0 x1 → G) : G := by obtain ⟨x0, x1, q⟩ := q; exact k x0 x1 q
theorem exE3 {A0 A1 A2 : Type} {p : A0 → A1 → A2 → Prop} {G : Prop} (q : ∃ x0 x1 x2, p x0 x1 x2) (k : ∀ x0 x1 x2, p x0 x1 x2 → G) : G := by obtain ⟨x0, x1, x2, q⟩ := q; exact k x0 x1 x2 q
theorem exI3 {A0 A1 A2 : Type} {p : A0 → A1 → A2 → Prop} (x0 : A0) (x1 : A1) (x2 : A2) (q : p x0 x1 x2) : ∃ x0 x1 x2, p x0 x1 x2 := ⟨x0, x1, x2, q⟩
theorem exE4 {A0 A1 A2 A3 : Type} {p : A0 → A1 → A2 → A3 → Prop} {G : Prop} (q : ∃ x0 x1 x2 x3, p x0 x1 x2 x3) (k : ∀ x0 x1 x2 x3, p x0 x1 x2 x3 → G) : G := by obtain ⟨x0, x1, x2, x3, q⟩ := q; exact k x0 x1 x2 x3 q
theorem exE5 {A0 A1 A2 A3 A4 : Type} {p : A0 → A1 → A2 → A3 → A4 → Prop} {G : Prop} (q : ∃ x0 x1 x2 x3 x4, p x0 x1 x2 x3 x4) (k : ∀ x0 x1 x2 x3 x4, p x0 x1 x2 x3 x4 → G) : G := by obtain ⟨x0, x1, x2, x3, x4, q⟩ := q; exact k x0 x1 x2 x3 x4 q
theorem exI5 {A0 A1 A2 A3 A4 : Type} {p : A0 → A1 → A2 → A3 → A4 → Prop} (x0 : A0) (x1 : A1) (x2 : A2) (x3 : A3) (x4 : A4) (q : p x0 x1 x2 x3 x4) : ∃ x0 x1 x2 x3 x4, p x0 x1 x2 x3 x4 := ⟨x0, x1, x2, x3, x4, q⟩
theorem exE6 {A0 A1 A2 A3 A4 A5 : Type} {p : A0 → A1 → A2 → A3 → A4 → A5 → Prop} {G : Prop} (q : ∃ x0 x1 x2 x3 x4 x5, p x0 x1 x2 x3 x4 x5) (k : ∀ x0 x1 x2 x3 x4 x5, p x0 x1 x2 x3 x4 x5 → G) : G := by obtain ⟨x0, x1, x2, x3, x4, x5, q⟩ := q; exact k x0 x1 x2 x3 x4 x5 q
theorem exI6 {A0 A1 A2 A3 A4 A5 : Type} {p : A0 → A1 → A2 → A3 → A4 → A5 → Prop} (x0 : A0) (x1 : A1) (x2 : A2) (x3 : A3) (x4 : A4) (x5 : A5) (q : p x0 x1 x2 x3 x4 x5) : ∃ x0 x1 x2 x3 x4 x5, p x0 x1 x2 x3 x4 x5 := ⟨x0, x1, x2, x3, x4, x5, q⟩
theorem exE7 {A0 A1 A2 A3 A4 A5 A6 : Type} {p : A0 → A1 → A2 → A3 → A4 → A5 → A6 → Prop} {G : Prop} (q : ∃ x0 x1 x2 x3 x4 x5 x6, p x0 x1 x2 x3 x4 x5 x6) (k : ∀ x0 x1 x2 x3 x4 x5 x6, p x0 x1 x2 x3 x4 x5 x6 → G) : G := by obtain ⟨x0, x1, x2, x3, x4, x5, x6, q⟩ := q; exact k x0 x1 x2 x3 x4 x5 x6 q
theorem exI7 {A0 A1 A2 A3 A4 A5 A6 : Type} {p : A0 → A1 → A2 → A3 → A4 → A5 → A6 → Prop} (x0 : A0) (x1 : A1) (x2 : A2) (x3 : A3) (x4 : A4) (x5 : A5) (x6 : A6) (q : p x0 x1 x2 x3 x4 x5 x6) : ∃ x0 x1 x2 x3 x4 x5 x6, p x0 x1 x2 x3 x4 x5 x6 := ⟨x0, x1, x2, x3, x4, x5, x6, q⟩
theorem exE8 {A0 A1 A2 A3 A4 A5 A6 A7 : Type} {p : A0 → A1 → A2 → A3 → A4 → A5 → A6 → A7 → Prop} {G : Prop} (q : ∃ x0 x1 x2 x3 x4 x5 x6 x7, p x0 x1 x2 x3 x4 x5 x6 x7) (k : ∀ x0 x1 x2 x3 x4 x5 x6 x7, p x0 x1 x2 x3 x4 x5 x6 x7 → G) : G := by obtain ⟨x0, x1, x2, x3, x4, x5, x6, x7, q⟩ := q; exact k x0 x1 x2 x3 x4 x5 x6 x7 q
theorem exI8 {A0 A1 A2 A3 A4 A5 A6 A7 : Type} {p : A0 → A1 → A2 → A3 → A4 → A5 → A6 → A7 → Prop} (x0 : A0) (x1 : A1) (x2 : A2) (x3 : A3) (x4 : A4) (x5 : A5) (x6 : A6) (x7 : A7) (q : p x0 x1 x2 x3 x4 x5 x6 x7) : ∃ x0 x1 x2 x3 x4 x5 x6 x7, p x0 x1 x2 x3 x4 x5 x6 x7 := ⟨x0, x1, x2, x3, x4, x5, x6, x7, q⟩
theorem exE9 {A0 A1 A2 A3 A4 A5 A6 A7 A8 : Type} {p : A0 → A1 → A2 → A3 → A4 → A5 → A6 → A7 → A8 → Prop} {G : Prop} (q : ∃ x0 x1 x2 x3 x4 x5 x6 x7 x8, p x0 x1 x2 x3 x4 x5 x6 x7 x8) (k : ∀ x0 x1 x2 x3 x4 x5 x6 x7 x8, p x0 x1 x2 x3 x4 x5 x6 x7 x8 → G) : G := by obtain ⟨x0, x1, x2, x3, x4, x5, x6, x7, x8, q⟩ := q; exact k x0 x1 x2 x3 x4 x5 x6 x7 x8 q
theorem exI9 {A0 A1 A2 A3 A4 A5 A6 A7 A8 : Type} {p : A0 → A1 → A2 → A3 → A4 → A5 → A6 → A7 → A8 → Prop} (x0 : A0) (x1 : A1) (x2 : A2) (x3 : A3) (x4 : A4) (x5 : A5) (x6 : A6) (x7 : A7) (x8 : A8) (q : p x0 x1 x2 x3 x4 x5 x6 x7 x8) : ∃ x0 x1 x2 x3 x4 x5 x6 x7 x8, p x0 x1 x2 x3 x4 x5 x6 x7 x8 := ⟨x0, x1, x2, x3, x4, x5, x6, x7, x8, q⟩
theorem exE10 {A0 A1 A2 A3 A4 A5 A6 A7 A8 A9 : Type} {p : A0 → A1 → A2 → A3 → A4 → A5 → A6 → A7 → A8 → A9 → Prop} {G : Prop} (q : ∃ x0 x1 x2 x3 x4 x5 x6 x7 x8 x9, p x0 x1 x2 x3 x4 x5 x6 x7 x8 x9) (k : ∀ x0 x1 x2 x3 x4 x5 x6 x7 x8 x9, p x0 x1 x2 x3 x4 x5 x6 x7 x8 x9 → G) : G := by obtain ⟨x0, x1, x2, x3, x4, x5, x6, x7, x8, x9, q⟩ := q; exact k x0 x1 x2 x3 x4 x5 x6 x7 x8 x9 q
theorem exI10 {A0 A1 A2 A3 A4 A5 A6 A7 A8 A9 : Type} {p : A0 → A1 → A2 → A3 → A4 → A5 → A6 → A7 → A8 → A9 → Prop} (x0 : A0) (x1 : A1) (x2 : A2) (x3 : A3) (x4 : A4) (x5 : A5) (x6 : A6) (x7 : A7) (x8 : A8) (x9 : A9) (q : p x0 x1 x2 x3 x4 x5 x6 x7 x8 x9) : ∃ x0 x1 x2 x3 x4 x5 x6 x7 x8 x9, p x0 x1 x2 x3 x4 x5 x6 x7 x8 x9 := ⟨x0, x1, x2, x3, x4, x5, x6, x7, x8, x9, q⟩
theorem exE12 {A0 A1 A2 A3 A4 A5 A6 A7 A8 A9 A10 A11 : Type} {p : A0 → A1 → A2 → A3 → A4 → A5 → A6 → A7 → A8 → A9 → A10 → A11 → Prop} {G : Prop} (q : ∃ x0 x1 x2 x3 x4 x5 x6 x7 x8 x9 x10 x11, p x0 x1 x2 x3 x4 x5 x6 x7 x8 x9 x10 x11) (k : ∀ x0 x1 x2 x3 x4 x5 x6 x7 x8 x9 x10 x11, p x0 x1 x2 x3 x4 x5 x6 x7 x8 x9 x10 x11 → G) : G := by obtain ⟨x0, x1, x2, x3, x4, x5, x6, x7, x8, x9, x10, x11, q⟩ := q; exact k x0 x1 x2 x3 x4 x5 x6 x7 x8 x9 x10 x11 q
theorem exI12 {A0 A1 A2 A3 A4 A5 A6 A7 A8 A9 A10 A11 : Type} {p : A0 → A1 → A2 → A3 → A4 → A5 → A6 → A7 → A8 → A9 → A10 → A11 → Prop} (x0 : A0) (x1 : A1) (x2 : A2) (x3 : A3) (x4 : A4) (x5 : A5) (x6 : A6) (x7 : A7) (x8 : A8) (x9 : A9) (x10 : A10) (x11 : A11) (q : p x0 x1 x2 x3 x4 x5 x6 x7 x8 x9 x10 x11) : ∃ x0 x1 x2 x3 x4 x5 x6 x7 x8 x9 x10 x11, p x0 x1 x2 x3 x4 x5 x6 x7 x8 x9 x10 x11 := ⟨x0, x1, x2, x3, x4, x5, x6, x7, x8, x9, x10, x11, q⟩
theorem andE2 {P0 P1 G : Prop} (q : P0 ∧ P1) (k : P0 → P1 → G) : G := by obtain ⟨q0, q1⟩ := q; exact k q0 q1
theorem andE3 {P0 P1 P2 G : Prop} (q : P0 ∧ P1 ∧ P2) (k : P0 → P1 → P2 → G) : G := by obtain ⟨q0, q1, q2⟩ := q; exact k q0 q1 q2
theorem andE4 {P0 P1 P2 P3 G : Prop} (q : P0 ∧ P1 ∧ P2 ∧ P3) (k : P0 → P1 → P2 → P3 → G) : G := by obtain ⟨q0, q1, q2, q3⟩ := q; exact k q0 q1 q2 q3
theorem andE5 {P0 P1 P2 P3 P4 G : Prop} (q : P0 ∧ P1 ∧ P2 ∧ P3 ∧ P4) (k : P0 → P1 → P2 → P3 → P4 → G) : G := by obtain ⟨q0, q1, q2, q3, q4⟩ := q; exact k q0 q1 q2 q3 q4
theorem andE6 {P0 P1 P2 P3 P4 P5 G : Prop} (q : P0 ∧ P1 ∧ P2 ∧ P3 ∧ P4 ∧ P5) (k : P0 → P1 → P2 → P3 → P4 → P5 → G) : G := by obtain ⟨q0, q1, q2, q3, q4, q5⟩ := q; exact k q0 q1 q2 q3 q4 q5
theorem andE7 {P0 P1 P2 P3 P4 P5 P6 G : Prop} (q : P0 ∧ P1 ∧ P2 ∧ P3 ∧ P4 ∧ P5 ∧ P6) (k : P0 → P1 → P2 → P3 → P4 → P5 → P6 → G) : G := by obtain ⟨q0, q1, q2, q3, q4, q5, q6⟩ := q; exact k q0 q1 q2 q3 q4 q5 q6
theorem andE8 {P0 P1 P2 P3 P4 P5 P6 P7 G : Prop} (q : P0 ∧ P1 ∧ P2 ∧ P3 ∧ P4 ∧ P5 ∧ P6 ∧ P7) (k : P0 → P1 → P2 → P3 → P4 → P5 → P6 → P7 → G) : G := by obtain ⟨q0, q1, q2, q3, q4, q5, q6, q7⟩ := q; exact k q0 q1 q2 q3 q4 q5 q6 q7
theorem andE9 {P0 P1 P2 P3 P4 P5 P6 P7 P8 G : Prop} (q : P0 ∧ P1 ∧ P2 ∧ P3 ∧ P4 ∧ P5 ∧ P6 ∧ P7 ∧ P8) (k : P0 → P1 → P2 → P3 → P4 → P5 → P6 → P7 → P8 → G) : G := by obtain ⟨q0, q1, q2, q3, q4, q5, q6, q7, q8⟩ := q; exact k q0 q1 q2 q3 q4 q5 q6 q7 q8
theorem andE10 {P0 P1 P2 P3 P4 P5 P6 P7 P8 P9 G : Prop} (q : P0 ∧ P1 ∧ P2 ∧ P3 ∧ P4 ∧ P5 ∧ P6 ∧ P7 ∧ P8 ∧ P9) (k : P0 → P1 → P2 → P3 → P4 → P5 → P6 → P7 → P8 → P9 → G) : G := by obtain ⟨q0, q1, q2, q3, q4, q5, q6, q7, q8, q9⟩ := q; exact k q0 q1 q2 q3 q4 q5 q6 q7 q8 q9
theorem andE11 {P0 P1 P2 P3 P4 P5 P6 P7 P8 P9 P10 G : Prop} (q : P0 ∧ P1 ∧ P2 ∧ P3 ∧ P4 ∧ P5 ∧ P6 ∧ P7 ∧ P8 ∧ P9 ∧ P10) (k : P0 → P1 → P2 → P3 → P4 → P5 → P6 → P7 → P8 → P9 → P10 → G) : G := by obtain ⟨q0, q1, q2, q3, q4, q5, q6, q7, q8, q9, q10⟩ := q; exact k q0 q1 q2 q3 q4 q5 q6 q7 q8 q9 q10
theorem andE12 {P0 P1 P2 P3 P4 P5 P6 P7 P8 P9 P10 P11 G : Prop} (q : P0 ∧ P1 ∧ P2 ∧ P3 ∧ P4 ∧ P5 ∧ P6 ∧ P7 ∧ P8 ∧ P9 ∧ P10 ∧ P11) (k : P0 → P1 → P2 → P3 → P4 → P5 → P6 → P7 → P8 → P9 → P10 → P11 → G) : G := by obtain ⟨q0, q1, q2, q3, q4, q5, q6, q7, q8, q9, q10, q11⟩ := q; exact k q0 q1 q2 q3 q4 q5 q6 q7 q8 q9 q10 q11
theorem eqE {A : Type} {x v : A} {C : A → Prop} (e : x = v) (k : C v) : C x := e ▸ k
theorem ne_u1 {n : Nat} : n ≠ n + 1 := Nat.ne_of_lt (Nat.lt_succ_self n)
theorem ne_u2 {n : Nat} : n ≠ n + 1 + 1 := Nat.ne_of_lt (Nat.lt_succ_of_lt (Nat.lt_succ_self n))
theorem ne_u3 {n : Nat} : n ≠ n + 1 + 1 + 1 := Nat.ne_of_lt (Nat.lt_succ_of_lt (Nat.lt_succ_of_lt (Nat.lt_succ_self n)))
theorem ne_d1 {n : Nat} : n + 1 ≠ n := ne_u1.symm
theorem ne_d2 {n : Nat} : n + 1 + 1 ≠ n := ne_u2.symm
theorem ne_d3 {n : Nat} : n + 1 + 1 + 1 ≠ n := ne_u3.symm
theorem ne_l0 {a n : Nat} (h : a < n) : a ≠ n := Nat.ne_of_lt h
theorem ne_l1 {a n : Nat} (h : a < n) : a ≠ n + 1 := Nat.ne_of_lt (Nat.lt_succ_of_lt h)
theorem ne_l2 {a n : Nat} (h : a < n) : a ≠ n + 1 + 1 := Nat.ne_of_lt (Nat.lt_succ_of_lt (Nat.lt_succ_of_lt h))
theorem ne_l3 {a n : Nat} (h : a < n) : a ≠ n + 1 + 1 + 1 := Nat.ne_of_lt (Nat.lt_succ_of_lt (Nat.lt_succ_of_lt (Nat.lt_succ_of_lt h)))
theorem ne_g0 {a n : Nat} (h : a < n) : n ≠ a := (ne_l0 h).symm
theorem ne_g1 {a n : Nat} (h : a < n) : n + 1 ≠ a := (ne_l1 h).symm
theorem ne_g2 {a n : Nat} (h : a < n) : n + 1 + 1 ≠ a := (ne_l2 h).symm
theorem ne_g3 {a n : Nat} (h : a < n) : n + 1 + 1 + 1 ≠ a := (ne_l3 h).symm
theorem pj1 {P Q : Prop} (h : P ∧ Q) : P := h.1
theorem pj2 {P Q R : Prop} (h : P ∧ Q ∧ R) : Q := h.2.1
theorem pj3 {P Q R S : Prop} (h : P ∧ Q ∧ R ∧ S) : R := h.2.2.1
theorem pj4 {P Q R S T : Prop} (h : P ∧ Q ∧ R ∧ S ∧ T) : S := h.2.2.2.1
theorem pj5 {P Q R S T U : Prop} (h : P ∧ Q ∧ R ∧ S ∧ T ∧ U) : T := h.2.2.2.2.1
theorem pj6 {P Q R S T U V : Prop} (h : P ∧ Q ∧ R ∧ S ∧ T ∧ U ∧ V) : U := h.2.2.2.2.2.1
theorem pl2 {P Q : Prop} (h : P ∧ Q) : Q := h.2
theorem pl3 {P Q R : Prop} (h : P ∧ Q ∧ R) : R := h.2.2
theorem pl4 {P Q R S : Prop} (h : P ∧ Q ∧ R ∧ S) : S := h.2.2.2
theorem pl5 {P Q R S T : Prop} (h : P ∧ Q ∧ R ∧ S ∧ T) : T := h.2.2.2.2
theorem pl6 {P Q R S T U : Prop} (h : P ∧ Q ∧ R ∧ S ∧ T ∧ U) : U := h.2.2.2.2.2
theorem pl7 {P Q R S T U V : Prop} (h : P ∧ Q ∧ R ∧ S ∧ T ∧ U ∧ V) : V := h.2.2.2.2.2.2
theorem toNat_up {h : Int} (h0 : 0 ≤ h) : (h + 1).toNat = h.toNat + 1 := by omega
theorem nn_up {h : Int} (h0 : 0 ≤ h) : 0 ≤ h + 1 := by omega
theorem le_up {h : Int} {i : Nat} (l : h ≤ i) : h + 1 ≤ ((i + 1 : Nat) : Int) := by omega
theorem le_up' {h : Int} {i : Nat} (l : h ≤ i) : h ≤ ((i + 1 : Nat) : Int) := by omega
theorem le_of5 {h : Int} (l : h ≤ 5) : h ≤ 1000000 := Int.le_trans l (by decide)
theorem lt_of5 {h : Int} (l : h ≤ 5) : h < 9000 := Int.lt_of_le_of_lt l (by decide)
theorem lt7 {a b c d e f g q i : Nat} (h : a < q ∧ b < q ∧ c < q ∧ d < q ∧ e < q ∧ f < q ∧ g < q) (l : q < i) : a < i ∧ b < i ∧ c < i ∧ d < i ∧ e < i ∧ f < i ∧ g < i :=
  ⟨Nat.lt_trans (pj1 h) l, Nat.lt_trans (pj2 h) l, Nat.lt_trans (pj3 h) l, Nat.lt_trans (pj4 h) l, Nat.lt_trans (pj5 h) l, Nat.lt_trans (pj6 h) l, Nat.lt_trans (pl7 h) l⟩
theorem le5_i63 {i : Nat} (h : i < 5) : (i : Int) < 2 ^ 63 := Int.lt_trans (Int.ofNat_lt.mpr h) (by decide)
theorem le5_m5 {i : Nat} : -((5 : Nat) : Int) ≤ (i : Int) := Int.le_trans (by decide) (Int.natCast_nonneg i)
end Mine
end
section
open PySem PySem.Builtin PySem.Builtin.Str
set_option maxRecDepth 100000
namespace Mine

/-- what parse257 reads behind the opening mark -/
noncomputable def parseGo : List Nat → List Nat
  | [] => []
  | [c] => if c = 34 then [] else [c]
  | c :: e :: r => if c = 34 then (if e = 34 then 34 :: parseGo r else []) else c :: parseGo (e :: r)
noncomputable def parseS (x : Str) : Str := ⟨(parseGo (x.cps.toList.drop 5)).toArray⟩

theorem item_at {x : Str} {i : Int} (h0 : 0 ≤ i) (h1 : i < x.length) : ∃ c, x.cps.toList[i.toNat]? = some c ∧ Txt.item x i = ⟨#[c]⟩ := by
  have hl : i.toNat < x.cps.size := by have : (x.cps.size : Int) = x.length := rfl; omega
  refine ⟨x.cps.toList[i.toNat]'(by simpa using hl), by simp [hl], ?_⟩
  unfold Txt.item Txt.charAt seqIndex?
  have e : (if i < 0 then i + (x.length : Int) else i) = i := by rw [if_neg (by omega)]
  simp only [e]
  have hb : (0 ≤ i && decide (i < (x.length : Int))) = true := by simp [h0, h1]
  first
    | (rw [if_pos (by simpa using hb)]; simp [hl])
    | simp [h0, h1, hl]
theorem is34 {c : Nat} : ((⟨#[c]⟩ : Str) == Str.ofString "\"") = decide (c = 34) := by
  have : Str.ofString "\"" = ⟨#[34]⟩ := by decide +kernel
  rw [this]
  by_cases h : c = 34
  · subst h; decide
  · rw [decide_eq_false h]
    apply beq_false_of_ne
    intro e
    injection e with e
    have := congrArg Array.toList e
    simp at this
    exact h this
theorem drop_of {l : List Nat} {k c : Nat} (h : l[k]? = some c) : l.drop k = c :: l.drop (k + 1) := by
  obtain ⟨hl, he⟩ := List.getElem?_eq_some_iff.mp h
  rw [← he]
  exact List.drop_eq_getElem_cons hl
theorem str_of_list {x : Str} {l : List Nat} (h : x.cps.toList = l) : x = ⟨l.toArray⟩ := by
  cases x with | mk a => subst h; simp

section
variable {x d : Str} {i : Int}
noncomputable abbrev PI (x : Str) (i : Int) (d : Str) : Prop := d.cps.toList ++ parseGo (x.cps.toList.drop i.toNat) = parseGo (x.cps.toList.drop 5)
theorem parse_end (h0 : 5 ≤ i) (hi : i ≤ x.length) (h : PI x i d) (hn : ¬ i < x.length) : d = parseS x := by
  have e : x.cps.toList.drop i.toNat = [] := by
    apply List.drop_eq_nil_of_le
    have : (x.cps.toList.length : Int) = x.length := by rw [Array.length_toList]; rfl
    omega
  unfold PI at h
  rw [e] at h
  simp only [parseGo, List.append_nil] at h
  exact str_of_list h
theorem parse_brk {c : Nat} (h : PI x i d) (hc : x.cps.toList[i.toNat]? = some c) (h34 : c = 34)
    (hs : x.cps.toList.drop (i.toNat + 1) = [] ∨ ∃ e r, x.cps.toList.drop (i.toNat + 1) = e :: r ∧ e ≠ 34) : d = parseS x := by
  subst h34
  unfold PI at h
  rw [drop_of hc] at h
  apply str_of_list
  rw [← h]
  rcases hs with e | ⟨e, r, he, hne⟩
  · rw [e]; simp [parseGo]
  · rw [he]; simp [parseGo, hne]
theorem parse_brk1 (h0 : 5 ≤ i) (h : PI x i d) (hl : i < x.length) (hc : (Txt.item x i == Str.ofString "\"") = true) (hn : (x.length : Int) ≤ i + 1) : d = parseS x := by
  refine Exists.elim (item_at (Int.le_trans (by decide) h0) hl) fun c q => andE2 q fun hc1 hc2 => ?_
  clear q
  rw [hc2, is34, decide_eq_true_eq] at hc
  refine parse_brk h hc1 hc (.inl ?_)
  apply List.drop_eq_nil_of_le
  have : (x.cps.toList.length : Int) = x.length := by rw [Array.length_toList]; rfl
  omega
theorem parse_brk2 (h0 : 5 ≤ i) (h : PI x i d) (hl : i < x.length) (hc : (Txt.item x i == Str.ofString "\"") = true) (hn : ¬ (x.length : Int) ≤ i + 1) (hc' : (Txt.item x (i + 1) != Str.ofString "\"") = true) : d = parseS x := by
  refine Exists.elim (item_at (Int.le_trans (by decide) h0) hl) fun c q => andE2 q fun hc1 hc2 => ?_
  clear q
  rw [hc2, is34, decide_eq_true_eq] at hc
  obtain ⟨e, he1, he2⟩ := item_at (x := x) (i := i + 1) (by omega) (by omega)
  rw [bne, he2, is34] at hc'
  have hc'' : e ≠ 34 := by simpa using hc'
  have : (i + 1).toNat = i.toNat + 1 := toNat_up (Int.le_trans (by decide) h0)
  rw [this] at he1
  exact parse_brk h hc1 hc (.inr ⟨e, _, drop_of he1, hc''⟩)
theorem parse_two (h0 : 5 ≤ i) (hd : (d.length : Int) ≤ i) (h : PI x i d) (hl : i < x.length) (hc : (Txt.item x i == Str.ofString "\"") = true) (hn : ¬ (x.length : Int) ≤ i + 1) (hc' : (Txt.item x (i + 1) != Str.ofString "\"") = false) :
    5 ≤ i + 1 + 1 ∧ i + 1 + 1 ≤ (x.length : Int) ∧ ((d ++ Txt.item x i).length : Int) ≤ i + 1 + 1 ∧ PI x (i + 1 + 1) (d ++ Txt.item x i) := by
  refine Exists.elim (item_at (Int.le_trans (by decide) h0) hl) fun c q => andE2 q fun hc1 hc2 => ?_
  clear q
  have e2 := hc2
  rw [hc2, is34, decide_eq_true_eq] at hc
  obtain ⟨e, he1, he2⟩ := item_at (x := x) (i := i + 1) (by omega) (by omega)
  rw [bne, he2, is34] at hc'
  have hc'' : e = 34 := by simpa using hc'
  subst hc hc''
  have t1 : (i + 1).toNat = i.toNat + 1 := toNat_up (Int.le_trans (by decide) h0)
  have t2 : (i + 1 + 1).toNat = i.toNat + 1 + 1 := by rw [toNat_up (nn_up (Int.le_trans (by decide) h0)), t1]
  rw [t1] at he1
  refine ⟨by omega, by omega, ?_, ?_⟩
  · rw [e2]
    show (((d.cps ++ #[34]).size : Nat) : Int) ≤ _
    have : d.cps.size = d.length := rfl
    simp; omega
  · unfold PI at h ⊢
    rw [drop_of hc1, drop_of he1] at h
    rw [t2, e2]
    show (d.cps ++ #[34]).toList ++ _ = _
    rw [← h]
    simp [parseGo]
theorem parse_one (h0 : 5 ≤ i) (hd : (d.length : Int) ≤ i) (h : PI x i d) (hl : i < x.length) (hc : (Txt.item x i == Str.ofString "\"") = false) :
    5 ≤ i + 1 ∧ i + 1 ≤ (x.length : Int) ∧ ((d ++ Txt.item x i).length : Int) ≤ i + 1 ∧ PI x (i + 1) (d ++ Txt.item x i) := by
  refine Exists.elim (item_at (Int.le_trans (by decide) h0) hl) fun c q => andE2 q fun hc1 hc2 => ?_
  clear q
  have e2 := hc2
  rw [hc2, is34, decide_eq_false_iff_not] at hc
  have t1 : (i + 1).toNat = i.toNat + 1 := toNat_up (Int.le_trans (by decide) h0)
  refine ⟨by omega, by omega, ?_, ?_⟩
  · rw [e2]
    show (((d.cps ++ #[c]).size : Nat) : Int) ≤ _
    have : d.cps.size = d.length := rfl
    simp; omega
  · unfold PI at h ⊢
    rw [drop_of hc1] at h
    rw [t1, e2]
    show (d.cps ++ #[c]).toList ++ _ = _
    rw [← h]
    cases x.cps.toList.drop (i.toNat + 1) with
    | nil => simp [parseGo, hc]
    | cons e r => simp [parseGo, hc]
end

/-! the texts: words a, b, .., each with a run of marks -/
noncomputable def wordL (k n : Nat) : List Nat := (97 + k) :: List.replicate n 34
noncomputable def textFrom : Nat → List Nat → List Nat
  | _, [] => []
  | k, [n] => wordL k n
  | k, n :: r => wordL k n ++ 32 :: textFrom (k + 1) r
noncomputable def textS (ws : List Nat) : Str := ⟨(textFrom 0 ws).toArray⟩
noncomputable def cutPar : List Nat → List Nat
  | [] => []
  | n :: r => if n % 2 = 1 then [n / 2] else n / 2 :: cutPar r

theorem parse_ne {c : Nat} (hc : c ≠ 34) (r : List Nat) : parseGo (c :: r) = c :: parseGo r := by
  cases r <;> simp [parseGo, hc]
theorem parse_run (r : List Nat) (hr : ∀ c s, r = c :: s → c ≠ 34) : ∀ n, parseGo (List.replicate n 34 ++ r) = List.replicate (n / 2) 34 ++ (if n % 2 = 1 then [] else parseGo r)
  | 0 => by simp
  | 1 => by
    cases r with
    | nil => simp [parseGo]
    | cons c s => simp [parseGo, hr c s rfl]
  | n + 2 => by
    have ih := parse_run r hr n
    have e1 : (n + 2) / 2 = n / 2 + 1 := by omega
    have e2 : (n + 2) % 2 = n % 2 := by omega
    rw [e1, e2, List.replicate_succ, List.replicate_succ, List.replicate_succ]
    simp only [List.cons_append, parseGo, if_true]
    rw [ih]
theorem parse_text : ∀ (ws : List Nat) (k : Nat), parseGo (textFrom k ws) = textFrom k (cutPar ws)
  | [], k => by simp [textFrom, cutPar, parseGo]
  | [n], k => by
    have h := parse_run [] (by intro c s e; cases e) n
    rw [List.append_nil] at h
    unfold textFrom cutPar wordL
    rw [parse_ne (by omega), h]
    split
    · simp [textFrom, wordL]
    · simp [textFrom, wordL, cutPar, parseGo]
  | n :: m :: r, k => by
    have ih := parse_text (m :: r) (k + 1)
    have h := parse_run (32 :: textFrom (k + 1) (m :: r)) (by intro c s e; cases e; decide) n
    show parseGo ((97 + k) :: (List.replicate n 34 ++ 32 :: textFrom (k + 1) (m :: r))) = _
    rw [parse_ne (by omega), h]
    by_cases hp : n % 2 = 1
    · simp [hp, cutPar, textFrom, wordL]
    · rw [parse_ne (by decide), ih]
      have hne : cutPar (m :: r) ≠ [] := by unfold cutPar; split <;> simp
      obtain ⟨a, b, hab⟩ := List.exists_cons_of_ne_nil hne
      show _ = textFrom k (if n % 2 = 1 then [n / 2] else n / 2 :: cutPar (m :: r))
      rw [if_neg hp, if_neg hp, hab]
      simp [textFrom, wordL]
end Mine
end
section
open PySem PySem.W PyProof.Rows
set_option Elab.async false
set_option maxRecDepth 100000
namespace Mine
noncomputable abbrev PR : Program := PySem.Challenge.rw_yf0025_01.row.prog
noncomputable abbrev VW : Program := topProg
noncomputable abbrev LS0 : List Str := looseW hd.view_1 [Str.ofString "_twin_re_1", Str.ofString "_Accumulator"]
noncomputable abbrev LS : List Str := LS0 ++ (recsOf hd.view_1).map (·.name) ++ (litsOf hd.view_1).map (·.1) ++ (clssOf hd.view_1 LS0).map (·.name)

noncomputable def KeptBut (fp : List Addr) (h h' : Heap) : Prop := ∀ b o, b ∉ fp → h.get? b = some o → h'.get? b = some o
theorem KeptBut.refl (fp : List Addr) (h : Heap) : KeptBut fp h h := fun _ _ _ e => e
theorem KeptBut.all {h h' : Heap} (k : KeptBut [] h h') {b : Addr} {o : Obj} (e : h.get? b = some o) : h'.get? b = some o := k b o (by simp) e
theorem kept_fr {h₀ h h' : Heap} {L : Addr} {m : Str → Option Value} {fp : List Addr} (F : Fr h₀ L h m) (k : KeptBut fp h h') (hL : L ∉ fp) (h0 : ∀ b ∈ fp, h₀.get? b = none) : Fr h₀ L h' m := by
  obtain ⟨oL, es, ep, hg, r⟩ := F.ns
  refine ⟨⟨oL, es, ep, k L oL hL hg, r⟩, fun b o e => k b o (fun hb => ?_) (F.keep b o e), F.above⟩
  rw [h0 b hb] at e; cases e
theorem kept_news {h₀ h h' : Heap} {L : Addr} {news : List (Addr × Obj)} (N : News h₀ L h news) (k : KeptBut [] h h') : News h₀ L h' news :=
  fun p hp => ⟨k.all (N p hp).1, (N p hp).2⟩
theorem tk_any {α : Type} {M : Model} {A : Around} {c : Sem α} {Q : α → Shared → Prop} {E : Value → Shared → Prop} {h : Heap} {g : Array GenState} {d : Drawn} {t : Nat} {o : OsState} (k : ∀ tk, wpAny M A c Q E ⟨h, g, d, tk, o⟩) : wpAny M A c Q E ⟨h, g, d, t, o⟩ := k t
theorem lt5 {i : Nat} (h : i < 5) : i = 0 ∨ i = 1 ∨ i = 2 ∨ i = 3 ∨ i = 4 := (by decide : ∀ i, i < 5 → i = 0 ∨ i = 1 ∨ i = 2 ∨ i = 3 ∨ i = 4) i h
theorem room_le {d a b c L : Nat} (h : d + c < L) (e : Nat.ble (a + b) c = true) : d + a + b < L := by rw [Nat.add_assoc]; exact Nat.lt_of_le_of_lt (Nat.add_le_add_left (Nat.le_of_ble_eq_true e) d) h
theorem room0 {d c L : Nat} (h : d + c < L) : d < L := Nat.lt_of_le_of_lt (Nat.le_add_right d c) h
theorem sub_nil {α : Type} {m : List α} : ∀ p ∈ ([] : List α), p ∈ m := List.forall_mem_nil _
theorem sub_cons {α : Type} {a : α} {l m : List α} (h : a ∈ m) (r : ∀ p ∈ l, p ∈ m) : ∀ p ∈ a :: l, p ∈ m := List.forall_mem_cons.mpr ⟨h, r⟩
/-- at a callee's end: what the call has left as it was -/
theorem kept_of {h₀ h g h' : Heap} {L : Addr} {news : List (Addr × Obj)} (N : News h₀ L h news) (GS : GSub h g (news.map (·.1))) (FK : ∀ b o, g.get? b = some o → h'.get? b = some o) (N' : News h₀ L h' news) : KeptBut [] h h' := by
  intro b o _ e
  by_cases hb : b ∈ news.map (·.1)
  · obtain ⟨p, hp, rfl⟩ := List.mem_map.mp hb
    have h1 := (N p hp).1
    rw [e] at h1
    cases h1
    exact (N' p hp).1
  · exact FK b o (GS b o e hb)

/-- a call that only reads what stood before it -/
noncomputable abbrev ROC (w : World) (mean : ExcName → Option Value) (mg mb : Str → Option Value) (f : Addr) (news : List (Addr × Obj)) (vs : List Value) (R : Value → Prop) (d u : Nat) : Prop :=
  ∀ (dp un : Nat) (gd : Option (List Code)) (cn : Str) (cs : Scope) (a : Addr) (ccd : Value) (cl : List (Str × Addr)) (outer : List Env) (A₀ : Around) (base h₀ : Heap) (L : Addr) (m : Str → Option Value) (s : Shared) (Q E : Value → Shared → Prop),
    Below A₀ base outer h₀ → Fr h₀ L s.heap m → (hd.heap_1 w.params).In h₀ → News h₀ L s.heap news → Top VW LS mean mg mb h₀ → cs.kind = .function → dp + d < recursionLimit → un + u < cLine →
    (∀ v h' tk', R v → Fr h₀ L h' m → KeptBut [] s.heap h' → Q v { s with heap := h', toks := tk' }) →
    wpAny (model PR w) (ktrTop dp un gd cn cs L a ccd cl outer) (call (.ref f) vs) Q E s
end Mine
end
section
open PySem PySem.W PyProof.Rows
set_option Elab.async false
set_option maxRecDepth 100000
namespace Mine
theorem kst_of {L : Addr} {h₀ h : Heap} {ps : List (Str × Value)} {stored : List Str} {m₀ m₁ : Str → Option Value} (h1 : ∀ p ∈ ps, m₁ p.1 = some p.2) (h2 : ∀ z, (∀ p ∈ ps, z ≠ p.1) → stored.contains z = false → m₁ z = m₀ z)
    (F : Fr h₀ L h m₁) : Fr h₀ L h (kstB (fun z => if stored.contains z then m₁ z else m₀ z) ps) := ksw_fr h1 h2 F

/-- a goal that the walk shall leave alone -/
noncomputable def Hold (p : Prop) : Prop := p
theorem Hold.out {p : Prop} (h : Hold p) : p := h
theorem Hold.in {p : Prop} (h : p) : Hold p := h

noncomputable def KInv {σ : Type} (ps : σ → List (Str × Value)) (stored : List Str) (m₀ : Str → Option Value) (P : Nat → σ → Prop) (news : σ → List (Addr × Obj)) (i : Nat) (m : Str → Option Value) (n : List (Addr × Obj)) : Prop :=
  ∃ c, (∀ p ∈ news c, p ∈ n) ∧ P i c ∧ (∀ p ∈ ps c, m p.1 = some p.2) ∧ (∀ z, (∀ p ∈ ps c, z ≠ p.1) → stored.contains z = false → m z = m₀ z)

theorem UnrPostW.mono {h₀ : Heap} {L : Addr} {s₁ : Shared} {its : List (Addr × Obj)} {r r' : (Str → Option Value) → List (Addr × Obj) → Prop} {Q : Flow → Shared → Prop} (hr : ∀ m n, r m n → r' m n) {f : Flow} {s₂ : Shared} (h : UnrPostW h₀ L s₁ its r Q f s₂) : UnrPostW h₀ L s₁ its r' Q f s₂ := by
  cases f with
  | ret v => exact h
  | brk => exact h
  | next => obtain ⟨h', tk, m', n', e, F, N, o, x⟩ := h; exact ⟨h', tk, m', n', e, F, N, o, hr _ _ x⟩
  | cont => obtain ⟨h', tk, m', n', e, F, N, o, x⟩ := h; exact ⟨h', tk, m', n', e, F, N, o, hr _ _ x⟩

theorem AllObj.mono {k k' : List (Addr × Obj) → Prop} (hk : ∀ its, k its → k' its) : ∀ {ws : List (Addr × String)}, AllObj ws k → AllObj ws k'
  | [], h => hk _ h
  | w :: r, h => fun o ho => AllObj.mono (fun its x => hk _ x) (h o ho)

theorem items_inv {σ : Type} {prog : Program} {w : World} {A : Around} {E : Value → Shared → Prop} {s : Shared} {env : Env} {h₀ : Heap} {target : Expr} {body : List Stmt} {Q : Flow → Shared → Prop} {ws : List (Addr × String)} {keep : List (Addr × Obj)} {m₀ : Str → Option Value}
    (news : σ → List (Addr × Obj)) (ps : σ → List (Str × Value)) (stored : List Str) (P : Nat → σ → Prop) (ds : List Value) (c₀ : σ) (hk : ∀ p ∈ ps c₀, m₀ p.1 = some p.2) (hP : P 0 c₀)
    (turn : ∀ (i : Nat) (d : Value) (c : σ) (u : Str → Option Value) h tk, ds[i]? = some d → P i c → Fr h₀ env.locals h (kstB (fun z => if stored.contains z then u z else m₀ z) (ps c)) →
      AllObj ws (fun its => News h₀ env.locals h (its ++ news c) →
        wpAny (model prog w) A (assign target env d) (fun _ s₂ => wpAny (model prog w) A (execs body env) (UnrPostW h₀ env.locals { s with heap := h, toks := tk } its (fun m' n' => SubL keep n' ∧ KInv ps stored m₀ P news (i + 1) m' n') Q) E s₂) E { s with heap := h, toks := tk }))
    (done : ∀ (c : σ) (u : Str → Option Value) h tk, P ds.length c → Fr h₀ env.locals h (kstB (fun z => if stored.contains z then u z else m₀ z) (ps c)) → News h₀ env.locals h (news c) → Q .next { s with heap := h, toks := tk }) :
    ItemsRest prog w A E h₀ env target body Q s ws keep (ds.map Itm.val) m₀ (news c₀) := by
  have main : ∀ (r : List Value) (i : Nat) (m : Str → Option Value) (n : List (Addr × Obj)), ds.drop i = r → i + r.length = ds.length → KInv ps stored m₀ P news i m n → ItemsRest prog w A E h₀ env target body Q s ws keep (r.map Itm.val) m n := by
    intro r
    induction r with
    | nil =>
      rintro i m n hd hl ⟨c, hs, hp, h1, h2⟩
      have hi : i = ds.length := by simpa using hl
      subst hi
      exact fun h tk F N => done c m h tk hp (kst_of h1 h2 F) (cb_drop N hs)
    | cons d r ih =>
      rintro i m n hd hl ⟨c, hs, hp, h1, h2⟩
      have hget : ds[i]? = some d := by
        have := congrArg List.head? hd
        simpa using this
      have hd' : ds.drop (i + 1) = r := by
        have := congrArg List.tail hd
        simpa using this
      refine ItemsRest.val fun h tk F => ?_
      refine AllObj.mono (fun its x N => ?_) (turn i d c m h tk hget hp (kst_of h1 h2 F))
      have N' : News h₀ env.locals h (its ++ news c) := cb_drop N (fun p hp => (List.mem_append.mp hp).elim (fun q => List.mem_append_left _ q) (fun q => List.mem_append_right _ (hs p q)))
      refine wpAny_mono (x N') (fun _ s₂ y => wpAny_mono y (fun f s₃ z => UnrPostW.mono (fun m' n' q => ⟨q.1, ih (i + 1) m' n' hd' (by simp at hl; omega) q.2⟩) z) fun _ _ e => e) fun _ _ e => e
  exact main ds 0 m₀ (news c₀) rfl (by simp) ⟨c₀, fun _ hp => hp, hP, hk, fun _ _ _ => rfl⟩

theorem kst_self {ps : List (Str × Value)} {stored : List Str} {m₀ m₁ : Str → Option Value} (h1 : ∀ p ∈ ps, m₁ p.1 = some p.2) (h2 : ∀ z, (∀ p ∈ ps, z ≠ p.1) → stored.contains z = false → m₁ z = m₀ z) :
    kstB (fun z => if stored.contains z then m₁ z else m₀ z) ps = m₁ := by
  funext y
  refine kstB_eq h1 fun hn => ?_
  cases h3 : stored.contains y with
  | true => simp
  | false => simpa using (h2 y hn h3).symm

theorem UnrPost.mono {h₀ : Heap} {L : Addr} {s₁ : Shared} {I : Addr} {it : Obj} {r r' : (Str → Option Value) → List (Addr × Obj) → Prop} {Q : Flow → Shared → Prop} (hr : ∀ m n, r m n → r' m n) {f : Flow} {s₂ : Shared} (h : UnrPost h₀ L s₁ I it r Q f s₂) : UnrPost h₀ L s₁ I it r' Q f s₂ := by
  cases f with
  | ret v => exact h
  | brk => exact h
  | next => obtain ⟨h', tk, m', n', e, F, N, o, x⟩ := h; exact ⟨h', tk, m', n', e, F, N, o, hr _ _ x⟩
  | cont => obtain ⟨h', tk, m', n', e, F, N, o, x⟩ := h; exact ⟨h', tk, m', n', e, F, N, o, hr _ _ x⟩

theorem range_inv {σ : Type} {prog : Program} {w : World} {A : Around} {E : Value → Shared → Prop} {s : Shared} {env : Env} {h₀ : Heap} {x : Str} {body : List Stmt} {Q : Flow → Shared → Prop} {I : Addr} {a : Int} {n : Nat} {m₀ : Str → Option Value}
    (news : σ → List (Addr × Obj)) (ps : σ → List (Str × Value)) (stored : List Str) (P : Nat → σ → Prop) (c₀ : σ) (hk : ∀ p ∈ ps c₀, m₀ p.1 = some p.2) (hP : P 0 c₀)
    (turn : ∀ (i : Nat) (c : σ) (u : Str → Option Value) t h tk, i < n → P i c → Fr h₀ env.locals h (fun y => if y = x then some (.int (a + (i : Int)) t) else kstB (fun z => if stored.contains z then u z else m₀ z) (ps c) y) →
      News h₀ env.locals h ((I, itR (a + ((i + 1 : Nat) : Int)) ((n : Int) - ((i + 1 : Nat) : Int))) :: news c) →
      wpAny (model prog w) A (execs body env) (UnrPost h₀ env.locals { s with heap := h, toks := tk } I (itR (a + ((i + 1 : Nat) : Int)) ((n : Int) - ((i + 1 : Nat) : Int))) (KInv ps stored m₀ P news (i + 1)) Q) E { s with heap := h, toks := tk })
    (done : ∀ (c : σ) (u : Str → Option Value) h tk, P n c → Fr h₀ env.locals h (kstB (fun z => if stored.contains z then u z else m₀ z) (ps c)) → News h₀ env.locals h (news c) → Q .next { s with heap := h, toks := tk }) :
    RangeRest prog w A E h₀ env x body Q s I a n n 0 m₀ (news c₀) := by
  have main : ∀ (k i : Nat) (m : Str → Option Value) (l : List (Addr × Obj)), i + k = n → KInv ps stored m₀ P news i m l → RangeRest prog w A E h₀ env x body Q s I a n k i m l := by
    intro k
    induction k with
    | zero =>
      rintro i m l hi ⟨c, hs, hp, h1, h2⟩
      have hi' : i = n := by omega
      subst hi'
      exact fun h tk F N => done c m h tk hp (kst_of h1 h2 F) (cb_drop N hs)
    | succ k ih =>
      rintro i m l hi ⟨c, hs, hp, h1, h2⟩
      intro t h tk F N
      rw [← kst_self h1 h2] at F
      refine wpAny_mono (turn i c m t h tk (by omega) hp F (cb_drop N fun p hp => ?_)) (fun f s₂ z => UnrPost.mono (fun m' n' q => ih (i + 1) m' n' (by omega) q) z) fun _ _ e => e
      rcases List.mem_cons.mp hp with rfl | hp
      · exact List.mem_cons_self ..
      · exact List.mem_cons_of_mem _ (hs p hp)
  exact main n 0 m₀ (news c₀) (by omega) ⟨c₀, fun _ hp => hp, hP, hk, fun _ _ _ => rfl⟩
end Mine
end
section
open PySem PySem.Spec PySem.Calls PySem.W PyProof.Rows
set_option Elab.async false
set_option maxRecDepth 100000
namespace Mine
/-- entering a def with captured names, and what of the heap is the callee's base -/
theorem enterC {prog : Program} {w : World} {A₀ A : Around} {s : Shared} {base h₀ : Heap} {L : Addr} {m : Str → Option Value} {news : List (Addr × Obj)} {K : Frag} {p : Program} {loose : List Str} {mean : ExcName → Option Value} {mg mb : Str → Option Value}
    {env : Env} {outer : List Env} {R : Result → Shared → Prop} {name qual : Str} {params : Arguments} {body : List Stmt} {scope : Scope} {dV kV doc pm cdv ct oc : Value} {an od : Option Addr} {osl : Array (Option Value)} {f : Addr} {args : Args} {binds : List (Str × Value)}
    (B : Below A₀ base outer h₀) (F : Fr h₀ L s.heap m) (X₀ : K.In h₀) (N : News h₀ L s.heap news) (T : Top p loose mean mg mb h₀) (hA : A.frames = some (env :: outer)) (hf : env.frame = some L) (hke : env.scope.kind = .function)
    (ho : K.lookup f = some ⟨oc, od, .func (fnOf name qual params body scope dV kV doc pm an cdv ct), osl⟩) (hcd : codeIn K cdv qual = true) (hroom : A.depth < recursionLimit)
    (hbind : BindsTo s (fnOf name qual params body scope dV kV doc pm an cdv ct) args binds) (hkind : (binds.all fun y => scope.names.lookup y.1 == some .local || scope.names.lookup y.1 == some .cell) = true)
    (hnd : ((cellsFrom 0 scope.names []).map (·.1)).Nodup)
    (h : ∀ g L' h₁ tk cells, Fr h₀ L g m → Fr g L' h₁ (bindL (envOfC qual scope L' f cdv).kindOf binds fun _ => none) → News g L' h₁ (cells ++ news) →
      CellsAre (bindC (envOfC qual scope L' f cdv).kindOf binds fun _ => none) (cellsFrom (L' + 1) scope.names []) cells → Below A base (env :: outer) g → K.In g → Top p loose mean mg mb g → (∀ p ∈ news, p.1 < L') → GSub s.heap g (news.map (·.1)) →
      wpAny (model prog w) (A.deeper (envOfC qual scope L' f cdv)) (execs body (envOfC qual scope L' f cdv))
        (fun fl s' => LeaveK h₀ L m g R (match fl with | .ret v => v | _ => .none) s')
        (fun e s' => wpAny (model prog w) (A.deeper (envOfC qual scope L' f cdv)) (leaving (envOfC qual scope L' f cdv) e) (fun _ s'' => R (.error e) s'') (fun e' s'' => R (.error e') s'') s')
        { s with heap := h₁, toks := tk })
    (hco : scope.isCoroutine = false) (hgen : scope.isGenerator = false) (hk : scope.kind = .function) : codeAny (model prog w) A (.call (.ref f) args) R s := by
  have X₁ := X₀.keeps F.keep
  have gr := groundX (R := R) B F N hA hf hke
  refine codeAny_call_function hroom (X₁ _ _ ho) rfl hco hgen rfl (codeRec_of X₁ hcd) (hbind _ _ _ _ (wpAny_newFunctionEnv_cells hk (kindsX hkind _) fun env' he s' x => ?_))
  subst he
  have kp := x.toInCall.keep
  obtain ⟨h₁, tk, hs', _⟩ := x.done
  subst hs'
  refine ⟨(T.nolimit.keeps F.keep).keeps kp, codeAny_func ?_⟩
  have fresh : ∀ {q : Addr}, s.heap.get? q = none → (hideAll s.heap (news.map (·.1))).get? q = none := fun {q} e => by
    cases z : (hideAll s.heap (news.map (·.1))).get? q with
    | none => rfl
    | some o => rw [of_hideAll _ z] at e; cases e
  obtain ⟨cells, NC, Y⟩ := Cl.news (h₀ := s.heap) (Nat.le_refl _) fun n c hm =>
    ⟨x.cell n c (lookup_of_mem_nodup (cellsFrom_names scope.names 0 (s.heap.objs.size + 1) [] [] rfl ▸ hnd) hm), x.above n c hm⟩
  have NN : News (hideAll s.heap (news.map (·.1))) s.heap.objs.size h₁ (cells ++ news) := fun q hq => (List.mem_append.mp hq).elim
    (fun hq => ⟨(NC q hq).1, (NC q hq).2.1, fresh (NC q hq).2.2⟩)
    (fun hq => ⟨kp _ _ (N q hq).1, Nat.ne_of_lt (Heap.lt_size (N q hq).1), hideAll_none _ (List.mem_map_of_mem hq)⟩)
  exact wpAny_mono (h _ _ h₁ tk cells gr.1 ⟨x.toInCall.ns, fun b o e => kp b o (of_hideAll _ e), Nat.le_of_eq (hideAll_size _ _)⟩ NN Y gr.2.1 (X₀.keeps gr.2.2.1) (T.keeps gr.2.2.1) (fun q hq => Heap.lt_size (N q hq).1) (fun b o e n => hideAll_get _ e n))
    (fun fl s' hl => gr.2.2.2 _ _ hl) fun _ _ y => y
end Mine
end
section
open PySem PySem.Spec PySem.Calls PySem.W PyProof.Rows
set_option Elab.async false
set_option maxRecDepth 100000
namespace Mine
noncomputable def ElOf (news : List (Addr × Obj)) (R : Value → Prop) (y : Value) (news' : List (Addr × Obj)) : Prop := news' = news ∧ R y

theorem compEnd_el {h₀ : Heap} {L I C D : Addr} {m : Str → Option Value} {s₁ : Shared} {oI oC oD : Obj} {S : List (Addr × Obj) → Prop} {news : List (Addr × Obj)} {R : Value → Prop} {y : Value} {h' : Heap} {tk : Nat} {all : List (Addr × Obj)}
    (F : Fr h₀ L h' m) (N : News h₀ L h' all) (sub : ∀ p ∈ (I, oI) :: (C, oC) :: (D, oD) :: news, p ∈ all) (off : LCg.Off3 I C D news) (hS : S news) (r : R y) :
    LCg.CompEnd h₀ L m s₁ I oI C oC D oD S (fun y news' => ElOf news R y news') y { s₁ with heap := h', toks := tk } := ⟨h', tk, news, rfl, F, fun p hp => N p (sub p hp), off, hS, rfl, r⟩

theorem crest_rel {prog : Program} {w : World} {A : Around} {h₀ : Heap} {L : Addr} {m : Str → Option Value} {env : Env} {elt : Expr} {x : Str} {scope : Scope} {cl : List (Str × Addr)} {s : Shared} {S : List (Addr × Obj) → Prop} {P : Nat → Value → Prop} {Fin : List Value → List (Addr × Obj) → Prop} {news : List (Addr × Obj)}
    {n : Nat} (R : Nat → Value → Prop)
    (turn : ∀ i v I oI C oC D m₂ ys h tk (E' : Value → Shared → Prop), i < n → P i v → LCg.NsObj oC m₂ → m₂ x = some v → Fr h₀ L h m → News h₀ L h ((I, oI) :: (C, oC) :: (D, LCg.lst ys) :: news) → LCg.Off3 I C D news → ((@Ne Nat I C) ∧ (@Ne Nat I D) ∧ (@Ne Nat C D)) →
      wpAny (model prog w) A (eval elt (compEnvC scope cl C env)) (LCg.CompEnd h₀ L m { s with heap := h, toks := tk } I oI C oC D (LCg.lst ys) S (fun y news' => ElOf news (R i) y news')) E' { s with heap := h, toks := tk })
    (fin : ∀ ys : List Value, ys.length = n → (∀ (i : Nat) y, ys[i]? = some y → R i y) → Fin ys news) : LCg.CompRest prog w A h₀ L m env elt x scope cl s S P Fin n 0 [] news := by
  have key : ∀ (j i : Nat) (ys : List Value), i + j = n → ys.length = i → (∀ (i : Nat) y, ys[i]? = some y → R i y) → LCg.CompRest prog w A h₀ L m env elt x scope cl s S P Fin j i ys news := by
    intro j
    induction j with
    | zero => intro i ys hi hl hR; exact LCg.CompRest.zero (fin ys (by omega) hR)
    | succ j ih =>
      intro i ys hi hl hR
      refine LCg.CompRest.succ ?_
      intro v I oI C oC D m₂ h tk E' hv hC hx F N off ne
      refine wpAny_mono (turn i v I oI C oC D m₂ ys h tk E' (by omega) hv hC hx F N off ne) (fun y s₂ hq => ?_) fun _ _ e => e
      obtain ⟨h', tk', nw, e, F', N', off', hS, hn, hy⟩ := hq
      subst hn
      refine ⟨h', tk', nw, e, F', N', off', hS, ?_⟩
      refine ih (i + 1) _ (by omega) (by simp [hl]) ?_
      intro i' y' hy'
      rcases Nat.lt_trichotomy i' ys.length with hlt | heq | hgt
      · rw [List.getElem?_append_left hlt] at hy'; exact hR i' y' hy'
      · subst heq
        rw [List.getElem?_append_right (Nat.le_refl _), Nat.sub_self] at hy'
        cases hy'
        exact hl ▸ hy
      · rw [List.getElem?_append_right (Nat.le_of_lt hgt)] at hy'
        have : 0 < i' - ys.length := by omega
        cases hh : i' - ys.length with
        | zero => omega
        | succ q => rw [hh] at hy'; cases hy'
  exact key n 0 [] (by omega) rfl (fun i y h => by cases h)

/-- a comprehension over a range -/
theorem csrc_range {prog : Program} {w : World} {A : Around} {h₀ : Heap} {L : Addr} {m : Str → Option Value} {env : Env} {elt : Expr} {x : Str} {scope : Scope} {cl : List (Str × Addr)} {Fin : Shared → List Value → List (Addr × Obj) → Prop} {r : Addr} {t u v : Tok} {news : List (Addr × Obj)} {s₁ : Shared}
    {n : Nat} (R : Nat → Value → Prop) (hn : n ≤ 100) (hh : A.handled = none) (F : Fr h₀ L s₁.heap m) (N : News h₀ L s₁.heap news) (hr : IsRange s₁.heap r 0 (n : Int) 1 t u v)
    (turn : ∀ (i : Nat) t I oI C oC D m₂ ys h g tk (E' : Value → Shared → Prop), i < n → LCg.NsObj oC m₂ → m₂ x = some (.int (i : Int) t) → Fr h₀ L h m → News h₀ L h ((I, oI) :: (C, oC) :: (D, LCg.lst ys) :: news) → LCg.Off3 I C D news → ((@Ne Nat I C) ∧ (@Ne Nat I D) ∧ (@Ne Nat C D)) →
      wpAny (model prog w) A (eval elt (compEnvC scope cl C env)) (LCg.CompEnd h₀ L m { { s₁ with heap := g } with heap := h, toks := tk } I oI C oC D (LCg.lst ys) (fun _ => True) (fun y news' => ElOf news (R i) y news')) E' { { s₁ with heap := g } with heap := h, toks := tk })
    (fin : ∀ g, ∀ ys : List Value, ys.length = n → (∀ (i : Nat) y, ys[i]? = some y → R i y) → Fin { s₁ with heap := g } ys news) :
    LCg.CompSrc prog w A h₀ L m env elt x scope cl Fin (.ref r) s₁ := by
  refine LCg.CompSrc.range (n := n) hh F N hr (small_one (by decide) (by decide) (by omega) (by omega)) (by rw [rangeSize_nat]; omega) (by rw [PySem.sizeLine_eq]; omega) ?_
  intro g
  refine crest_rel R ?_ (fin g)
  intro i v I oI C oC D m₂ ys h tk E' hi hv hC hx F N off ne
  obtain ⟨t', rfl⟩ := hv
  rw [Int.zero_add] at hx
  exact turn i t' I oI C oC D m₂ ys h g tk E' hi hC hx F N off ne

/-- a comprehension over a list of the ledger -/
theorem csrc_ledger {prog : Program} {w : World} {A : Around} {h₀ : Heap} {L : Addr} {m : Str → Option Value} {env : Env} {elt : Expr} {x : Str} {scope : Scope} {cl : List (Str × Addr)} {Fin : Shared → List Value → List (Addr × Obj) → Prop} {ax : Addr} {vs : List Value} {k : Nat} {news : List (Addr × Obj)} {s₁ : Shared}
    (R : Nat → Value → Prop) (hn : vs.length ≤ 1000) (hh : A.handled = none) (F : Fr h₀ L s₁.heap m) (N : News h₀ L s₁.heap news) (hm : (ax, ({ cls := .type "list", data := .seq vs.toArray k } : Obj)) ∈ news)
    (turn : ∀ (i : Nat) v I oI C oC D m₂ ys h g tk (E' : Value → Shared → Prop), vs[i]? = some v → LCg.NsObj oC m₂ → m₂ x = some v → Fr h₀ L h m → News h₀ L h ((I, oI) :: (C, oC) :: (D, LCg.lst ys) :: news) → LCg.Off3 I C D news → ((@Ne Nat I C) ∧ (@Ne Nat I D) ∧ (@Ne Nat C D)) →
      wpAny (model prog w) A (eval elt (compEnvC scope cl C env)) (LCg.CompEnd h₀ L m { { s₁ with heap := g } with heap := h, toks := tk } I oI C oC D (LCg.lst ys) (LCg.SrcAt h₀ ax vs.toArray) (fun y news' => ElOf news (R i) y news')) E' { { s₁ with heap := g } with heap := h, toks := tk })
    (fin : ∀ g, ∀ ys : List Value, ys.length = vs.length → (∀ (i : Nat) y, ys[i]? = some y → R i y) → Fin { s₁ with heap := g } ys news) :
    LCg.CompSrc prog w A h₀ L m env elt x scope cl Fin (.ref ax) s₁ := by
  refine LCg.CompSrc.ledger hh F N hm (by rw [PySem.sizeLine_eq, List.size_toArray]; omega) ?_
  intro g
  rw [List.size_toArray]
  refine crest_rel R ?_ (fin g)
  intro i v I oI C oC D m₂ ys h tk E' hi hv hC hx F N off ne
  exact turn i v I oI C oC D m₂ ys h g tk E' (by simpa using hv) hC hx F N off ne
end Mine
end
section
open PySem PySem.W PySem.Calls PyProof.Rows PySem.Builtin
set_option Elab.async false
set_option maxRecDepth 100000
namespace Mine
noncomputable abbrev accO (dx : Addr) (its : Array Value) (n : Nat) : Obj := { cls := .ref 207, dict := some dx, data := .seq its n }

theorem check_list {M : Model} {A : Around} {E : Value → Shared → Prop} {s : Shared} {i n : String} {self : Value} {rest : List Value} {kw : List (Str × Value)} {Q : Unit → Shared → Prop}
    (hk : builtinKind i = some .slot ∨ builtinKind i = some .method) (hs : splitId i = some ("list", n)) (hi : Looks M s.heap (isInstance self (.type "list")) true) (ha : argsOk i ⟨self :: rest, kw⟩) (q : Q () s) :
    wpAny M A (checkBuiltinCall i ⟨self :: rest, kw⟩) Q E s := by
  rcases hk with hk | hk
  · exact check_slot hk hs hi ha q
  · simp only [checkBuiltinCall, hk, hs]
    refine wpAny_bind (hi.here ?_)
    simp only [Bool.not_true, Bool.false_eq_true, if_false]
    cases hsig : Manifest.signature? i with
    | none => exact wpAny_pure q
    | some sig =>
      simp only [argsOk, hsig] at ha
      have h2 : Bind.checkArgs i sig ⟨self :: rest, kw⟩ = pure () := ha
      show wpAny M A (Bind.checkArgs i sig ⟨self :: rest, kw⟩) Q E s
      rw [h2]; exact wpAny_pure q

section
variable {w : World} {A : Around} {E : Value → Shared → Prop} {s : Shared} {x dx : Addr} {its : Array Value} {n : Nat} {Q : Value → Shared → Prop} {od : Option Obj}

theorem acc_inst {h : Heap} (ho : h.get? x = some (accO dx its n)) {d : Obj} (hd : h.get? dx = some d) : InstAt h x (accO dx its n) 207 (some d) := ⟨ho, rfl, rfl, hd⟩
theorem acc_type {M : Model} {h : Heap} (ho : h.get? x = some (accO dx its n)) : Looks M h (typeOf (.ref x)) (.ref 207) := (Looks.ld ho).andThen .now
theorem acc_isList {M : Model} {h : Heap} (X : (hd.heap_1 w.params).In h) (ho : h.get? x = some (accO dx its n)) : Looks M h (isInstance (.ref x) (.type "list")) true :=
  (acc_type ho).andThen (looks_subIn X (t := .ref 207) (by kernel_rfl))

theorem call_acc {i nm : String} {b : Builtin} {rest : List Value} (hk : builtinKind i = some .slot ∨ builtinKind i = some .method) (hs : splitId i = some ("list", nm)) (ha : argsOk i ⟨.ref x :: rest, []⟩) (hp : plainId i = true) (he : entryFor table i = some b)
    (X : (hd.heap_1 w.params).In s.heap) (ho : s.heap.get? x = some (accO dx its n))
    (h : wpAny (model PR w) A.in1 (b ⟨.ref x :: rest, []⟩) (fun fin s' => ∃ v, fin = .done (.ret v) ∧ Q v s') E s) : wpAny (model PR w) A (call (.builtin i) (.ref x :: rest)) Q E s := by
  refine wpAny_call (codeAny_call_builtin hp he (check_list hk hs (acc_isList X ho) ha (wpAny_mono h (fun fin s' h' => ?_) fun _ _ h' => h')))
  obtain ⟨v, rfl, hv⟩ := h'; exact hv

theorem acc_append_at {v : Value} (X : (hd.heap_1 w.params).In s.heap) (ho : s.heap.get? x = some (accO dx its n))
    (h : ∀ h', Heap.SameBut x s.heap h' → h'.get? x = some (accO dx (its.push v) (n + 1)) → Q .none { s with heap := h' }) (hsz : its.size ≤ sizeLine) :
    wpAny (model PR w) A (call (.builtin "list.append") [.ref x, v]) Q E s := by
  refine call_acc (.inr (by decide +kernel)) (nm := "append") (by decide +kernel) (args_list_append _ _) (by decide +kernel) entry_list_append X ho ?_
  show wpAny _ _ (updateSeq x (·.push v) >>= fun _ => ret .none) _ _ s
  refine wpAny_bind ?_
  refine wpAny_updateSeq ho rfl (wpAny_pure ⟨.none, rfl, h _ (Heap.SameBut.update ..) ?_⟩) hsz (by simp; omega)
  rw [Heap.get?_update_self _ ho rfl]
  simp [Obj.mapSeq]

theorem acc_getMethod {name : Str} {f : Value} {pl : Sem Bool} {Q : Value × List Value → Shared → Prop} {d : Obj} (X : (hd.heap_1 w.params).In s.heap) (ho : s.heap.get? x = some (accO dx its n)) (hdx : s.heap.get? dx = some d)
    (hf : findIn (hd.heap_1 w.params) (.ref 207) name = some (some f)) (ht : (match typeIn (hd.heap_1 w.params) f with | some (.type "function") => true | some (.type "method_descriptor") => true | some (.type "wrapper_descriptor") => true | _ => false) = true)
    (hn : lookIn name d = some none) (h : Q (f, [.ref x]) s) : wpAny (model PR w) A (getMethod (.ref x) name pl) Q E s := by
  have hga : findIn (hd.heap_1 w.params) (.ref 207) "__getattribute__" = some (some (.builtin "list.__getattribute__")) := by kernel_rfl
  have hk : findIn (hd.heap_1 w.params) (.ref 207) "__getattr__" = some none := by kernel_rfl
  have hcan : (Manifest.canonical "list.__getattribute__" != "object.__getattribute__") = false := by decide +kernel
  have ty := acc_type (M := model PR w) ho
  unfold getMethod specialOf
  refine wpAny_bind (wpAny_bind (ty.here ((looks_findIn X hga).here ?_)))
  dsimp only
  rw [hcan, if_neg (by decide)]
  refine wpAny_bind (wpAny_bind (ty.here ((looks_findIn X hk).here ?_)))
  have fin : ∀ t, typeIn (hd.heap_1 w.params) f = some t → (t != .type "function" && t != .type "method_descriptor" && t != .type "wrapper_descriptor") = false →
      wpAny (model PR w) A (do
        let some f ← specialOf (.ref x) name | (do return (← getAttr (.ref x) name, []))
        let tf ← typeOf f
        if tf != .type "function" && tf != .type "method_descriptor" && tf != .type "wrapper_descriptor" then return ← (do return (← getAttr (.ref x) name, []))
        if let .ref a := Value.ref x then
          if let some d := (← loadPart a (some headPart)).dict then
            if (← nsGet d name).isSome then return ← (do return (← getAttr (.ref x) name, []))
        rule "call.method-form"
        return (f, [.ref x])) Q E s := by
    intro t htt hno
    unfold specialOf
    refine wpAny_bind (wpAny_bind (ty.here ((looks_findIn X hf).here (wpAny_bind ((looks_typeIn X htt).here ?_)))))
    rw [hno, if_neg (by decide)]
    refine wpAny_bind (wpAny_loadPart ho ?_)
    refine wpAny_bind (wpAny_bind (wpAny_loadPart hdx ?_))
    rw [nsLook_of hn]
    refine wpAny_pure ?_
    exact wpAny_bind (wpAny_rule (wpAny_pure h))
  split at ht
  · exact fin _ (by assumption) rfl
  · exact fin _ (by assumption) rfl
  · exact fin _ (by assumption) rfl
  · cases ht
end
end Mine
end
section
open PySem PySem.W PySem.Calls PyProof.Rows PySem.Builtin
set_option Elab.async false
set_option maxRecDepth 100000
namespace Mine
section
variable {w : World} {A : Around} {E : Value → Shared → Prop} {s : Shared} {x dx : Addr} {its : Array Value} {n : Nat} {Q : Value → Shared → Prop} {d : Obj}

theorem acc_special {name : Str} {id : String} {t : String} {args : List Value} {Q : Option Value → Shared → Prop} (X : (hd.heap_1 w.params).In s.heap) (ho : s.heap.get? x = some (accO dx its n)) (S : Slot t name id)
    (hs : findIn (hd.heap_1 w.params) (.ref 207) name = some (some (.builtin id))) (h : wpAny (model PR w) A (call (.builtin id) (.ref x :: args)) (fun v => Q (some v)) E s) :
    wpAny (model PR w) A (callSpecial? (.ref x) name args) Q E s := by
  unfold callSpecial? specialOf
  refine wpAny_bind (wpAny_bind ((acc_type ho).here ((looks_findIn X hs).here (wpAny_holding ?_))))
  rw [S.bind]
  exact wpAny_bind (wpAny_pure (wpAny_bind (wpAny_mono h (fun _ _ z => wpAny_pure z) fun _ _ z => z)))

theorem acc_special_fn {name : Str} {f : Addr} {args : List Value} {Q : Option Value → Shared → Prop} (X : (hd.heap_1 w.params).In s.heap) (ho : s.heap.get? x = some (accO dx its n)) (hdx : s.heap.get? dx = some d)
    (hs : findIn (hd.heap_1 w.params) (.ref 207) name = some (some (.ref f))) (hf : typeIn (hd.heap_1 w.params) (.ref f) = some (.type "function")) (h : wpAny (model PR w) A (call (.ref f) (.ref x :: args)) (fun v => Q (some v)) E s) :
    wpAny (model PR w) A (callSpecial? (.ref x) name args) Q E s := special_fn X (acc_inst ho hdx) hs hf h

theorem acc_getAttr {name : Str} {expr : Bool} {v : Value} (X : (hd.heap_1 w.params).In s.heap) (ho : s.heap.get? x = some (accO dx its n)) (hdx : s.heap.get? dx = some d)
    (hf : findObj (hd.heap_1 w.params) 207 (some d) name = some (.value v)) (hh : handedIn v = true) (h : Q v { s with toks := s.toks + 1 }) : wpAny (model PR w) A (getAttr (.ref x) name expr) Q E s := by
  have hga : findIn (hd.heap_1 w.params) (.ref 207) "__getattribute__" = some (some (.builtin "list.__getattribute__")) := by kernel_rfl
  have hk : findIn (hd.heap_1 w.params) (.ref 207) "__getattr__" = some none := by kernel_rfl
  have ty := acc_type (M := model PR w) ho
  refine wpAny_bind (wpAny_mkText (wpAny_holding (wpAny_bind (ty _ _ _ _ (fun _ _ e => e) (wpAny_bind (looks_findIn X hga _ _ _ _ (fun _ _ e => e) ?_))))))
  dsimp only
  rw [show (onTheHeap (Value.ref 207) && Value.builtin "list.__getattribute__" == Value.builtin "object.__getattribute__") = false from by rw [show (Value.builtin "list.__getattribute__" == Value.builtin "object.__getattribute__") = false from by decide +kernel, Bool.and_false], if_neg (by decide)]
  unfold getAttrByItsOwn hookBefore
  rw [show onTheHeap (Value.ref 207) = true from rfl, if_pos rfl]
  refine wpAny_bind (looks_findIn X hk _ _ _ _ (fun _ _ e => e) (wpAny_bind (wpAny_attempt (wpAny_holding ?_))))
  unfold callGetattribute
  rw [show (expr && onTheHeap (Value.builtin "list.__getattribute__")) = false from Bool.and_false _, if_neg (by decide)]
  unfold boundAndCalled
  rw [F.slot_list_getattribute.bind]
  refine wpAny_bind (wpAny_pure ?_)
  show wpAny _ _ (call (.builtin "list.__getattribute__") [.ref x, .str name s.toks]) _ _ _
  refine call_acc (its := its) (n := n) (dx := dx) (.inl (by decide +kernel)) (nm := "__getattribute__") (by decide +kernel) (F.args_list_getattribute_2 _ _) (by decide +kernel) F.entry_list_ga X ho ?_
  unfold Builtin.«object.__getattribute__»
  have L0 := (acc_inst ho hdx).type (M := model PR w)
  have L1 := looks_find (M := model PR w) X (acc_inst ho hdx) hf
  refine wpAny_bind (wpAny_pure (wpAny_bind (wpAny_pure (wpAny_bind (L0 _ _ _ _ (fun _ _ e => e) (wpAny_bind (L1 _ _ _ _ (fun _ _ e => e) ?_)))))))
  refine wpAny_pure ⟨v, rfl, ?_⟩
  show wpAny _ _ (handedOut v) _ _ _
  rw [handedOut_of hh]
  exact wpAny_pure h

theorem erase_push (ini : Array Value) (v : Value) : (ini.push v).eraseIdxIfInBounds ini.size = ini := by
  unfold Array.eraseIdxIfInBounds
  rw [dif_pos (by simp)]
  apply Array.toList_inj.mp
  simp [Array.toList_eraseIdx, List.eraseIdx_append_of_length_le]

end
end Mine
end
section
open PySem PySem.W PySem.Calls PyProof.Rows PySem.Builtin
set_option Elab.async false
set_option maxRecDepth 100000
namespace Mine
section
variable {w : World} {A : Around} {E : Value → Shared → Prop} {s : Shared} {x dx : Addr} {its : Array Value} {n : Nat} {d : Obj}

theorem acc_seqKey {k : Value} {name : Str} {Q : Value → Shared → Prop} (X : (hd.heap_1 w.params).In s.heap) (ho : s.heap.get? x = some (accO dx its n)) (h : Q k s) :
    wpAny (model PR w) A (sequenceKey (.ref x) k name) Q E s := by
  have hq : (seqItemTypes.all fun n => subIn (hd.heap_1 w.params) (.ref 207) (.type n) == some false) = true := by kernel_rfl
  unfold sequenceKey
  refine wpAny_bind ((acc_type ho).here ?_)
  refine wpAny_bind ((anyM_none X hq).here ?_)
  rw [if_pos (show (!false) = true from rfl)]
  exact wpAny_pure h

theorem acc_getInt {k : Int} {t : Tok} {y : Value} {Q : Value → Shared → Prop} (X : (hd.heap_1 w.params).In s.heap) (ho : s.heap.get? x = some (accO dx its n))
    (h0 : 0 ≤ k) (hfit : k < 2 ^ 63) (hx : its[k.toNat]? = some y) (h : Q y s) : wpAny (model PR w) A (getItem (.ref x) (.int k t)) Q E s := by
  unfold getItem
  refine wpAny_holding (wpAny_bind (acc_seqKey X ho ?_))
  refine wpAny_bind (acc_special (its := its) (n := n) (dx := dx) X ho slot_list_getitem (by kernel_rfl) ?_)
  refine call_acc (its := its) (n := n) (dx := dx) (.inr (by decide +kernel)) (nm := "__getitem__") (by decide +kernel) (args_list_getitem _ _) (by decide +kernel) entry_list_getitem X ho ?_
  show wpAny _ _ (Builtin.List.listSubscript? (.int k t) >>= _) _ _ s
  refine wpAny_bind (wpAny_listSubscript_int (fitsIndex_of h0 hfit) ?_)
  clear hfit
  obtain ⟨j, rfl⟩ := Int.eq_ofNat_of_zero_le h0
  have hx' : its[j]? = some y := hx
  show wpAny _ _ ((seqItemAt x j >>= fun r => pure (r.map (j, ·))) >>= _) _ _ s
  refine wpAny_bind (wpAny_bind (wpAny_seqItemAt ho rfl (wpAny_pure ?_)))
  rw [hx']
  first
    | exact wpAny_bind (wpAny_pure (wpAny_pure ⟨y, rfl, wpAny_pure h⟩))
    | exact wpAny_pure ⟨y, rfl, wpAny_pure h⟩

theorem acc_getSlice {sl : Addr} {vl vu vs : Value} {lo hi st : Option Int} {Q : Value → Shared → Prop} (X : (hd.heap_1 w.params).In s.heap) (ho : s.heap.get? x = some (accO dx its n))
    (hs : s.heap.IsSliceOf sl vl vu vs) (pl : IsPart vl lo) (pu : IsPart vu hi) (ps : IsPart vs st) (h0 : st ≠ some 0) (hsz : its.size ≤ sizeLine)
    (h : Q (.ref s.heap.objs.size) { s with heap := s.heap.push { cls := .type "list", data := .seq (slicePick its lo hi st) } }) : wpAny (model PR w) A (getItem (.ref x) (.ref sl)) Q E s := by
  obtain ⟨os, hos, hcs, hds⟩ := id hs
  have hTs : s.TypeIs (.ref sl) "slice" := ⟨os, hos, hcs⟩
  unfold getItem
  refine wpAny_holding (wpAny_bind (acc_seqKey X ho ?_))
  refine wpAny_bind (acc_special (its := its) (n := n) (dx := dx) X ho slot_list_getitem (by kernel_rfl) ?_)
  refine call_acc (its := its) (n := n) (dx := dx) (.inr (by decide +kernel)) (nm := "__getitem__") (by decide +kernel) (args_list_getitem _ _) (by decide +kernel) entry_list_getitem X ho ?_
  show wpAny _ _ (Builtin.List.listSubscript? (.ref sl) >>= _) _ _ s
  refine wpAny_bind ?_
  unfold Builtin.List.listSubscript?
  refine wpAny_bind (wpAny_specialOf hTs slice_no_index ?_)
  simp only [Option.isNone_none, if_true]
  refine wpAny_pure ?_
  show wpAny _ _ (typeOf (.ref sl) >>= _) _ _ s
  refine wpAny_bind (wpAny_typeOf hTs ?_)
  rw [if_neg (by decide)]
  rw [listSliceParts_eq]
  have hstep : ¬ ((rawPart st == rawInt 0) = true) := by
    cases st with
    | none => exact Bool.false_ne_true
    | some c =>
      intro hh
      have : c = 0 := by simpa [rawPart, rawInt] using hh
      exact h0 (by rw [this])
  refine wpAny_bind (wpAny_bind (wpAny_field hos hds (x := vs) rfl (wpAny_bind (wpAny_listPart ps ?_))))
  rw [if_neg hstep]
  refine wpAny_bind (wpAny_field hos hds (x := vl) rfl (wpAny_bind (wpAny_listPart pl ?_)))
  refine wpAny_bind (wpAny_field hos hds (x := vu) rfl (wpAny_bind (wpAny_listPart pu (wpAny_pure ?_))))
  refine wpAny_bind (m := Builtin.List.listItems (.ref x)) ?_
  unfold Builtin.List.listItems
  refine wpAny_bind (wpAny_seqItems ho rfl (wpAny_pure ?_))
  refine wpAny_bind (wpAny_of_eq (sliceIndices_raw lo hi st its.size h0) ?_)
  exact wpAny_bind (wpAny_newObj_type (wpAny_pure ⟨_, rfl, wpAny_pure h⟩) (Nat.le_trans (slicePick_size_le its lo hi st) hsz))

theorem acc_setSlice {sl l : Addr} {vl : Value} {lo : Option Int} {new : Array Value} {Q : Unit → Shared → Prop} (X : (hd.heap_1 w.params).In s.heap) (ho : s.heap.get? x = some (accO dx its n))
    (hs : s.heap.IsSliceOf sl vl .none .none) (pl : IsPart vl lo) (hl : s.heap.IsList l new) (hxl : x ≠ l) (hsz : its.size ≤ 1000) (hsn : new.size ≤ 1000)
    (h : ∀ h' n', Heap.SameBut x s.heap h' → h'.get? x = some (accO dx (its.extract 0 (sliceBounds lo none none its.size).1.toNat ++ new ++ its.extract (max (sliceBounds lo none none its.size).1 (sliceBounds lo none none its.size).2.1).toNat its.size) n') → Q () { s with heap := h' }) :
    wpAny (model PR w) A (setItem (.ref x) (.ref sl) (.ref l)) Q E s := by
  obtain ⟨os, hos, hcs, hds⟩ := id hs
  obtain ⟨ol, hol, hcl, nl, hdl⟩ := id hl
  have hTs : s.TypeIs (.ref sl) "slice" := ⟨os, hos, hcs⟩
  unfold setItem
  refine wpAny_holding (wpAny_bind (acc_seqKey X ho ?_))
  refine wpAny_bind (acc_special (its := its) (n := n) (dx := dx) X ho slot_list_setitem (by kernel_rfl) ?_)
  refine call_acc (its := its) (n := n) (dx := dx) (.inl (by decide +kernel)) (nm := "__setitem__") (by decide +kernel) (args_list_setitem _ _ _) (by decide +kernel) entry_list_setitem X ho ?_
  show wpAny _ _ (Builtin.List.listSubscript? (.ref sl) >>= _) _ _ s
  refine wpAny_bind ?_
  unfold Builtin.List.listSubscript?
  refine wpAny_bind (wpAny_specialOf hTs slice_no_index ?_)
  simp only [Option.isNone_none, if_true]
  refine wpAny_pure ?_
  show wpAny _ _ (typeOf (.ref sl) >>= _) _ _ s
  refine wpAny_bind (wpAny_typeOf hTs ?_)
  rw [if_neg (by decide)]
  rw [listSliceParts_eq]
  refine wpAny_bind (wpAny_bind (wpAny_field hos hds (x := .none) rfl (wpAny_bind (wpAny_listPart .none ?_))))
  rw [if_neg (show ¬ ((rawPart none == rawInt 0) = true) from Bool.false_ne_true)]
  refine wpAny_bind (wpAny_field hos hds (x := vl) rfl (wpAny_bind (wpAny_listPart pl ?_)))
  refine wpAny_bind (wpAny_field hos hds (x := .none) rfl (wpAny_bind (wpAny_listPart .none (wpAny_pure ?_))))
  rw [show Builtin.List.listSameRef (.ref x) (.ref l) = false from by simpa [Builtin.List.listSameRef] using hxl, if_neg (by decide)]
  refine wpAny_bind (m := Builtin.List.listAllItems (.ref l) _) ?_
  unfold Builtin.List.listAllItems
  refine wpAny_bind (wpAny_typeOf hl.typeIs ?_)
  rw [if_pos (by decide)]
  unfold Builtin.List.listItems
  refine wpAny_bind (wpAny_seqItems hol hdl (wpAny_pure ?_))
  refine wpAny_bind (m := Builtin.List.listItems (.ref x)) ?_
  unfold Builtin.List.listItems
  refine wpAny_bind (wpAny_seqItems ho rfl (wpAny_pure ?_))
  refine wpAny_bind (wpAny_of_eq (sliceIndices_raw lo none none its.size (by simp)) ?_)
  show wpAny _ _ (if ((sliceBounds lo none none its.size).2.2 == 1) = true then _ else _) _ _ s
  rw [if_pos (show ((sliceBounds lo none none its.size).2.2 == 1) = true from rfl)]
  refine wpAny_bind (wpAny_rule ?_)
  rw [if_neg (by unfold Builtin.List.listTooLong; rw [PySem.sizeLine_eq]; simp; omega)]
  refine wpAny_bind ?_
  show wpAny _ _ (updateSeq x _) _ _ s
  have fin : ∀ f : Array Value → Array Value, ∃ n', (Obj.mapSeq f (accO dx its n)) = accO dx (f its) n' := fun f => ⟨_, rfl⟩
  obtain ⟨n', en⟩ := fin fun xs => xs.extract 0 (sliceBounds lo none none its.size).1.toNat ++ new ++ xs.extract (max (sliceBounds lo none none its.size).1 (sliceBounds lo none none its.size).2.1).toNat its.size
  refine wpAny_updateSeq ho rfl (wpAny_bind (wpAny_letGo (wpAny_pure ⟨.none, rfl, wpAny_pure (h _ n' (Heap.SameBut.update ..) ?_)⟩))) (by rw [PySem.sizeLine_eq]; omega) ?_
  · rw [Heap.get?_update_self _ ho rfl]
    exact congrArg some en
  · rw [PySem.sizeLine_eq]; simp; omega

theorem acc_iter {Q : Value → Shared → Prop} (X : (hd.heap_1 w.params).In s.heap) (ho : s.heap.get? x = some (accO dx its n))
    (hQ : Q (.ref s.heap.objs.size) { s with heap := s.heap.push { cls := .type "list_iterator", data := .fields #[.ref x, .int 0 0] } }) :
    wpAny (model PR w) A (pyIter (.ref x)) Q E s := by
  have hf : findIn (hd.heap_1 w.params) (.ref 207) "__iter__" = some (some (.builtin "list.__iter__")) := by kernel_rfl
  have hc : wpAny (model PR w) A (call (.builtin "list.__iter__") [.ref x]) (fun it s' => ∃ T' r, s'.TypeIs it T' ∧ typeLookup (.type T') "__next__" = pure (some r) ∧ Q it s') E s := by
    refine call_acc (its := its) (n := n) (dx := dx) (.inl (by decide +kernel)) (nm := "__iter__") (by decide +kernel) (args_list_iter _) (by decide +kernel) entry_list_iter X ho ?_
    show wpAny _ _ (do ret (← newFields "list_iterator" [.ref x, rawInt 0])) _ _ s
    exact wpAny_bind (wpAny_newObj_type (wpAny_pure ⟨_, rfl, "list_iterator", _, ⟨_, Heap.get?_push_size _ rfl, rfl⟩, slot_listiter_next.lookup, hQ⟩))
  unfold pyIter specialOf
  refine wpAny_bind (wpAny_bind ((acc_type ho).here ((looks_findIn X hf).here ?_)))
  show wpAny _ A (callSpecialIfBoundUnlessNone? (.ref x) "__iter__" _ >>= _) Q E s
  refine wpAny_bind ?_
  simp only [callSpecialIfBoundUnlessNone?, bindSpecialIfBound?, specialOf]
  refine wpAny_holding (wpAny_bind (wpAny_bind (wpAny_bind ((acc_type ho).here ((looks_findIn X hf).here ?_)))))
  simp only [slot_list_iter.bind]
  refine wpAny_bind (wpAny_askSetting (wpAny_ite ?_))
  have fin : ∀ (refuse : Sem Value) (K : Option Value → Sem Value), (∀ v s', (∃ T' r, s'.TypeIs v T' ∧ typeLookup (.type T') "__next__" = pure (some r) ∧ Q v s') → wpAny (model PR w) A (K (some v)) Q E s') →
      wpAny (model PR w) A (if (Value.builtin "list.__iter__" == Value.none) = true then (refuse >>= fun v => pure (some v)) else (call (.builtin "list.__iter__") [.ref x] >>= fun v => pure (some v))) (fun r s' => wpAny (model PR w) A (K r) Q E s') E s := by
    intro refuse K hK
    simp only [builtin_beq_none, Bool.false_eq_true, if_false]
    exact wpAny_bind (wpAny_mono hc (fun v s' h' => wpAny_pure (hK v s' h')) fun _ _ h' => h')
  split
  · refine wpAny_bind (wpAny_pure (wpAny_pure (fin _ _ ?_)))
    rintro v s' ⟨T', r, hT', hl, hq⟩
    exact wpAny_bind (wpAny_specialOf hT' hl (wpAny_pure hq))
  · refine wpAny_tryCatch (wpAny_bind (wpAny_pure (wpAny_pure (fin _ _ ?_))))
    rintro v s' ⟨T', r, hT', hl, hq⟩
    exact wpAny_bind (wpAny_specialOf hT' hl (wpAny_pure hq))
end
end Mine
end
section
open PySem PySem.W PySem.Calls PyProof.Rows PySem.Builtin
set_option Elab.async false
set_option maxRecDepth 100000
namespace Mine
theorem keptBut_same {b : Addr} {h h' : Heap} (hs : Heap.SameBut b h h') : KeptBut [b] h h' := fun c o hc e => hs.extBut c o (fun x => hc (by simp [x])) e

theorem upd_news {b : Addr} {o o' : Obj} {h₀ h h' : Heap} {L : Addr} {news news' : List (Addr × Obj)} (N : News h₀ L h news) (U : Upd b o o' news news') (k : KeptBut [b] h h') (hg : h'.get? b = some o') : News h₀ L h' news' := by
  induction U with
  | head ne =>
    intro p hp
    rcases List.mem_cons.mp hp with rfl | hp
    · exact ⟨hg, (N _ (List.mem_cons_self ..)).2⟩
    · have := N p (List.mem_cons_of_mem _ hp)
      exact ⟨k _ _ (by simpa using ne p hp) this.1, this.2⟩
  | tail ne U ih =>
    intro p hp
    rcases List.mem_cons.mp hp with rfl | hp
    · have := N _ (List.mem_cons_self ..)
      exact ⟨k _ _ (by simpa using ne) this.1, this.2⟩
    · exact ih (fun q hq => N q (List.mem_cons_of_mem _ hq)) p hp
theorem upd_at {b : Addr} {o o' : Obj} {h₀ h : Heap} {L : Addr} {news news' : List (Addr × Obj)} (N : News h₀ L h news) (U : Upd b o o' news news') : h.get? b = some o ∧ b ≠ L ∧ h₀.get? b = none := by
  induction U with
  | head ne => exact N _ (List.mem_cons_self ..)
  | tail ne U ih => exact ih fun q hq => N q (List.mem_cons_of_mem _ hq)
theorem upd_fr {b : Addr} {o o' : Obj} {h₀ h h' : Heap} {L : Addr} {m : Str → Option Value} {news news' : List (Addr × Obj)} (F : Fr h₀ L h m) (N : News h₀ L h news) (U : Upd b o o' news news') (k : KeptBut [b] h h') : Fr h₀ L h' m := by
  have a := upd_at N U
  refine kept_fr F k (by simpa using fun e => a.2.1 e.symm) fun c hc => ?_
  rw [List.mem_singleton.mp hc]; exact a.2.2

theorem acc_cls (w : World) : ∃ cd : ClassData, clsIn (hd.heap_1 w.params) 207 = some cd ∧ cd.mro = [Value.ref 207, Value.type "list", Value.type "object"] ∧ cd.hasDict = true := by
  have h : (clsIn (hd.heap_1 w.params) 207).any (fun cd : ClassData => cd.mro == [Value.ref 207, Value.type "list", Value.type "object"] && cd.hasDict) = true := by kernel_rfl
  obtain ⟨cd, hc, ho'⟩ := any_some h
  obtain ⟨hm', hd'⟩ := Bool.and_eq_true_iff.mp ho'
  exact ⟨cd, hc, by simpa using hm', hd'⟩

section
variable {w : World} {A : Around} {E : Value → Shared → Prop} {s : Shared} {x dx : Addr} {its : Array Value} {n : Nat}

theorem acc_setAttr {name : Str} {v : Value} {es es' : List DictEntry} {k k' : Nat} {Q : Unit → Shared → Prop} (X : (hd.heap_1 w.params).In s.heap) (ho : s.heap.get? x = some (accO dx its n)) (hdx : s.heap.get? dx = some (dictOf es k))
    (ht : takerIn (hd.heap_1 w.params) 207 name = some none) (hl : (getL name es).isSome = true)
    (e : (putL name (PyData.keyHash w.params name) (.str name (s.toks + 1)) v es, putN name es k) = (es', k')) (hz : es'.length ≤ 1000)
    (h : ∀ h', Heap.SameBut dx s.heap h' → h'.get? dx = some (dictOf es' k') → Q () { s with heap := h', toks := s.toks + 2 }) : wpAny (model PR w) A (setAttr (.ref x) name v) Q E s := by
  have hs : findIn (hd.heap_1 w.params) (.ref 207) "__setattr__" = some (some (.builtin "object.__setattr__")) := by kernel_rfl
  have I := acc_inst ho hdx
  refine set_plain X I hs ?_
  have SF := PySem.F.store_object
  obtain ⟨cd, hc, hm, hd'⟩ := acc_cls w
  have sub : Looks (model PR w) s.heap (isInstance (.ref x) (.type "object")) true := I.type.andThen (looks_mroIn X (by unfold mroIn; rw [hc, Option.bind_some, hm]; rfl))
  refine codeAny_call_builtin SF.slot.plain SF.entry (@check_slot (model PR w) _ _ { s with toks := s.toks + 1 } "object.__setattr__" "object" "__setattr__" (.ref x) [.str name s.toks, v] [] _ SF.kind SF.split sub (SF.args (.ref x) (.str name s.toks) v) ?_)
  obtain ⟨attr, ha, hr⟩ := Option.bind_eq_some_iff.mp ht
  have L1 : Looks (model PR w) s.heap (mroOf (.ref 207)) cd.mro := (looks_clsIn X hc).andThen .now
  have L3 : Looks (model PR w) s.heap (Builtin.ObjectAttr.storeTaker? attr) none := by
    cases attr with
    | none => exact .now
    | some a =>
      obtain ⟨b, hb, hb'⟩ := Option.map_eq_some_iff.mp hr
      refine (looks_takesIn X hb).andThen ?_
      cases b
      · exact .now
      · cases hb'
  have L0 := I.type (M := model PR w)
  have L2 := looks_findIn (M := model PR w) X ha
  rw [osa_eq, refuse_eq]
  refine wpAny_bind (wpAny_bind (L0.at (wpAny_bind (L1.at ?_))))
  rw [hm, refuseLoop_ref, show refuseLoop (.ref x) "__setattr__" [.type "list", .type "object"] = pure () by kernel_rfl]
  refine wpAny_pure (wpAny_bind (L0.at (wpAny_bind (L2.at (wpAny_bind (L3.at ?_))))))
  dsimp only
  refine wpAny_bind (wpAny_pure (wpAny_bind (wpAny_bind (wpAny_loadPart ho (wpAny_bind ((looks_clsIn X hc).at ?_))))))
  rw [hd']
  refine wpAny_pure (a := some dx) (wpAny_bind (wpAny_pure (wpAny_bind ?_)))
  unfold nsSet
  refine wpAny_bind (wpAny_bind (wpAny_askSetting (wpAny_pure (wpAny_bind (wpAny_mkText (wpAny_bind (wpAny_loadPart hdx ?_)))))))
  have ee : Obj.putName name (PyData.keyHash w.params name) (.str name (s.toks + 1)) v (dictOf es k) = dictOf es' k' := by
    obtain ⟨e1, e2⟩ := Prod.mk.inj e
    rw [putName_dict, e1, e2]
  have c : (!es.toArray.any (·.key.isStr name) && es.toArray.any (·.refKey)) = false := by
    rw [← Array.any_toList, ← Array.any_toList]
    unfold getL at hl
    split at hl
    · rename_i en he
      rw [List.any_eq_true.mpr ⟨en, List.mem_of_find?_eq_some he, List.find?_some he⟩]; rfl
    · split at hl
      · cases hl
      · rename_i z; rw [Bool.not_eq_true] at z; rw [z, Bool.and_false]
  dsimp only
  rw [aRefKeyMayBeTheName_at, c]
  have D' : ({ s with toks := s.toks + 1 + 1, heap := s.heap.update dx (Obj.putName name (PyData.keyHash w.params name) (.str name (s.toks + 1)) v) } : Shared).heap.get? dx = some (dictOf es' k') := by
    rw [← ee]; exact Heap.get?_update_self _ hdx (by rw [ee]; rfl)
  refine wpAny_updatePart hdx ?_
  refine wpAny_bind (wpAny_lookBehind D' (pastItsLine_dict (by rw [List.size_toArray, sizeLine_eq]; omega)) ?_)
  exact wpAny_pure (h _ (Heap.SameBut.update ..) D')

noncomputable def SeqAt (h : Heap) (a : Addr) (items : Array Value) : Prop := ∃ o n, h.get? a = some o ∧ o.data = .seq items n

theorem next_item {it l : Addr} {i : Nat} {items : Array Value} {y : Value} {Q : Option Value → Shared → Prop} (hit : s.heap.IsListIter it l i) (hl : SeqAt s.heap l items) (hx : items[i]? = some y)
    (hQ : ∀ h', h'.IsListIter it l (i + 1) → Heap.SameBut it s.heap h' → Q (some y) { s with heap := h' }) : wpAny (model PR w) A (pyNext (.ref it)) Q E s := by
  obtain ⟨o, ho, hc, hd⟩ := id hit
  obtain ⟨ol, nl, hol, hdl⟩ := hl
  unfold pyNext
  refine wpAny_bind (wpAny_attempt (wpAny_callSpecial?_slot (name := Str.ofString "__next__") hit.typeIs slot_listiter_next (wpAny_call_entry slot_listiter_next hit.typeIs entry_listiter_next ?_ (args_listiter_next _))))
  show wpAny _ _ (field (.ref it) 0 >>= _) _ _ s
  refine wpAny_bind (wpAny_field ho hd (x := .ref l) rfl ?_)
  show wpAny _ _ (if (Value.ref l == Value.none) = true then _ else _) _ _ s
  rw [if_neg (show ¬ ((Value.ref l == Value.none) = true) from Bool.false_ne_true)]
  show wpAny _ _ (field (.ref it) 1 >>= _) _ _ s
  refine wpAny_bind (wpAny_field ho hd (x := .int i 0) rfl ?_)
  show wpAny _ _ (seqItems? (.ref l) >>= _) _ _ s
  refine wpAny_bind (wpAny_seqItems hol hdl ?_)
  simp only [Int.toNat_natCast, hx]
  refine wpAny_bind (wpAny_setField ho hd (by simp) (wpAny_pure ⟨y, rfl, wpAny_pure (hQ _ ?_ (Heap.SameBut.update ..))⟩))
  exact ⟨_, Heap.get?_update_self _ ho (Obj.isFreed_of_fields (Obj.data_mapFields hd _)), (Obj.cls_mapFields ..).trans hc, by rw [Obj.data_mapFields hd]; simp [rawInt]⟩

theorem next_end {it l : Addr} {i : Nat} {items : Array Value} {Q : Option Value → Shared → Prop} (hh : A.handled = none) (hit : s.heap.IsListIter it l i) (hl : SeqAt s.heap l items) (hx : items[i]? = none)
    (hQ : ∀ h', Heap.ExtBut it s.heap h' → Q none { s with heap := h' }) : wpAny (model PR w) A (pyNext (.ref it)) Q E s := by
  obtain ⟨o, ho, hc, hd⟩ := id hit
  obtain ⟨ol, nl, hol, hdl⟩ := hl
  unfold pyNext
  refine wpAny_bind (wpAny_attempt (wpAny_callSpecial?_slot (name := Str.ofString "__next__") hit.typeIs slot_listiter_next (wpAny_call_entry slot_listiter_next hit.typeIs entry_listiter_next ?_ (args_listiter_next _))))
  show wpAny _ _ (field (.ref it) 0 >>= _) _ _ s
  refine wpAny_bind (wpAny_field ho hd (x := .ref l) rfl ?_)
  show wpAny _ _ (if (Value.ref l == Value.none) = true then _ else _) _ _ s
  rw [if_neg (show ¬ ((Value.ref l == Value.none) = true) from Bool.false_ne_true)]
  show wpAny _ _ (field (.ref it) 1 >>= _) _ _ s
  refine wpAny_bind (wpAny_field ho hd (x := .int i 0) rfl ?_)
  show wpAny _ _ (seqItems? (.ref l) >>= _) _ _ s
  refine wpAny_bind (wpAny_seqItems hol hdl ?_)
  simp only [Int.toNat_natCast, hx]
  refine wpAny_bind (wpAny_rule (wpAny_bind (wpAny_setField ho hd (by simp) ?_)))
  show wpAny _ _ (newExc (.type "StopIteration") [] >>= _) _ _ _
  refine wpAny_bind ?_
  simp only [newExc, newTuple]
  refine wpAny_bind (wpAny_newObj_type ?_ (by size_fits))
  refine wpAny_bind (m := firstArgMember _ _) (wpAny_of_eq (a := Value.none) (by first | rfl | (simp only [firstArgMember]; rfl)) ?_)
  refine wpAny_newObj_type ?_ (by size_fits)
  simp only [raiseNew]
  refine wpAny_bind (wpAny_handled ?_)
  rw [show A.in1.handled = none from hh]
  refine wpAny_bind (wpAny_pure (wpAny_throw ?_))
  refine wpAny_bind (wpAny_isInstance (T := "StopIteration") (b := true) ⟨_, Heap.get?_push_size _ rfl, rfl⟩ isSubtype_stop ?_)
  exact wpAny_pure (hQ _ (((Heap.SameBut.update ..).extBut.push _).push _))

theorem SeqAt.extBut {h h' : Heap} {a b : Addr} {items : Array Value} (x : SeqAt h a items) (hs : Heap.ExtBut b h h') (hab : a ≠ b) : SeqAt h' a items := let ⟨o, n, ho, r⟩ := x; ⟨o, n, hs a o hab ho, r⟩

theorem walk_acc {A : Around} (hh : A.handled = none) (I ax : Addr) (hne : ax ≠ I) (items : Array Value) (Ts : Nat → Addr) (vals : Nat → Array Value)
    (hit : ∀ j, j < items.size → items[j]? = some (.ref (Ts j))) (hTI : ∀ j, j < items.size → Ts j ≠ I) :
    WalksU PR w A I (I :: ax :: (List.range items.size).map Ts) [I] items.size (fun j v => v = vals j)
      (fun j h => h.IsListIter I ax j ∧ SeqAt h ax items ∧ ∀ k, k < items.size → h.IsTuple (Ts k) (vals k))
      (fun j T h => (j < items.size ∧ T = Ts j) ∧ h.IsListIter I ax (j + 1) ∧ SeqAt h ax items ∧ ∀ k, k < items.size → h.IsTuple (Ts k) (vals k)) where
  sub := fun b hb => by simp at hb; simp [hb]
  frame := fun _ _ _ st hk => ⟨st.1.at fun o e => hk I (by simp) o e, (let ⟨o, n, e, r⟩ := st.2.1; ⟨o, n, hk ax (by simp) o e, r⟩),
    fun k hk' => (st.2.2 k hk').at fun o e => hk (Ts k) (List.mem_cons_of_mem _ (List.mem_cons_of_mem _ (List.mem_map.mpr ⟨k, List.mem_range.mpr hk', rfl⟩))) o e⟩
  item := fun i s Q E hi st hQ => by
    refine next_item st.1 st.2.1 (y := .ref (Ts i)) (hit i hi) fun h' hit' hs' => ?_
    have tup : ∀ k, k < items.size → h'.IsTuple (Ts k) (vals k) := fun k hk' => (st.2.2 k hk').extBut hs'.extBut (hTI k hk')
    exact hQ (Ts i) (vals i) h' s.toks rfl (tup i hi) ⟨⟨hi, rfl⟩, hit', st.2.1.extBut hs'.extBut hne, tup⟩ fun b o hb e => hs'.extBut b o (fun h => hb (by simp [h])) e
  go := fun _ _ _ _ _ s Q _ hm hQ => wpAny_letOwnedTupleGo_listiter hm.2.1 (hQ s.heap hm.2 fun _ _ _ e => e)
  apart := fun j T _ hm hmem => by
    rcases List.mem_cons.mp hmem with e | e
    · exact hTI j hm.1.1 (hm.1.2 ▸ e)
    · cases e
  done := fun s Q E st hQ => next_end hh st.1 st.2.1 (by simp) fun h' he' => hQ h' s.toks fun b o hb e => he' b o (fun h => hb (by simp [h])) e
  self := fun _ _ _ _ st hQ => wpAny_pyIter_listiter st.1 hQ
end
end Mine
end
section
open PySem PySem.W PyProof.Rows
set_option Elab.async false
set_option maxRecDepth 100000
set_option maxHeartbeats 8000000
set_option pp.deepTerms false
set_option pp.deepTerms.threshold 6
set_option pp.maxSteps 3000
set_option pp.proofs false
namespace Mine

theorem rows_CFIT_1 : True := by
  k_with_none
  w_top off
  k_with "mine enter" => (k_dflt (refine' code_defG ?k1 ?k2 ?k3 ?k4 ?k5 ?kA ?kF ?kK ?k6 ?k7 ?k8 ?k9 ?kB ?_ ?c2 ?c3 ?c4 ?c5; (case kA => exact rfl); (case kF => exact rfl); (case kK => assumption); (case k1 => k_asm); (case k2 => k_asm); (case k3 => k_asm); (case k4 => k_asm); (case k5 => k_asm); (case k6 => k_is); (case k7 => k_is); (case k8 => first | exact room0 (by assumption) | ktr_room); (case k9 => exact BindsTo.of_eq rfl); (case c5 => decide); (case kB => exact locs rfl); (case c2 => exact rfl); (case c3 => exact rfl); (case c4 => exact rfl); k_whole; intro _ _ _ _ _ _ B' _ _ _; (try dsimp only); (try k_lift B'); (try k_fold)))
  k_with "execs cons" => ((with_reducible refine wpAny_execs_cons ?_); (try dsimp only); (try (refine tk_any ?_; intro _)); (try k_fold))
  trivial
noncomputable def fitGo (head width : Int) : List Int → Int → Int → Int
  | [], _, fit => fit
  | z :: r, wide, fit => if (if fit > 0 then wide + (z + 1) + 1 else wide + (z + 1)) > width ∧ (fit > 0 ∨ head > 0) then fit else fitGo head width r (if fit > 0 then wide + (z + 1) + 1 else wide + (z + 1)) (fit + 1)
noncomputable def fitF (zs : List Int) (head width : Int) : Int := fitGo head width zs head 0

theorem ints_at {ws : List Value} {zs : List Int} (h : IntsAre ws zs) : ∀ (i : Nat) (d : Value), ws[i]? = some d → ∃ z u, d = .int z u ∧ zs[i]? = some z := by
  induction h with
  | nil => intro i d e; cases e
  | cons n t _ ih =>
    intro i d e
    cases i with
    | zero => cases e; exact ⟨n, t, rfl, rfl⟩
    | succ i => exact ih i d e
theorem fit_p1 {a z wd f hd' R F : Int} (hf : (if (if f > 0 then a + (z + 1) + 1 else a + (z + 1)) > wd ∧ (f > 0 ∨ hd' > 0) then f else R) = F) (p : 0 < f) (q : wd < a + (z + 1) + 1) : f = F := by
  rw [if_pos p, if_pos ⟨q, .inl p⟩] at hf; exact hf
theorem fit_p2 {a z wd f hd' R F : Int} (hf : (if (if f > 0 then a + (z + 1) + 1 else a + (z + 1)) > wd ∧ (f > 0 ∨ hd' > 0) then f else R) = F) (p : ¬ 0 < f) (q : wd < a + (z + 1)) (r : 0 < hd') : f = F := by
  rw [if_neg p, if_pos ⟨q, .inr r⟩] at hf; exact hf
theorem fit_n1 {hd' wd a z f F : Int} {zs : List Int} (hf : (if (if f > 0 then a + (z + 1) + 1 else a + (z + 1)) > wd ∧ (f > 0 ∨ hd' > 0) then f else fitGo hd' wd zs (if f > 0 then a + (z + 1) + 1 else a + (z + 1)) (f + 1)) = F) (p : 0 < f) (q : ¬ wd < a + (z + 1) + 1) : fitGo hd' wd zs (a + (z + 1) + 1) (f + 1) = F := by
  rw [if_pos p, if_neg fun x => q x.1] at hf; exact hf
theorem fit_n2 {hd' wd a z f F : Int} {zs : List Int} (hf : (if (if f > 0 then a + (z + 1) + 1 else a + (z + 1)) > wd ∧ (f > 0 ∨ hd' > 0) then f else fitGo hd' wd zs (if f > 0 then a + (z + 1) + 1 else a + (z + 1)) (f + 1)) = F) (p : ¬ 0 < f) (q : ¬ wd < a + (z + 1)) : fitGo hd' wd zs (a + (z + 1)) (f + 1) = F := by
  rw [if_neg p, if_neg fun x => q x.1] at hf; exact hf
theorem fit_n3 {hd' wd a z f F : Int} {zs : List Int} (hf : (if (if f > 0 then a + (z + 1) + 1 else a + (z + 1)) > wd ∧ (f > 0 ∨ hd' > 0) then f else fitGo hd' wd zs (if f > 0 then a + (z + 1) + 1 else a + (z + 1)) (f + 1)) = F) (p : ¬ 0 < f) (r : ¬ 0 < hd') : fitGo hd' wd zs (a + (z + 1)) (f + 1) = F := by
  rw [if_neg p, if_neg fun x => x.2.elim p r] at hf; exact hf


structure FS where
  a : Int
  ta : Tok
  f : Int
  tf : Tok
theorem fit_step {zs : List Int} {hd' wd a f : Int} {i : Nat} {z : Int} (e : zs[i]? = some z) : fitGo hd' wd (zs.drop i) a f = if (if f > 0 then a + (z + 1) + 1 else a + (z + 1)) > wd ∧ (f > 0 ∨ hd' > 0) then f else fitGo hd' wd (zs.drop (i + 1)) (if f > 0 then a + (z + 1) + 1 else a + (z + 1)) (f + 1) := by
  obtain ⟨h, rfl⟩ := List.getElem?_eq_some_iff.mp e
  rw [List.drop_eq_getElem_cons h]
  rfl
theorem fit_cl' (w : World) (mean : ExcName → Option Value) (mg mb : Str → Option Value) (l : Addr) (ws : List Value) (zs : List Int) (hI : IntsAre ws zs) (hz : zs.length = 5) (hd' wd : Int) (th tw : Tok) (n : Nat) :
  ROC w mean mg mb 255 [(l, { cls := .type "list", data := .seq ws.toArray n })] [.ref l, .int hd' th, .int wd tw] (fun v => ∃ t, v = .int (fitF zs hd' wd) t) 4 40 := by
  delta ROC PR; k_fill
  intro dp un gd cn cs a ccd cl outer A₀ base h₀ L m s Q E B F KX N T hk hdp hun hret
  have hws : ws.length = 5 := by rw [← hz]; exact IntsAre.length hI
  have at_ := ints_at hI
  clear hI
  k_with "exec For Name Name cons nil" => (refine Hold.out ?rF1)
  w_strict (refine wpAny_call ?_; walk_at "mine enter"; k_steps)
  case rF1 =>
    refine Hold.in ?_
    rename Fr _ _ _ _ => F5
    rename News _ _ _ _ => N5
    refine For_turns F5 ?_
    k_with "pyIter ref" => ((with_unfolding_all refine' iter_listTurns (lo := { cls := .type "list", data := .seq ws.toArray n }) (vs := ws) (n := n) ?kh F5 N5 ?km ?kc ?kd ?kr); (case kh => with_unfolding_all rfl); (case km => k_mem); (case kc => rfl); (case kd => rfl))
    w_strict k_steps
    case kr =>
      rename_i I' lI
      (try k_lt lI)
      refine' items_inv (σ := FS) (fun c => [(l, { cls := .type "list", data := .seq ws.toArray n })])
        (fun c => [(Str.ofString "wide", .int c.a c.ta), (Str.ofString "fit", .int c.f c.tf)]) [Str.ofString "size"] (fun i c => 0 ≤ c.f ∧ c.f ≤ i ∧ fitGo hd' wd (zs.drop i) c.a c.f = fitF zs hd' wd) ws ⟨hd', _, 0, _⟩ ?hk ?hP ?turn ?done
      case hk => kst_all
      case hP => exact ⟨Int.le_refl _, Int.le_refl _, rfl⟩
      case turn =>
        intro i d c u hq tkq hget hP Fq
        obtain ⟨z, t, rfl, hzi⟩ := at_ i d hget
        obtain ⟨a', ta', f', tf'⟩ := c
        obtain ⟨f0, f1, hf⟩ := hP
        rw [fit_step hzi] at hf
        dsimp only at f0 f1 hf Fq
        dsimp only [kstB] at Fq
        have hi : i < ws.length := (List.getElem?_eq_some_iff.mp hget).1
        ktu_objs
        w_strict k_steps
        · exact hret _ _ _ ⟨_, congrArg (fun x => Value.int x _) (fit_p1 hf (by assumption) (by assumption))⟩ (by assumption) (kept_of N (by assumption) (Fr.keep (by assumption)) (cb_drop (by assumption) (sub_cons (by k_mem) sub_nil)))
        · exact ⟨⟨_, _, _, _⟩, sub_cons (by k_mem) sub_nil, ⟨by dsimp only; omega, by dsimp only; omega, fit_n1 hf (by assumption) (by assumption)⟩, by kst_all, by ksw_same⟩
        · exact hret _ _ _ ⟨_, congrArg (fun x => Value.int x _) (fit_p2 hf (by assumption) (by assumption) (by assumption))⟩ (by assumption) (kept_of N (by assumption) (Fr.keep (by assumption)) (cb_drop (by assumption) (sub_cons (by k_mem) sub_nil)))
        · exact ⟨⟨_, _, _, _⟩, sub_cons (by k_mem) sub_nil, ⟨by dsimp only; omega, by dsimp only; omega, fit_n3 hf (by assumption) (by assumption)⟩, by kst_all, by ksw_same⟩
        · exact ⟨⟨_, _, _, _⟩, sub_cons (by k_mem) sub_nil, ⟨by dsimp only; omega, by dsimp only; omega, fit_n2 hf (by assumption) (by assumption)⟩, by kst_all, by ksw_same⟩
      case done =>
        intro c u hq tkq hP Fq Nq
        obtain ⟨a', ta', f', tf'⟩ := c
        obtain ⟨f0, f1, hf⟩ := hP
        dsimp only at f0 f1 hf Fq Nq
        dsimp only [kstB] at Fq
        dsimp only
        w_strict k_steps
        rw [List.drop_eq_nil_of_le (by omega)] at hf
        exact hret _ _ _ ⟨_, congrArg (fun x => Value.int x _) hf⟩ (by assumption) (kept_of N (by assumption) (Fr.keep (by assumption)) (cb_drop (by assumption) (sub_cons (by k_mem) sub_nil)))
end Mine
end
section
open PySem PySem.Spec PySem.Calls PySem.W PyProof.Rows
set_option Elab.async false
set_option maxRecDepth 100000
namespace Mine
noncomputable def wordS (k n : Nat) : Str := ⟨(wordL k n).toArray⟩

theorem strs_rel : ∀ (ys : List Value) (f : Nat → Str), (∀ (i : Nat) y, ys[i]? = some y → ∃ t, y = .str (f i) t) → StrsAre ys ((List.range ys.length).map f)
  | [], _, _ => .nil
  | y :: ys, f, h => by
    obtain ⟨t, rfl⟩ := h 0 y rfl
    have ih := strs_rel ys (fun i => f (i + 1)) (fun i y' e => h (i + 1) y' (by simpa using e))
    rw [List.length_cons, List.range_succ_eq_map, List.map_cons, List.map_map]
    exact .cons _ _ ih

theorem sum_le (B : Nat) : ∀ (l : List Str), (∀ a ∈ l, a.length ≤ B) → (l.map (·.length)).sum ≤ l.length * B
  | [], _ => by simp
  | a :: l, h => by
    have ih := sum_le B l (fun b hb => h b (List.mem_cons_of_mem _ hb))
    have ha := h a (List.mem_cons_self ..)
    simp only [List.map_cons, List.sum_cons, List.length_cons, Nat.add_mul, Nat.one_mul]
    omega

theorem join_rel {prog : Program} {w : World} {A : Around} {E : Value → Shared → Prop} {s : Shared} {x : Str} {t : Tok} {Q : Value → Shared → Prop} {D : Addr} {ys : List Value} {n : Nat} {f : Nat → Str} (hl : s.heap.IsList D ys.toArray) (hn : ys.length = n)
    (hR : ∀ (i : Nat) y, ys[i]? = some y → ∃ t, y = .str (f i) t) (hB : ∀ i, i < n → (f i).length ≤ 1000) (hn' : n ≤ 1000) (hx : x.length ≤ 100)
    (h : ∀ t' k, Q (.str (Txt.join x ((List.range n).map f)) t') { s with toks := k }) :
    wpAny (model prog w) A (call (.builtin "str.join") [.str x t, .ref D]) Q E s := by
  subst hn
  refine join_list hl (strs_rel ys f hR) ?_ h
  have h1 := sum_le 1000 ((List.range ys.length).map f) (fun a ha => by
    obtain ⟨i, hi, rfl⟩ := List.mem_map.mp ha
    exact hB i (List.mem_range.mp hi))
  rw [List.length_map, List.length_range] at h1 ⊢
  have h2 : ys.length * x.length ≤ 1000 * 100 := Nat.mul_le_mul hn' hx
  omega

theorem join_cons2 (sep a b : Str) (r : List Str) : Txt.join sep (a :: b :: r) = ⟨a.cps ++ sep.cps ++ (Txt.join sep (b :: r)).cps⟩ := by
  show Builtin.Str.glued sep (a :: b :: r) = ⟨a.cps ++ sep.cps ++ (Builtin.Str.glued sep (b :: r)).cps⟩
  rw [StrLaws.glued_eq_join, StrLaws.glued_eq_join]
  rfl

theorem join_words : ∀ (ws : List Nat) (k : Nat), Txt.join (Str.ofString " ") ((ws.zipIdx k).map fun p => wordS p.2 p.1) = ⟨(textFrom k ws).toArray⟩
  | [], k => rfl
  | [n], k => rfl
  | n :: m :: r, k => by
    have ih := join_words (m :: r) (k + 1)
    have e : ((n :: m :: r).zipIdx k).map (fun p => wordS p.2 p.1) = wordS k n :: wordS (k + 1) m :: (r.zipIdx (k + 1 + 1)).map fun p => wordS p.2 p.1 := by simp [List.zipIdx_cons]
    have e' : ((m :: r).zipIdx (k + 1)).map (fun p => wordS p.2 p.1) = wordS (k + 1) m :: (r.zipIdx (k + 1 + 1)).map fun p => wordS p.2 p.1 := by simp [List.zipIdx_cons]
    rw [e, join_cons2, ← e', ih]
    have : Str.ofString " " = ⟨#[32]⟩ := by decide +kernel
    rw [this]
    simp [wordS, textFrom]

theorem zip_range (f : Nat → Nat) (g : Nat → Nat → Str) : ∀ (n k : Nat), (((List.range' k n).map f).zipIdx k).map (fun p => g p.2 p.1) = (List.range' k n).map fun i => g i (f i)
  | 0, k => rfl
  | n + 1, k => by
    rw [List.range'_succ]
    simp only [List.map_cons, List.zipIdx_cons]
    rw [zip_range f g n (k + 1)]
theorem join_text (n : Nat) (f : Nat → Nat) : Txt.join (Str.ofString " ") ((List.range n).map fun i => wordS i (f i)) = textS ((List.range n).map f) := by
  have h := join_words ((List.range' 0 n).map f) 0
  rw [zip_range f wordS n 0] at h
  rw [List.range_eq_range']
  exact h
theorem mulOk_q {n : Int} (h0 : 0 ≤ n) (h1 : n ≤ 1000) : MulOk (Str.ofString "\"") n := mulOk_of 16 1000 (by decide) (by omega) (by omega) (by decide) (by decide)
theorem rep_fold (c : Nat) : ∀ (n : Nat) (acc : Array Nat), List.foldl (fun x1 x2 => x1 ++ x2) acc (List.replicate n #[c]) = acc ++ (List.replicate n c).toArray
  | 0, acc => by simp
  | n + 1, acc => by
    rw [List.replicate_succ, List.foldl_cons, rep_fold c n, List.replicate_succ]
    apply Array.toList_inj.mp
    simp
theorem mul_q (n : Int) : Txt.mul (Str.ofString "\"") n = ⟨(List.replicate n.toNat 34).toArray⟩ := by
  have e : Str.ofString "\"" = ⟨#[34]⟩ := by decide +kernel
  rw [e]
  unfold Txt.mul
  by_cases h : n < 1
  · rw [if_pos h]
    have : n.toNat = 0 := by omega
    rw [this]; rfl
  · rw [if_neg h]
    by_cases h1 : n = 1
    · subst h1; rfl
    · rw [if_neg (by simp [h1, Str.length]), rep_fold]
      simp
theorem mul_q_len {n : Int} (h : n ≤ 15) : (Txt.mul (Str.ofString "\"") n).length ≤ 15 := by
  rw [mul_q]
  show (List.replicate n.toNat 34).toArray.size ≤ 15
  simp; omega
theorem wordS_len {k n : Nat} (h : n ≤ 900) : (wordS k n).length ≤ 1000 := by
  show (wordL k n).toArray.size ≤ 1000
  simp [wordL]; omega
theorem word_at {a : Str} {k : Nat} {n : Int} (ha : a = ⟨#[97 + k]⟩) : a ++ Txt.mul (Str.ofString "\"") n = wordS k n.toNat := by
  rw [mul_q, ha]
  show (⟨#[97 + k] ++ (List.replicate n.toNat 34).toArray⟩ : Str) = _
  simp [wordS, wordL]
end Mine
end
section
open PySem PySem.W PyProof.Rows
set_option Elab.async false
set_option maxRecDepth 100000
set_option maxHeartbeats 8000000
set_option pp.deepTerms false
set_option pp.deepTerms.threshold 6
set_option pp.maxSteps 3000
set_option pp.proofs false
namespace Mine
theorem rows_CDUE_1 : True := by
  k_with_none
  w_top off
  k_with "pj" => (first | assumption | exact pj1 (by assumption) | exact pj2 (by assumption) | exact pj3 (by assumption) | exact pj4 (by assumption) | exact pj5 (by assumption) | exact pj6 (by assumption) | exact pl2 (by assumption) | exact pl3 (by assumption) | exact pl4 (by assumption) | exact pl5 (by assumption) | exact pl6 (by assumption) | exact pl7 (by assumption))
  k_with "k_ne" => (refine neN ?_; (try dsimp only); (first | exact ne_u1 | exact ne_d1 | exact ne_u2 | exact ne_d2 | exact ne_u3 | exact ne_d3 | exact ne_l0 (by walk_at "pj") | exact ne_l1 (by walk_at "pj") | exact ne_l2 (by walk_at "pj") | exact ne_l3 (by walk_at "pj") | exact ne_g0 (by walk_at "pj") | exact ne_g1 (by walk_at "pj") | exact ne_g2 (by walk_at "pj") | exact ne_g3 (by walk_at "pj") | walk_at "pj" | exact Ne.symm (by walk_at "pj") | omega))
  k_with "mine sub" => (first | exact sub_nil | (refine sub_cons ?za ?zb; (case za => k_mem); (case zb => walk_at "mine sub")))
  trivial
noncomputable abbrev ROCP (w : World) (mean : ExcName → Option Value) (mg mb : Str → Option Value) (f : Addr) (Pre : Heap → Prop) (news : List (Addr × Obj)) (vs : List Value) (R : Value → Prop) (d u : Nat) : Prop :=
  ∀ (dp un : Nat) (gd : Option (List Code)) (cn : Str) (cs : Scope) (a : Addr) (ccd : Value) (cl : List (Str × Addr)) (outer : List Env) (A₀ : Around) (base h₀ : Heap) (L : Addr) (m : Str → Option Value) (s : Shared) (Q E : Value → Shared → Prop),
    Below A₀ base outer h₀ → Fr h₀ L s.heap m → (hd.heap_1 w.params).In h₀ → News h₀ L s.heap news → Top VW LS mean mg mb h₀ → cs.kind = .function → Pre s.heap → dp + d < recursionLimit → un + u < cLine →
    (∀ v h' tk', R v → Fr h₀ L h' m → KeptBut [] s.heap h' → Q v { s with heap := h', toks := tk' }) →
    wpAny (model PR w) (ktrTop dp un gd cn cs L a ccd cl outer) (call (.ref f) vs) Q E s

noncomputable abbrev tupO (k h wd : Int) (tk th tw : Tok) : Obj := { cls := .type "tuple", data := .seq #[.int k tk, .int h th, .int wd tw] }
structure DS where
  oA : Obj
  oH : Obj
  a : Int
  ta : Tok
  h : Int
  th : Tok
  l : Int
  tl : Tok
noncomputable def dueStep (zs : List Int) (c : Int × Int × Int) (d : Int × Int × Int) : Int × Int × Int :=
  if d.1 = 2 then (c.1, c.2.1, if fitF (zs.map fun z => (z + c.1).fdiv (2 ^ c.2.1.toNat)) d.2.1 d.2.2 < c.2.2 then fitF (zs.map fun z => (z + c.1).fdiv (2 ^ c.2.1.toNat)) d.2.1 d.2.2 else c.2.2)
  else if d.1 = 1 then (c.1 + 2 ^ c.2.1.toNat, c.2.1 + 1, c.2.2) else (c.1, c.2.1 + 1, c.2.2)
noncomputable def dueFold (zs : List Int) (ds : List (Int × Int × Int)) : Int × Int × Int := ds.foldl (dueStep zs) (0, 0, 5)

theorem due_next {zs : List Int} {D : List (Int × Int × Int)} {i : Nat} {d : Int × Int × Int} (h : D[i]? = some d) : dueFold zs (D.take (i + 1)) = dueStep zs (dueFold zs (D.take i)) d := by
  unfold dueFold
  rw [List.take_add_one, h]
  simp [List.foldl_append]

theorem fitGo_nonneg (head width : Int) : ∀ (zs : List Int) (wide fit : Int), 0 ≤ fit → 0 ≤ fitGo head width zs wide fit
  | [], _, _, h => h
  | z :: r, wide, fit, h => by
    unfold fitGo
    generalize (if fit > 0 then wide + (z + 1) + 1 else wide + (z + 1)) = q
    by_cases hc : q > width ∧ (fit > 0 ∨ head > 0)
    · rw [if_pos hc]; exact h
    · rw [if_neg hc]; exact fitGo_nonneg head width r _ _ (by omega)
theorem fitF_nonneg (zs : List Int) (head width : Int) : 0 ≤ fitF zs head width := fitGo_nonneg head width zs head 0 (Int.le_refl _)
noncomputable def cutStep (zs : List Int) (a h : Int) (l k : Int) : Int :=
  if Builtin.bitOr ((zs.getD k.toNat 0 + a).fmod (2 ^ h.toNat)) a = a then l else if k + 1 < l then k + 1 else l

noncomputable def cutF (zs : List Int) (c : Int × Int × Int) : Int := ((List.range 5).map Int.ofNat).foldl (cutStep zs c.1 c.2.1) c.2.2
noncomputable def dueW (zs : List Int) (c : Int × Int × Int) : List Nat := (List.range (cutF zs c).toNat).map fun i => ((zs.getD i 0 + c.1).fdiv (2 ^ c.2.1.toNat)).toNat
noncomputable def dueT (zs : List Int) (D : List (Int × Int × Int)) : Str := textS (dueW zs (dueFold zs D))

theorem one_le_pow2' {n : Nat} : (1 : Int) ≤ 2 ^ n := by
  have : (0 : Int) < 2 ^ n := Int.pow_pos (by decide)
  omega
theorem fdiv_bound {z a h : Int} (z0 : 0 ≤ z) (z1 : z ≤ 15) (a0 : 0 ≤ a) (a1 : a < 2 ^ h.toNat) : 0 ≤ (z + a).fdiv (2 ^ h.toNat) ∧ (z + a).fdiv (2 ^ h.toNat) ≤ 15 := by
  have p : (1 : Int) ≤ 2 ^ h.toNat := one_le_pow2'
  generalize (2 : Int) ^ h.toNat = q at *
  rw [Int.fdiv_eq_ediv_of_nonneg _ (by omega)]
  refine ⟨Int.ediv_nonneg (by omega) (by omega), ?_⟩
  have : (z + a) / q < 16 := Int.ediv_lt_of_lt_mul (by omega) (by omega)
  omega

theorem pow_nn {a h : Int} (a0 : 0 ≤ a) : 0 ≤ a + 2 ^ h.toNat := Int.add_nonneg a0 (Int.le_trans (by decide) one_le_pow2')
theorem pow_up {a h : Int} (h0 : 0 ≤ h) (a1 : a < 2 ^ h.toNat) : a < 2 ^ (h + 1).toNat := by
  have p : (1 : Int) ≤ 2 ^ h.toNat := one_le_pow2'
  rw [toNat_up h0, Int.pow_succ]; omega
theorem pow_up2 {a h : Int} (h0 : 0 ≤ h) (a1 : a < 2 ^ h.toNat) : a + 2 ^ h.toNat < 2 ^ (h + 1).toNat := by
  rw [toNat_up h0, Int.pow_succ]; omega
theorem cut_next (zs : List Int) (a h l : Int) (i : Nat) : ((List.range (i + 1)).map Int.ofNat).foldl (cutStep zs a h) l = cutStep zs a h (((List.range i).map Int.ofNat).foldl (cutStep zs a h) l) (i : Int) := by
  rw [List.range_succ]
  simp

structure DueP (zs : List Int) (D : List (Int × Int × Int)) (i : Nat) (c : DS) : Prop where
  cA : c.oA.data = .cell (some (.int c.a c.ta))
  cH : c.oH.data = .cell (some (.int c.h c.th))
  is : (c.a, c.h, c.l) = dueFold zs (D.take i)
  h0 : 0 ≤ c.h
  h1 : c.h ≤ i
  l0 : 0 ≤ c.l
  l1 : c.l ≤ 5
  a0 : 0 ≤ c.a
  a1 : c.a < 2 ^ c.h.toNat

theorem at5 {z0 z1 z2 z3 z4 : Int} (hz : ∀ z ∈ [z0, z1, z2, z3, z4], 0 ≤ z ∧ z ≤ 15) {i : Nat} (hi : i < 5) : 0 ≤ [z0, z1, z2, z3, z4].getD i 0 ∧ [z0, z1, z2, z3, z4].getD i 0 ≤ 15 := by
  rw [List.getD_eq_getElem?_getD, List.getElem?_eq_getElem (by exact hi)]
  exact hz _ (List.getElem_mem _)
theorem item_abc {i : Nat} (h : i < 5) : Txt.item (Str.ofString "abcde") (i : Int) = ⟨#[97 + i]⟩ := by
  match i, h with
  | 0, _ | 1, _ | 2, _ | 3, _ | 4, _ => decide +kernel
theorem due_cl (w : World) (mean : ExcName → Option Value) (mg mb : Str → Option Value) (lr ld : Addr) (z0 z1 z2 z3 z4 : Int) (u0 u1 u2 u3 u4 : Tok) (ds : List Addr) (D : List (Int × Int × Int)) (n nr : Nat) (hlen : ds.length ≤ 5) (hDl : D.length = ds.length) (hz : ∀ z ∈ [z0, z1, z2, z3, z4], 0 ≤ z ∧ z ≤ 15) :
  ROCP w mean mg mb 260 (fun h => ∀ (i : Nat) (d : Addr), ds[i]? = some d → ∃ (k hd wd : Int) (tk th tw : Tok), h.get? d = some (tupO k hd wd tk th tw) ∧ D[i]? = some (k, hd, wd))
    [(lr, { cls := .type "list", data := .seq #[.int z0 u0, .int z1 u1, .int z2 u2, .int z3 u3, .int z4 u4] nr }), (ld, { cls := .type "list", data := .seq (ds.map Value.ref).toArray n })] [.ref lr, .ref ld] (fun v => ∃ t, v = .str (dueT [z0, z1, z2, z3, z4] D) t) 10 100 := by
  delta ROCP PR; k_fill
  intro dp un gd cn cs a ccd cl outer A₀ base h₀ L m s Q E B F KX N T hk HD hdp hun hret
  w_strict (refine wpAny_call ?_; k_dflt (refine' enterC ?k1 ?k2 ?k3 ?k4 ?k5 ?kA ?kF ?kK ?k6 ?k7 ?k8 ?k9 ?kB ?kD ?_ ?c2 ?c3 ?c4; (case kA => exact rfl); (case kF => exact rfl); (case kK => assumption); (case k1 => k_asm); (case k2 => k_asm); (case k3 => k_asm); (case k4 => k_asm); (case k5 => k_asm); (case k6 => k_is); (case k7 => k_is); (case k8 => first | exact room0 (by assumption) | ktr_room); (case k9 => exact BindsTo.of_eq rfl); (case kB => exact rfl); (case kD => decide +kernel); (case c2 => exact rfl); (case c3 => exact rfl); (case c4 => exact rfl); k_whole; intro g' L' h' tk' cells' FG' F' N' Y' B' X' T' l1 GS'; (try k_lt l1); k_cells Y'; (try simp only [List.cons_append, List.nil_append] at N'); (try dsimp only); (try k_lift B'); (try k_fold)); k_steps)
  rename_i o1 o2 o3 d1 d2 d3 hhA oA dA hhH oH dH h5 F5 N5
  refine For_turns F5 ?_
  k_with "pyIter ref" => ((with_unfolding_all refine' iter_listTurns (lo := { cls := .type "list", data := .seq (ds.map Value.ref).toArray n }) (vs := ds.map Value.ref) (n := n) ?kh F5 N5 ?km ?kc ?kd ?kr); (case kh => with_unfolding_all rfl); (case km => simp); (case kc => rfl); (case kd => rfl))
  w_strict k_steps
  case kr =>
    rename_i I' lI
    (try k_lt lI)
    obtain ⟨tA, dA'⟩ : ∃ t, oA.data = .cell (some (.int 0 t)) := ⟨_, dA⟩
    obtain ⟨tH, dH'⟩ : ∃ t, oH.data = .cell (some (.int 0 t)) := ⟨_, dH⟩
    refine' items_inv (σ := DS) (fun c => [(L' + 1 + 1 + 1, c.oH), (L' + 1 + 1, c.oA), (L' + 1, o3), (lr, { cls := .type "list", data := .seq #[.int z0 u0, .int z1 u1, .int z2 u2, .int z3 u3, .int z4 u4] nr }), (ld, { cls := .type "list", data := .seq (ds.map Value.ref).toArray n })])
      (fun c => [(Str.ofString "left", .int c.l c.tl)]) [Str.ofString "kind", Str.ofString "head", Str.ofString "width", Str.ofString "sizes"] (DueP [z0, z1, z2, z3, z4] D) (ds.map Value.ref) ⟨oA, oH, 0, tA, 0, tH, 5, _⟩ ?hk ?hP ?turn ?done
    case hk => intro p hp; rw [List.mem_singleton.mp hp]; rfl
    case hP => exact ⟨dA', dH', rfl, Int.le_refl _, Int.le_refl _, Int.le_of_lt (by simp), Int.le_refl _, Int.le_refl _, one_le_pow2'⟩
    case turn =>
      intro i d c u hq tkq hget hP Fq
      obtain ⟨da, hda, rfl⟩ : ∃ da, ds[i]? = some da ∧ d = .ref da := by
        rw [List.getElem?_map] at hget
        cases h : ds[i]? with
        | none => rw [h] at hget; cases hget
        | some da => rw [h] at hget; cases hget; exact ⟨da, rfl, rfl⟩
      refine exE6 (HD i da hda) fun k hd wd tk1 tk2 tk3 q9 => andE2 q9 fun ht hD => ?_
      clear q9
      have htg : g'.get? da = some (tupO k hd wd tk1 tk2 tk3) := GS' _ _ ht (by
        intro hm
        simp only [List.map_cons, List.map_nil, List.mem_cons, List.not_mem_nil, or_false] at hm
        rcases hm with rfl | rfl
        · have := (N (_, _) (.head _)).1; rw [ht] at this; exact absurd (congrArg Obj.cls (Option.some.inj this)) (by simp)
        · have := (N (_, _) (.tail _ (.head _))).1; rw [ht] at this; exact absurd (congrArg Obj.cls (Option.some.inj this)) (by simp))
      have hTup : IsTup hq da #[.int k tk1, .int hd tk2, .int wd tk3] := ⟨_, Fq.keep _ _ htg, rfl, _, rfl⟩
      obtain ⟨oA', oH', a', ta', h', th', l', tl'⟩ := c
      have cA := hP.cA
      have cH := hP.cH
      have is := hP.is
      have h0 := hP.h0
      have h1 := hP.h1
      have l0 := hP.l0
      have lu := hP.l1
      have a0 := hP.a0
      have a1 := hP.a1
      clear hP
      dsimp only at cA cH is h0 h1 l0 lu a0 a1 Fq
      dsimp only [kstB] at Fq
      have hi : i < ds.length := (List.getElem?_eq_some_iff.mp hda).1
      have hb : h' ≤ 5 := Int.le_trans h1 (Int.ofNat_le.mpr (Nat.le_of_lt (Nat.lt_of_lt_of_le hi hlen)))
      have hb6 := le_of5 hb
      have hb9 := lt_of5 hb
      k_with "call ref" => ((rename News _ _ _ _ => nN); (rename IntsAre _ _ => nI); k_dflt (refine' fit_cl' w mean mg mb _ _ _ nI ?fz _ _ _ _ _ _ _ _ _ _ _ _ _ _ _ _ _ _ _ _ _ _ ?fB ?fF ?fX ?fN ?fT ?fk ?fd ?fu ?_; (case fz => simp); (case fB => k_asm); (case fF => k_asm); (case fX => k_asm); (case fN => exact cb_drop nN (fun p hp => by rw [List.mem_singleton.mp hp]; exact List.mem_cons_self ..)); (case fT => k_asm); (case fk => exact rfl); (case fd => first | exact room_le (by assumption) rfl | ktr_room); (case fu => first | exact room_le (by assumption) rfl | ktr_units); k_whole); intro v9 h9 tk9 hR9 F9 K9; (refine Exists.elim hR9 fun t9 e9 => ?_); clear hR9; subst e9; (have N9 := kept_news nN K9); clear K9; (try dsimp only); (try k_fold))
      ktu_objs
      w_strict k_steps
      · rename_i k2 _ _ _ D2 _ _ o1 _ _ hh F2 N2
        refine ⟨⟨oA', oH', a', ta', h', th', _, _⟩, by walk_at "mine sub", ⟨cA, cH, ?_, h0, le_up' h1, ?_, ?_, a0, a1⟩, by kst_all, by ksw_same⟩
        · rw [due_next hD, ← is]
          subst k2
          simp [dueStep]
        · dsimp only; split
          · exact fitF_nonneg _ _ _
          · exact l0
        · dsimp only; split
          · exact Int.le_trans (Int.le_of_lt ‹_›) lu
          · exact lu
      · rename_i k2 _ k1 hh1 oA2 dA2 hh2 oH2 F2 N2 dH2
        refine ⟨⟨oA2, oH2, _, _, _, _, l', tl'⟩, by walk_at "mine sub", ⟨dA2, dH2, ?_, nn_up h0, le_up h1, l0, lu, ?_, ?_⟩, by kst_all, by ksw_same⟩
        rotate_left
        · exact pow_nn a0
        · exact pow_up2 h0 a1
        rw [due_next hD, ← is]
        subst k1
        simp [dueStep]
      · rename_i k2 _ k1 hh2 oH2 F2 N2 dH2
        refine ⟨⟨oA', oH2, a', ta', _, _, l', tl'⟩, by walk_at "mine sub", ⟨cA, dH2, ?_, nn_up h0, le_up h1, l0, lu, a0, ?_⟩, by kst_all, by ksw_same⟩
        rotate_left
        · exact pow_up h0 a1
        rw [due_next hD, ← is]
        simp [dueStep, k1, k2]
    case done =>
      intro c u hq tkq hP Fq Nq
      obtain ⟨oA', oH', a', ta', h', th', l', tl'⟩ := c
      have cA := hP.cA
      have cH := hP.cH
      have is := hP.is
      have h0 := hP.h0
      have h1 := hP.h1
      have l0 := hP.l0
      have lu := hP.l1
      have a0 := hP.a0
      have a1 := hP.a1
      clear hP
      dsimp only at cA cH is h0 h1 l0 lu a0 a1 Fq Nq
      dsimp only [kstB] at Fq
      have hb : h' ≤ 5 := by rw [List.length_map] at h1; exact Int.le_trans h1 (Int.ofNat_le.mpr hlen)
      have hb6 := le_of5 hb
      have hb9 := lt_of5 hb
      dsimp only
      k_with "RangeRest" => (with_unfolding_all refine' range_inv (σ := Int × Tok) (fun _ => _) (fun c => [(Str.ofString "left", .int c.1 c.2)]) [Str.ofString "k", Str.ofString "figures"] (fun i c => 0 ≤ c.1 ∧ c.1 ≤ 5 ∧ c.1 = ((List.range i).map Int.ofNat).foldl (cutStep [z0, z1, z2, z3, z4] a' h') l') (l', tl') ?r1 ?r2 (Hold.out ?r3) (Hold.out ?r4); (case r1 => (intro p hp; rw [List.mem_singleton.mp hp]; rfl)); (case r2 => exact ⟨l0, lu, rfl⟩))
      w_strict k_steps
      case r3 =>
        refine Hold.in ?_
        intro i c u2 t2 h2 tk2 hi hP2 F2 N2
        obtain ⟨c, ct⟩ := c
        have p0 := hP2.1
        have p5 := hP2.2.1
        have pe := hP2.2.2
        clear hP2
        dsimp only at p0 p5 pe F2 N2
        dsimp only [kstB] at F2
        w_strict k_steps
        · rename Builtin.bitOr _ _ ≠ _ => hne
          refine ⟨(_, _), by walk_at "mine sub", ⟨?_, ?_, ?_⟩, by kst_all, by ksw_same⟩
          · dsimp only; split <;> omega
          · dsimp only; split <;> omega
          · rw [cut_next, ← pe]
            dsimp only [cutStep]
            rw [Int.zero_add] at hne ⊢
            rw [if_neg hne]
        · rename Builtin.bitOr _ _ = _ => he
          refine ⟨(_, _), by walk_at "mine sub", ⟨p0, p5, ?_⟩, by kst_all, by ksw_same⟩
          rw [cut_next, ← pe]
          dsimp only [cutStep]
          rw [Int.zero_add] at he
          rw [if_pos he]
      case r4 =>
        refine Hold.in ?_
        intro c u2 h2 tk2 hP2 F2 N2
        obtain ⟨c, ct⟩ := c
        have p0 := hP2.1
        have p5 := hP2.2.1
        have pe := hP2.2.2
        clear hP2
        dsimp only at p0 p5 pe F2 N2
        dsimp only [kstB] at F2
        dsimp only
        obtain ⟨nc, rfl⟩ : ∃ nc : Nat, c = (nc : Int) := ⟨c.toNat, (Int.toNat_of_nonneg p0).symm⟩
        have hn5 : nc ≤ 5 := Int.ofNat_le.mp p5
        k_with "CompSrc" => (refine Hold.out ?r5)
        w_strict k_steps
        case r5 =>
          refine Hold.in ?_
          refine' csrc_range (n := nc) (fun i v => ∃ t, v = .str (wordS i (([z0, z1, z2, z3, z4].getD i 0 + a').fdiv (2 ^ h'.toNat)).toNat) t) ?q1 ?q2 ?q3 ?q4 ?q5 ?q6 ?q7
          (case q1 => exact Nat.le_trans hn5 (by decide)); (case q2 => exact rfl); (case q3 => k_asm); (case q4 => k_asm); (case q5 => assumption)
          case q6 =>
            intro i t9 I9 oI9 C9 oC9 D9 m9 ys9 h9 g9 tk9 E9 hi9 hC9 hx9 F9 N9 off9 ne9
            simp only [LCg.Off3, and_true] at off9
            k_with "CompEnd" => (refine Hold.out ?r7)
            k_with "binaryOp Add str str" => (k_dflt (refine' KXadd.add (K := 1) (L := 15) (Nat.le_of_eq rfl) (mul_q_len (And.right (by assumption))) (by decide) ?_); intro _ _ _)
            have hi5 : i < 5 := Nat.lt_of_lt_of_le hi9 hn5
            have hi0 : (0 : Int) ≤ (i : Int) := Int.natCast_nonneg i
            have hi6 : (i : Int) < 5 := Int.ofNat_lt.mpr hi5
            have lab : (Str.ofString "abcde").length = 5 := by decide +kernel
            have zb := at5 hz hi5
            have mi := fdiv_bound (h := h') zb.1 zb.2 a0 a1
            have ki := mulOk_q mi.1 (Int.le_trans mi.2 (by decide))
            have i2 := mul_q_len mi.2
            w_strict k_steps
            case r7 => exact Hold.in (compEnd_el (by assumption) (by assumption) (by kcf_all) (by simp only [LCg.Off3, and_true]; assumption) trivial ⟨_, congrArg (fun x => Value.str x _) (word_at (item_abc hi5))⟩)
          case q7 =>
            intro g9 ys9 hl9 hR9
            k_with "call builtin:str.join" => (refine Hold.out ?r8)
            w_strict k_steps
            case r8 =>
              refine Hold.in ?_
              refine' join_rel ?q1 hl9 hR9 ?q2 ?q3 ?q4 ?_
              (case q1 => first | assumption | is_list | exact News.isList (by k_asm) (by k_mem))
              (case q2 => intro i hi; refine wordS_len ?_; have zb := at5 hz (i := i) (Nat.lt_of_lt_of_le hi hn5); have mi := fdiv_bound (h := h') zb.1 zb.2 a0 a1; exact Int.toNat_le.mpr (Int.le_trans mi.2 (by decide))); (case q3 => exact Nat.le_trans hn5 (by decide)); (case q4 => decide +kernel)
              w_strict k_steps
              refine hret _ _ _ ⟨_, congrArg (fun x => Value.str x _) ?_⟩ (by assumption) (kept_of N (by assumption) (Fr.keep (by assumption)) (cb_drop (by assumption) (by walk_at "mine sub")))
              rw [join_text]
              unfold dueT dueW
              rw [List.take_of_length_le (by rw [List.length_map, hDl]; exact Nat.le_refl _)] at is
              rw [← is]
              unfold cutF
              rw [← pe]
              rfl
end Mine
end
section
open PySem PySem.W PyProof.Rows
set_option Elab.async false
set_option maxRecDepth 100000
namespace Mine
noncomputable abbrev isz : Str := Str.ofString "_initial_size"
noncomputable abbrev iniO (w : World) (kt : Tok) (v : Value) (k : Nat) : Obj := dictOf (putL isz (PyData.keyHash w.params isz) (.str isz kt) v []) k

noncomputable abbrev ROM (w : World) (mean : ExcName → Option Value) (mg mb : Str → Option Value) (f : Addr) (fp : List Addr) (Pre : Heap → Prop) (news : List (Addr × Obj)) (vs : List Value) (Post : Heap → Value → Heap → Prop) (d u : Nat) : Prop :=
  ∀ (dp un : Nat) (gd : Option (List Code)) (cn : Str) (cs : Scope) (a : Addr) (ccd : Value) (cl : List (Str × Addr)) (outer : List Env) (A₀ : Around) (base h₀ : Heap) (L : Addr) (m : Str → Option Value) (s : Shared) (Q E : Value → Shared → Prop),
    Below A₀ base outer h₀ → Fr h₀ L s.heap m → (hd.heap_1 w.params).In h₀ → News h₀ L s.heap news → Top VW LS mean mg mb h₀ → cs.kind = .function → Pre s.heap → dp + d < recursionLimit → un + u < cLine →
    (∀ v h' tk', Post s.heap v h' → Fr h₀ L h' m → KeptBut fp s.heap h' → Q v { s with heap := h', toks := tk' }) →
    wpAny (model PR w) (ktrTop dp un gd cn cs L a ccd cl outer) (call (.ref f) vs) Q E s

noncomputable abbrev tup2 (f : Str) (tf : Tok) (p : Str) (tp : Tok) : Obj := { cls := .type "tuple", data := .seq #[.str f tf, .str p tp] }
theorem ROM.use {w : World} {mean : ExcName → Option Value} {mg mb : Str → Option Value} {f : Addr} {fp : List Addr} {Pre : Heap → Prop} {news all : List (Addr × Obj)} {vs : List Value} {Post : Heap → Value → Heap → Prop} {d u : Nat}
  (C : ROM w mean mg mb f fp Pre news vs Post d u) {dp un : Nat} {gd : Option (List Code)} {cn : Str} {cs : Scope} {a : Addr} {ccd : Value} {cl : List (Str × Addr)} {outer : List Env} {A₀ : Around} {base h₀ : Heap} {L : Addr} {m : Str → Option Value} {s : Shared} {Q E : Value → Shared → Prop}
  (B : Below A₀ base outer h₀) (F : Fr h₀ L s.heap m) (X : (hd.heap_1 w.params).In h₀) (N : News h₀ L s.heap all) (sub : ∀ p ∈ news, p ∈ all) (T : Top VW LS mean mg mb h₀) (hk : cs.kind = .function) (hP : Pre s.heap) (hd : dp + d < recursionLimit) (hu : un + u < cLine)
  (h : ∀ v h' tk', Post s.heap v h' → Fr h₀ L h' m → KeptBut fp s.heap h' → Q v { s with heap := h', toks := tk' }) :
  wpAny (model PR w) (ktrTop dp un gd cn cs L a ccd cl outer) (call (.ref f) vs) Q E s :=
  C dp un gd cn cs a ccd cl outer A₀ base h₀ L m s Q E B F X (cb_drop N sub) T hk hP hd hu h

theorem fresh_of {h g h' : Heap} {L' D : Addr} {o : Obj} {news news' : List (Addr × Obj)} (GS : GSub h g (news.map (·.1))) (N' : News g L' h' news') (hm : (D, o) ∈ news') (hA : ∀ p ∈ news, @Ne Nat D p.1) : h.get? D = none := by
  cases e : h.get? D with
  | none => rfl
  | some o' =>
    have := GS _ _ e (fun hb => by obtain ⟨p, hp, rfl⟩ := List.mem_map.mp hb; exact hA p hp rfl)
    rw [(N' _ hm).2.2] at this
    cases this
theorem fresh_news {h₀ h h' : Heap} {L D : Addr} {o : Obj} {m : Str → Option Value} {news : List (Addr × Obj)} (F : Fr h₀ L h m) (N' : News h₀ L h' news) (hf : h.get? D = none) (hg : h'.get? D = some o) : News h₀ L h' ((D, o) :: news) := by
  intro p hp
  rcases List.mem_cons.mp hp with rfl | hp
  · refine ⟨hg, fun e => ?_, ?_⟩
    · obtain ⟨oL, es, ep, hL, r⟩ := F.ns
      rw [← e, hf] at hL
      cases hL
    · cases z : h₀.get? D with
      | none => rfl
      | some o' => rw [F.keep _ _ z] at hf; cases hf
  · exact N' p hp
theorem upd_then {b : Addr} {o o' : Obj} {h₀ h h' : Heap} {L : Addr} {news news' : List (Addr × Obj)} {G : Prop} (N : News h₀ L h news) (U : Upd b o o' news news') (k : KeptBut [b] h h') (hg : h'.get? b = some o') (h : News h₀ L h' news' → G) : G := h (upd_news N U k hg)

theorem kept_mut {h₀ h g h' : Heap} {L : Addr} {news : List (Addr × Obj)} (fp : List Addr) (N : News h₀ L h news) (GS : GSub h g (news.map (·.1))) (FK : ∀ b o, g.get? b = some o → h'.get? b = some o) (N' : ∀ p ∈ news, p.1 ∉ fp → h'.get? p.1 = some p.2) : KeptBut fp h h' := by
  intro b o hb' e
  by_cases hb : b ∈ news.map (·.1)
  · obtain ⟨p, hp, rfl⟩ := List.mem_map.mp hb
    have h1 := (N p hp).1
    rw [e] at h1
    cases h1
    exact N' p hp hb'
  · exact FK b o (GS b o e hb)

theorem sub_out {h₀ h' : Heap} {L : Addr} {news news' : List (Addr × Obj)} {fp : List Addr} (N' : News h₀ L h' news') (h : ∀ p ∈ news, p.1 ∉ fp → p ∈ news') : ∀ p ∈ news, p.1 ∉ fp → h'.get? p.1 = some p.2 := fun p hp hf => (N' p (h p hp hf)).1
theorem news_at {h₀ h' : Heap} {L b : Addr} {o : Obj} {news' : List (Addr × Obj)} (N' : News h₀ L h' news') (h : (b, o) ∈ news') : h'.get? b = some o := (N' _ h).1

theorem news_ne {h₀ h : Heap} {L x y : Addr} {o o' : Obj} {news : List (Addr × Obj)} (N : News h₀ L h news) (h1 : (x, o) ∈ news) (h2 : (y, o') ∈ news) (ho : o.cls ≠ o'.cls) : @Ne Nat x y := by
  intro e
  have a := (N _ h1).1
  have b := (N _ h2).1
  dsimp only at a b
  rw [e, b] at a
  exact ho (congrArg Obj.cls (Option.some.inj a)).symm
theorem news_neB {h₀ h : Heap} {L x y : Addr} {o o' : Obj} {news : List (Addr × Obj)} (N : News h₀ L h news) (h1 : (x, o) ∈ news) (h2 : (y, o') ∈ news) (ho : (o.cls == o'.cls) = false) : @Ne Nat x y :=
  news_ne N h1 h2 fun e => by rw [e] at ho; simp at ho
theorem so_nil {fp : List Addr} {new' : List (Addr × Obj)} : ∀ p ∈ ([] : List (Addr × Obj)), p.1 ∉ fp → p ∈ new' := List.forall_mem_nil _
theorem so_fp {fp : List Addr} {new' l : List (Addr × Obj)} {a : Addr} {o : Obj} (h : a ∈ fp) (r : ∀ p ∈ l, p.1 ∉ fp → p ∈ new') : ∀ p ∈ (a, o) :: l, p.1 ∉ fp → p ∈ new' := List.forall_mem_cons.mpr ⟨fun n => absurd h n, r⟩
theorem so_in {fp : List Addr} {new' l : List (Addr × Obj)} {q : Addr × Obj} (h : q ∈ new') (r : ∀ p ∈ l, p.1 ∉ fp → p ∈ new') : ∀ p ∈ q :: l, p.1 ∉ fp → p ∈ new' := List.forall_mem_cons.mpr ⟨fun _ => h, r⟩
theorem fr_nil {D : Addr} : ∀ p ∈ ([] : List (Addr × Obj)), @Ne Nat D p.1 := List.forall_mem_nil _
theorem fr_cons {D a : Addr} {o : Obj} {l : List (Addr × Obj)} (h : @Ne Nat D a) (r : ∀ p ∈ l, @Ne Nat D p.1) : ∀ p ∈ (a, o) :: l, @Ne Nat D p.1 := List.forall_mem_cons.mpr ⟨h, r⟩
theorem to_nil : ∀ q ∈ ([] : List (Addr × Obj)), q.2.cls ≠ .type "tuple" := List.forall_mem_nil _
theorem to_cons {a : Addr} {o : Obj} {l : List (Addr × Obj)} (h : (o.cls == .type "tuple") = false) (r : ∀ q ∈ l, q.2.cls ≠ .type "tuple") : ∀ q ∈ (a, o) :: l, q.2.cls ≠ .type "tuple" := List.forall_mem_cons.mpr ⟨fun e => by dsimp only at e; rw [e] at h; simp at h, r⟩

section
variable {w : World} {A : Around} {E : Value → Shared → Prop} {s : Shared} {x dx L : Addr} {h₀ : Heap} {m : Str → Option Value} {its : Array Value} {n k : Nat} {news news' : List (Addr × Obj)} {d : Obj}

theorem ka_method {name : Str} {f : Value} {pl : Sem Bool} {Q : Value × List Value → Shared → Prop} (F : Fr h₀ L s.heap m) (X₀ : (hd.heap_1 w.params).In h₀) (N : News h₀ L s.heap news) (hx : (x, accO dx its n) ∈ news) (hdx : (dx, d) ∈ news)
    (hf : findIn (hd.heap_1 w.params) (.ref 207) name = some (some f)) (ht : (match typeIn (hd.heap_1 w.params) f with | some (.type "function") => true | some (.type "method_descriptor") => true | some (.type "wrapper_descriptor") => true | _ => false) = true)
    (hn : lookIn name d = some none) (h : Q (f, [.ref x]) s) : wpAny (model PR w) A (getMethod (.ref x) name pl) Q E s :=
  acc_getMethod (X₀.keeps F.keep) (N _ hx).1 (N _ hdx).1 hf ht hn h

theorem ka_get {name : Str} {expr : Bool} {v : Value} {Q : Value → Shared → Prop} (F : Fr h₀ L s.heap m) (X₀ : (hd.heap_1 w.params).In h₀) (N : News h₀ L s.heap news) (hx : (x, accO dx its n) ∈ news) (hdx : (dx, d) ∈ news)
    (hf : findObj (hd.heap_1 w.params) 207 (some d) name = some (.value v)) (hh : handedIn v = true) (h : Q v { s with toks := s.toks + 1 }) : wpAny (model PR w) A (getAttr (.ref x) name expr) Q E s :=
  acc_getAttr (X₀.keeps F.keep) (N _ hx).1 (N _ hdx).1 hf hh h

theorem ka_set {name : Str} {v : Value} {es es' : List DictEntry} {k' : Nat} {Q : Unit → Shared → Prop} (F : Fr h₀ L s.heap m) (X₀ : (hd.heap_1 w.params).In h₀) (N : News h₀ L s.heap news) (hx : (x, accO dx its n) ∈ news)
    (ht : takerIn (hd.heap_1 w.params) 207 name = some none) (hl : (getL name es).isSome = true)
    (e : (putL name (PyData.keyHash w.params name) (.str name (s.toks + 1)) v es, putN name es k) = (es', k')) (U : Upd dx (dictOf es k) (dictOf es' k') news news') (hz : es'.length ≤ 1000)
    (h : ∀ h', Fr h₀ L h' m → News h₀ L h' news' → Q () { s with heap := h', toks := s.toks + 2 }) : wpAny (model PR w) A (setAttr (.ref x) name v) Q E s :=
  acc_setAttr (X₀.keeps F.keep) (N _ hx).1 (upd_at N U).1 ht hl e hz fun h' hs hg => h h' (upd_fr F N U (keptBut_same hs)) (upd_news N U (keptBut_same hs) hg)

theorem ka_append {v : Value} {Q : Value → Shared → Prop} (F : Fr h₀ L s.heap m) (X₀ : (hd.heap_1 w.params).In h₀) (N : News h₀ L s.heap news) (U : Upd x (accO dx its n) (accO dx (its.push v) (n + 1)) news news') (hsz : its.size ≤ 1000)
    (h : ∀ h', Fr h₀ L h' m → News h₀ L h' news' → Q .none { s with heap := h' }) : wpAny (model PR w) A (call (.builtin "list.append") [.ref x, v]) Q E s :=
  acc_append_at (X₀.keeps F.keep) (upd_at N U).1 (fun h' hs hg => h h' (upd_fr F N U (keptBut_same hs)) (upd_news N U (keptBut_same hs) hg)) (by rw [PySem.sizeLine_eq]; omega)

end
end Mine
end
section
open PySem PySem.W PyProof.Rows
set_option Elab.async false
set_option maxRecDepth 100000
set_option maxHeartbeats 8000000
set_option pp.deepTerms false
set_option pp.deepTerms.threshold 6
set_option pp.maxSteps 3000
set_option pp.proofs false
namespace Mine

theorem rows_AM1_1 : True := by
  k_with_none
  w_top off
  k_with "mine enter" => (k_dflt (refine' code_defG ?k1 ?k2 ?k3 ?k4 ?k5 ?kA ?kF ?kK ?k6 ?k7 ?k8 ?k9 ?kB ?_ ?c2 ?c3 ?c4 ?c5; (case kA => exact rfl); (case kF => exact rfl); (case kK => assumption); (case k1 => k_asm); (case k2 => k_asm); (case k3 => k_asm); (case k4 => k_asm); (case k5 => k_asm); (case k6 => k_is); (case k7 => k_is); (case k8 => first | exact room0 (by assumption) | ktr_room); (case k9 => exact BindsTo.of_eq rfl); (case c5 => decide); (case kB => exact locs rfl); (case c2 => exact rfl); (case c3 => exact rfl); (case c4 => exact rfl); k_whole; intro _ _ _ _ _ _ B' _ _ _; (try dsimp only); (try k_lift B'); (try k_fold)))
  k_with "getMethod ref" => (k_here; k_dflt (refine' ka_method ?k1 ?k2 ?k3 ?k4 ?k5 ?k6 ?k7 ?k8 ?_; (case k1 => k_asm); (case k2 => k_asm); (case k3 => k_asm); (case k4 => k_mem); (case k5 => k_mem); (case k6 => k_is); (case k7 => kernel_rfl); (case k8 => exact rfl); k_whole))
  k_with "call builtin:list.append" => (k_here; k_dflt (refine' ka_append ?k1 ?k2 ?k3 ?k4 ?k5 ?_; (case k1 => k_asm); (case k2 => k_asm); (case k3 => k_asm); (case k4 => k_upd); (case k5 => assumption); k_whole; intro _ _ _; (try k_sweep)))
  k_with "mine out" => (first | exact so_nil | (refine so_fp ?za ?zb; (case za => k_mem); (case zb => walk_at "mine out")) | (refine so_in ?za ?zb; (case za => k_mem); (case zb => walk_at "mine out")))
  k_with "mine fr" => (first | exact fr_nil | (refine fr_cons ?za ?zb; (case za => (first | omega | (dsimp only; omega))); (case zb => walk_at "mine fr")))
  k_with "execs cons" => ((with_reducible refine wpAny_execs_cons ?_); (try dsimp only); (try (refine tk_any ?_; intro _)); (try k_fold))
  trivial
theorem push_cl (w : World) (mean : ExcName → Option Value) (mg mb : Str → Option Value) (x dx : Addr) (its : Array Value) (n k : Nat) (kt : Tok) (iv : Value) (f p : Str) (tf tp : Tok) (hsz : its.size ≤ 1000) :
  ROM w mean mg mb 151 [x] (fun _ => True) [(x, accO dx its n), (dx, iniO w kt iv k)] [.ref x, .str f tf, .str p tp]
    (fun h v h' => v = .none ∧ ∃ T, h'.get? x = some (accO dx (its.push (.ref T)) (n + 1)) ∧ h.get? T = none ∧ h'.get? T = some (tup2 f tf p tp)) 4 40 := by
  delta ROM PR; k_fill
  intro dp un gd cn cs a ccd cl outer A₀ base h₀ L m s Q E B F KX N T hk HP hdp hun hret
  have hne : @Ne Nat x dx := news_neB N (by k_mem) (by k_mem) rfl
  have hne' : @Ne Nat dx x := hne.symm
  w_strict (refine wpAny_call ?_; walk_at "mine enter"; k_steps)
  rename _ < _ ∧ _ < _ => l1
  exact hret _ _ _ ⟨rfl, _, news_at (by assumption) (by k_mem), fresh_of (by assumption) (by assumption) (List.Mem.head _) (by walk_at "mine fr"), news_at (by assumption) (by k_mem)⟩ (by assumption) (kept_mut [x] N (by assumption) (Fr.keep (by assumption)) (sub_out (by assumption) (by walk_at "mine out")))
end Mine
end
section
open PySem PySem.W PySem.Calls PyProof.Rows PySem.Builtin
set_option Elab.async false
set_option maxRecDepth 100000
namespace Mine
section
variable {w : World} {A : Around} {E : Value → Shared → Prop} {h : Heap} {g : Array GenState} {d : Drawn} {t : Nat} {os : OsState} {x dx : Addr} {its : Array Value} {n : Nat}

theorem acc_notCls {h : Heap} (X : (hd.heap_1 w.params).In h) (ho : h.get? x = some (accO dx its n)) : x ≠ 207 := by
  obtain ⟨cd, hc, hm, -⟩ := acc_cls w
  rintro rfl
  unfold clsIn at hc
  split at hc
  · rename_i hk
    have e := X _ _ hk
    rw [ho] at e
    cases e
  · cases hc

theorem slot_md_get : Slot "method_descriptor" "__get__" "method_descriptor.__get__" := .of (owner := "method_descriptor") (n := "__get__") (by rw [typeLookup_type, builtinLookup_eq_fast]; kernel_rfl) (by decide +kernel) (by decide +kernel) (by decide +kernel)
  (by first | exact .inl (by decide +kernel) | exact .inr (by decide +kernel)) (by rw [isSubtype_type]; kernel_rfl)
theorem slot_wd_get : Slot "wrapper_descriptor" "__get__" "wrapper_descriptor.__get__" := .of (owner := "wrapper_descriptor") (n := "__get__") (by rw [typeLookup_type, builtinLookup_eq_fast]; kernel_rfl) (by decide +kernel) (by decide +kernel) (by decide +kernel)
  (by first | exact .inl (by decide +kernel) | exact .inr (by decide +kernel)) (by rw [isSubtype_type]; kernel_rfl)
theorem entry_md_get : entryFor table "method_descriptor.__get__" = some Builtin.«method_descriptor.__get__» := entryFor_of_tree (by kernel_rfl)
theorem entry_wd_get : entryFor table "wrapper_descriptor.__get__" = some Builtin.«wrapper_descriptor.__get__» := entryFor_of_tree (by kernel_rfl)
theorem args_md_get (a b c : Value) : argsOk "method_descriptor.__get__" ⟨[a, b, c], []⟩ := by unfold argsOk; kernel_rfl
theorem args_wd_get (a b c : Value) : argsOk "wrapper_descriptor.__get__" ⟨[a, b, c], []⟩ := by unfold argsOk; kernel_rfl

theorem bind_pop {R : Result → Shared → Prop} (X : (hd.heap_1 w.params).In h) (ho : h.get? x = some (accO dx its n))
    (hq : R (.ok (.ret (.ref h.objs.size))) ⟨h.push { cls := .type "builtin_function_or_method", data := .fields #[.builtin "list.pop", .ref x] }, g, d, t, os⟩) :
    codeAny (model PR w) A (.call (.builtin "method_descriptor.__get__") ⟨[.builtin "list.pop", .ref x, .ref 207], []⟩) R ⟨h, g, d, t, os⟩ := by
  refine codeAny_call_builtin slot_md_get.plain entry_md_get (slot_md_get.check _ _ _ _ _ _ _ _ (show typeOf (.builtin "list.pop") = pure (.type "method_descriptor") by kernel_rfl) (args_md_get _ _ _) ?_)
  unfold Builtin.«method_descriptor.__get__»
  refine wpAny_bind (wpAny_of_eq (a := (Value.builtin "list.pop", some (Value.ref x), some (Value.ref 207))) rfl ?_)
  dsimp only
  rw [if_neg (by decide +kernel)]
  refine wpAny_bind ?_
  refine wpAny_bind (wpAny_of_eq (a := (Str.ofString "pop", Value.type "list")) (by kernel_rfl) ?_)
  refine wpAny_bind (Looks.at (acc_isList X ho) ?_)
  rw [if_neg (by decide)]
  refine wpAny_pure ?_
  exact wpAny_bind (wpAny_newObj_type (wpAny_pure hq))

theorem bind_len {R : Result → Shared → Prop} (X : (hd.heap_1 w.params).In h) (ho : h.get? x = some (accO dx its n))
    (hq : R (.ok (.ret (.ref h.objs.size))) ⟨h.push { cls := .type "method-wrapper", data := .fields #[.builtin "list.__len__", .ref x] }, g, d, t, os⟩) :
    codeAny (model PR w) A (.call (.builtin "wrapper_descriptor.__get__") ⟨[.builtin "list.__len__", .ref x, .ref 207], []⟩) R ⟨h, g, d, t, os⟩ := by
  refine codeAny_call_builtin slot_wd_get.plain entry_wd_get (slot_wd_get.check _ _ _ _ _ _ _ _ (show typeOf (.builtin "list.__len__") = pure (.type "wrapper_descriptor") by kernel_rfl) (args_wd_get _ _ _) ?_)
  unfold Builtin.«wrapper_descriptor.__get__»
  refine wpAny_bind (wpAny_of_eq (a := (Value.builtin "list.__len__", some (Value.ref x), some (Value.ref 207))) rfl ?_)
  refine wpAny_bind ?_
  refine wpAny_bind (wpAny_of_eq (a := (Str.ofString "__len__", Value.type "list")) (by kernel_rfl) ?_)
  refine wpAny_bind (Looks.at (acc_isList X ho) ?_)
  rw [if_neg (by decide)]
  refine wpAny_pure ?_
  exact wpAny_bind (wpAny_newObj_type (wpAny_pure hq))

theorem bind_init {R : Result → Shared → Prop} (X : (hd.heap_1 w.params).In h) (ho : h.get? x = some (accO dx its n))
    (hq : R (.ok (.ret (.ref h.objs.size))) ⟨h.push { cls := .type "method-wrapper", data := .fields #[.builtin "list.__init__", .ref x] }, g, d, t, os⟩) :
    codeAny (model PR w) A (.call (.builtin "wrapper_descriptor.__get__") ⟨[.builtin "list.__init__", .ref x, .ref 207], []⟩) R ⟨h, g, d, t, os⟩ := by
  refine codeAny_call_builtin slot_wd_get.plain entry_wd_get (slot_wd_get.check _ _ _ _ _ _ _ _ (show typeOf (.builtin "list.__init__") = pure (.type "wrapper_descriptor") by kernel_rfl) (args_wd_get _ _ _) ?_)
  unfold Builtin.«wrapper_descriptor.__get__»
  refine wpAny_bind (wpAny_of_eq (a := (Value.builtin "list.__init__", some (Value.ref x), some (Value.ref 207))) rfl ?_)
  refine wpAny_bind ?_
  refine wpAny_bind (wpAny_of_eq (a := (Str.ofString "__init__", Value.type "list")) (by kernel_rfl) ?_)
  refine wpAny_bind (Looks.at (acc_isList X ho) ?_)
  rw [if_neg (by decide)]
  refine wpAny_pure ?_
  exact wpAny_bind (wpAny_newObj_type (wpAny_pure hq))

noncomputable abbrev supObj (x : Addr) : Obj := ks_superObj 207 x 207
theorem sup_ga {so : Addr} {name : Str} {id dt gid : String} {bo : Obj} {tk : Tok} {Q : Fin → Shared → Prop} (X : (hd.heap_1 w.params).In h) (hso : h.get? so = some (supObj x)) (hx : h.get? x = some (accO dx its n))
    (hal : alongIn (hd.heap_1 w.params) name [.type "list", .type "object"] = some (some (.builtin id))) (hty : typeOf (.builtin id) = pure (.type dt)) (hlk : typeLookup (.type dt) "__get__" = pure (some (.builtin gid)))
    (hno : (name == ("__class__" : Str)) = false)
    (hb : ∀ R : Result → Shared → Prop, (∀ h' b, b = h.objs.size → h' = h.push bo → R (.ok (.ret (.ref b))) ⟨h', g, d, t, os⟩) → codeAny (model PR w) A (.call (.builtin gid) ⟨[.builtin id, .ref x, .ref 207], []⟩) R ⟨h, g, d, t, os⟩)
    (hq : Q (.done (.ret (.ref h.objs.size))) ⟨h.push bo, g, d, t, os⟩) :
    wpAny (model PR w) A (Builtin.«super.__getattribute__» ⟨[.ref so, .str name tk], []⟩) Q E ⟨h, g, d, t, os⟩ := by
  have hoq : Looks (model PR w) h (opaqueClassAbove (.ref 207)) none := looks_opaque X (by kernel_rfl)
  obtain ⟨cd, hc, hm, -⟩ := acc_cls w
  have hC : Looks (model PR w) h (mroOf (.ref 207)) [.ref 207, .type "list", .type "object"] := hm ▸ (looks_clsIn X hc).andThen .now
  have hne : (Value.ref x == Value.ref 207) = false := by
    have := acc_notCls X hx
    simp [this]
  have hdt : (supObj x).data = .fields #[.ref 207, .ref x, .ref 207] := rfl
  have f0 : (#[.ref 207, .ref x, .ref 207] : Array Value)[0]? = some (.ref 207) := rfl
  have f1 : (#[.ref 207, .ref x, .ref 207] : Array Value)[1]? = some (.ref x) := rfl
  have f2 : (#[.ref 207, .ref x, .ref 207] : Array Value)[2]? = some (.ref 207) := rfl
  have hT : (⟨h, g, d, t, os⟩ : Shared).TypeIs (.builtin id) dt := hty
  have hl : (([.ref 207, .type "list", .type "object"] : List Value).dropWhile (· != .ref 207)).drop 1 = [.type "list", .type "object"] := by simp
  unfold Builtin.«super.__getattribute__»
  repeat (first
    | (with_reducible refine wpAny_field hso hdt f0 ?_) | (with_reducible refine wpAny_field hso hdt f1 ?_) | (with_reducible refine wpAny_field hso hdt f2 ?_)
    | (with_reducible refine ks_wpAny_notOpaque hoq ?_)
    | (with_reducible refine Looks.at hC ?_; rw [hl])
    | (refine ks_forIn_along X (fun _ _ => rfl) rfl ?_ hal)
    | (with_reducible refine wpAny_typeOf hT ?_)
    | (simp only [hno, hne, Bool.or_false, Bool.false_eq_true, if_false])
    | wp_step
    | dsimp only)
  refine hb _ fun h' b e e' => ?_
  subst e e'
  exact wpAny_bind (wpAny_pure (wpAny_pure (wpAny_pure hq)))

theorem sup_method {so : Addr} {name : Str} {id dt gid : String} {bo : Obj} {pl : Sem Bool} {Q : Value × List Value → Shared → Prop} (X : (hd.heap_1 w.params).In h) (hso : h.get? so = some (supObj x)) (hx : h.get? x = some (accO dx its n))
    (hal : alongIn (hd.heap_1 w.params) name [.type "list", .type "object"] = some (some (.builtin id))) (hty : typeOf (.builtin id) = pure (.type dt)) (hlk : typeLookup (.type dt) "__get__" = pure (some (.builtin gid)))
    (hno : (name == ("__class__" : Str)) = false)
    (hb : ∀ (A : Around) (t : Nat) (R : Result → Shared → Prop), (∀ h' b, b = h.objs.size → h' = h.push bo → R (.ok (.ret (.ref b))) ⟨h', g, d, t, os⟩) → codeAny (model PR w) A (.call (.builtin gid) ⟨[.builtin id, .ref x, .ref 207], []⟩) R ⟨h, g, d, t, os⟩)
    (hq : Q (.ref h.objs.size, []) ⟨h.push bo, g, d, t + 1, os⟩) : wpAny (model PR w) A (getMethod (.ref so) name pl) Q E ⟨h, g, d, t, os⟩ := by
  have hlk' := F.ks_slot_super_ga.lookup
  have hcan := F.ks_canon_super_ga
  have hT : ∀ t', (⟨h, g, d, t', os⟩ : Shared).TypeIs (.ref so) "super" := fun _ => ⟨_, hso, rfl⟩
  unfold getMethod
  refine wpAny_bind (wpAny_specialOf (hT _) hlk' ?_)
  show wpAny _ _ (if (Manifest.canonical "super.__getattribute__" != "object.__getattribute__") = true then _ else _) _ _ _
  rw [if_pos hcan]
  unfold getAttr getAttrBy
  refine wpAny_bind (wpAny_bind (wpAny_mkText (wpAny_holding (wpAny_bind (wpAny_typeOf (hT _) (wpAny_bind (wpAny_of_eq hlk' ?_)))))))
  show wpAny _ _ (getAttrByItsOwn (.ref so) (.str name t) (.type "super") (.builtin "super.__getattribute__") true false) _ _ _
  unfold getAttrByItsOwn hookBefore callGetattribute boundAndCalled
  refine wpAny_bind (wpAny_of_eq (show (if onTheHeap (.type "super") then typeLookup (.type "super") "__getattr__" else pure none) = pure none from rfl) ?_)
  refine wpAny_bind (wpAny_attempt (wpAny_holding ?_))
  show wpAny _ _ (bindSpecial (.builtin "super.__getattribute__") (.ref so) >>= _) _ _ _
  refine wpAny_bind (wpAny_of_eq (F.ks_slot_super_ga.bind _) ?_)
  refine wpAny_mono (Q := fun v s' => v = .ref h.objs.size ∧ s' = ⟨h.push bo, g, d, t + 1, os⟩) (E := fun _ _ => False)
    (wpAny_call_entry F.ks_slot_super_ga (hT _) F.ks_entry_super_ga (sup_ga X hso hx hal hty hlk hno (hb _ _) ⟨_, rfl, rfl, rfl⟩) (F.ks_gaArgs_super _ _)) (fun v s' hv => ?_) fun _ _ z => z.elim
  obtain ⟨rfl, rfl⟩ := hv
  exact wpAny_pure (wpAny_pure hq)

theorem call_wrap {q : Addr} {id : String} {b : Builtin} {Q : Value → Shared → Prop} (hq : h.get? q = some { cls := .type "method-wrapper", data := .fields #[.builtin id, .ref x] }) (hk : checkBoundCall id ⟨[.ref x], []⟩ = pure ()) (hp : plainId id = true) (he : entryFor table id = some b)
    (hb : wpAny (model PR w) A.in1 (b ⟨[.ref x], []⟩) (fun fin s' => ∃ v, fin = .done (.ret v) ∧ Q v s') E ⟨h, g, d, t, os⟩) : wpAny (model PR w) A (call (.ref q) []) Q E ⟨h, g, d, t, os⟩ := by
  refine wpAny_call (codeAny_of_tree ?_)
  show wpAny _ A.in1 (callAny (.ref q) _) _ _ _
  unfold callAny
  refine wpAny_bind (wpAny_load hq ?_)
  refine wpAny_bind (wpAny_of_eq hk ?_)
  refine wpAny_pure ⟨plainId_quiet hp _, codeAny_builtin he ?_⟩
  rw [Around.under_plainId hp _]
  refine wpAny_mono hb (fun fin s' h' => ?_) fun _ _ h' => h'
  obtain ⟨v, rfl, hv⟩ := h'; exact hv

theorem acc_qual (w : World) : ∃ cd : ClassData, clsIn (hd.heap_1 w.params) 207 = some cd ∧ cd.qualname.toString = "_Accumulator" := by
  have h : (clsIn (hd.heap_1 w.params) 207).any (fun cd : ClassData => cd.qualname.toString == "_Accumulator") = true := by kernel_rfl
  obtain ⟨cd, hc, ho'⟩ := any_some h
  exact ⟨cd, hc, by simpa using ho'⟩
theorem bound_pop {M : Model} {s : Shared} {Q : Unit → Shared → Prop} (X : (hd.heap_1 w.params).In s.heap) (ho : s.heap.get? x = some (accO dx its n)) (hq : Q () s) :
    wpAny M A (checkBoundCall "list.pop" ⟨[.ref x], []⟩) Q E s := by
  obtain ⟨cd, hc, hn⟩ := acc_qual w
  have hs : ∃ sig, Manifest.signature? "list.pop" = some sig ∧ Bind.checkArgs "list.pop" { sig with full := "_Accumulator.pop" } ⟨[.ref x], []⟩ = pure () := by
    refine ⟨_, rfl, ?_⟩
    kernel_rfl
  obtain ⟨sig, h1, h2⟩ := hs
  have hmod : Looks M s.heap (isInstance (.ref x) (.type "module")) false := (acc_type ho).andThen (looks_subIn X (t := .ref 207) (by kernel_rfl))
  have hk : builtinKind "list.pop" = some .method := by decide +kernel
  have hT : Looks M s.heap (typeOf (.ref 207)) (.type "type") := looks_typeIn X (by kernel_rfl)
  unfold checkBoundCall
  rw [h1, hk]
  dsimp only
  rw [if_neg (by decide)]
  refine wpAny_bind (hmod.here ?_)
  rw [if_neg (by decide +kernel)]
  refine wpAny_bind ?_
  unfold isType
  refine wpAny_bind (wpAny_load ho (wpAny_pure ?_))
  rw [if_neg (show ¬ (false = true) by decide)]
  refine wpAny_bind ((acc_type ho).here ?_)
  dsimp only
  refine wpAny_bind ((looks_clsIn X hc).here ?_)
  refine wpAny_bind (hT.here ?_)
  rw [if_pos (by decide), hn]
  exact wpAny_of_eq h2 hq
theorem call_bpop {q : Addr} {Q : Value → Shared → Prop} (X : (hd.heap_1 w.params).In h) (ho : h.get? x = some (accO dx its n)) (hq : h.get? q = some { cls := .type "builtin_function_or_method", data := .fields #[.builtin "list.pop", .ref x] })
    (hb : wpAny (model PR w) A.in1 (Builtin.«list.pop» ⟨[.ref x], []⟩) (fun fin s' => ∃ v, fin = .done (.ret v) ∧ Q v s') E ⟨h, g, d, t, os⟩) : wpAny (model PR w) A (call (.ref q) []) Q E ⟨h, g, d, t, os⟩ := by
  refine wpAny_call (codeAny_of_tree ?_)
  show wpAny _ A.in1 (callAny (.ref q) _) _ _ _
  unfold callAny
  refine wpAny_bind (wpAny_load hq ?_)
  refine wpAny_bind (bound_pop X ho ?_)
  have hp : plainId "list.pop" = true := by decide +kernel
  refine wpAny_pure ⟨plainId_quiet hp _, codeAny_builtin F.entry_list_pop ?_⟩
  rw [Around.under_plainId hp _]
  refine wpAny_mono hb (fun fin s' h' => ?_) fun _ _ h' => h'
  obtain ⟨v, rfl, hv⟩ := h'; exact hv
end
end Mine
end
section
open PySem PySem.W PySem.Calls PyProof.Rows PySem.Builtin
set_option Elab.async false
set_option maxRecDepth 100000
namespace Mine
theorem enterS {prog : Program} {w : World} {A₀ A : Around} {s : Shared} {base h₀ : Heap} {outer : List Env} {L : Addr} {m mg mb : Str → Option Value} {env : Env} {news : List (Addr × Obj)} {K : Frag} {p : Program} {loose : List Str} {mean : ExcName → Option Value}
  {R : Result → Shared → Prop} {name qual : Str} {params : Arguments} {body : List Stmt} {scope : Scope} {dV kV doc pm cdv ct oc : Value} {an od : Option Addr} {osl : Array (Option Value)} {f cc : Addr} {args : Args} {binds : List (Str × Value)}
    (B : Below A₀ base outer h₀) (F : Fr h₀ L s.heap m) (X₀ : K.In h₀) (N : News h₀ L s.heap news) (T : Top p loose mean mg mb h₀) (hA : A.frames = some (env :: outer)) (hf : env.frame = some L) (hke : env.scope.kind = .function)
    (ho : K.lookup f = some ⟨oc, od, .func (ksFn name qual params body scope dV kV doc pm an cdv ct cc), osl⟩) (hcd : codeIn K cdv qual = true) (hroom : A.depth < recursionLimit)
    (hbind : BindsTo s (ksFn name qual params body scope dV kV doc pm an cdv ct cc) args binds) (hloc : ∀ y ∈ binds, scope.names.lookup y.1 = some .local)
    (h : ∀ g L' h₁, Fr h₀ L g m → Fr g L' h₁ (fun y => binds.reverse.lookup y) → News g L' h₁ news → Below A base (env :: outer) g → K.In g → Top p loose mean mg mb g → (∀ p ∈ news, p.1 < L') → GSub s.heap g (news.map (·.1)) →
      _root_.PySem.wpAt (model prog w) (A.deeper (ksEnv qual scope L' f cdv cc)) (.func body (ksEnv qual scope L' f cdv cc)) (execs body (ksEnv qual scope L' f cdv cc))
        (fun fl s' => LeaveK h₀ L m g R (match fl with | .ret v => v | _ => .none) s')
        (fun e s' => wpAny (model prog w) (A.deeper (ksEnv qual scope L' f cdv cc)) (leaving (ksEnv qual scope L' f cdv cc) e) (fun _ s'' => R (.error e) s'') (fun e' s'' => R (.error e') s'') s')
        { s with heap := h₁, toks := s.toks + binds.length })
    (hcell : ∀ x ∈ scope.names, x.2 ≠ .cell) (hco : scope.isCoroutine = false) (hgen : scope.isGenerator = false) (hk : scope.kind = .function) : codeAny (model prog w) A (.call (.ref f) args) R s := by
  have gr := groundX (R := R) B F N hA hf hke
  refine ks_codeAny_call_defAt (fd := ksFn name qual params body scope dV kV doc pm an cdv ct cc) (body := body) (binds := binds) hroom ((X₀.keeps F.keep) _ _ ho) rfl (T.nolimit.keeps F.keep) (codeRec_of (X₀.keeps F.keep) hcd) rfl hbind hcell hloc (fun h₁ hns hk₁ => ?_) hco hgen hk
  refine ks_wpAt_mono (h _ s.heap.objs.size h₁ gr.1 ⟨hns, fun b o e => hk₁ b o (of_hideAll _ e), Nat.le_of_eq (hideAll_size _ _)⟩ (fun q hq => ⟨hk₁ _ _ (N q hq).1, Nat.ne_of_lt (Heap.lt_size (N q hq).1), hideAll_none _ (List.mem_map_of_mem hq)⟩)
    gr.2.1 (X₀.keeps gr.2.2.1) (T.keeps gr.2.2.1) (fun q hq => Heap.lt_size (N q hq).1) (fun b o e n => hideAll_get _ e n)) (fun fl s' hl => gr.2.2.2 _ _ hl) fun _ _ y => y

section
variable {w : World} {A : Around} {E : Value → Shared → Prop} {s : Shared} {x dx : Addr} {its : Array Value} {n : Nat}
theorem pop_body {ini : Array Value} {v : Value} {Q : Value → Shared → Prop} (ho : s.heap.get? x = some (accO dx (ini.push v) n))
    (h : ∀ h', Heap.SameBut x s.heap h' → h'.get? x = some (accO dx ini (n + 1)) → Q v { s with heap := h' }) (hsz : ini.size < 1000) :
    wpAny (model PR w) A (Builtin.«list.pop» ⟨[.ref x], []⟩) (fun fin s' => ∃ v, fin = .done (.ret v) ∧ Q v s') E s := by
  unfold Builtin.«list.pop»
  refine wpAny_bind (m := PySem.selfAndSome "list.pop" "pop" 0 1 ⟨[Value.ref x], []⟩) (wpAny_of_eq (a := (Value.ref x, [])) rfl ?_)
  refine wpAny_bind (wpAny_pure ?_)
  dsimp only
  rw [if_neg (by decide)]
  refine wpAny_bind (m := Builtin.List.listItems (.ref x)) ?_
  unfold Builtin.List.listItems
  refine wpAny_bind (wpAny_seqItems ho rfl (wpAny_pure ?_))
  rw [if_neg (by simp)]
  have e1 : (PySem.seqIndex? (-1) (ini.push v).size) = some ini.size := by
    unfold PySem.seqIndex?
    simp
    omega
  rw [e1]
  simp only [Option.bind_some, Array.getElem?_push_size, Option.map_some]
  refine wpAny_bind ?_
  show wpAny _ _ (updateSeq x (·.eraseIdxIfInBounds ini.size)) _ _ s
  refine wpAny_updateSeq ho rfl (wpAny_pure ⟨v, rfl, h _ (Heap.SameBut.update ..) ?_⟩) (by rw [PySem.sizeLine_eq]; simp; omega) (by rw [erase_push, PySem.sizeLine_eq]; omega)
  rw [Heap.get?_update_self _ ho rfl]
  simp [Obj.mapSeq, erase_push]
theorem len_body {Q : Value → Shared → Prop} (ho : s.heap.get? x = some (accO dx its n)) (h : ∀ t k, Q (.int its.size t) { s with toks := k }) :
    wpAny (model PR w) A (Builtin.«list.__len__» ⟨[.ref x], []⟩) (fun fin s' => ∃ v, fin = .done (.ret v) ∧ Q v s') E s := by
  unfold Builtin.«list.__len__»
  show wpAny _ _ (seqSize x >>= fun k => retInt k) _ _ s
  refine wpAny_bind ?_
  unfold seqSize
  refine wpAny_bind (wpAny_loadPart ho (wpAny_pure ?_))
  refine wpAny_bind (wpAny_mkInt ?_)
  exact wpAny_pure ⟨_, rfl, h _ _⟩
theorem init_body {Q : Value → Shared → Prop} (ho : s.heap.get? x = some (accO dx #[] n)) (h : ∀ h', Heap.SameBut x s.heap h' → h'.get? x = some (accO dx #[] n) → Q .none { s with heap := h' }) :
    wpAny (model PR w) A (Builtin.«list.__init__» ⟨[.ref x], []⟩) (fun fin s' => ∃ v, fin = .done (.ret v) ∧ Q v s') E s := by
  unfold Builtin.«list.__init__»
  refine wpAny_bind (m := Builtin.List.listItems (.ref x)) ?_
  unfold Builtin.List.listItems
  refine wpAny_bind (wpAny_seqItems ho rfl (wpAny_pure ?_))
  refine wpAny_bind ?_
  show wpAny _ _ (updateSeq x (fun _ => #[])) _ _ s
  refine wpAny_updateSeq ho rfl (wpAny_bind (wpAny_letGo (wpAny_pure ⟨.none, rfl, h _ (Heap.SameBut.update ..) ?_⟩))) (by decide) (by decide)
  rw [Heap.get?_update_self _ ho rfl]
  simp [Obj.mapSeq]
end

section
variable {w : World} {A : Around} {E : Value → Shared → Prop} {s : Shared} {x dx so q L : Addr} {h₀ : Heap} {m : Str → Option Value} {its : Array Value} {n k : Nat} {news news' : List (Addr × Obj)}

noncomputable abbrev wrapO (id : String) (x : Addr) : Obj := { cls := .type "method-wrapper", data := .fields #[.builtin id, .ref x] }
noncomputable abbrev bfmO (id : String) (x : Addr) : Obj := { cls := .type "builtin_function_or_method", data := .fields #[.builtin id, .ref x] }

theorem ks_pushed {o : Obj} (F : Fr h₀ L s.heap m) (N : News h₀ L s.heap news) (ho : o.isFreed = false) : Fr h₀ L (s.heap.push o) m ∧ News h₀ L (s.heap.push o) ((s.heap.objs.size, o) :: news) ∧ ∀ p ∈ news, p.1 < s.heap.objs.size :=
  ks_newsPush F N rfl (Heap.get?_push_size _ ho) fun _ _ e => Heap.get?_push_of_some _ e

theorem ka_sup_len {pl : Sem Bool} {Q : Value × List Value → Shared → Prop} (F : Fr h₀ L s.heap m) (X₀ : (hd.heap_1 w.params).In h₀) (N : News h₀ L s.heap news) (hso : (so, supObj x) ∈ news) (hx : (x, accO dx its n) ∈ news)
    (h : ∀ q h', Fr h₀ L h' m → News h₀ L h' ((q, wrapO "list.__len__" x) :: news) → (∀ p ∈ news, p.1 < q) → Q (.ref q, []) { s with heap := h', toks := s.toks + 1 }) : wpAny (model PR w) A (getMethod (.ref so) (Str.ofString "__len__") pl) Q E s := by
  obtain ⟨hh, g, d, t, os⟩ := s
  obtain ⟨F', N', l'⟩ := ks_pushed (o := wrapO "list.__len__" x) F N rfl
  exact sup_method (X₀.keeps F.keep) (N _ hso).1 (N _ hx).1 (id := "list.__len__") (dt := "wrapper_descriptor") (gid := "wrapper_descriptor.__get__") (bo := wrapO "list.__len__" x) (by kernel_rfl) (by kernel_rfl) slot_wd_get.lookup (by decide +kernel)
    (fun A t R hR => bind_len (X₀.keeps F.keep) (N _ hx).1 (hR _ _ rfl rfl)) (h _ _ F' N' l')
theorem ka_sup_init {pl : Sem Bool} {Q : Value × List Value → Shared → Prop} (F : Fr h₀ L s.heap m) (X₀ : (hd.heap_1 w.params).In h₀) (N : News h₀ L s.heap news) (hso : (so, supObj x) ∈ news) (hx : (x, accO dx its n) ∈ news)
    (h : ∀ q h', Fr h₀ L h' m → News h₀ L h' ((q, wrapO "list.__init__" x) :: news) → (∀ p ∈ news, p.1 < q) → Q (.ref q, []) { s with heap := h', toks := s.toks + 1 }) : wpAny (model PR w) A (getMethod (.ref so) (Str.ofString "__init__") pl) Q E s := by
  obtain ⟨hh, g, d, t, os⟩ := s
  obtain ⟨F', N', l'⟩ := ks_pushed (o := wrapO "list.__init__" x) F N rfl
  exact sup_method (X₀.keeps F.keep) (N _ hso).1 (N _ hx).1 (id := "list.__init__") (dt := "wrapper_descriptor") (gid := "wrapper_descriptor.__get__") (bo := wrapO "list.__init__" x) (by kernel_rfl) (by kernel_rfl) slot_wd_get.lookup (by decide +kernel)
    (fun A t R hR => bind_init (X₀.keeps F.keep) (N _ hx).1 (hR _ _ rfl rfl)) (h _ _ F' N' l')
theorem ka_sup_pop {pl : Sem Bool} {Q : Value × List Value → Shared → Prop} (F : Fr h₀ L s.heap m) (X₀ : (hd.heap_1 w.params).In h₀) (N : News h₀ L s.heap news) (hso : (so, supObj x) ∈ news) (hx : (x, accO dx its n) ∈ news)
    (h : ∀ q h', Fr h₀ L h' m → News h₀ L h' ((q, bfmO "list.pop" x) :: news) → (∀ p ∈ news, p.1 < q) → Q (.ref q, []) { s with heap := h', toks := s.toks + 1 }) : wpAny (model PR w) A (getMethod (.ref so) (Str.ofString "pop") pl) Q E s := by
  obtain ⟨hh, g, d, t, os⟩ := s
  obtain ⟨F', N', l'⟩ := ks_pushed (o := bfmO "list.pop" x) F N rfl
  exact sup_method (X₀.keeps F.keep) (N _ hso).1 (N _ hx).1 (id := "list.pop") (dt := "method_descriptor") (gid := "method_descriptor.__get__") (bo := bfmO "list.pop" x) (by kernel_rfl) (by kernel_rfl) slot_md_get.lookup (by decide +kernel)
    (fun A t R hR => bind_pop (X₀.keeps F.keep) (N _ hx).1 (hR _ _ rfl rfl)) (h _ _ F' N' l')

theorem ka_call_len {Q : Value → Shared → Prop} (N : News h₀ L s.heap news) (hq : (q, wrapO "list.__len__" x) ∈ news) (hx : (x, accO dx its n) ∈ news) (h : ∀ t k, Q (.int its.size t) { s with toks := k }) :
    wpAny (model PR w) A (call (.ref q) []) Q E s := by
  obtain ⟨hh, g, d, t, os⟩ := s
  exact call_wrap (N _ hq).1 (by kernel_rfl) (by decide +kernel) PySem.F.entry_list_len (len_body (N _ hx).1 h)
theorem ka_call_init {Q : Value → Shared → Prop} (F : Fr h₀ L s.heap m) (N : News h₀ L s.heap news) (hq : (q, wrapO "list.__init__" x) ∈ news) (U : Upd x (accO dx #[] n) (accO dx #[] n) news news')
    (h : ∀ h', Fr h₀ L h' m → News h₀ L h' news' → Q .none { s with heap := h' }) : wpAny (model PR w) A (call (.ref q) []) Q E s := by
  obtain ⟨hh, g, d, t, os⟩ := s
  exact call_wrap (N _ hq).1 (by kernel_rfl) (by decide +kernel) PySem.F.entry_list_init (init_body (upd_at N U).1 fun h' hs hg => h h' (upd_fr F N U (keptBut_same hs)) (upd_news N U (keptBut_same hs) hg))
theorem ka_call_pop {ini : Array Value} {v : Value} {Q : Value → Shared → Prop} (F : Fr h₀ L s.heap m) (X₀ : (hd.heap_1 w.params).In h₀) (N : News h₀ L s.heap news) (hq : (q, bfmO "list.pop" x) ∈ news) (U : Upd x (accO dx (ini.push v) n) (accO dx ini (n + 1)) news news') (hsz : ini.size < 1000)
    (h : ∀ h', Fr h₀ L h' m → News h₀ L h' news' → Q v { s with heap := h' }) : wpAny (model PR w) A (call (.ref q) []) Q E s := by
  obtain ⟨hh, g, d, t, os⟩ := s
  exact call_bpop (X₀.keeps F.keep) (upd_at N U).1 (N _ hq).1 (pop_body (upd_at N U).1 (fun h' hs hg => h h' (upd_fr F N U (keptBut_same hs)) (upd_news N U (keptBut_same hs) hg)) hsz)

theorem ka_callWith0 {M : Model} {env : Env} {pos : Pos} {first : List Value} {o : Obj} {vs : Array Value} {Q : Value → Shared → Prop} (N : News h₀ L s.heap news) (hq : (q, o) ∈ news) (hd : o.data = .fields vs) (hc : (o.cls != .type "method") = true) (hc2 : (o.cls == .type "builtin_function_or_method" || o.cls == .type "method-wrapper") = true)
    (h : wpAny M A (call (.ref q) (first ++ [])) Q E s) : wpAny M A (callWith pos (.ref q) first (backTo pos (starEach [] env)) []) Q E s := by
  refine callWith_of (P := fun h => h.get? q = some o) rfl (fun h e => ⟨.machine, .inr (.inl rfl), ?_⟩) (evalArgs_nil3 ⟨(N _ hq).1, h⟩)
  refine (Looks.ld (part := none) e).andThen (f := fun o : Obj => _) ?_
  rw [hd, hc, hc2]
  exact .now
end
end Mine
end
section
open PySem PySem.W PySem.Builtin PyProof.Rows
set_option Elab.async false
set_option maxRecDepth 100000
set_option maxHeartbeats 8000000
set_option pp.deepTerms false
set_option pp.deepTerms.threshold 6
set_option pp.maxSteps 3000
set_option pp.proofs false
namespace Mine


theorem rows_AM2_1 : True := by
  k_with_none
  w_top off
  k_with "pj" => (first | assumption | exact pj1 (by assumption) | exact pj2 (by assumption) | exact pj3 (by assumption) | exact pj4 (by assumption) | exact pj5 (by assumption) | exact pj6 (by assumption) | exact pl2 (by assumption) | exact pl3 (by assumption) | exact pl4 (by assumption) | exact pl5 (by assumption) | exact pl6 (by assumption) | exact pl7 (by assumption))
  k_with "k_ne" => (refine neN ?_; (try dsimp only); (first | exact ne_u1 | exact ne_d1 | exact ne_u2 | exact ne_d2 | exact ne_u3 | exact ne_d3 | exact ne_l0 (by walk_at "pj") | exact ne_l1 (by walk_at "pj") | exact ne_l2 (by walk_at "pj") | exact ne_l3 (by walk_at "pj") | exact ne_g0 (by walk_at "pj") | exact ne_g1 (by walk_at "pj") | exact ne_g2 (by walk_at "pj") | exact ne_g3 (by walk_at "pj") | walk_at "pj" | exact Ne.symm (by walk_at "pj") | omega))
  k_with "mine enter" => (k_dflt (refine' code_defG ?k1 ?k2 ?k3 ?k4 ?k5 ?kA ?kF ?kK ?k6 ?k7 ?k8 ?k9 ?kB ?_ ?c2 ?c3 ?c4 ?c5; (case kA => exact rfl); (case kF => exact rfl); (case kK => assumption); (case k1 => k_asm); (case k2 => k_asm); (case k3 => k_asm); (case k4 => k_asm); (case k5 => k_asm); (case k6 => k_is); (case k7 => k_is); (case k8 => first | exact room0 (by assumption) | ktr_room); (case k9 => exact BindsTo.of_eq rfl); (case c5 => decide); (case kB => exact locs rfl); (case c2 => exact rfl); (case c3 => exact rfl); (case c4 => exact rfl); k_whole; intro _ _ _ _ _ _ B' _ _ _; (try dsimp only); (try k_lift B'); (try k_fold)))
  k_with "getMethod ref" => (k_here; k_dflt (refine' ka_method ?k1 ?k2 ?k3 ?k4 ?k5 ?k6 ?k7 ?k8 ?_; (case k1 => k_asm); (case k2 => k_asm); (case k3 => k_asm); (case k4 => k_mem); (case k5 => k_mem); (case k6 => k_is); (case k7 => kernel_rfl); (case k8 => exact rfl); k_whole))
  k_with "call builtin:list.append" => (k_here; k_dflt (refine' ka_append ?k1 ?k2 ?k3 ?k4 ?k5 ?_; (case k1 => k_asm); (case k2 => k_asm); (case k3 => k_asm); (case k4 => k_upd); (case k5 => assumption); k_whole; intro _ _ _; (try k_sweep)))
  k_with "mine enterS" => (k_dflt (refine' enterS ?k1 ?k2 ?k3 ?k4 ?k5 ?kA ?kF ?kK ?k6 ?k7 ?k8 ?k9 ?kB ?_ ?c1 ?c2 ?c3 ?c4; (case kA => exact rfl); (case kF => exact rfl); (case kK => assumption); (case k1 => k_asm); (case k2 => k_asm); (case k3 => k_asm); (case k4 => k_asm); (case k5 => k_asm); (case k6 => k_is); (case k7 => k_is); (case k8 => first | exact room0 (by assumption) | ktr_room); (case k9 => exact BindsTo.of_eq rfl); (case kB => exact locs rfl); (case c1 => decide); (case c2 => exact rfl); (case c3 => exact rfl); (case c4 => exact rfl); k_whole; intro _ _ _ _ _ _ B' _ _ l1 _; (try k_lt l1); (try dsimp only); (try k_lift B'); (try k_fold)))
  k_with "getMethod ref" => (k_here; (with_reducible show wpAny _ _ (getMethod (Value.ref _) (PySem.Str.ofString "__len__") _) _ _ _); k_dflt (refine' ka_sup_len ?k1 ?k2 ?k3 ?k4 ?k5 ?_; (case k1 => k_asm); (case k2 => k_asm); (case k3 => k_asm); (case k4 => k_mem); (case k5 => k_mem); k_whole; intro _ _ _ _ l1; (try k_lt l1)))
  k_with "getMethod ref" => (k_here; (with_reducible show wpAny _ _ (getMethod (Value.ref _) (PySem.Str.ofString "__init__") _) _ _ _); k_dflt (refine' ka_sup_init ?k1 ?k2 ?k3 ?k4 ?k5 ?_; (case k1 => k_asm); (case k2 => k_asm); (case k3 => k_asm); (case k4 => k_mem); (case k5 => k_mem); k_whole; intro _ _ _ _ l1; (try k_lt l1)))
  k_with "getMethod ref" => (k_here; (with_reducible show wpAny _ _ (getMethod (Value.ref _) (PySem.Str.ofString "pop") _) _ _ _); k_dflt (refine' ka_sup_pop ?k1 ?k2 ?k3 ?k4 ?k5 ?_; (case k1 => k_asm); (case k2 => k_asm); (case k3 => k_asm); (case k4 => k_mem); (case k5 => k_mem); k_whole; intro _ _ _ _ l1; (try k_lt l1)))
  k_with "call ref" => (k_here; k_dflt (refine' ka_call_len ?k1 ?k2 ?k3 ?_; (case k1 => k_asm); (case k2 => k_mem); (case k3 => k_mem); k_whole; intro _ _))
  k_with "call ref" => (k_here; k_dflt (refine' ka_call_init ?k1 ?k2 ?k3 ?k4 ?_; (case k1 => k_asm); (case k2 => k_asm); (case k3 => k_mem); (case k4 => k_upd); k_whole; intro _ _ _; (try k_sweep)))
  k_with "call ref" => (k_here; k_dflt (refine' ka_call_pop ?k1 ?k2 ?k3 ?k4 ?k5 ?k6 ?_; (case k1 => k_asm); (case k2 => k_asm); (case k3 => k_asm); (case k4 => k_mem); (case k5 => k_upd); (case k6 => assumption); k_whole; intro _ _ _; (try k_sweep)))
  k_with "callWith ref" => (k_here; k_dflt (refine' ka_callWith0 ?k1 ?k2 ?k3 ?k4 ?k5 ?_; (case k1 => k_asm); (case k2 => k_mem); (case k3 => exact rfl); (case k4 => exact rfl); (case k5 => exact rfl); k_whole; try dsimp only [List.nil_append, List.cons_append]))
  k_with "wpAt" => (dsimp only)
  k_with "wpAt" => (ks_step "execs cons"; refine ks_wpAt_execs_cons ?_)
  k_with "wpAt" => (ks_step "exec Expr"; k_dflt (refine ks_wpAt_Expr_any ?_))
  k_with "wpAt" => (ks_step "exec Return"; refine ks_wpAt_Return_some ?_)
  k_with "wpAt" => (ks_step "exec If"; k_dflt (refine ks_wpAt_If ?_))
  k_with "wpAt" => (ks_step "eval Call"; k_dflt (refine ks_wpAt_MethodCall ?_))
  k_with "wpAt" => (ks_step "attributeBase Call"; k_here; k_dflt (refine ks_node (by k_asm) (by k_asm) (by k_asm) (by k_asm) (by k_is) (by rfl) (by rfl) (acc_inst (news_at (by k_asm) (by k_mem)) (news_at (by k_asm) (by k_mem))) (by k_is) (by rfl) (by first | rfl | decide +kernel) (by k_is) (by k_is) (by k_is) (by k_is) (by decide) (by rfl) (by rfl) (by rfl) (by rfl) (by decide +kernel) (by first | boot_by_name | rfl | kernel_rfl) ?_; intro _ _ _ _ l1; (try k_lt l1)))
  k_with "mine out" => (first | exact so_nil | (refine so_fp ?za ?zb; (case za => k_mem); (case zb => walk_at "mine out")) | (refine so_in ?za ?zb; (case za => k_mem); (case zb => walk_at "mine out")))
  k_with "execs cons" => ((with_reducible refine wpAny_execs_cons ?_); (try dsimp only); (try (refine tk_any ?_; intro _)); (try k_fold))
  trivial
theorem count_cl (w : World) (mean : ExcName → Option Value) (mg mb : Str → Option Value) (x dx : Addr) (its : Array Value) (n k : Nat) (kt : Tok) (iv : Value) :
  ROM w mean mg mb 204 [] (fun _ => True) [(x, accO dx its n), (dx, iniO w kt iv k)] [.ref x] (fun _ v _ => ∃ t, v = .int its.size t) 6 60 := by
  delta ROM PR; k_fill
  intro dp un gd cn cs a ccd cl outer A₀ base h₀ L m s Q E B F KX N T hk HP hdp hun hret
  have hne : @Ne Nat x dx := news_neB N (by k_mem) (by k_mem) rfl
  have hne' : @Ne Nat dx x := hne.symm
  w_strict (refine wpAny_call ?_; walk_at "mine enterS"; k_steps)
  exact hret _ _ _ ⟨_, rfl⟩ (by assumption) (kept_mut [] N (by assumption) (Fr.keep (by assumption)) (sub_out (by assumption) (by walk_at "mine out")))


theorem rows_AM2_2 : True := by
  k_with "call ref" => (k_here; k_dflt (show wpAny _ _ (call (Value.ref 204) [Value.ref _]) _ _ _); (rename News _ _ _ _ => nN); k_dflt (refine' ROM.use (count_cl _ _ _ _ _ _ _ _ _ _ _) ?fB ?fF ?fX nN ?fS ?fT ?fk ?fP ?fd ?fu ?_; (case fB => k_asm); (case fF => k_asm); (case fX => k_asm); (case fT => k_asm); (case fk => exact rfl); (case fP => trivial); (case fd => first | exact room_le (by assumption) rfl | ktr_room); (case fu => first | exact room_le (by assumption) rfl | ktr_units); (case fS => exact List.forall_mem_cons.mpr ⟨by k_mem, List.forall_mem_cons.mpr ⟨by k_mem, List.forall_mem_nil _⟩⟩); k_whole); intro _ _ _ hR9 _ K9; (obtain ⟨t9, e9⟩ := hR9); subst e9; (have N9 := kept_news nN K9); clear K9; (try dsimp only); (try k_fold))
  trivial
theorem pop_cl (w : World) (mean : ExcName → Option Value) (mg mb : Str → Option Value) (x dx : Addr) (its : Array Value) (v : Value) (n k : Nat) (kt : Tok) (iv : Value) (hsz : its.size < 1000) :
  ROM w mean mg mb 167 [x] (fun _ => True) [(x, accO dx (its.push v) n), (dx, iniO w kt iv k)] [.ref x] (fun _ r h' => r = v ∧ h'.get? x = some (accO dx its (n + 1))) 12 120 := by
  delta ROM PR; k_fill
  intro dp un gd cn cs a ccd cl outer A₀ base h₀ L m s Q E B F KX N T hk HP hdp hun hret
  have hne : @Ne Nat x dx := news_neB N (by k_mem) (by k_mem) rfl
  have hne' : @Ne Nat dx x := hne.symm
  w_strict (refine wpAny_call ?_; walk_at "mine enterS"; k_steps)
  rotate_left
  · exact hret _ _ _ ⟨rfl, news_at (by assumption) (by k_mem)⟩ (by assumption) (kept_mut [x] N (by assumption) (Fr.keep (by assumption)) (sub_out (by assumption) (by walk_at "mine out")))
  · rename ((_ : Nat) : Int) = 0 => he
    simp at he
    omega
end Mine
end
section
open PySem PySem.W PySem.Calls PyProof.Rows PySem.Builtin
set_option Elab.async false
set_option maxRecDepth 100000
namespace Mine
noncomputable abbrev lstO (its : Array Value) (k : Nat) : Obj := { cls := .type "list", data := .seq its k }
section
variable {w : World} {A : Around} {E : Value → Shared → Prop} {s : Shared} {x dx l L : Addr} {h₀ : Heap} {m : Str → Option Value} {its new res : Array Value} {n k : Nat} {news : List (Addr × Obj)} {news' : Nat → List (Addr × Obj)}

theorem ka_setSlice {vl : Value} {lo : Option Int} {Q : Unit → Shared → Prop} (F : Fr h₀ L s.heap m) (X₀ : (hd.heap_1 w.params).In h₀) (N : News h₀ L s.heap news) (hl : (l, lstO new k) ∈ news) (hxl : @Ne Nat x l) (pl : IsPart vl lo)
    (hres : its.extract 0 (sliceBounds lo none none its.size).1.toNat ++ new ++ its.extract (max (sliceBounds lo none none its.size).1 (sliceBounds lo none none its.size).2.1).toNat its.size = res)
    (U : ∀ n', Upd x (accO dx its n) (accO dx res n') news (news' n')) (hsz : its.size ≤ 1000) (hsn : new.size ≤ 1000)
    (h : ∀ n' h', Fr h₀ L h' m → News h₀ L h' (news' n') → Q () { s with heap := h' }) :
    wpAny (model PR w) A (setItem (.ref x) (.ref s.heap.objs.size) (.ref l)) Q E { s with heap := s.heap.push { cls := .type "slice", data := .fields #[vl, .none, .none] } } := by
  obtain ⟨F', N', l'⟩ := ks_pushed (o := { cls := .type "slice", data := .fields #[vl, .none, .none] }) F N rfl
  have N'' : News h₀ L (s.heap.push { cls := .type "slice", data := .fields #[vl, .none, .none] }) news := fun p hp => N' p (List.mem_cons_of_mem _ hp)
  have hx := (upd_at N'' (U 0)).1
  refine acc_setSlice (s := { s with heap := s.heap.push { cls := .type "slice", data := .fields #[vl, .none, .none] } }) (X₀.keeps F'.keep) hx (Heap.IsSliceOf.new ..) pl ⟨_, (N'' _ hl).1, rfl, _, rfl⟩ hxl hsz hsn ?_
  intro h' n' hs hg
  rw [hres] at hg
  exact h n' h' (upd_fr F' N'' (U n') (keptBut_same hs)) (upd_news N'' (U n') (keptBut_same hs) hg)

theorem set_all (its new : Array Value) : its.extract 0 (sliceBounds none none none its.size).1.toNat ++ new ++ its.extract (max (sliceBounds none none none its.size).1 (sliceBounds none none none its.size).2.1).toNat its.size = new := by
  simp [sliceBounds]
theorem size_app (pre post : Array Value) : (pre.size : Int) ≤ ((pre ++ post).size : Int) := by rw [Array.size_append]; exact Int.ofNat_le.mpr (Nat.le_add_right _ _)
theorem bounds_tail (pre post : Array Value) : (sliceBounds (some (pre.size : Int)) none none (pre ++ post).size).1 = (pre.size : Int) := by
  simp only [sliceBounds, Option.getD_none]
  rw [if_pos (by decide), if_neg (Int.not_lt.mpr (Int.natCast_nonneg _))]
  have := size_app pre post
  simp only [Int.max_def, Int.min_def, Int.reduceLT, Int.reduceLE, Option.getD_some]
  omega
theorem set_tail (pre post : Array Value) : (pre ++ post).extract 0 (sliceBounds (some (pre.size : Int)) none none (pre ++ post).size).1.toNat ++ #[] ++ (pre ++ post).extract (max (sliceBounds (some (pre.size : Int)) none none (pre ++ post).size).1 (sliceBounds (some (pre.size : Int)) none none (pre ++ post).size).2.1).toNat (pre ++ post).size = pre := by
  have e1 := bounds_tail pre post
  have e2 : (sliceBounds (some (pre.size : Int)) none none (pre ++ post).size).2.1 = ((pre ++ post).size : Int) := by
    simp [sliceBounds]
  rw [e1, e2]
  rw [Int.max_eq_right (size_app pre post)]
  simp
  omega
theorem pick_tail (pre post : Array Value) : slicePick (pre ++ post) (some (pre.size : Int)) none none = post := by
  unfold slicePick
  have e1 := bounds_tail pre post
  have e2 : (sliceBounds (some (pre.size : Int)) none none (pre ++ post).size).2.1 = ((pre ++ post).size : Int) := by
    simp [sliceBounds]
  have e3 : (sliceBounds (some (pre.size : Int)) none none (pre ++ post).size).2.2 = 1 := by simp [sliceBounds]
  rw [e1, e2, e3, sliceRange_one, pick_run]
  simp
  rw [List.take_of_length_le (by simp)]

theorem ka_getSlice {vl vu vs : Value} {lo hi st : Option Int} {Q : Value → Shared → Prop} (F : Fr h₀ L s.heap m) (X₀ : (hd.heap_1 w.params).In h₀) (N : News h₀ L s.heap news) (hx : (x, accO dx its n) ∈ news) (pl : IsPart vl lo) (pu : IsPart vu hi) (ps : IsPart vs st) (h0 : st ≠ some 0) (hsz : its.size ≤ 1000)
    (h : ∀ r h', Fr h₀ L h' m → News h₀ L h' ((r, lstO (slicePick its lo hi st) 0) :: news) → (∀ p ∈ news, p.1 < r) → Q (.ref r) { s with heap := h' }) :
    wpAny (model PR w) A (getItem (.ref x) (.ref s.heap.objs.size)) Q E { s with heap := s.heap.push { cls := .type "slice", data := .fields #[vl, vu, vs] } } := by
  obtain ⟨F', N', l'⟩ := ks_pushed (o := { cls := .type "slice", data := .fields #[vl, vu, vs] }) F N rfl
  have N'' : News h₀ L (s.heap.push { cls := .type "slice", data := .fields #[vl, vu, vs] }) news := fun p hp => N' p (List.mem_cons_of_mem _ hp)
  refine acc_getSlice (s := { s with heap := s.heap.push { cls := .type "slice", data := .fields #[vl, vu, vs] } }) (X₀.keeps F'.keep) (N'' _ hx).1 (Heap.IsSliceOf.new ..) pl pu ps h0 (by rw [PySem.sizeLine_eq]; omega) ?_
  obtain ⟨F3, N3, l3⟩ := ks_pushed (s := { s with heap := s.heap.push { cls := .type "slice", data := .fields #[vl, vu, vs] } }) (o := lstO (slicePick its lo hi st) 0) F' N'' rfl
  exact h _ _ F3 N3 l3

theorem ka_setIS {kt : Tok} {iv v : Value} {ne' : List (Addr × Obj)} {k : Nat} {Q : Unit → Shared → Prop} (F : Fr h₀ L s.heap m) (X₀ : (hd.heap_1 w.params).In h₀) (N : News h₀ L s.heap news) (hx : (x, accO dx its n) ∈ news) (U : Upd dx (iniO w kt iv k) (iniO w kt v k) news ne')
    (h : ∀ h', Fr h₀ L h' m → News h₀ L h' ne' → Q () { s with heap := h', toks := s.toks + 2 }) : wpAny (model PR w) A (setAttr (.ref x) isz v) Q E s :=
  ka_set F X₀ N hx (by kernel_rfl) rfl rfl U (by show (1 : Nat) ≤ 1000; decide) h
theorem ka_getIS {kt : Tok} {v : Value} {k : Nat} {expr : Bool} {Q : Value → Shared → Prop} (F : Fr h₀ L s.heap m) (X₀ : (hd.heap_1 w.params).In h₀) (N : News h₀ L s.heap news) (hx : (x, accO dx its n) ∈ news) (hdx : (dx, iniO w kt v k) ∈ news) (hh : handedIn v = true)
    (h : Q v { s with toks := s.toks + 1 }) : wpAny (model PR w) A (getAttr (.ref x) isz expr) Q E s :=
  ka_get F X₀ N hx hdx (by kernel_rfl) hh h

theorem acc_tail {value slice : Expr} {i : Value} {ops : List Value} {Q : Value → Shared → Prop} (X : (hd.heap_1 w.params).In s.heap) (ho : s.heap.get? x = some (accO dx its n)) (h : wpAny (model PR w) A (getItem (.ref x) i) Q E s)
    (hs : subscripted slice false (.ref x) i = operate ops (getItem (.ref x) i)) (ht : ∀ r, letTemporaryGo value (.ref x) r = pure ()) : wpAny (model PR w) A (subscriptTail value slice (.ref x) i) Q E s := by
  have hf : findIn (hd.heap_1 w.params) (.ref 207) "__getitem__" = some (some (.builtin "list.__getitem__")) := by kernel_rfl
  unfold subscriptTail
  refine wpAny_bind ?_
  rw [getitemInPython_of_ne (by simp)]
  unfold specialOf
  refine wpAny_bind (wpAny_bind ((acc_type ho).here ((looks_findIn X hf).here ?_)))
  have fin : wpAny (model PR w) A (subscripted slice false (.ref x) i) (fun r s₃ => wpAny (model PR w) A (letTemporaryGo value (.ref x) r >>= fun _ => pure r) Q E s₃) E s := by
    rw [hs]
    exact wpAny_operating (wpAny_mono h (fun r s₃ h₃ => wpAny_bind (wpAny_of_eq (ht r) (wpAny_pure h₃))) fun _ _ x => x)
  first
    | exact wpAny_pure (wpAny_bind fin)
    | exact wpAny_bind (wpAny_pure (wpAny_bind fin))
    | exact wpAny_bind fin

theorem ka_tailSlice {value slice : Expr} {vl vu vs : Value} {lo hi st : Option Int} {Q : Value → Shared → Prop} (F : Fr h₀ L s.heap m) (X₀ : (hd.heap_1 w.params).In h₀) (N : News h₀ L s.heap news) (hx : (x, accO dx its n) ∈ news) (pl : IsPart vl lo) (pu : IsPart vu hi) (ps : IsPart vs st) (h0 : st ≠ some 0) (hsz : its.size ≤ 1000) (hres : slicePick its lo hi st = res)
    (h : ∀ r h', Fr h₀ L h' m → News h₀ L h' ((r, lstO res 0) :: news) → (∀ p ∈ news, p.1 < r) → Q (.ref r) { s with heap := h' })
    (hs : subscripted slice false (.ref x) (.ref s.heap.objs.size) = operate [.ref s.heap.objs.size, .ref x] (getItem (.ref x) (.ref s.heap.objs.size))) (ht : ∀ r, letTemporaryGo value (.ref x) r = pure ()) :
    wpAny (model PR w) A (subscriptTail value slice (.ref x) (.ref s.heap.objs.size)) Q E { s with heap := s.heap.push { cls := .type "slice", data := .fields #[vl, vu, vs] } } := by
  obtain ⟨F', N', l'⟩ := ks_pushed (o := { cls := .type "slice", data := .fields #[vl, vu, vs] }) F N rfl
  subst hres
  exact acc_tail (s := { s with heap := s.heap.push { cls := .type "slice", data := .fields #[vl, vu, vs] } }) (X₀.keeps F'.keep) (N' _ (List.mem_cons_of_mem _ hx)).1 (ka_getSlice F X₀ N hx pl pu ps h0 hsz h) hs ht
theorem ka_tailInt {value slice : Expr} {i : Int} {t : Tok} {y : Value} {Q : Value → Shared → Prop} (F : Fr h₀ L s.heap m) (X₀ : (hd.heap_1 w.params).In h₀) (N : News h₀ L s.heap news) (hx : (x, accO dx its n) ∈ news) (h0 : 0 ≤ i) (hi : i < 2 ^ 63) (hy : its[i.toNat]? = some y) (h : Q y s)
    (hs : subscripted slice false (.ref x) (.int i t) = operate [.ref x, .int i t] (getItem (.ref x) (.int i t))) (ht : ∀ r, letTemporaryGo value (.ref x) r = pure ()) :
    wpAny (model PR w) A (subscriptTail value slice (.ref x) (.int i t)) Q E s :=
  acc_tail (X₀.keeps F.keep) (N _ hx).1 (acc_getInt (X₀.keeps F.keep) (N _ hx).1 h0 hi hy h) hs ht
end
end Mine
end
section
open PySem PySem.W PySem.Builtin PyProof.Rows
set_option Elab.async false
set_option maxRecDepth 100000
set_option maxHeartbeats 8000000
set_option pp.deepTerms false
set_option pp.deepTerms.threshold 6
set_option pp.maxSteps 3000
set_option pp.proofs false
namespace Mine



theorem rows_AM3_1 : True := by
  k_with_none
  w_top off
  k_with "pj" => (first | assumption | exact pj1 (by assumption) | exact pj2 (by assumption) | exact pj3 (by assumption) | exact pj4 (by assumption) | exact pj5 (by assumption) | exact pj6 (by assumption) | exact pl2 (by assumption) | exact pl3 (by assumption) | exact pl4 (by assumption) | exact pl5 (by assumption) | exact pl6 (by assumption) | exact pl7 (by assumption))
  k_with "k_ne" => (refine neN ?_; (try dsimp only); (first | exact ne_u1 | exact ne_d1 | exact ne_u2 | exact ne_d2 | exact ne_u3 | exact ne_d3 | exact ne_l0 (by walk_at "pj") | exact ne_l1 (by walk_at "pj") | exact ne_l2 (by walk_at "pj") | exact ne_l3 (by walk_at "pj") | exact ne_g0 (by walk_at "pj") | exact ne_g1 (by walk_at "pj") | exact ne_g2 (by walk_at "pj") | exact ne_g3 (by walk_at "pj") | walk_at "pj" | exact Ne.symm (by walk_at "pj") | omega))
  k_with "mine enter" => (k_dflt (refine' code_defG ?k1 ?k2 ?k3 ?k4 ?k5 ?kA ?kF ?kK ?k6 ?k7 ?k8 ?k9 ?kB ?_ ?c2 ?c3 ?c4 ?c5; (case kA => exact rfl); (case kF => exact rfl); (case kK => assumption); (case k1 => k_asm); (case k2 => k_asm); (case k3 => k_asm); (case k4 => k_asm); (case k5 => k_asm); (case k6 => k_is); (case k7 => k_is); (case k8 => first | exact room0 (by assumption) | ktr_room); (case k9 => first | exact BindsTo.of_eq rfl | exact binds_K (by k_in) rfl (by k_is) rfl rfl rfl); (case c5 => decide); (case kB => exact locs rfl); (case c2 => exact rfl); (case c3 => exact rfl); (case c4 => exact rfl); k_whole; intro _ _ _ _ _ _ B' _ _ _; (try dsimp only); (try k_lift B'); (try k_fold)))
  k_with "getMethod ref" => (k_here; k_dflt (refine' ka_method ?k1 ?k2 ?k3 ?k4 ?k5 ?k6 ?k7 ?k8 ?_; (case k1 => k_asm); (case k2 => k_asm); (case k3 => k_asm); (case k4 => k_mem); (case k5 => k_mem); (case k6 => k_is); (case k7 => kernel_rfl); (case k8 => exact rfl); k_whole))
  k_with "call builtin:list.append" => (k_here; k_dflt (refine' ka_append ?k1 ?k2 ?k3 ?k4 ?k5 ?_; (case k1 => k_asm); (case k2 => k_asm); (case k3 => k_asm); (case k4 => k_upd); (case k5 => assumption); k_whole; intro _ _ _; (try k_sweep)))
  k_with "mine enterS" => (k_dflt (refine' enterS ?k1 ?k2 ?k3 ?k4 ?k5 ?kA ?kF ?kK ?k6 ?k7 ?k8 ?k9 ?kB ?_ ?c1 ?c2 ?c3 ?c4; (case kA => exact rfl); (case kF => exact rfl); (case kK => assumption); (case k1 => k_asm); (case k2 => k_asm); (case k3 => k_asm); (case k4 => k_asm); (case k5 => k_asm); (case k6 => k_is); (case k7 => k_is); (case k8 => first | exact room0 (by assumption) | ktr_room); (case k9 => exact BindsTo.of_eq rfl); (case kB => exact locs rfl); (case c1 => decide); (case c2 => exact rfl); (case c3 => exact rfl); (case c4 => exact rfl); k_whole; intro _ _ _ _ _ _ B' _ _ l1 _; (try k_lt l1); (try dsimp only); (try k_lift B'); (try k_fold)))
  k_with "getMethod ref" => (k_here; (with_reducible show wpAny _ _ (getMethod (Value.ref _) (PySem.Str.ofString "__len__") _) _ _ _); k_dflt (refine' ka_sup_len ?k1 ?k2 ?k3 ?k4 ?k5 ?_; (case k1 => k_asm); (case k2 => k_asm); (case k3 => k_asm); (case k4 => k_mem); (case k5 => k_mem); k_whole; intro _ _ _ _ l1; (try k_lt l1)))
  k_with "getMethod ref" => (k_here; (with_reducible show wpAny _ _ (getMethod (Value.ref _) (PySem.Str.ofString "__init__") _) _ _ _); k_dflt (refine' ka_sup_init ?k1 ?k2 ?k3 ?k4 ?k5 ?_; (case k1 => k_asm); (case k2 => k_asm); (case k3 => k_asm); (case k4 => k_mem); (case k5 => k_mem); k_whole; intro _ _ _ _ l1; (try k_lt l1)))
  k_with "getMethod ref" => (k_here; (with_reducible show wpAny _ _ (getMethod (Value.ref _) (PySem.Str.ofString "pop") _) _ _ _); k_dflt (refine' ka_sup_pop ?k1 ?k2 ?k3 ?k4 ?k5 ?_; (case k1 => k_asm); (case k2 => k_asm); (case k3 => k_asm); (case k4 => k_mem); (case k5 => k_mem); k_whole; intro _ _ _ _ l1; (try k_lt l1)))
  k_with "call ref" => (k_here; k_dflt (refine' ka_call_len ?k1 ?k2 ?k3 ?_; (case k1 => k_asm); (case k2 => k_mem); (case k3 => k_mem); k_whole; intro _ _))
  k_with "call ref" => (k_here; k_dflt (refine' ka_call_init ?k1 ?k2 ?k3 ?k4 ?_; (case k1 => k_asm); (case k2 => k_asm); (case k3 => k_mem); (case k4 => k_upd); k_whole; intro _ _ _; (try k_sweep)))
  k_with "call ref" => (k_here; k_dflt (refine' ka_call_pop ?k1 ?k2 ?k3 ?k4 ?k5 ?k6 ?_; (case k1 => k_asm); (case k2 => k_asm); (case k3 => k_asm); (case k4 => k_mem); (case k5 => k_upd); (case k6 => assumption); k_whole; intro _ _ _; (try k_sweep)))
  k_with "callWith ref" => (k_here; k_dflt (refine' ka_callWith0 ?k1 ?k2 ?k3 ?k4 ?k5 ?_; (case k1 => k_asm); (case k2 => k_mem); (case k3 => exact rfl); (case k4 => exact rfl); (case k5 => exact rfl); k_whole; try dsimp only [List.nil_append, List.cons_append]))
  k_with "wpAt" => (dsimp only)
  k_with "wpAt" => (ks_step "execs cons"; refine ks_wpAt_execs_cons ?_)
  k_with "wpAt" => (ks_step "exec Expr"; k_dflt (refine ks_wpAt_Expr_any ?_))
  k_with "wpAt" => (ks_step "exec Return"; refine ks_wpAt_Return_some ?_)
  k_with "wpAt" => (ks_step "exec If"; k_dflt (refine ks_wpAt_If ?_))
  k_with "wpAt" => (ks_step "eval Call"; k_dflt (refine ks_wpAt_MethodCall ?_))
  k_with "wpAt" => (ks_step "attributeBase Call"; k_here; k_dflt (refine ks_node (by k_asm) (by k_asm) (by k_asm) (by k_asm) (by k_is) (by rfl) (by rfl) (acc_inst (news_at (by k_asm) (by k_mem)) (news_at (by k_asm) (by k_mem))) (by k_is) (by rfl) (by first | rfl | decide +kernel) (by k_is) (by k_is) (by k_is) (by k_is) (by decide) (by rfl) (by rfl) (by rfl) (by rfl) (by decide +kernel) (by first | boot_by_name | rfl | kernel_rfl) ?_; intro _ _ _ _ l1; (try k_lt l1)))
  k_with "call ref" => (k_here; k_dflt (show wpAny _ _ (call (Value.ref 204) [Value.ref _]) _ _ _); (rename News _ _ _ _ => nN); k_dflt (refine' ROM.use (count_cl _ _ _ _ _ _ _ _ _ _ _) ?fB ?fF ?fX nN ?fS ?fT ?fk ?fP ?fd ?fu ?_; (case fB => k_asm); (case fF => k_asm); (case fX => k_asm); (case fT => k_asm); (case fk => exact rfl); (case fP => trivial); (case fd => first | exact room_le (by assumption) rfl | ktr_room); (case fu => first | exact room_le (by assumption) rfl | ktr_units); (case fS => exact List.forall_mem_cons.mpr ⟨by k_mem, List.forall_mem_cons.mpr ⟨by k_mem, List.forall_mem_nil _⟩⟩); k_whole); intro _ _ _ hR9 _ K9; (obtain ⟨t9, e9⟩ := hR9); subst e9; (have N9 := kept_news nN K9); clear K9; (try dsimp only); (try k_fold))
  k_with "setAttr ref" => (k_here; k_dflt (refine' ka_setIS ?k1 ?k2 ?k3 ?k4 ?k5 ?_; (case k1 => k_asm); (case k2 => k_asm); (case k3 => k_asm); (case k4 => k_mem); (case k5 => k_upd); k_whole; intro _ _ _; (try k_sweep)))
  k_with "getAttr ref" => (k_here; k_dflt (refine' ka_getIS ?k1 ?k2 ?k3 ?k4 ?k5 ?k6 ?_; (case k1 => k_asm); (case k2 => k_asm); (case k3 => k_asm); (case k4 => k_mem); (case k5 => k_mem); (case k6 => first | rfl | assumption); k_whole))
  k_with "setItem ref ref" => (k_here; k_dflt (refine' ka_setSlice ?k1 ?k2 ?k3 ?k4 ?k5 ?k6 ?k7 ?k8 ?k9 ?ka ?_; (case k1 => k_asm); (case k2 => k_asm); (case k3 => k_asm); (case k4 => k_mem); (case k5 => k_ne); (case k6 => exact .none); (case k8 => intro n'; k_upd); (case k7 => exact set_all _ _); (case k9 => assumption); (case ka => first | assumption | simp); k_whole; intro n' _ _ N'; (try dsimp only at N'); (try k_sweep)))
  k_with "mine out" => (first | exact so_nil | (refine so_fp ?za ?zb; (case za => k_mem); (case zb => walk_at "mine out")) | (refine so_in ?za ?zb; (case za => k_mem); (case zb => walk_at "mine out")))
  k_with "mine fr" => (first | exact fr_nil | (refine fr_cons ?za ?zb; (case za => (first | walk_at "pj" | omega | (dsimp only; first | walk_at "pj" | omega))); (case zb => walk_at "mine fr")))
  k_with "execs cons" => ((with_reducible refine wpAny_execs_cons ?_); (try dsimp only); (try (refine tk_any ?_; intro _)); (try k_fold))
  trivial
theorem popnil_cl (w : World) (mean : ExcName → Option Value) (mg mb : Str → Option Value) (x dx : Addr) (n k : Nat) (kt : Tok) (iv : Value) :
  ROM w mean mg mb 167 [] (fun _ => True) [(x, accO dx #[] n), (dx, iniO w kt iv k)] [.ref x] (fun h r h' => ∃ T t t', r = .ref T ∧ h.get? T = none ∧ h'.get? T = some (tup2 (Str.ofString "") t (Str.ofString "") t')) 12 120 := by
  delta ROM PR; k_fill
  intro dp un gd cn cs a ccd cl outer A₀ base h₀ L m s Q E B F KX N T hk HP hdp hun hret
  have hne : @Ne Nat x dx := news_neB N (by k_mem) (by k_mem) rfl
  have hne' : @Ne Nat dx x := hne.symm
  w_strict (refine wpAny_call ?_; walk_at "mine enterS"; k_steps)
  rename _ < _ ∧ _ < _ => l1
  exact hret _ _ _ (exI3 _ _ _ ⟨rfl, fresh_of (by assumption) (by assumption) (List.Mem.head _) (by walk_at "mine fr"), news_at (by assumption) (by k_mem)⟩) (by assumption) (kept_mut [] N (by assumption) (Fr.keep (by assumption)) (sub_out (by assumption) (by walk_at "mine out")))

theorem reset_cl (w : World) (mean : ExcName → Option Value) (mg mb : Str → Option Value) (x dx : Addr) (its : Array Value) (n k : Nat) (kt : Tok) (iv : Value) (hsz : its.size ≤ 1000) :
  ROM w mean mg mb 189 [x, dx] (fun _ => True) [(x, accO dx its n), (dx, iniO w kt iv k)] [.ref x] (fun _ r h' => r = .none ∧ ∃ n' t' k', h'.get? x = some (accO dx #[] n') ∧ h'.get? dx = some (iniO w kt (.int 0 t') k')) 12 120 := by
  delta ROM PR; k_fill
  intro dp un gd cn cs a ccd cl outer A₀ base h₀ L m s Q E B F KX N T hk HP hdp hun hret
  have hne : @Ne Nat x dx := news_neB N (by k_mem) (by k_mem) rfl
  have hne' : @Ne Nat dx x := hne.symm
  w_strict (refine wpAny_call ?_; walk_at "mine enter"; k_steps)
  exact hret _ _ _ ⟨rfl, _, _, _, news_at (by assumption) (by k_mem), news_at (by assumption) (by k_mem)⟩ (by assumption) (kept_mut [x, dx] N (by assumption) (Fr.keep (by assumption)) (sub_out (by assumption) (by walk_at "mine out")))
end Mine
end
section
open PySem PySem.W PySem.Builtin PyProof.Rows
set_option Elab.async false
set_option maxRecDepth 100000
set_option maxHeartbeats 8000000
set_option pp.deepTerms false
set_option pp.deepTerms.threshold 6
set_option pp.maxSteps 3000
set_option pp.proofs false
namespace Mine



theorem rows_AM4_1 : True := by
  k_with_none
  w_top off
  k_with "pj" => (first | assumption | exact pj1 (by assumption) | exact pj2 (by assumption) | exact pj3 (by assumption) | exact pj4 (by assumption) | exact pj5 (by assumption) | exact pj6 (by assumption) | exact pl2 (by assumption) | exact pl3 (by assumption) | exact pl4 (by assumption) | exact pl5 (by assumption) | exact pl6 (by assumption) | exact pl7 (by assumption))
  k_with "k_ne" => (refine neN ?_; (try dsimp only); (first | exact ne_u1 | exact ne_d1 | exact ne_u2 | exact ne_d2 | exact ne_u3 | exact ne_d3 | exact ne_l0 (by walk_at "pj") | exact ne_l1 (by walk_at "pj") | exact ne_l2 (by walk_at "pj") | exact ne_l3 (by walk_at "pj") | exact ne_g0 (by walk_at "pj") | exact ne_g1 (by walk_at "pj") | exact ne_g2 (by walk_at "pj") | exact ne_g3 (by walk_at "pj") | walk_at "pj" | exact Ne.symm (by walk_at "pj") | omega))
  k_with "mine enter" => (k_dflt (refine' code_defG ?k1 ?k2 ?k3 ?k4 ?k5 ?kA ?kF ?kK ?k6 ?k7 ?k8 ?k9 ?kB ?_ ?c2 ?c3 ?c4 ?c5; (case kA => exact rfl); (case kF => exact rfl); (case kK => assumption); (case k1 => k_asm); (case k2 => k_asm); (case k3 => k_asm); (case k4 => k_asm); (case k5 => k_asm); (case k6 => k_is); (case k7 => k_is); (case k8 => first | exact room0 (by assumption) | ktr_room); (case k9 => first | exact BindsTo.of_eq rfl | exact binds_K (by k_in) rfl (by k_is) rfl rfl rfl); (case c5 => decide); (case kB => exact locs rfl); (case c2 => exact rfl); (case c3 => exact rfl); (case c4 => exact rfl); k_whole; intro _ _ _ _ _ _ B' _ _ _; (try dsimp only); (try k_lift B'); (try k_fold)))
  k_with "getMethod ref" => (k_here; k_dflt (refine' ka_method ?k1 ?k2 ?k3 ?k4 ?k5 ?k6 ?k7 ?k8 ?_; (case k1 => k_asm); (case k2 => k_asm); (case k3 => k_asm); (case k4 => k_mem); (case k5 => k_mem); (case k6 => k_is); (case k7 => kernel_rfl); (case k8 => exact rfl); k_whole))
  k_with "call builtin:list.append" => (k_here; k_dflt (refine' ka_append ?k1 ?k2 ?k3 ?k4 ?k5 ?_; (case k1 => k_asm); (case k2 => k_asm); (case k3 => k_asm); (case k4 => k_upd); (case k5 => assumption); k_whole; intro _ _ _; (try k_sweep)))
  k_with "mine enterS" => (k_dflt (refine' enterS ?k1 ?k2 ?k3 ?k4 ?k5 ?kA ?kF ?kK ?k6 ?k7 ?k8 ?k9 ?kB ?_ ?c1 ?c2 ?c3 ?c4; (case kA => exact rfl); (case kF => exact rfl); (case kK => assumption); (case k1 => k_asm); (case k2 => k_asm); (case k3 => k_asm); (case k4 => k_asm); (case k5 => k_asm); (case k6 => k_is); (case k7 => k_is); (case k8 => first | exact room0 (by assumption) | ktr_room); (case k9 => exact BindsTo.of_eq rfl); (case kB => exact locs rfl); (case c1 => decide); (case c2 => exact rfl); (case c3 => exact rfl); (case c4 => exact rfl); k_whole; intro _ _ _ _ _ _ B' _ _ l1 _; (try k_lt l1); (try dsimp only); (try k_lift B'); (try k_fold)))
  k_with "getMethod ref" => (k_here; (with_reducible show wpAny _ _ (getMethod (Value.ref _) (PySem.Str.ofString "__len__") _) _ _ _); k_dflt (refine' ka_sup_len ?k1 ?k2 ?k3 ?k4 ?k5 ?_; (case k1 => k_asm); (case k2 => k_asm); (case k3 => k_asm); (case k4 => k_mem); (case k5 => k_mem); k_whole; intro _ _ _ _ l1; (try k_lt l1)))
  k_with "getMethod ref" => (k_here; (with_reducible show wpAny _ _ (getMethod (Value.ref _) (PySem.Str.ofString "__init__") _) _ _ _); k_dflt (refine' ka_sup_init ?k1 ?k2 ?k3 ?k4 ?k5 ?_; (case k1 => k_asm); (case k2 => k_asm); (case k3 => k_asm); (case k4 => k_mem); (case k5 => k_mem); k_whole; intro _ _ _ _ l1; (try k_lt l1)))
  k_with "getMethod ref" => (k_here; (with_reducible show wpAny _ _ (getMethod (Value.ref _) (PySem.Str.ofString "pop") _) _ _ _); k_dflt (refine' ka_sup_pop ?k1 ?k2 ?k3 ?k4 ?k5 ?_; (case k1 => k_asm); (case k2 => k_asm); (case k3 => k_asm); (case k4 => k_mem); (case k5 => k_mem); k_whole; intro _ _ _ _ l1; (try k_lt l1)))
  k_with "call ref" => (k_here; k_dflt (refine' ka_call_len ?k1 ?k2 ?k3 ?_; (case k1 => k_asm); (case k2 => k_mem); (case k3 => k_mem); k_whole; intro _ _))
  k_with "call ref" => (k_here; k_dflt (refine' ka_call_init ?k1 ?k2 ?k3 ?k4 ?_; (case k1 => k_asm); (case k2 => k_asm); (case k3 => k_mem); (case k4 => k_upd); k_whole; intro _ _ _; (try k_sweep)))
  k_with "call ref" => (k_here; k_dflt (refine' ka_call_pop ?k1 ?k2 ?k3 ?k4 ?k5 ?k6 ?_; (case k1 => k_asm); (case k2 => k_asm); (case k3 => k_asm); (case k4 => k_mem); (case k5 => k_upd); (case k6 => assumption); k_whole; intro _ _ _; (try k_sweep)))
  k_with "callWith ref" => (k_here; k_dflt (refine' ka_callWith0 ?k1 ?k2 ?k3 ?k4 ?k5 ?_; (case k1 => k_asm); (case k2 => k_mem); (case k3 => exact rfl); (case k4 => exact rfl); (case k5 => exact rfl); k_whole; try dsimp only [List.nil_append, List.cons_append]))
  k_with "wpAt" => (dsimp only)
  k_with "wpAt" => (ks_step "execs cons"; refine ks_wpAt_execs_cons ?_)
  k_with "wpAt" => (ks_step "exec Expr"; k_dflt (refine ks_wpAt_Expr_any ?_))
  k_with "wpAt" => (ks_step "exec Return"; refine ks_wpAt_Return_some ?_)
  k_with "wpAt" => (ks_step "exec If"; k_dflt (refine ks_wpAt_If ?_))
  k_with "wpAt" => (ks_step "eval Call"; k_dflt (refine ks_wpAt_MethodCall ?_))
  k_with "wpAt" => (ks_step "attributeBase Call"; k_here; k_dflt (refine ks_node (by k_asm) (by k_asm) (by k_asm) (by k_asm) (by k_is) (by rfl) (by rfl) (acc_inst (news_at (by k_asm) (by k_mem)) (news_at (by k_asm) (by k_mem))) (by k_is) (by rfl) (by first | rfl | decide +kernel) (by k_is) (by k_is) (by k_is) (by k_is) (by decide) (by rfl) (by rfl) (by rfl) (by rfl) (by decide +kernel) (by first | boot_by_name | rfl | kernel_rfl) ?_; intro _ _ _ _ l1; (try k_lt l1)))
  k_with "call ref" => (k_here; k_dflt (show wpAny _ _ (call (Value.ref 204) [Value.ref _]) _ _ _); (rename News _ _ _ _ => nN); k_dflt (refine' ROM.use (count_cl _ _ _ _ _ _ _ _ _ _ _) ?fB ?fF ?fX nN ?fS ?fT ?fk ?fP ?fd ?fu ?_; (case fB => k_asm); (case fF => k_asm); (case fX => k_asm); (case fT => k_asm); (case fk => exact rfl); (case fP => trivial); (case fd => first | exact room_le (by assumption) rfl | ktr_room); (case fu => first | exact room_le (by assumption) rfl | ktr_units); (case fS => exact List.forall_mem_cons.mpr ⟨by k_mem, List.forall_mem_cons.mpr ⟨by k_mem, List.forall_mem_nil _⟩⟩); k_whole); intro _ _ _ hR9 _ K9; (obtain ⟨t9, e9⟩ := hR9); subst e9; (have N9 := kept_news nN K9); clear K9; (try dsimp only); (try k_fold))
  k_with "setAttr ref" => (k_here; k_dflt (refine' ka_setIS ?k1 ?k2 ?k3 ?k4 ?k5 ?_; (case k1 => k_asm); (case k2 => k_asm); (case k3 => k_asm); (case k4 => k_mem); (case k5 => k_upd); k_whole; intro _ _ _; (try k_sweep)))
  k_with "getAttr ref" => (k_here; k_dflt (refine' ka_getIS ?k1 ?k2 ?k3 ?k4 ?k5 ?k6 ?_; (case k1 => k_asm); (case k2 => k_asm); (case k3 => k_asm); (case k4 => k_mem); (case k5 => k_mem); (case k6 => first | rfl | assumption); k_whole))
  k_with "setItem ref ref" => (k_here; k_dflt (refine' ka_setSlice ?k1 ?k2 ?k3 ?k4 ?k5 ?k6 ?k7 ?k8 ?k9 ?ka ?_; (case k1 => k_asm); (case k2 => k_asm); (case k3 => k_asm); (case k4 => k_mem); (case k5 => k_ne); (case k6 => exact .none); (case k8 => intro n'; k_upd); (case k7 => exact set_all _ _); (case k9 => assumption); (case ka => first | assumption | simp); k_whole; intro n' _ _ N'; (try dsimp only at N'); (try k_sweep)))
  k_with "setItem ref ref" => (k_here; k_dflt (refine' ka_setSlice ?k1 ?k2 ?k3 ?k4 ?k5 ?k6 ?k7 ?k8 ?k9 ?ka ?_; (case k1 => k_asm); (case k2 => k_asm); (case k3 => k_asm); (case k4 => k_mem); (case k5 => k_ne); (case k6 => exact .int _ _); (case k8 => intro n'; k_upd); (case k7 => exact set_tail _ _); (case k9 => assumption); (case ka => first | assumption | simp); k_whole; intro n' _ _ N'; (try dsimp only at N'); (try k_sweep)))
  k_with "subscriptTail" => (k_here; k_dflt (refine' ka_tailSlice ?k1 ?k2 ?k3 ?k4 ?k5 ?k6 ?k7 ?k8 ?k9 ?ka ?_ ?kb ?kc; (case k1 => k_asm); (case k2 => k_asm); (case k3 => k_asm); (case k4 => k_mem); (case k5 => exact .int _ _); (case k6 => exact .none); (case k7 => exact .none); (case k8 => simp); (case k9 => assumption); (case ka => exact pick_tail _ _); (case kb => with_unfolding_all rfl); (case kc => intro _; with_unfolding_all rfl); k_whole; intro _ _ _ _ l1; (try k_lt l1)))
  k_with "mine out" => (first | exact so_nil | (refine so_fp ?za ?zb; (case za => k_mem); (case zb => walk_at "mine out")) | (refine so_in ?za ?zb; (case za => k_mem); (case zb => walk_at "mine out")))
  k_with "mine fr" => (first | exact fr_nil | (refine fr_cons ?za ?zb; (case za => (first | walk_at "pj" | omega | (dsimp only; first | walk_at "pj" | omega))); (case zb => walk_at "mine fr")))
  k_with "execs cons" => ((with_reducible refine wpAny_execs_cons ?_); (try dsimp only); (try (refine tk_any ?_; intro _)); (try k_fold))
  trivial
theorem reset1_cl (w : World) (mean : ExcName → Option Value) (mg mb : Str → Option Value) (x dx r : Addr) (its jts : Array Value) (n k kr : Nat) (kt : Tok) (iv : Value) (hsz : its.size ≤ 1000) (hsj : jts.size ≤ 1000) :
  ROM w mean mg mb 189 [x, dx] (fun _ => True) [(x, accO dx its n), (dx, iniO w kt iv k), (r, lstO jts kr)] [.ref x, .ref r] (fun _ v h' => v = .none ∧ ∃ n' t', h'.get? x = some (accO dx jts n') ∧ h'.get? dx = some (iniO w kt (.int 0 t') k)) 12 120 := by
  delta ROM PR; k_fill
  intro dp un gd cn cs a ccd cl outer A₀ base h₀ L m s Q E B F KX N T hk HP hdp hun hret
  have hne : @Ne Nat x dx := news_neB N (by k_mem) (by k_mem) rfl
  have hne' : @Ne Nat dx x := hne.symm
  have hne2 : @Ne Nat x r := news_neB N (by k_mem) (by k_mem) rfl
  have hne3 : @Ne Nat dx r := news_neB N (by k_mem) (by k_mem) rfl
  w_strict (refine wpAny_call ?_; walk_at "mine enter"; k_steps)
  exact hret _ _ _ ⟨rfl, _, _, news_at (by assumption) (by k_mem), news_at (by assumption) (by k_mem)⟩ (by assumption) (kept_mut [x, dx] N (by assumption) (Fr.keep (by assumption)) (sub_out (by assumption) (by walk_at "mine out")))

theorem popfrom_cl (w : World) (mean : ExcName → Option Value) (mg mb : Str → Option Value) (x dx : Addr) (pre post : Array Value) (n k : Nat) (kt t : Tok) (iv : Value) (hsz : (pre ++ post).size ≤ 1000) :
  ROM w mean mg mb 159 [x] (fun _ => True) [(x, accO dx (pre ++ post) n), (dx, iniO w kt iv k)] [.ref x, .int pre.size t] (fun h v h' => ∃ R n', v = .ref R ∧ h.get? R = none ∧ h'.get? R = some (lstO post 0) ∧ h'.get? x = some (accO dx pre n')) 12 120 := by
  delta ROM PR; k_fill
  intro dp un gd cn cs a ccd cl outer A₀ base h₀ L m s Q E B F KX N T hk HP hdp hun hret
  have hne : @Ne Nat x dx := news_neB N (by k_mem) (by k_mem) rfl
  have hne' : @Ne Nat dx x := hne.symm
  w_strict (refine wpAny_call ?_; walk_at "mine enter"; k_steps)
  exact hret _ _ _ ⟨_, _, rfl, fresh_of (by assumption) (by assumption) (by k_mem) (by walk_at "mine fr"), news_at (by assumption) (by k_mem), news_at (by assumption) (by k_mem)⟩ (by assumption) (kept_mut [x] N (by assumption) (Fr.keep (by assumption)) (sub_out (by assumption) (by walk_at "mine out")))
end Mine
end
section
open PySem PySem.W PySem.Calls PyProof.Rows PySem.Builtin
set_option Elab.async false
set_option maxRecDepth 100000
namespace Mine
theorem acc_class (w : World) : ∃ (oc : Value) (od : Option Addr) (cd : ClassData) (sl : Array (Option Value)), (hd.heap_1 w.params).lookup 207 = some ⟨oc, od, .cls cd, sl⟩ ∧ cd.abstract = false ∧ cd.hasDel = false ∧ (sl.toList[4]?).join = some (.builtin "list.__new__") ∧ cd.mro = [Value.ref 207, Value.type "list", Value.type "object"] := by
  have h : (match (hd.heap_1 w.params).lookup 207 with | some ⟨_, _, .cls cd, sl⟩ => !cd.abstract && !cd.hasDel && (sl.toList[4]?).join == some (.builtin "list.__new__") && cd.mro == [Value.ref 207, Value.type "list", Value.type "object"] | _ => false) = true := by kernel_rfl
  split at h
  · rename_i oc od cd sl ho
    simp only [Bool.and_eq_true, Bool.not_eq_true', beq_iff_eq] at h
    exact ⟨oc, od, cd, sl, ho, h.1.1.1, h.1.1.2, h.1.2, h.2⟩
  · cases h

section
variable {w : World} {A : Around} {E : Value → Shared → Prop} {R : Result → Shared → Prop} {h : Heap} {g : Array GenState} {d : Drawn} {t : Nat} {os : OsState}

theorem acc_made {M : Model} (X : (hd.heap_1 w.params).In h) : Looks M h (Bind.madeBy (.ref 207)) (some "list.__new__") := by
  obtain ⟨oc, od, cd, sl, ho, -, -, e3, hm⟩ := acc_class w
  have hc : clsIn (hd.heap_1 w.params) 207 = some cd := by unfold clsIn; rw [ho]
  have hmro : Looks M h (mroOf (.ref 207)) cd.mro := (looks_clsIn X hc).andThen .now
  intro A Q E s k q
  unfold Bind.madeBy
  refine wpAny_bind (hmro A _ E s k ?_)
  rw [hm, List.forIn_cons]
  refine wpAny_bind (wpAny_bind (wpAny_bind (wpAny_bind (wpAny_loadPart (k _ _ (X _ _ ho)) (wpAny_pure ?_)))))
  dsimp only
  rw [← Array.getElem?_toList, e3]
  exact wpAny_pure (wpAny_pure (wpAny_pure q))
theorem acc_base {M : Model} (X : (hd.heap_1 w.params).In h) : Looks M h (Bind.staticBase (.ref 207)) (.ref 207) := by
  obtain ⟨oc, od, cd, sl, ho, -, -, e3, hm⟩ := acc_class w
  have hc : clsIn (hd.heap_1 w.params) 207 = some cd := by unfold clsIn; rw [ho]
  have hmro : Looks M h (mroOf (.ref 207)) cd.mro := (looks_clsIn X hc).andThen .now
  intro A Q E s k q
  unfold Bind.staticBase
  refine wpAny_bind (hmro A _ E s k ?_)
  rw [hm, List.forIn_cons]
  exact wpAny_bind (wpAny_bind (wpAny_bind (acc_made X A _ E s k (wpAny_pure (wpAny_pure (wpAny_pure q))))))

theorem acc_new {v : Value} (X : (hd.heap_1 w.params).In h) (hq : R (.ok (.ret (.ref (h.objs.size + 1)))) ⟨(h.push emptyDict).push (accO h.objs.size #[] 0), g, d, t, os⟩) :
    codeAny (model PR w) A (.call (.builtin "list.__new__") ⟨[.ref 207, v], []⟩) R ⟨h, g, d, t, os⟩ := by
  obtain ⟨oc, od, cd, sl, ho, e1, e2, e3, hm⟩ := acc_class w
  have hC := X _ _ ho
  have made := acc_made (M := model PR w) X
  have base := acc_base (M := model PR w) X
  have sub : Looks (model PR w) h (isSubtype (.ref 207) (.type "list")) true := looks_subIn X (by kernel_rfl)
  have hk : builtinKind "list.__new__" = some .builtinFn := by decide +kernel
  have hs : splitId "list.__new__" = some ("list", "__new__") := by decide +kernel
  have hsig : ∃ sig, Manifest.signature? "list.__new__" = some sig ∧ Bind.checkArgs "list.__new__" sig ⟨[.ref 207, v], []⟩ = pure () := ⟨_, rfl, by kernel_rfl⟩
  obtain ⟨sig, h1, h2⟩ := hsig
  refine codeAny_of_tree ?_
  show wpAny _ A.in1 (do checkBuiltinCall "list.__new__" ⟨[.ref 207, v], []⟩; again (.builtin "list.__new__" ⟨[.ref 207, v], []⟩)) _ _ _
  refine wpAny_bind ?_
  simp only [checkBuiltinCall, hk, hs, h1]
  rw [h2]
  repeat (first | simp only [bne_self_eq_false, Bool.false_eq_true, if_false] | lk)
  refine ⟨plainId_quiet PySem.F.plain_list_new _, codeAny_builtin_stack PySem.F.entry_list_new rfl fun p st => ?_⟩
  have hown := owner_list_new
  simp only [hown]
  repeat (first | simp only [bne_self_eq_false, Bool.false_eq_true, if_false] | lk)
  show wpAny _ _ (load 207) _ _ _
  refine wpAny_load (Heap.get?_push_of_some _ (Heap.get?_push_of_some _ hC)) ?_
  dsimp only
  refine wpAny_pure ?_
  rw [e2, if_neg (by decide)]
  refine wpAny_pure (wpAny_pure ?_)
  rw [Heap.size_push]
  exact hq

theorem acc_make {v : Value} (X : (hd.heap_1 w.params).In h)
    (hq : codeAny (model PR w) (A.under (.builtin "type.__call__" ⟨[.ref 207, v], []⟩)) (.call (.ref 144) ⟨[.ref (h.objs.size + 1), v], []⟩) (InitBack (h.objs.size + 1) R) ⟨(h.push emptyDict).push (accO h.objs.size #[] 0), g, d, t, os⟩) :
    codeAny (model PR w) A (.call (.ref 207) ⟨[v], []⟩) R ⟨h, g, d, t, os⟩ := by
  obtain ⟨oc, od, cd, sl, ho, e1, e2, e3, hm'⟩ := acc_class w
  have hC := X _ _ ho
  have made := acc_made (M := model PR w) X
  have self : Looks (model PR w) h (isSubtype (.ref 207) (.ref 207)) true := looks_subIn X (by kernel_rfl)
  have call : Looks (model PR w) h (specialOf (.ref 207) "__call__") (some (.builtin "type.__call__")) := looks_specialIn X (by kernel_rfl)
  have typ : Looks (model PR w) h (isInstance (.ref 207) (.type "type")) true := looks_instIn X (by kernel_rfl)
  have hi : Looks (model PR w) h (typeLookup (.ref 207) "__init__") (some (.ref 144)) := looks_findIn X (by kernel_rfl)
  have hb : ∀ self, Looks (model PR w) h (bindSpecial (.ref 144) self) (.ref 144, [self]) := fun self => bind_fn X self (by kernel_rfl)
  have e4 : cd.mro.isEmpty = false := by rw [hm']; rfl
  refine codeAny_of_tree ?_
  show wpAny _ _ (callAny (.ref 207) _) _ _ _
  refine nd_load hC ?_
  show wpAny _ _ (callAny.viaDunder (.ref 207) _) _ _ _
  unfold callAny.viaDunder
  refine wpAny_bind (call.at ?_)
  dsimp only
  rw [tc_bind]
  refine wpAny_bind (wpAny_pure (wpAny_bind (wpAny_pure ?_)))
  refine wpAny_pure (a := Fin.again (.call (.builtin "type.__call__") ⟨[.ref 207, v], []⟩)) (And.intro rfl ?_)
  refine codeAny_call_builtin_at (Code.quiet_builtin _ (by decide +kernel)) entry_typeCall (W.check_slot tc_kind tc_split typ (tc_args _ _ _) ?_)
  unfold Builtin.«type.__call__»
  have hm : Looks (model PR w) h (mroOf (.ref 207)) cd.mro := ((Looks.ld (part := none) hC).andThen .now).andThen .now
  repeat (first | simp only [e4, Bool.false_eq_true, if_false] | with_reducible refine wpAny_call ?_ | lk)
  refine acc_new X ?_
  have k : ∀ b o, h.get? b = some o → ((h.push emptyDict).push (accO h.objs.size #[] 0)).get? b = some o := fun b o e => Heap.get?_push_of_some _ (Heap.get?_push_of_some _ e)
  have hx : ((h.push emptyDict).push (accO h.objs.size #[] 0)).get? (h.objs.size + 1) = some (accO h.objs.size #[] 0) := by heap_get
  have t1 : Looks (model PR w) ((h.push emptyDict).push (accO h.objs.size #[] 0)) (typeOf (.ref (h.objs.size + 1))) (.ref 207) := (Looks.ld hx).andThen .now
  have s1 := self.keeps k
  have i1 := hi.keeps k
  have b1 := (hb (.ref (h.objs.size + 1))).keeps k
  unfold isInstance callSpecial? specialOf
  repeat (first | with_reducible refine wpAny_call ?_ | lk)
  refine codeAny_mono hq fun r s' z => ?_
  rcases r with e | (v | _ | _ | _) <;> first | exact z | exact z.elim | skip
  obtain ⟨rfl, z⟩ := z
  exact wpAny_pure (wpAny_pure z)
end
section
variable {w : World} {A : Around} {E : Value → Shared → Prop} {s : Shared} {x dx L : Addr} {h₀ : Heap} {m : Str → Option Value} {its : Array Value} {n : Nat} {news news' : List (Addr × Obj)}
theorem ka_setIS0 {v : Value} {Q : Unit → Shared → Prop} (F : Fr h₀ L s.heap m) (X₀ : (hd.heap_1 w.params).In h₀) (N : News h₀ L s.heap news) (hx : (x, accO dx its n) ∈ news) (U : Upd dx emptyDict (iniO w (s.toks + 1) v 1) news news')
    (h : ∀ h', Fr h₀ L h' m → News h₀ L h' news' → Q () { s with heap := h', toks := s.toks + 2 }) : wpAny (model PR w) A (setAttr (.ref x) isz v) Q E s :=
  ka_set (es := []) (k := 0) F X₀ N hx (by kernel_rfl) rfl rfl U (by show (1 : Nat) ≤ 1000; decide) h
theorem ka_make {v : Value} {R : Result → Shared → Prop} (F : Fr h₀ L s.heap m) (X₀ : (hd.heap_1 w.params).In h₀) (N : News h₀ L s.heap news)
    (h : ∀ x dx h', Fr h₀ L h' m → News h₀ L h' ((x, accO dx #[] 0) :: (dx, emptyDict) :: news) → (∀ p ∈ news, p.1 < dx) → @LT.lt Nat _ dx x → s.heap.get? x = none → s.heap.get? dx = none → KeptBut [] s.heap h' →
      codeAny (model PR w) (A.under (.builtin "type.__call__" ⟨[.ref 207, v], []⟩)) (.call (.ref 144) ⟨[.ref x, v], []⟩) (InitBack x R) { s with heap := h' }) :
    codeAny (model PR w) A (.call (.ref 207) ⟨[v], []⟩) R s := by
  obtain ⟨hh, g, d, t, os⟩ := s
  have nx : ∀ b, hh.objs.size ≤ b → hh.get? b = none := fun b hb => by
    cases e : hh.get? b with
    | none => rfl
    | some o => exact absurd (Heap.lt_size e) (Nat.not_lt.mpr hb)
  refine acc_make (X₀.keeps F.keep) (h _ hh.objs.size _ ((F.push _).push _) ?_ (fun p hp => Heap.lt_size (N p hp).1) (Nat.lt_succ_self _) (nx _ (Nat.le_succ _)) (nx _ (Nat.le_refl _)) fun b o _ e => Heap.get?_push_of_some _ (Heap.get?_push_of_some _ e))
  have := (N.push F emptyDict).push (F.push _) (accO hh.objs.size #[] 0)
  rwa [Heap.size_push] at this
end
end Mine
end
section
open PySem PySem.W PySem.Builtin PyProof.Rows
set_option Elab.async false
set_option maxRecDepth 100000
set_option maxHeartbeats 8000000
set_option pp.deepTerms false
set_option pp.deepTerms.threshold 6
set_option pp.maxSteps 3000
set_option pp.proofs false
namespace Mine



theorem rows_AM5_1 : True := by
  k_with_none
  w_top off
  k_with "pj" => (first | assumption | exact pj1 (by assumption) | exact pj2 (by assumption) | exact pj3 (by assumption) | exact pj4 (by assumption) | exact pj5 (by assumption) | exact pj6 (by assumption) | exact pl2 (by assumption) | exact pl3 (by assumption) | exact pl4 (by assumption) | exact pl5 (by assumption) | exact pl6 (by assumption) | exact pl7 (by assumption))
  k_with "k_ne" => (refine neN ?_; (try dsimp only); (first | exact ne_u1 | exact ne_d1 | exact ne_u2 | exact ne_d2 | exact ne_u3 | exact ne_d3 | exact ne_l0 (by walk_at "pj") | exact ne_l1 (by walk_at "pj") | exact ne_l2 (by walk_at "pj") | exact ne_l3 (by walk_at "pj") | exact ne_g0 (by walk_at "pj") | exact ne_g1 (by walk_at "pj") | exact ne_g2 (by walk_at "pj") | exact ne_g3 (by walk_at "pj") | walk_at "pj" | exact Ne.symm (by walk_at "pj") | omega))
  k_with "mine enter" => (k_dflt (refine' code_defG ?k1 ?k2 ?k3 ?k4 ?k5 ?kA ?kF ?kK ?k6 ?k7 ?k8 ?k9 ?kB ?_ ?c2 ?c3 ?c4 ?c5; (case kA => exact rfl); (case kF => exact rfl); (case kK => assumption); (case k1 => k_asm); (case k2 => k_asm); (case k3 => k_asm); (case k4 => k_asm); (case k5 => k_asm); (case k6 => k_is); (case k7 => k_is); (case k8 => first | exact room0 (by assumption) | ktr_room); (case k9 => first | exact BindsTo.of_eq rfl | exact binds_K (by k_in) rfl (by k_is) rfl rfl rfl); (case c5 => decide); (case kB => exact locs rfl); (case c2 => exact rfl); (case c3 => exact rfl); (case c4 => exact rfl); k_whole; intro _ _ _ _ _ _ B' _ _ _; (try dsimp only); (try k_lift B'); (try k_fold)))
  k_with "getMethod ref" => (k_here; k_dflt (refine' ka_method ?k1 ?k2 ?k3 ?k4 ?k5 ?k6 ?k7 ?k8 ?_; (case k1 => k_asm); (case k2 => k_asm); (case k3 => k_asm); (case k4 => k_mem); (case k5 => k_mem); (case k6 => k_is); (case k7 => kernel_rfl); (case k8 => exact rfl); k_whole))
  k_with "call builtin:list.append" => (k_here; k_dflt (refine' ka_append ?k1 ?k2 ?k3 ?k4 ?k5 ?_; (case k1 => k_asm); (case k2 => k_asm); (case k3 => k_asm); (case k4 => k_upd); (case k5 => assumption); k_whole; intro _ _ _; (try k_sweep)))
  k_with "mine enterS" => (k_dflt (refine' enterS ?k1 ?k2 ?k3 ?k4 ?k5 ?kA ?kF ?kK ?k6 ?k7 ?k8 ?k9 ?kB ?_ ?c1 ?c2 ?c3 ?c4; (case kA => exact rfl); (case kF => exact rfl); (case kK => assumption); (case k1 => k_asm); (case k2 => k_asm); (case k3 => k_asm); (case k4 => k_asm); (case k5 => k_asm); (case k6 => k_is); (case k7 => k_is); (case k8 => first | exact room0 (by assumption) | ktr_room); (case k9 => first | exact BindsTo.of_eq rfl | exact binds_K (by k_in) rfl (by k_is) rfl rfl rfl); (case kB => exact locs rfl); (case c1 => decide); (case c2 => exact rfl); (case c3 => exact rfl); (case c4 => exact rfl); k_whole; intro _ _ _ _ _ _ B' _ _ l1 _; (try k_lt l1); (try dsimp only); (try k_lift B'); (try k_fold)))
  k_with "getMethod ref" => (k_here; (with_reducible show wpAny _ _ (getMethod (Value.ref _) (PySem.Str.ofString "__len__") _) _ _ _); k_dflt (refine' ka_sup_len ?k1 ?k2 ?k3 ?k4 ?k5 ?_; (case k1 => k_asm); (case k2 => k_asm); (case k3 => k_asm); (case k4 => k_mem); (case k5 => k_mem); k_whole; intro _ _ _ _ l1; (try k_lt l1)))
  k_with "getMethod ref" => (k_here; (with_reducible show wpAny _ _ (getMethod (Value.ref _) (PySem.Str.ofString "__init__") _) _ _ _); k_dflt (refine' ka_sup_init ?k1 ?k2 ?k3 ?k4 ?k5 ?_; (case k1 => k_asm); (case k2 => k_asm); (case k3 => k_asm); (case k4 => k_mem); (case k5 => k_mem); k_whole; intro _ _ _ _ l1; (try k_lt l1)))
  k_with "getMethod ref" => (k_here; (with_reducible show wpAny _ _ (getMethod (Value.ref _) (PySem.Str.ofString "pop") _) _ _ _); k_dflt (refine' ka_sup_pop ?k1 ?k2 ?k3 ?k4 ?k5 ?_; (case k1 => k_asm); (case k2 => k_asm); (case k3 => k_asm); (case k4 => k_mem); (case k5 => k_mem); k_whole; intro _ _ _ _ l1; (try k_lt l1)))
  k_with "call ref" => (k_here; k_dflt (refine' ka_call_len ?k1 ?k2 ?k3 ?_; (case k1 => k_asm); (case k2 => k_mem); (case k3 => k_mem); k_whole; intro _ _))
  k_with "call ref" => (k_here; k_dflt (refine' ka_call_init ?k1 ?k2 ?k3 ?k4 ?_; (case k1 => k_asm); (case k2 => k_asm); (case k3 => k_mem); (case k4 => k_upd); k_whole; intro _ _ _; (try k_sweep)))
  k_with "call ref" => (k_here; k_dflt (refine' ka_call_pop ?k1 ?k2 ?k3 ?k4 ?k5 ?k6 ?_; (case k1 => k_asm); (case k2 => k_asm); (case k3 => k_asm); (case k4 => k_mem); (case k5 => k_upd); (case k6 => assumption); k_whole; intro _ _ _; (try k_sweep)))
  k_with "callWith ref" => (k_here; k_dflt (refine' ka_callWith0 ?k1 ?k2 ?k3 ?k4 ?k5 ?_; (case k1 => k_asm); (case k2 => k_mem); (case k3 => exact rfl); (case k4 => exact rfl); (case k5 => exact rfl); k_whole; try dsimp only [List.nil_append, List.cons_append]))
  k_with "wpAt" => (dsimp only)
  k_with "wpAt" => (ks_step "execs cons"; refine ks_wpAt_execs_cons ?_)
  k_with "wpAt" => (ks_step "exec Expr"; k_dflt (refine ks_wpAt_Expr_any ?_))
  k_with "wpAt" => (ks_step "exec Return"; refine ks_wpAt_Return_some ?_)
  k_with "wpAt" => (ks_step "exec If"; k_dflt (refine ks_wpAt_If ?_))
  k_with "wpAt" => (ks_step "eval Call"; k_dflt (refine ks_wpAt_MethodCall ?_))
  k_with "wpAt" => (ks_step "attributeBase Call"; k_here; k_dflt (refine ks_node (by k_asm) (by k_asm) (by k_asm) (by k_asm) (by k_is) (by rfl) (by rfl) (acc_inst (news_at (by k_asm) (by k_mem)) (news_at (by k_asm) (by k_mem))) (by k_is) (by rfl) (by first | rfl | decide +kernel) (by k_is) (by k_is) (by k_is) (by k_is) (by decide) (by rfl) (by rfl) (by rfl) (by rfl) (by decide +kernel) (by first | boot_by_name | rfl | kernel_rfl) ?_; intro _ _ _ _ l1; (try k_lt l1)))
  k_with "setAttr ref" => (k_here; k_dflt (refine' ka_setIS0 ?k1 ?k2 ?k3 ?k4 ?k5 ?_; (case k1 => k_asm); (case k2 => k_asm); (case k3 => k_asm); (case k4 => k_mem); (case k5 => k_upd); k_whole; intro _ _ _; (try k_sweep)))
  k_with "mine out" => (first | exact so_nil | (refine so_fp ?za ?zb; (case za => k_mem); (case zb => walk_at "mine out")) | (refine so_in ?za ?zb; (case za => k_mem); (case zb => walk_at "mine out")))
  k_with "execs cons" => ((with_reducible refine wpAny_execs_cons ?_); (try dsimp only); (try (refine tk_any ?_; intro _)); (try k_fold))
  trivial
theorem kept_fresh {fp : List Addr} {h h1 h' : Heap} (K1 : KeptBut [] h h1) (K2 : KeptBut fp h1 h') (hf : ∀ b ∈ fp, h.get? b = none) : KeptBut [] h h' := fun b o _ e =>
  K2 b o (fun hb => by rw [hf b hb] at e; cases e) (K1 b o (by simp) e)
theorem mk_cl (w : World) (mean : ExcName → Option Value) (mg mb : Str → Option Value) (z : Int) (tz : Tok) :
  ROM w mean mg mb 207 [] (fun _ => True) [] [.int z tz] (fun h v h' => ∃ x dx n kt k, v = .ref x ∧ h.get? x = none ∧ h.get? dx = none ∧ h'.get? x = some (accO dx #[] n) ∧ h'.get? dx = some (iniO w kt (.int z tz) k)) 14 120 := by
  delta ROM PR; k_fill
  intro dp un gd cn cs a ccd cl outer A₀ base h₀ L m s Q E B F KX N T hk HP hdp hun hret
  refine wpAny_call (ka_make F KX N ?_)
  intro x dx h1 F1 N1 l1 l2 fx fd K1
  have hne : @Ne Nat x dx := Nat.ne_of_gt l2
  have hne' : @Ne Nat dx x := hne.symm
  w_strict (walk_at "mine enterS"; k_steps)
  exact hret _ _ _ ⟨x, dx, _, _, _, rfl, fx, fd, news_at (by assumption) (by k_mem), news_at (by assumption) (by k_mem)⟩ (by assumption) (kept_fresh K1 (kept_mut [x, dx] N1 (by assumption) (Fr.keep (by assumption)) (sub_out (by assumption) (by walk_at "mine out"))) (by simpa using ⟨fx, fd⟩))
end Mine
end
section
open PySem PySem.W PySem.Calls PyProof.Rows PySem.Builtin
set_option Elab.async false
set_option maxRecDepth 100000
namespace Mine
theorem passing_all (n : Nat) : passing (fun _ => true) n 0 = List.range n := by
  unfold passing; simp

theorem walks_mono {prog : Program} {w : World} {A : Around} {I : Addr} {fp wr : List Addr} {G : Array GenState → Array GenState → Prop} {n : Nat} {P P' : Nat → Value → Prop} {St : Nat → Shared → Prop} (h : ∀ i v, P i v → P' i v)
    (W : WalksS prog w A I fp wr G n P St) : WalksS prog w A I fp wr G n P' St where
  sub := W.sub
  grefl := W.grefl
  gtrans := W.gtrans
  frame := W.frame
  item := fun i s Q E hi st hQ => W.item i s Q E hi st fun v s' hv => hQ v s' (h i v hv)
  done := W.done
  self := W.self

noncomputable def GenV (w : World) (A : Around) (lim a n : Nat) (Fy : Nat → Value → Prop) (s : Shared) : Prop :=
  ∃ fp wr g St, WalksS PR w A.in4 a fp wr (GenOnlyQ g) n Fy St ∧ St 0 s ∧ (∀ i s', St i s' → s'.TypeIs (.ref a) "generator") ∧ a ∈ fp ∧ (∀ b ∈ fp, b < s.heap.objs.size) ∧ ∀ b ∈ wr, lim ≤ b

noncomputable def PairsAt (h : Heap) (its : Array Value) (vals : List (Value × Value)) : Prop := its.size = vals.length ∧ ∀ (j : Nat) p, vals[j]? = some p → ∃ T, its[j]? = some (.ref T) ∧ h.IsTuple T #[p.1, p.2]

section
variable {w : World} {A : Around} {E : Value → Shared → Prop} {s : Shared} {x dx L c P : Addr} {h₀ : Heap} {m mg mb : Str → Option Value} {mean : ExcName → Option Value} {its ps : Array Value} {n : Nat} {news : List (Addr × Obj)}

theorem gen_self {env : Env} {elt iter : Expr} {xa xb : Str} {pa pb pt : Pos} {kt : Nat} {scope : Scope} {pos : Pos} {Q : Value → Shared → Prop} (vals : List (Value × Value)) (Fy : Nat → Value → Prop)
    (F : Fr h₀ L s.heap m) (X₀ : (hd.heap_1 w.params).In h₀) (N : News h₀ L s.heap news) (T : Top VW LS mean mg mb h₀) (G : AllBare s.gens) (hx : (x, accO dx its n) ∈ news) (hP : (P, tabObj ps) ∈ news) (htr : TriplesOk ps.toList) (C : CodeHd s.heap c P)
    (hcode : env.code = .ref c) (hgl : env.globals = mainGlobals) (hh : A.handled = none) (hco : scope.isCoroutine = false) (hclos : closureFor scope env = pure []) (hcell : ∀ y ∈ scope.names, y.2 ≠ .cell) (h0 : scope.names.lookup (".0" : Str) = some NameKind.local)
    (hxa : scope.names.lookup xa = some .local) (hxb : scope.names.lookup xb = some .local) (hab : xa ≠ xb) (hkind : scope.kind = .function) (hroom : A.depth < recursionLimit)
    (hself : ∀ (Q' : Value → Shared → Prop), Q' (.ref x) s → wpAny (model PR w) A (eval iter env) Q' E s) (hV : PairsAt s.heap its vals)
    (helt : ∀ (A' : Around) E' (i : Nat) (p : Value × Value) (C' : Addr) (cv : Value) (s₂ : Shared) m₂, A'.handled = none → vals[i]? = some p → Fr h₀ C' s₂.heap m₂ → m₂ xa = some p.1 → m₂ xb = some p.2 →
      wpAny (model PR w) A' (eval elt (genEnv scope [] C' cv builtinsNs env)) (fun y s₃ => Fy i y ∧ Keeps s₂ s₃) E' s₂)
    (hQ : ∀ a h' tk gs, Fr h₀ L h' m → KeptBut [P] s.heap h' → (∃ ps', TriplesOk ps'.toList ∧ h'.get? P = some (tabObj ps')) → AllBare gs → GenV w A s.heap.objs.size a vals.length Fy { s with heap := h', toks := tk, gens := gs } → Q (.ref a) { s with heap := h', toks := tk, gens := gs })
    (hs : ∀ x, genFold iter env x = pure x) :
    wpAny (model PR w) A (eval (.GeneratorExp elt [⟨.Tuple [.Name xa pa, .Name xb pb] kt pt, iter, [], 0⟩] scope pos) env) Q E s := by
  have X := X₀.keeps F.keep
  have hPg := (N _ hP).1
  have hxg := (N _ hx).1
  obtain ⟨bm, ob, M⟩ := bmod_of_top T
  have hlim : s.heap.NoLimit := T.nolimit.keeps F.keep
  refine wpAny_GeneratorExp_walksQT hh hco hclos hcell h0 hxa hxb hab hkind hroom (hself _ (acc_iter X hxg ⟨hlim.push _, ?_⟩)) hs
  -- the heap with the iterator
  have upI : ∀ b o, s.heap.get? b = some o → (s.heap.push { cls := .type "list_iterator", data := .fields #[.ref x, .int 0 0] }).get? b = some o := fun b o e => Heap.get?_push_of_some _ e
  have hPI := upI _ _ hPg
  have CI := C.keeps upI
  -- the code
  have step : ∀ (Q' : Value → Shared → Prop), (∀ cv h₃ tk, Heap.ExtBut P (s.heap.push { cls := .type "list_iterator", data := .fields #[.ref x, .int 0 0] }) h₃ → (s.heap.push { cls := .type "list_iterator", data := .fields #[.ref x, .int 0 0] }).objs.size ≤ h₃.objs.size → (∃ ps', TriplesOk ps'.toList ∧ h₃.get? P = some (tabObj ps')) →
      Q' cv { s with heap := h₃, toks := tk }) → wpAny (model PR w) A (genexprCode env pos (env.qual ++ "<genexpr>") scope) Q' E { s with heap := s.heap.push { cls := .type "list_iterator", data := .fields #[.ref x, .int 0 0] } } := by
    intro Q' hq
    cases hf : codeAmong pos ps.toList with
    | some cv => exact wpAny_genexprCode_hit hcode (CI.code hPI htr) hf (hq cv _ _ (fun b o _ e => e) (Nat.le_refl _) ⟨ps, htr, hPI⟩)
    | none =>
      refine wpAny_genexprCodeX hcode (CI.code hPI htr) (CI.tab hPI) hf fun c' h₃ tk hx₃ hge hlt hcode₃ _ htab₃ _ => hq _ _ _ hx₃ (Nat.le_trans hge (Nat.le_of_lt hlt)) ⟨_, ?_, htab₃.2⟩
      exact exE10 hcode₃ fun _ _ _ _ _ _ _ _ _ _ q => q.2.2.2.2.2.2.2.2.2.1
  refine step _ fun cv h₃ tk₃ hx₃ hsz₃ hT₃ => ?_
  have up₃ : ∀ b o, b ≠ P → s.heap.get? b = some o → h₃.get? b = some o := fun b o hb e => hx₃ b o hb (upI b o e)
  have hP0 : h₀.get? P = none := (N _ hP).2.2
  have keep₃ : ∀ b o, h₀.get? b = some o → h₃.get? b = some o := fun b o e => up₃ b o (fun q => by rw [q, hP0] at e; cases e) (F.keep b o e)
  have M₃ := M.keeps keep₃
  rw [hgl]
  refine wpAny_builtinsFor M₃.ns M₃.name M₃.ne M₃.obj M₃.cls M₃.dict M₃.data ?_
  have hl₃ : h₃.NoLimit := T.nolimit.keeps keep₃
  -- the walk over the items
  obtain ⟨hlen, hvals⟩ := hV
  let Ts : Nat → Addr := fun j => match its[j]? with | some (.ref a) => a | _ => 0
  let vl : Nat → Array Value := fun j => match vals[j]? with | some p => #[p.1, p.2] | none => #[.none, .none]
  have hTs : ∀ j, j < its.size → its[j]? = some (.ref (Ts j)) ∧ s.heap.IsTuple (Ts j) (vl j) := by
    intro j hj
    obtain ⟨p, hp⟩ : ∃ p, vals[j]? = some p := ⟨vals[j]'(hlen ▸ hj), List.getElem?_eq_getElem (hlen ▸ hj)⟩
    obtain ⟨a, h1, h2⟩ := hvals j p hp
    have e1 : Ts j = a := by simp only [Ts, h1]
    have e2 : vl j = #[p.1, p.2] := by simp only [vl, hp]
    rw [e1, e2]
    exact ⟨h1, h2⟩
  have hlt : ∀ {b o}, s.heap.get? b = some o → b < s.heap.objs.size := fun e => Heap.lt_size e
  have hTlt : ∀ j, j < its.size → Ts j < s.heap.objs.size := fun j hj => by obtain ⟨_, e, _⟩ := (hTs j hj).2; exact hlt e
  have hxI : x ≠ s.heap.objs.size := Nat.ne_of_lt (hlt hxg)
  have hxP : x ≠ P := fun e => by rw [e, hPg] at hxg; cases hxg
  have hTP : ∀ j, j < its.size → Ts j ≠ P := fun j hj e => by obtain ⟨o, eo, ec, _⟩ := (hTs j hj).2; rw [e, hPg] at eo; cases eo; cases ec
  have hIP : s.heap.objs.size ≠ P := Nat.ne_of_gt (hlt hPg)
  have W := fun (A' : Around) (hA : A'.handled = none) => walk_acc (w := w) hA s.heap.objs.size x hxI its Ts vl (fun j hj => (hTs j hj).1) (fun j hj => Nat.ne_of_lt (hTlt j hj))
  have hsz : s.heap.objs.size < h₃.objs.size := Nat.lt_of_lt_of_le (by rw [Heap.size_push]; exact Nat.lt_succ_self _) hsz₃
  have st0 : h₃.IsListIter s.heap.objs.size x 0 ∧ SeqAt h₃ x its ∧ ∀ k, k < its.size → h₃.IsTuple (Ts k) (vl k) :=
    ⟨⟨_, hx₃ _ _ hIP (Heap.get?_push_size _ rfl), rfl, rfl⟩, ⟨_, _, up₃ _ _ hxP hxg, rfl⟩, fun k hk => (hTs k hk).2.at fun o e => up₃ _ _ (hTP k hk) e⟩
  refine exI9 s.heap.objs.size (s.heap.objs.size :: x :: (List.range its.size).map Ts) [s.heap.objs.size] its.size (fun j v => j < its.size ∧ v = vl j) _ _ (fun _ => true) Fy ⟨rfl, (fun A' hA => (W A' hA).bound), ?_, st0, ?_, hl₃, ?_, ?_, ?_⟩
  · rintro i v ⟨hi, rfl⟩
    obtain ⟨p, hp⟩ : ∃ p, vals[i]? = some p := ⟨vals[i]'(hlen ▸ hi), List.getElem?_eq_getElem (hlen ▸ hi)⟩
    exact ⟨p.1, p.2, by simp only [vl, hp]⟩
  · intro b hb
    rcases List.mem_cons.mp hb with rfl | hb
    · exact hsz
    · rcases List.mem_cons.mp hb with rfl | hb
      · exact Nat.lt_trans (hlt hxg) hsz
      · obtain ⟨k, hk, rfl⟩ := List.mem_map.mp hb
        exact Nat.lt_trans (hTlt k (List.mem_range.mp hk)) hsz
  · intro hm
    have hc : cStatics < s.heap.objs.size := let ⟨_, hn, _⟩ := hlim; hn.lt
    exact Nat.ne_of_lt hc (List.mem_singleton.mp hm)
  · intro href hr
    have fr : ∀ (s₂ : Shared) m₂, s₂.heap.Ns h₃.objs.size m₂ → (∀ b ∈ List.range h₃.objs.size, b ∉ [s.heap.objs.size] → ∀ o, href.get? b = some o → s₂.heap.get? b = some o) → Fr h₀ h₃.objs.size s₂.heap m₂ := fun s₂ m₂ hn hk =>
      ⟨hn, fun b o e => hk b (List.mem_range.mpr (Heap.lt_size (keep₃ b o e))) (by
        have := hlt (F.keep b o e)
        simpa using Nat.ne_of_lt this) o (hr b o (keep₃ b o e)), Nat.le_of_lt (Nat.lt_of_le_of_lt F.above (Nat.lt_trans F.ns.lt hsz))⟩
    have vp : ∀ i va vb, (i < its.size ∧ (#[va, vb] : Array Value) = vl i) → ∃ p, vals[i]? = some p ∧ va = p.1 ∧ vb = p.2 := by
      rintro i va vb ⟨hi, e⟩
      obtain ⟨p, hp⟩ : ∃ p, vals[i]? = some p := ⟨vals[i]'(hlen ▸ hi), List.getElem?_eq_getElem (hlen ▸ hi)⟩
      simp only [vl, hp] at e
      have := congrArg Array.toList e
      simp at this
      exact ⟨p, hp, this.1, this.2⟩
    constructor
    · intro A' E' i va vb s₂ m₂ hA hPt hn ha hb hk
      exact wpAny_pure ⟨rfl, _, _, rfl, fun b o e => e⟩
    · intro A' E' i va vb s₂ m₂ hA hPt _ hn ha hb hk
      obtain ⟨p, hp, rfl, rfl⟩ := vp i va vb hPt
      exact helt A' E' i p _ cv s₂ m₂ hA hp (fr s₂ m₂ hn hk) ha hb
  · intro a h₅ tk gs hgb hag hsz₅ hk₅ W₅ hat
    have F₅ : Fr h₀ L h₅ m := kept_fr (fp := [P]) F (fun b o hb e => hk₅ b o (up₃ b o (by simpa using hb) e)) (by simpa using (N _ hP).2.1.symm) (by intro b hb; rw [List.mem_singleton.mp hb]; exact hP0)
    refine hQ a h₅ tk _ F₅ (fun b o hb e => hk₅ b o (up₃ b o (by simpa using hb) e)) (let ⟨ps', t, e⟩ := hT₃; ⟨ps', t, hk₅ _ _ e⟩) (G.push hgb) ⟨a :: h₃.objs.size :: List.range h₃.objs.size, h₃.objs.size :: [s.heap.objs.size], s.gens.size, _, ?_, hat, (fun i s' st => st.1.typeIs), List.mem_cons_self, ?_, ?_⟩
    · rw [passing_all, List.length_range] at W₅
      rw [← hlen]
      refine walks_mono (fun j y hj => ?_) W₅
      obtain ⟨i, hi, hy⟩ := hj
      obtain ⟨h1, h2⟩ := List.getElem?_eq_some_iff.mp hi
      rw [List.getElem_range] at h2
      exact h2 ▸ hy
    · intro b hb
      show b < h₅.objs.size
      rw [hsz₅]
      rcases List.mem_cons.mp hb with rfl | hb
      · exact Nat.lt_succ_self _
      · rcases List.mem_cons.mp hb with rfl | hb
        · exact Nat.lt_succ_of_lt hag
        · exact Nat.lt_succ_of_lt (Nat.lt_trans (List.mem_range.mp hb) hag)
    · intro b hb
      rcases List.mem_cons.mp hb with rfl | hb
      · exact Nat.le_of_lt hsz
      · rw [List.mem_singleton.mp hb]; exact Nat.le_refl _
end
end Mine
end
section
open PySem PySem.W PySem.Calls PyProof.Rows PySem.Builtin
set_option Elab.async false
set_option maxRecDepth 100000
namespace Mine
section
variable {prog : Program} {w : World} {A : Around} {E : Value → Shared → Prop} {s : Shared} {I : Addr} {fp wr : List Addr} {G : Array GenState → Array GenState → Prop} {n : Nat} {P : Nat → Value → Prop} {St : Nat → Shared → Prop}

theorem walks_shift (W : WalksS prog w A I fp wr G n P St) : WalksS prog w A I fp wr G (n + 1) (fun i v => ∃ j, i = j + 1 ∧ P j v) (fun i s => ∃ j, i = j + 1 ∧ St j s) where
  sub := W.sub
  grefl := W.grefl
  gtrans := W.gtrans
  frame := fun i s h' tk ⟨j, e, st⟩ ht hk => ⟨j, e, W.frame j s h' tk st ht hk⟩
  item := fun i s Q E hi ⟨j, e, st⟩ hQ => W.item j s Q E (by omega) st fun v s' hv st' hm => hQ v s' ⟨j, e, hv⟩ ⟨j + 1, by omega, st'⟩ hm
  done := fun s Q E ⟨j, e, st⟩ hQ => W.done s Q E (by have e' : n = j := Nat.succ.inj e; rw [e']; exact st) hQ
  self := fun i s Q E ⟨j, e, st⟩ hQ => W.self j s Q E st hQ

noncomputable def shiftV (z : Int) (val : Nat → Int) : Nat → Int
  | 0 => z
  | j + 1 => val j
theorem preSum_shift (z : Int) (val : Nat → Int) : ∀ n, preSum (shiftV z val) (n + 1) = z + preSum val n
  | 0 => by simp [preSum, shiftV]
  | n + 1 => by
    have ih := preSum_shift z val n
    show preSum (shiftV z val) (n + 1) + shiftV z val (n + 1) = z + (preSum val n + val n)
    rw [ih]
    simp only [shiftV]
    omega

theorem args_sum2 (a b : Value) : argsOk "sum" ⟨[a, b], []⟩ := by unfold argsOk; kernel_rfl

theorem sum_start {z : Int} {tz : Tok} {val : Nat → Int} {Q : Value → Shared → Prop} (W : WalksS prog w A.in1 I fp wr G n P St) (hst : St 0 s) (hfp : ∀ b ∈ fp, b < s.heap.objs.size)
    (hval : ∀ i v, P i v → ∃ t, v = .int (val i) t) (hQ : ∀ s' t', Moved wr G s s' → Q (.int (z + preSum val n) t') s') : wpAny (model prog w) A (call (.builtin "sum") [.ref I, .int z tz]) Q E s := by
  refine call_function_tree PySem.F.kind_sum PySem.F.plain_sum PySem.F.entry_sum (args_sum2 _ _) ?_
  unfold Builtin.«sum»
  simp only [List.length_cons, List.length_nil]
  rw [if_neg (by decide)]
  refine wpAny_bind (wpAny_of_eq (show Builtin.Builtins.bindParams "sum" ["start"] 0 ⟨[.int z tz], []⟩ = pure [some (.int z tz)] from rfl) ?_)
  refine wpAny_bind (W.self 0 s _ _ hst ?_)
  dsimp only
  have W' := walks_shift W
  have hv' : ∀ i v, (∃ j, i = j + 1 ∧ P j v) → ∃ t, v = .int (shiftV z val i) t := by
    rintro i v ⟨j, rfl, hp⟩
    exact hval j v hp
  have hSf : s.heap.objs.size ∉ fp := fun hm => Nat.lt_irrefl _ (hfp _ hm)
  have e1 : preSum (shiftV z val) 1 = z := by rw [preSum_shift]; simp [preSum]
  have go : ∀ (tk : Nat) (tA : Tok) (st : Int), (st = 0 ∨ st = 2) → s.toks ≤ tk → codeAny (model prog w) A (.builtin "sum.loop" ⟨[.ref I, .ref s.heap.objs.size, rawInt st, rawInt 0], []⟩) (fun r s' => match r with | .ok (.ret v) => Q v s' | .ok _ => False | .error e => E e s')
      { s with heap := s.heap.push { cls := .type "list", data := .seq #[.int z tA] }, toks := tk } := by
    intro tk tA st hst' htk
    refine codeAny_sum_loopAnyS W' (shiftV z val) hv' s.heap.objs.size hSf n 1 _ tA 0 st hst' (by omega) (by omega) ⟨0, rfl, W.frame 0 s _ _ hst htk fun b _ o e => Heap.get?_push_of_some _ e⟩ (by rw [e1]; exact Heap.get?_push_size _ rfl) fun s' t' hm => ?_
    show Q _ s'
    rw [preSum_shift]
    exact hQ s' t' (hm.drop_new htk)
  split
  · refine wpAny_bind (wpAny_rule (wpAny_bind (wpAny_mkInt (wpAny_bind (wpAny_pure ?_)))))
    simp only [List.forIn_cons, List.forIn_nil]
    refine wpAny_bind (wpAny_bind (wpAny_bind (wpAny_isInstance (T := "int") (b := false) (typeIs_int _ _ _) PySem.F.sub_int_str ?_)))
    simp only [Bool.false_eq_true, if_false]
    refine wpAny_pure (wpAny_bind (wpAny_bind (wpAny_isInstance (T := "int") (b := false) (typeIs_int _ _ _) PySem.F.sub_int_bytes ?_)))
    simp only [Bool.false_eq_true, if_false]
    refine wpAny_pure (wpAny_bind (wpAny_bind (wpAny_isInstance (T := "int") (b := false) (typeIs_int _ _ _) PySem.F.sub_int_bytearray ?_)))
    simp only [Bool.false_eq_true, if_false]
    refine wpAny_pure (wpAny_pure ?_)
    refine wpAny_bind (wpAny_newObj_type ?_)
    exact wpAny_pure ⟨plainId_quiet PySem.F.plain_sum_loop _, go _ _ _ (.inl rfl) (Nat.le_succ _)⟩
  · refine wpAny_bind (wpAny_pure ?_)
    simp only [List.forIn_cons, List.forIn_nil]
    refine wpAny_bind (wpAny_bind (wpAny_bind (wpAny_isInstance (T := "int") (b := false) (typeIs_int _ _ _) PySem.F.sub_int_str ?_)))
    simp only [Bool.false_eq_true, if_false]
    refine wpAny_pure (wpAny_bind (wpAny_bind (wpAny_isInstance (T := "int") (b := false) (typeIs_int _ _ _) PySem.F.sub_int_bytes ?_)))
    simp only [Bool.false_eq_true, if_false]
    refine wpAny_pure (wpAny_bind (wpAny_bind (wpAny_isInstance (T := "int") (b := false) (typeIs_int _ _ _) PySem.F.sub_int_bytearray ?_)))
    simp only [Bool.false_eq_true, if_false]
    refine wpAny_pure (wpAny_pure ?_)
    refine wpAny_bind (wpAny_newObj_type ?_)
    exact wpAny_pure ⟨plainId_quiet PySem.F.plain_sum_loop _, go _ _ _ (.inr rfl) (Nat.le_refl _)⟩
end
end Mine
end
section
open PySem PySem.W PySem.Calls PyProof.Rows
set_option Elab.async false
set_option maxRecDepth 100000
namespace Mine
section
variable {w : World} {mean : ExcName → Option Value} {mg mb : Str → Option Value} {qn : Str} {cs0 : Scope} {L0 a0 : Addr} {cd0 : Value} {scope : Scope} {A' : Around} {E' : Value → Shared → Prop} {C' : Addr} {cv : Value} {s₂ : Shared} {m₂ : Str → Option Value} {h₀ : Heap}

theorem ge_global {x : Str} {v : Value} {p : Pos} {Q : Value → Shared → Prop} (F : Fr h₀ C' s₂.heap m₂) (X : (hd.heap_1 w.params).In h₀) (T : Top VW LS mean mg mb h₀) (hk : scope.kind = .function) (l : scope.names.lookup x = some .globalImplicit)
    (e : nsIn (hd.heap_1 w.params) mainGlobals x = some none) (hv : bootBuiltins x = some v) (hn : x ≠ "__name__") (hd' : (x == ("__debug__" : Str)) = false) (h : Q v s₂) :
    wpAny (model PR w) A' (eval (.Name x p) (genEnv scope [] C' cv builtinsNs (envOf qn cs0 L0 a0 cd0))) Q E' s₂ :=
  Name_function_global (env := genEnv scope [] C' cv builtinsNs (envOf qn cs0 L0 a0 cd0)) hk l (Calls.loadGlobal_builtin (T.g.keeps F.keep) (mg_none_of X T.g e) (T.b.keeps F.keep) ((T.builtins x hn).trans hv) h) hd'
theorem ge_local {x : Str} {v : Value} {p : Pos} {Q : Value → Shared → Prop} (F : Fr h₀ C' s₂.heap m₂) (hk : scope.kind = .function) (l : scope.names.lookup x = some .local) (hv : m₂ x = some v) (hd' : (x == ("__debug__" : Str)) = false) (h : Q v s₂) :
    wpAny (model PR w) A' (eval (.Name x p) (genEnv scope [] C' cv builtinsNs (envOf qn cs0 L0 a0 cd0))) Q E' s₂ :=
  wpAny_Name (wpAny_loadName_local (env := genEnv scope [] C' cv builtinsNs (envOf qn cs0 L0 a0 cd0)) hk l F.ns hv h) hd'

theorem len_elt {f p : Str} {tf tp : Tok} {p1 p2 p3 p4 p5 p6 p7 : Pos} (F : Fr h₀ C' s₂.heap m₂) (X : (hd.heap_1 w.params).In h₀) (T : Top VW LS mean mg mb h₀) (hk : scope.kind = .function)
  (ha : m₂ (Str.ofString "fws") = some (.str f tf)) (hb : m₂ (Str.ofString "part") = some (.str p tp)) (l1 : scope.names.lookup (Str.ofString "fws") = some .local) (l2 : scope.names.lookup (Str.ofString "part") = some .local) (l3 : scope.names.lookup (Str.ofString "len") = some .globalImplicit)
  (hf : f.length ≤ 1000) (hp : p.length ≤ 1000) :
  wpAny (model PR w) A' (eval (.BinOp (.Call (.Name (Str.ofString "len") p1) [.Name (Str.ofString "fws") p2] [] p3) .Add (.Call (.Name (Str.ofString "len") p4) [.Name (Str.ofString "part") p5] [] p6) p7) (genEnv scope [] C' cv builtinsNs (envOf qn cs0 L0 a0 cd0)))
    (fun y s₃ => (∃ t, y = .int ((f.length + p.length : Nat) : Int) t) ∧ Keeps s₂ s₃) E' s₂ := by
  have hlen : nsIn (hd.heap_1 w.params) mainGlobals (Str.ofString "len") = some none := by kernel_rfl
  have hbl : bootBuiltins (Str.ofString "len") = some (.builtin "len") := by kernel_rfl
  refine wpAny_BinOp (Call_Name1 (ge_global F X T hk l3 hlen hbl (by decide +kernel) (by decide +kernel) ?_))
  refine PySem.callWith_builtin1 (ge_local F hk l1 ha (by decide +kernel) ?_)
  refine len_str (by omega) ?_
  have F2 : Fr h₀ C' ({ s₂ with toks := s₂.toks + 1 + 1 } : Shared).heap m₂ := F
  refine Call_Name1 (ge_global F2 X T hk l3 hlen hbl (by decide +kernel) (by decide +kernel) ?_)
  refine PySem.callWith_builtin1 (ge_local F2 hk l2 hb (by decide +kernel) ?_)
  refine len_str (by omega) ?_
  refine wpAny_add_int ⟨⟨_, by rw [Int.natCast_add]⟩, _, _, rfl, fun b o e => e⟩
end
end Mine
end
section
open PySem PySem.W PySem.Builtin PyProof.Rows
set_option Elab.async false
set_option maxRecDepth 100000
set_option maxHeartbeats 8000000
set_option pp.deepTerms false
set_option pp.deepTerms.threshold 6
set_option pp.maxSteps 3000
set_option pp.proofs false
namespace Mine



theorem rows_AM6_1 : True := by
  k_with_none
  w_top off
  k_with "mine enter" => (k_dflt (refine' code_defG ?k1 ?k2 ?k3 ?k4 ?k5 ?kA ?kF ?kK ?k6 ?k7 ?k8 ?k9 ?kB ?_ ?c2 ?c3 ?c4 ?c5; (case kA => exact rfl); (case kF => exact rfl); (case kK => assumption); (case k1 => k_asm); (case k2 => k_asm); (case k3 => k_asm); (case k4 => k_asm); (case k5 => k_asm); (case k6 => k_is); (case k7 => k_is); (case k8 => first | exact room0 (by assumption) | ktr_room); (case k9 => first | exact BindsTo.of_eq rfl | exact binds_K (by k_in) rfl (by k_is) rfl rfl rfl); (case c5 => decide); (case kB => exact locs rfl); (case c2 => exact rfl); (case c3 => exact rfl); (case c4 => exact rfl); k_whole; intro _ _ _ _ _ _ B' _ _ _; (try dsimp only); (try k_lift B'); (try k_fold)))
  k_with "getMethod ref" => (k_here; k_dflt (refine' ka_method ?k1 ?k2 ?k3 ?k4 ?k5 ?k6 ?k7 ?k8 ?_; (case k1 => k_asm); (case k2 => k_asm); (case k3 => k_asm); (case k4 => k_mem); (case k5 => k_mem); (case k6 => k_is); (case k7 => kernel_rfl); (case k8 => exact rfl); k_whole))
  k_with "call builtin:list.append" => (k_here; k_dflt (refine' ka_append ?k1 ?k2 ?k3 ?k4 ?k5 ?_; (case k1 => k_asm); (case k2 => k_asm); (case k3 => k_asm); (case k4 => k_upd); (case k5 => assumption); k_whole; intro _ _ _; (try k_sweep)))
  k_with "mine enterS" => (k_dflt (refine' enterS ?k1 ?k2 ?k3 ?k4 ?k5 ?kA ?kF ?kK ?k6 ?k7 ?k8 ?k9 ?kB ?_ ?c1 ?c2 ?c3 ?c4; (case kA => exact rfl); (case kF => exact rfl); (case kK => assumption); (case k1 => k_asm); (case k2 => k_asm); (case k3 => k_asm); (case k4 => k_asm); (case k5 => k_asm); (case k6 => k_is); (case k7 => k_is); (case k8 => first | exact room0 (by assumption) | ktr_room); (case k9 => exact BindsTo.of_eq rfl); (case kB => exact locs rfl); (case c1 => decide); (case c2 => exact rfl); (case c3 => exact rfl); (case c4 => exact rfl); k_whole; intro _ _ _ _ _ _ B' _ _ l1 _; (try k_lt l1); (try dsimp only); (try k_lift B'); (try k_fold)))
  k_with "getMethod ref" => (k_here; (with_reducible show wpAny _ _ (getMethod (Value.ref _) (PySem.Str.ofString "__len__") _) _ _ _); k_dflt (refine' ka_sup_len ?k1 ?k2 ?k3 ?k4 ?k5 ?_; (case k1 => k_asm); (case k2 => k_asm); (case k3 => k_asm); (case k4 => k_mem); (case k5 => k_mem); k_whole; intro _ _ _ _ l1; (try k_lt l1)))
  k_with "getMethod ref" => (k_here; (with_reducible show wpAny _ _ (getMethod (Value.ref _) (PySem.Str.ofString "__init__") _) _ _ _); k_dflt (refine' ka_sup_init ?k1 ?k2 ?k3 ?k4 ?k5 ?_; (case k1 => k_asm); (case k2 => k_asm); (case k3 => k_asm); (case k4 => k_mem); (case k5 => k_mem); k_whole; intro _ _ _ _ l1; (try k_lt l1)))
  k_with "getMethod ref" => (k_here; (with_reducible show wpAny _ _ (getMethod (Value.ref _) (PySem.Str.ofString "pop") _) _ _ _); k_dflt (refine' ka_sup_pop ?k1 ?k2 ?k3 ?k4 ?k5 ?_; (case k1 => k_asm); (case k2 => k_asm); (case k3 => k_asm); (case k4 => k_mem); (case k5 => k_mem); k_whole; intro _ _ _ _ l1; (try k_lt l1)))
  k_with "call ref" => (k_here; k_dflt (refine' ka_call_len ?k1 ?k2 ?k3 ?_; (case k1 => k_asm); (case k2 => k_mem); (case k3 => k_mem); k_whole; intro _ _))
  k_with "call ref" => (k_here; k_dflt (refine' ka_call_init ?k1 ?k2 ?k3 ?k4 ?_; (case k1 => k_asm); (case k2 => k_asm); (case k3 => k_mem); (case k4 => k_upd); k_whole; intro _ _ _; (try k_sweep)))
  k_with "call ref" => (k_here; k_dflt (refine' ka_call_pop ?k1 ?k2 ?k3 ?k4 ?k5 ?k6 ?_; (case k1 => k_asm); (case k2 => k_asm); (case k3 => k_asm); (case k4 => k_mem); (case k5 => k_upd); (case k6 => assumption); k_whole; intro _ _ _; (try k_sweep)))
  k_with "callWith ref" => (k_here; k_dflt (refine' ka_callWith0 ?k1 ?k2 ?k3 ?k4 ?k5 ?_; (case k1 => k_asm); (case k2 => k_mem); (case k3 => exact rfl); (case k4 => exact rfl); (case k5 => exact rfl); k_whole; try dsimp only [List.nil_append, List.cons_append]))
  k_with "wpAt" => (dsimp only)
  k_with "wpAt" => (ks_step "execs cons"; refine ks_wpAt_execs_cons ?_)
  k_with "wpAt" => (ks_step "exec Expr"; k_dflt (refine ks_wpAt_Expr_any ?_))
  k_with "wpAt" => (ks_step "exec Return"; refine ks_wpAt_Return_some ?_)
  k_with "wpAt" => (ks_step "exec If"; k_dflt (refine ks_wpAt_If ?_))
  k_with "wpAt" => (ks_step "eval Call"; k_dflt (refine ks_wpAt_MethodCall ?_))
  k_with "wpAt" => (ks_step "attributeBase Call"; k_here; k_dflt (refine ks_node (by k_asm) (by k_asm) (by k_asm) (by k_asm) (by k_is) (by rfl) (by rfl) (acc_inst (news_at (by k_asm) (by k_mem)) (news_at (by k_asm) (by k_mem))) (by k_is) (by rfl) (by first | rfl | decide +kernel) (by k_is) (by k_is) (by k_is) (by k_is) (by decide) (by rfl) (by rfl) (by rfl) (by rfl) (by decide +kernel) (by first | boot_by_name | rfl | kernel_rfl) ?_; intro _ _ _ _ l1; (try k_lt l1)))
  k_with "call ref" => (k_here; k_dflt (show wpAny _ _ (call (Value.ref 204) [Value.ref _]) _ _ _); (rename News _ _ _ _ => nN); k_dflt (refine' ROM.use (count_cl _ _ _ _ _ _ _ _ _ _ _) ?fB ?fF ?fX nN ?fS ?fT ?fk ?fP ?fd ?fu ?_; (case fB => k_asm); (case fF => k_asm); (case fX => k_asm); (case fT => k_asm); (case fk => exact rfl); (case fP => trivial); (case fd => first | exact room_le (by assumption) rfl | ktr_room); (case fu => first | exact room_le (by assumption) rfl | ktr_units); (case fS => exact List.forall_mem_cons.mpr ⟨by k_mem, List.forall_mem_cons.mpr ⟨by k_mem, List.forall_mem_nil _⟩⟩); k_whole); intro _ _ _ hR9 _ K9; (obtain ⟨t9, e9⟩ := hR9); subst e9; (have N9 := kept_news nN K9); clear K9; (try dsimp only); (try k_fold))
  k_with "setAttr ref" => (k_here; k_dflt (refine' ka_setIS ?k1 ?k2 ?k3 ?k4 ?k5 ?_; (case k1 => k_asm); (case k2 => k_asm); (case k3 => k_asm); (case k4 => k_mem); (case k5 => k_upd); k_whole; intro _ _ _; (try k_sweep)))
  k_with "getAttr ref" => (k_here; k_dflt (refine' ka_getIS ?k1 ?k2 ?k3 ?k4 ?k5 ?k6 ?_; (case k1 => k_asm); (case k2 => k_asm); (case k3 => k_asm); (case k4 => k_mem); (case k5 => k_mem); (case k6 => first | rfl | assumption); k_whole))
  k_with "setItem ref ref" => (k_here; k_dflt (refine' ka_setSlice ?k1 ?k2 ?k3 ?k4 ?k5 ?k6 ?k7 ?k8 ?k9 ?ka ?_; (case k1 => k_asm); (case k2 => k_asm); (case k3 => k_asm); (case k4 => k_mem); (case k5 => k_ne); (case k6 => exact .none); (case k8 => intro n'; k_upd); (case k7 => exact set_all _ _); (case k9 => assumption); (case ka => first | assumption | simp); k_whole; intro n' _ _ N'; (try dsimp only at N'); (try k_sweep)))
  k_with "setItem ref ref" => (k_here; k_dflt (refine' ka_setSlice ?k1 ?k2 ?k3 ?k4 ?k5 ?k6 ?k7 ?k8 ?k9 ?ka ?_; (case k1 => k_asm); (case k2 => k_asm); (case k3 => k_asm); (case k4 => k_mem); (case k5 => k_ne); (case k6 => exact .int _ _); (case k8 => intro n'; k_upd); (case k7 => exact set_tail _ _); (case k9 => assumption); (case ka => first | assumption | simp); k_whole; intro n' _ _ N'; (try dsimp only at N'); (try k_sweep)))
  k_with "subscriptTail" => (k_here; k_dflt (refine' ka_tailSlice ?k1 ?k2 ?k3 ?k4 ?k5 ?k6 ?k7 ?k8 ?k9 ?ka ?_ ?kb ?kc; (case k1 => k_asm); (case k2 => k_asm); (case k3 => k_asm); (case k4 => k_mem); (case k5 => exact .int _ _); (case k6 => exact .none); (case k7 => exact .none); (case k8 => simp); (case k9 => assumption); (case ka => exact pick_tail _ _); (case kb => with_unfolding_all rfl); (case kc => intro _; with_unfolding_all rfl); k_whole; intro _ _ _ _ l1; (try k_lt l1)))
  k_with "mine out" => (first | exact so_nil | (refine so_fp ?za ?zb; (case za => k_mem); (case zb => walk_at "mine out")) | (refine so_in ?za ?zb; (case za => k_mem); (case zb => walk_at "mine out")))
  k_with "mine to" => (first | exact to_nil | (refine to_cons rfl ?zb; (case zb => walk_at "mine to")))
  trivial
noncomputable def TupsAt (h : Heap) (its : Array Value) (Ls : List (Str × Str)) : Prop := its.size = Ls.length ∧ ∀ (j : Nat) p, Ls[j]? = some p → ∃ T tf tp, its[j]? = some (.ref T) ∧ h.get? T = some (tup2 p.1 tf p.2 tp)
theorem TupsAt.keeps {h h' : Heap} {its : Array Value} {Ls : List (Str × Str)} (x : TupsAt h its Ls) (k : ∀ b f tf p tp, h.get? b = some (tup2 f tf p tp) → h'.get? b = some (tup2 f tf p tp)) : TupsAt h' its Ls :=
  ⟨x.1, fun j p e => let ⟨T, tf, tp, a, b⟩ := x.2 j p e; ⟨T, tf, tp, a, k _ _ _ _ _ b⟩⟩
theorem TupsAt.pairs {h : Heap} {its : Array Value} {Ls : List (Str × Str)} (x : TupsAt h its Ls) : ∃ vals : List (Value × Value), PairsAt h its vals ∧ vals.length = Ls.length ∧ ∀ (j : Nat) v, vals[j]? = some v → ∃ p tf tp, Ls[j]? = some p ∧ v = (.str p.1 tf, .str p.2 tp) := by
  have ch : ∀ j : Fin Ls.length, ∃ v : Value × Value, ∃ T tf tp, its[j.1]? = some (.ref T) ∧ h.get? T = some (tup2 (Ls[j.1]).1 tf (Ls[j.1]).2 tp) ∧ v = (.str (Ls[j.1]).1 tf, .str (Ls[j.1]).2 tp) := fun j => by
    obtain ⟨T, tf, tp, a, b⟩ := x.2 j.1 _ (List.getElem?_eq_getElem j.2)
    exact ⟨_, T, tf, tp, a, b, rfl⟩
  have hl : (List.ofFn fun j => Classical.choose (ch j)).length = Ls.length := by simp
  have key : ∀ (j : Nat) v, (List.ofFn fun j => Classical.choose (ch j))[j]? = some v → ∃ hj : j < Ls.length, v = Classical.choose (ch ⟨j, hj⟩) := by
    intro j v e
    obtain ⟨h1, h2⟩ := List.getElem?_eq_some_iff.mp e
    rw [List.getElem_ofFn] at h2
    exact ⟨by simpa using h1, h2.symm⟩
  refine ⟨List.ofFn fun j => Classical.choose (ch j), ⟨by rw [hl]; exact x.1, fun j p e => ?_⟩, hl, fun j v e => ?_⟩
  · obtain ⟨hj, rfl⟩ := key j p e
    obtain ⟨T, tf, tp, a, b, c⟩ := Classical.choose_spec (ch ⟨j, hj⟩)
    refine ⟨T, a, _, b, rfl, 0, ?_⟩
    rw [c]
  · obtain ⟨hj, rfl⟩ := key j v e
    obtain ⟨T, tf, tp, a, b, c⟩ := Classical.choose_spec (ch ⟨j, hj⟩)
    exact ⟨_, tf, tp, List.getElem?_eq_getElem hj, c⟩

noncomputable def totL (Ls : List (Str × Str)) : Nat := (Ls.map fun p => p.1.length + p.2.length).sum
theorem preSum_tot (Ls : List (Str × Str)) (val : Nat → Int) (h : ∀ j p, Ls[j]? = some p → val j = ((p.1.length + p.2.length : Nat) : Int)) : preSum val Ls.length = (totL Ls : Int) := by
  have key : ∀ n, n ≤ Ls.length → preSum val n = (totL (Ls.take n) : Int) := by
    intro n
    induction n with
    | zero => intro _; simp [preSum, totL]
    | succ n ih =>
      intro hn
      show preSum val n + val n = _
      have e1 : Ls.take (n + 1) = Ls.take n ++ [Ls[n]] := by rw [List.take_add_one, List.getElem?_eq_getElem (by omega)]; rfl
      have e2 : totL (Ls.take n ++ [Ls[n]]) = totL (Ls.take n) + (Ls[n].1.length + Ls[n].2.length) := by
        unfold totL
        rw [List.map_append, List.sum_append]
        simp
      rw [ih (by omega), h n (Ls[n]) (List.getElem?_eq_getElem (by omega)), e1, e2]
      omega
  rw [key _ (Nat.le_refl _), List.take_length]

noncomputable def codeHdB (K : Frag) (c P : Addr) : Bool := match K.lookup c with
  | some ⟨cl, _, .fields vs, _⟩ => cl == .type "code" && vs[11]? == some (.ref P) && vs.getD 11 .none == .ref P && (match vs.getD 18 .none with | .str _ _ => true | _ => false) && (match vs.getD 7 .none with | .int _ _ => true | _ => false) && (match vs.getD 9 .none with | .bool _ => true | _ => false) && (match vs.getD 10 .none with | .int _ _ => true | _ => false) && c != P
  | _ => false
theorem codeHd_in {K : Frag} {h : Heap} {c P : Addr} (X : K.In h) (e : codeHdB K c P = true) : CodeHd h c P := by
  unfold codeHdB at e
  split at e
  · rename_i cl d vs sl ho
    simp only [Bool.and_eq_true, beq_iff_eq, bne_iff_ne] at e
    obtain ⟨⟨⟨⟨⟨⟨⟨e1, e2⟩, e3⟩, e4⟩, e5⟩, e6⟩, e7⟩, e8⟩ := e
    have f4 : ∃ file tf, vs.getD 18 .none = .str file tf := by
      generalize vs.getD 18 .none = q at e4
      cases q <;> first | exact ⟨_, _, rfl⟩ | cases e4
    have f5 : ∃ file tf, vs.getD 7 .none = .int file tf := by
      generalize vs.getD 7 .none = q at e5
      cases q <;> first | exact ⟨_, _, rfl⟩ | cases e5
    have f6 : ∃ b, vs.getD 9 .none = .bool b := by
      generalize vs.getD 9 .none = q at e6
      cases q <;> first | exact ⟨_, rfl⟩ | cases e6
    have f7 : ∃ file tf, vs.getD 10 .none = .int file tf := by
      generalize vs.getD 10 .none = q at e7
      cases q <;> first | exact ⟨_, _, rfl⟩ | cases e7
    obtain ⟨file, tf, e4'⟩ := f4
    obtain ⟨fl, tg, e5'⟩ := f5
    obtain ⟨b, e6'⟩ := f6
    obtain ⟨tx, tt, e7'⟩ := f7
    exact ⟨_, vs, file, tf, fl, tg, b, tx, tt, X _ _ ho, e1, rfl, e2, e3, e4', e5', e6', e7', e8⟩
  · cases e

theorem tup_off {h₀ h : Heap} {L b : Addr} {f p : Str} {tf tp : Tok} {news : List (Addr × Obj)} (N : News h₀ L h news) (ho : ∀ q ∈ news, q.2.cls ≠ .type "tuple") (e : h.get? b = some (tup2 f tf p tp)) : b ∉ news.map (·.1) := by
  intro hm
  obtain ⟨q, hq, rfl⟩ := List.mem_map.mp hm
  have := (N q hq).1
  rw [e] at this
  exact ho q hq (by rw [← Option.some.inj this])

noncomputable abbrev ROG (w : World) (mean : ExcName → Option Value) (mg mb : Str → Option Value) (f : Addr) (fp : List Addr) (Pre : Heap → Prop) (news : List (Addr × Obj)) (vs : List Value) (Post : Heap → Value → Heap → Prop) (d u : Nat) : Prop :=
  ∀ (dp un : Nat) (gd : Option (List Code)) (cn : Str) (cs : Scope) (a : Addr) (ccd : Value) (cl : List (Str × Addr)) (outer : List Env) (A₀ : Around) (base h₀ : Heap) (L : Addr) (m : Str → Option Value) (s : Shared) (Q E : Value → Shared → Prop),
    Below A₀ base outer h₀ → Fr h₀ L s.heap m → (hd.heap_1 w.params).In h₀ → News h₀ L s.heap news → Top VW LS mean mg mb h₀ → cs.kind = .function → Pre s.heap → AllBare s.gens → dp + d < recursionLimit → un + u < cLine →
    (∀ v h' tk' gs', Post s.heap v h' → Fr h₀ L h' m → KeptBut fp s.heap h' → AllBare gs' → Q v { s with heap := h', toks := tk', gens := gs' }) →
    wpAny (model PR w) (ktrTop dp un gd cn cs L a ccd cl outer) (call (.ref f) vs) Q E s

theorem len_cl (w : World) (mean : ExcName → Option Value) (mg mb : Str → Option Value) (x dx : Addr) (its ps : Array Value) (n k : Nat) (kt tz : Tok) (z : Int) (Ls : List (Str × Str)) (htr : TriplesOk ps.toList) (hLs : ∀ q ∈ Ls, q.1.length ≤ 1000 ∧ q.2.length ≤ 1000) :
  ROG w mean mg mb 174 [169] (fun h => TupsAt h its Ls) [(x, accO dx its n), (dx, iniO w kt (.int z tz) k), (169, tabObj ps)] [.ref x] (fun _ v h' => (∃ t, v = .int (z + totL Ls) t) ∧ ∃ ps', TriplesOk ps'.toList ∧ h'.get? 169 = some (tabObj ps')) 12 120 := by
  delta ROG PR; k_fill
  intro dp un gd cn cs a ccd cl outer A₀ base h₀ L m s Q E B F KX N T hk HP G hdp hun hret
  have hne : @Ne Nat x dx := news_neB N (by k_mem) (by k_mem) rfl
  have hne' : @Ne Nat dx x := hne.symm
  have hne2 : @Ne Nat x 169 := news_neB N (by k_mem) (by k_mem) rfl
  have hne3 : @Ne Nat dx 169 := news_neB N (by k_mem) (by k_mem) rfl
  k_with "eval GeneratorExp" => (refine Hold.out ?rN)
  w_strict (refine wpAny_call ?_; walk_at "mine enter"; k_steps)
  case rN =>
    refine Hold.in ?_
    rename_i g1 L1 h1 FG1 F1 N1 X1 T1 GS1
    obtain ⟨vals, hV, hlen, hval⟩ := (HP.keeps fun b f tf p tp e => F1.keep _ _ (GS1 _ _ e (tup_off N (by walk_at "mine to") e))).pairs
    have hC : CodeHd h1 173 169 := codeHd_in (X1.keeps F1.keep) (by kernel_rfl)
    refine gen_self (c := 173) (P := 169) vals (fun i y => ∃ t, y = .int (((Ls[i]?.getD (Str.ofString "", Str.ofString "")).1.length + (Ls[i]?.getD (Str.ofString "", Str.ofString "")).2.length : Nat) : Int) t) F1 X1 N1 T1 G (by k_mem) (by k_mem) htr hC rfl rfl rfl rfl ?h1 ?h2 rfl rfl rfl ?h3 rfl ?h4 ?h5 hV ?h6 ?h7 ?h8
    case h1 => exact closureFor_none (by decide)
    case h2 => decide
    case h3 => decide +kernel
    case h4 => ktr_room
    case h5 =>
      intro Q' hq
      refine' ld ?k1 ?k2 ?_
      case k1 => k_asm
      case k2 => exact rfl
      exact hq
    case h8 => intro _; rfl
    case h6 =>
      intro A' E' i p C' cv s₂ m₂ hA hp F2 ha hb
      obtain ⟨q, tf, tp, hq, rfl⟩ := hval i p hp
      rw [hq]
      have hm := hLs q (List.mem_of_getElem? hq)
      exact len_elt F2 X1 T1 rfl ha hb rfl rfl rfl hm.1 hm.2
    case h7 =>
      intro a2 h2 tk2 gs2 F2 K2 hT2 G2 V2
      obtain ⟨ps2, htr2, hP2⟩ := hT2
      have N2 : News g1 L1 h2 [(x, accO dx its n), (dx, iniO w kt (.int z tz) k)] := fun p hp => by
        have := N1 p (List.mem_append_left [(169, tabObj ps)] hp)
        exact ⟨K2 _ _ (by rcases List.mem_cons.mp hp with rfl | hp; · simpa using hne2
                          · rw [List.mem_singleton.mp hp]; simpa using hne3) this.1, this.2⟩
      k_with "call builtin:sum" => (refine Hold.out ?rM)
      w_strict k_steps
      case rM =>
        refine Hold.in ?_
        obtain ⟨fp, wr, g, St, W, st, hTg, ha, hfp, hwr⟩ := V2
        refine sum_start W.in4_1 (W.frame 0 _ _ _ st (Nat.le_succ _) (fun _ _ _ e => e)) hfp (fun i v hv => hv) ?_
        intro s' t' hm
        obtain ⟨h3, gs3, dr3, tk3, os3⟩ := s'
        obtain ⟨m1, m2, m3, m4, m5⟩ := hm
        dsimp only at m1 m2 m3 m4 m5
        subst m3 m4
        have K3 : KeptBut [169] h1 h3 := fun b o hb e => m1 b o (fun hw => Nat.lt_irrefl _ (Nat.lt_of_lt_of_le (Heap.lt_size e) (hwr b hw))) (K2 b o hb e)
        have hP3 : h3.get? 169 = some (tabObj ps2) := m1 _ _ (fun hw => Nat.lt_irrefl _ (Nat.lt_of_lt_of_le (Heap.lt_size (N1 (169, tabObj ps) (by k_mem)).1) (hwr _ hw))) hP2
        have F3 := kept_fr F1 K3 (by simpa using (N1 (169, tabObj ps) (by k_mem)).2.1.symm) (by intro b hb; rw [List.mem_singleton.mp hb]; exact (N1 (169, tabObj ps) (by k_mem)).2.2)
        have N3 : News g1 L1 h3 [(169, tabObj ps2), (x, accO dx its n), (dx, iniO w kt (.int z tz) k)] := by
          intro p hp
          rcases List.mem_cons.mp hp with rfl | hp
          · exact ⟨hP3, (N1 (169, tabObj ps) (by k_mem)).2⟩
          · have := N1 p (List.mem_append_left [(169, tabObj ps)] hp)
            exact ⟨K3 _ _ (by rcases List.mem_cons.mp hp with rfl | hp; · simpa using hne2
                              · rw [List.mem_singleton.mp hp]; simpa using hne3) this.1, this.2⟩
        clear N2 F2 N1 F1
        have G3 : AllBare gs3 := m2.bare G2
        w_strict k_steps
        refine hret _ _ _ _ ⟨⟨t', congrArg (fun q => Value.int (z + q) t') ?_⟩, ps2, htr2, hP3⟩ (by assumption) (kept_mut [169] N GS1 (Fr.keep (by assumption)) (sub_out (by assumption) (by walk_at "mine out"))) G3
        rw [hlen]
        exact preSum_tot Ls _ fun j p e => by rw [e]; rfl
end Mine
end
section
open PySem PySem.W PySem.Calls PyProof.Rows
set_option Elab.async false
set_option maxRecDepth 100000
namespace Mine
section
variable {w : World} {mean : ExcName → Option Value} {mg mb : Str → Option Value} {qn : Str} {cs0 : Scope} {L0 a0 : Addr} {cd0 : Value} {scope : Scope} {A' : Around} {E' : Value → Shared → Prop} {C' : Addr} {cv : Value} {s₂ : Shared} {m₂ : Str → Option Value} {h₀ : Heap}

theorem ge_main {x : Str} {v : Value} {p : Pos} {Q : Value → Shared → Prop} (F : Fr h₀ C' s₂.heap m₂) (X : (hd.heap_1 w.params).In h₀) (T : Top VW LS mean mg mb h₀) (hk : scope.kind = .function) (l : scope.names.lookup x = some .globalImplicit)
    (e : nsIn (hd.heap_1 w.params) mainGlobals x = some (some v)) (hd' : (x == ("__debug__" : Str)) = false) (h : Q v s₂) :
    wpAny (model PR w) A' (eval (.Name x p) (genEnv scope [] C' cv builtinsNs (envOf qn cs0 L0 a0 cd0))) Q E' s₂ :=
  Name_function_global (env := genEnv scope [] C' cv builtinsNs (envOf qn cs0 L0 a0 cd0)) hk l (Calls.loadGlobal_global (env := genEnv scope [] C' cv builtinsNs (envOf qn cs0 L0 a0 cd0)) (T.g.keeps F.keep) (mg_of X T.g e) h) hd'

theorem es_in (w : World) : ∃ te, nsIn (hd.heap_1 w.params) mainGlobals (Str.ofString "EMPTYSTRING") = some (some (.str (Str.ofString "") te)) := by
  have h : (match nsIn (hd.heap_1 w.params) mainGlobals (Str.ofString "EMPTYSTRING") with | some (some (.str s _)) => s == Str.ofString "" | _ => false) = true := by kernel_rfl
  split at h
  · rename_i s t e
    exact ⟨t, by rw [e, eq_of_beq h]⟩
  · cases h

theorem str_elt {f p : Str} {tf tp : Tok} {p1 p2 p3 p4 p5 p6 : Pos} {kt : Nat} (F : Fr h₀ C' s₂.heap m₂) (X : (hd.heap_1 w.params).In h₀) (T : Top VW LS mean mg mb h₀) (hk : scope.kind = .function)
  (ha : m₂ (Str.ofString "fws") = some (.str f tf)) (hb : m₂ (Str.ofString "part") = some (.str p tp)) (l1 : scope.names.lookup (Str.ofString "fws") = some .local) (l2 : scope.names.lookup (Str.ofString "part") = some .local) (l3 : scope.names.lookup (Str.ofString "EMPTYSTRING") = some .globalImplicit)
  (hf : f.length ≤ 1000) (hp : p.length ≤ 1000) {pl : Sem Bool}
  (he : eval (.Call (.Attribute (.Name (Str.ofString "EMPTYSTRING") p1) (Str.ofString "join") p2) [.Tuple [.Name (Str.ofString "fws") p3, .Name (Str.ofString "part") p4] kt p5] [] p6) (genEnv scope [] C' cv builtinsNs (envOf qn cs0 L0 a0 cd0)) = (do
      let ov ← eval (.Name (Str.ofString "EMPTYSTRING") p1) (genEnv scope [] C' cv builtinsNs (envOf qn cs0 L0 a0 cd0))
      standAt p2.atName
      let (f, first) ← holding [ov] (getMethod ov (Str.ofString "join") pl)
      callWith p6 f first (backTo p6 (starEach [.Tuple [.Name (Str.ofString "fws") p3, .Name (Str.ofString "part") p4] kt p5] (genEnv scope [] C' cv builtinsNs (envOf qn cs0 L0 a0 cd0)))) [])) :
  wpAny (model PR w) A' (eval (.Call (.Attribute (.Name (Str.ofString "EMPTYSTRING") p1) (Str.ofString "join") p2) [.Tuple [.Name (Str.ofString "fws") p3, .Name (Str.ofString "part") p4] kt p5] [] p6) (genEnv scope [] C' cv builtinsNs (envOf qn cs0 L0 a0 cd0)))
    (fun y s₃ => (∃ t, y = .str (Txt.join (Str.ofString "") [f, p]) t) ∧ Keeps s₂ s₃) E' s₂ := by
  obtain ⟨te, e0⟩ := es_in w
  refine MethodCall_ (pl := pl) (ge_main F X T hk l3 e0 (by decide +kernel) ?_) he
  refine getMethod_builtin (typeIs_str _ _ _) PySem.F.plainAttrs_str PySem.F.slot_str_join PySem.F.type_str_join (fun _ e => nomatch e) ?_
  refine Calls.callWith_builtin rfl (Calls.evalArgs_plain (Calls.spliced_cons ?_))
  refine wpAny_Tuple_spliced (x1 := kt) (Calls.spliced_cons (ge_local F hk l1 ha (by decide +kernel) (Calls.spliced_cons (ge_local F hk l2 hb (by decide +kernel) (Calls.spliced_nil ⟨(by show 2 ≤ sizeLine; decide), Calls.spliced_nil ?_⟩)))))
  refine join_tuple (items := #[.str f tf, .str p tp]) (ys := [f, p]) ⟨_, Heap.get?_push_size _ rfl, rfl, _, rfl⟩ (.cons _ _ (.cons _ _ .nil)) ?_ fun t' k => ⟨⟨t', rfl⟩, _, _, rfl, fun b o e => Heap.get?_push_of_some _ e⟩
  show (f.length + (p.length + 0)) + 2 * (Str.ofString "").length ≤ 16777216
  have : (Str.ofString "").length = 0 := by decide +kernel
  omega
end
end Mine
end
section
open PySem PySem.W PySem.Builtin PyProof.Rows
set_option Elab.async false
set_option maxRecDepth 100000
set_option maxHeartbeats 8000000
set_option pp.deepTerms false
set_option pp.deepTerms.threshold 6
set_option pp.maxSteps 3000
set_option pp.proofs false
namespace Mine



theorem rows_AM7_1 : True := by
  k_with_none
  w_top off
  k_with "mine enter" => (k_dflt (refine' code_defG ?k1 ?k2 ?k3 ?k4 ?k5 ?kA ?kF ?kK ?k6 ?k7 ?k8 ?k9 ?kB ?_ ?c2 ?c3 ?c4 ?c5; (case kA => exact rfl); (case kF => exact rfl); (case kK => assumption); (case k1 => k_asm); (case k2 => k_asm); (case k3 => k_asm); (case k4 => k_asm); (case k5 => k_asm); (case k6 => k_is); (case k7 => k_is); (case k8 => first | exact room0 (by assumption) | ktr_room); (case k9 => first | exact BindsTo.of_eq rfl | exact binds_K (by k_in) rfl (by k_is) rfl rfl rfl); (case c5 => decide); (case kB => exact locs rfl); (case c2 => exact rfl); (case c3 => exact rfl); (case c4 => exact rfl); k_whole; intro _ _ _ _ _ _ B' _ _ _; (try dsimp only); (try k_lift B'); (try k_fold)))
  k_with "getMethod ref" => (k_here; k_dflt (refine' ka_method ?k1 ?k2 ?k3 ?k4 ?k5 ?k6 ?k7 ?k8 ?_; (case k1 => k_asm); (case k2 => k_asm); (case k3 => k_asm); (case k4 => k_mem); (case k5 => k_mem); (case k6 => k_is); (case k7 => kernel_rfl); (case k8 => exact rfl); k_whole))
  k_with "call builtin:list.append" => (k_here; k_dflt (refine' ka_append ?k1 ?k2 ?k3 ?k4 ?k5 ?_; (case k1 => k_asm); (case k2 => k_asm); (case k3 => k_asm); (case k4 => k_upd); (case k5 => assumption); k_whole; intro _ _ _; (try k_sweep)))
  k_with "mine enterS" => (k_dflt (refine' enterS ?k1 ?k2 ?k3 ?k4 ?k5 ?kA ?kF ?kK ?k6 ?k7 ?k8 ?k9 ?kB ?_ ?c1 ?c2 ?c3 ?c4; (case kA => exact rfl); (case kF => exact rfl); (case kK => assumption); (case k1 => k_asm); (case k2 => k_asm); (case k3 => k_asm); (case k4 => k_asm); (case k5 => k_asm); (case k6 => k_is); (case k7 => k_is); (case k8 => first | exact room0 (by assumption) | ktr_room); (case k9 => exact BindsTo.of_eq rfl); (case kB => exact locs rfl); (case c1 => decide); (case c2 => exact rfl); (case c3 => exact rfl); (case c4 => exact rfl); k_whole; intro _ _ _ _ _ _ B' _ _ l1 _; (try k_lt l1); (try dsimp only); (try k_lift B'); (try k_fold)))
  k_with "getMethod ref" => (k_here; (with_reducible show wpAny _ _ (getMethod (Value.ref _) (PySem.Str.ofString "__len__") _) _ _ _); k_dflt (refine' ka_sup_len ?k1 ?k2 ?k3 ?k4 ?k5 ?_; (case k1 => k_asm); (case k2 => k_asm); (case k3 => k_asm); (case k4 => k_mem); (case k5 => k_mem); k_whole; intro _ _ _ _ l1; (try k_lt l1)))
  k_with "getMethod ref" => (k_here; (with_reducible show wpAny _ _ (getMethod (Value.ref _) (PySem.Str.ofString "__init__") _) _ _ _); k_dflt (refine' ka_sup_init ?k1 ?k2 ?k3 ?k4 ?k5 ?_; (case k1 => k_asm); (case k2 => k_asm); (case k3 => k_asm); (case k4 => k_mem); (case k5 => k_mem); k_whole; intro _ _ _ _ l1; (try k_lt l1)))
  k_with "getMethod ref" => (k_here; (with_reducible show wpAny _ _ (getMethod (Value.ref _) (PySem.Str.ofString "pop") _) _ _ _); k_dflt (refine' ka_sup_pop ?k1 ?k2 ?k3 ?k4 ?k5 ?_; (case k1 => k_asm); (case k2 => k_asm); (case k3 => k_asm); (case k4 => k_mem); (case k5 => k_mem); k_whole; intro _ _ _ _ l1; (try k_lt l1)))
  k_with "call ref" => (k_here; k_dflt (refine' ka_call_len ?k1 ?k2 ?k3 ?_; (case k1 => k_asm); (case k2 => k_mem); (case k3 => k_mem); k_whole; intro _ _))
  k_with "call ref" => (k_here; k_dflt (refine' ka_call_init ?k1 ?k2 ?k3 ?k4 ?_; (case k1 => k_asm); (case k2 => k_asm); (case k3 => k_mem); (case k4 => k_upd); k_whole; intro _ _ _; (try k_sweep)))
  k_with "call ref" => (k_here; k_dflt (refine' ka_call_pop ?k1 ?k2 ?k3 ?k4 ?k5 ?k6 ?_; (case k1 => k_asm); (case k2 => k_asm); (case k3 => k_asm); (case k4 => k_mem); (case k5 => k_upd); (case k6 => assumption); k_whole; intro _ _ _; (try k_sweep)))
  k_with "callWith ref" => (k_here; k_dflt (refine' ka_callWith0 ?k1 ?k2 ?k3 ?k4 ?k5 ?_; (case k1 => k_asm); (case k2 => k_mem); (case k3 => exact rfl); (case k4 => exact rfl); (case k5 => exact rfl); k_whole; try dsimp only [List.nil_append, List.cons_append]))
  k_with "wpAt" => (dsimp only)
  k_with "wpAt" => (ks_step "execs cons"; refine ks_wpAt_execs_cons ?_)
  k_with "wpAt" => (ks_step "exec Expr"; k_dflt (refine ks_wpAt_Expr_any ?_))
  k_with "wpAt" => (ks_step "exec Return"; refine ks_wpAt_Return_some ?_)
  k_with "wpAt" => (ks_step "exec If"; k_dflt (refine ks_wpAt_If ?_))
  k_with "wpAt" => (ks_step "eval Call"; k_dflt (refine ks_wpAt_MethodCall ?_))
  k_with "wpAt" => (ks_step "attributeBase Call"; k_here; k_dflt (refine ks_node (by k_asm) (by k_asm) (by k_asm) (by k_asm) (by k_is) (by rfl) (by rfl) (acc_inst (news_at (by k_asm) (by k_mem)) (news_at (by k_asm) (by k_mem))) (by k_is) (by rfl) (by first | rfl | decide +kernel) (by k_is) (by k_is) (by k_is) (by k_is) (by decide) (by rfl) (by rfl) (by rfl) (by rfl) (by decide +kernel) (by first | boot_by_name | rfl | kernel_rfl) ?_; intro _ _ _ _ l1; (try k_lt l1)))
  k_with "call ref" => (k_here; k_dflt (show wpAny _ _ (call (Value.ref 204) [Value.ref _]) _ _ _); (rename News _ _ _ _ => nN); k_dflt (refine' ROM.use (count_cl _ _ _ _ _ _ _ _ _ _ _) ?fB ?fF ?fX nN ?fS ?fT ?fk ?fP ?fd ?fu ?_; (case fB => k_asm); (case fF => k_asm); (case fX => k_asm); (case fT => k_asm); (case fk => exact rfl); (case fP => trivial); (case fd => first | exact room_le (by assumption) rfl | ktr_room); (case fu => first | exact room_le (by assumption) rfl | ktr_units); (case fS => exact List.forall_mem_cons.mpr ⟨by k_mem, List.forall_mem_cons.mpr ⟨by k_mem, List.forall_mem_nil _⟩⟩); k_whole); intro _ _ _ hR9 _ K9; (obtain ⟨t9, e9⟩ := hR9); subst e9; (have N9 := kept_news nN K9); clear K9; (try dsimp only); (try k_fold))
  k_with "setAttr ref" => (k_here; k_dflt (refine' ka_setIS ?k1 ?k2 ?k3 ?k4 ?k5 ?_; (case k1 => k_asm); (case k2 => k_asm); (case k3 => k_asm); (case k4 => k_mem); (case k5 => k_upd); k_whole; intro _ _ _; (try k_sweep)))
  k_with "getAttr ref" => (k_here; k_dflt (refine' ka_getIS ?k1 ?k2 ?k3 ?k4 ?k5 ?k6 ?_; (case k1 => k_asm); (case k2 => k_asm); (case k3 => k_asm); (case k4 => k_mem); (case k5 => k_mem); (case k6 => first | rfl | assumption); k_whole))
  k_with "setItem ref ref" => (k_here; k_dflt (refine' ka_setSlice ?k1 ?k2 ?k3 ?k4 ?k5 ?k6 ?k7 ?k8 ?k9 ?ka ?_; (case k1 => k_asm); (case k2 => k_asm); (case k3 => k_asm); (case k4 => k_mem); (case k5 => k_ne); (case k6 => exact .none); (case k8 => intro n'; k_upd); (case k7 => exact set_all _ _); (case k9 => assumption); (case ka => first | assumption | simp); k_whole; intro n' _ _ N'; (try dsimp only at N'); (try k_sweep)))
  k_with "setItem ref ref" => (k_here; k_dflt (refine' ka_setSlice ?k1 ?k2 ?k3 ?k4 ?k5 ?k6 ?k7 ?k8 ?k9 ?ka ?_; (case k1 => k_asm); (case k2 => k_asm); (case k3 => k_asm); (case k4 => k_mem); (case k5 => k_ne); (case k6 => exact .int _ _); (case k8 => intro n'; k_upd); (case k7 => exact set_tail _ _); (case k9 => assumption); (case ka => first | assumption | simp); k_whole; intro n' _ _ N'; (try dsimp only at N'); (try k_sweep)))
  k_with "subscriptTail" => (k_here; k_dflt (refine' ka_tailSlice ?k1 ?k2 ?k3 ?k4 ?k5 ?k6 ?k7 ?k8 ?k9 ?ka ?_ ?kb ?kc; (case k1 => k_asm); (case k2 => k_asm); (case k3 => k_asm); (case k4 => k_mem); (case k5 => exact .int _ _); (case k6 => exact .none); (case k7 => exact .none); (case k8 => simp); (case k9 => assumption); (case ka => exact pick_tail _ _); (case kb => with_unfolding_all rfl); (case kc => intro _; with_unfolding_all rfl); k_whole; intro _ _ _ _ l1; (try k_lt l1)))
  k_with "mine out" => (first | exact so_nil | (refine so_fp ?za ?zb; (case za => k_mem); (case zb => walk_at "mine out")) | (refine so_in ?za ?zb; (case za => k_mem); (case zb => walk_at "mine out")))
  k_with "mine to" => (first | exact to_nil | (refine to_cons rfl ?zb; (case zb => walk_at "mine to")))
  trivial
noncomputable def pairS (p : Str × Str) : Str := Txt.join (Str.ofString "") [p.1, p.2]
noncomputable def strL (Ls : List (Str × Str)) : Str := Txt.join (Str.ofString "") (Ls.map pairS)

theorem strs_items (Ls : List (Str × Str)) (l : List (Str × Tok)) (h : ItemsOf (fun i y => ∃ t, y = Value.str (pairS (Ls[i]?.getD (Str.ofString "", Str.ofString ""))) t) (strValues l).toArray Ls.length) : l.map (·.1) = Ls.map pairS := by
  obtain ⟨h1, h2⟩ := h
  have e1 : (strValues l).length = l.length := by simp [strValues]
  have hl : l.length = Ls.length := by rw [← e1]; simpa using h1
  apply List.ext_getElem?
  intro i
  rw [List.getElem?_map, List.getElem?_map]
  by_cases hi : i < l.length
  · obtain ⟨q, hq⟩ : ∃ q, l[i]? = some q := ⟨_, List.getElem?_eq_getElem hi⟩
    have e2 : (strValues l).toArray[i]? = some (.str q.1 q.2) := by simp [strValues, hq]
    obtain ⟨t, e3⟩ := h2 i _ e2
    rw [hq, List.getElem?_eq_getElem (hl ▸ hi)]
    rw [List.getElem?_eq_getElem (hl ▸ hi)] at e3
    simp only [Option.getD_some, Value.str.injEq] at e3
    simp [e3.1]
  · rw [List.getElem?_eq_none (by omega), List.getElem?_eq_none (by omega)]
    rfl

theorem pairS_len (p : Str × Str) (h1 : p.1.length ≤ 1000) (h2 : p.2.length ≤ 1000) : (pairS p).length ≤ 2000 := by
  have h := StrLaws.join_length_le (Str.ofString "") [p.1, p.2]
  have e : pairS p = Str.join (Str.ofString "") [p.1, p.2] := by
    show Builtin.Str.glued (Str.ofString "") [p.1, p.2] = _
    rw [StrLaws.glued_eq_join]
  have e0 : (Str.ofString "").length = 0 := by decide +kernel
  rw [e]
  simp only [List.map_cons, List.map_nil, List.sum_cons, List.sum_nil, e0] at h
  omega
theorem join_ok (Ls : List (Str × Str)) (hn : Ls.length ≤ 100) (hLs : ∀ q ∈ Ls, q.1.length ≤ 1000 ∧ q.2.length ≤ 1000) : JoinOk (Str.ofString "") (Ls.map pairS) = true := by
  refine joinOk_of_weight ?_ (by decide +kernel)
  have := sum_le 2000 (Ls.map pairS) fun a ha => by
    obtain ⟨q, hq, rfl⟩ := List.mem_map.mp ha
    exact pairS_len q (hLs q hq).1 (hLs q hq).2
  rw [List.length_map] at this ⊢
  omega

theorem str_cl (w : World) (mean : ExcName → Option Value) (mg mb : Str → Option Value) (x dx : Addr) (its ps : Array Value) (n k : Nat) (kt tz : Tok) (z : Int) (Ls : List (Str × Str)) (htr : TriplesOk ps.toList) (hn : Ls.length ≤ 100) (hLs : ∀ q ∈ Ls, q.1.length ≤ 1000 ∧ q.2.length ≤ 1000) :
  ROG w mean mg mb 181 [176] (fun h => TupsAt h its Ls) [(x, accO dx its n), (dx, iniO w kt (.int z tz) k), (176, tabObj ps)] [.ref x] (fun _ v h' => (∃ t, v = .str (strL Ls) t) ∧ ∃ ps', TriplesOk ps'.toList ∧ h'.get? 176 = some (tabObj ps')) 12 120 := by
  delta ROG PR; k_fill
  intro dp un gd cn cs a ccd cl outer A₀ base h₀ L m s Q E B F KX N T hk HP G hdp hun hret
  have hne : @Ne Nat x dx := news_neB N (by k_mem) (by k_mem) rfl
  have hne' : @Ne Nat dx x := hne.symm
  have hne2 : @Ne Nat x 176 := news_neB N (by k_mem) (by k_mem) rfl
  have hne3 : @Ne Nat dx 176 := news_neB N (by k_mem) (by k_mem) rfl
  k_with "eval GeneratorExp" => (refine Hold.out ?rN)
  w_strict (refine wpAny_call ?_; walk_at "mine enter"; k_steps)
  case rN =>
    refine Hold.in ?_
    rename_i g1 L1 h1 FG1 F1 N1 X1 T1 GS1
    obtain ⟨vals, hV, hlen, hval⟩ := (HP.keeps fun b f tf p tp e => F1.keep _ _ (GS1 _ _ e (tup_off N (by walk_at "mine to") e))).pairs
    have hC : CodeHd h1 180 176 := codeHd_in (X1.keeps F1.keep) (by kernel_rfl)
    refine gen_self (c := 180) (P := 176) vals (fun i y => ∃ t, y = .str (pairS (Ls[i]?.getD (Str.ofString "", Str.ofString ""))) t) F1 X1 N1 T1 G (by k_mem) (by k_mem) htr hC rfl rfl rfl rfl ?h1 ?h2 rfl rfl rfl ?h3 rfl ?h4 ?h5 hV ?h6 ?h7 ?h8
    case h1 => exact closureFor_none (by decide)
    case h2 => decide
    case h3 => decide +kernel
    case h4 => ktr_room
    case h5 =>
      intro Q' hq
      refine' ld ?k1 ?k2 ?_
      case k1 => k_asm
      case k2 => exact rfl
      exact hq
    case h8 => intro _; rfl
    case h6 =>
      intro A' E' i p C' cv s₂ m₂ hA hp F2 ha hb
      obtain ⟨q, tf, tp, hq, rfl⟩ := hval i p hp
      rw [hq]
      have hm := hLs q (List.mem_of_getElem? hq)
      exact str_elt F2 X1 T1 rfl ha hb rfl rfl rfl hm.1 hm.2 rfl
    case h7 =>
      intro a2 h2 tk2 gs2 F2 K2 hT2 G2 V2
      obtain ⟨ps2, htr2, hP2⟩ := hT2
      have N2 : News g1 L1 h2 [(x, accO dx its n), (dx, iniO w kt (.int z tz) k)] := fun p hp => by
        have := N1 p (List.mem_append_left [(176, tabObj ps)] hp)
        exact ⟨K2 _ _ (by rcases List.mem_cons.mp hp with rfl | hp; · simpa using hne2
                          · rw [List.mem_singleton.mp hp]; simpa using hne3) this.1, this.2⟩
      k_with "call builtin:str.join" => (refine Hold.out ?rM)
      w_strict k_steps
      case rM =>
        refine Hold.in ?_
        obtain ⟨fp, wr, g, St, W, st, hTg, ha, hfp, hwr⟩ := V2
        refine SC.joinGen W.in4_2 hTg st hfp ha (fun i v hv => ⟨_, hv⟩) ?_ (by rw [hlen, PySem.sizeLine_eq]; omega)
        intro s' l hm hit
        rw [hlen] at hit
        rw [strs_items Ls l hit]
        refine ⟨join_ok Ls hn hLs, fun t' k' => ?_⟩
        obtain ⟨h3, gs3, dr3, tk3, os3⟩ := s'
        obtain ⟨m1, m2, m3, m4, m5⟩ := hm
        dsimp only at m1 m2 m3 m4 m5
        subst m3 m4
        have K3 : KeptBut [176] h1 h3 := fun b o hb e => m1 b o (fun hw => Nat.lt_irrefl _ (Nat.lt_of_lt_of_le (Heap.lt_size e) (hwr b hw))) (K2 b o hb e)
        have hP3 : h3.get? 176 = some (tabObj ps2) := m1 _ _ (fun hw => Nat.lt_irrefl _ (Nat.lt_of_lt_of_le (Heap.lt_size (N1 (176, tabObj ps) (by k_mem)).1) (hwr _ hw))) hP2
        have F3 := kept_fr F1 K3 (by simpa using (N1 (176, tabObj ps) (by k_mem)).2.1.symm) (by intro b hb; rw [List.mem_singleton.mp hb]; exact (N1 (176, tabObj ps) (by k_mem)).2.2)
        have N3 : News g1 L1 h3 [(176, tabObj ps2), (x, accO dx its n), (dx, iniO w kt (.int z tz) k)] := by
          intro p hp
          rcases List.mem_cons.mp hp with rfl | hp
          · exact ⟨hP3, (N1 (176, tabObj ps) (by k_mem)).2⟩
          · have := N1 p (List.mem_append_left [(176, tabObj ps)] hp)
            exact ⟨K3 _ _ (by rcases List.mem_cons.mp hp with rfl | hp; · simpa using hne2
                              · rw [List.mem_singleton.mp hp]; simpa using hne3) this.1, this.2⟩
        clear N2 F2 N1 F1
        have G3 : AllBare gs3 := m2.bare G2
        w_strict k_steps
        exact hret _ _ _ _ ⟨⟨t', rfl⟩, ps2, htr2, hP3⟩ (by assumption) (kept_mut [176] N GS1 (Fr.keep (by assumption)) (sub_out (by assumption) (by walk_at "mine out"))) G3
end Mine
end
section
open PySem PySem.W PySem.Calls PyProof.Rows PySem.Builtin
set_option Elab.async false
set_option maxRecDepth 100000
namespace Mine
section
variable {w : World} {A : Around} {E : Value → Shared → Prop} {s : Shared} {x dx L : Addr} {h₀ : Heap} {m : Str → Option Value} {its : Array Value} {n : Nat} {news : List (Addr × Obj)} {d : Obj}

theorem ka_lenB {Q : Value → Shared → Prop} (F : Fr h₀ L s.heap m) (X₀ : (hd.heap_1 w.params).In h₀) (N : News h₀ L s.heap news) (hx : (x, accO dx its n) ∈ news) (hdx : (dx, d) ∈ news)
    (h : wpAny (model PR w) A.in1 (call (.ref 174) [.ref x]) (W.LenBack Q) E s) : wpAny (model PR w) A.in1 (Builtin.«len» ⟨[.ref x], []⟩) (fun fin s' => ∃ v, fin = .done (.ret v) ∧ Q v s') E s := by
  unfold Builtin.«len»
  refine wpAny_bind (m := oneArg "len" _) (wpAny_pure ?_)
  refine wpAny_bind (m := callSpecial? (.ref x) (Str.ofString "__len__")) (acc_special_fn (X₀.keeps F.keep) (N _ hx).1 (N _ hdx).1 (by kernel_rfl) (by kernel_rfl) (wpAny_mono h (fun r s' hr => ?_) fun _ _ y => y))
  cases r <;> first | exact hr.elim | skip
  obtain ⟨⟨h0, h1⟩, hq⟩ := hr
  refine wpAny_bind (wpAny_holding (wpAny_pure ?_))
  refine wpAny_bind (wpAny_letGo ?_)
  show wpAny _ _ (if _ < 0 then _ else _) _ _ _
  rw [if_neg (by omega)]
  show wpAny _ _ (if _ ≥ 2 ^ 63 then _ else _) _ _ _
  rw [if_neg (by omega)]
  exact wpAny_bind (wpAny_mkInt (wpAny_pure ⟨_, rfl, hq⟩))

theorem ka_len2 {Q : Value → Shared → Prop} (F : Fr h₀ L s.heap m) (X₀ : (hd.heap_1 w.params).In h₀) (N : News h₀ L s.heap news) (hx : (x, accO dx its n) ∈ news) (hdx : (dx, d) ∈ news)
    (h : wpAny (model PR w) A.in1 (call (.ref 174) [.ref x]) (W.LenBack Q) E s) : wpAny (model PR w) A (call (.builtin "len") [.ref x]) Q E s :=
  Calls.call_function_entry kind_len plain_len entry_len (args_len1 _) (ka_lenB F X₀ N hx hdx h)

noncomputable def TruBack (Q : Bool → Shared → Prop) (v : Value) (s' : Shared) : Prop := match v with
  | .int n _ => (0 ≤ n ∧ n < 2 ^ 63) ∧ ∀ k, Q (n != 0) { s' with toks := k }
  | _ => False
theorem ka_truthy {Q : Bool → Shared → Prop} (F : Fr h₀ L s.heap m) (X₀ : (hd.heap_1 w.params).In h₀) (N : News h₀ L s.heap news) (hx : (x, accO dx its n) ∈ news) (hdx : (dx, d) ∈ news)
    (h : wpAny (model PR w) A.in1 (call (.ref 174) [.ref x]) (TruBack Q) E s) : wpAny (model PR w) A (truthy (.ref x)) Q E s := by
  have X := X₀.keeps F.keep
  have hb : findIn (hd.heap_1 w.params) (.ref 207) "__bool__" = some none := by kernel_rfl
  have hl : findIn (hd.heap_1 w.params) (.ref 207) "__len__" = some (some (.ref 174)) := by kernel_rfl
  have ty := acc_type (M := model PR w) (N _ hx).1
  unfold truthy
  refine wpAny_bind (m := callSpecial? (.ref x) (Str.ofString "__bool__")) (wpAny_bind (wpAny_bind (ty.here ((looks_findIn X hb).here (wpAny_pure ?_)))))
  refine wpAny_bind (wpAny_bind (ty.here ((looks_findIn X hl).here ?_)))
  rw [if_neg (by decide)]
  refine wpAny_bind (wpAny_runValue (codeAny_builtin entry_len ?_))
  rw [Around.under_plainId plain_len _]
  refine wpAny_mono (ka_lenB (Q := fun v s' => ∃ i k, v = .int i k ∧ Q (i != 0) s') F X₀ N hx hdx (wpAny_mono h (fun r s' hr => ?_) fun _ _ e => e)) (fun fin s' h' => ?_) fun _ _ e => e
  · cases r <;> first | exact hr.elim | skip
    exact ⟨hr.1, _, _, rfl, hr.2 _⟩
  · obtain ⟨v, rfl, i, k, rfl, hq⟩ := h'
    exact wpAny_pure hq
end
end Mine
end
section
open PySem PySem.W PyProof.Rows PySem.Builtin
set_option Elab.async false
set_option maxRecDepth 100000
set_option maxHeartbeats 8000000
set_option pp.deepTerms false
set_option pp.deepTerms.threshold 6
set_option pp.maxSteps 3000
set_option pp.proofs false
namespace Mine
theorem ROG.use {w : World} {mean : ExcName → Option Value} {mg mb : Str → Option Value} {f : Addr} {fp : List Addr} {Pre : Heap → Prop} {news all : List (Addr × Obj)} {vs : List Value} {Post : Heap → Value → Heap → Prop} {d u : Nat}
  (C : ROG w mean mg mb f fp Pre news vs Post d u) {dp un : Nat} {gd : Option (List Code)} {cn : Str} {cs : Scope} {a : Addr} {ccd : Value} {cl : List (Str × Addr)} {outer : List Env} {A₀ : Around} {base h₀ : Heap} {L : Addr} {m : Str → Option Value} {s : Shared} {Q E : Value → Shared → Prop}
  (B : Below A₀ base outer h₀) (F : Fr h₀ L s.heap m) (X : (hd.heap_1 w.params).In h₀) (N : News h₀ L s.heap all) (sub : ∀ p ∈ news, p ∈ all) (T : Top VW LS mean mg mb h₀) (hk : cs.kind = .function) (hP : Pre s.heap) (G : AllBare s.gens) (hd : dp + d < recursionLimit) (hu : un + u < cLine)
  (h : ∀ v h' tk' gs', Post s.heap v h' → Fr h₀ L h' m → KeptBut fp s.heap h' → AllBare gs' → Q v { s with heap := h', toks := tk', gens := gs' }) :
  wpAny (model PR w) (ktrTop dp un gd cn cs L a ccd cl outer) (call (.ref f) vs) Q E s :=
  C dp un gd cn cs a ccd cl outer A₀ base h₀ L m s Q E B F X (cb_drop N sub) T hk hP G hd hu h


theorem rows_AM8_1 : True := by
  k_with_none
  w_top off
  k_with "mine enter" => (k_dflt (refine' code_defG ?k1 ?k2 ?k3 ?k4 ?k5 ?kA ?kF ?kK ?k6 ?k7 ?k8 ?k9 ?kB ?_ ?c2 ?c3 ?c4 ?c5; (case kA => exact rfl); (case kF => exact rfl); (case kK => assumption); (case k1 => k_asm); (case k2 => k_asm); (case k3 => k_asm); (case k4 => k_asm); (case k5 => k_asm); (case k6 => k_is); (case k7 => k_is); (case k8 => first | exact room0 (by assumption) | ktr_room); (case k9 => first | exact BindsTo.of_eq rfl | exact binds_K (by k_in) rfl (by k_is) rfl rfl rfl); (case c5 => decide); (case kB => exact locs rfl); (case c2 => exact rfl); (case c3 => exact rfl); (case c4 => exact rfl); k_whole; intro _ _ _ _ _ _ B' _ _ _; (try dsimp only); (try k_lift B'); (try k_fold)))
  k_with "getMethod ref" => (k_here; k_dflt (refine' ka_method ?k1 ?k2 ?k3 ?k4 ?k5 ?k6 ?k7 ?k8 ?_; (case k1 => k_asm); (case k2 => k_asm); (case k3 => k_asm); (case k4 => k_mem); (case k5 => k_mem); (case k6 => k_is); (case k7 => kernel_rfl); (case k8 => exact rfl); k_whole))
  k_with "getAttr ref" => (k_here; k_dflt (refine' ka_getIS ?k1 ?k2 ?k3 ?k4 ?k5 ?k6 ?_; (case k1 => k_asm); (case k2 => k_asm); (case k3 => k_asm); (case k4 => k_mem); (case k5 => k_mem); (case k6 => first | rfl | assumption); k_whole))
  k_with "call ref" => (k_here; k_dflt (show wpAny _ _ (call (Value.ref 174) [Value.ref _]) _ _ _); (rename News _ _ _ _ => nN); k_dflt (refine' ROG.use (len_cl _ _ _ _ _ _ _ _ _ _ _ _ _ _ ?x1 ?x2) ?fB ?fF ?fX nN ?fS ?fT ?fk ?fP ?fG ?fd ?fu ?_; (case fB => k_asm); (case fF => k_asm); (case fX => k_asm); (case fT => k_asm); (case fk => exact rfl); (case fS => exact List.forall_mem_cons.mpr ⟨by k_mem, List.forall_mem_cons.mpr ⟨by k_mem, List.forall_mem_cons.mpr ⟨by k_mem, List.forall_mem_nil _⟩⟩⟩); (case fP => exact TupsAt.keeps (by assumption) (fun b f tf p tp e => Fr.keep (by assumption) _ _ e)); (case fG => k_asm); (case fd => first | exact room_le (by assumption) rfl | ktr_room); (case fu => first | exact room_le (by assumption) rfl | ktr_units); (case x1 => assumption); (case x2 => assumption); k_whole); intro _ _ _ _ hR9 _ K9 _; (obtain ⟨⟨t9, e9⟩, ps9, htr9, hP9⟩ := hR9); subst e9; k_dflt (refine' upd_then nN ?fU K9 hP9 ?_; (case fU => k_upd); k_whole); intro _; clear K9 hP9; (try dsimp only); (try k_fold))
  k_with "call ref" => (k_here; k_dflt (show wpAny _ _ (call (Value.ref 181) [Value.ref _]) _ _ _); (rename News _ _ _ _ => nN); k_dflt (refine' ROG.use (str_cl _ _ _ _ _ _ _ _ _ _ _ _ _ _ ?x1 ?x2 ?x3) ?fB ?fF ?fX nN ?fS ?fT ?fk ?fP ?fG ?fd ?fu ?_; (case fB => k_asm); (case fF => k_asm); (case fX => k_asm); (case fT => k_asm); (case fk => exact rfl); (case fS => exact List.forall_mem_cons.mpr ⟨by k_mem, List.forall_mem_cons.mpr ⟨by k_mem, List.forall_mem_cons.mpr ⟨by k_mem, List.forall_mem_nil _⟩⟩⟩); (case fP => exact TupsAt.keeps (by assumption) (fun b f tf p tp e => Fr.keep (by assumption) _ _ e)); (case fG => k_asm); (case fd => first | exact room_le (by assumption) rfl | ktr_room); (case fu => first | exact room_le (by assumption) rfl | ktr_units); (case x1 => assumption); (case x2 => assumption); (case x3 => assumption); k_whole); intro _ _ _ _ hR9 _ K9 _; (obtain ⟨⟨t9, e9⟩, ps9, htr9, hP9⟩ := hR9); subst e9; k_dflt (refine' upd_then nN ?fU K9 hP9 ?_; (case fU => k_upd); k_whole); intro _; clear K9 hP9; (try dsimp only); (try k_fold))
  k_with "truthy ref" => (k_here; k_dflt (refine' ka_truthy ?k1 ?k2 ?k3 ?k4 ?k5 ?_; (case k1 => k_asm); (case k2 => k_asm); (case k3 => k_asm); (case k4 => k_mem); (case k5 => k_mem); k_whole))
  k_with "call type:str" => (k_here; k_dflt (refine' kso_call ?k1 ?k2 (acc_inst (news_at ?k3 ?k4) (news_at ?k5 ?k6)) ?k7 ?k8 ?_; (case k1 => ktr_units); (case k2 => k_in); (case k3 => k_asm); (case k4 => k_mem); (case k5 => k_asm); (case k6 => k_mem); (case k7 => k_is); (case k8 => k_is); k_whole))
  k_with "StrBack" => (dsimp only [W.StrBack])
  k_with "mine out" => (first | exact so_nil | (refine so_fp ?za ?zb; (case za => k_mem); (case zb => walk_at "mine out")) | (refine so_in ?za ?zb; (case za => k_mem); (case zb => walk_at "mine out")))
  k_with "mine to" => (first | exact to_nil | (refine to_cons rfl ?zb; (case zb => walk_at "mine to")))
  k_with "execs cons" => ((with_reducible refine wpAny_execs_cons ?_); (try dsimp only); (try (refine tk_any ?_; intro _)); (try k_fold))
  trivial
theorem tri_at {h₀ h' : Heap} {L b : Addr} {ps : Array Value} {news' : List (Addr × Obj)} (N' : News h₀ L h' news') (h : (b, tabObj ps) ∈ news') (ht : TriplesOk ps.toList) : ∃ ps', TriplesOk ps'.toList ∧ h'.get? b = some (tabObj ps') := ⟨ps, ht, (N' _ h).1⟩
theorem totL_le (Ls : List (Str × Str)) (hn : Ls.length ≤ 100) (hLs : ∀ q ∈ Ls, q.1.length ≤ 1000 ∧ q.2.length ≤ 1000) : totL Ls ≤ 200000 := by
  have key : ∀ Ms : List (Str × Str), (∀ q ∈ Ms, q.1.length ≤ 1000 ∧ q.2.length ≤ 1000) → totL Ms ≤ Ms.length * 2000 := by
    intro Ms
    induction Ms with
    | nil => intro _; simp [totL]
    | cons q r ih =>
      intro h
      have h1 := h q (List.mem_cons_self ..)
      have h2 := ih fun p hp => h p (List.mem_cons_of_mem _ hp)
      have e : totL (q :: r) = (q.1.length + q.2.length) + totL r := by simp [totL]
      rw [e, List.length_cons]
      omega
  have := key Ls hLs
  omega
theorem ws_cl (w : World) (mean : ExcName → Option Value) (mg mb : Str → Option Value) (x dx : Addr) (its ps qs : Array Value) (n k : Nat) (kt tz : Tok) (z : Int) (Ls : List (Str × Str)) (htr : TriplesOk ps.toList) (hts : TriplesOk qs.toList) (hn : Ls.length ≤ 100) (hLs : ∀ q ∈ Ls, q.1.length ≤ 1000 ∧ q.2.length ≤ 1000)
  (hz0 : 0 ≤ z) (hz1 : z ≤ 1000) (hz : z ≠ 0 ∨ (0 < totL Ls ∧ Txt.isspace (strL Ls) = false)) :
  ROG w mean mg mb 196 [169, 176] (fun h => TupsAt h its Ls) [(x, accO dx its n), (dx, iniO w kt (.int z tz) k), (169, tabObj ps), (176, tabObj qs)] [.ref x] (fun _ v h' => v = .bool false ∧ (∃ ps', TriplesOk ps'.toList ∧ h'.get? 169 = some (tabObj ps')) ∧ (∃ qs', TriplesOk qs'.toList ∧ h'.get? 176 = some (tabObj qs'))) 30 300 := by
  delta ROG PR; k_fill
  intro dp un gd cn cs a ccd cl outer A₀ base h₀ L m s Q E B F KX N T hk HP G hdp hun hret
  have hne : @Ne Nat x dx := news_neB N (by k_mem) (by k_mem) rfl
  have hne' : @Ne Nat dx x := hne.symm
  have hne2 : @Ne Nat x 169 := news_neB N (by k_mem) (by k_mem) rfl
  have hne3 : @Ne Nat dx 169 := news_neB N (by k_mem) (by k_mem) rfl
  have hne4 : @Ne Nat x 176 := news_neB N (by k_mem) (by k_mem) rfl
  have hne5 : @Ne Nat dx 176 := news_neB N (by k_mem) (by k_mem) rfl
  w_strict (refine wpAny_call ?_; walk_at "mine enter")
  rename_i g1 L1 h1 FG1 F1 N1 X1 T1 GS1
  have HT : TupsAt g1 its Ls := HP.keeps fun b f tf p tp e => GS1 _ _ e (tup_off N (by walk_at "mine to") e)
  have htot := totL_le Ls hn hLs
  k_with "TruBack" => (refine Hold.out ?rT)
  k_with "call str.isspace" => (refine Hold.out ?rI)
  w_strict k_steps
  case rT =>
    refine Hold.in ?_
    rename z = 0 => hz2
    have hz3 : 0 < totL Ls ∧ Txt.isspace (strL Ls) = false := hz.resolve_left (fun h => h hz2)
    refine ⟨⟨by omega, by omega⟩, fun k => ?_⟩
    have e1 : (z + (totL Ls : Int) != 0) = true := bne_iff_ne.mpr (by omega)
    rw [e1]
    w_strict k_steps
    refine hret _ _ _ _ ⟨congrArg Value.bool hz3.2, tri_at (by assumption) (by k_mem) (by assumption), tri_at (by assumption) (by k_mem) (by assumption)⟩ (by assumption) (kept_mut [169, 176] N (by assumption) (Fr.keep (by assumption)) (sub_out (by assumption) (by walk_at "mine out"))) (by assumption)
  rename z ≠ 0 => hz2
  exact hret _ _ _ _ ⟨congrArg Value.bool (by simpa using hz2), ⟨_, htr, news_at (by assumption) (by k_mem)⟩, ⟨_, hts, news_at (by assumption) (by k_mem)⟩⟩ (by assumption) (kept_mut [169, 176] N (by assumption) (Fr.keep (by assumption)) (sub_out (by assumption) (by walk_at "mine out"))) (by assumption)
end Mine
end
section
open PySem PySem.W PySem.Calls PyProof.Rows PySem.Builtin PySem.SeqAt
set_option Elab.async false
set_option maxRecDepth 100000
namespace Mine
section
variable {w : World} {A : Around} {E : Value → Shared → Prop} {s : Shared} {T D L : Addr} {h₀ : Heap} {m : Str → Option Value} {news : List (Addr × Obj)}
theorem ka_ne_pair {f p f' p' : Str} {tf tp tf' tp' : Tok} {Q : Value → Shared → Prop} (N : News h₀ L s.heap news) (h1 : (T, tup2 f tf p tp) ∈ news) (h2 : (D, tup2 f' tf' p' tp') ∈ news) (hu : A.units < cLine) (hp : (p == p') = false ∨ (f == f') = false) (h : Q (.bool true) s) :
    wpAny (model PR w) A (compareOp .NotEq (.ref T) (.ref D)) Q E s := by
  have e : (!((List.range (min 2 2)).all (fun j => if j = 0 then f == f' else p == p') && (2 : Nat) == 2)) = true := by
    rcases hp with hp | hp <;> simp [List.range, List.range.loop, hp]
  have key := RcNeAt.tuples (A := A) (s := s) (l := T) (b := D) (items := #[.str f tf, .str p tp]) (items2 := #[.str f' tf', .str p' tp']) (e := fun j => if j = 0 then f == f' else p == p') ⟨_, (N _ h1).1, rfl, _, rfl⟩ ⟨_, (N _ h2).1, rfl, _, rfl⟩ hu (fun j g1 g2 => by
    match j, g1, g2 with
    | 0, _, _ => exact EqAt.str_str f tf f' tf'
    | 1, _, _ => exact EqAt.str_str p tp p' tp')
  exact key _ _ E Q (by rw [show (!((List.range (min (#[Value.str f tf, .str p tp] : Array Value).size (#[Value.str f' tf', .str p' tp'] : Array Value).size)).all (fun j => if j = 0 then f == f' else p == p') && (#[Value.str f tf, .str p tp] : Array Value).size == (#[Value.str f' tf', .str p' tp'] : Array Value).size)) = true from e]; exact h)

noncomputable def Off (a b : Addr) : Prop := @Ne Nat a b
noncomputable def OffAll (T : Addr) (news : List (Addr × Obj)) : Prop := ∀ p ∈ news, @Ne Nat T p.1
theorem OffAll.of {h₀ h : Heap} {T : Addr} {news : List (Addr × Obj)} (N : News h₀ L h news) (hn : h.get? T = none) : OffAll T news := fun p hp e => by
  have := (N p hp).1
  have e' : T = p.1 := e
  rw [← e', hn] at this; cases this
theorem OffAll.pick {T b : Addr} {o : Obj} {news : List (Addr × Obj)} (x : OffAll T news) (h : (b, o) ∈ news) : @Ne Nat T b := x _ h
theorem OffAll.pick' {T b : Addr} {o : Obj} {news : List (Addr × Obj)} (x : OffAll T news) (h : (b, o) ∈ news) : @Ne Nat b T := Ne.symm (x _ h)
theorem Off.mk {a b : Addr} (h : @Ne Nat a b) : Off a b := h
theorem Off.ne {a b : Addr} (h : Off a b) : @Ne Nat a b := h
theorem Off.ne' {a b : Addr} (h : Off b a) : @Ne Nat a b := Ne.symm h
end
end Mine
end
section
open PySem PySem.Builtin.ObjectAttr PySem.W PySem.Calls PyProof.Rows PySem.Builtin
set_option Elab.async false
set_option maxRecDepth 100000
namespace Mine
section
variable {w : World} {A : Around} {E : Value → Shared → Prop} {x dx L f : Addr} {its : Array Value} {n : Nat} {d : Obj} {s : Shared}

theorem acc_getFn {name : Str} {expr : Bool} {of : Obj} {Q : Value → Shared → Prop} (X : (hd.heap_1 w.params).In s.heap) (ho : s.heap.get? x = some (accO dx its n)) (hdx : s.heap.get? dx = some d)
    (hf : findObj (hd.heap_1 w.params) 207 (some d) name = some (Found.bind (Value.builtin "function.__get__") (Value.ref f))) (hof : s.heap.get? f = some of) (hfc : of.cls = .type "function")
    (hq : Q (.ref s.heap.objs.size) { s with heap := s.heap.push { cls := .type "method", data := .fields #[.ref f, .ref x] }, toks := s.toks + 1 }) : wpAny (model PR w) A (getAttr (.ref x) name expr) Q E s := by
  have hga : findIn (hd.heap_1 w.params) (.ref 207) "__getattribute__" = some (some (.builtin "list.__getattribute__")) := by kernel_rfl
  have hk : findIn (hd.heap_1 w.params) (.ref 207) "__getattr__" = some none := by kernel_rfl
  have ty := acc_type (M := model PR w) ho
  have hTf : ({ s with toks := s.toks + 1 } : Shared).TypeIs (.ref f) "function" := ⟨_, hof, hfc⟩
  refine wpAny_bind (wpAny_mkText (wpAny_holding (wpAny_bind (ty _ _ _ _ (fun _ _ e => e) (wpAny_bind (looks_findIn X hga _ _ _ _ (fun _ _ e => e) ?_))))))
  dsimp only
  rw [show (onTheHeap (Value.ref 207) && Value.builtin "list.__getattribute__" == Value.builtin "object.__getattribute__") = false from by rw [show (Value.builtin "list.__getattribute__" == Value.builtin "object.__getattribute__") = false from by decide +kernel, Bool.and_false], if_neg (by decide)]
  unfold getAttrByItsOwn hookBefore
  rw [show onTheHeap (Value.ref 207) = true from rfl, if_pos rfl]
  refine wpAny_bind (looks_findIn X hk _ _ _ _ (fun _ _ e => e) (wpAny_bind (wpAny_attempt (wpAny_holding ?_))))
  unfold callGetattribute
  rw [show (expr && onTheHeap (Value.builtin "list.__getattribute__")) = false from Bool.and_false _, if_neg (by decide)]
  unfold boundAndCalled
  rw [PySem.F.slot_list_getattribute.bind]
  refine wpAny_bind (wpAny_pure ?_)
  show wpAny _ _ (call (.builtin "list.__getattribute__") [.ref x, .str name s.toks]) _ _ _
  refine call_acc (its := its) (n := n) (dx := dx) (.inl (by decide +kernel)) (nm := "__getattribute__") (by decide +kernel) (PySem.F.args_list_getattribute_2 _ _) (by decide +kernel) PySem.F.entry_list_ga X ho ?_
  unfold Builtin.«object.__getattribute__»
  have L0 := (acc_inst ho hdx).type (M := model PR w)
  have L1 := looks_find (M := model PR w) X (acc_inst ho hdx) hf
  refine wpAny_bind (wpAny_pure (wpAny_bind (wpAny_pure (wpAny_bind ?_))))
  refine Looks.here (s := { s with toks := s.toks + 1 }) L0 ?_
  refine wpAny_bind ?_
  refine Looks.here (s := { s with toks := s.toks + 1 }) L1 ?_
  show wpAny _ _ (holding [.ref f] (call (.builtin "function.__get__") [.ref f, .ref x, .ref 207]) >>= ret) _ _ _
  refine wpAny_bind (wpAny_holding (wpAny_call_entry PySem.F.ks_slot_function_get hTf PySem.F.ks_entry_function_get ?_ (PySem.F.ks_getArgs_function _ _ _)))
  unfold Builtin.«function.__get__»
  refine wpAny_bind (wpAny_of_eq (a := (Value.ref f, some (Value.ref x), some (Value.ref 207))) rfl ?_)
  refine wpAny_bind (wpAny_newObj_type (wpAny_pure ⟨_, rfl, wpAny_pure ⟨_, rfl, ?_⟩⟩))
  show wpAny _ _ (handedOut (.ref s.heap.objs.size)) _ _ _
  rw [handedOut_of rfl]
  exact wpAny_pure hq
end
end Mine
end
section
open PySem PySem.W PyProof.Rows
set_option Elab.async false
set_option maxRecDepth 100000
set_option maxHeartbeats 8000000
set_option pp.deepTerms false
set_option pp.deepTerms.threshold 6
set_option pp.maxSteps 3000
set_option pp.proofs false
namespace Mine

theorem rows_PSC_1 : True := by
  k_with_none
  w_top off
  k_with "mine enter" => (k_dflt (refine' code_defG ?k1 ?k2 ?k3 ?k4 ?k5 ?kA ?kF ?kK ?k6 ?k7 ?k8 ?k9 ?kB ?_ ?c2 ?c3 ?c4 ?c5; (case kA => exact rfl); (case kF => exact rfl); (case kK => assumption); (case k1 => k_asm); (case k2 => k_asm); (case k3 => k_asm); (case k4 => k_asm); (case k5 => k_asm); (case k6 => k_is); (case k7 => k_is); (case k8 => first | exact room0 (by assumption) | ktr_room); (case k9 => exact BindsTo.of_eq rfl); (case c5 => decide); (case kB => exact locs rfl); (case c2 => exact rfl); (case c3 => exact rfl); (case c4 => exact rfl); k_whole; intro _ _ _ _ _ _ B' _ _ _; (try dsimp only); (try k_lift B'); (try k_fold)))
  k_with "getMethod ref" => (k_here; k_dflt (refine' ka_method ?k1 ?k2 ?k3 ?k4 ?k5 ?k6 ?k7 ?k8 ?_; (case k1 => k_asm); (case k2 => k_asm); (case k3 => k_asm); (case k4 => k_mem); (case k5 => k_mem); (case k6 => k_is); (case k7 => kernel_rfl); (case k8 => exact rfl); k_whole))
  k_with "call builtin:list.append" => (k_here; k_dflt (refine' ka_append ?k1 ?k2 ?k3 ?k4 ?k5 ?_; (case k1 => k_asm); (case k2 => k_asm); (case k3 => k_asm); (case k4 => k_upd); (case k5 => assumption); k_whole; intro _ _ _; (try k_sweep)))
  k_with "mine out" => (first | exact so_nil | (refine so_fp ?za ?zb; (case za => k_mem); (case zb => walk_at "mine out")) | (refine so_in ?za ?zb; (case za => k_mem); (case zb => walk_at "mine out")))
  k_with "mine fr" => (first | exact fr_nil | (refine fr_cons ?za ?zb; (case za => (first | omega | (dsimp only; omega))); (case zb => walk_at "mine fr")))
  k_with "execs cons" => ((with_reducible refine wpAny_execs_cons ?_); (try dsimp only); (try (refine tk_any ?_; intro _)); (try k_fold))
  trivial
theorem pushC_cl (w : World) (mean : ExcName → Option Value) (mg mb : Str → Option Value) (x dx : Addr) (its : Array Value) (n k : Nat) (kt : Tok) (iv : Value) (f p : Str) (tf tp : Tok) (hsz : its.size ≤ 1000) :
  ∀ (dp un : Nat) (gd : Option (List Code)) (cn : Str) (cs : Scope) (a : Addr) (ccd : Value) (cl : List (Str × Addr)) (outer : List Env) (A₀ : Around) (base h₀ : Heap) (L : Addr) (m : Str → Option Value) (s : Shared) (R : Result → Shared → Prop),
    Below A₀ base outer h₀ → Fr h₀ L s.heap m → (hd.heap_1 w.params).In h₀ → News h₀ L s.heap [(x, accO dx its n), (dx, iniO w kt iv k)] → Top VW LS mean mg mb h₀ → cs.kind = .function → dp + 4 < recursionLimit → un + 40 < cLine →
    (∀ h' tk', (∃ T, h'.get? x = some (accO dx (its.push (.ref T)) (n + 1)) ∧ s.heap.get? T = none ∧ h'.get? T = some (tup2 f tf p tp)) → Fr h₀ L h' m → KeptBut [x] s.heap h' → R (.ok (.ret .none)) { s with heap := h', toks := tk' }) →
    codeAny (model PR w) (ktrTop dp un gd cn cs L a ccd cl outer) (.call (.ref 151) ⟨[.ref x, .str f tf, .str p tp], []⟩) R s := by
  delta PR; k_fill
  intro dp un gd cn cs a ccd cl outer A₀ base h₀ L m s R B F KX N T hk hdp hun hret
  have hne : @Ne Nat x dx := news_neB N (by k_mem) (by k_mem) rfl
  have hne' : @Ne Nat dx x := hne.symm
  w_strict (walk_at "mine enter"; k_steps)
  rename _ < _ ∧ _ < _ => l1
  exact hret _ _ ⟨_, news_at (by assumption) (by k_mem), fresh_of (by assumption) (by assumption) (List.Mem.head _) (by walk_at "mine fr"), news_at (by assumption) (by k_mem)⟩ (by assumption) (kept_mut [x] N (by assumption) (Fr.keep (by assumption)) (sub_out (by assumption) (by walk_at "mine out")))

section
open PySem.Builtin.ObjectAttr
variable {w : World} {A : Around} {E : Value → Shared → Prop} {s : Shared} {x dx L f q : Addr} {h₀ : Heap} {m : Str → Option Value} {its : Array Value} {n : Nat} {news : List (Addr × Obj)} {d : Obj}
theorem ka_getFn {name : Str} {expr : Bool} {Q : Value → Shared → Prop} (F : Fr h₀ L s.heap m) (X₀ : (hd.heap_1 w.params).In h₀) (N : News h₀ L s.heap news) (hx : (x, accO dx its n) ∈ news) (hdx : (dx, d) ∈ news)
    (hf : findObj (hd.heap_1 w.params) 207 (some d) name = some (Found.bind (Value.builtin "function.__get__") (Value.ref f))) (ht : typeIn (hd.heap_1 w.params) (.ref f) = some (.type "function"))
    (h : ∀ q h', Fr h₀ L h' m → News h₀ L h' ((q, methodObj (.ref f) (.ref x)) :: news) → (∀ p ∈ news, p.1 < q) → Q (.ref q) { s with heap := h', toks := s.toks + 1 }) : wpAny (model PR w) A (getAttr (.ref x) name expr) Q E s := by
  have X := X₀.keeps F.keep
  have ht' : ((hd.heap_1 w.params).lookup f).map (·.cls) = some (.type "function") := ht
  obtain ⟨of, hof, hofc⟩ : ∃ of, s.heap.get? f = some of ∧ of.cls = .type "function" := by
    cases z : (hd.heap_1 w.params).lookup f with
    | none => rw [z] at ht'; cases ht'
    | some of => rw [z] at ht'; exact ⟨of, X _ _ z, Option.some.inj ht'⟩
  obtain ⟨F', N', l'⟩ := ks_pushed (o := methodObj (.ref f) (.ref x)) F N rfl
  exact acc_getFn X (N _ hx).1 (N _ hdx).1 hf hof hofc (h _ _ F' N' l')

theorem star_call {M : Model} {env : Env} {o : Expr} {name : Str} {apos pos : Pos} {args : List Expr} {Q : Value → Shared → Prop}
    (h : wpAny M A (PySem.eval o env) (fun ov s₁ => wpAny M A (getAttr ov name true) (fun f s₂ => wpAny M A (callWith pos f [] (backTo pos (starEach args env)) []) Q E s₂) E s₁) E s)
    (he : PySem.eval (.Call (.Attribute o name apos) args [] pos) env = (do
      let ov ← PySem.eval o env
      standAt apos.atName
      let (f, first) ← holding [ov] (do pure (← getAttr ov name true, []))
      callWith pos f first (backTo pos (starEach args env)) [])) :
    wpAny M A (PySem.eval (.Call (.Attribute o name apos) args [] pos) env) Q E s := by
  rw [he]
  refine wpAny_bind (wpAny_mono h (fun ov s₁ h₁ => wpAny_bind (wpAny_standAt (wpAny_bind (wpAny_holding (wpAny_bind (wpAny_mono h₁ (fun f s₂ h₂ => wpAny_pure ?_) fun _ _ x => x)))))) fun _ _ x => x)
  exact h₂

theorem callWith_SP {env : Env} {pos p : Pos} {e : Expr} {Q : Value → Shared → Prop} (_N : News h₀ L s.heap news) (_hq : (q, methodObj (.ref 151) (.ref x)) ∈ news) (h : wpAny (model PR w) A (PySem.eval e env) (fun v s₁ => StarOf (model PR w) A E v (fun vs s₂ => MethP (hd.heap_1 w.params) q 151 (.ref x) s₂.heap ∧ wpAny (model PR w) A (call (.ref q) ([] ++ vs)) Q E s₂) s₁) E s)
    (he : starEach [.Starred e p] env = [(true, PySem.eval e env)]) :
    wpAny (model PR w) A (callWith pos (.ref q) [] (backTo pos (starEach [.Starred e p] env)) []) Q E s := by
  have hf : fnIn (hd.heap_1 w.params) 151 = true := by kernel_rfl
  rw [he]
  exact ks_call rfl (keeps_M hf) (ks_lone h)
theorem fresh_news2 {h h' : Heap} {T : Addr} {o : Obj} (F : Fr h₀ L h m) (N' : News h₀ L h' news) (hf : h.get? T = none) (hg : h'.get? T = some o) : News h₀ L h' ((T, o) :: news) := fresh_news F N' hf hg
end
end Mine
end
section
open PySem PySem.W PyProof.Rows PySem.Builtin
set_option Elab.async false
set_option maxRecDepth 100000
set_option maxHeartbeats 8000000
set_option pp.deepTerms false
set_option pp.deepTerms.threshold 6
set_option pp.maxSteps 3000
set_option pp.proofs false
namespace Mine
theorem upd_off {b : Addr} {o o' : Obj} {news news' : List (Addr × Obj)} (U : Upd b o o' news news') : ∀ q ∈ news', q ∈ news ∨ q = (b, o') := by
  induction U with
  | head ne =>
    intro q hq
    rcases List.mem_cons.mp hq with rfl | hq
    · exact .inr rfl
    · exact .inl (List.mem_cons_of_mem _ hq)
  | tail ne U ih =>
    intro q hq
    rcases List.mem_cons.mp hq with rfl | hq
    · exact .inl (List.mem_cons_self ..)
    · exact (ih q hq).imp (fun h => List.mem_cons_of_mem _ h) id
theorem upd_uniq {b : Addr} {o o' : Obj} {news news' : List (Addr × Obj)} (U : Upd b o o' news news') : ∀ q ∈ news', q.1 = b → q = (b, o') := by
  induction U with
  | head ne =>
    intro q hq e
    rcases List.mem_cons.mp hq with rfl | hq
    · rfl
    · exact absurd e (ne q hq)
  | tail ne U ih =>
    intro q hq e
    rcases List.mem_cons.mp hq with rfl | hq
    · exact absurd e ne
    · exact ih q hq e
theorem upd_mem {b : Addr} {o o' : Obj} {news news' : List (Addr × Obj)} (U : Upd b o o' news news') : (b, o) ∈ news := by
  induction U with
  | head ne => exact List.mem_cons_self ..
  | tail ne U ih => exact List.mem_cons_of_mem _ ih
theorem upd2_then {b c : Addr} {o o' p p' : Obj} {h₀ h h' : Heap} {L : Addr} {news news' news'' : List (Addr × Obj)} {G : Prop} (N : News h₀ L h news) (U : Upd b o o' news news') (V : Upd c p p' news' news'') (k : KeptBut [b, c] h h') (hb : h'.get? b = some o') (hc : h'.get? c = some p') (hg : News h₀ L h' news'' → G) : G := by
  refine hg fun q hq => ?_
  have nb := upd_at N U
  have offs : ∀ q ∈ news', q.1 ≠ L ∧ h₀.get? q.1 = none := fun q hq => by
    rcases upd_off U q hq with h1 | h1
    · exact (N q h1).2
    · rw [h1]; exact nb.2
  by_cases e1 : q.1 = c
  · rw [upd_uniq V q hq e1]
    rcases upd_off V q hq with h1 | h1
    · have := offs q h1; rw [e1] at this; exact ⟨hc, this⟩
    · have := offs _ (upd_mem V); exact ⟨hc, this⟩
  · rcases upd_off V q hq with h1 | h1
    · by_cases e2 : q.1 = b
      · rw [upd_uniq U q h1 e2]; exact ⟨hb, nb.2⟩
      · rcases upd_off U q h1 with h2 | h2
        · exact ⟨k _ _ (by simp [e1, e2]) (N q h2).1, (N q h2).2⟩
        · rw [h2] at e2; exact absurd rfl e2
    · rw [h1] at e1; exact absurd rfl e1
theorem tups_push {g h : Heap} {L T : Addr} {m : Str → Option Value} {ini : Array Value} {Li : List (Str × Str)} {f p : Str} {tf tp : Tok} {news : List (Addr × Obj)} (HT : TupsAt g ini Li) (F : Fr g L h m) (N : News g L h news) (hm : (T, tup2 f tf p tp) ∈ news) : TupsAt h (ini.push (.ref T)) (Li ++ [(f, p)]) := by
  refine ⟨by simp [HT.1], fun j q e => ?_⟩
  rcases Nat.lt_trichotomy j Li.length with hj | hj | hj
  · rw [List.getElem?_append_left hj] at e
    obtain ⟨T', t1, t2, a, b⟩ := HT.2 j q e
    exact ⟨T', t1, t2, by rw [Array.getElem?_push_lt (by rw [HT.1]; exact hj)]; rw [← a, Array.getElem?_eq_getElem], F.keep _ _ b⟩
  · subst hj
    have e' : q = (f, p) := by simpa using e.symm
    subst e'
    exact ⟨T, tf, tp, by rw [← HT.1]; simp, (N _ hm).1⟩
  · rw [List.getElem?_append_right (by omega)] at e
    have : j - Li.length ≠ 0 := by omega
    cases hh : j - Li.length with
    | zero => exact absurd hh this
    | succ q => rw [hh] at e; cases e


noncomputable abbrev fvO (dr : Addr) : Obj := instObj 123 dr
noncomputable abbrev fvE (w : World) (name : Str) (a : Tok) (v : Value) : DictEntry := ⟨PyData.keyHash w.params name, .str name a, v⟩
noncomputable abbrev fvD (w : World) (a1 a2 a3 a4 a5 a6 : Tok) (M : Int) (tM tc tl ts : Tok) (ll x : Addr) (k : Nat) : Obj :=
  dictOf [fvE w (Str.ofString "_maxlen") a1 (.int M tM), fvE w (Str.ofString "_continuation_ws") a2 (.str (Str.ofString " ") tc), fvE w (Str.ofString "_continuation_ws_len") a3 (.int 1 tl), fvE w (Str.ofString "_splitchars") a4 (.str (Str.ofString " ") ts), fvE w (Str.ofString "_lines") a5 (.ref ll), fvE w (Str.ofString "_current_line") a6 (.ref x)] k

theorem tups_base {h₀ h g : Heap} {L : Addr} {ini : Array Value} {Li : List (Str × Str)} {news : List (Addr × Obj)} (N : News h₀ L h news) (GS : GSub h g (news.map (·.1))) (HP : TupsAt h ini Li) (ho : ∀ q ∈ news, q.2.cls ≠ .type "tuple" ∨ ∀ j : Nat, ini[j]? ≠ some (.ref q.1)) : TupsAt g ini Li := by
  refine ⟨HP.1, fun j p e => ?_⟩
  obtain ⟨T, tf, tp, a, b⟩ := HP.2 j p e
  refine ⟨T, tf, tp, a, GS _ _ b fun hm => ?_⟩
  obtain ⟨q, hq, rfl⟩ := List.mem_map.mp hm
  rcases ho q hq with h1 | h1
  · have := (N q hq).1
    rw [b] at this
    exact h1 (by rw [← Option.some.inj this])
  · exact h1 j a
theorem news_neD {h₀ h : Heap} {L dr dx : Addr} {w : World} {a1 a2 a3 a4 a5 a6 : Tok} {M : Int} {tM tc tl ts kt : Tok} {ll x : Addr} {k k' : Nat} {v : Value} {news : List (Addr × Obj)} (N : News h₀ L h news) (h1 : (dr, fvD w a1 a2 a3 a4 a5 a6 M tM tc tl ts ll x k) ∈ news) (h2 : (dx, iniO w kt v k') ∈ news) : @Ne Nat dr dx := by
  rintro rfl
  have a := (N _ h1).1
  have b := (N _ h2).1
  dsimp only at a b
  rw [a] at b
  have := congrArg (fun o : Obj => match o.data with | .dict es _ => es.size | _ => 0) (Option.some.inj b)
  exact absurd (show (6 : Nat) = 1 from this) (by decide)
theorem tups_none (h : Heap) : TupsAt h #[] [] := ⟨rfl, fun j p e => by cases e⟩
theorem tb_nil {ini : Array Value} : ∀ q ∈ ([] : List (Addr × Obj)), q.2.cls ≠ .type "tuple" ∨ ∀ j : Nat, ini[j]? ≠ some (.ref q.1) := List.forall_mem_nil _
theorem tb_cls {ini : Array Value} {a : Addr} {o : Obj} {l : List (Addr × Obj)} (h : (o.cls == .type "tuple") = false) (r : ∀ q ∈ l, q.2.cls ≠ .type "tuple" ∨ ∀ j : Nat, ini[j]? ≠ some (.ref q.1)) : ∀ q ∈ (a, o) :: l, q.2.cls ≠ .type "tuple" ∨ ∀ j : Nat, ini[j]? ≠ some (.ref q.1) :=
  List.forall_mem_cons.mpr ⟨.inl fun e => by dsimp only at e; rw [e] at h; simp at h, r⟩
theorem tb_ref {ini : Array Value} {a : Addr} {o : Obj} {l : List (Addr × Obj)} (h : ∀ j : Nat, ini[j]? ≠ some (.ref a)) (r : ∀ q ∈ l, q.2.cls ≠ .type "tuple" ∨ ∀ j : Nat, ini[j]? ≠ some (.ref q.1)) : ∀ q ∈ (a, o) :: l, q.2.cls ≠ .type "tuple" ∨ ∀ j : Nat, ini[j]? ≠ some (.ref q.1) :=
  List.forall_mem_cons.mpr ⟨.inr h, r⟩
theorem len_snoc {α : Type} {l : List α} {q : α} {n : Nat} (h : (l ++ [q]).length ≤ n + 1) : l.length ≤ n := by rw [List.length_append] at h; exact Nat.le_of_succ_le_succ h
structure Off7 (r dr ll x dx : Addr) : Prop where
  n1 : Off x dx
  n2 : Off x 169
  n3 : Off dx 169
  n4 : Off x 176
  n5 : Off dx 176
  n6 : Off ll x
  n7 : Off ll dx
  n8 : Off ll 169
  n9 : Off ll 176
  m1 : Off r ll
  m2 : Off r x
  m3 : Off r dx
  m4 : Off r 169
  m5 : Off r 176
  m6 : Off dr ll
  m7 : Off dr x
  m8 : Off dr 169
  m9 : Off dr 176
  m0 : Off dr dx
structure Off5 (T ll x dx : Addr) : Prop where
  l1 : Off T ll
  l2 : Off T x
  l3 : Off T dx
  l4 : Off T 169
  l5 : Off T 176
section
variable {h₀ h : Heap} {L r dr ll x dx T : Addr} {w : World} {a1 a2 a3 a4 a5 a6 tM tc tl ts kt tf tp : Tok} {M : Int} {kd kl n k : Nat} {lns its ps qs : Array Value} {v : Value} {f p : Str} {rest : List (Addr × Obj)}
theorem off7 (N : News h₀ L h ((r, fvO dr) :: (dr, fvD w a1 a2 a3 a4 a5 a6 M tM tc tl ts ll x kd) :: (ll, lstO lns kl) :: (x, accO dx its n) :: (dx, iniO w kt v k) :: (169, tabObj ps) :: (176, tabObj qs) :: rest)) : Off7 r dr ll x dx where
  n1 := news_neB N (by k_mem) (by k_mem) rfl
  n2 := news_neB N (by k_mem) (by k_mem) rfl
  n3 := news_neB N (by k_mem) (by k_mem) rfl
  n4 := news_neB N (by k_mem) (by k_mem) rfl
  n5 := news_neB N (by k_mem) (by k_mem) rfl
  n6 := news_neB N (by k_mem) (by k_mem) rfl
  n7 := news_neB N (by k_mem) (by k_mem) rfl
  n8 := news_neB N (by k_mem) (by k_mem) rfl
  n9 := news_neB N (by k_mem) (by k_mem) rfl
  m1 := news_neB N (by k_mem) (by k_mem) rfl
  m2 := news_neB N (by k_mem) (by k_mem) rfl
  m3 := news_neB N (by k_mem) (by k_mem) rfl
  m4 := news_neB N (by k_mem) (by k_mem) rfl
  m5 := news_neB N (by k_mem) (by k_mem) rfl
  m6 := news_neB N (by k_mem) (by k_mem) rfl
  m7 := news_neB N (by k_mem) (by k_mem) rfl
  m8 := news_neB N (by k_mem) (by k_mem) rfl
  m9 := news_neB N (by k_mem) (by k_mem) rfl
  m0 := news_neD N (by k_mem) (by k_mem)
theorem off5 (N : News h₀ L h ((r, fvO dr) :: (dr, fvD w a1 a2 a3 a4 a5 a6 M tM tc tl ts ll x kd) :: (ll, lstO lns kl) :: (x, accO dx its n) :: (dx, iniO w kt v k) :: (169, tabObj ps) :: (176, tabObj qs) :: (T, tup2 f tf p tp) :: rest)) : Off5 T ll x dx where
  l1 := news_neB N (by k_mem) (by k_mem) rfl
  l2 := news_neB N (by k_mem) (by k_mem) rfl
  l3 := news_neB N (by k_mem) (by k_mem) rfl
  l4 := news_neB N (by k_mem) (by k_mem) rfl
  l5 := news_neB N (by k_mem) (by k_mem) rfl
end
end Mine
end
section
open PySem PySem.W PyProof.Rows PySem.Builtin
set_option Elab.async false
set_option maxRecDepth 100000
namespace Mine
section
variable {w : World} {mean : ExcName → Option Value} {mg mb : Str → Option Value} {dp un : Nat} {gd : Option (List Code)} {cn : Str} {cs : Scope} {a : Addr} {ccd : Value} {cl : List (Str × Addr)} {outer : List Env} {A₀ : Around} {base h₀ : Heap} {L : Addr} {m : Str → Option Value} {s : Shared} {Q E : Value → Shared → Prop} {R : Result → Shared → Prop} {all : List (Addr × Obj)}
  {x dx q : Addr} {its ps qs : Array Value} {n k : Nat} {kt tz tf tp : Tok} {z : Int} {iv v : Value} {f p : Str} {Ls : List (Str × Str)}
theorem sub2 {α : Type} {a b : α} {l : List α} (h1 : a ∈ l) (h2 : b ∈ l) : ∀ p ∈ [a, b], p ∈ l := List.forall_mem_cons.mpr ⟨h1, List.forall_mem_cons.mpr ⟨h2, List.forall_mem_nil _⟩⟩
theorem sub3 {α : Type} {a b c : α} {l : List α} (h1 : a ∈ l) (h2 : b ∈ l) (h3 : c ∈ l) : ∀ p ∈ [a, b, c], p ∈ l := List.forall_mem_cons.mpr ⟨h1, sub2 h2 h3⟩
theorem sub4 {α : Type} {a b c d : α} {l : List α} (h1 : a ∈ l) (h2 : b ∈ l) (h3 : c ∈ l) (h4 : d ∈ l) : ∀ p ∈ [a, b, c, d], p ∈ l := List.forall_mem_cons.mpr ⟨h1, sub3 h2 h3 h4⟩
theorem len_use {all' : Array Value → List (Addr × Obj)} (B : Below A₀ base outer h₀) (F : Fr h₀ L s.heap m) (X : (hd.heap_1 w.params).In h₀) (N : News h₀ L s.heap all) (T : Top VW LS mean mg mb h₀) (hk : cs.kind = .function) (hd : dp + 12 < recursionLimit) (hu : un + 120 < cLine) (G : AllBare s.gens)
  (m1 : (x, accO dx its n) ∈ all) (m2 : (dx, iniO w kt (.int z tz) k) ∈ all) (P : TupsAt s.heap its Ls) (x1 : TriplesOk ps.toList) (x2 : ∀ q ∈ Ls, q.1.length ≤ 1000 ∧ q.2.length ≤ 1000) (U : ∀ ps', Upd 169 (tabObj ps) (tabObj ps') all (all' ps'))
  (h : ∀ t h' tk' gs' ps', TriplesOk ps'.toList → Fr h₀ L h' m → News h₀ L h' (all' ps') → AllBare gs' → Q (.int (z + totL Ls) t) { s with heap := h', toks := tk', gens := gs' }) :
  wpAny (model PR w) (ktrTop dp un gd cn cs L a ccd cl outer) (call (.ref 174) [.ref x]) Q E s := by
  refine (len_cl w mean mg mb x dx its ps n k kt tz z Ls x1 x2).use B F X N (sub3 m1 m2 (upd_mem (U ps))) T hk P G hd hu ?_
  rintro v h' tk' gs' ⟨⟨t, rfl⟩, ps', ht, hg⟩ F' K' G'
  exact h t h' tk' gs' ps' ht F' (upd_then N (U ps') K' hg id) G'
theorem str_use {all' : Array Value → List (Addr × Obj)} (B : Below A₀ base outer h₀) (F : Fr h₀ L s.heap m) (X : (hd.heap_1 w.params).In h₀) (N : News h₀ L s.heap all) (T : Top VW LS mean mg mb h₀) (hk : cs.kind = .function) (hd : dp + 12 < recursionLimit) (hu : un + 120 < cLine) (G : AllBare s.gens)
  (m1 : (x, accO dx its n) ∈ all) (m2 : (dx, iniO w kt (.int z tz) k) ∈ all) (P : TupsAt s.heap its Ls) (x1 : TriplesOk ps.toList) (x2 : Ls.length ≤ 100) (x3 : ∀ q ∈ Ls, q.1.length ≤ 1000 ∧ q.2.length ≤ 1000) (U : ∀ ps', Upd 176 (tabObj ps) (tabObj ps') all (all' ps'))
  (h : ∀ t h' tk' gs' ps', TriplesOk ps'.toList → Fr h₀ L h' m → News h₀ L h' (all' ps') → AllBare gs' → Q (.str (strL Ls) t) { s with heap := h', toks := tk', gens := gs' }) :
  wpAny (model PR w) (ktrTop dp un gd cn cs L a ccd cl outer) (call (.ref 181) [.ref x]) Q E s := by
  refine (str_cl w mean mg mb x dx its ps n k kt tz z Ls x1 x2 x3).use B F X N (sub3 m1 m2 (upd_mem (U ps))) T hk P G hd hu ?_
  rintro v h' tk' gs' ⟨⟨t, rfl⟩, ps', ht, hg⟩ F' K' G'
  exact h t h' tk' gs' ps' ht F' (upd_then N (U ps') K' hg id) G'
theorem ws_use {all1 : Array Value → List (Addr × Obj)} {all' : Array Value → Array Value → List (Addr × Obj)} (B : Below A₀ base outer h₀) (F : Fr h₀ L s.heap m) (X : (hd.heap_1 w.params).In h₀) (N : News h₀ L s.heap all) (T : Top VW LS mean mg mb h₀) (hk : cs.kind = .function) (hd : dp + 30 < recursionLimit) (hu : un + 300 < cLine) (G : AllBare s.gens)
  (m1 : (x, accO dx its n) ∈ all) (m2 : (dx, iniO w kt (.int z tz) k) ∈ all) (m3 : (176, tabObj qs) ∈ all) (P : TupsAt s.heap its Ls) (x1 : TriplesOk ps.toList) (x2 : TriplesOk qs.toList) (x3 : Ls.length ≤ 100) (x4 : ∀ q ∈ Ls, q.1.length ≤ 1000 ∧ q.2.length ≤ 1000) (x5 : 0 ≤ z) (x6 : z ≤ 1000) (x7 : z ≠ 0 ∨ (0 < totL Ls ∧ Txt.isspace (strL Ls) = false))
  (U : ∀ ps', Upd 169 (tabObj ps) (tabObj ps') all (all1 ps')) (V : ∀ ps' qs', Upd 176 (tabObj qs) (tabObj qs') (all1 ps') (all' ps' qs'))
  (h : ∀ h' tk' gs' ps' qs', TriplesOk ps'.toList → TriplesOk qs'.toList → Fr h₀ L h' m → News h₀ L h' (all' ps' qs') → AllBare gs' → Q (.bool false) { s with heap := h', toks := tk', gens := gs' }) :
  wpAny (model PR w) (ktrTop dp un gd cn cs L a ccd cl outer) (call (.ref 196) [.ref x]) Q E s := by
  refine (ws_cl w mean mg mb x dx its ps qs n k kt tz z Ls x1 x2 x3 x4 x5 x6 x7).use B F X N (sub4 m1 m2 (upd_mem (U ps)) m3) T hk P G hd hu ?_
  rintro v h' tk' gs' ⟨rfl, ⟨ps', ht, hg⟩, qs', hu, hh⟩ F' K' G'
  exact h h' tk' gs' ps' qs' ht hu F' (upd2_then N (U ps') (V ps' qs') K' hg hh id) G'
theorem pushC_use {all' : Addr → List (Addr × Obj)} (B : Below A₀ base outer h₀) (F : Fr h₀ L s.heap m) (X : (hd.heap_1 w.params).In h₀) (N : News h₀ L s.heap all) (T : Top VW LS mean mg mb h₀) (hk : cs.kind = .function) (hd : dp + 4 < recursionLimit) (hu : un + 40 < cLine)
  (m0 : (q, methodObj (.ref 151) (.ref x)) ∈ all) (m1 : (dx, iniO w kt iv k) ∈ all) (x1 : its.size ≤ 1000) (U : ∀ T, Upd x (accO dx its n) (accO dx (its.push (.ref T)) (n + 1)) all (all' T))
  (h : ∀ T h' tk', s.heap.get? T = none → OffAll T all → Fr h₀ L h' m → News h₀ L h' ((T, tup2 f tf p tp) :: all' T) → Q .none { s with heap := h', toks := tk' }) :
  wpAny (model PR w) (ktrTop dp un gd cn cs L a ccd cl outer) (call (.ref q) [.str f tf, .str p tp]) Q E s := by
  refine call_meth N m0 ?_
  refine pushC_cl w mean mg mb x dx its n k kt iv f p tf tp x1 _ _ _ _ _ _ _ _ _ _ _ _ _ _ _ _ B F X (cb_drop N (sub2 (upd_mem (U 0)) m1)) T hk hd hu ?_
  rintro h' tk' ⟨T, hg, hn, ht⟩ F' K'
  exact h T h' tk' hn (OffAll.of N hn) F' (fresh_news2 F (upd_then N (U T) K' hg id) hn ht)
theorem push_use {all' : Addr → List (Addr × Obj)} (B : Below A₀ base outer h₀) (F : Fr h₀ L s.heap m) (X : (hd.heap_1 w.params).In h₀) (N : News h₀ L s.heap all) (T : Top VW LS mean mg mb h₀) (hk : cs.kind = .function) (hd : dp + 4 < recursionLimit) (hu : un + 40 < cLine)
  (m1 : (dx, iniO w kt iv k) ∈ all) (x1 : its.size ≤ 1000) (U : ∀ T, Upd x (accO dx its n) (accO dx (its.push (.ref T)) (n + 1)) all (all' T))
  (h : ∀ T h' tk', s.heap.get? T = none → OffAll T all → Fr h₀ L h' m → News h₀ L h' ((T, tup2 f tf p tp) :: all' T) → Q .none { s with heap := h', toks := tk' }) :
  wpAny (model PR w) (ktrTop dp un gd cn cs L a ccd cl outer) (call (.ref 151) [.ref x, .str f tf, .str p tp]) Q E s := by
  refine (push_cl w mean mg mb x dx its n k kt iv f p tf tp x1).use B F X N (sub2 (upd_mem (U 0)) m1) T hk trivial hd hu ?_
  rintro v h' tk' ⟨rfl, T, hg, hn, ht⟩ F' K'
  exact h T h' tk' hn (OffAll.of N hn) F' (fresh_news2 F (upd_then N (U T) K' hg id) hn ht)
theorem pop_use {all' : List (Addr × Obj)} (B : Below A₀ base outer h₀) (F : Fr h₀ L s.heap m) (X : (hd.heap_1 w.params).In h₀) (N : News h₀ L s.heap all) (T : Top VW LS mean mg mb h₀) (hk : cs.kind = .function) (hd : dp + 12 < recursionLimit) (hu : un + 120 < cLine)
  (m1 : (dx, iniO w kt iv k) ∈ all) (x1 : its.size < 1000) (U : Upd x (accO dx (its.push v) n) (accO dx its (n + 1)) all all')
  (h : ∀ h' tk', Fr h₀ L h' m → News h₀ L h' all' → Q v { s with heap := h', toks := tk' }) :
  wpAny (model PR w) (ktrTop dp un gd cn cs L a ccd cl outer) (call (.ref 167) [.ref x]) Q E s := by
  refine (pop_cl w mean mg mb x dx its v n k kt iv x1).use B F X N (sub2 (upd_mem U) m1) T hk trivial hd hu ?_
  rintro v h' tk' ⟨rfl, hg⟩ F' K'
  exact h h' tk' F' (upd_then N U K' hg id)
theorem popnil_use (B : Below A₀ base outer h₀) (F : Fr h₀ L s.heap m) (X : (hd.heap_1 w.params).In h₀) (N : News h₀ L s.heap all) (T : Top VW LS mean mg mb h₀) (hk : cs.kind = .function) (hd : dp + 12 < recursionLimit) (hu : un + 120 < cLine)
  (m0 : (x, accO dx #[] n) ∈ all) (m1 : (dx, iniO w kt iv k) ∈ all)
  (h : ∀ T t t' h' tk', s.heap.get? T = none → OffAll T all → Fr h₀ L h' m → News h₀ L h' ((T, tup2 (Str.ofString "") t (Str.ofString "") t') :: all) → Q (.ref T) { s with heap := h', toks := tk' }) :
  wpAny (model PR w) (ktrTop dp un gd cn cs L a ccd cl outer) (call (.ref 167) [.ref x]) Q E s := by
  refine (popnil_cl w mean mg mb x dx n k kt iv).use B F X N (sub2 m0 m1) T hk trivial hd hu ?_
  rintro v h' tk' ⟨T, t, t', rfl, hn, ht⟩ F' K'
  exact h T t t' h' tk' hn (OffAll.of N hn) F' (fresh_news2 F (kept_news N K') hn ht)
theorem reset_use {all1 : Nat → List (Addr × Obj)} {all' : Nat → Tok → Nat → List (Addr × Obj)} (B : Below A₀ base outer h₀) (F : Fr h₀ L s.heap m) (X : (hd.heap_1 w.params).In h₀) (N : News h₀ L s.heap all) (T : Top VW LS mean mg mb h₀) (hk : cs.kind = .function) (hd : dp + 12 < recursionLimit) (hu : un + 120 < cLine)
  (m1 : (dx, iniO w kt iv k) ∈ all) (x1 : its.size ≤ 1000) (U : ∀ n', Upd x (accO dx its n) (accO dx #[] n') all (all1 n')) (V : ∀ n' t' k', Upd dx (iniO w kt iv k) (iniO w kt (.int 0 t') k') (all1 n') (all' n' t' k'))
  (h : ∀ n' t' k' h' tk', Fr h₀ L h' m → News h₀ L h' (all' n' t' k') → Q .none { s with heap := h', toks := tk' }) :
  wpAny (model PR w) (ktrTop dp un gd cn cs L a ccd cl outer) (call (.ref 189) [.ref x]) Q E s := by
  refine (reset_cl w mean mg mb x dx its n k kt iv x1).use B F X N (sub2 (upd_mem (U 0)) m1) T hk trivial hd hu ?_
  rintro v h' tk' ⟨rfl, n', t', k', hg, hh⟩ F' K'
  exact h n' t' k' h' tk' F' (upd2_then N (U n') (V n' t' k') K' hg hh id)
theorem reset1_use {r : Addr} {jts : Array Value} {kr : Nat} {all1 : Nat → List (Addr × Obj)} {all' : Nat → Tok → List (Addr × Obj)} (B : Below A₀ base outer h₀) (F : Fr h₀ L s.heap m) (X : (hd.heap_1 w.params).In h₀) (N : News h₀ L s.heap all) (T : Top VW LS mean mg mb h₀) (hk : cs.kind = .function) (hd : dp + 12 < recursionLimit) (hu : un + 120 < cLine)
  (m0 : (r, lstO jts kr) ∈ all) (m1 : (dx, iniO w kt iv k) ∈ all) (U : ∀ n', Upd x (accO dx its n) (accO dx jts n') all (all1 n')) (V : ∀ n' t', Upd dx (iniO w kt iv k) (iniO w kt (.int 0 t') k) (all1 n') (all' n' t')) (x1 : its.size ≤ 1000) (x2 : jts.size ≤ 1000)
  (h : ∀ n' t' h' tk', Fr h₀ L h' m → News h₀ L h' (all' n' t') → Q .none { s with heap := h', toks := tk' }) :
  wpAny (model PR w) (ktrTop dp un gd cn cs L a ccd cl outer) (call (.ref 189) [.ref x, .ref r]) Q E s := by
  refine (reset1_cl w mean mg mb x dx r its jts n k kr kt iv x1 x2).use B F X N (sub3 (upd_mem (U 0)) m1 m0) T hk trivial hd hu ?_
  rintro v h' tk' ⟨rfl, n', t', hg, hh⟩ F' K'
  exact h n' t' h' tk' F' (upd2_then N (U n') (V n' t') K' hg hh id)
theorem count_use (B : Below A₀ base outer h₀) (F : Fr h₀ L s.heap m) (X : (hd.heap_1 w.params).In h₀) (N : News h₀ L s.heap all) (T : Top VW LS mean mg mb h₀) (hk : cs.kind = .function) (hd : dp + 6 < recursionLimit) (hu : un + 60 < cLine)
  (m0 : (x, accO dx its n) ∈ all) (m1 : (dx, iniO w kt iv k) ∈ all)
  (h : ∀ t h' tk', Fr h₀ L h' m → News h₀ L h' all → Q (.int its.size t) { s with heap := h', toks := tk' }) :
  wpAny (model PR w) (ktrTop dp un gd cn cs L a ccd cl outer) (call (.ref 204) [.ref x]) Q E s := by
  refine (count_cl w mean mg mb x dx its n k kt iv).use B F X N (sub2 m0 m1) T hk trivial hd hu ?_
  rintro v h' tk' ⟨t, rfl⟩ F' K'
  exact h t h' tk' F' (kept_news N K')
end
end Mine
end
section
open PySem PySem.W PySem.Calls PyProof.Rows PySem.Builtin
set_option Elab.async false
set_option maxRecDepth 100000
namespace Mine
section
variable {h₀ h h' : Heap} {L : Addr} {fp : List Addr} {news news' news1 news2 news3 news4 news5 : List (Addr × Obj)}
/-- a ledger but for the objects of a footprint -/
noncomputable def NB (h₀ h' : Heap) (L : Addr) (fp : List Addr) (news : List (Addr × Obj)) : Prop := ∀ p ∈ news, (p.1 ∉ fp → h'.get? p.1 = some p.2) ∧ @Ne Nat p.1 L ∧ h₀.get? p.1 = none
theorem NB.of (N : News h₀ L h news) (k : KeptBut fp h h') : NB h₀ h' L fp news := fun p hp => ⟨fun hf => k _ _ hf (N p hp).1, (N p hp).2⟩
theorem NB.upd {b : Addr} {o o' : Obj} (x : NB h₀ h' L (b :: fp) news) (U : Upd b o o' news news') (hb : h'.get? b = some o') : NB h₀ h' L fp news' := by
  intro q hq
  by_cases e : q.1 = b
  · rw [upd_uniq U q hq e]
    exact ⟨fun _ => hb, (x _ (upd_mem U)).2⟩
  · rcases upd_off U q hq with h1 | h1
    · exact ⟨fun hf => (x q h1).1 (by simp [e, hf]), (x q h1).2⟩
    · rw [h1] at e; exact absurd rfl e
theorem NB.out (x : NB h₀ h' L [] news) : News h₀ L h' news := fun p hp => ⟨(x p hp).1 (by simp), (x p hp).2⟩

theorem upd4_then {b1 b2 b3 b4 : Addr} {o1 o1' o2 o2' o3 o3' o4 o4' : Obj} {G : Prop} (N : News h₀ L h news) (U1 : Upd b1 o1 o1' news news1) (U2 : Upd b2 o2 o2' news1 news2) (U3 : Upd b3 o3 o3' news2 news3) (U4 : Upd b4 o4 o4' news3 news4) (k : KeptBut [b1, b2, b3, b4] h h') (g1 : h'.get? b1 = some o1') (g2 : h'.get? b2 = some o2') (g3 : h'.get? b3 = some o3') (g4 : h'.get? b4 = some o4') (hg : News h₀ L h' news4 → G) : G :=
  hg (((((NB.of N k).upd U1 g1).upd U2 g2).upd U3 g3).upd U4 g4).out
theorem upd5_then {b1 b2 b3 b4 b5 : Addr} {o1 o1' o2 o2' o3 o3' o4 o4' o5 o5' : Obj} {G : Prop} (N : News h₀ L h news) (U1 : Upd b1 o1 o1' news news1) (U2 : Upd b2 o2 o2' news1 news2) (U3 : Upd b3 o3 o3' news2 news3) (U4 : Upd b4 o4 o4' news3 news4) (U5 : Upd b5 o5 o5' news4 news5) (k : KeptBut [b1, b2, b3, b4, b5] h h') (g1 : h'.get? b1 = some o1') (g2 : h'.get? b2 = some o2') (g3 : h'.get? b3 = some o3') (g4 : h'.get? b4 = some o4') (g5 : h'.get? b5 = some o5') (hg : News h₀ L h' news5 → G) : G :=
  hg ((((((NB.of N k).upd U1 g1).upd U2 g2).upd U3 g3).upd U4 g4).upd U5 g5).out
end
end Mine
end
section
open PySem PySem.W PySem.Calls PyProof.Rows PySem.Builtin
set_option Elab.async false
set_option maxRecDepth 100000
namespace Mine
section
variable {w : World} {A : Around} {E : Value → Shared → Prop} {s : Shared} {env : Env} {h₀ : Heap}
noncomputable def TurnAt (w : World) (A : Around) (E : Value → Shared → Prop) (env : Env) (target : PySem.Expr) (body orelse : List Stmt) (Q : Flow → Shared → Prop) (I : Nat → Shared → Prop) (n : Nat) (r : Option Value) (s₁ : Shared) : Prop := match r with
  | none => wpAny (model PR w) A (execs orelse env) Q E s₁
  | some v => wpAny (model PR w) A (assign target env v) (fun _ s₂ => wpAny (model PR w) A (execs body env) (fun f s₃ => match f with
      | .next | .cont => ∃ m, m < n ∧ I m s₃
      | .brk => Q .next s₃
      | .ret v => Q (.ret v) s₃) E s₂) E s₁
theorem for_run2 {target iter : PySem.Expr} {body orelse : List Stmt} {pos : Pos} {Q : Flow → Shared → Prop} (hE : PassesOwn (model PR w) A env E)
    (h : wpAny (model PR w) A (PySem.eval iter env) (fun x s₁ => wpAny (model PR w) A (pyIter x) (fun it s₂ => ∃ I : Nat → Shared → Prop, (∃ n, I n s₂) ∧ ∀ n s, I n s → wpAny (model PR w) A (pyNext it) (TurnAt w A E env target body orelse Q I n) E s) E s₁) E s)
    (hs : ∀ x, foldedSetIterable iter env x = pure x) (ht : ∀ it v, letOwnedTupleGo target it v = pure ()) : wpAny (model PR w) A (exec (.For target iter body orelse pos) env) Q E s := by
  refine wpAny_For (wpAny_mono h (fun x s₁ h₁ => wpAny_mono h₁ (fun it s₂ h₂ => ?_) fun _ _ e => e) fun _ _ e => e) hs
  refine Exists.elim h₂ fun I q => Exists.elim q.1 fun n hI => ?_
  refine codeAny_forLoop (R := fun r s' => match r with | .ok f => Q f s' | .error e => cameBackBy (model PR w) A env E e s') I (fun n s hI => ?_) n hI (ht it)
  refine wpAny_mono (q.2 n s hI) (fun r s₁ hr => ?_) hE
  cases r with
  | none => exact wpAny_passesOwn hE hr
  | some v => exact wpAny_mono hr (fun _ s₂ h₂ => wpAny_passesOwn hE (wpAny_mono h₂ (fun f s₃ h₃ => by cases f <;> exact h₃) fun _ _ e => e)) hE
theorem kept1 {h h' : Heap} {L J : Addr} {o : Obj} {news : List (Addr × Obj)} {m : Str → Option Value} (F : Fr h₀ L h m) (N : News h₀ L h ((J, o) :: news)) (ne : ∀ p ∈ news, @Ne Nat p.1 J) (k : KeptBut [J] h h') : Fr h₀ L h' m ∧ News h₀ L h' news := by
  have nJ := N _ (List.mem_cons_self ..)
  refine ⟨kept_fr F k (by simpa using nJ.2.1.symm) (by intro b hb; rw [List.mem_singleton.mp hb]; exact nJ.2.2), fun p hp => ?_⟩
  have z := N p (List.mem_cons_of_mem _ hp)
  exact ⟨k _ _ (by simpa using ne p hp) z.1, z.2⟩
theorem kept1_to {h h' : Heap} {L J : Addr} {o o' : Obj} {news : List (Addr × Obj)} {m : Str → Option Value} (F : Fr h₀ L h m) (N : News h₀ L h ((J, o) :: news)) (ne : ∀ p ∈ news, @Ne Nat p.1 J) (k : KeptBut [J] h h') (e : h'.get? J = some o') : Fr h₀ L h' m ∧ News h₀ L h' ((J, o') :: news) := by
  have q := kept1 F N ne k
  exact ⟨q.1, List.forall_mem_cons.mpr ⟨⟨e, (N _ (List.mem_cons_self ..)).2⟩, q.2⟩⟩
theorem kept_end {h h' : Heap} {J : Addr} (hs' : ∀ b o, b ≠ J → h.get? b = some o → h'.get? b = some o) : KeptBut [J] h h' := fun b o hb e => hs' b o (fun q => hb (by simp [q])) e

end
end Mine
end
section
open PySem PySem.W PyProof.Rows PySem.Builtin
set_option Elab.async false
set_option maxRecDepth 100000
set_option maxHeartbeats 8000000
set_option pp.deepTerms false
set_option pp.deepTerms.threshold 6
set_option pp.maxSteps 3000
set_option pp.proofs false
namespace Mine
theorem rows_VF1_1 : True := by
  k_with_none
  w_top off
  k_with "k_ne" => (first | with_reducible exact Off.ne (by assumption) | with_reducible exact Off.ne' (by assumption) | exact news_neB (by assumption) (by k_mem) (by k_mem) rfl | (refine neN ?_; (try dsimp only); omega))
  k_with "mine enter" => (k_dflt (refine' code_defG ?k1 ?k2 ?k3 ?k4 ?k5 ?kA ?kF ?kK ?k6 ?k7 ?k8 ?k9 ?kB ?_ ?c2 ?c3 ?c4 ?c5; (case kA => exact rfl); (case kF => exact rfl); (case kK => assumption); (case k1 => k_asm); (case k2 => k_asm); (case k3 => k_asm); (case k4 => k_asm); (case k5 => k_asm); (case k6 => k_is); (case k7 => k_is); (case k8 => first | exact room0 (by assumption) | ktr_room); (case k9 => first | exact BindsTo.of_eq rfl | exact binds_K (by k_in) rfl (by k_is) rfl rfl rfl); (case c5 => decide); (case kB => exact locs rfl); (case c2 => exact rfl); (case c3 => exact rfl); (case c4 => exact rfl); k_whole; intro _ _ _ _ _ _ B' _ _ _; (try dsimp only); (try k_lift B'); (try k_fold)))
  k_with "getMethod ref" => (k_here; k_dflt (refine' ka_method ?k1 ?k2 ?k3 ?k4 ?k5 ?k6 ?k7 ?k8 ?_; (case k1 => k_asm); (case k2 => k_asm); (case k3 => k_asm); (case k4 => k_mem); (case k5 => k_mem); (case k6 => k_is); (case k7 => kernel_rfl); (case k8 => exact rfl); k_whole))
  k_with "compareOp NotEq ref ref" => (k_here; k_dflt (refine' ka_ne_pair ?k1 ?k2 ?k3 ?k4 ?k5 ?_; (case k1 => k_asm); (case k2 => k_mem); (case k3 => k_mem); (case k4 => ktr_units); (case k5 => assumption); k_whole))
  k_with "getAttr ref" => (k_here; (with_reducible show wpAny _ _ (getAttr (Value.ref _) (PySem.Str.ofString "push") _) _ _ _); k_dflt (refine' ka_getFn (f := 151) ?k1 ?k2 ?k3 ?k4 ?k5 ?k6 ?k7 ?_; (case k1 => k_asm); (case k2 => k_asm); (case k3 => k_asm); (case k4 => k_mem); (case k5 => k_mem); (case k6 => kernel_rfl); (case k7 => kernel_rfl); k_whole); intro _ _ _ _ l1; (try k_lt l1))
  k_with "callWith ref" => (k_here; (with_reducible show wpAny _ _ (callWith _ (Value.ref _) _ (backTo _ (starEach [Expr.Starred _ _] _)) []) _ _ _); k_dflt (refine' callWith_SP ?k1 ?k2 ?_ ?k3; (case k1 => k_asm); (case k2 => k_mem); (case k3 => exact rfl); k_whole))
  k_with "eval Call Attribute" => (k_here; (with_reducible show wpAny _ _ (PySem.eval (Expr.Call _ [Expr.Starred _ _] _ _) _) _ _ _); k_dflt (refine' star_call ?_ ?k1; (case k1 => exact rfl); k_whole))
  k_with "mine base" => (first | exact tb_nil | (refine tb_cls rfl ?zb; (case zb => walk_at "mine base")) | (refine tb_ref (by assumption) ?zb; (case zb => walk_at "mine base")))
  k_with "mine out" => (first | exact so_nil | (refine so_fp ?za ?zb; (case za => k_mem); (case zb => walk_at "mine out")) | (refine so_in ?za ?zb; (case za => k_mem); (case zb => walk_at "mine out")))
  k_with "mine sub" => (first | exact sub_nil | (refine sub_cons ?za ?zb; (case za => k_mem); (case zb => walk_at "mine sub")))
  k_with "mine cl" => ((case fB => k_asm); (case fF => k_asm); (case fX => k_asm); (case fN => k_asm); (case fT => k_asm); (case fk => exact rfl); (case fd => first | exact room_le (by assumption) rfl | ktr_room); (case fu => first | exact room_le (by assumption) rfl | ktr_units); (try case fG => k_asm); (try case m0 => k_mem); (try case m1 => k_mem); (try case m2 => k_mem); (try case m3 => k_mem); (try case fU => walk_at "mine upd"); (try case fV => walk_at "mine upd"); (try case u1 => walk_at "mine upd"); (try case u2 => walk_at "mine upd"); (try case u3 => walk_at "mine upd"); (try case u4 => walk_at "mine upd"); (try case u5 => walk_at "mine upd"); (try case m4 => k_mem); (try case m5 => k_mem); (try case m6 => k_mem); (try case fP => walk_at "mine tups"))
  k_with "mine upd" => (first | k_upd | (intro _; walk_at "mine upd"))
  k_with "mine tups" => (first | exact TupsAt.keeps (by assumption) (fun b f tf p tp e => Fr.keep (by assumption) _ _ e) | exact tups_push (by assumption) (by assumption) (by assumption) (by k_mem))
  k_with "mine x" => (first | assumption | omega | (rw [Array.size_push]; omega) | (simp; omega) | (simp; done))
  k_with "call ref" => (k_here; k_dflt (refine' pushC_use ?fB ?fF ?fX ?fN ?fT ?fk ?fd ?fu ?m0 ?m4 ?x1 ?fU ?_; walk_at "mine cl"; (case x1 => walk_at "mine x"); k_whole); intro _ _ _ _ _ _ _; (try k_sweep); (try dsimp only); (try k_fold))
  k_with "getAttr ref" => (k_here; (with_reducible show wpAny _ _ (getAttr (Value.ref _) (PySem.Str.ofString "_initial_size") _) _ _ _); k_dflt (refine' ka_getIS ?k1 ?k2 ?k3 ?k4 ?k5 ?k6 ?_; (case k1 => k_asm); (case k2 => k_asm); (case k3 => k_asm); (case k4 => k_mem); (case k5 => k_mem); (case k6 => first | rfl | assumption); k_whole))
  k_with "call ref" => (k_here; k_dflt (refine' len_use ?fB ?fF ?fX ?fN ?fT ?fk ?fd ?fu ?fG ?m1 ?m2 ?fP ?x1 ?x2 ?fU ?_; walk_at "mine cl"; (case x1 => walk_at "mine x"); (case x2 => walk_at "mine x"); k_whole); intro _ _ _ _ _ _ _ _ _; (try k_sweep); (try dsimp only); (try k_fold))
  k_with "call ref" => (k_here; k_dflt (refine' str_use ?fB ?fF ?fX ?fN ?fT ?fk ?fd ?fu ?fG ?m1 ?m2 ?fP ?x1 ?x2 ?x3 ?fU ?_; walk_at "mine cl"; (case x1 => walk_at "mine x"); (case x2 => walk_at "mine x"); (case x3 => walk_at "mine x"); k_whole); intro _ _ _ _ _ _ _ _ _; (try k_sweep); (try dsimp only); (try k_fold))
  k_with "call ref" => (k_here; k_dflt (refine' ws_use ?fB ?fF ?fX ?fN ?fT ?fk ?fd ?fu ?fG ?m1 ?m2 ?m3 ?fP ?x1 ?x2 ?x3 ?x4 ?x5 ?x6 ?x7 ?fU ?fV ?_; walk_at "mine cl"; (case x1 => walk_at "mine x"); (case x2 => walk_at "mine x"); (case x3 => walk_at "mine x"); (case x4 => walk_at "mine x"); (case x5 => walk_at "mine x"); (case x6 => walk_at "mine x"); (case x7 => walk_at "mine x"); k_whole); intro _ _ _ _ _ _ _ _ _ _; (try k_sweep); (try dsimp only); (try k_fold))
  k_with "call ref" => (k_here; k_dflt (refine' push_use ?fB ?fF ?fX ?fN ?fT ?fk ?fd ?fu ?m4 ?x1 ?fU ?_; walk_at "mine cl"; (case x1 => walk_at "mine x"); k_whole); intro _ _ _ _ _ _ _; (try k_sweep); (try dsimp only); (try k_fold))
  k_with "call ref" => (k_here; k_dflt (refine' pop_use ?fB ?fF ?fX ?fN ?fT ?fk ?fd ?fu ?m4 ?x1 ?fU ?_; walk_at "mine cl"; (case x1 => walk_at "mine x"); k_whole); intro _ _ _ _; (try k_sweep); (try dsimp only); (try k_fold))
  k_with "call ref" => (k_here; k_dflt (refine' popnil_use ?fB ?fF ?fX ?fN ?fT ?fk ?fd ?fu ?m0 ?m1 ?_; walk_at "mine cl"; k_whole); intro _ _ _ _ _ _ _ _ _; (try k_sweep); (try dsimp only); (try k_fold))
  k_with "call ref" => (k_here; k_dflt (refine' reset_use ?fB ?fF ?fX ?fN ?fT ?fk ?fd ?fu ?m4 ?x1 ?fU ?fV ?_; walk_at "mine cl"; (case x1 => walk_at "mine x"); k_whole); intro _ _ _ _ _ _ _; (try k_sweep); (try dsimp only); (try k_fold))
  k_with "truthy ref" => (k_here; k_dflt (refine' ka_truthy ?k1 ?k2 ?k3 ?k4 ?k5 ?_; (case k1 => k_asm); (case k2 => k_asm); (case k3 => k_asm); (case k4 => k_mem); (case k5 => k_mem); k_whole))
  k_with "call type:str" => (k_here; k_dflt (refine' kso_call ?k1 ?k2 (acc_inst (news_at ?k3 ?k4) (news_at ?k5 ?k6)) ?k7 ?k8 ?_; (case k1 => ktr_units); (case k2 => k_in); (case k3 => k_asm); (case k4 => k_mem); (case k5 => k_asm); (case k6 => k_mem); (case k7 => k_is); (case k8 => k_is); k_whole))
  k_with "StrBack" => (dsimp only [W.StrBack])
  k_with "call builtin:len" => (k_here; k_dflt (refine' ka_len2 ?k1 ?k2 ?k3 ?k4 ?k5 ?_; (case k1 => k_asm); (case k2 => k_asm); (case k3 => k_asm); (case k4 => k_mem); (case k5 => k_mem); k_whole))
  k_with "LenBack" => (k_dflt (refine ⟨⟨by omega, by omega⟩, ?_⟩))
  k_with "execs cons" => ((with_reducible refine wpAny_execs_cons ?_); (try dsimp only); (try (refine tk_any ?_; intro _)); (try k_fold))
  trivial
theorem nl_cl (w : World) (mean : ExcName → Option Value) (mg mb : Str → Option Value) (r dr ll x dx T : Addr) (a1 a2 a3 a4 a5 a6 tM tc tl ts : Tok) (M : Int) (kd kl n k : Nat) (lns ini ps qs : Array Value) (kt tz tf tp : Tok) (z : Int) (f p : Str) (Li : List (Str × Str)) (htr : TriplesOk ps.toList) (hts : TriplesOk qs.toList) (hn : (Li ++ [(f, p)]).length ≤ 100) (hln : lns.size ≤ 100) (hLs : ∀ q ∈ Li ++ [(f, p)], q.1.length ≤ 1000 ∧ q.2.length ≤ 1000)
  (hz0 : 0 ≤ z) (hz1 : z ≤ 1000) (hp : 0 < p.length) (hpe : (p == Str.ofString "") = false ∨ (f == Str.ofString " ") = false) (hz : z ≠ 0 ∨ (0 < totL (Li ++ [(f, p)]) ∧ Txt.isspace (strL (Li ++ [(f, p)])) = false)) :
  ROG w mean mg mb 85 [ll, x, dx, 169, 176] (fun h => TupsAt h ini Li ∧ ∀ j : Nat, ini[j]? ≠ some (.ref T)) [(r, fvO dr), (dr, fvD w a1 a2 a3 a4 a5 a6 M tM tc tl ts ll x kd), (ll, lstO lns kl), (x, accO dx (ini.push (.ref T)) n), (dx, iniO w kt (.int z tz) k), (169, tabObj ps), (176, tabObj qs), (T, tup2 f tf p tp)] [.ref r]
    (fun _ v h' => v = .none ∧ (∃ n' kl' k' t' u', h'.get? ll = some (lstO (lns.push (.str (strL (Li ++ [(f, p)])) u')) kl') ∧ h'.get? x = some (accO dx #[] n') ∧ h'.get? dx = some (iniO w kt (.int 0 t') k')) ∧ (∃ ps', TriplesOk ps'.toList ∧ h'.get? 169 = some (tabObj ps')) ∧ (∃ qs', TriplesOk qs'.toList ∧ h'.get? 176 = some (tabObj qs'))) 50 500 := by
  delta ROG PR; k_fill
  intro dp un gd cn cs a ccd cl outer A₀ base h₀ L m s Q E B F KX N T' hk HP G hdp hun hret
  obtain ⟨HP, hTi⟩ := HP
  have o7 := off7 N
  have n1 := o7.n1
  have n2 := o7.n2
  have n3 := o7.n3
  have n4 := o7.n4
  have n5 := o7.n5
  have n6 := o7.n6
  have n7 := o7.n7
  have n8 := o7.n8
  have n9 := o7.n9
  have m1 := o7.m1
  have m2 := o7.m2
  have m3 := o7.m3
  have m4 := o7.m4
  have m5 := o7.m5
  have m6 := o7.m6
  have m7 := o7.m7
  have m8 := o7.m8
  have m9 := o7.m9
  have m0 := o7.m0
  have o5 := off5 N
  have l1 := o5.l1
  have l2 := o5.l2
  have l3 := o5.l3
  have l4 := o5.l4
  have l5 := o5.l5
  have htot := totL_le (Li ++ [(f, p)]) hn hLs
  have hsz : ini.size < 1000 := by rw [HP.1]; simp at hn; omega
  have hsz' : ini.size ≤ 1000 := by omega
  w_strict (refine wpAny_call ?_; walk_at "mine enter")
  rename_i g1 L1 h1 FG1 F1 N1 X1 T1 GS1
  have HT : TupsAt g1 ini Li := tups_base N GS1 HP (by walk_at "mine base")
  w_strict k_steps
  exact hret _ _ _ _ ⟨rfl, (exI5 _ _ _ _ _ ⟨news_at (by assumption) (by k_mem), news_at (by assumption) (by k_mem), news_at (by assumption) (by k_mem)⟩), tri_at (by assumption) (by k_mem) (by assumption), tri_at (by assumption) (by k_mem) (by assumption)⟩ (by assumption) (kept_mut [ll, x, dx, 169, 176] N (by assumption) (Fr.keep (by assumption)) (sub_out (by assumption) (by walk_at "mine out"))) (by assumption)
end Mine
end
section
open PySem PySem.W PyProof.Rows PySem.Builtin
set_option Elab.async false
set_option maxRecDepth 100000
set_option maxHeartbeats 8000000
set_option pp.deepTerms false
set_option pp.deepTerms.threshold 6
set_option pp.maxSteps 3000
set_option pp.proofs false
namespace Mine
theorem rows_VF2_1 : True := by
  k_with_none
  w_top off
  k_with "k_ne" => (first | with_reducible exact Off.ne (by assumption) | with_reducible exact Off.ne' (by assumption) | exact news_neB (by assumption) (by k_mem) (by k_mem) rfl | (refine neN ?_; (try dsimp only); omega))
  k_with "mine enter" => (k_dflt (refine' code_defG ?k1 ?k2 ?k3 ?k4 ?k5 ?kA ?kF ?kK ?k6 ?k7 ?k8 ?k9 ?kB ?_ ?c2 ?c3 ?c4 ?c5; (case kA => exact rfl); (case kF => exact rfl); (case kK => assumption); (case k1 => k_asm); (case k2 => k_asm); (case k3 => k_asm); (case k4 => k_asm); (case k5 => k_asm); (case k6 => k_is); (case k7 => k_is); (case k8 => first | exact room0 (by assumption) | ktr_room); (case k9 => first | exact BindsTo.of_eq rfl | exact binds_K (by k_in) rfl (by k_is) rfl rfl rfl); (case c5 => decide); (case kB => exact locs rfl); (case c2 => exact rfl); (case c3 => exact rfl); (case c4 => exact rfl); k_whole; intro _ _ _ _ _ _ B' _ _ _; (try dsimp only); (try k_lift B'); (try k_fold)))
  k_with "getMethod ref" => (k_here; k_dflt (refine' ka_method ?k1 ?k2 ?k3 ?k4 ?k5 ?k6 ?k7 ?k8 ?_; (case k1 => k_asm); (case k2 => k_asm); (case k3 => k_asm); (case k4 => k_mem); (case k5 => k_mem); (case k6 => k_is); (case k7 => kernel_rfl); (case k8 => exact rfl); k_whole))
  k_with "compareOp NotEq ref ref" => (k_here; k_dflt (refine' ka_ne_pair ?k1 ?k2 ?k3 ?k4 ?k5 ?_; (case k1 => k_asm); (case k2 => k_mem); (case k3 => k_mem); (case k4 => ktr_units); (case k5 => assumption); k_whole))
  k_with "getAttr ref" => (k_here; (with_reducible show wpAny _ _ (getAttr (Value.ref _) (PySem.Str.ofString "push") _) _ _ _); k_dflt (refine' ka_getFn (f := 151) ?k1 ?k2 ?k3 ?k4 ?k5 ?k6 ?k7 ?_; (case k1 => k_asm); (case k2 => k_asm); (case k3 => k_asm); (case k4 => k_mem); (case k5 => k_mem); (case k6 => kernel_rfl); (case k7 => kernel_rfl); k_whole); intro _ _ _ _ l1; (try k_lt l1))
  k_with "callWith ref" => (k_here; (with_reducible show wpAny _ _ (callWith _ (Value.ref _) _ (backTo _ (starEach [Expr.Starred _ _] _)) []) _ _ _); k_dflt (refine' callWith_SP ?k1 ?k2 ?_ ?k3; (case k1 => k_asm); (case k2 => k_mem); (case k3 => exact rfl); k_whole))
  k_with "eval Call Attribute" => (k_here; (with_reducible show wpAny _ _ (PySem.eval (Expr.Call _ [Expr.Starred _ _] _ _) _) _ _ _); k_dflt (refine' star_call ?_ ?k1; (case k1 => exact rfl); k_whole))
  k_with "mine base" => (first | exact tb_nil | (refine tb_cls rfl ?zb; (case zb => walk_at "mine base")) | (refine tb_ref (by assumption) ?zb; (case zb => walk_at "mine base")))
  k_with "mine out" => (first | exact so_nil | (refine so_fp ?za ?zb; (case za => k_mem); (case zb => walk_at "mine out")) | (refine so_in ?za ?zb; (case za => k_mem); (case zb => walk_at "mine out")))
  k_with "mine sub" => (first | exact sub_nil | (refine sub_cons ?za ?zb; (case za => k_mem); (case zb => walk_at "mine sub")))
  k_with "mine cl" => ((case fB => k_asm); (case fF => k_asm); (case fX => k_asm); (case fN => k_asm); (case fT => k_asm); (case fk => exact rfl); (case fd => first | exact room_le (by assumption) rfl | ktr_room); (case fu => first | exact room_le (by assumption) rfl | ktr_units); (try case fG => k_asm); (try case m0 => k_mem); (try case m1 => k_mem); (try case m2 => k_mem); (try case m3 => k_mem); (try case fU => walk_at "mine upd"); (try case fV => walk_at "mine upd"); (try case u1 => walk_at "mine upd"); (try case u2 => walk_at "mine upd"); (try case u3 => walk_at "mine upd"); (try case u4 => walk_at "mine upd"); (try case u5 => walk_at "mine upd"); (try case m4 => k_mem); (try case m5 => k_mem); (try case m6 => k_mem); (try case fP => walk_at "mine tups"))
  k_with "mine upd" => (first | k_upd | (intro _; walk_at "mine upd"))
  k_with "mine tups" => (first | exact TupsAt.keeps (by assumption) (fun b f tf p tp e => Fr.keep (by assumption) _ _ e) | exact tups_push (by assumption) (by assumption) (by assumption) (by k_mem))
  k_with "mine x" => (first | assumption | omega | (rw [Array.size_push]; omega) | (simp; omega) | (simp; done))
  k_with "call ref" => (k_here; k_dflt (refine' pushC_use ?fB ?fF ?fX ?fN ?fT ?fk ?fd ?fu ?m0 ?m4 ?x1 ?fU ?_; walk_at "mine cl"; (case x1 => walk_at "mine x"); k_whole); intro _ _ _ _ _ _ _; (try k_sweep); (try dsimp only); (try k_fold))
  k_with "getAttr ref" => (k_here; (with_reducible show wpAny _ _ (getAttr (Value.ref _) (PySem.Str.ofString "_initial_size") _) _ _ _); k_dflt (refine' ka_getIS ?k1 ?k2 ?k3 ?k4 ?k5 ?k6 ?_; (case k1 => k_asm); (case k2 => k_asm); (case k3 => k_asm); (case k4 => k_mem); (case k5 => k_mem); (case k6 => first | rfl | assumption); k_whole))
  k_with "call ref" => (k_here; k_dflt (refine' len_use ?fB ?fF ?fX ?fN ?fT ?fk ?fd ?fu ?fG ?m1 ?m2 ?fP ?x1 ?x2 ?fU ?_; walk_at "mine cl"; (case x1 => walk_at "mine x"); (case x2 => walk_at "mine x"); k_whole); intro _ _ _ _ _ _ _ _ _; (try k_sweep); (try dsimp only); (try k_fold))
  k_with "call ref" => (k_here; k_dflt (refine' str_use ?fB ?fF ?fX ?fN ?fT ?fk ?fd ?fu ?fG ?m1 ?m2 ?fP ?x1 ?x2 ?x3 ?fU ?_; walk_at "mine cl"; (case x1 => walk_at "mine x"); (case x2 => walk_at "mine x"); (case x3 => walk_at "mine x"); k_whole); intro _ _ _ _ _ _ _ _ _; (try k_sweep); (try dsimp only); (try k_fold))
  k_with "call ref" => (k_here; k_dflt (refine' ws_use ?fB ?fF ?fX ?fN ?fT ?fk ?fd ?fu ?fG ?m1 ?m2 ?m3 ?fP ?x1 ?x2 ?x3 ?x4 ?x5 ?x6 ?x7 ?fU ?fV ?_; walk_at "mine cl"; (case x1 => walk_at "mine x"); (case x2 => walk_at "mine x"); (case x3 => walk_at "mine x"); (case x4 => walk_at "mine x"); (case x5 => walk_at "mine x"); (case x6 => walk_at "mine x"); (case x7 => walk_at "mine x"); k_whole); intro _ _ _ _ _ _ _ _ _ _; (try k_sweep); (try dsimp only); (try k_fold))
  k_with "call ref" => (k_here; k_dflt (refine' push_use ?fB ?fF ?fX ?fN ?fT ?fk ?fd ?fu ?m4 ?x1 ?fU ?_; walk_at "mine cl"; (case x1 => walk_at "mine x"); k_whole); intro _ _ _ _ _ _ _; (try k_sweep); (try dsimp only); (try k_fold))
  k_with "call ref" => (k_here; k_dflt (refine' pop_use ?fB ?fF ?fX ?fN ?fT ?fk ?fd ?fu ?m4 ?x1 ?fU ?_; walk_at "mine cl"; (case x1 => walk_at "mine x"); k_whole); intro _ _ _ _; (try k_sweep); (try dsimp only); (try k_fold))
  k_with "call ref" => (k_here; k_dflt (refine' popnil_use ?fB ?fF ?fX ?fN ?fT ?fk ?fd ?fu ?m0 ?m1 ?_; walk_at "mine cl"; k_whole); intro _ _ _ _ _ _ _ _ _; (try k_sweep); (try dsimp only); (try k_fold))
  k_with "call ref" => (k_here; k_dflt (refine' reset_use ?fB ?fF ?fX ?fN ?fT ?fk ?fd ?fu ?m4 ?x1 ?fU ?fV ?_; walk_at "mine cl"; (case x1 => walk_at "mine x"); k_whole); intro _ _ _ _ _ _ _; (try k_sweep); (try dsimp only); (try k_fold))
  k_with "truthy ref" => (k_here; k_dflt (refine' ka_truthy ?k1 ?k2 ?k3 ?k4 ?k5 ?_; (case k1 => k_asm); (case k2 => k_asm); (case k3 => k_asm); (case k4 => k_mem); (case k5 => k_mem); k_whole))
  k_with "call type:str" => (k_here; k_dflt (refine' kso_call ?k1 ?k2 (acc_inst (news_at ?k3 ?k4) (news_at ?k5 ?k6)) ?k7 ?k8 ?_; (case k1 => ktr_units); (case k2 => k_in); (case k3 => k_asm); (case k4 => k_mem); (case k5 => k_asm); (case k6 => k_mem); (case k7 => k_is); (case k8 => k_is); k_whole))
  k_with "StrBack" => (dsimp only [W.StrBack])
  k_with "call builtin:len" => (k_here; k_dflt (refine' ka_len2 ?k1 ?k2 ?k3 ?k4 ?k5 ?_; (case k1 => k_asm); (case k2 => k_asm); (case k3 => k_asm); (case k4 => k_mem); (case k5 => k_mem); k_whole))
  k_with "LenBack" => (k_dflt (refine ⟨⟨by omega, by omega⟩, ?_⟩))
  k_with "execs cons" => ((with_reducible refine wpAny_execs_cons ?_); (try dsimp only); (try (refine tk_any ?_; intro _)); (try k_fold))
  trivial
theorem nlpos_cl (w : World) (mean : ExcName → Option Value) (mg mb : Str → Option Value) (r dr ll x dx : Addr) (a1 a2 a3 a4 a5 a6 tM tc tl ts : Tok) (M : Int) (kd kl n k : Nat) (lns ps qs : Array Value) (kt tz : Tok) (z : Int) (htr : TriplesOk ps.toList) (hts : TriplesOk qs.toList) (hln : lns.size ≤ 100) (hz1 : z ≤ 1000) (hz : 0 < z) :
  ROG w mean mg mb 85 [ll, x, dx, 169, 176] (fun _ => True) [(r, fvO dr), (dr, fvD w a1 a2 a3 a4 a5 a6 M tM tc tl ts ll x kd), (ll, lstO lns kl), (x, accO dx #[] n), (dx, iniO w kt (.int z tz) k), (169, tabObj ps), (176, tabObj qs)] [.ref r]
    (fun _ v h' => v = .none ∧ (∃ n' kl' k' t' u', h'.get? ll = some (lstO (lns.push (.str (Str.ofString "") u')) kl') ∧ h'.get? x = some (accO dx #[] n') ∧ h'.get? dx = some (iniO w kt (.int 0 t') k')) ∧ (∃ ps', TriplesOk ps'.toList ∧ h'.get? 169 = some (tabObj ps')) ∧ (∃ qs', TriplesOk qs'.toList ∧ h'.get? 176 = some (tabObj qs'))) 50 500 := by
  delta ROG PR; k_fill
  intro dp un gd cn cs a ccd cl outer A₀ base h₀ L m s Q E B F KX N T' hk HP G hdp hun hret
  have o7 := off7 N
  have n1 := o7.n1
  have n2 := o7.n2
  have n3 := o7.n3
  have n4 := o7.n4
  have n5 := o7.n5
  have n6 := o7.n6
  have n7 := o7.n7
  have n8 := o7.n8
  have n9 := o7.n9
  have m1 := o7.m1
  have m2 := o7.m2
  have m3 := o7.m3
  have m4 := o7.m4
  have m5 := o7.m5
  have m6 := o7.m6
  have m7 := o7.m7
  have m8 := o7.m8
  have m9 := o7.m9
  have m0 := o7.m0
  have hpe : (Str.ofString "" == Str.ofString "") = false ∨ (Str.ofString "" == Str.ofString " ") = false := .inr (by decide +kernel)
  have e0 : (Str.ofString "").length = 0 := by decide +kernel
  have ht0 : totL ([] ++ [(Str.ofString "", Str.ofString "")]) = 0 := by simp [totL, e0]
  have hn : (([] : List (Str × Str)) ++ [(Str.ofString "", Str.ofString "")]).length ≤ 100 := by simp
  have hLs : ∀ q ∈ ([] : List (Str × Str)) ++ [(Str.ofString "", Str.ofString "")], q.1.length ≤ 1000 ∧ q.2.length ≤ 1000 := by simp [e0]
  have hz0 : 0 ≤ z := by omega
  have hzw : z ≠ 0 ∨ (0 < totL (([] : List (Str × Str)) ++ [(Str.ofString "", Str.ofString "")]) ∧ Txt.isspace (strL (([] : List (Str × Str)) ++ [(Str.ofString "", Str.ofString "")])) = false) := .inl (by omega)
  have hsz : (#[] : Array Value).size < 1000 := by decide
  have hsz' : (#[] : Array Value).size ≤ 1000 := Nat.zero_le _
  w_strict (refine wpAny_call ?_; walk_at "mine enter")
  rename_i g1 L1 h1 FG1 F1 N1 X1 T1 GS1
  have HT : TupsAt g1 #[] [] := tups_none _
  w_strict k_steps
  exact hret _ _ _ _ ⟨rfl, (exI5 _ _ _ _ _ ⟨news_at (by assumption) (by k_mem), news_at (by assumption) (by k_mem), news_at (by assumption) (by k_mem)⟩), tri_at (by assumption) (by k_mem) (by assumption), tri_at (by assumption) (by k_mem) (by assumption)⟩ (by assumption) (kept_mut [ll, x, dx, 169, 176] N (by assumption) (Fr.keep (by assumption)) (sub_out (by assumption) (by walk_at "mine out"))) (by assumption)

theorem nlzero_cl (w : World) (mean : ExcName → Option Value) (mg mb : Str → Option Value) (r dr ll x dx : Addr) (a1 a2 a3 a4 a5 a6 tM tc tl ts : Tok) (M : Int) (kd kl n k : Nat) (lns ps qs : Array Value) (kt tz : Tok) (z : Int) (htr : TriplesOk ps.toList) (hts : TriplesOk qs.toList) (hln : lns.size ≤ 100) (hz1 : z ≤ 1000) (hz : z = 0) :
  ROG w mean mg mb 85 [x, dx, 169, 176] (fun _ => True) [(r, fvO dr), (dr, fvD w a1 a2 a3 a4 a5 a6 M tM tc tl ts ll x kd), (ll, lstO lns kl), (x, accO dx #[] n), (dx, iniO w kt (.int z tz) k), (169, tabObj ps), (176, tabObj qs)] [.ref r]
    (fun _ v h' => v = .none ∧ (∃ n' k' t', h'.get? x = some (accO dx #[] n') ∧ h'.get? dx = some (iniO w kt (.int 0 t') k')) ∧ (∃ ps', TriplesOk ps'.toList ∧ h'.get? 169 = some (tabObj ps')) ∧ (∃ qs', TriplesOk qs'.toList ∧ h'.get? 176 = some (tabObj qs'))) 50 500 := by
  delta ROG PR; k_fill
  intro dp un gd cn cs a ccd cl outer A₀ base h₀ L m s Q E B F KX N T' hk HP G hdp hun hret
  have o7 := off7 N
  have n1 := o7.n1
  have n2 := o7.n2
  have n3 := o7.n3
  have n4 := o7.n4
  have n5 := o7.n5
  have n6 := o7.n6
  have n7 := o7.n7
  have n8 := o7.n8
  have n9 := o7.n9
  have m1 := o7.m1
  have m2 := o7.m2
  have m3 := o7.m3
  have m4 := o7.m4
  have m5 := o7.m5
  have m6 := o7.m6
  have m7 := o7.m7
  have m8 := o7.m8
  have m9 := o7.m9
  have m0 := o7.m0
  have hpe : (Str.ofString "" == Str.ofString "") = false ∨ (Str.ofString "" == Str.ofString " ") = false := .inr (by decide +kernel)
  have e0 : (Str.ofString "").length = 0 := by decide +kernel
  have ht0 : totL ([] ++ [(Str.ofString "", Str.ofString "")]) = 0 := by simp [totL, e0]
  have hn : (([] : List (Str × Str)) ++ [(Str.ofString "", Str.ofString "")]).length ≤ 100 := by simp
  have hLs : ∀ q ∈ ([] : List (Str × Str)) ++ [(Str.ofString "", Str.ofString "")], q.1.length ≤ 1000 ∧ q.2.length ≤ 1000 := by simp [e0]
  have hz0 : 0 ≤ z := by omega
  have hsz : (#[] : Array Value).size < 1000 := by decide
  have hsz' : (#[] : Array Value).size ≤ 1000 := Nat.zero_le _
  w_strict (refine wpAny_call ?_; walk_at "mine enter")
  rename_i g1 L1 h1 FG1 F1 N1 X1 T1 GS1
  have HT : TupsAt g1 #[] [] := tups_none _
  w_strict k_steps
  exact hret _ _ _ _ ⟨rfl, (exI3 _ _ _ ⟨news_at (by assumption) (by k_mem), news_at (by assumption) (by k_mem)⟩), tri_at (by assumption) (by k_mem) (by assumption), tri_at (by assumption) (by k_mem) (by assumption)⟩ (by assumption) (kept_mut [x, dx, 169, 176] N (by assumption) (Fr.keep (by assumption)) (sub_out (by assumption) (by walk_at "mine out"))) (by assumption)
end Mine
end
section
open PySem PySem.W PySem.Calls PyProof.Rows PySem.Builtin
set_option Elab.async false
set_option maxRecDepth 100000
namespace Mine
theorem size_dn {a : Int} (h0 : 1 ≤ a) (h1 : a ≤ 1000) : Builtin.Range.rangeSize a 0 (-1) = a := by
  unfold Builtin.Range.rangeSize
  simp
  omega
theorem small_dn {a : Int} (h0 : 1 ≤ a) (h1 : a ≤ 1000) : Builtin.Range.small a 0 (-1) = true := by
  have e := size_dn h0 h1
  unfold Builtin.Range.small
  rw [e]
  unfold Builtin.Range.rangeFitsLong
  simp
  omega
theorem size_dn0 {a : Int} (h1 : a = 0) : Builtin.Range.rangeSize a 0 (-1) ≤ 0 := by
  subst h1
  decide
theorem small_dn0 {a : Int} (h1 : a = 0) : Builtin.Range.small a 0 (-1) = true := by
  subst h1
  decide
section
variable {w : World} {A : Around} {E : Value → Shared → Prop} {s : Shared} {env : Env} {h₀ : Heap}

noncomputable abbrev strIt (t : Tok) (i : Nat) : Obj := { cls := .type "str_ascii_iterator", data := .fields #[.str (Str.ofString " ") t, .int i 0] }
noncomputable def StrItO (t : Tok) (i : Nat) (o : Obj) : Prop := o.cls = .type "str_ascii_iterator" ∧ o.data = .fields #[.str (Str.ofString " ") t, .int i 0]

/-- a loop over one blank -/
theorem for_blank {x : Str} {px pos : Pos} {iter : Expr} {body orelse : List Stmt} {Q : Flow → Shared → Prop} (hE : PassesOwn (model PR w) A env E) (hh : A.handled = none) (hx : env.kindOf x = some .local) (hp : (env.scope.kind == .class || (env.scope.kind == .module && env.locals != env.globals)) = false)
    (h : wpAny (model PR w) A (PySem.eval iter env) (fun v s₁ => Hold (∃ t m news, v = .str (Str.ofString " ") t ∧ Fr h₀ env.locals s₁.heap m ∧ News h₀ env.locals s₁.heap news ∧
      ∀ J oJ t' h' tk', StrItO t 1 oJ → Fr h₀ env.locals h' (fun y => if y = x then some (.str (Str.ofString " ") t') else m y) → News h₀ env.locals h' ((J, oJ) :: news) → (∀ p ∈ news, p.1 < J) →
        wpAny (model PR w) A (execs body env) (fun f s₃ => match f with
          | .brk => Q .next s₃
          | .ret v => Q (.ret v) s₃
          | _ => Hold (∃ m₃ news₃, Fr h₀ env.locals s₃.heap m₃ ∧ News h₀ env.locals s₃.heap ((J, oJ) :: news₃) ∧ (∀ p ∈ news₃, @Ne Nat p.1 J) ∧ ∀ h₄, Fr h₀ env.locals h₄ m₃ → News h₀ env.locals h₄ news₃ → wpAny (model PR w) A (execs orelse env) Q E { s₃ with heap := h₄ })) E { s₁ with heap := h', toks := tk' })) E s)
    (hs : ∀ x, foldedSetIterable iter env x = pure x) : wpAny (model PR w) A (exec (.For (.Name x px) iter body orelse pos) env) Q E s := by
  refine for_run2 hE (wpAny_mono h (fun v s₁ h₁ => ?_) fun _ _ e => e) hs (fun _ _ => rfl)
  refine exE3 h₁.out fun t m news q => andE4 q fun ev F N hb => ?_
  clear h h₁ q
  refine eqE (C := fun v => wpAny (model PR w) A (pyIter v) _ E s₁) ev ?_
  have P := ks_pushed (o := strIt t 0) F N rfl
  refine wpAny_pyIter_ascii (by decide +kernel) ⟨fun k s => (k = 1 ∧ s = { s₁ with heap := s₁.heap.push (strIt t 0) }) ∨ (k = 0 ∧ ∃ oJ m₃ news₃, StrItO t 1 oJ ∧ Fr h₀ env.locals s.heap m₃ ∧ News h₀ env.locals s.heap ((s₁.heap.objs.size, oJ) :: news₃) ∧ (∀ p ∈ news₃, @Ne Nat p.1 s₁.heap.objs.size) ∧ ∀ h₄, Fr h₀ env.locals h₄ m₃ → News h₀ env.locals h₄ news₃ → wpAny (model PR w) A (execs orelse env) Q E { s with heap := h₄ }), ⟨1, .inl ⟨rfl, rfl⟩⟩, ?_⟩
  intro k s hI
  refine hI.elim (fun q => ?_) fun q => ?_
  · refine eqE (C := fun s => wpAny (model PR w) A (pyNext _) _ E s) q.2 ?_
    have hit : (s₁.heap.push (strIt t 0)).IsStrIter s₁.heap.objs.size "str_ascii_iterator" (Str.ofString " ") t 0 := ⟨_, (P.2.1 _ (List.mem_cons_self ..)).1, rfl, rfl⟩
    refine wpAny_pyNext_ascii_item (s := { s₁ with heap := s₁.heap.push (strIt t 0) }) hit (c := 32) (by decide +kernel) fun h' hit' hs' => ?_
    refine Exists.elim hit' fun oJ q2 => andE3 q2 fun gJ c1 c2 => ?_
    have R := kept1_to P.1 P.2.1 (fun p hp => Nat.ne_of_lt (P.2.2 p hp)) (keptBut_same hs') gJ
    refine wpAny_assign_Name (wpAny_storeName_local hx R.1.ns (fun h2 hn2 hs2 => ?_) hp)
    have F2 := R.1.set hn2 hs2
    rw [show (⟨#[32]⟩ : Str) = Str.ofString " " by decide +kernel] at F2
    refine wpAny_mono (hb _ oJ _ h2 _ ⟨c1, c2⟩ F2 (R.2.set hs2) P.2.2) (fun f s₃ h₃ => ?_) fun _ _ e => e
    cases f with
    | brk => exact h₃
    | ret v => exact h₃
    | next => exact exE2 (Hold.out h₃) fun m₃ n₃ q3 => ⟨0, by rw [q.1]; decide, .inr ⟨rfl, oJ, m₃, n₃, ⟨c1, c2⟩, q3⟩⟩
    | cont => exact exE2 (Hold.out h₃) fun m₃ n₃ q3 => ⟨0, by rw [q.1]; decide, .inr ⟨rfl, oJ, m₃, n₃, ⟨c1, c2⟩, q3⟩⟩
  · refine exE3 q.2 fun oJ m₃ news₃ q => andE5 q fun hO F N ne hq => ?_
    have hit : s.heap.IsStrIter s₁.heap.objs.size "str_ascii_iterator" (Str.ofString " ") t 1 := ⟨_, (N _ (List.mem_cons_self ..)).1, hO.1, hO.2⟩
    refine wpAny_pyNext_ascii_end hh hit (by decide +kernel) fun h' hs' => ?_
    have R := kept1 F N ne (kept_end hs')
    exact hq h' R.1 R.2

/-- a loop over an empty range -/
theorem for_rng0 {x : Str} {px pos : Pos} {iter : Expr} {body orelse : List Stmt} {Q : Flow → Shared → Prop} (hE : PassesOwn (model PR w) A env E) (hh : A.handled = none)
    (h : wpAny (model PR w) A (PySem.eval iter env) (fun v s₁ => Hold (∃ r a b c ta tb tc m news, v = .ref r ∧ IsRange s₁.heap r a b c ta tb tc ∧ Builtin.Range.small a b c = true ∧ Builtin.Range.rangeSize a b c ≤ 0 ∧ Fr h₀ env.locals s₁.heap m ∧ News h₀ env.locals s₁.heap news ∧
      ∀ h', Fr h₀ env.locals h' m → News h₀ env.locals h' news → wpAny (model PR w) A (execs orelse env) Q E { s₁ with heap := h' })) E s)
    (hs : ∀ x, foldedSetIterable iter env x = pure x) : wpAny (model PR w) A (exec (.For (.Name x px) iter body orelse pos) env) Q E s := by
  refine for_run2 hE (wpAny_mono h (fun v s₁ h₁ => ?_) fun _ _ e => e) hs (fun _ _ => rfl)
  refine exE9 h₁.out fun r a b c ta tb tc m news q => andE7 q fun ev hr hsm hl F N hb => ?_
  clear h h₁ q
  refine eqE (C := fun v => wpAny (model PR w) A (pyIter v) _ E s₁) ev ?_
  have P := ks_pushed (o := { cls := .type "range_iterator", data := .fields #[rawInt a, rawInt (Builtin.Range.rangeSize a b c), rawInt c] }) F N rfl
  refine wpAny_pyIter_range hr hsm ⟨fun k s => s = { s₁ with heap := s₁.heap.push { cls := .type "range_iterator", data := .fields #[rawInt a, rawInt (Builtin.Range.rangeSize a b c), rawInt c] } }, ⟨0, rfl⟩, fun k s es => ?_⟩
  refine eqE (C := fun s => wpAny (model PR w) A (pyNext _) _ E s) es ?_
  refine wpAny_pyNext_range_end (s := { s₁ with heap := s₁.heap.push { cls := .type "range_iterator", data := .fields #[rawInt a, rawInt (Builtin.Range.rangeSize a b c), rawInt c] } }) hh (Heap.get?_push_size _ rfl) hl fun h' hs' => ?_
  have R := kept1 P.1 P.2.1 (fun p hp => Nat.ne_of_lt (P.2.2 p hp)) (kept_end hs')
  exact hb h' R.1 R.2

/-- a loop over a range that its first turn leaves -/
theorem for_rng1 {x : Str} {px pos : Pos} {iter : Expr} {body orelse : List Stmt} {Q : Flow → Shared → Prop} (hE : PassesOwn (model PR w) A env E) (hx : env.kindOf x = some .local) (hp : (env.scope.kind == .class || (env.scope.kind == .module && env.locals != env.globals)) = false)
    (h : wpAny (model PR w) A (PySem.eval iter env) (fun v s₁ => Hold (∃ r a b c ta tb tc m news, v = .ref r ∧ IsRange s₁.heap r a b c ta tb tc ∧ Builtin.Range.small a b c = true ∧ 0 < Builtin.Range.rangeSize a b c ∧ Fr h₀ env.locals s₁.heap m ∧ News h₀ env.locals s₁.heap news ∧
      ∀ t' h' tk', Fr h₀ env.locals h' (fun y => if y = x then some (.int a t') else m y) → News h₀ env.locals h' news →
        wpAny (model PR w) A (execs body env) (fun f s₃ => match f with | .brk => Q .next s₃ | .ret v => Q (.ret v) s₃ | _ => False) E { s₁ with heap := h', toks := tk' })) E s)
    (hs : ∀ x, foldedSetIterable iter env x = pure x) : wpAny (model PR w) A (exec (.For (.Name x px) iter body orelse pos) env) Q E s := by
  refine for_run2 hE (wpAny_mono h (fun v s₁ h₁ => ?_) fun _ _ e => e) hs (fun _ _ => rfl)
  refine exE9 h₁.out fun r a b c ta tb tc m news q => andE7 q fun ev hr hsm hl F N hb => ?_
  clear h h₁ q
  refine eqE (C := fun v => wpAny (model PR w) A (pyIter v) _ E s₁) ev ?_
  have P := ks_pushed (o := { cls := .type "range_iterator", data := .fields #[rawInt a, rawInt (Builtin.Range.rangeSize a b c), rawInt c] }) F N rfl
  refine wpAny_pyIter_range hr hsm ⟨fun k s => s = { s₁ with heap := s₁.heap.push { cls := .type "range_iterator", data := .fields #[rawInt a, rawInt (Builtin.Range.rangeSize a b c), rawInt c] } }, ⟨0, rfl⟩, fun k s es => ?_⟩
  refine eqE (C := fun s => wpAny (model PR w) A (pyNext _) _ E s) es ?_
  refine wpAny_pyNext_range_item (s := { s₁ with heap := s₁.heap.push { cls := .type "range_iterator", data := .fields #[rawInt a, rawInt (Builtin.Range.rangeSize a b c), rawInt c] } }) (Heap.get?_push_size _ rfl) hl fun h' _ hs' => ?_
  have R := kept1 P.1 P.2.1 (fun p hp => Nat.ne_of_lt (P.2.2 p hp)) (keptBut_same hs')
  refine wpAny_assign_Name (wpAny_storeName_local hx R.1.ns (fun h2 hn2 hs2 => ?_) hp)
  refine wpAny_mono (hb _ h2 _ (R.1.set hn2 hs2) (R.2.set hs2)) (fun f s₃ h₃ => ?_) fun _ _ e => e
  cases f with
  | brk => exact h₃
  | ret v => exact h₃
  | next => exact h₃.elim
  | cont => exact h₃.elim
end

theorem poplast_cl (w : World) (mean : ExcName → Option Value) (mg mb : Str → Option Value) (x dx : Addr) (ini : Array Value) (v : Value) (n k : Nat) (kt t : Tok) (iv : Value) (hsz : ini.size < 1000) :
  ROM w mean mg mb 159 [x] (fun _ => True) [(x, accO dx (ini.push v) n), (dx, iniO w kt iv k)] [.ref x, .int (((ini.push v).size : Int) - 1) t] (fun h r h' => ∃ R n', r = .ref R ∧ h.get? R = none ∧ h'.get? R = some (lstO #[v] 0) ∧ h'.get? x = some (accO dx ini n')) 12 120 := by
  have e1 : (((ini.push v).size : Nat) : Int) - 1 = (ini.size : Int) := by rw [Array.size_push]; omega
  rw [e1]
  have e2 : ini.push v = ini ++ #[v] := by simp
  have c := popfrom_cl w mean mg mb x dx ini #[v] n k kt t iv (by simp; omega)
  rw [← e2] at c
  exact c
end Mine
end
section
open PySem PySem.W PyProof.Rows PySem.Builtin
set_option Elab.async false
set_option maxRecDepth 100000
namespace Mine
section
variable {w : World} {mean : ExcName → Option Value} {mg mb : Str → Option Value} {dp un : Nat} {gd : Option (List Code)} {cn : Str} {cs : Scope} {a : Addr} {ccd : Value} {cl : List (Str × Addr)} {outer : List Env} {A₀ : Around} {base h₀ : Heap} {L : Addr} {m : Str → Option Value} {s : Shared} {Q E : Value → Shared → Prop} {all : List (Addr × Obj)}
  {r dr ll x dx T : Addr} {a1 a2 a3 a4 a5 a6 tM tc tl ts t0 : Tok} {M : Int} {kd kl : Nat} {lns its ini ps qs : Array Value} {n k : Nat} {kt tz tf tp : Tok} {z : Int} {iv v : Value} {f p : Str} {Li : List (Str × Str)}
theorem sub7 {α : Type} {a b c d e f g : α} {l : List α} (h1 : a ∈ l) (h2 : b ∈ l) (h3 : c ∈ l) (h4 : d ∈ l) (h5 : e ∈ l) (h6 : f ∈ l) (h7 : g ∈ l) : ∀ p ∈ [a, b, c, d, e, f, g], p ∈ l := sub_cons h1 (sub_cons h2 (sub_cons h3 (sub_cons h4 (sub_cons h5 (sub2 h6 h7)))))
theorem sub8 {α : Type} {a b c d e f g i : α} {l : List α} (h1 : a ∈ l) (h2 : b ∈ l) (h3 : c ∈ l) (h4 : d ∈ l) (h5 : e ∈ l) (h6 : f ∈ l) (h7 : g ∈ l) (h8 : i ∈ l) : ∀ p ∈ [a, b, c, d, e, f, g, i], p ∈ l := sub_cons h1 (sub7 h2 h3 h4 h5 h6 h7 h8)
theorem poplast_use {all' : Nat → List (Addr × Obj)} (B : Below A₀ base outer h₀) (F : Fr h₀ L s.heap m) (X : (hd.heap_1 w.params).In h₀) (N : News h₀ L s.heap all) (T : Top VW LS mean mg mb h₀) (hk : cs.kind = .function) (hd : dp + 12 < recursionLimit) (hu : un + 120 < cLine)
  (m1 : (dx, iniO w kt iv k) ∈ all) (x1 : ini.size < 1000) (U : ∀ n', Upd x (accO dx (ini.push v) n) (accO dx ini n') all (all' n'))
  (h : ∀ R n' h' tk', s.heap.get? R = none → OffAll R all → Fr h₀ L h' m → News h₀ L h' ((R, lstO #[v] 0) :: all' n') → Q (.ref R) { s with heap := h', toks := tk' }) :
  wpAny (model PR w) (ktrTop dp un gd cn cs L a ccd cl outer) (call (.ref 159) [.ref x, .int (((ini.push v).size : Int) - 1) t0]) Q E s := by
  refine (poplast_cl w mean mg mb x dx ini v n k kt t0 iv x1).use B F X N (sub2 (upd_mem (U 0)) m1) T hk trivial hd hu ?_
  rintro v h' tk' ⟨R, n', rfl, hn, hg, hx⟩ F' K'
  exact h R n' h' tk' hn (OffAll.of N hn) F' (fresh_news2 F (upd_then N (U n') K' hx id) hn hg)

section
variable {n1 : Tok → Nat → List (Addr × Obj)} {n2 : Tok → Nat → Nat → List (Addr × Obj)} {n3 : Tok → Nat → Nat → Tok → Nat → List (Addr × Obj)} {n4 : Tok → Nat → Nat → Tok → Nat → Array Value → List (Addr × Obj)} {n5 : Tok → Nat → Nat → Tok → Nat → Array Value → Array Value → List (Addr × Obj)}
theorem nl_use (B : Below A₀ base outer h₀) (F : Fr h₀ L s.heap m) (X : (hd.heap_1 w.params).In h₀) (N : News h₀ L s.heap all) (TT : Top VW LS mean mg mb h₀) (hk : cs.kind = .function) (hd : dp + 50 < recursionLimit) (hu : un + 500 < cLine) (G : AllBare s.gens)
  (m0 : (r, fvO dr) ∈ all) (m1 : (dr, fvD w a1 a2 a3 a4 a5 a6 M tM tc tl ts ll x kd) ∈ all) (m2 : (x, accO dx (ini.push (.ref T)) n) ∈ all) (m3 : (T, tup2 f tf p tp) ∈ all)
  (U1 : ∀ u kl', Upd ll (lstO lns kl) (lstO (lns.push (.str (strL (Li ++ [(f, p)])) u)) kl') all (n1 u kl'))
  (U2 : ∀ u kl' n', Upd x (accO dx (ini.push (.ref T)) n) (accO dx #[] n') (n1 u kl') (n2 u kl' n'))
  (U3 : ∀ u kl' n' t' k', Upd dx (iniO w kt (.int z tz) k) (iniO w kt (.int 0 t') k') (n2 u kl' n') (n3 u kl' n' t' k'))
  (U4 : ∀ u kl' n' t' k' ps', Upd 169 (tabObj ps) (tabObj ps') (n3 u kl' n' t' k') (n4 u kl' n' t' k' ps'))
  (U5 : ∀ u kl' n' t' k' ps' qs', Upd 176 (tabObj qs) (tabObj qs') (n4 u kl' n' t' k' ps') (n5 u kl' n' t' k' ps' qs'))
  (m4 : (dx, iniO w kt (.int z tz) k) ∈ all) (m5 : (169, tabObj ps) ∈ all) (m6 : (176, tabObj qs) ∈ all)
  (P : TupsAt s.heap ini Li) (x0 : ∀ j : Nat, ini[j]? ≠ some (.ref T)) (x1 : TriplesOk ps.toList) (x2 : TriplesOk qs.toList) (x3 : (Li ++ [(f, p)]).length ≤ 100) (x4 : lns.size ≤ 100) (x5 : ∀ q ∈ Li ++ [(f, p)], q.1.length ≤ 1000 ∧ q.2.length ≤ 1000)
  (x6 : 0 ≤ z) (x7 : z ≤ 1000) (x8 : 0 < p.length) (x9 : (p == Str.ofString "") = false ∨ (f == Str.ofString " ") = false) (x10 : z ≠ 0 ∨ (0 < totL (Li ++ [(f, p)]) ∧ Txt.isspace (strL (Li ++ [(f, p)])) = false))
  (h : ∀ u kl' n' t' k' ps' qs' h' tk' gs', TriplesOk ps'.toList → TriplesOk qs'.toList → Fr h₀ L h' m → News h₀ L h' (n5 u kl' n' t' k' ps' qs') → AllBare gs' → Q .none { s with heap := h', toks := tk', gens := gs' }) :
  wpAny (model PR w) (ktrTop dp un gd cn cs L a ccd cl outer) (call (.ref 85) [.ref r]) Q E s := by
  refine (nl_cl w mean mg mb r dr ll x dx T a1 a2 a3 a4 a5 a6 tM tc tl ts M kd kl n k lns ini ps qs kt tz tf tp z f p Li x1 x2 x3 x4 x5 x6 x7 x8 x9 x10).use B F X N (sub8 m0 m1 (upd_mem (U1 0 0)) m2 m4 m5 m6 m3) TT hk ⟨P, x0⟩ G hd hu ?_
  rintro v h' tk' gs' ⟨rfl, ⟨n', kl', k', t', u, ga, gb, gc⟩, ⟨ps', ht, gd⟩, qs', hs, ge⟩ F' K' G'
  exact h u kl' n' t' k' ps' qs' h' tk' gs' ht hs F' (upd5_then N (U1 u kl') (U2 u kl' n') (U3 u kl' n' t' k') (U4 u kl' n' t' k' ps') (U5 u kl' n' t' k' ps' qs') K' ga gb gc gd ge id) G'
theorem nlpos_use (B : Below A₀ base outer h₀) (F : Fr h₀ L s.heap m) (X : (hd.heap_1 w.params).In h₀) (N : News h₀ L s.heap all) (TT : Top VW LS mean mg mb h₀) (hk : cs.kind = .function) (hd : dp + 50 < recursionLimit) (hu : un + 500 < cLine) (G : AllBare s.gens)
  (m0 : (r, fvO dr) ∈ all) (m1 : (dr, fvD w a1 a2 a3 a4 a5 a6 M tM tc tl ts ll x kd) ∈ all) (m2 : (x, accO dx #[] n) ∈ all)
  (U1 : ∀ u kl', Upd ll (lstO lns kl) (lstO (lns.push (.str (Str.ofString "") u)) kl') all (n1 u kl'))
  (U2 : ∀ u kl' n', Upd x (accO dx #[] n) (accO dx #[] n') (n1 u kl') (n2 u kl' n'))
  (U3 : ∀ u kl' n' t' k', Upd dx (iniO w kt (.int z tz) k) (iniO w kt (.int 0 t') k') (n2 u kl' n') (n3 u kl' n' t' k'))
  (U4 : ∀ u kl' n' t' k' ps', Upd 169 (tabObj ps) (tabObj ps') (n3 u kl' n' t' k') (n4 u kl' n' t' k' ps'))
  (U5 : ∀ u kl' n' t' k' ps' qs', Upd 176 (tabObj qs) (tabObj qs') (n4 u kl' n' t' k' ps') (n5 u kl' n' t' k' ps' qs'))
  (m4 : (dx, iniO w kt (.int z tz) k) ∈ all) (m5 : (169, tabObj ps) ∈ all) (m6 : (176, tabObj qs) ∈ all)
  (x1 : TriplesOk ps.toList) (x2 : TriplesOk qs.toList) (x3 : lns.size ≤ 100) (x4 : z ≤ 1000) (x5 : 0 < z)
  (h : ∀ u kl' n' t' k' ps' qs' h' tk' gs', TriplesOk ps'.toList → TriplesOk qs'.toList → Fr h₀ L h' m → News h₀ L h' (n5 u kl' n' t' k' ps' qs') → AllBare gs' → Q .none { s with heap := h', toks := tk', gens := gs' }) :
  wpAny (model PR w) (ktrTop dp un gd cn cs L a ccd cl outer) (call (.ref 85) [.ref r]) Q E s := by
  refine (nlpos_cl w mean mg mb r dr ll x dx a1 a2 a3 a4 a5 a6 tM tc tl ts M kd kl n k lns ps qs kt tz z x1 x2 x3 x4 x5).use B F X N (sub7 m0 m1 (upd_mem (U1 0 0)) m2 m4 m5 m6) TT hk trivial G hd hu ?_
  rintro v h' tk' gs' ⟨rfl, ⟨n', kl', k', t', u, ga, gb, gc⟩, ⟨ps', ht, gd⟩, qs', hs, ge⟩ F' K' G'
  exact h u kl' n' t' k' ps' qs' h' tk' gs' ht hs F' (upd5_then N (U1 u kl') (U2 u kl' n') (U3 u kl' n' t' k') (U4 u kl' n' t' k' ps') (U5 u kl' n' t' k' ps' qs') K' ga gb gc gd ge id) G'
end
section
variable {n2 : Nat → List (Addr × Obj)} {n3 : Nat → Tok → Nat → List (Addr × Obj)} {n4 : Nat → Tok → Nat → Array Value → List (Addr × Obj)} {n5 : Nat → Tok → Nat → Array Value → Array Value → List (Addr × Obj)}
theorem nlzero_use (B : Below A₀ base outer h₀) (F : Fr h₀ L s.heap m) (X : (hd.heap_1 w.params).In h₀) (N : News h₀ L s.heap all) (TT : Top VW LS mean mg mb h₀) (hk : cs.kind = .function) (hd : dp + 50 < recursionLimit) (hu : un + 500 < cLine) (G : AllBare s.gens)
  (m0 : (r, fvO dr) ∈ all) (m1 : (dr, fvD w a1 a2 a3 a4 a5 a6 M tM tc tl ts ll x kd) ∈ all) (m2 : (ll, lstO lns kl) ∈ all)
  (U1 : ∀ n', Upd x (accO dx #[] n) (accO dx #[] n') all (n2 n'))
  (U2 : ∀ n' t' k', Upd dx (iniO w kt (.int z tz) k) (iniO w kt (.int 0 t') k') (n2 n') (n3 n' t' k'))
  (U3 : ∀ n' t' k' ps', Upd 169 (tabObj ps) (tabObj ps') (n3 n' t' k') (n4 n' t' k' ps'))
  (U4 : ∀ n' t' k' ps' qs', Upd 176 (tabObj qs) (tabObj qs') (n4 n' t' k' ps') (n5 n' t' k' ps' qs'))
  (m4 : (dx, iniO w kt (.int z tz) k) ∈ all) (m5 : (169, tabObj ps) ∈ all) (m6 : (176, tabObj qs) ∈ all)
  (x1 : TriplesOk ps.toList) (x2 : TriplesOk qs.toList) (x3 : lns.size ≤ 100) (x4 : z ≤ 1000) (x5 : z = 0)
  (h : ∀ n' t' k' ps' qs' h' tk' gs', TriplesOk ps'.toList → TriplesOk qs'.toList → Fr h₀ L h' m → News h₀ L h' (n5 n' t' k' ps' qs') → AllBare gs' → Q .none { s with heap := h', toks := tk', gens := gs' }) :
  wpAny (model PR w) (ktrTop dp un gd cn cs L a ccd cl outer) (call (.ref 85) [.ref r]) Q E s := by
  refine (nlzero_cl w mean mg mb r dr ll x dx a1 a2 a3 a4 a5 a6 tM tc tl ts M kd kl n k lns ps qs kt tz z x1 x2 x3 x4 x5).use B F X N (sub7 m0 m1 m2 (upd_mem (U1 0)) m4 m5 m6) TT hk trivial G hd hu ?_
  rintro v h' tk' gs' ⟨rfl, ⟨n', k', t', gb, gc⟩, ⟨ps', ht, gd⟩, qs', hs, ge⟩ F' K' G'
  exact h n' t' k' ps' qs' h' tk' gs' ht hs F' (upd4_then N (U1 n') (U2 n' t' k') (U3 n' t' k' ps') (U4 n' t' k' ps' qs') K' gb gc gd ge id) G'
end
end
end Mine
end
section
open PySem PySem.W PyProof.Rows PySem.Builtin
set_option Elab.async false
set_option maxRecDepth 100000
set_option maxHeartbeats 8000000
set_option pp.deepTerms false
set_option pp.deepTerms.threshold 6
set_option pp.maxSteps 3000
set_option pp.proofs false
namespace Mine
theorem rows_VF3_1 : True := by
  k_with_none
  w_top off
  k_with "k_ne" => (first | with_reducible exact Off.ne (by assumption) | with_reducible exact Off.ne' (by assumption) | exact news_neB (by assumption) (by k_mem) (by k_mem) rfl | (refine neN ?_; (try dsimp only); omega))
  k_with "mine enter" => (k_dflt (refine' code_defG ?k1 ?k2 ?k3 ?k4 ?k5 ?kA ?kF ?kK ?k6 ?k7 ?k8 ?k9 ?kB ?_ ?c2 ?c3 ?c4 ?c5; (case kA => exact rfl); (case kF => exact rfl); (case kK => assumption); (case k1 => k_asm); (case k2 => k_asm); (case k3 => k_asm); (case k4 => k_asm); (case k5 => k_asm); (case k6 => k_is); (case k7 => k_is); (case k8 => first | exact room0 (by assumption) | ktr_room); (case k9 => first | exact BindsTo.of_eq rfl | exact binds_K (by k_in) rfl (by k_is) rfl rfl rfl); (case c5 => decide); (case kB => exact locs rfl); (case c2 => exact rfl); (case c3 => exact rfl); (case c4 => exact rfl); k_whole; intro _ _ _ _ _ _ B' _ _ _; (try dsimp only); (try k_lift B'); (try k_fold)))
  k_with "getMethod ref" => (k_here; k_dflt (refine' ka_method ?k1 ?k2 ?k3 ?k4 ?k5 ?k6 ?k7 ?k8 ?_; (case k1 => k_asm); (case k2 => k_asm); (case k3 => k_asm); (case k4 => k_mem); (case k5 => k_mem); (case k6 => k_is); (case k7 => kernel_rfl); (case k8 => exact rfl); k_whole))
  k_with "compareOp NotEq ref ref" => (k_here; k_dflt (refine' ka_ne_pair ?k1 ?k2 ?k3 ?k4 ?k5 ?_; (case k1 => k_asm); (case k2 => k_mem); (case k3 => k_mem); (case k4 => ktr_units); (case k5 => assumption); k_whole))
  k_with "getAttr ref" => (k_here; (with_reducible show wpAny _ _ (getAttr (Value.ref _) (PySem.Str.ofString "push") _) _ _ _); k_dflt (refine' ka_getFn (f := 151) ?k1 ?k2 ?k3 ?k4 ?k5 ?k6 ?k7 ?_; (case k1 => k_asm); (case k2 => k_asm); (case k3 => k_asm); (case k4 => k_mem); (case k5 => k_mem); (case k6 => kernel_rfl); (case k7 => kernel_rfl); k_whole); intro _ _ _ _ l1; (try k_lt l1))
  k_with "callWith ref" => (k_here; (with_reducible show wpAny _ _ (callWith _ (Value.ref _) _ (backTo _ (starEach [Expr.Starred _ _] _)) []) _ _ _); k_dflt (refine' callWith_SP ?k1 ?k2 ?_ ?k3; (case k1 => k_asm); (case k2 => k_mem); (case k3 => exact rfl); k_whole))
  k_with "eval Call Attribute" => (k_here; (with_reducible show wpAny _ _ (PySem.eval (Expr.Call _ [Expr.Starred _ _] _ _) _) _ _ _); k_dflt (refine' star_call ?_ ?k1; (case k1 => exact rfl); k_whole))
  k_with "mine base" => (first | exact tb_nil | (refine tb_cls rfl ?zb; (case zb => walk_at "mine base")) | (refine tb_ref (by assumption) ?zb; (case zb => walk_at "mine base")))
  k_with "mine out" => (first | exact so_nil | (refine so_fp ?za ?zb; (case za => k_mem); (case zb => walk_at "mine out")) | (refine so_in ?za ?zb; (case za => k_mem); (case zb => walk_at "mine out")))
  k_with "mine sub" => (first | exact sub_nil | (refine sub_cons ?za ?zb; (case za => k_mem); (case zb => walk_at "mine sub")))
  k_with "mine cl" => ((case fB => k_asm); (case fF => k_asm); (case fX => k_asm); (case fN => k_asm); (case fT => k_asm); (case fk => exact rfl); (case fd => first | exact room_le (by assumption) rfl | ktr_room); (case fu => first | exact room_le (by assumption) rfl | ktr_units); (try case fG => k_asm); (try case m0 => k_mem); (try case m1 => k_mem); (try case m2 => k_mem); (try case m3 => k_mem); (try case fU => walk_at "mine upd"); (try case fV => walk_at "mine upd"); (try case u1 => walk_at "mine upd"); (try case u2 => walk_at "mine upd"); (try case u3 => walk_at "mine upd"); (try case u4 => walk_at "mine upd"); (try case u5 => walk_at "mine upd"); (try case m4 => k_mem); (try case m5 => k_mem); (try case m6 => k_mem); (try case fP => walk_at "mine tups"))
  k_with "mine upd" => (first | k_upd | (intro _; walk_at "mine upd"))
  k_with "mine tups" => (first | exact TupsAt.keeps (by assumption) (fun b f tf p tp e => Fr.keep (by assumption) _ _ e) | exact tups_push (by assumption) (by assumption) (by assumption) (by k_mem))
  k_with "mine x" => (first | assumption | omega | (rw [Array.size_push]; omega) | (simp; omega) | (simp; done))
  k_with "call ref" => (k_here; k_dflt (refine' pushC_use ?fB ?fF ?fX ?fN ?fT ?fk ?fd ?fu ?m0 ?m4 ?x1 ?fU ?_; walk_at "mine cl"; (case x1 => walk_at "mine x"); k_whole); intro _ _ _ _ _ _ _; (try k_sweep); (try dsimp only); (try k_fold))
  k_with "getAttr ref" => (k_here; (with_reducible show wpAny _ _ (getAttr (Value.ref _) (PySem.Str.ofString "_initial_size") _) _ _ _); k_dflt (refine' ka_getIS ?k1 ?k2 ?k3 ?k4 ?k5 ?k6 ?_; (case k1 => k_asm); (case k2 => k_asm); (case k3 => k_asm); (case k4 => k_mem); (case k5 => k_mem); (case k6 => first | rfl | assumption); k_whole))
  k_with "subscriptTail" => (k_here; (with_reducible show wpAny _ _ (subscriptTail _ _ (Value.ref _) (Value.int _ _)) _ _ _); k_dflt (refine' ka_tailInt ?k1 ?k2 ?k3 ?k4 ?k5 ?k6 ?k7 ?_ ?kb ?kc; (case k1 => k_asm); (case k2 => k_asm); (case k3 => k_asm); (case k4 => k_mem); (case k5 => first | omega | (rw [Array.size_push]; omega)); (case k6 => first | omega | (rw [Array.size_push]; omega)); (case k7 => assumption); (case kb => with_unfolding_all rfl); (case kc => intro _; with_unfolding_all rfl); k_whole))
  k_with "call ref" => (k_here; k_dflt (refine' len_use ?fB ?fF ?fX ?fN ?fT ?fk ?fd ?fu ?fG ?m1 ?m2 ?fP ?x1 ?x2 ?fU ?_; walk_at "mine cl"; (case x1 => walk_at "mine x"); (case x2 => walk_at "mine x"); k_whole); intro _ _ _ _ _ _ _ _ _; (try k_sweep); (try dsimp only); (try k_fold))
  k_with "call ref" => (k_here; k_dflt (refine' str_use ?fB ?fF ?fX ?fN ?fT ?fk ?fd ?fu ?fG ?m1 ?m2 ?fP ?x1 ?x2 ?x3 ?fU ?_; walk_at "mine cl"; (case x1 => walk_at "mine x"); (case x2 => walk_at "mine x"); (case x3 => walk_at "mine x"); k_whole); intro _ _ _ _ _ _ _ _ _; (try k_sweep); (try dsimp only); (try k_fold))
  k_with "call ref" => (k_here; k_dflt (refine' ws_use ?fB ?fF ?fX ?fN ?fT ?fk ?fd ?fu ?fG ?m1 ?m2 ?m3 ?fP ?x1 ?x2 ?x3 ?x4 ?x5 ?x6 ?x7 ?fU ?fV ?_; walk_at "mine cl"; (case x1 => walk_at "mine x"); (case x2 => walk_at "mine x"); (case x3 => walk_at "mine x"); (case x4 => walk_at "mine x"); (case x5 => walk_at "mine x"); (case x6 => walk_at "mine x"); (case x7 => walk_at "mine x"); k_whole); intro _ _ _ _ _ _ _ _ _ _; (try k_sweep); (try dsimp only); (try k_fold))
  k_with "call ref" => (k_here; k_dflt (refine' push_use ?fB ?fF ?fX ?fN ?fT ?fk ?fd ?fu ?m4 ?x1 ?fU ?_; walk_at "mine cl"; (case x1 => walk_at "mine x"); k_whole); intro _ _ _ _ _ _ _; (try k_sweep); (try dsimp only); (try k_fold))
  k_with "call ref" => (k_here; k_dflt (refine' pop_use ?fB ?fF ?fX ?fN ?fT ?fk ?fd ?fu ?m4 ?x1 ?fU ?_; walk_at "mine cl"; (case x1 => walk_at "mine x"); k_whole); intro _ _ _ _; (try k_sweep); (try dsimp only); (try k_fold))
  k_with "call ref" => (k_here; k_dflt (refine' popnil_use ?fB ?fF ?fX ?fN ?fT ?fk ?fd ?fu ?m0 ?m1 ?_; walk_at "mine cl"; k_whole); intro _ _ _ _ _ _ _ _ _; (try k_sweep); (try dsimp only); (try k_fold))
  k_with "call ref" => (k_here; k_dflt (refine' reset_use ?fB ?fF ?fX ?fN ?fT ?fk ?fd ?fu ?m4 ?x1 ?fU ?fV ?_; walk_at "mine cl"; (case x1 => walk_at "mine x"); k_whole); intro _ _ _ _ _ _ _; (try k_sweep); (try dsimp only); (try k_fold))
  k_with "call ref" => (k_here; k_dflt (refine' reset1_use ?fB ?fF ?fX ?fN ?fT ?fk ?fd ?fu ?m0 ?m4 ?fU ?fV ?x1 ?x2 ?_; walk_at "mine cl"; (case x1 => walk_at "mine x"); (case x2 => walk_at "mine x"); k_whole); intro _ _ _ _ _ _; (try k_sweep); (try dsimp only); (try k_fold))
  k_with "call ref" => (k_here; k_dflt (show wpAny _ _ (call (Value.ref 159) [Value.ref _, Value.int _ _]) _ _ _); (rename News _ _ _ _ => nN); (rename Fr _ _ _ _ => nF); k_dflt (refine' ROM.use (popfrom_cl _ _ _ _ _ _ _ _ _ _ _ _ _ ?x1) ?fB nF ?fX nN ?fS ?fT ?fk ?fP ?fd ?fu ?_; (case fB => k_asm); (case fX => k_asm); (case fT => k_asm); (case fk => exact rfl); (case fS => walk_at "mine sub"); (case fP => trivial); (case fd => first | exact room_le (by assumption) rfl | ktr_room); (case fu => first | exact room_le (by assumption) rfl | ktr_units); (case x1 => first | assumption | (simp; omega)); k_whole); intro _ _ _ hR9 _ K9; (obtain ⟨R9, n9, e9, hn9, hg9, hx9⟩ := hR9); subst e9; k_dflt (refine' upd_then nN ?fU K9 hx9 ?_; (case fU => k_upd); k_whole); intro N9; replace N9 := fresh_news2 nF N9 hn9 hg9; clear K9 hx9 hg9; (try clear nF); (try dsimp only); (try k_fold))
  k_with "call ref" => (k_here; k_dflt (refine' count_use ?fB ?fF ?fX ?fN ?fT ?fk ?fd ?fu ?m0 ?m1 ?_; walk_at "mine cl"; k_whole); intro _ _ _ _ _; (try k_sweep); (try dsimp only); (try k_fold))
  k_with "truthy ref" => (k_here; k_dflt (refine' ka_truthy ?k1 ?k2 ?k3 ?k4 ?k5 ?_; (case k1 => k_asm); (case k2 => k_asm); (case k3 => k_asm); (case k4 => k_mem); (case k5 => k_mem); k_whole))
  k_with "call type:str" => (k_here; k_dflt (refine' kso_call ?k1 ?k2 (acc_inst (news_at ?k3 ?k4) (news_at ?k5 ?k6)) ?k7 ?k8 ?_; (case k1 => ktr_units); (case k2 => k_in); (case k3 => k_asm); (case k4 => k_mem); (case k5 => k_asm); (case k6 => k_mem); (case k7 => k_is); (case k8 => k_is); k_whole))
  k_with "StrBack" => (dsimp only [W.StrBack])
  k_with "call builtin:len" => (k_here; k_dflt (refine' ka_len2 ?k1 ?k2 ?k3 ?k4 ?k5 ?_; (case k1 => k_asm); (case k2 => k_asm); (case k3 => k_asm); (case k4 => k_mem); (case k5 => k_mem); k_whole))
  k_with "LenBack" => (k_dflt (refine ⟨⟨by omega, by omega⟩, ?_⟩))
  k_with "execs cons" => ((with_reducible refine wpAny_execs_cons ?_); (try dsimp only); (try (refine tk_any ?_; intro _)); (try k_fold))
  trivial
theorem fresh_in {h g h1 : Heap} {L1 T : Addr} {m : Str → Option Value} {news : List (Addr × Obj)} (GS : GSub h g (news.map (·.1))) (F1 : Fr g L1 h1 m) (N1 : News g L1 h1 news) (hn : h1.get? T = none) : h.get? T = none := by
  cases e : h.get? T with
  | none => rfl
  | some o =>
    by_cases hm : T ∈ news.map (·.1)
    · obtain ⟨q, hq, rfl⟩ := List.mem_map.mp hm
      rw [(N1 q hq).1] at hn; cases hn
    · rw [F1.keep _ _ (GS _ _ e hm)] at hn; cases hn

theorem apA_cl (w : World) (mean : ExcName → Option Value) (mg mb : Str → Option Value) (r dr ll x dx : Addr) (a1 a2 a3 a4 a5 a6 tM tc tl ts : Tok) (M : Int) (kd kl n k : Nat) (lns its ps qs : Array Value) (kt tz tf tp : Tok) (z : Int) (f p : Str) (Ls : List (Str × Str)) (htr : TriplesOk ps.toList) (hts : TriplesOk qs.toList) (hn : (Ls ++ [(f, p)]).length ≤ 100) (hln : lns.size ≤ 100) (hLs : ∀ q ∈ Ls ++ [(f, p)], q.1.length ≤ 1000 ∧ q.2.length ≤ 1000)
  (hz0 : 0 ≤ z) (hz1 : z ≤ 1000) (hM : z + totL (Ls ++ [(f, p)]) ≤ M) :
  ROG w mean mg mb 120 [x, 169, 176] (fun h => TupsAt h its Ls) [(r, fvO dr), (dr, fvD w a1 a2 a3 a4 a5 a6 M tM tc tl ts ll x kd), (ll, lstO lns kl), (x, accO dx its n), (dx, iniO w kt (.int z tz) k), (169, tabObj ps), (176, tabObj qs)] [.ref r, .str f tf, .str p tp]
    (fun h v h' => v = .none ∧ (∃ T, h'.get? x = some (accO dx (its.push (.ref T)) (n + 1)) ∧ h.get? T = none ∧ h'.get? T = some (tup2 f tf p tp)) ∧ (∃ ps', TriplesOk ps'.toList ∧ h'.get? 169 = some (tabObj ps')) ∧ (∃ qs', TriplesOk qs'.toList ∧ h'.get? 176 = some (tabObj qs'))) 70 700 := by
  delta ROG PR; k_fill
  intro dp un gd cn cs a ccd cl outer A₀ base h₀ L m s Q E B F KX N T' hk HP G hdp hun hret
  have o7 := off7 N
  have n1 := o7.n1
  have n2 := o7.n2
  have n3 := o7.n3
  have n4 := o7.n4
  have n5 := o7.n5
  have n6 := o7.n6
  have n7 := o7.n7
  have n8 := o7.n8
  have n9 := o7.n9
  have m1 := o7.m1
  have m2 := o7.m2
  have m3 := o7.m3
  have m4 := o7.m4
  have m5 := o7.m5
  have m6 := o7.m6
  have m7 := o7.m7
  have m8 := o7.m8
  have m9 := o7.m9
  have m0 := o7.m0
  have htot := totL_le (Ls ++ [(f, p)]) hn hLs
  have hLl : Ls.length ≤ 99 := len_snoc hn
  have hsz' : its.size ≤ 1000 := by rw [HP.1]; omega
  w_strict (refine wpAny_call ?_; walk_at "mine enter")
  rename_i g1 L1 h1 FG1 F1 N1 X1 T1 GS1
  have HT : TupsAt g1 its Ls := tups_base N GS1 HP (by walk_at "mine base")
  have KN := Hold.in N1
  have KF := Hold.in F1
  w_strict k_steps
  rename h1.get? _ = none => hnT
  exact hret _ _ _ _ ⟨rfl, ⟨_, news_at (by assumption) (by k_mem), fresh_in GS1 KF.out KN.out hnT, news_at (by assumption) (by k_mem)⟩, tri_at (by assumption) (by k_mem) (by assumption), tri_at (by assumption) (by k_mem) (by assumption)⟩ (by assumption) (kept_mut [x, 169, 176] N (by assumption) (Fr.keep (by assumption)) (sub_out (by assumption) (by walk_at "mine out"))) (by assumption)

end Mine
end
section
open PySem PySem.W PyProof.Rows PySem.Builtin
set_option Elab.async false
set_option maxRecDepth 100000
set_option maxHeartbeats 8000000
set_option pp.deepTerms false
set_option pp.deepTerms.threshold 6
set_option pp.maxSteps 3000
set_option pp.proofs false
namespace Mine
theorem rows_VF4_1 : True := by
  k_with_none
  w_top off
  k_with "pj" => (first | assumption | exact pj1 (by assumption) | exact pj2 (by assumption) | exact pj3 (by assumption) | exact pj4 (by assumption) | exact pj5 (by assumption) | exact pj6 (by assumption) | exact pl2 (by assumption) | exact pl3 (by assumption) | exact pl4 (by assumption) | exact pl5 (by assumption) | exact pl6 (by assumption) | exact pl7 (by assumption))
  k_with "k_ne" => (first | with_reducible exact Off.ne (by assumption) | with_reducible exact Off.ne' (by assumption) | exact news_neB (by assumption) (by k_mem) (by k_mem) rfl | exact OffAll.pick (by assumption) (by k_mem) | exact OffAll.pick' (by assumption) (by k_mem) | (refine neN ?_; (try dsimp only); (first | exact ne_u1 | exact ne_d1 | exact ne_u2 | exact ne_d2 | exact ne_u3 | exact ne_d3 | exact ne_l0 (by walk_at "pj") | exact ne_l1 (by walk_at "pj") | exact ne_l2 (by walk_at "pj") | exact ne_l3 (by walk_at "pj") | exact ne_g0 (by walk_at "pj") | exact ne_g1 (by walk_at "pj") | exact ne_g2 (by walk_at "pj") | exact ne_g3 (by walk_at "pj") | walk_at "pj" | exact Ne.symm (by walk_at "pj") | omega)))
  k_with "mine enter" => (k_dflt (refine' code_defG ?k1 ?k2 ?k3 ?k4 ?k5 ?kA ?kF ?kK ?k6 ?k7 ?k8 ?k9 ?kB ?_ ?c2 ?c3 ?c4 ?c5; (case kA => exact rfl); (case kF => exact rfl); (case kK => assumption); (case k1 => k_asm); (case k2 => k_asm); (case k3 => k_asm); (case k4 => k_asm); (case k5 => k_asm); (case k6 => k_is); (case k7 => k_is); (case k8 => first | exact room0 (by assumption) | ktr_room); (case k9 => first | exact BindsTo.of_eq rfl | exact binds_K (by k_in) rfl (by k_is) rfl rfl rfl); (case c5 => decide); (case kB => exact locs rfl); (case c2 => exact rfl); (case c3 => exact rfl); (case c4 => exact rfl); k_whole; intro _ _ _ _ _ _ B' _ _ _; (try dsimp only); (try k_lift B'); (try k_fold)))
  k_with "getMethod ref" => (k_here; k_dflt (refine' ka_method ?k1 ?k2 ?k3 ?k4 ?k5 ?k6 ?k7 ?k8 ?_; (case k1 => k_asm); (case k2 => k_asm); (case k3 => k_asm); (case k4 => k_mem); (case k5 => k_mem); (case k6 => k_is); (case k7 => kernel_rfl); (case k8 => exact rfl); k_whole))
  k_with "compareOp NotEq ref ref" => (k_here; k_dflt (refine' ka_ne_pair ?k1 ?k2 ?k3 ?k4 ?k5 ?_; (case k1 => k_asm); (case k2 => k_mem); (case k3 => k_mem); (case k4 => ktr_units); (case k5 => assumption); k_whole))
  k_with "getAttr ref" => (k_here; (with_reducible show wpAny _ _ (getAttr (Value.ref _) (PySem.Str.ofString "push") _) _ _ _); k_dflt (refine' ka_getFn (f := 151) ?k1 ?k2 ?k3 ?k4 ?k5 ?k6 ?k7 ?_; (case k1 => k_asm); (case k2 => k_asm); (case k3 => k_asm); (case k4 => k_mem); (case k5 => k_mem); (case k6 => kernel_rfl); (case k7 => kernel_rfl); k_whole); intro _ _ _ _ l1; (try k_lt l1))
  k_with "callWith ref" => (k_here; (with_reducible show wpAny _ _ (callWith _ (Value.ref _) _ (backTo _ (starEach [Expr.Starred _ _] _)) []) _ _ _); k_dflt (refine' callWith_SP ?k1 ?k2 ?_ ?k3; (case k1 => k_asm); (case k2 => k_mem); (case k3 => exact rfl); k_whole))
  k_with "eval Call Attribute" => (k_here; (with_reducible show wpAny _ _ (PySem.eval (Expr.Call _ [Expr.Starred _ _] _ _) _) _ _ _); k_dflt (refine' star_call ?_ ?k1; (case k1 => exact rfl); k_whole))
  k_with "mine base" => (first | exact tb_nil | (refine tb_cls rfl ?zb; (case zb => walk_at "mine base")) | (refine tb_ref (by assumption) ?zb; (case zb => walk_at "mine base")))
  k_with "mine out" => (first | exact so_nil | (refine so_fp ?za ?zb; (case za => k_mem); (case zb => walk_at "mine out")) | (refine so_in ?za ?zb; (case za => k_mem); (case zb => walk_at "mine out")))
  k_with "mine sub" => (first | exact sub_nil | (refine sub_cons ?za ?zb; (case za => k_mem); (case zb => walk_at "mine sub")))
  k_with "mine cl" => ((case fB => k_asm); (case fF => k_asm); (case fX => k_asm); (case fN => k_asm); (case fT => k_asm); (case fk => exact rfl); (case fd => first | exact room_le (by assumption) rfl | ktr_room); (case fu => first | exact room_le (by assumption) rfl | ktr_units); (try case fG => k_asm); (try case m0 => k_mem); (try case m1 => k_mem); (try case m2 => k_mem); (try case m3 => k_mem); (try case fU => walk_at "mine upd"); (try case fV => walk_at "mine upd"); (try case u1 => walk_at "mine upd"); (try case u2 => walk_at "mine upd"); (try case u3 => walk_at "mine upd"); (try case u4 => walk_at "mine upd"); (try case u5 => walk_at "mine upd"); (try case m4 => k_mem); (try case m5 => k_mem); (try case m6 => k_mem); (try case fP => walk_at "mine tups"))
  k_with "mine upd" => (first | k_upd | (intro _; walk_at "mine upd"))
  k_with "mine tups" => (first | exact TupsAt.keeps (by assumption) (fun b f tf p tp e => Fr.keep (by assumption) _ _ e) | exact tups_push (by assumption) (by assumption) (by assumption) (by k_mem))
  k_with "mine x" => (first | assumption | omega | (rw [Array.size_push]; omega) | (simp; omega) | (simp; done))
  k_with "call ref" => (k_here; k_dflt (refine' pushC_use ?fB ?fF ?fX ?fN ?fT ?fk ?fd ?fu ?m0 ?m4 ?x1 ?fU ?_; walk_at "mine cl"; (case x1 => walk_at "mine x"); k_whole); intro _ _ _ _ _ _ _; (try k_sweep); (try dsimp only); (try k_fold))
  k_with "getAttr ref" => (k_here; (with_reducible show wpAny _ _ (getAttr (Value.ref _) (PySem.Str.ofString "_initial_size") _) _ _ _); k_dflt (refine' ka_getIS ?k1 ?k2 ?k3 ?k4 ?k5 ?k6 ?_; (case k1 => k_asm); (case k2 => k_asm); (case k3 => k_asm); (case k4 => k_mem); (case k5 => k_mem); (case k6 => first | rfl | assumption); k_whole))
  k_with "subscriptTail" => (k_here; (with_reducible show wpAny _ _ (subscriptTail _ _ (Value.ref _) (Value.int _ _)) _ _ _); k_dflt (refine' ka_tailInt ?k1 ?k2 ?k3 ?k4 ?k5 ?k6 ?k7 ?_ ?kb ?kc; (case k1 => k_asm); (case k2 => k_asm); (case k3 => k_asm); (case k4 => k_mem); (case k5 => first | omega | (rw [Array.size_push]; omega)); (case k6 => first | omega | (rw [Array.size_push]; omega)); (case k7 => first | assumption | apply_assumption); (case kb => with_unfolding_all rfl); (case kc => intro _; with_unfolding_all rfl); k_whole))
  k_with "call ref" => (k_here; k_dflt (refine' len_use ?fB ?fF ?fX ?fN ?fT ?fk ?fd ?fu ?fG ?m1 ?m2 ?fP ?x1 ?x2 ?fU ?_; walk_at "mine cl"; (case x1 => walk_at "mine x"); (case x2 => walk_at "mine x"); k_whole); intro _ _ _ _ _ _ _ _ _; (try k_sweep); (try dsimp only); (try k_fold))
  k_with "call ref" => (k_here; k_dflt (refine' str_use ?fB ?fF ?fX ?fN ?fT ?fk ?fd ?fu ?fG ?m1 ?m2 ?fP ?x1 ?x2 ?x3 ?fU ?_; walk_at "mine cl"; (case x1 => walk_at "mine x"); (case x2 => walk_at "mine x"); (case x3 => walk_at "mine x"); k_whole); intro _ _ _ _ _ _ _ _ _; (try k_sweep); (try dsimp only); (try k_fold))
  k_with "call ref" => (k_here; k_dflt (refine' ws_use ?fB ?fF ?fX ?fN ?fT ?fk ?fd ?fu ?fG ?m1 ?m2 ?m3 ?fP ?x1 ?x2 ?x3 ?x4 ?x5 ?x6 ?x7 ?fU ?fV ?_; walk_at "mine cl"; (case x1 => walk_at "mine x"); (case x2 => walk_at "mine x"); (case x3 => walk_at "mine x"); (case x4 => walk_at "mine x"); (case x5 => walk_at "mine x"); (case x6 => walk_at "mine x"); (case x7 => walk_at "mine x"); k_whole); intro _ _ _ _ _ _ _ _ _ _; (try k_sweep); (try dsimp only); (try k_fold))
  k_with "call ref" => (k_here; k_dflt (refine' push_use ?fB ?fF ?fX ?fN ?fT ?fk ?fd ?fu ?m4 ?x1 ?fU ?_; walk_at "mine cl"; (case x1 => walk_at "mine x"); k_whole); intro _ _ _ _ _ _ _; (try k_sweep); (try dsimp only); (try k_fold))
  k_with "call ref" => (k_here; k_dflt (refine' pop_use ?fB ?fF ?fX ?fN ?fT ?fk ?fd ?fu ?m4 ?x1 ?fU ?_; walk_at "mine cl"; (case x1 => walk_at "mine x"); k_whole); intro _ _ _ _; (try k_sweep); (try dsimp only); (try k_fold))
  k_with "call ref" => (k_here; k_dflt (refine' popnil_use ?fB ?fF ?fX ?fN ?fT ?fk ?fd ?fu ?m0 ?m1 ?_; walk_at "mine cl"; k_whole); intro _ _ _ _ _ _ _ _ _; (try k_sweep); (try dsimp only); (try k_fold))
  k_with "call ref" => (k_here; k_dflt (refine' reset_use ?fB ?fF ?fX ?fN ?fT ?fk ?fd ?fu ?m4 ?x1 ?fU ?fV ?_; walk_at "mine cl"; (case x1 => walk_at "mine x"); k_whole); intro _ _ _ _ _ _ _; (try k_sweep); (try dsimp only); (try k_fold))
  k_with "call ref" => (k_here; k_dflt (refine' reset1_use ?fB ?fF ?fX ?fN ?fT ?fk ?fd ?fu ?m0 ?m4 ?fU ?fV ?x1 ?x2 ?_; walk_at "mine cl"; (case x1 => walk_at "mine x"); (case x2 => walk_at "mine x"); k_whole); intro _ _ _ _ _ _; (try k_sweep); (try dsimp only); (try k_fold))
  k_with "call ref" => (k_here; k_dflt (refine' poplast_use ?fB ?fF ?fX ?fN ?fT ?fk ?fd ?fu ?m4 ?x1 ?fU ?_; walk_at "mine cl"; (case x1 => walk_at "mine x"); k_whole); intro _ _ _ _ _ _ _ _; (try k_sweep); (try dsimp only); (try k_fold))
  k_with "call ref" => (k_here; k_dflt (refine' count_use ?fB ?fF ?fX ?fN ?fT ?fk ?fd ?fu ?m0 ?m1 ?_; walk_at "mine cl"; k_whole); intro _ _ _ _ _; (try k_sweep); (try dsimp only); (try k_fold))
  k_with "truthy ref" => (k_here; k_dflt (refine' ka_truthy ?k1 ?k2 ?k3 ?k4 ?k5 ?_; (case k1 => k_asm); (case k2 => k_asm); (case k3 => k_asm); (case k4 => k_mem); (case k5 => k_mem); k_whole))
  k_with "call type:str" => (k_here; k_dflt (refine' kso_call ?k1 ?k2 (acc_inst (news_at ?k3 ?k4) (news_at ?k5 ?k6)) ?k7 ?k8 ?_; (case k1 => ktr_units); (case k2 => k_in); (case k3 => k_asm); (case k4 => k_mem); (case k5 => k_asm); (case k6 => k_mem); (case k7 => k_is); (case k8 => k_is); k_whole))
  k_with "StrBack" => (dsimp only [W.StrBack])
  k_with "call builtin:len" => (k_here; k_dflt (refine' ka_len2 ?k1 ?k2 ?k3 ?k4 ?k5 ?_; (case k1 => k_asm); (case k2 => k_asm); (case k3 => k_asm); (case k4 => k_mem); (case k5 => k_mem); k_whole))
  k_with "LenBack" => (k_dflt (refine ⟨⟨by omega, by omega⟩, ?_⟩))
  k_with "execs cons" => ((with_reducible refine wpAny_execs_cons ?_); (try dsimp only); (try (refine tk_any ?_; intro _)); (try k_fold))
  trivial
theorem apC_cl (w : World) (mean : ExcName → Option Value) (mg mb : Str → Option Value) (r dr ll x dx : Addr) (a1 a2 a3 a4 a5 a6 tM tc tl ts : Tok) (M : Int) (kd kl n k : Nat) (lns its ps qs : Array Value) (kt tz tf tp : Tok) (z : Int) (p : Str) (Ls : List (Str × Str)) (htr : TriplesOk ps.toList) (hts : TriplesOk qs.toList) (hn : (Ls ++ [(Str.ofString " ", p)]).length ≤ 100) (hln : lns.size ≤ 100) (hLs : ∀ q ∈ Ls ++ [(Str.ofString " ", p)], q.1.length ≤ 1000 ∧ q.2.length ≤ 1000)
  (hz0 : 0 ≤ z) (hz1 : z ≤ 1000) (hM : M < z + totL (Ls ++ [(Str.ofString " ", p)])) (hM0 : 0 ≤ M) (hi1 : 1 ≤ Ls.length) :
  ROG w mean mg mb 120 [ll, x, dx, 169, 176] (fun h => TupsAt h its Ls) [(r, fvO dr), (dr, fvD w a1 a2 a3 a4 a5 a6 M tM tc tl ts ll x kd), (ll, lstO lns kl), (x, accO dx its n), (dx, iniO w kt (.int z tz) k), (169, tabObj ps), (176, tabObj qs)] [.ref r, .str (Str.ofString " ") tf, .str p tp]
    (fun h v h' => v = .none ∧ (∃ T n' kl' k' t' u', h'.get? ll = some (lstO (lns.push (.str (strL Ls) u')) kl') ∧ h'.get? x = some (accO dx #[.ref T] n') ∧ h'.get? dx = some (iniO w kt (.int 0 t') k') ∧ h.get? T = none ∧ h'.get? T = some (tup2 (Str.ofString " ") tf p tp)) ∧ (∃ ps', TriplesOk ps'.toList ∧ h'.get? 169 = some (tabObj ps')) ∧ (∃ qs', TriplesOk qs'.toList ∧ h'.get? 176 = some (tabObj qs'))) 70 700 := by
  delta ROG PR; k_fill
  intro dp un gd cn cs a ccd cl outer A₀ base h₀ L m s Q E B F KX N T' hk HP G hdp hun hret
  have o7 := off7 N
  have n1 := o7.n1
  have n2 := o7.n2
  have n3 := o7.n3
  have n4 := o7.n4
  have n5 := o7.n5
  have n6 := o7.n6
  have n7 := o7.n7
  have n8 := o7.n8
  have n9 := o7.n9
  have m1 := o7.m1
  have m2 := o7.m2
  have m3 := o7.m3
  have m4 := o7.m4
  have m5 := o7.m5
  have m6 := o7.m6
  have m7 := o7.m7
  have m8 := o7.m8
  have m9 := o7.m9
  have m0 := o7.m0
  have htot := totL_le (Ls ++ [(Str.ofString " ", p)]) hn hLs
  have hLl : Ls.length ≤ 99 := len_snoc hn
  have hsz' : its.size ≤ 1000 := by rw [HP.1]; omega
  w_strict (refine wpAny_call ?_; walk_at "mine enter")
  rename_i g1 L1 h1 FG1 F1 N1 X1 T1 GS1
  have HT : TupsAt g1 its Ls := tups_base N GS1 HP (by walk_at "mine base")
  have KN := Hold.in N1
  have KF := Hold.in F1
  have hsi : its.size = Ls.length := HP.1
  have hnL : Ls.length ≤ 100 := by omega
  have hLsL : ∀ q ∈ Ls, q.1.length ≤ 1000 ∧ q.2.length ≤ 1000 := fun q hq => hLs q (List.mem_append_left _ hq)
  k_with "exec For" => (refine Hold.out ?rF1)
  w_strict k_steps
  case rF1 =>
    refine Hold.in ?_
    refine for_blank (h₀ := g1) ?pE rfl rfl rfl ?_ (fun _ => rfl)
    case pE => passes_own
    w_strict k_steps
    refine Hold.in (exI3 _ _ _ ⟨rfl, by assumption, by assumption, ?_⟩)
    intro J oJ tJ hJ tkJ hO FJ NJ lJ
    k_lt lJ
    k_with "exec For" => (refine Hold.out ?rF2)
    w_strict k_steps
    case rF2 =>
      refine Hold.in ?_
      refine for_rng1 (h₀ := g1) ?pE rfl rfl ?_ (fun _ => rfl)
      case pE => passes_own
      w_strict k_steps
      have hb1 : ∀ {T : Addr}, (1 : Int) ≤ ((its.push (Value.ref T)).size : Int) - 1 ∧ ((its.push (Value.ref T)).size : Int) - 1 ≤ 1000 := by intro T; rw [Array.size_push]; omega
      rename News _ _ _ _ => NX
      rename Fr _ _ _ _ => FX
      rename IsRange _ _ _ _ _ _ _ _ => IR
      refine Hold.in (exI9 _ _ _ _ _ _ _ _ _ ⟨rfl, IR, small_dn hb1.1 hb1.2, ?_, FX, NX, ?_⟩)
      · rw [size_dn hb1.1 hb1.2]
        exact Int.lt_of_lt_of_le (by decide) hb1.1
      intro tR hR tkR FR NR
      have hyC : ∀ T : Addr, (its.push (Value.ref T))[(((its.push (Value.ref T)).size : Int) - 1).toNat]? = some (Value.ref T) := by
        intro T
        rw [Array.size_push, show ((its.size + 1 : Nat) : Int) - 1 = (its.size : Int) by omega, Int.toNat_natCast]
        simp
      w_strict k_steps
      rename h1.get? _ = none => hnT
      exact hret _ _ _ _ ⟨rfl, (exI6 _ _ _ _ _ _ ⟨news_at (by assumption) (by k_mem), news_at (by assumption) (by k_mem), news_at (by assumption) (by k_mem), fresh_in GS1 KF.out KN.out hnT, news_at (by assumption) (by k_mem)⟩), tri_at (by assumption) (by k_mem) (by assumption), tri_at (by assumption) (by k_mem) (by assumption)⟩ (by assumption) (kept_mut [ll, x, dx, 169, 176] N (by assumption) (Fr.keep (by assumption)) (sub_out (by assumption) (by walk_at "mine out"))) (by assumption)
end Mine
end
section
open PySem PySem.W PyProof.Rows PySem.Builtin
set_option Elab.async false
set_option maxRecDepth 100000
set_option maxHeartbeats 8000000
set_option pp.deepTerms false
set_option pp.deepTerms.threshold 6
set_option pp.maxSteps 3000
set_option pp.proofs false
namespace Mine
theorem rows_VF5_1 : True := by
  k_with_none
  w_top off
  k_with "k_ne" => (first | with_reducible exact Off.ne (by assumption) | with_reducible exact Off.ne' (by assumption) | exact news_neB (by assumption) (by k_mem) (by k_mem) rfl | exact OffAll.pick (by assumption) (by k_mem) | exact OffAll.pick' (by assumption) (by k_mem) | (refine neN ?_; (try dsimp only); omega))
  k_with "mine enter" => (k_dflt (refine' code_defG ?k1 ?k2 ?k3 ?k4 ?k5 ?kA ?kF ?kK ?k6 ?k7 ?k8 ?k9 ?kB ?_ ?c2 ?c3 ?c4 ?c5; (case kA => exact rfl); (case kF => exact rfl); (case kK => assumption); (case k1 => k_asm); (case k2 => k_asm); (case k3 => k_asm); (case k4 => k_asm); (case k5 => k_asm); (case k6 => k_is); (case k7 => k_is); (case k8 => first | exact room0 (by assumption) | ktr_room); (case k9 => first | exact BindsTo.of_eq rfl | exact binds_K (by k_in) rfl (by k_is) rfl rfl rfl); (case c5 => decide); (case kB => exact locs rfl); (case c2 => exact rfl); (case c3 => exact rfl); (case c4 => exact rfl); k_whole; intro _ _ _ _ _ _ B' _ _ _; (try dsimp only); (try k_lift B'); (try k_fold)))
  k_with "getMethod ref" => (k_here; k_dflt (refine' ka_method ?k1 ?k2 ?k3 ?k4 ?k5 ?k6 ?k7 ?k8 ?_; (case k1 => k_asm); (case k2 => k_asm); (case k3 => k_asm); (case k4 => k_mem); (case k5 => k_mem); (case k6 => k_is); (case k7 => kernel_rfl); (case k8 => exact rfl); k_whole))
  k_with "compareOp NotEq ref ref" => (k_here; k_dflt (refine' ka_ne_pair ?k1 ?k2 ?k3 ?k4 ?k5 ?_; (case k1 => k_asm); (case k2 => k_mem); (case k3 => k_mem); (case k4 => ktr_units); (case k5 => assumption); k_whole))
  k_with "getAttr ref" => (k_here; (with_reducible show wpAny _ _ (getAttr (Value.ref _) (PySem.Str.ofString "push") _) _ _ _); k_dflt (refine' ka_getFn (f := 151) ?k1 ?k2 ?k3 ?k4 ?k5 ?k6 ?k7 ?_; (case k1 => k_asm); (case k2 => k_asm); (case k3 => k_asm); (case k4 => k_mem); (case k5 => k_mem); (case k6 => kernel_rfl); (case k7 => kernel_rfl); k_whole); intro _ _ _ _ l1; (try k_lt l1))
  k_with "callWith ref" => (k_here; (with_reducible show wpAny _ _ (callWith _ (Value.ref _) _ (backTo _ (starEach [Expr.Starred _ _] _)) []) _ _ _); k_dflt (refine' callWith_SP ?k1 ?k2 ?_ ?k3; (case k1 => k_asm); (case k2 => k_mem); (case k3 => exact rfl); k_whole))
  k_with "eval Call Attribute" => (k_here; (with_reducible show wpAny _ _ (PySem.eval (Expr.Call _ [Expr.Starred _ _] _ _) _) _ _ _); k_dflt (refine' star_call ?_ ?k1; (case k1 => exact rfl); k_whole))
  k_with "mine base" => (first | exact tb_nil | (refine tb_cls rfl ?zb; (case zb => walk_at "mine base")) | (refine tb_ref (by assumption) ?zb; (case zb => walk_at "mine base")))
  k_with "mine out" => (first | exact so_nil | (refine so_fp ?za ?zb; (case za => k_mem); (case zb => walk_at "mine out")) | (refine so_in ?za ?zb; (case za => k_mem); (case zb => walk_at "mine out")))
  k_with "mine sub" => (first | exact sub_nil | (refine sub_cons ?za ?zb; (case za => k_mem); (case zb => walk_at "mine sub")))
  k_with "mine cl" => ((case fB => k_asm); (case fF => k_asm); (case fX => k_asm); (case fN => k_asm); (case fT => k_asm); (case fk => exact rfl); (case fd => first | exact room_le (by assumption) rfl | ktr_room); (case fu => first | exact room_le (by assumption) rfl | ktr_units); (try case fG => k_asm); (try case m0 => k_mem); (try case m1 => k_mem); (try case m2 => k_mem); (try case m3 => k_mem); (try case fU => walk_at "mine upd"); (try case fV => walk_at "mine upd"); (try case u1 => walk_at "mine upd"); (try case u2 => walk_at "mine upd"); (try case u3 => walk_at "mine upd"); (try case u4 => walk_at "mine upd"); (try case u5 => walk_at "mine upd"); (try case m4 => k_mem); (try case m5 => k_mem); (try case m6 => k_mem); (try case fP => walk_at "mine tups"))
  k_with "mine upd" => (first | k_upd | (intro _; walk_at "mine upd"))
  k_with "mine tups" => (first | exact TupsAt.keeps (by assumption) (fun b f tf p tp e => Fr.keep (by assumption) _ _ e) | exact tups_push (by assumption) (by assumption) (by assumption) (by k_mem))
  k_with "mine x" => (first | assumption | omega | (rw [Array.size_push]; omega) | (simp; omega) | (simp; done))
  k_with "call ref" => (k_here; k_dflt (refine' pushC_use ?fB ?fF ?fX ?fN ?fT ?fk ?fd ?fu ?m0 ?m4 ?x1 ?fU ?_; walk_at "mine cl"; (case x1 => walk_at "mine x"); k_whole); intro _ _ _ _ _ _ _; (try k_sweep); (try dsimp only); (try k_fold))
  k_with "getAttr ref" => (k_here; (with_reducible show wpAny _ _ (getAttr (Value.ref _) (PySem.Str.ofString "_initial_size") _) _ _ _); k_dflt (refine' ka_getIS ?k1 ?k2 ?k3 ?k4 ?k5 ?k6 ?_; (case k1 => k_asm); (case k2 => k_asm); (case k3 => k_asm); (case k4 => k_mem); (case k5 => k_mem); (case k6 => first | rfl | assumption); k_whole))
  k_with "subscriptTail" => (k_here; (with_reducible show wpAny _ _ (subscriptTail _ _ (Value.ref _) (Value.int _ _)) _ _ _); k_dflt (refine' ka_tailInt ?k1 ?k2 ?k3 ?k4 ?k5 ?k6 ?k7 ?_ ?kb ?kc; (case k1 => k_asm); (case k2 => k_asm); (case k3 => k_asm); (case k4 => k_mem); (case k5 => first | omega | (rw [Array.size_push]; omega)); (case k6 => first | omega | (rw [Array.size_push]; omega)); (case k7 => first | assumption | apply_assumption); (case kb => with_unfolding_all rfl); (case kc => intro _; with_unfolding_all rfl); k_whole))
  k_with "call ref" => (k_here; k_dflt (refine' len_use ?fB ?fF ?fX ?fN ?fT ?fk ?fd ?fu ?fG ?m1 ?m2 ?fP ?x1 ?x2 ?fU ?_; walk_at "mine cl"; (case x1 => walk_at "mine x"); (case x2 => walk_at "mine x"); k_whole); intro _ _ _ _ _ _ _ _ _; (try k_sweep); (try dsimp only); (try k_fold))
  k_with "call ref" => (k_here; k_dflt (refine' str_use ?fB ?fF ?fX ?fN ?fT ?fk ?fd ?fu ?fG ?m1 ?m2 ?fP ?x1 ?x2 ?x3 ?fU ?_; walk_at "mine cl"; (case x1 => walk_at "mine x"); (case x2 => walk_at "mine x"); (case x3 => walk_at "mine x"); k_whole); intro _ _ _ _ _ _ _ _ _; (try k_sweep); (try dsimp only); (try k_fold))
  k_with "call ref" => (k_here; k_dflt (refine' ws_use ?fB ?fF ?fX ?fN ?fT ?fk ?fd ?fu ?fG ?m1 ?m2 ?m3 ?fP ?x1 ?x2 ?x3 ?x4 ?x5 ?x6 ?x7 ?fU ?fV ?_; walk_at "mine cl"; (case x1 => walk_at "mine x"); (case x2 => walk_at "mine x"); (case x3 => walk_at "mine x"); (case x4 => walk_at "mine x"); (case x5 => walk_at "mine x"); (case x6 => walk_at "mine x"); (case x7 => walk_at "mine x"); k_whole); intro _ _ _ _ _ _ _ _ _ _; (try k_sweep); (try dsimp only); (try k_fold))
  k_with "call ref" => (k_here; k_dflt (refine' push_use ?fB ?fF ?fX ?fN ?fT ?fk ?fd ?fu ?m4 ?x1 ?fU ?_; walk_at "mine cl"; (case x1 => walk_at "mine x"); k_whole); intro _ _ _ _ _ _ _; (try k_sweep); (try dsimp only); (try k_fold))
  k_with "call ref" => (k_here; k_dflt (refine' pop_use ?fB ?fF ?fX ?fN ?fT ?fk ?fd ?fu ?m4 ?x1 ?fU ?_; walk_at "mine cl"; (case x1 => walk_at "mine x"); k_whole); intro _ _ _ _; (try k_sweep); (try dsimp only); (try k_fold))
  k_with "call ref" => (k_here; k_dflt (refine' popnil_use ?fB ?fF ?fX ?fN ?fT ?fk ?fd ?fu ?m0 ?m1 ?_; walk_at "mine cl"; k_whole); intro _ _ _ _ _ _ _ _ _; (try k_sweep); (try dsimp only); (try k_fold))
  k_with "call ref" => (k_here; k_dflt (refine' reset_use ?fB ?fF ?fX ?fN ?fT ?fk ?fd ?fu ?m4 ?x1 ?fU ?fV ?_; walk_at "mine cl"; (case x1 => walk_at "mine x"); k_whole); intro _ _ _ _ _ _ _; (try k_sweep); (try dsimp only); (try k_fold))
  k_with "call ref" => (k_here; k_dflt (refine' reset1_use ?fB ?fF ?fX ?fN ?fT ?fk ?fd ?fu ?m0 ?m4 ?fU ?fV ?x1 ?x2 ?_; walk_at "mine cl"; (case x1 => walk_at "mine x"); (case x2 => walk_at "mine x"); k_whole); intro _ _ _ _ _ _; (try k_sweep); (try dsimp only); (try k_fold))
  k_with "call ref" => (k_here; k_dflt (refine' poplast_use ?fB ?fF ?fX ?fN ?fT ?fk ?fd ?fu ?m4 ?x1 ?fU ?_; walk_at "mine cl"; (case x1 => walk_at "mine x"); k_whole); intro _ _ _ _ _ _ _ _; (try k_sweep); (try dsimp only); (try k_fold))
  k_with "call ref" => (k_here; k_dflt (refine' count_use ?fB ?fF ?fX ?fN ?fT ?fk ?fd ?fu ?m0 ?m1 ?_; walk_at "mine cl"; k_whole); intro _ _ _ _ _; (try k_sweep); (try dsimp only); (try k_fold))
  k_with "truthy ref" => (k_here; k_dflt (refine' ka_truthy ?k1 ?k2 ?k3 ?k4 ?k5 ?_; (case k1 => k_asm); (case k2 => k_asm); (case k3 => k_asm); (case k4 => k_mem); (case k5 => k_mem); k_whole))
  k_with "call type:str" => (k_here; k_dflt (refine' kso_call ?k1 ?k2 (acc_inst (news_at ?k3 ?k4) (news_at ?k5 ?k6)) ?k7 ?k8 ?_; (case k1 => ktr_units); (case k2 => k_in); (case k3 => k_asm); (case k4 => k_mem); (case k5 => k_asm); (case k6 => k_mem); (case k7 => k_is); (case k8 => k_is); k_whole))
  k_with "StrBack" => (dsimp only [W.StrBack])
  k_with "call builtin:len" => (k_here; k_dflt (refine' ka_len2 ?k1 ?k2 ?k3 ?k4 ?k5 ?_; (case k1 => k_asm); (case k2 => k_asm); (case k3 => k_asm); (case k4 => k_mem); (case k5 => k_mem); k_whole))
  k_with "LenBack" => (k_dflt (refine ⟨⟨by omega, by omega⟩, ?_⟩))
  k_with "call ref" => (k_here; k_dflt (refine' nlpos_use ?fB ?fF ?fX ?fN ?fT ?fk ?fd ?fu ?fG ?m0 ?m1 ?m2 ?u1 ?u2 ?u3 ?u4 ?u5 ?m4 ?m5 ?m6 ?x1 ?x2 ?x3 ?x4 ?x5 ?_; walk_at "mine cl"; (case x1 => walk_at "mine x"); (case x2 => walk_at "mine x"); (case x3 => walk_at "mine x"); (case x4 => walk_at "mine x"); (case x5 => walk_at "mine x"); k_whole); intro _ _ _ _ _ _ _ _ _ _ _ _ _ _ _; (try k_sweep); (try dsimp only); (try k_fold))
  k_with "mine fr" => (first | exact fr_nil | (refine fr_cons ?za ?zb; (case za => (first | k_ne | omega | (dsimp only; omega))); (case zb => walk_at "mine fr")))
  k_with "execs cons" => ((with_reducible refine wpAny_execs_cons ?_); (try dsimp only); (try (refine tk_any ?_; intro _)); (try k_fold))
  trivial
theorem apB2_cl (w : World) (mean : ExcName → Option Value) (mg mb : Str → Option Value) (r dr ll x dx : Addr) (a1 a2 a3 a4 a5 a6 tM tc tl ts : Tok) (M : Int) (kd kl n k : Nat) (lns ps qs : Array Value) (kt tz tf tp : Tok) (z : Int) (f p : Str) (htr : TriplesOk ps.toList) (hts : TriplesOk qs.toList) (hn : (([] : List (Str × Str)) ++ [(f, p)]).length ≤ 100) (hln : lns.size ≤ 100) (hLs : ∀ q ∈ ([] : List (Str × Str)) ++ [(f, p)], q.1.length ≤ 1000 ∧ q.2.length ≤ 1000)
  (hz0 : 0 ≤ z) (hz1 : z ≤ 1000) (hz : z = 0) (hM : M < z + totL ([] ++ [(f, p)])) (hM0 : 0 ≤ M) :
  ROG w mean mg mb 120 [x, 169, 176] (fun _ => True) [(r, fvO dr), (dr, fvD w a1 a2 a3 a4 a5 a6 M tM tc tl ts ll x kd), (ll, lstO lns kl), (x, accO dx #[] n), (dx, iniO w kt (.int z tz) k), (169, tabObj ps), (176, tabObj qs)] [.ref r, .str f tf, .str p tp]
    (fun h v h' => v = .none ∧ (∃ T n', h'.get? x = some (accO dx ((#[] : Array Value).push (.ref T)) n') ∧ h.get? T = none ∧ h'.get? T = some (tup2 f tf p tp)) ∧ (∃ ps', TriplesOk ps'.toList ∧ h'.get? 169 = some (tabObj ps')) ∧ (∃ qs', TriplesOk qs'.toList ∧ h'.get? 176 = some (tabObj qs'))) 70 700 := by
  delta ROG PR; k_fill
  intro dp un gd cn cs a ccd cl outer A₀ base h₀ L m s Q E B F KX N T' hk HP G hdp hun hret
  have o7 := off7 N
  have n1 := o7.n1
  have n2 := o7.n2
  have n3 := o7.n3
  have n4 := o7.n4
  have n5 := o7.n5
  have n6 := o7.n6
  have n7 := o7.n7
  have n8 := o7.n8
  have n9 := o7.n9
  have m1 := o7.m1
  have m2 := o7.m2
  have m3 := o7.m3
  have m4 := o7.m4
  have m5 := o7.m5
  have m6 := o7.m6
  have m7 := o7.m7
  have m8 := o7.m8
  have m9 := o7.m9
  have m0 := o7.m0
  have htot := totL_le ([] ++ [(f, p)]) hn hLs
  have hsz' : (#[] : Array Value).size ≤ 1000 := Nat.zero_le _
  have hsz : (#[] : Array Value).size < 1000 := by decide
  w_strict (refine wpAny_call ?_; walk_at "mine enter")
  rename_i g1 L1 h1 FG1 F1 N1 X1 T1 GS1
  have HT : TupsAt g1 #[] [] := tups_none _
  have KN := Hold.in N1
  have KF := Hold.in F1
  k_with "exec For" => (refine Hold.out ?rF1)
  w_strict k_steps
  case rF1 =>
    refine Hold.in ?_
    refine for_blank (h₀ := g1) ?pE rfl rfl rfl ?_ (fun _ => rfl)
    case pE => passes_own
    w_strict k_steps
    refine Hold.in (exI3 _ _ _ ⟨rfl, by assumption, by assumption, ?_⟩)
    intro J oJ tJ hJ tkJ hO FJ NJ lJ
    have KJ := Hold.in lJ
    k_lt lJ
    k_with "exec For" => (refine Hold.out ?rF2)
    w_strict k_steps
    case rF2 =>
      refine Hold.in ?_
      refine for_rng0 (h₀ := g1) ?pE rfl ?_ (fun _ => rfl)
      case pE => passes_own
      w_strict k_steps
      rename News _ _ _ _ => NX
      rename Fr _ _ _ _ => FX
      rename IsRange _ _ _ _ _ _ _ _ => IR
      refine Hold.in (exI9 _ _ _ _ _ _ _ _ _ ⟨rfl, IR, small_dn0 rfl, size_dn0 rfl, FX, NX, ?_⟩)
      intro hR FR NR
      w_strict k_steps
      rename News _ _ _ _ => NY
      rename Fr _ _ _ _ => FY
      refine Hold.in ⟨_, _, FY, NY, fun p hp => Nat.ne_of_lt (KJ.out p hp), ?_⟩
      intro hZ FZ NZ
      w_strict k_steps
      rename News g1 _ _ _ => NQ
      exact hret _ _ _ _ ⟨rfl, ⟨_, _, news_at NQ (by k_mem), fresh_of GS1 NQ (List.Mem.head _) (by walk_at "mine fr"), news_at NQ (List.Mem.head _)⟩, tri_at NQ (by k_mem) (by assumption), tri_at NQ (by k_mem) (by assumption)⟩ (by assumption) (kept_mut [x, 169, 176] N GS1 (Fr.keep (by assumption)) (sub_out NQ (by walk_at "mine out"))) (by assumption)
end Mine
end
section
open PySem PySem.W PyProof.Rows PySem.Builtin
set_option Elab.async false
set_option maxRecDepth 100000
set_option maxHeartbeats 8000000
set_option pp.deepTerms false
set_option pp.deepTerms.threshold 6
set_option pp.maxSteps 3000
set_option pp.proofs false
namespace Mine
theorem rows_VF6_1 : True := by
  k_with_none
  w_top off
  k_with "k_ne" => (first | with_reducible exact Off.ne (by assumption) | with_reducible exact Off.ne' (by assumption) | exact news_neB (by assumption) (by k_mem) (by k_mem) rfl | exact OffAll.pick (by assumption) (by k_mem) | exact OffAll.pick' (by assumption) (by k_mem) | (refine neN ?_; (try dsimp only); omega))
  k_with "mine enter" => (k_dflt (refine' code_defG ?k1 ?k2 ?k3 ?k4 ?k5 ?kA ?kF ?kK ?k6 ?k7 ?k8 ?k9 ?kB ?_ ?c2 ?c3 ?c4 ?c5; (case kA => exact rfl); (case kF => exact rfl); (case kK => assumption); (case k1 => k_asm); (case k2 => k_asm); (case k3 => k_asm); (case k4 => k_asm); (case k5 => k_asm); (case k6 => k_is); (case k7 => k_is); (case k8 => first | exact room0 (by assumption) | ktr_room); (case k9 => first | exact BindsTo.of_eq rfl | exact binds_K (by k_in) rfl (by k_is) rfl rfl rfl); (case c5 => decide); (case kB => exact locs rfl); (case c2 => exact rfl); (case c3 => exact rfl); (case c4 => exact rfl); k_whole; intro _ _ _ _ _ _ B' _ _ _; (try dsimp only); (try k_lift B'); (try k_fold)))
  k_with "getMethod ref" => (k_here; k_dflt (refine' ka_method ?k1 ?k2 ?k3 ?k4 ?k5 ?k6 ?k7 ?k8 ?_; (case k1 => k_asm); (case k2 => k_asm); (case k3 => k_asm); (case k4 => k_mem); (case k5 => k_mem); (case k6 => k_is); (case k7 => kernel_rfl); (case k8 => exact rfl); k_whole))
  k_with "compareOp NotEq ref ref" => (k_here; k_dflt (refine' ka_ne_pair ?k1 ?k2 ?k3 ?k4 ?k5 ?_; (case k1 => k_asm); (case k2 => k_mem); (case k3 => k_mem); (case k4 => ktr_units); (case k5 => assumption); k_whole))
  k_with "getAttr ref" => (k_here; (with_reducible show wpAny _ _ (getAttr (Value.ref _) (PySem.Str.ofString "push") _) _ _ _); k_dflt (refine' ka_getFn (f := 151) ?k1 ?k2 ?k3 ?k4 ?k5 ?k6 ?k7 ?_; (case k1 => k_asm); (case k2 => k_asm); (case k3 => k_asm); (case k4 => k_mem); (case k5 => k_mem); (case k6 => kernel_rfl); (case k7 => kernel_rfl); k_whole); intro _ _ _ _ l1; (try k_lt l1))
  k_with "callWith ref" => (k_here; (with_reducible show wpAny _ _ (callWith _ (Value.ref _) _ (backTo _ (starEach [Expr.Starred _ _] _)) []) _ _ _); k_dflt (refine' callWith_SP ?k1 ?k2 ?_ ?k3; (case k1 => k_asm); (case k2 => k_mem); (case k3 => exact rfl); k_whole))
  k_with "eval Call Attribute" => (k_here; (with_reducible show wpAny _ _ (PySem.eval (Expr.Call _ [Expr.Starred _ _] _ _) _) _ _ _); k_dflt (refine' star_call ?_ ?k1; (case k1 => exact rfl); k_whole))
  k_with "mine base" => (first | exact tb_nil | (refine tb_cls rfl ?zb; (case zb => walk_at "mine base")) | (refine tb_ref (by assumption) ?zb; (case zb => walk_at "mine base")))
  k_with "mine out" => (first | exact so_nil | (refine so_fp ?za ?zb; (case za => k_mem); (case zb => walk_at "mine out")) | (refine so_in ?za ?zb; (case za => k_mem); (case zb => walk_at "mine out")))
  k_with "mine sub" => (first | exact sub_nil | (refine sub_cons ?za ?zb; (case za => k_mem); (case zb => walk_at "mine sub")))
  k_with "mine cl" => ((case fB => k_asm); (case fF => k_asm); (case fX => k_asm); (case fN => k_asm); (case fT => k_asm); (case fk => exact rfl); (case fd => first | exact room_le (by assumption) rfl | ktr_room); (case fu => first | exact room_le (by assumption) rfl | ktr_units); (try case fG => k_asm); (try case m0 => k_mem); (try case m1 => k_mem); (try case m2 => k_mem); (try case m3 => k_mem); (try case fU => walk_at "mine upd"); (try case fV => walk_at "mine upd"); (try case u1 => walk_at "mine upd"); (try case u2 => walk_at "mine upd"); (try case u3 => walk_at "mine upd"); (try case u4 => walk_at "mine upd"); (try case u5 => walk_at "mine upd"); (try case m4 => k_mem); (try case m5 => k_mem); (try case m6 => k_mem); (try case fP => walk_at "mine tups"))
  k_with "mine upd" => (first | k_upd | (intro _; walk_at "mine upd"))
  k_with "mine tups" => (first | exact TupsAt.keeps (by assumption) (fun b f tf p tp e => Fr.keep (by assumption) _ _ e) | exact tups_push (by assumption) (by assumption) (by assumption) (by k_mem))
  k_with "mine x" => (first | assumption | omega | (rw [Array.size_push]; omega) | (simp; omega) | (simp; done))
  k_with "call ref" => (k_here; k_dflt (refine' pushC_use ?fB ?fF ?fX ?fN ?fT ?fk ?fd ?fu ?m0 ?m4 ?x1 ?fU ?_; walk_at "mine cl"; (case x1 => walk_at "mine x"); k_whole); intro _ _ _ _ _ _ _; (try k_sweep); (try dsimp only); (try k_fold))
  k_with "getAttr ref" => (k_here; (with_reducible show wpAny _ _ (getAttr (Value.ref _) (PySem.Str.ofString "_initial_size") _) _ _ _); k_dflt (refine' ka_getIS ?k1 ?k2 ?k3 ?k4 ?k5 ?k6 ?_; (case k1 => k_asm); (case k2 => k_asm); (case k3 => k_asm); (case k4 => k_mem); (case k5 => k_mem); (case k6 => first | rfl | assumption); k_whole))
  k_with "subscriptTail" => (k_here; (with_reducible show wpAny _ _ (subscriptTail _ _ (Value.ref _) (Value.int _ _)) _ _ _); k_dflt (refine' ka_tailInt ?k1 ?k2 ?k3 ?k4 ?k5 ?k6 ?k7 ?_ ?kb ?kc; (case k1 => k_asm); (case k2 => k_asm); (case k3 => k_asm); (case k4 => k_mem); (case k5 => first | omega | (rw [Array.size_push]; omega)); (case k6 => first | omega | (rw [Array.size_push]; omega)); (case k7 => first | assumption | apply_assumption); (case kb => with_unfolding_all rfl); (case kc => intro _; with_unfolding_all rfl); k_whole))
  k_with "call ref" => (k_here; k_dflt (refine' len_use ?fB ?fF ?fX ?fN ?fT ?fk ?fd ?fu ?fG ?m1 ?m2 ?fP ?x1 ?x2 ?fU ?_; walk_at "mine cl"; (case x1 => walk_at "mine x"); (case x2 => walk_at "mine x"); k_whole); intro _ _ _ _ _ _ _ _ _; (try k_sweep); (try dsimp only); (try k_fold))
  k_with "call ref" => (k_here; k_dflt (refine' str_use ?fB ?fF ?fX ?fN ?fT ?fk ?fd ?fu ?fG ?m1 ?m2 ?fP ?x1 ?x2 ?x3 ?fU ?_; walk_at "mine cl"; (case x1 => walk_at "mine x"); (case x2 => walk_at "mine x"); (case x3 => walk_at "mine x"); k_whole); intro _ _ _ _ _ _ _ _ _; (try k_sweep); (try dsimp only); (try k_fold))
  k_with "call ref" => (k_here; k_dflt (refine' ws_use ?fB ?fF ?fX ?fN ?fT ?fk ?fd ?fu ?fG ?m1 ?m2 ?m3 ?fP ?x1 ?x2 ?x3 ?x4 ?x5 ?x6 ?x7 ?fU ?fV ?_; walk_at "mine cl"; (case x1 => walk_at "mine x"); (case x2 => walk_at "mine x"); (case x3 => walk_at "mine x"); (case x4 => walk_at "mine x"); (case x5 => walk_at "mine x"); (case x6 => walk_at "mine x"); (case x7 => walk_at "mine x"); k_whole); intro _ _ _ _ _ _ _ _ _ _; (try k_sweep); (try dsimp only); (try k_fold))
  k_with "call ref" => (k_here; k_dflt (refine' push_use ?fB ?fF ?fX ?fN ?fT ?fk ?fd ?fu ?m4 ?x1 ?fU ?_; walk_at "mine cl"; (case x1 => walk_at "mine x"); k_whole); intro _ _ _ _ _ _ _; (try k_sweep); (try dsimp only); (try k_fold))
  k_with "call ref" => (k_here; k_dflt (refine' pop_use ?fB ?fF ?fX ?fN ?fT ?fk ?fd ?fu ?m4 ?x1 ?fU ?_; walk_at "mine cl"; (case x1 => walk_at "mine x"); k_whole); intro _ _ _ _; (try k_sweep); (try dsimp only); (try k_fold))
  k_with "call ref" => (k_here; k_dflt (refine' popnil_use ?fB ?fF ?fX ?fN ?fT ?fk ?fd ?fu ?m0 ?m1 ?_; walk_at "mine cl"; k_whole); intro _ _ _ _ _ _ _ _ _; (try k_sweep); (try dsimp only); (try k_fold))
  k_with "call ref" => (k_here; k_dflt (refine' reset_use ?fB ?fF ?fX ?fN ?fT ?fk ?fd ?fu ?m4 ?x1 ?fU ?fV ?_; walk_at "mine cl"; (case x1 => walk_at "mine x"); k_whole); intro _ _ _ _ _ _ _; (try k_sweep); (try dsimp only); (try k_fold))
  k_with "call ref" => (k_here; k_dflt (refine' reset1_use ?fB ?fF ?fX ?fN ?fT ?fk ?fd ?fu ?m0 ?m4 ?fU ?fV ?x1 ?x2 ?_; walk_at "mine cl"; (case x1 => walk_at "mine x"); (case x2 => walk_at "mine x"); k_whole); intro _ _ _ _ _ _; (try k_sweep); (try dsimp only); (try k_fold))
  k_with "call ref" => (k_here; k_dflt (refine' poplast_use ?fB ?fF ?fX ?fN ?fT ?fk ?fd ?fu ?m4 ?x1 ?fU ?_; walk_at "mine cl"; (case x1 => walk_at "mine x"); k_whole); intro _ _ _ _ _ _ _ _; (try k_sweep); (try dsimp only); (try k_fold))
  k_with "call ref" => (k_here; k_dflt (refine' count_use ?fB ?fF ?fX ?fN ?fT ?fk ?fd ?fu ?m0 ?m1 ?_; walk_at "mine cl"; k_whole); intro _ _ _ _ _; (try k_sweep); (try dsimp only); (try k_fold))
  k_with "truthy ref" => (k_here; k_dflt (refine' ka_truthy ?k1 ?k2 ?k3 ?k4 ?k5 ?_; (case k1 => k_asm); (case k2 => k_asm); (case k3 => k_asm); (case k4 => k_mem); (case k5 => k_mem); k_whole))
  k_with "call type:str" => (k_here; k_dflt (refine' kso_call ?k1 ?k2 (acc_inst (news_at ?k3 ?k4) (news_at ?k5 ?k6)) ?k7 ?k8 ?_; (case k1 => ktr_units); (case k2 => k_in); (case k3 => k_asm); (case k4 => k_mem); (case k5 => k_asm); (case k6 => k_mem); (case k7 => k_is); (case k8 => k_is); k_whole))
  k_with "StrBack" => (dsimp only [W.StrBack])
  k_with "call builtin:len" => (k_here; k_dflt (refine' ka_len2 ?k1 ?k2 ?k3 ?k4 ?k5 ?_; (case k1 => k_asm); (case k2 => k_asm); (case k3 => k_asm); (case k4 => k_mem); (case k5 => k_mem); k_whole))
  k_with "LenBack" => (k_dflt (refine ⟨⟨by omega, by omega⟩, ?_⟩))
  k_with "call ref" => (k_here; k_dflt (refine' nlpos_use ?fB ?fF ?fX ?fN ?fT ?fk ?fd ?fu ?fG ?m0 ?m1 ?m2 ?u1 ?u2 ?u3 ?u4 ?u5 ?m4 ?m5 ?m6 ?x1 ?x2 ?x3 ?x4 ?x5 ?_; walk_at "mine cl"; (case x1 => walk_at "mine x"); (case x2 => walk_at "mine x"); (case x3 => walk_at "mine x"); (case x4 => walk_at "mine x"); (case x5 => walk_at "mine x"); k_whole); intro _ _ _ _ _ _ _ _ _ _ _ _ _ _ _; (try k_sweep); (try dsimp only); (try k_fold))
  k_with "mine fr" => (first | exact fr_nil | (refine fr_cons ?za ?zb; (case za => (first | k_ne | omega | (dsimp only; omega))); (case zb => walk_at "mine fr")))
  k_with "execs cons" => ((with_reducible refine wpAny_execs_cons ?_); (try dsimp only); (try (refine tk_any ?_; intro _)); (try k_fold))
  trivial
theorem apB1_cl (w : World) (mean : ExcName → Option Value) (mg mb : Str → Option Value) (r dr ll x dx : Addr) (a1 a2 a3 a4 a5 a6 tM tc tl ts : Tok) (M : Int) (kd kl n k : Nat) (lns ps qs : Array Value) (kt tz tf tp : Tok) (z : Int) (p : Str) (htr : TriplesOk ps.toList) (hts : TriplesOk qs.toList) (hn : (([] : List (Str × Str)) ++ [(Str.ofString "", p)]).length ≤ 100) (hln : lns.size ≤ 100) (hLs : ∀ q ∈ ([] : List (Str × Str)) ++ [(Str.ofString "", p)], q.1.length ≤ 1000 ∧ q.2.length ≤ 1000)
  (hz0 : 0 ≤ z) (hz1 : z ≤ 1000) (hz : 0 < z) (hM : M < z + totL ([] ++ [(Str.ofString "", p)])) (hM0 : 0 ≤ M) :
  ROG w mean mg mb 120 [ll, x, dx, 169, 176] (fun _ => True) [(r, fvO dr), (dr, fvD w a1 a2 a3 a4 a5 a6 M tM tc tl ts ll x kd), (ll, lstO lns kl), (x, accO dx #[] n), (dx, iniO w kt (.int z tz) k), (169, tabObj ps), (176, tabObj qs)] [.ref r, .str (Str.ofString "") tf, .str p tp]
    (fun h v h' => v = .none ∧ (∃ T n' kl' k' t' u' tf', h'.get? ll = some (lstO (lns.push (.str (Str.ofString "") u')) kl') ∧ h'.get? x = some (accO dx ((#[] : Array Value).push (.ref T)) n') ∧ h'.get? dx = some (iniO w kt (.int 0 t') k') ∧ h.get? T = none ∧ h'.get? T = some (tup2 (Str.ofString " ") tf' p tp)) ∧ (∃ ps', TriplesOk ps'.toList ∧ h'.get? 169 = some (tabObj ps')) ∧ (∃ qs', TriplesOk qs'.toList ∧ h'.get? 176 = some (tabObj qs'))) 120 1200 := by
  delta ROG PR; k_fill
  intro dp un gd cn cs a ccd cl outer A₀ base h₀ L m s Q E B F KX N T' hk HP G hdp hun hret
  have o7 := off7 N
  have n1 := o7.n1
  have n2 := o7.n2
  have n3 := o7.n3
  have n4 := o7.n4
  have n5 := o7.n5
  have n6 := o7.n6
  have n7 := o7.n7
  have n8 := o7.n8
  have n9 := o7.n9
  have m1 := o7.m1
  have m2 := o7.m2
  have m3 := o7.m3
  have m4 := o7.m4
  have m5 := o7.m5
  have m6 := o7.m6
  have m7 := o7.m7
  have m8 := o7.m8
  have m9 := o7.m9
  have m0 := o7.m0
  have htot := totL_le ([] ++ [(Str.ofString "", p)]) hn hLs
  have hsz' : (#[] : Array Value).size ≤ 1000 := Nat.zero_le _
  have hsz : (#[] : Array Value).size < 1000 := by decide
  w_strict (refine wpAny_call ?_; walk_at "mine enter")
  rename_i g1 L1 h1 FG1 F1 N1 X1 T1 GS1
  have HT : TupsAt g1 #[] [] := tups_none _
  have KN := Hold.in N1
  have KF := Hold.in F1
  k_with "exec For" => (refine Hold.out ?rF1)
  w_strict k_steps
  case rF1 =>
    refine Hold.in ?_
    refine for_blank (h₀ := g1) ?pE rfl rfl rfl ?_ (fun _ => rfl)
    case pE => passes_own
    w_strict k_steps
    refine Hold.in (exI3 _ _ _ ⟨rfl, by assumption, by assumption, ?_⟩)
    intro J oJ tJ hJ tkJ hO FJ NJ lJ
    have KJ := Hold.in lJ
    k_lt lJ
    k_with "exec For" => (refine Hold.out ?rF2)
    w_strict k_steps
    case rF2 =>
      refine Hold.in ?_
      refine for_rng0 (h₀ := g1) ?pE rfl ?_ (fun _ => rfl)
      case pE => passes_own
      w_strict k_steps
      rename News _ _ _ _ => NX
      rename Fr _ _ _ _ => FX
      rename IsRange _ _ _ _ _ _ _ _ => IR
      refine Hold.in (exI9 _ _ _ _ _ _ _ _ _ ⟨rfl, IR, small_dn0 rfl, size_dn0 rfl, FX, NX, ?_⟩)
      intro hR FR NR
      w_strict k_steps
      rename News _ _ _ _ => NY
      rename Fr _ _ _ _ => FY
      refine Hold.in ⟨_, _, FY, NY, fun p hp => Nat.ne_of_lt (KJ.out p hp), ?_⟩
      intro hZ FZ NZ
      w_strict k_steps
      rename News g1 _ _ _ => NQ
      exact hret _ _ _ _ ⟨rfl, (exI7 _ _ _ _ _ _ _ ⟨news_at NQ (by k_mem), news_at NQ (by k_mem), news_at NQ (by k_mem), fresh_of GS1 NQ (List.Mem.head _) (by walk_at "mine fr"), news_at NQ (List.Mem.head _)⟩), tri_at NQ (by k_mem) (by assumption), tri_at NQ (by k_mem) (by assumption)⟩ (by assumption) (kept_mut [ll, x, dx, 169, 176] N GS1 (Fr.keep (by assumption)) (sub_out NQ (by walk_at "mine out"))) (by assumption)
end Mine
end
section
open PySem PySem.W PySem.Calls PyProof.Rows PySem.Builtin
set_option Elab.async false
set_option maxRecDepth 100000
namespace Mine
section
variable {M : Model} {A : Around} {E : Value → Shared → Prop} {s : Shared}
theorem wpAny_reDrive {Q : Sre.M → Shared → Prop} : ∀ (turns k : Nat) (m : Sre.M), k ≤ 4 * turns + 4 → (stepN k m).outcome.isSome = true → Q (stepN k m) s → wpAny M A (Re.reDrive (turns + 1) m) Q E s
  | turns, k, m, hk, ho, hQ => by
    show wpAny M A (if (m.runFor 4).outcome.isSome = true then pure (m.runFor 4) else (rule "sre.turn" >>= fun _ => Re.reDrive turns (m.runFor 4))) Q E s
    rw [runFor_eq]
    by_cases h4 : (stepN 4 m).outcome.isSome = true
    · rw [if_pos h4]
      refine wpAny_pure ?_
      have e : stepN k m = stepN 4 m := by
        rcases Nat.le_total k 4 with hh | hh
        · obtain ⟨c, hc⟩ := Nat.exists_eq_add_of_le hh
          rw [hc, stepN_add, stepN_done ho]
        · obtain ⟨c, hc⟩ := Nat.exists_eq_add_of_le hh
          rw [hc, stepN_add, stepN_done h4]
      rw [← e]; exact hQ
    · rw [if_neg h4]
      have h5 : 4 < k := by
        rcases Nat.lt_or_ge 4 k with hh | hh
        · exact hh
        · obtain ⟨c, hc⟩ := Nat.exists_eq_add_of_le hh
          exact absurd (by rw [hc, stepN_add, stepN_done ho]; exact ho) h4
      obtain ⟨c, hc⟩ := Nat.exists_eq_add_of_le (Nat.le_of_lt h5)
      rw [hc, stepN_add] at ho hQ
      refine wpAny_bind (wpAny_rule ?_)
      match turns, hk with
      | 0, hk => omega
      | t + 1, hk => exact wpAny_reDrive t c _ (by omega) ho hQ
theorem wpAny_runToEnd {Q : Option Sre.M → Shared → Prop} {k : Nat} {m : Sre.M} (hk : k ≤ 1000000) (h : (stepN k m).outcome = some .matched ∧ Q (some (stepN k m)) s ∨ (stepN k m).outcome = some .failed ∧ Q none s) : wpAny M A (Re.reRunToEnd m) Q E s := by
  have ho : (stepN k m).outcome.isSome = true := by rcases h with h | h <;> rw [h.1] <;> rfl
  unfold Re.reRunToEnd
  rw [show (2 : Nat) ^ 64 = (2 ^ 64 - 1) + 1 from by decide]
  refine wpAny_bind (wpAny_reDrive _ k m (by omega) ho ?_)
  refine wpAny_bind ?_
  refine wpAny_forIn_list _ (fun _ _ s' => s' = s) _ (fun x rest b s₁ e => ?_) (fun b s₁ e => ?_) _ _ rfl
  · subst e
    split
    · exact wpAny_bind (wpAny_rule (wpAny_pure rfl))
    · exact wpAny_pure rfl
  · subst e
    rcases h with h | h <;> rw [h.1] <;> exact wpAny_pure h.2
end
section
variable {w : World} {A : Around} {E : Value → Shared → Prop} {s : Shared}
noncomputable def patO : Obj := { cls := .type "re.Pattern", data := .fields #[.str (Str.ofString "([ \t]+)") 304, .int 32 329, .int 1 0, .none, .none, .ref 49, .int 0 0] }
theorem pat_at {h : Heap} (X : (hd.heap_1 w.params).In h) : h.get? 50 = some patO := X _ _ (by with_unfolding_all rfl)
noncomputable def codeOf (o : Obj) : Option (Array Nat) := match o.data with | .seq items _ => some ((items.map Re.reRawOf).map Int.toNat) | _ => none
theorem code_at {h : Heap} (X : (hd.heap_1 w.params).In h) : ∃ o items n, h.get? 49 = some o ∧ o.data = .seq items n ∧ (items.map Re.reRawOf).map Int.toNat = reC := by
  have e : ((hd.heap_1 w.params).lookup 49).bind codeOf = some reC := by kernel_rfl
  obtain ⟨o, ho, hc⟩ := Option.bind_eq_some_iff.mp e
  unfold codeOf at hc
  split at hc
  · rename_i items n hd'
    exact ⟨o, items, n, X _ _ ho, hd', Option.some.inj hc⟩
  · cases hc
noncomputable def joinW (w : List Nat) : List (List Nat) → List Nat
  | [] => w
  | v :: vs => w ++ 32 :: joinW v vs
noncomputable def pcs (w : List Nat) : List (List Nat) → List (List Nat)
  | [] => [w]
  | v :: vs => w :: [32] :: pcs v vs
inductive StrVals : List Value → List (List Nat) → Prop
  | nil : StrVals [] []
  | cons {v : Value} {x : List Nat} {vs : List Value} {l : List (List Nat)} (h : ∃ t, v = .str ⟨x.toArray⟩ t) (t : StrVals vs l) : StrVals (v :: vs) (x :: l)
theorem StrVals.app {a b : List Value} {c d : List (List Nat)} (h1 : StrVals a c) (h2 : StrVals b d) : StrVals (a ++ b) (c ++ d) := by
  induction h1 with
  | nil => exact h2
  | cons p _ ih => exact .cons p ih
noncomputable def NoBl (w : List Nat) : Prop := ∀ c ∈ w, c ≠ 32 ∧ c ≠ 9
theorem StrVals.len {a : List Value} {c : List (List Nat)} (h : StrVals a c) : a.length = c.length := by
  induction h with
  | nil => rfl
  | cons p _ ih => simp [ih]
theorem joinW_len : ∀ (ws : List (List Nat)) (w : List Nat), ws.length ≤ (joinW w ws).length := by
  intro ws
  induction ws with
  | nil => intro w; simp
  | cons v vs ih => intro w; have := ih v; simp [joinW]; omega
theorem pcs_len : ∀ (ws : List (List Nat)) (w : List Nat), (pcs w ws).length = 2 * ws.length + 1 := by
  intro ws
  induction ws with
  | nil => intro w; rfl
  | cons v vs ih => intro w; simp [pcs, ih]; omega
theorem getD_l (T : Array Nat) (j : Nat) : T.getD j 0 = T.toList.getD j 0 := by
  simp [Array.getD, List.getD]
  split <;> simp_all
theorem word_chars {T : Array Nat} {pre w rest : List Nat} (e : T.toList = pre ++ w ++ rest) (h : NoBl w) : ∀ j, pre.length ≤ j → j < pre.length + w.length → T.getD j 0 ≠ 32 ∧ T.getD j 0 ≠ 9 := by
  intro j h1 h2
  have hl : j - pre.length < w.length := by omega
  have e2 : T.getD j 0 = w[j - pre.length] := by
    rw [getD_l, e, List.append_assoc, List.getD_eq_getElem?_getD, List.getElem?_append_right h1, List.getElem?_append_left hl, List.getElem?_eq_getElem hl]
    rfl
  rw [e2]
  exact h _ (List.getElem_mem hl)
theorem char_at {T : Array Nat} {pre rest : List Nat} {c : Nat} (e : T.toList = pre ++ c :: rest) : T.getD pre.length 0 = c := by
  rw [getD_l, e]; simp
theorem extract_l {T : Array Nat} {pre w rest : List Nat} (e : T.toList = pre ++ w ++ rest) : T.extract pre.length (pre.length + w.length) = w.toArray := by
  apply Array.ext'
  simp [e]
theorem split_body {tx : Str} {tk : Tok} {Q : Value → Shared → Prop} (X : (hd.heap_1 w.params).In s.heap) {w0 : List Nat} {ws0 : List (List Nat)} (htx : tx.cps.toList = joinW w0 ws0) (hl : tx.cps.size ≤ 1000) (hw0 : NoBl w0) (hws0 : ∀ v ∈ ws0, v ≠ [] ∧ NoBl v)
    (hQ : ∀ (vs : List Value) k, StrVals vs (pcs w0 ws0) → Q (.ref s.heap.objs.size) { s with heap := s.heap.push { cls := .type "list", data := .seq vs.toArray }, toks := k }) :
    wpAny (model PR w) A (Builtin.«re.Pattern.split» ⟨[.ref 50, .str tx tk], []⟩) (fun fin s' => ∃ v, fin = .done (.ret v) ∧ Q v s') E s := by
  unfold Builtin.«re.Pattern.split»
  refine wpAny_bind (wpAny_of_eq (a := [some (.str tx tk), none]) rfl ?_)
  refine wpAny_bind (wpAny_pure ?_)
  obtain ⟨o49, items, n49, g49, d49, hcode⟩ := code_at X
  have hT : ∀ {Q' : Re.ReTarget → Shared → Prop}, Q' { pattern := .ref 50, string := .str tx tk, code := reC, text := tx.cps, kind := 0, groups := 1, pos := 0, lim := tx.cps.size } s → wpAny (model PR w) A (Re.reWholeTarget (.ref 50) (.str tx tk)) Q' E s := by
    intro Q' hq
    unfold Re.reWholeTarget
    refine wpAny_bind (wpAny_fieldsOf (pat_at X) rfl ?_)
    refine wpAny_bind (wpAny_of_eq (a := (tx.cps, 0)) rfl ?_)
    refine wpAny_bind (wpAny_of_eq (a := ()) rfl ?_)
    refine wpAny_bind (m := Re.reRawItems _) ?_
    unfold Re.reRawItems
    refine wpAny_bind (wpAny_seqItems g49 d49 (wpAny_pure ?_))
    rw [show (some items).getD #[] = items from rfl, hcode]
    exact wpAny_pure hq
  refine wpAny_bind (hT ?_)
  have htl : tx.cps.toList.length ≤ 1000 := by simpa using hl
  have hmk : ∀ {a b : Nat} {Q' : Value → Shared → Prop} {s' : Shared}, Q' (.str ⟨tx.cps.extract a b⟩ s'.toks) { s' with toks := s'.toks + 1 } → wpAny (model PR w) A (Re.reSlice tx.cps 0 a b) Q' E s' := by
    intro a b Q' s' hq
    show wpAny (model PR w) A (mkStr ⟨tx.cps.extract a b⟩) Q' E s'
    refine wpAny_mkStr hq ?_
    show (tx.cps.extract a b).size ≤ sizeLine
    rw [PySem.sizeLine_eq]; simp; omega
  refine wpAny_bind (m := forIn _ _ _) ?_
  refine wpAny_forIn_list _ (fun rest b s' => (∃ k, s' = { s with toks := k }) ∧ b.2.1 = b.2.2.1 ∧
    ((b.2.2.2.2.2 = false ∧ ∃ pre done w ws, tx.cps.toList = pre ++ joinW w ws ∧ pre.length = b.2.1 ∧ NoBl w ∧ (∀ v ∈ ws, v ≠ [] ∧ NoBl v) ∧ StrVals b.1.toList done ∧ done ++ pcs w ws = pcs w0 ws0 ∧ ws.length < rest.length) ∨
     (b.2.2.2.2.2 = true ∧ ∃ pre done w, tx.cps.toList = pre ++ w ∧ pre.length = b.2.1 ∧ StrVals b.1.toList done ∧ done ++ [w] = pcs w0 ws0))) _ ?_ ?_ _ _ ?_
  · rintro x rest ⟨out, start, last, must, n, over⟩ s' H
    refine andE3 H fun q1 e1 h => Exists.elim q1 fun k es => ?_
    clear H q1
    subst es
    refine h.elim (fun h => ?_) fun h => ?_
    · refine andE2 h fun ho q => exE4 q fun pre done w' ws q2 => andE7 q2 fun et el hw hws hv hp hlen => ?_
      clear h q q2
      dsimp only at e1 ho el hv
      subst e1 ho el
      dsimp only
      rw [if_pos (by decide), if_neg (by simp)]
      refine wpAny_bind (m := Re.reNextFound _ _ _) ?_
      unfold Re.reNextFound
      cases ws with
      | nil =>
        have hd' : pre.length + w'.length = tx.cps.size := by
          have := congrArg List.length et
          simpa [joinW] using this.symm
        have hse := search_end (T := tx.cps) (s := pre.length) (d := w'.length) (must := must) hd' (word_chars (rest := []) (by simpa [joinW] using et) hw)
        refine wpAny_runToEnd (k := 3 * w'.length + 4) (by omega) (.inr ⟨hse, ?_⟩)
        refine wpAny_pure ⟨⟨k, rfl⟩, rfl, .inr ⟨rfl, pre, done, w', et, rfl, hv, by simpa [pcs] using hp⟩⟩
      | cons v vs =>
        have et' : tx.cps.toList = pre ++ w' ++ 32 :: joinW v vs := by rw [et]; simp [joinW]
        have hsz := congrArg List.length et'
        simp at hsz
        have hc0 : tx.cps.getD (pre.length + w'.length) 0 = 32 := by
          have := char_at (pre := pre ++ w') et'
          simpa using this
        have hvn := (hws v (List.mem_cons_self ..)).1
        have hvb := (hws v (List.mem_cons_self ..)).2
        obtain ⟨c, v', rfl⟩ : ∃ c v', v = c :: v' := List.exists_cons_of_ne_nil hvn
        have hj : ∃ r, joinW (c :: v') vs = c :: r := by cases vs <;> exact ⟨_, rfl⟩
        refine Exists.elim hj fun r hj => ?_
        have hc1 : tx.cps.getD (pre.length + w'.length + 1) 0 = c := by
          have := char_at (T := tx.cps) (pre := pre ++ w' ++ [32]) (c := c) (rest := r) (by rw [et', hj]; simp)
          simpa [Nat.add_assoc] using this
        have hf := search_hit (T := tx.cps) (s := pre.length) (d := w'.length) (must := must) (by omega) (word_chars et' hw) hc0 (by rw [hc1]; exact hvb c (List.mem_cons_self ..))
        refine wpAny_runToEnd (k := 3 * w'.length + 7) (by omega) (.inl ⟨hf.out, ?_⟩)
        generalize stepN (3 * w'.length + 7) (Sre.forSearch reC tx.cps 1 pre.length tx.cps.size must) = m at hf
        dsimp only
        rw [hf.start, hf.handed]
        refine wpAny_bind (hmk ?_)
        rw [extract_l et']
        refine wpAny_bind (m := forIn _ _ _) ?_
        rw [show List.range 1 = [0] from rfl, List.forIn_cons]
        refine wpAny_bind (wpAny_bind ?_)
        have hg : Re.reMachineGroup { pattern := Value.ref 50, string := Value.str tx tk, code := reC, text := tx.cps, kind := 0, groups := 1, pos := 0, lim := tx.cps.size } m (0 + 1) (pure Value.none) = Re.reSlice tx.cps 0 (pre.length + w'.length) (pre.length + w'.length + 1) := by
          unfold Re.reMachineGroup
          rw [hf.last, if_neg (by decide)]
          rw [show 2 * (0 + 1 - 1) = 0 from rfl, show 0 + 1 = 1 from rfl, hf.m0, hf.m1]
          dsimp only
          rw [if_neg (by omega)]
        rw [hg]
        refine hmk ?_
        have ex1 := extract_l (T := tx.cps) (pre := pre ++ w') (w := [32]) (rest := joinW (c :: v') vs) (by rw [et']; simp)
        rw [List.length_append] at ex1
        rw [show [32].length = 1 from rfl] at ex1
        rw [ex1]
        refine wpAny_pure ?_
        dsimp only
        rw [List.forIn_nil]
        refine wpAny_pure (wpAny_pure ⟨⟨_, rfl⟩, rfl, .inl ⟨rfl, pre ++ w' ++ [32], done ++ [w', [32]], c :: v', vs, by rw [et']; simp, by simp; omega, hvb, fun u hu => hws u (List.mem_cons_of_mem _ hu), ?_, by rw [← hp]; simp [pcs], by simpa using hlen⟩⟩)
        show StrVals ((out.push _).push _).toList _
        simp only [Array.toList_push, List.append_assoc]
        exact StrVals.app hv (.cons ⟨_, rfl⟩ (.cons ⟨_, rfl⟩ .nil))
    · have ho := h.1
      replace h := h.2
      dsimp only at ho
      subst ho
      dsimp only
      rw [if_neg (by decide)]
      exact wpAny_pure ⟨⟨k, rfl⟩, e1, .inr ⟨rfl, h⟩⟩
  · rintro ⟨out, start, last, must, n, over⟩ s' H
    refine andE3 H fun q1 e1 h => Exists.elim q1 fun k es => ?_
    clear H q1
    subst es
    refine h.elim (fun h => ?_) fun h => ?_
    · exact exE4 h.2 fun _ _ _ _ q => andE7 q fun _ _ _ _ _ _ hlen => absurd hlen (Nat.not_lt_zero _)
    · refine andE2 h fun ho q => exE3 q fun pre done w' q2 => andE4 q2 fun et el hv hp => ?_
      clear h q q2
      dsimp only at e1 ho el hv
      subst e1 ho el
      dsimp only
      rw [if_neg (by decide)]
      refine wpAny_bind (hmk ?_)
      have hsz := congrArg List.length et
      simp at hsz
      rw [show tx.cps.extract pre.length tx.cps.size = w'.toArray by rw [hsz]; exact extract_l (rest := []) (by simpa using et)]
      have hj0 := joinW_len ws0 w0
      rw [← htx] at hj0
      have hpl := congrArg List.length hp
      rw [pcs_len] at hpl
      simp at hpl
      have hvl := hv.len
      refine wpAny_bind (wpAny_newList (hsz := by rw [PySem.sizeLine_eq]; simp at hvl ⊢; omega) ?_)
      refine wpAny_pure ⟨_, rfl, hQ _ _ ?_⟩
      rw [← hp]
      simp only [Array.toList_push]
      exact StrVals.app hv (.cons ⟨_, rfl⟩ .nil)
  · refine ⟨⟨s.toks, rfl⟩, rfl, .inl ⟨rfl, [], [], w0, ws0, htx, rfl, hw0, hws0, .nil, rfl, ?_⟩⟩
    have := joinW_len ws0 w0
    rw [← htx] at this
    simp [Re.reMostMatches] at this ⊢
    omega
end
end Mine
end
section
open PySem PySem.W PySem.Calls PyProof.Rows PySem.Builtin
set_option Elab.async false
set_option maxRecDepth 100000
namespace Mine
theorem re_attrs : PlainAttrs "re.Pattern" where
  ga := ⟨"object.__getattribute__", by rw [typeLookup_type, builtinLookup_eq_fast]; kernel_rfl, by decide +kernel⟩
  noGetattr := by rw [typeLookup_type, builtinLookup_eq_fast]; kernel_rfl
theorem slot_re_split : Slot "re.Pattern" (Str.ofString "split") "re.Pattern.split" :=
  .of (owner := "re.Pattern") (n := "split") (by rw [typeLookup_type, builtinLookup_eq_fast]; kernel_rfl) (by decide +kernel) (by decide +kernel) (by decide +kernel)
    (by first | exact .inl (by decide +kernel) | exact .inr (by decide +kernel)) (by rw [isSubtype_type]; kernel_rfl)
theorem type_re_split : typeOf (.builtin "re.Pattern.split") = pure (.type "method_descriptor") := by show builtinType _ = _; rw [builtinType_eq_fast]; kernel_rfl
theorem entry_re_split : entryFor table "re.Pattern.split" = some Builtin.«re.Pattern.split» := entryFor_of_tree (by kernel_rfl)
theorem args_re_split (a b : Value) : argsOk "re.Pattern.split" ⟨[a, b], []⟩ := by unfold argsOk; kernel_rfl
section
variable {w : World} {A : Around} {E : Value → Shared → Prop} {s : Shared} {L : Addr} {h₀ : Heap} {m : Str → Option Value} {news : List (Addr × Obj)}
theorem tr_str {x : Str} {t : Tok} {Q : Bool → Shared → Prop} (h0 : 0 < x.length ∧ x.length ≤ 1000) (h : ∀ k, Q true { s with toks := k }) : wpAny (model PR w) A (truthy (.str x t)) Q E s := by
  refine PySem.P.truthy_str (by have := h0.2; omega) ?_
  rw [show ((x.length : Int) != 0) = true by (simp; intro e; have := h0.1; omega)]
  exact h _
theorem tr_nil {x : Str} {t : Tok} {Q : Bool → Shared → Prop} (h0 : x.length = 0) (h : ∀ k, Q false { s with toks := k }) : wpAny (model PR w) A (truthy (.str x t)) Q E s := by
  refine PySem.P.truthy_str (by omega) ?_
  rw [h0]
  exact h _
theorem re_method {pl : Sem Bool} {Q : Value × List Value → Shared → Prop} (F : Fr h₀ L s.heap m) (X₀ : (hd.heap_1 w.params).In h₀) (h : Q (.builtin "re.Pattern.split", [.ref 50]) s) :
    wpAny (model PR w) A (getMethod (.ref 50) (Str.ofString "split") pl) Q E s :=
  getMethod_builtin ⟨_, pat_at (X₀.keeps F.keep), rfl⟩ re_attrs slot_re_split type_re_split (fun a e => by cases e; exact ⟨_, pat_at (X₀.keeps F.keep), rfl⟩) h
noncomputable def pcsT : List (List Nat) → List (List Nat)
  | [] => []
  | v :: vs => [32] :: pcs v vs
theorem pcs_eq (w : List Nat) : ∀ ws, pcs w ws = w :: pcsT ws
  | [] => rfl
  | _ :: _ => rfl
theorem re_split {tx : Str} {tk : Tok} {Q : Value → Shared → Prop} (F : Fr h₀ L s.heap m) (X₀ : (hd.heap_1 w.params).In h₀) (N : News h₀ L s.heap news) {w0 : List Nat} {ws0 : List (List Nat)} (htx : tx.cps.toList = joinW w0 ws0) (hl : tx.cps.size ≤ 1000) (hw0 : NoBl w0) (hws0 : ∀ v ∈ ws0, v ≠ [] ∧ NoBl v)
    (hQ : ∀ q h' t vs k, StrVals vs (pcsT ws0) → Fr h₀ L h' m → News h₀ L h' ((q, lstO (.str ⟨w0.toArray⟩ t :: vs).toArray 0) :: news) → (∀ p ∈ news, p.1 < q) → ((.str ⟨w0.toArray⟩ t :: vs).toArray : Array Value).size ≤ 3000 → Q (.ref q) { s with heap := h', toks := k }) :
    wpAny (model PR w) A (call (.builtin "re.Pattern.split") [.ref 50, .str tx tk]) Q E s := by
  refine wpAny_call_entry slot_re_split ⟨_, pat_at (X₀.keeps F.keep), rfl⟩ entry_re_split (split_body (s := s) (X₀.keeps F.keep) htx hl hw0 hws0 ?_) (args_re_split _ _)
  intro vs k hv
  have hz : vs.toArray.size ≤ 3000 := by
    have h1 := hv.len
    have h2 := joinW_len ws0 w0
    rw [← htx] at h2
    rw [pcs_len] at h1
    simp at h2 ⊢
    omega
  rw [pcs_eq] at hv
  cases hv with
  | cons h t =>
    obtain ⟨tt, rfl⟩ := h
    obtain ⟨F', N', l'⟩ := ks_pushed (o := lstO (.str ⟨w0.toArray⟩ tt :: _).toArray 0) F N rfl
    exact hQ _ _ _ _ _ t F' N' l' hz
end
end Mine
end
section
open PySem PySem.W PySem.Calls PyProof.Rows PySem.Builtin
set_option Elab.async false
set_option maxRecDepth 100000
namespace Mine
section
variable {w : World} {A : Around} {E : Value → Shared → Prop} {s : Shared} {x l L : Addr} {h₀ : Heap} {m : Str → Option Value} {its new : Array Value} {n k : Nat} {news : List (Addr × Obj)} {news' : Nat → List (Addr × Obj)}
/-- x[:0] = new, x and new plain lists -/
theorem lst_front {sl : Addr} {tk : Tok} {Q : Unit → Shared → Prop} (ho : s.heap.get? x = some (lstO its n))
    (hs : s.heap.IsSliceOf sl .none (.int 0 tk) .none) (hl : s.heap.IsList l new) (hxl : x ≠ l) (hsz : its.size ≤ 3000) (hsn : new.size ≤ 1000)
    (h : ∀ h' n', Heap.SameBut x s.heap h' → h'.get? x = some (lstO (new ++ its) n') → Q () { s with heap := h' }) :
    wpAny (model PR w) A (setItem (.ref x) (.ref sl) (.ref l)) Q E s := by
  obtain ⟨os, hos, hcs, hds⟩ := id hs
  obtain ⟨ol, hol, hcl, nl, hdl⟩ := id hl
  have hTs : s.TypeIs (.ref sl) "slice" := ⟨os, hos, hcs⟩
  have hx : s.heap.IsList x its := ⟨_, ho, rfl, _, rfl⟩
  unfold setItem
  refine wpAny_holding (wpAny_bind (wpAny_sequenceKey hx.typeIs (by decide) ?_))
  refine wpAny_bind (wpAny_callSpecial?_slot (name := Str.ofString "__setitem__") hx.typeIs slot_list_setitem
    (wpAny_call_entry slot_list_setitem hx.typeIs entry_list_setitem ?_ (args_list_setitem _ _ _)))
  show wpAny _ _ (Builtin.List.listSubscript? (.ref sl) >>= _) _ _ s
  refine wpAny_bind ?_
  unfold Builtin.List.listSubscript?
  refine wpAny_bind (wpAny_specialOf hTs slice_no_index ?_)
  simp only [Option.isNone_none, if_true]
  refine wpAny_pure ?_
  show wpAny _ _ (typeOf (.ref sl) >>= _) _ _ s
  refine wpAny_bind (wpAny_typeOf hTs ?_)
  rw [if_neg (by decide)]
  rw [listSliceParts_eq]
  refine wpAny_bind (wpAny_bind (wpAny_field hos hds (x := .none) rfl (wpAny_bind (wpAny_listPart .none ?_))))
  rw [if_neg (show ¬ ((rawPart none == rawInt 0) = true) from Bool.false_ne_true)]
  refine wpAny_bind (wpAny_field hos hds (x := .none) rfl (wpAny_bind (wpAny_listPart .none ?_)))
  refine wpAny_bind (wpAny_field hos hds (x := .int 0 tk) rfl (wpAny_bind (wpAny_listPart (.int _ _) (wpAny_pure ?_))))
  rw [show Builtin.List.listSameRef (.ref x) (.ref l) = false from by simpa [Builtin.List.listSameRef] using hxl, if_neg (by decide)]
  refine wpAny_bind (m := Builtin.List.listAllItems (.ref l) _) ?_
  unfold Builtin.List.listAllItems
  refine wpAny_bind (wpAny_typeOf hl.typeIs ?_)
  rw [if_pos (by decide)]
  unfold Builtin.List.listItems
  refine wpAny_bind (wpAny_seqItems hol hdl (wpAny_pure ?_))
  refine wpAny_bind (m := Builtin.List.listItems (.ref x)) ?_
  unfold Builtin.List.listItems
  refine wpAny_bind (wpAny_seqItems ho rfl (wpAny_pure ?_))
  refine wpAny_bind (wpAny_of_eq (sliceIndices_raw none (some 0) none its.size (by simp)) ?_)
  have eb : sliceBounds none (some 0) none its.size = (0, 0, 1) := by simp [sliceBounds]; omega
  rw [eb]
  show wpAny _ _ (if ((1 : Int) == 1) = true then _ else _) _ _ s
  rw [if_pos (by decide)]
  refine wpAny_bind (wpAny_rule ?_)
  rw [if_neg (by unfold Builtin.List.listTooLong; rw [PySem.sizeLine_eq]; simp; omega)]
  refine wpAny_bind ?_
  show wpAny _ _ (updateSeq x _) _ _ s
  have fin : ∀ f : Array Value → Array Value, ∃ n', (Obj.mapSeq f (lstO its n)) = lstO (f its) n' := fun f => ⟨_, rfl⟩
  obtain ⟨n', en⟩ := fin fun xs => xs.extract 0 0 ++ new ++ xs.extract 0 its.size
  refine wpAny_updateSeq ho rfl (wpAny_bind (wpAny_letGo (wpAny_pure ⟨.none, rfl, wpAny_pure (h _ n' (Heap.SameBut.update ..) ?_)⟩))) (by rw [PySem.sizeLine_eq]; omega) ?_
  · rw [Heap.get?_update_self _ ho rfl]
    refine (congrArg some en).trans ?_
    simp
  · rw [PySem.sizeLine_eq]; simp; omega
theorem ks_front {tk : Tok} {Q : Unit → Shared → Prop} (F : Fr h₀ L s.heap m) (N : News h₀ L s.heap news) (hl : (l, lstO new k) ∈ news) (hxl : @Ne Nat x l)
    (U : ∀ n', Upd x (lstO its n) (lstO (new ++ its) n') news (news' n')) (hsz : its.size ≤ 3000) (hsn : new.size ≤ 1000)
    (h : ∀ n' h', Fr h₀ L h' m → News h₀ L h' (news' n') → Q () { s with heap := h' }) :
    wpAny (model PR w) A (setItem (.ref x) (.ref s.heap.objs.size) (.ref l)) Q E { s with heap := s.heap.push { cls := .type "slice", data := .fields #[.none, .int 0 tk, .none] } } := by
  obtain ⟨F', N', l'⟩ := ks_pushed (o := { cls := .type "slice", data := .fields #[.none, .int 0 tk, .none] }) F N rfl
  have N'' : News h₀ L (s.heap.push { cls := .type "slice", data := .fields #[.none, .int 0 tk, .none] }) news := fun p hp => N' p (List.mem_cons_of_mem _ hp)
  have hx := (upd_at N'' (U 0)).1
  refine lst_front (s := { s with heap := s.heap.push { cls := .type "slice", data := .fields #[.none, .int 0 tk, .none] } }) hx (Heap.IsSliceOf.new ..) ⟨_, (N'' _ hl).1, rfl, _, rfl⟩ hxl hsz hsn ?_
  intro h' n' hs hg
  exact h n' h' (upd_fr F' N'' (U n') (keptBut_same hs)) (upd_news N'' (U n') (keptBut_same hs) hg)
end
end Mine
end
section
open PySem PySem.W PySem.Calls PyProof.Rows PySem.Builtin
set_option Elab.async false
set_option maxRecDepth 100000
namespace Mine
structure ZApart (z TI TO i l : Addr) : Prop where
  TIz : TI ≠ z
  TOz : TO ≠ z
  iz : i ≠ z
  TITO : TI ≠ TO
  TIi : TI ≠ i
  TOi : TO ≠ i
  lz : l ≠ z
  lTO : l ≠ TO
  li : l ≠ i
  lTI : l ≠ TI
section
variable {prog : Program} {w : World} {A : Around} {E : Value → Shared → Prop} {s : Shared}

theorem zipS_next_item {z TI TO i l : Addr} {k : Nat} {xs : Array Value} {x y a b : Value} {Q : Value → Shared → Prop} (D : ZApart z TI TO i l)
    (hz : IsZip s.heap z TI TO .none) (hTI : IsPair s.heap TI (.ref i) (.ref i)) (hTO : IsPair s.heap TO a b)
    (h1 : s.heap.IsListIter i l k) (hl1 : s.heap.IsList l xs) (hx : xs[k]? = some x) (hy : xs[k + 1]? = some y)
    (hQ : ∀ h', IsZip h' z TI TO (rawInt s.heap.objs.size) → IsPair h' TO x y → h'.IsListIter i l (k + 2) → IsPair h' s.heap.objs.size x y → h'.objs.size = s.heap.objs.size + 1 →
      (∀ c o, c ≠ z → c ≠ TO → c ≠ i → s.heap.get? c = some o → h'.get? c = some o) → Q (.ref s.heap.objs.size) { s with heap := h' }) :
    wpAny (model prog w) A (Builtin.«zip.__next__» ⟨[.ref z], []⟩) (fun fin s' => ∃ v, fin = .done (.ret v) ∧ Q v s') E s := by
  show wpAny _ _ (field (.ref z) 2 >>= _) _ _ _
  refine wpAny_bind (wpAny_field hz rfl (x := .bool false) rfl ?_)
  show wpAny _ _ (field (.ref z) 3 >>= _) _ _ _
  refine wpAny_bind (wpAny_field hz rfl (x := .ref TI) rfl ?_)
  refine wpAny_bind (wpAny_seqItems hTI rfl ?_)
  show wpAny _ _ (Builtin.SmallTypes.ownedTupleIsFree (.ref z) >>= _) _ _ _
  refine wpAny_bind ?_
  unfold Builtin.SmallTypes.ownedTupleIsFree
  refine wpAny_bind (wpAny_field hz rfl (x := .none) rfl (wpAny_pure ?_))
  simp only [if_true]
  refine wpAny_bind (wpAny_rule ?_)
  refine wpAny_bind (wpAny_field hz rfl (x := .ref TO) rfl ?_)
  refine wpAny_bind (wpAny_setField_rec hz (by simp) fun h₁ hz₁ hs₁ => ?_)
  replace hz₁ : IsZip h₁ z TI TO .ellipsis := hz₁
  refine wpAny_bind ?_
  simp only [List.zipIdx_cons, List.zipIdx_nil, List.forIn_cons, List.forIn_nil]
  refine wpAny_bind (wpAny_bind (wpAny_onRaise ?_))
  show wpAny _ _ (Builtin.SmallTypes.nextOf (.ref i) >>= _) _ _ _
  refine wpAny_bind (wpAny_nextOf_list_item (h1.extBut hs₁.extBut D.iz) (hl1.extBut hs₁.extBut D.lz) hx fun h₂ h1₂ hs₂ => wpAny_pure ?_)
  have hTO₂ : IsPair h₂ TO a b := hs₂.extBut _ _ D.TOi (hs₁.extBut _ _ D.TOz hTO)
  refine wpAny_bind (wpAny_seqItems hTO₂ rfl ?_)
  refine wpAny_bind (wpAny_updateSeq_pair hTO₂ fun h₃ hTO₃ hs₃ => ?_)
  replace hTO₃ : IsPair h₃ TO x b := hTO₃
  refine wpAny_bind (wpAny_letGo (wpAny_pure ?_))
  refine wpAny_bind (wpAny_bind (wpAny_onRaise ?_))
  show wpAny _ _ (Builtin.SmallTypes.nextOf (.ref i) >>= _) _ _ _
  refine wpAny_bind (wpAny_nextOf_list_item (h1₂.extBut hs₃.extBut D.TOi.symm)
    (((hl1.extBut hs₁.extBut D.lz).extBut hs₂.extBut D.li).extBut hs₃.extBut D.lTO) hy fun h₄ h2₄ hs₄ => wpAny_pure ?_)
  have hTO₄ : IsPair h₄ TO x b := hs₄.extBut _ _ D.TOi hTO₃
  refine wpAny_bind (wpAny_seqItems hTO₄ rfl ?_)
  refine wpAny_bind (wpAny_updateSeq_pair hTO₄ fun h₅ hTO₅ hs₅ => ?_)
  replace hTO₅ : IsPair h₅ TO x y := hTO₅
  refine wpAny_bind (wpAny_letGo (wpAny_pure (wpAny_pure ?_)))
  refine wpAny_bind (wpAny_seqItems hTO₅ rfl ?_)
  refine wpAny_bind (wpAny_newTuple ?_)
  have hsz : h₅.objs.size = s.heap.objs.size := by rw [hs₅.1, hs₄.1, hs₃.1, hs₂.1, hs₁.1]
  have hz₅ : IsZip h₅ z TI TO .ellipsis := hs₅.extBut _ _ D.TOz.symm (hs₄.extBut _ _ D.iz.symm (hs₃.extBut _ _ D.TOz.symm (hs₂.extBut _ _ D.iz.symm hz₁)))
  have hk₅ : ∀ c o, c ≠ z → c ≠ TO → c ≠ i → s.heap.get? c = some o → h₅.get? c = some o := fun c o c1 c2 c3 e =>
    hs₅.extBut _ _ c2 (hs₄.extBut _ _ c3 (hs₃.extBut _ _ c2 (hs₂.extBut _ _ c3 (hs₁.extBut _ _ c1 e))))
  have h2₅ : h₅.IsListIter i l (k + 2) := h2₄.extBut hs₅.extBut D.TOi.symm
  have hzlt : z < h₅.objs.size := Heap.lt_size hz₅
  show wpAny _ _ (Builtin.SmallTypes.ownedTupleHandOut (.ref z) (.ref h₅.objs.size) >>= _) _ _ _
  refine wpAny_bind ?_
  unfold Builtin.SmallTypes.ownedTupleHandOut
  have hz₆ : IsZip (h₅.push { cls := .type "tuple", data := .seq #[x, y] }) z TI TO .ellipsis := Heap.get?_push_of_some _ hz₅
  refine wpAny_bind (wpAny_setField_rec hz₆ (by simp) fun h₇ hz₇ hs₇ => ?_)
  replace hz₇ : IsZip h₇ z TI TO (rawInt h₅.objs.size) := hz₇
  refine wpAny_setField_rec hz₇ (by simp) fun h₈ hz₈ hs₈ => ?_
  replace hz₈ : IsZip h₈ z TI TO (rawInt h₅.objs.size) := hz₈
  have up : ∀ c o, c ≠ z → h₅.get? c = some o → h₈.get? c = some o := fun c o c1 e => hs₈.extBut _ _ c1 (hs₇.extBut _ _ c1 (Heap.get?_push_of_some _ e))
  have hT₈ : IsPair h₈ h₅.objs.size x y := hs₈.extBut _ _ (Nat.ne_of_gt hzlt) (hs₇.extBut _ _ (Nat.ne_of_gt hzlt) (Heap.get?_push_size _ rfl))
  have hz8 : h₈.objs.size = h₅.objs.size + 1 := by rw [hs₈.1, hs₇.1, Heap.size_push]
  rw [hsz] at hz₈ hT₈ hz8
  refine wpAny_pure ⟨_, rfl, ?_⟩
  show Q (.ref h₅.objs.size) _
  rw [hsz]
  exact hQ h₈ hz₈ (up _ _ D.TOz hTO₅) (h2₅.at fun o e => up _ o D.iz e) hT₈ hz8 fun c o c1 c2 c3 e => up c o c1 (hk₅ c o c1 c2 c3 e)

theorem zipS_next_end {z TI TO i l : Addr} {k : Nat} {xs : Array Value} {a b : Value} {Q : Fin → Shared → Prop} (hh : A.handled = none) (D : ZApart z TI TO i l)
    (hz : IsZip s.heap z TI TO .none) (hTI : IsPair s.heap TI (.ref i) (.ref i)) (hTO : IsPair s.heap TO a b)
    (h1 : s.heap.IsListIter i l k) (hl1 : s.heap.IsList l xs) (hend : xs[k]? = none)
    (hE : ∀ h' e, (∀ c o, c ≠ z → c ≠ TO → c ≠ i → s.heap.get? c = some o → h'.get? c = some o) → (∃ o, h'.get? e = some o ∧ o.cls = .type "StopIteration") → E (.ref e) { s with heap := h' }) :
    wpAny (model prog w) A (Builtin.«zip.__next__» ⟨[.ref z], []⟩) Q E s := by
  show wpAny _ _ (field (.ref z) 2 >>= _) _ _ _
  refine wpAny_bind (wpAny_field hz rfl (x := .bool false) rfl ?_)
  show wpAny _ _ (field (.ref z) 3 >>= _) _ _ _
  refine wpAny_bind (wpAny_field hz rfl (x := .ref TI) rfl ?_)
  refine wpAny_bind (wpAny_seqItems hTI rfl ?_)
  show wpAny _ _ (Builtin.SmallTypes.ownedTupleIsFree (.ref z) >>= _) _ _ _
  refine wpAny_bind ?_
  unfold Builtin.SmallTypes.ownedTupleIsFree
  refine wpAny_bind (wpAny_field hz rfl (x := .none) rfl (wpAny_pure ?_))
  simp only [if_true]
  refine wpAny_bind (wpAny_rule ?_)
  refine wpAny_bind (wpAny_field hz rfl (x := .ref TO) rfl ?_)
  refine wpAny_bind (wpAny_setField_rec hz (by simp) fun h₁ hz₁ hs₁ => ?_)
  replace hz₁ : IsZip h₁ z TI TO .ellipsis := hz₁
  refine wpAny_bind ?_
  simp only [List.zipIdx_cons, List.zipIdx_nil, List.forIn_cons, List.forIn_nil]
  refine wpAny_bind (wpAny_bind (wpAny_onRaise ?_))
  show wpAny _ _ (Builtin.SmallTypes.nextOf (.ref i) >>= _) _ _ _
  refine wpAny_bind (wpAny_nextOf_list_end hh (h1.extBut hs₁.extBut D.iz) (hl1.extBut hs₁.extBut D.lz) hend fun h₂ e hs₂ he => ?_)
  obtain ⟨oe, hoe, hce⟩ := he
  have hz₂ : IsZip h₂ z TI TO .ellipsis := hs₂ _ _ D.iz.symm hz₁
  have hez : e ≠ z := fun x => by subst x; rw [hz₂] at hoe; cases hoe; simp at hce
  refine wpAny_setField_rec hz₂ (by simp) fun h₃ _ hs₃ => hE h₃ e (fun c o c1 _ c3 x => hs₃.extBut _ _ c1 (hs₂ _ _ c3 (hs₁.extBut _ _ c1 x))) ⟨oe, hs₃.extBut _ _ hez hoe, hce⟩

theorem pyNext_zipS_item {z TI TO i l : Addr} {k : Nat} {xs : Array Value} {x y a b : Value} {Q : Option Value → Shared → Prop} (D : ZApart z TI TO i l)
    (hz : IsZip s.heap z TI TO .none) (hTI : IsPair s.heap TI (.ref i) (.ref i)) (hTO : IsPair s.heap TO a b)
    (h1 : s.heap.IsListIter i l k) (hl1 : s.heap.IsList l xs) (hx : xs[k]? = some x) (hy : xs[k + 1]? = some y)
    (hQ : ∀ h', IsZip h' z TI TO (rawInt s.heap.objs.size) → IsPair h' TO x y → h'.IsListIter i l (k + 2) → IsPair h' s.heap.objs.size x y → h'.objs.size = s.heap.objs.size + 1 →
      (∀ c o, c ≠ z → c ≠ TO → c ≠ i → s.heap.get? c = some o → h'.get? c = some o) → Q (some (.ref s.heap.objs.size)) { s with heap := h' }) :
    wpAny (model prog w) A (pyNext (.ref z)) Q E s := by
  have hT : s.TypeIs (.ref z) "zip" := ⟨_, hz, rfl⟩
  unfold pyNext
  exact wpAny_bind (wpAny_attempt (wpAny_callSpecial?_slot (name := Str.ofString "__next__") hT F.slot_zip_next
    (wpAny_call_entry F.slot_zip_next hT F.entry_zip_next
      (zipS_next_item D hz hTI hTO h1 hl1 hx hy fun h' a1 a2 a3 a4 a5 a6 => wpAny_pure (hQ h' a1 a2 a3 a4 a5 a6)) (F.args_zip_next_1 _))))

theorem pyNext_zipS_end {z TI TO i l : Addr} {k : Nat} {xs : Array Value} {a b : Value} {Q : Option Value → Shared → Prop} (hh : A.handled = none) (D : ZApart z TI TO i l)
    (hz : IsZip s.heap z TI TO .none) (hTI : IsPair s.heap TI (.ref i) (.ref i)) (hTO : IsPair s.heap TO a b)
    (h1 : s.heap.IsListIter i l k) (hl1 : s.heap.IsList l xs) (hend : xs[k]? = none)
    (hQ : ∀ h', (∀ c o, c ≠ z → c ≠ TO → c ≠ i → s.heap.get? c = some o → h'.get? c = some o) → Q none { s with heap := h' }) : wpAny (model prog w) A (pyNext (.ref z)) Q E s := by
  have hT : s.TypeIs (.ref z) "zip" := ⟨_, hz, rfl⟩
  unfold pyNext
  refine wpAny_bind (wpAny_attempt (wpAny_callSpecial?_slot (name := Str.ofString "__next__") hT F.slot_zip_next
    (wpAny_call_entry F.slot_zip_next hT F.entry_zip_next (zipS_next_end hh D hz hTI hTO h1 hl1 hend fun h' e hk he => ?_) (F.args_zip_next_1 _))))
  obtain ⟨o, ho, hc⟩ := he
  refine wpAny_bind (wpAny_isInstance (T := "StopIteration") (b := true) ⟨o, ho, hc⟩ isSubtype_stop ?_)
  exact wpAny_pure (hQ _ hk)

noncomputable abbrev zsH1 (h : Heap) (i : Addr) : Heap := h.push { cls := .type "tuple", data := .seq #[.ref i, .ref i] }
noncomputable abbrev zsH2 (h : Heap) (i : Addr) : Heap := (zsH1 h i).push { cls := .type "tuple", data := .seq #[.none, .none] }
noncomputable abbrev zsH3 (h : Heap) (i : Addr) : Heap := (zsH2 h i).push { cls := .type "zip", data := .fields #[.none, .bool false, .bool false, .ref h.objs.size, .ref (zsH1 h i).objs.size] }
theorem meets_zipS_new (i l : Addr) (k : Nat) :
    Meets (Builtin.«zip.__new__» ⟨[.type "zip", .ref i, .ref i], []⟩) (fun _ R s => s.heap.IsListIter i l k ∧
      R (.ok (.ret (.ref (zsH2 s.heap i).objs.size))) { s with heap := zsH3 s.heap i }) :=
  .of_wp fun prog w A R s h => by
    obtain ⟨hp, g, d, tk, os⟩ := s; obtain ⟨hl1, h⟩ := h
    have hsub := sub_zip
    have hL1 : Heap.IsListIter (Shared.heap ⟨hp, g, d, tk, os⟩) i l k := hl1
    wp_walk using wpAny_pyIter_listiter hL1, wpAny_pyIter_listiter hL1
    exact ⟨_, rfl, h⟩
theorem call_zipS {i l : Addr} {k : Nat} {Q : Value → Shared → Prop} (hl1 : s.heap.IsListIter i l k)
    (h : Q (.ref (zsH2 s.heap i).objs.size) { s with heap := zsH3 s.heap i }) :
    wpAny (model prog w) A (call (.type "zip") [.ref i, .ref i]) Q E s := by
  refine callType_new F.called_zip (by decide) (F.typeCall_zip_2 _ _) (F.newCall_zip_2 _ _) (fun obj => F.args_object_init_3 obj _ _) F.entry_zip_new
    (meets_zipS_new i l k) ⟨hl1, ?_⟩
  exact ⟨⟨_, Heap.get?_push_size _ rfl, rfl⟩, h⟩
end
end Mine
end
section
open PySem PySem.W PySem.Calls PyProof.Rows PySem.Builtin
set_option Elab.async false
set_option maxRecDepth 100000
namespace Mine
section
variable {w : World} {A : Around} {E : Value → Shared → Prop} {s : Shared} {env : Env} {h₀ : Heap}
theorem for_any {target iter : Expr} {body orelse : List Stmt} {pos : Pos} {Q : Flow → Shared → Prop} (hE : PassesOwn (model PR w) A env E) (I : Value → Nat → Shared → Prop)
    (h : wpAny (model PR w) A (PySem.eval iter env) (fun x s₁ => wpAny (model PR w) A (pyIter x) (fun it s₂ => ∃ n, I it n s₂) E s₁) E s)
    (turn : ∀ it n s, I it n s → wpAny (model PR w) A (pyNext it) (fun r s₁ => match r with
      | none => wpAny (model PR w) A (execs orelse env) Q E s₁
      | some v => wpAny (model PR w) A (letOwnedTupleGo target it v) (fun _ s₁' => wpAny (model PR w) A (assign target env v) (fun _ s₂ => wpAny (model PR w) A (execs body env) (fun f s₃ => match f with
          | .next | .cont => ∃ m, m < n ∧ I it m s₃
          | .brk => Q .next s₃
          | .ret v => Q (.ret v) s₃) E s₂) E s₁') E s₁) E s)
    (hs : ∀ x, foldedSetIterable iter env x = pure x) : wpAny (model PR w) A (exec (.For target iter body orelse pos) env) Q E s := by
  refine wpAny_For (wpAny_mono h (fun x s₁ h₁ => wpAny_mono h₁ (fun it s₂ h₂ => ?_) fun _ _ e => e) fun _ _ e => e) hs
  obtain ⟨n, hI⟩ := h₂
  refine codeAny_forLoop_any (R := fun r s' => match r with | .ok f => Q f s' | .error e => cameBackBy (model PR w) A env E e s') (I it) (fun n s hI => ?_) n hI
  refine wpAny_mono (turn it n s hI) (fun r s₁ hr => ?_) hE
  cases r with
  | none => exact wpAny_passesOwn hE hr
  | some v => exact wpAny_mono hr (fun _ s₁' h₁' => wpAny_mono h₁' (fun _ s₂ h₂ => wpAny_passesOwn hE (wpAny_mono h₂ (fun f s₃ h₃ => by cases f <;> exact h₃) fun _ _ e => e)) hE) hE
theorem callWith_SZ {pos p : Pos} {e : Expr} {Q : Value → Shared → Prop} (h : wpAny (model PR w) A (PySem.eval e env) (fun v s₁ => StarOf (model PR w) A E v (fun vs s₂ => wpAny (model PR w) A (call (.type "zip") ([] ++ vs)) Q E s₂) s₁) E s)
    (he : starEach [.Starred e p] env = [(true, PySem.eval e env)]) :
    wpAny (model PR w) A (callWith pos (.type "zip") [] (backTo pos (starEach [.Starred e p] env)) []) Q E s := by
  rw [he]
  exact ks_call (P := fun _ => True) rfl (fun h _ => ⟨.machine, .inr (.inl rfl), Looks.of_pure (by rfl)⟩) (ks_lone (wpAny_mono h (fun v s₁ h₁ => wpAny_mono h₁ (fun b s₂ h₂ => ⟨h₂.1, wpAny_mono h₂.2 (fun vs s₃ h₃ => ⟨trivial, h₃⟩) fun _ _ x => x⟩) fun _ _ x => x) fun _ _ x => x))
noncomputable abbrev litO (q : Addr) (k : Nat) : Obj := { cls := .type "list_iterator", data := .fields #[.ref q, .int (k : Nat) 0] }
noncomputable abbrev zipO (TI TO : Addr) : Obj := { cls := .type "zip", dict := none, data := .fields #[.none, .bool false, .bool false, .ref TI, .ref TO], slots := #[] }
noncomputable abbrev prO (a b : Value) : Obj := { cls := .type "tuple", data := .seq #[a, b] }
variable {m : Str → Option Value} {news : List (Addr × Obj)} {L : Addr}
theorem ks_iterL {q : Addr} {items : Array Value} {nq : Nat} {Q : Value → Shared → Prop} (F : Fr h₀ L s.heap m) (N : News h₀ L s.heap news) (hq : (q, lstO items nq) ∈ news)
    (h : ∀ I h', Fr h₀ L h' m → News h₀ L h' ((I, litO q 0) :: news) → (∀ p ∈ news, p.1 < I) → Q (.ref I) { s with heap := h' }) :
    wpAny (model PR w) A (call (.builtin "iter") [.ref q]) Q E s := by
  refine call_function_entry (by decide +kernel) (by decide +kernel) kdk_entry_iter (kdk_args_iter _) ?_
  unfold Builtin.«iter»
  refine wpAny_bind (m := someArgs "iter" 1 2 _) (wpAny_of_eq (a := [Value.ref q]) (by first | rfl | kernel_rfl!) ?_)
  show wpAny _ _ (pyIter (.ref q) >>= _) _ _ _
  have hl : s.heap.IsList q items := ⟨_, (N _ hq).1, rfl, _, rfl⟩
  refine wpAny_bind (wpAny_pyIter_list hl ?_)
  obtain ⟨F', N', l'⟩ := ks_pushed (o := litO q 0) F N rfl
  exact wpAny_pure ⟨_, rfl, h _ _ F' N' l'⟩
theorem ks_zipL {q I : Addr} {k : Nat} {Q : Value → Shared → Prop} (F : Fr h₀ L s.heap m) (N : News h₀ L s.heap news) (hi : (I, litO q k) ∈ news)
    (h : ∀ z TO TI h', Fr h₀ L h' m → News h₀ L h' ((z, zipO TI TO) :: (TO, prO .none .none) :: (TI, prO (.ref I) (.ref I)) :: news) → (∀ p ∈ news, p.1 < TI) → TI < TO → TO < z → Q (.ref z) { s with heap := h' }) :
    wpAny (model PR w) A (call (.type "zip") [.ref I, .ref I]) Q E s := by
  have hl : s.heap.IsListIter I q k := ⟨_, (N _ hi).1, rfl, rfl⟩
  refine call_zipS hl ?_
  obtain ⟨F1, N1, l1⟩ := ks_pushed (o := prO (.ref I) (.ref I)) F N rfl
  obtain ⟨F2, N2, l2⟩ := ks_pushed (s := { s with heap := zsH1 s.heap I }) (o := prO .none .none) F1 N1 rfl
  obtain ⟨F3, N3, l3⟩ := ks_pushed (s := { s with heap := zsH2 s.heap I }) (o := zipO s.heap.objs.size (zsH1 s.heap I).objs.size) F2 N2 rfl
  exact h _ _ _ _ F3 N3 l1 (l2 _ (List.mem_cons_self ..)) (l3 _ (List.mem_cons_self ..))
end
end Mine
end
section
open PySem PySem.W PySem.Calls PyProof.Rows PySem.Builtin
set_option Elab.async false
set_option maxRecDepth 100000
namespace Mine
section
variable {w : World} {A : Around} {E : Value → Shared → Prop} {s : Shared} {env : Env} {h₀ : Heap}
noncomputable abbrev mapAB (xa xb : Str) (M0 : Str → Option Value) (a b : Option Value) : Str → Option Value := fun y => if y = xb then b else if y = xa then a else M0 y
noncomputable def LitO (q : Addr) (k : Nat) (o : Obj) : Prop := o.cls = .type "list_iterator" ∧ o.data = .fields #[.ref q, .int (k : Nat) 0]
structure ZChain (z TI TO I q : Addr) (news : List (Addr × Obj)) : Prop where
  a : ∀ p ∈ news, @LT.lt Nat _ p.1 q
  b : @LT.lt Nat _ q I
  c : @LT.lt Nat _ I TI
  d : @LT.lt Nat _ TI TO
  e : @LT.lt Nat _ TO z
noncomputable abbrev zNews (z TI TO I q : Addr) (too io : Obj) (items : Array Value) (nq : Nat) (news : List (Addr × Obj)) : List (Addr × Obj) :=
  (z, zipO TI TO) :: (TO, too) :: (TI, prO (.ref I) (.ref I)) :: (I, io) :: (q, lstO items nq) :: news
theorem nin3 {a x y z : Addr} (h1 : @Ne Nat a x) (h2 : @Ne Nat a y) (h3 : @Ne Nat a z) : a ∉ [x, y, z] := fun h => by
  rcases List.mem_cons.mp h with e | h
  · exact h1 e
  · rcases List.mem_cons.mp h with e | h
    · exact h2 e
    · exact h3 (List.mem_singleton.mp h)
theorem nin4 {a x y z u : Addr} (h1 : @Ne Nat a x) (h2 : @Ne Nat a y) (h3 : @Ne Nat a z) (h4 : @Ne Nat a u) : a ∉ [x, y, z, u] := fun h => by
  rcases List.mem_cons.mp h with e | h
  · exact h1 e
  · exact nin3 h2 h3 h4 h
theorem all3 {P : Addr → Prop} {x y z : Addr} (h1 : P x) (h2 : P y) (h3 : P z) : ∀ b ∈ [x, y, z], P b := List.forall_mem_cons.mpr ⟨h1, List.forall_mem_cons.mpr ⟨h2, List.forall_mem_cons.mpr ⟨h3, List.forall_mem_nil _⟩⟩⟩
theorem kb3 {h h' : Heap} {x y z : Addr} (k : ∀ b o, @Ne Nat b x → @Ne Nat b y → @Ne Nat b z → h.get? b = some o → h'.get? b = some o) : KeptBut [x, y, z] h h' := fun b o hb e =>
  k b o (fun q => hb (q ▸ .head _)) (fun q => hb (q ▸ .tail _ (.head _))) (fun q => hb (q ▸ .tail _ (.tail _ (.head _)))) e
theorem mapAB_self (xa xb : Str) (M0 : Str → Option Value) : M0 = mapAB xa xb M0 (M0 xa) (M0 xb) := by
  funext y
  unfold mapAB
  by_cases h1 : y = xb
  · rw [if_pos h1, h1]
  · rw [if_neg h1]
    by_cases h2 : y = xa
    · rw [if_pos h2, h2]
    · rw [if_neg h2]
theorem mapAB_set (xa xb : Str) (M0 : Str → Option Value) (a b : Option Value) (x y : Value) : (fun y' => if y' = xb then some y else if y' = xa then some x else mapAB xa xb M0 a b y') = mapAB xa xb M0 (some x) (some y) := by
  funext y'
  unfold mapAB
  by_cases h1 : y' = xb
  · rw [if_pos h1, if_pos h1]
  · by_cases h2 : y' = xa
    · simp [h1, h2]
    · rw [if_neg h1, if_neg h1, if_neg h2, if_neg h2, if_neg h1, if_neg h2]
theorem ZChain.ap {z TI TO I q : Addr} {news : List (Addr × Obj)} (C : ZChain z TI TO I q news) : ZApart z TI TO I q :=
  have n {a b : Nat} (h : a < b) : @Ne Nat a b := Nat.ne_of_lt h
  have tz := Nat.lt_trans C.d C.e
  have iz := Nat.lt_trans C.c tz
  have io := Nat.lt_trans C.c C.d
  have qt := Nat.lt_trans C.b C.c
  ⟨n tz, n C.e, n iz, n C.d, (n C.c).symm, (n io).symm, n (Nat.lt_trans C.b iz), n (Nat.lt_trans C.b io), n C.b, n qt⟩
theorem ZChain.far {z TI TO I q : Addr} {news : List (Addr × Obj)} (C : ZChain z TI TO I q news) {a : Addr} (h : @LT.lt Nat _ a q) {L : Addr} (hL : a ≠ L) : @Ne Nat a z ∧ @Ne Nat a TO ∧ @Ne Nat a I :=
  have i := Nat.lt_trans h C.b
  have o := Nat.lt_trans i (Nat.lt_trans C.c C.d)
  ⟨Nat.ne_of_lt (Nat.lt_trans o C.e), Nat.ne_of_lt o, Nat.ne_of_lt i⟩
theorem zNews_to {h₀ h h' : Heap} {L z TI TO I q : Addr} {io io' too too' : Obj} {items : Array Value} {nq : Nat} {news : List (Addr × Obj)} (C : ZChain z TI TO I q news) (N : News h₀ L h (zNews z TI TO I q too io items nq news)) (K : KeptBut [z, TO, I, L] h h') (gz : h'.get? z = some (zipO TI TO)) (gt : h'.get? TO = some too') (gi : h'.get? I = some io') : News h₀ L h' (zNews z TI TO I q too' io' items nq news) := by
  have D := C.ap
  have NTI := N (TI, prO (.ref I) (.ref I)) (by k_mem)
  have Nq := N (q, lstO items nq) (by k_mem)
  refine List.forall_mem_cons.mpr ⟨⟨gz, (N _ (by k_mem)).2⟩, List.forall_mem_cons.mpr ⟨⟨gt, (N (TO, too) (by k_mem)).2⟩, List.forall_mem_cons.mpr ⟨⟨K _ _ (nin4 D.TIz D.TITO D.TIi NTI.2.1) NTI.1, NTI.2⟩, List.forall_mem_cons.mpr ⟨⟨gi, (N (I, io) (by k_mem)).2⟩, List.forall_mem_cons.mpr ⟨⟨K _ _ (nin4 D.lz D.lTO D.li Nq.2.1) Nq.1, Nq.2⟩, fun p hp => ?_⟩⟩⟩⟩⟩
  have Np := N p (.tail _ (.tail _ (.tail _ (.tail _ (.tail _ hp)))))
  have f := C.far (C.a p hp) Np.2.1
  exact ⟨K _ _ (nin4 f.1 f.2.1 f.2.2 Np.2.1) Np.1, Np.2⟩
theorem for_zip {xa xb : Str} {pa pb pt pos : Pos} {x1} {iter : Expr} {body : List Stmt} {Q : Flow → Shared → Prop} {items : Array Value} {M0 : Str → Option Value} {n : Nat}
    (P : List Addr → Nat → List (Addr × Obj) → Shared → Prop)
    (hE : PassesOwn (model PR w) A env E) (hh : A.handled = none) (hxa : env.kindOf xa = some .local) (hxb : env.kindOf xb = some .local) (hp : (env.scope.kind == .class || (env.scope.kind == .module && env.locals != env.globals)) = false)
    (hsz : items.size = 2 * n)
    (h : wpAny (model PR w) A (PySem.eval iter env) (fun v s₁ => Hold (∃ z TI TO I q nq news, v = .ref z ∧ ZChain z TI TO I q news ∧ Fr h₀ env.locals s₁.heap M0 ∧ News h₀ env.locals s₁.heap (zNews z TI TO I q (prO .none .none) (litO q 0) items nq news) ∧ P [z, TO, TI, I, q] 0 news s₁)) E s)
    (turn : ∀ z TI TO I q nq too io news j s x y h' tk', j < n → items[2 * j]? = some x → items[2 * j + 1]? = some y → ZChain z TI TO I q news → P [z, TO, TI, I, q] j news s →
      Fr h₀ env.locals h' (mapAB xa xb M0 (some x) (some y)) → News h₀ env.locals h' (zNews z TI TO I q too io items nq news) → KeptBut [z, TO, I, env.locals] s.heap h' →
      wpAny (model PR w) A (execs body env) (fun f s₃ => match f with
        | .next => Hold (∃ news', Fr h₀ env.locals s₃.heap (mapAB xa xb M0 (some x) (some y)) ∧ News h₀ env.locals s₃.heap (zNews z TI TO I q too io items nq news') ∧ (∀ p ∈ news', @LT.lt Nat _ p.1 q) ∧ P [z, TO, TI, I, q] (j + 1) news' s₃)
        | _ => False) E { s with heap := h', toks := tk' })
    (fin : ∀ z TI TO I q news s a b h', ZChain z TI TO I q news → P [z, TO, TI, I, q] n news s → Fr h₀ env.locals h' (mapAB xa xb M0 a b) → News h₀ env.locals h' news → KeptBut [z, TO, I, env.locals] s.heap h' → Q .next { s with heap := h' })
    (hs : ∀ x, foldedSetIterable iter env x = pure x) : wpAny (model PR w) A (exec (.For (.Tuple [.Name xa pa, .Name xb pb] x1 pt) iter body [] pos) env) Q E s := by
  refine for_any hE (fun it k s => ∃ z TI TO I q nq io news a b c d, ∃ j, it = .ref z ∧ k = n - j ∧ j ≤ n ∧ ZChain z TI TO I q news ∧ Fr h₀ env.locals s.heap (mapAB xa xb M0 a b) ∧
    News h₀ env.locals s.heap (zNews z TI TO I q (prO c d) io items nq news) ∧ LitO q (2 * j) io ∧ P [z, TO, TI, I, q] j news s) ?_ ?_ hs
  · refine wpAny_mono h (fun v s₁ h₁ => ?_) fun _ _ e => e
    refine exE7 h₁.out fun z TI TO I q nq news q2 => andE5 q2 fun ev C F N hP => ?_
    refine eqE (C := fun v => wpAny (model PR w) A (pyIter v) _ E s₁) ev ?_
    exact wpAny_pyIter_zip (N _ (List.mem_cons_self ..)).1 ⟨n, exI12 z TI TO I q nq _ news (M0 xa) (M0 xb) .none .none ⟨0, rfl, rfl, Nat.zero_le _, C, mapAB_self xa xb M0 ▸ F, N, ⟨rfl, rfl⟩, hP⟩⟩
  · intro it k s hI
    refine exE12 hI fun z TI TO I q nq io news a b c d hI2 => Exists.elim hI2 fun j hI3 => andE8 hI3 fun ei ek hj C F N hio hP => ?_
    clear hI hI2 hI3 h
    subst ei
    have Nz := N (z, zipO TI TO) (by k_mem)
    have NTO := N (TO, prO c d) (by k_mem)
    have NTI := N (TI, prO (.ref I) (.ref I)) (by k_mem)
    have NI := N (I, io) (by k_mem)
    have Nq := N (q, lstO items nq) (by k_mem)
    have ca := C.a
    have cb := C.b
    have cc := C.c
    have cd := C.d
    have ce := C.e
    have D := C.ap
    have hI : s.heap.IsListIter I q (2 * j) := ⟨_, NI.1, hio.1, hio.2⟩
    have hq : s.heap.IsList q items := ⟨_, Nq.1, rfl, _, rfl⟩
    have nL : ∀ p ∈ zNews z TI TO I q (prO c d) io items nq news, p.1 ≠ env.locals := fun p hp => (N p hp).2.1
    rcases Nat.lt_or_ge j n with hlt | hge
    · have h2 : 2 * j + 1 < items.size := Nat.lt_of_lt_of_le (Nat.lt_succ_self _) (hsz ▸ Nat.mul_le_mul_left 2 hlt)
      have h1 : 2 * j < items.size := Nat.lt_of_succ_lt h2
      refine pyNext_zipS_item D Nz.1 NTI.1 NTO.1 hI hq (Array.getElem?_eq_getElem h1) (Array.getElem?_eq_getElem h2) fun h₁ z₁ t₁ i₁ T₁ s₁ k₁ => ?_
      generalize hx : items[2 * j] = x at *
      generalize hy : items[2 * j + 1] = y at *
      refine wpAny_letOwnedTupleGo_zip z₁ fun h₂ z₂ k₂ => ?_
      have zlt : z < s.heap.objs.size := Heap.lt_size Nz.1
      have T₂ : IsPair h₂ s.heap.objs.size x y := k₂.extBut _ _ (Nat.ne_of_gt zlt) T₁
      have t₂ : IsPair h₂ TO x y := k₂.extBut _ _ D.TOz t₁
      have i₂ : h₂.IsListIter I q (2 * (j + 1)) := i₁.extBut k₂.extBut D.iz
      have kk₂ : KeptBut [z, TO, I] s.heap h₂ := kb3 fun o' ob n1 n2 n3 e => k₂.extBut _ _ n1 (k₁ o' ob n1 n2 n3 e)
      have F₂ : Fr h₀ env.locals h₂ (mapAB xa xb M0 a b) := kept_fr F kk₂ (nin3 Nz.2.1.symm NTO.2.1.symm NI.2.1.symm) (all3 Nz.2.2 NTO.2.2 NI.2.2)
      have sz₂ : h₂.objs.size = s.heap.objs.size + 1 := by rw [k₂.1, s₁]
      refine wpAny_assign_Tuple (items := #[x, y]) hh ⟨_, T₂, rfl, 0, rfl⟩ rfl rfl fun h₃ e₃ => ?_
      have up₃ : ∀ b o, s.heap.get? b = some o → ∀ o', h₂.get? b = some o' → h₃.get? b = some o' := fun b o e o' e' => e₃ b o' (Nat.ne_of_lt (by rw [sz₂]; exact Nat.lt_succ_of_lt (Heap.lt_size e))) e'
      have F₃ : Fr h₀ env.locals h₃ (mapAB xa xb M0 a b) := F₂.extBut e₃ (Nat.le_refl _)
      show wpAny _ _ (assignInOrder [fun v => assign (.Name xa pa) env v, fun v => assign (.Name xb pb) env v] [x, y]) _ _ _
      refine assignInOrder_cons (wpAny_assign_Name (wpAny_storeName_local hxa F₃.ns (fun h₄ n₄ k₄ => ?_) hp))
      have F₄ := F₃.set n₄ k₄
      refine assignInOrder_cons (wpAny_assign_Name (wpAny_storeName_local hxb F₄.ns (fun h₅ n₅ k₅ => ?_) hp))
      have F₅ := F₄.set n₅ k₅
      refine assignInOrder_nil ?_
      rw [mapAB_set] at F₅
      have up₅ : ∀ b o, s.heap.get? b = some o → b ≠ env.locals → ∀ o', h₂.get? b = some o' → h₅.get? b = some o' := fun b o e hL o' e' =>
        k₅.extBut _ _ hL (k₄.extBut _ _ hL (up₃ b o e o' e'))
      refine Exists.elim i₂ fun io₂ i₃ => andE3 i₃ fun gio c₂ d₂ => ?_
      clear i₂ i₃
      have K₅ : KeptBut [z, TO, I, env.locals] s.heap h₅ := fun b o hb e => up₅ b o e (fun q => hb (q ▸ .tail _ (.tail _ (.tail _ (.head _))))) o (kk₂ b o (fun hm => hb (List.mem_append_left [env.locals] hm)) e)
      have N₅ : News h₀ env.locals h₅ (zNews z TI TO I q (prO x y) io₂ items nq news) := zNews_to C N K₅ (up₅ _ _ Nz.1 Nz.2.1 _ z₂) (up₅ _ _ NTO.1 NTO.2.1 _ t₂) (up₅ _ _ NI.1 NI.2.1 _ gio)
      have key := turn z TI TO I q nq (prO x y) io₂ news j s x y h₅ (s.toks + 1 + 1) hlt (by rw [Array.getElem?_eq_getElem h1, hx]) (by rw [Array.getElem?_eq_getElem h2, hy]) C hP F₅ N₅ K₅
      refine wpAny_mono key (fun f s₃ h₃ => ?_) fun _ _ e => e
      cases f with
      | brk => exact h₃.elim
      | ret v => exact h₃.elim
      | cont => exact h₃.elim
      | next =>
        exact Exists.elim (Hold.out h₃) fun news' q2 => andE4 q2 fun F' N' c' P' => ⟨n - (j + 1), ek ▸ Nat.sub_lt_sub_left hlt (Nat.lt_succ_self j), exI12 z TI TO I q nq io₂ news' (some x) (some y) x y ⟨j + 1, rfl, rfl, hlt, ⟨c', cb, cc, cd, ce⟩, F', N', ⟨c₂, d₂⟩, P'⟩⟩
    · have hjn : j = n := Nat.le_antisymm hj hge
      rw [hjn] at hP hI
      refine pyNext_zipS_end hh D Nz.1 NTI.1 NTO.1 hI hq (Array.getElem?_eq_none (Nat.le_of_eq hsz)) fun h₁ k₁ => wpAny_execs_nil ?_
      have kk₁ : KeptBut [z, TO, I] s.heap h₁ := kb3 k₁
      exact fin z TI TO I q news s a b h₁ C hP (kept_fr F kk₁ (nin3 Nz.2.1.symm NTO.2.1.symm NI.2.1.symm) (all3 Nz.2.2 NTO.2.2 NI.2.2)) (fun p hp => by
        have Np := N p (.tail _ (.tail _ (.tail _ (.tail _ (.tail _ hp)))))
        have f := C.far (C.a p hp) Np.2.1
        exact ⟨kk₁ _ _ (nin3 f.1 f.2.1 f.2.2) Np.1, Np.2⟩) (fun b o hb e => kk₁ b o (fun hm => hb (List.mem_append_left [env.locals] hm)) e)
end
end Mine
end
section
open PySem PySem.W PySem.Calls PyProof.Rows PySem.Builtin
set_option Elab.async false
set_option maxRecDepth 100000
namespace Mine
noncomputable abbrev FSt := List Str × List (Str × Str) × Int
noncomputable def stp (M : Int) (st : FSt) (c : Str × Str) : FSt :=
  if st.2.2 + totL (st.2.1 ++ [c]) ≤ M then (st.1, st.2.1 ++ [c], st.2.2)
  else if st.2.1 = [] then (if 0 < st.2.2 then (st.1 ++ [Str.ofString ""], [(Str.ofString " ", c.2)], 0) else (st.1, [c], st.2.2))
  else (st.1 ++ [strL st.2.1], [(Str.ofString " ", c.2)], 0)
noncomputable def wS (w : List Nat) : Str := ⟨w.toArray⟩
noncomputable def prs : List (List Nat) → List (Str × Str)
  | [] => []
  | w :: ws => (Str.ofString "", wS w) :: ws.map fun v => (Str.ofString " ", wS v)
noncomputable def stAt (M z : Int) (ws : List (List Nat)) (j : Nat) : FSt := ((prs ws).take j).foldl (stp M) ([], [], z)
theorem prs_len (ws : List (List Nat)) : (prs ws).length = ws.length := by cases ws <;> simp [prs]
theorem stAt_succ {M z : Int} {ws : List (List Nat)} {j : Nat} {c : Str × Str} (h : (prs ws)[j]? = some c) : stAt M z ws (j + 1) = stp M (stAt M z ws j) c := by
  unfold stAt
  rw [List.take_add_one, h, Option.toList_some, List.foldl_append]
  rfl
theorem stAt_zero {M z : Int} {ws : List (List Nat)} : stAt M z ws 0 = ([], [], z) := rfl
/-- what holds of a state -/
structure FOk (z : Int) (j : Nat) (st : FSt) : Prop where
  lines : st.1.length ≤ j
  items : st.2.1.length ≤ j
  small : ∀ q ∈ st.2.1, q.1.length ≤ 1000 ∧ q.2.length ≤ 1000
  ini : st.2.2 = z ∨ st.2.2 = 0
  some : 1 ≤ j → 1 ≤ st.2.1.length
theorem stp_ok {M z : Int} {j : Nat} {st : FSt} {c : Str × Str} (h : FOk z j st) (h1 : c.1.length ≤ 1000) (h2 : c.2.length ≤ 1000) : FOk z (j + 1) (stp M st c) := by
  obtain ⟨a, b, d, e, f⟩ := h
  have hb : (Str.ofString " ").length ≤ 1000 := by decide +kernel
  unfold stp
  split
  · refine ⟨by simp; omega, by simp; omega, ?_, e, by simp⟩
    intro q hq
    rcases List.mem_append.mp hq with hq | hq
    · exact d q hq
    · rw [List.mem_singleton.mp hq]; exact ⟨h1, h2⟩
  · split
    · split
      · refine ⟨by simp; omega, by simp, ?_, .inr rfl, by simp⟩
        intro q hq
        rw [List.mem_singleton.mp hq]; exact ⟨hb, h2⟩
      · refine ⟨by simp; omega, by simp, ?_, e, by simp⟩
        intro q hq
        rw [List.mem_singleton.mp hq]; exact ⟨h1, h2⟩
    · refine ⟨by simp; omega, by simp, ?_, .inr rfl, by simp⟩
      intro q hq
      rw [List.mem_singleton.mp hq]; exact ⟨hb, h2⟩
theorem prs_small {ws : List (List Nat)} (h : ∀ v ∈ ws, v.length ≤ 1000) {j : Nat} {c : Str × Str} (e : (prs ws)[j]? = some c) : c.1.length ≤ 1000 ∧ c.2.length ≤ 1000 := by
  have hm := List.mem_of_getElem? e
  have hb : (Str.ofString " ").length ≤ 1000 := by decide +kernel
  have hb0 : (Str.ofString "").length ≤ 1000 := by decide +kernel
  cases ws with
  | nil => simp [prs] at hm
  | cons w ws =>
    simp only [prs, List.mem_cons, List.mem_map] at hm
    rcases hm with rfl | ⟨v, hv, rfl⟩
    · exact ⟨hb0, by have := h w (List.mem_cons_self ..); simpa [wS, Str.length] using this⟩
    · exact ⟨hb, by have := h v (List.mem_cons_of_mem _ hv); simpa [wS, Str.length] using this⟩
theorem stAt_ok {M z : Int} {ws : List (List Nat)} (h : ∀ v ∈ ws, v.length ≤ 1000) : ∀ j, j ≤ ws.length → FOk z j (stAt M z ws j)
  | 0, _ => ⟨by simp [stAt_zero], by simp [stAt_zero], by simp [stAt_zero], .inl rfl, by simp⟩
  | j + 1, hj => by
    have hl : j < (prs ws).length := by rw [prs_len]; omega
    have e : (prs ws)[j]? = some (prs ws)[j] := List.getElem?_eq_getElem hl
    rw [stAt_succ e]
    have := prs_small h e
    exact stp_ok (stAt_ok h j (by omega)) this.1 this.2
/-- a chunk's blank -/
theorem prs_blank {ws : List (List Nat)} {j : Nat} {c : Str × Str} (e : (prs ws)[j]? = some c) : c.1 = if j = 0 then Str.ofString "" else Str.ofString " " := by
  cases ws with
  | nil => simp [prs] at e
  | cons w ws =>
    cases j with
    | zero => simp [prs] at e; rw [← e]; rfl
    | succ j =>
      simp [prs] at e
      obtain ⟨v, _, rfl⟩ := e
      rfl
noncomputable def chk (ws : List (List Nat)) : List (List Nat) := match ws with
  | [] => []
  | w :: ws => [] :: pcs w ws
theorem pcs_get : ∀ (ws : List (List Nat)) (w : List Nat) (j : Nat), j ≤ ws.length → (pcs w ws)[2 * j]? = (w :: ws)[j]? ∧ (j < ws.length → (pcs w ws)[2 * j + 1]? = some [32])
  | [], w, j, h => by
    have : j = 0 := by simpa using h
    subst this
    simp [pcs]
  | v :: vs, w, 0, h => by simp [pcs]
  | v :: vs, w, j + 1, h => by
    have ih := pcs_get vs v j (by simpa using h)
    rw [show 2 * (j + 1) = 2 * j + 1 + 1 by omega]
    simp only [pcs, List.getElem?_cons_succ]
    refine ⟨ih.1, fun hl => ?_⟩
    exact ih.2 (by simpa using hl)
inductive StrsV : List Value → List Str → Prop
  | nil : StrsV [] []
  | cons {t : Tok} {x : Str} {vs : List Value} {l : List Str} (h : StrsV vs l) : StrsV (.str x t :: vs) (x :: l)
theorem StrsV.len {a : List Value} {c : List Str} (h : StrsV a c) : a.length = c.length := by
  induction h with
  | nil => rfl
  | cons _ ih => simp [ih]
theorem StrsV.snoc {a : List Value} {c : List Str} (h : StrsV a c) (x : Str) (t : Tok) : StrsV (a ++ [.str x t]) (c ++ [x]) := by
  induction h with
  | nil => exact .cons .nil
  | cons _ ih => exact .cons ih
theorem StrVals.get {a : List Value} {c : List (List Nat)} (h : StrVals a c) : ∀ {i : Nat} {v : Value} {x : List Nat}, a[i]? = some v → c[i]? = some x → ∃ t, v = .str (wS x) t := by
  induction h with
  | nil => intro i v x e; simp at e
  | cons p _ ih =>
    intro i v x e1 e2
    cases i with
    | zero =>
      simp at e1 e2
      subst e1 e2
      exact p
    | succ i => exact ih (by simpa using e1) (by simpa using e2)
/-- the two values of a turn -/
theorem turn_vals {items : Array Value} {w : List Nat} {ws : List (List Nat)} {j : Nat} {x y : Value} (h : StrVals items.toList ([] :: pcs w ws)) (hj : j < (w :: ws).length) (hx : items[2 * j]? = some x) (hy : items[2 * j + 1]? = some y) :
    ∃ c tf tp, (prs (w :: ws))[j]? = some c ∧ x = .str c.1 tf ∧ y = .str c.2 tp := by
  have hj' : j ≤ ws.length := by simpa [Nat.lt_succ_iff] using hj
  have e1 : ([] :: pcs w ws)[2 * j + 1]? = (w :: ws)[j]? := by rw [List.getElem?_cons_succ]; exact (pcs_get ws w j hj').1
  have e0 : ([] :: pcs w ws)[2 * j]? = some (if j = 0 then [] else [32]) := by
    cases j with
    | zero => rfl
    | succ j =>
      rw [show 2 * (j + 1) = (2 * j + 1) + 1 by omega, List.getElem?_cons_succ]
      have := (pcs_get ws w j (by omega)).2 (by omega)
      rw [this]; simp
  obtain ⟨v, hv⟩ : ∃ v, (w :: ws)[j]? = some v := ⟨_, List.getElem?_eq_getElem hj⟩
  obtain ⟨tf, rfl⟩ := h.get (by simpa using hx) e0
  obtain ⟨tp, rfl⟩ := h.get (by simpa using hy) (e1.trans hv)
  have b0 : wS [] = Str.ofString "" := by decide +kernel
  have b1 : wS [32] = Str.ofString " " := by decide +kernel
  cases j with
  | zero =>
    simp at hv
    subst hv
    exact ⟨_, tf, tp, rfl, by rw [if_pos rfl, b0], rfl⟩
  | succ j =>
    simp at hv
    refine ⟨(Str.ofString " ", wS v), tf, tp, by simp [prs, hv], ?_, rfl⟩
    rw [if_neg (by omega), b1]
end Mine
end
section
open PySem PySem.W PyProof.Rows
set_option Elab.async false
set_option maxRecDepth 100000
set_option linter.unusedVariables false
namespace Mine
/-! the plain law: what the deeds do to the runs -/
noncomputable def afterW (ws : List Nat) (d : Int × Int × Int) : List Nat :=
  if d.1 = 2 then ws.take (fitF (ws.map Int.ofNat) d.2.1 d.2.2).toNat
  else if d.1 = 1 then ws.map (fun n => (n + 1) / 2) else cutPar ws

theorem and_eq_iff (h X a : Nat) : (X % 2 ^ h) &&& a = X % 2 ^ h ↔ ∀ i, i < h → X.testBit i = true → a.testBit i = true := by
  constructor
  · intro e i hi hx
    have := congrArg (fun n => n.testBit i) e
    simpa [Nat.testBit_and, Nat.testBit_mod_two_pow, hi, hx] using this
  · intro k
    apply Nat.eq_of_testBit_eq
    intro i
    rw [Nat.testBit_and, Nat.testBit_mod_two_pow]
    by_cases hi : i < h
    · cases hx : X.testBit i with
      | false => simp
      | true => simp [hi, k i hi hx]
    · simp [hi]
noncomputable def goodN (h X a : Nat) : Prop := ∀ i, i < h → X.testBit i = true → a.testBit i = true
theorem lt_bit {a h : Nat} (ha : a < 2 ^ h) : a.testBit h = false := Nat.testBit_lt_two_pow ha
theorem good_zero {h X a : Nat} (ha : a < 2 ^ h) : goodN (h + 1) X a ↔ goodN h X a ∧ (X / 2 ^ h) % 2 = 0 := by
  constructor
  · intro k
    refine ⟨fun i hi => k i (by omega), ?_⟩
    have hb := k h (by omega)
    rw [lt_bit ha] at hb
    rw [Nat.testBit_eq_decide_div_mod_eq] at hb
    have : ¬ (X / 2 ^ h % 2 = 1) := fun e => by simp [e] at hb
    omega
  · rintro ⟨k, e⟩ i hi hx
    rcases Nat.lt_succ_iff_lt_or_eq.mp hi with h1 | rfl
    · exact k i h1 hx
    · rw [Nat.testBit_eq_decide_div_mod_eq, e] at hx; simp at hx
theorem good_one {h X a : Nat} (ha : a < 2 ^ h) : goodN (h + 1) (X + 2 ^ h) (a + 2 ^ h) ↔ goodN h X a := by
  have e1 : ∀ Y i, i < h → (Y + 2 ^ h).testBit i = Y.testBit i := fun Y i hi => by
    rw [Nat.add_comm]; exact Nat.testBit_two_pow_add_gt hi Y
  constructor
  · intro k i hi hx
    have := k i (by omega) (by rw [e1 X i hi]; exact hx)
    rwa [e1 a i hi] at this
  · intro k i hi hx
    rcases Nat.lt_succ_iff_lt_or_eq.mp hi with h1 | rfl
    · rw [e1 X i h1] at hx
      rw [e1 a i h1]; exact k i h1 hx
    · rw [Nat.add_comm, Nat.testBit_two_pow_add_eq, lt_bit ha]; rfl

/-- the statement's test of a run, on naturals -/
theorem test_iff {z a h : Int} (z0 : 0 ≤ z) (a0 : 0 ≤ a) : Builtin.bitOr ((z + a).fmod (2 ^ h.toNat)) a = a ↔ goodN h.toNat (z + a).toNat a.toNat := by
  have p : (1 : Int) ≤ 2 ^ h.toNat := one_le_pow2'
  have e0 : (z + a).fmod (2 ^ h.toNat) = (((z + a).toNat % 2 ^ h.toNat : Nat) : Int) := by
    rw [Int.fmod_eq_emod_of_nonneg _ (by omega)]
    have : z + a = (((z + a).toNat : Nat) : Int) := by omega
    conv => lhs; rw [this]
    push_cast
    rfl
  unfold goodN
  rw [e0, bitOr_and, bitAnd_pp (by omega) a0, ← and_eq_iff]
  constructor
  · intro e
    rw [Int.toNat_natCast] at e
    omega
  · intro e
    rw [Int.toNat_natCast, e]
    omega

noncomputable def goodI (zs : List Int) (a h : Int) (k : Nat) : Prop := Builtin.bitOr ((zs.getD k 0 + a).fmod (2 ^ h.toNat)) a = a
theorem cut_lt (zs : List Int) (a h l : Int) (j : Nat) : ∀ n : Nat, (j : Int) < ((List.range n).map Int.ofNat).foldl (cutStep zs a h) l ↔ (j : Int) < l ∧ ∀ k, k < n → k < j → goodI zs a h k
  | 0 => by simp
  | n + 1 => by
    have ih := cut_lt zs a h l j n
    rw [cut_next]
    generalize ((List.range n).map Int.ofNat).foldl (cutStep zs a h) l = q at *
    unfold cutStep
    by_cases hg : goodI zs a h n
    · have hg' : Builtin.bitOr ((zs.getD ((n : Int).toNat) 0 + a).fmod (2 ^ h.toNat)) a = a := hg
      rw [if_pos hg', ih]
      refine and_congr_right fun _ => ⟨fun k i hi hj => ?_, fun k i hi hj => k i (by omega) hj⟩
      rcases Nat.lt_succ_iff_lt_or_eq.mp hi with h1 | rfl
      · exact k i h1 hj
      · exact hg
    · have hg' : ¬ Builtin.bitOr ((zs.getD ((n : Int).toNat) 0 + a).fmod (2 ^ h.toNat)) a = a := hg
      rw [if_neg hg']
      constructor
      · intro hj
        have hj2 : (j : Int) < q ∧ j ≤ n := by split at hj <;> omega
        obtain ⟨h1, h2⟩ := ih.mp hj2.1
        refine ⟨h1, fun k hk hkj => ?_⟩
        exact h2 k (by omega) hkj
      · rintro ⟨h1, h2⟩
        have hn : ¬ n < j := fun hn => hg (h2 n (by omega) hn)
        have := ih.mpr ⟨h1, fun k hk hkj => h2 k (by omega) hkj⟩
        split <;> omega

structure DOk (c : Int × Int × Int) : Prop where
  h0 : 0 ≤ c.2.1
  a0 : 0 ≤ c.1
  a1 : c.1 < 2 ^ c.2.1.toNat
  l0 : 0 ≤ c.2.2
  l1 : c.2.2 ≤ 5
noncomputable def qN (zs : List Int) (c : Int × Int × Int) (i : Nat) : Nat := ((zs.getD i 0 + c.1).fdiv (2 ^ c.2.1.toNat)).toNat
noncomputable def cN (zs : List Int) (c : Int × Int × Int) : Nat := (cutF zs c).toNat
theorem dueW_eq (zs : List Int) (c : Int × Int × Int) : dueW zs c = (List.range (cN zs c)).map (qN zs c) := rfl
theorem cN_lt {zs : List Int} {c : Int × Int × Int} (ok : DOk c) (j : Nat) : j < cN zs c ↔ (j : Int) < c.2.2 ∧ ∀ k, k < j → goodI zs c.1 c.2.1 k := by
  have h := cut_lt zs c.1 c.2.1 c.2.2 j 5
  have e : j < cN zs c ↔ (j : Int) < cutF zs c := by unfold cN; omega
  rw [e]
  show (j : Int) < ((List.range 5).map Int.ofNat).foldl (cutStep zs c.1 c.2.1) c.2.2 ↔ _
  rw [h]
  refine and_congr_right fun hj => ⟨fun k i hi => k i (by have := ok.l1; omega) hi, fun k i _ hi => k i hi⟩
theorem cN_le {zs : List Int} {c : Int × Int × Int} (ok : DOk c) : cN zs c ≤ 5 := by
  rcases Nat.lt_or_ge 5 (cN zs c) with h | h
  · have := ((cN_lt ok 5).mp h).1
    have := ok.l1
    omega
  · exact h

theorem range_ext {n m : Nat} (h : ∀ j, j < n ↔ j < m) : n = m := by
  have h1 := h n; have h2 := h m; omega
/-- reading a reply's name -/
theorem cutPar_range : ∀ (f : Nat → Nat) (L : Nat), ∃ L', cutPar ((List.range L).map f) = (List.range L').map (fun i => f i / 2) ∧ ∀ j, j < L' ↔ j < L ∧ ∀ k, k < j → f k % 2 = 0
  | f, 0 => ⟨0, rfl, by simp⟩
  | f, L + 1 => by
    rw [List.range_succ_eq_map, List.map_cons, List.map_map]
    by_cases hp : f 0 % 2 = 1
    · refine ⟨1, by simp [cutPar, hp], fun j => ⟨fun hj => ⟨by omega, fun k hk => by omega⟩, fun hj => ?_⟩⟩
      rcases Nat.lt_or_ge j 1 with h | h
      · exact h
      · have := hj.2 0 (by omega); omega
    · obtain ⟨L', h1, h2⟩ := cutPar_range (f ∘ Nat.succ) L
      refine ⟨L' + 1, ?_, fun j => ?_⟩
      · rw [List.range_succ_eq_map, List.map_cons, List.map_map]
        show (if f 0 % 2 = 1 then [f 0 / 2] else f 0 / 2 :: cutPar _) = _
        rw [if_neg hp, h1]
        rfl
      · cases j with
        | zero => simp
        | succ j =>
          have := h2 j
          constructor
          · intro hj
            obtain ⟨h3, h4⟩ := this.mp (by omega)
            refine ⟨by omega, fun k hk => ?_⟩
            cases k with
            | zero => omega
            | succ k => exact h4 k (by omega)
          · rintro ⟨h3, h4⟩
            have := this.mpr ⟨by omega, fun k hk => h4 (k + 1) (by omega)⟩
            omega

theorem fdiv_nat {z a h : Int} (z0 : 0 ≤ z) (a0 : 0 ≤ a) : ((z + a).fdiv (2 ^ h.toNat)).toNat = (z + a).toNat / 2 ^ h.toNat := by
  have p : (1 : Int) ≤ 2 ^ h.toNat := one_le_pow2'
  rw [Int.fdiv_eq_ediv_of_nonneg _ (by omega)]
  have : z + a = (((z + a).toNat : Nat) : Int) := by omega
  have e : (z + a) / 2 ^ h.toNat = (((z + a).toNat / 2 ^ h.toNat : Nat) : Int) := by
    conv => lhs; rw [this]
    push_cast
    rfl
  rw [e]; exact Int.toNat_natCast _
theorem getD_nn {zs : List Int} (hz : ∀ z ∈ zs, 0 ≤ z) (i : Nat) : 0 ≤ zs.getD i 0 := by
  rw [List.getD_eq_getElem?_getD]
  cases h : zs[i]? with
  | none => simp
  | some z => simpa using hz z (List.mem_of_getElem? h)

theorem fit_take (head width : Int) : ∀ (zs : List Int) (n : Nat) (wide fit : Int), fitGo head width (zs.take n) wide fit = if fitGo head width zs wide fit ≤ fit + (n : Int) then fitGo head width zs wide fit else fit + (n : Int)
  | zs, 0, wide, fit => by
    have := fitGo_ge head width zs wide fit
    simp only [List.take_zero, fitGo]
    split <;> omega
  | [], n + 1, wide, fit => by
    rw [List.take_nil]
    show fit = if fit ≤ fit + ((n + 1 : Nat) : Int) then fit else fit + ((n + 1 : Nat) : Int)
    rw [if_pos (by omega)]
  | z :: r, n + 1, wide, fit => by
    rw [List.take_succ_cons]
    unfold fitGo
    generalize (if fit > 0 then wide + (z + 1) + 1 else wide + (z + 1)) = q
    by_cases hc : q > width ∧ (fit > 0 ∨ head > 0)
    · rw [if_pos hc, if_pos hc, if_pos (by omega)]
    · rw [if_neg hc, if_neg hc, fit_take head width r n q (fit + 1)]
      have : fit + 1 + (n : Int) = fit + ((n + 1 : Nat) : Int) := by omega
      rw [this]
where
  fitGo_ge (head width : Int) : ∀ (zs : List Int) (wide fit : Int), fit ≤ fitGo head width zs wide fit
    | [], _, fit => Int.le_refl _
    | z :: r, wide, fit => by
      unfold fitGo
      generalize (if fit > 0 then wide + (z + 1) + 1 else wide + (z + 1)) = q
      by_cases hc : q > width ∧ (fit > 0 ∨ head > 0)
      · rw [if_pos hc]; exact Int.le_refl _
      · rw [if_neg hc]; have := fitGo_ge head width r q (fit + 1); omega
theorem fit_takeF (zs : List Int) (n : Nat) (head width : Int) : fitF (zs.take n) head width = if fitF zs head width ≤ (n : Int) then fitF zs head width else (n : Int) := by
  unfold fitF
  rw [fit_take, Int.zero_add]

theorem pow_cast (n : Nat) : ((2 ^ n : Nat) : Int) = 2 ^ n := by push_cast; rfl
theorem toNat_pow {a : Int} {n : Nat} (a0 : 0 ≤ a) : (a + 2 ^ n).toNat = a.toNat + 2 ^ n := by
  refine Exists.elim (Int.eq_ofNat_of_zero_le a0) fun m e => ?_
  subst e
  rw [← pow_cast, Int.toNat_natCast]
  exact Int.toNat_natCast (m + 2 ^ n)
theorem step_ok {zs : List Int} {c d : Int × Int × Int} (ok : DOk c) : DOk (dueStep zs c d) := by
  obtain ⟨h0, a0, a1, l0, l1⟩ := ok
  unfold dueStep
  split
  · refine ⟨h0, a0, a1, ?_, ?_⟩
    · dsimp only; split
      · exact fitF_nonneg _ _ _
      · exact l0
    · dsimp only; split
      · exact Int.le_trans (Int.le_of_lt ‹_›) l1
      · exact l1
  · split
    · exact ⟨nn_up h0, pow_nn a0, pow_up2 h0 a1, l0, l1⟩
    · exact ⟨nn_up h0, a0, pow_up h0 a1, l0, l1⟩
theorem fold_ok (zs : List Int) : ∀ (D : List (Int × Int × Int)) (c : Int × Int × Int), DOk c → DOk (D.foldl (dueStep zs) c)
  | [], _, h => h
  | d :: D, c, h => fold_ok zs D _ (step_ok h)
theorem ok0 : DOk (0, 0, 5) := ⟨Int.le_refl _, Int.le_refl _, by decide, by decide, by decide⟩

theorem range5 {zs : List Int} (h : zs.length = 5) (g : Int → Int) : zs.map g = (List.range 5).map (fun i => g (zs.getD i 0)) := by
  match zs, h with
  | [a, b, c, d, e], _ => rfl

/-- one deed -/
theorem after_step {zs : List Int} (hl : zs.length = 5) (hz : ∀ z ∈ zs, 0 ≤ z) {c : Int × Int × Int} (ok : DOk c) (d : Int × Int × Int) : afterW (dueW zs c) d = dueW zs (dueStep zs c d) := by
  have hq : ∀ c' : Int × Int × Int, 0 ≤ c'.1 → ∀ i, qN zs c' i = (zs.getD i 0 + c'.1).toNat / 2 ^ c'.2.1.toNat := fun c' h i => fdiv_nat (getD_nn hz i) h
  have hgI : ∀ (a h : Int) (k : Nat), 0 ≤ a → (goodI zs a h k ↔ goodN h.toNat (zs.getD k 0 + a).toNat a.toNat) := fun a h k h0 => test_iff (getD_nn hz k) h0
  obtain ⟨h0, a0, a1, l0, l1⟩ := ok
  have a1n : c.1.toNat < 2 ^ c.2.1.toNat := by
    exact (Int.toNat_lt a0).mpr (by rw [pow_cast]; exact a1)
  have eh : (c.2.1 + 1).toNat = c.2.1.toNat + 1 := toNat_up h0
  unfold afterW
  by_cases k2 : d.1 = 2
  · rw [if_pos k2]
    have ok' : DOk (dueStep zs c d) := step_ok ⟨h0, a0, a1, l0, l1⟩
    have hs : dueStep zs c d = (c.1, c.2.1, if fitF (zs.map fun z => (z + c.1).fdiv (2 ^ c.2.1.toNat)) d.2.1 d.2.2 < c.2.2 then fitF (zs.map fun z => (z + c.1).fdiv (2 ^ c.2.1.toNat)) d.2.1 d.2.2 else c.2.2) := by
      unfold dueStep; rw [if_pos k2]
    have hall : (zs.map fun z => (z + c.1).fdiv (2 ^ c.2.1.toNat)) = ((List.range 5).map (qN zs c)).map Int.ofNat := by
      rw [range5 hl, List.map_map]
      refine List.map_congr_left fun i _ => ?_
      show _ = ((qN zs c i : Nat) : Int)
      unfold qN
      have : 0 ≤ (zs.getD i 0 + c.1).fdiv (2 ^ c.2.1.toNat) := by
        have p : (1 : Int) ≤ 2 ^ c.2.1.toNat := one_le_pow2'
        rw [Int.fdiv_eq_ediv_of_nonneg _ (Int.le_trans (by decide) p)]
        exact Int.ediv_nonneg (Int.add_nonneg (getD_nn hz i) a0) (Int.le_trans (by decide) p)
      exact (Int.toNat_of_nonneg this).symm
    have hpre : (dueW zs c).map Int.ofNat = (zs.map fun z => (z + c.1).fdiv (2 ^ c.2.1.toNat)).take (cN zs c) := by
      rw [hall, dueW_eq, ← List.map_take, ← List.map_take, List.take_range, Nat.min_eq_left (cN_le ⟨h0, a0, a1, l0, l1⟩)]
    rw [hpre, fit_takeF]
    have hf := fitF_nonneg (zs.map fun z => (z + c.1).fdiv (2 ^ c.2.1.toNat)) d.2.1 d.2.2
    rw [hs] at ok' ⊢
    generalize fitF (zs.map fun z => (z + c.1).fdiv (2 ^ c.2.1.toNat)) d.2.1 d.2.2 = F at *
    rw [dueW_eq, dueW_eq, ← List.map_take, List.take_range]
    have hcn : cN zs (c.1, c.2.1, if F < c.2.2 then F else c.2.2) = min (if F ≤ (cN zs c : Int) then F else (cN zs c : Int)).toNat (cN zs c) := by
      refine range_ext fun j => ?_
      rw [cN_lt ok' j]
      have h3 := cN_lt (zs := zs) (c := c) ⟨h0, a0, a1, l0, l1⟩ j
      dsimp only
      constructor
      · rintro ⟨x1, x2⟩
        have x3 : j < cN zs c := h3.mpr ⟨by split at x1 <;> omega, x2⟩
        have : (j : Int) < F := by split at x1 <;> omega
        rw [Nat.lt_min]
        refine ⟨?_, x3⟩
        split <;> omega
      · intro x
        rw [Nat.lt_min] at x
        have x3 := h3.mp x.2
        refine ⟨?_, x3.2⟩
        have : (j : Int) < F := by
          have := x.1
          split at this <;> omega
        split <;> omega
    rw [hcn]
    rfl
  · rw [if_neg k2]
    by_cases k1 : d.1 = 1
    · rw [if_pos k1]
      have hs : dueStep zs c d = (c.1 + 2 ^ c.2.1.toNat, c.2.1 + 1, c.2.2) := by unfold dueStep; rw [if_neg k2, if_pos k1]
      have ok' : DOk (dueStep zs c d) := step_ok ⟨h0, a0, a1, l0, l1⟩
      rw [hs] at ok' ⊢
      rw [dueW_eq, dueW_eq, List.map_map]
      have p : (1 : Int) ≤ 2 ^ c.2.1.toNat := one_le_pow2'
      have e2 : (c.1 + 2 ^ c.2.1.toNat).toNat = c.1.toNat + 2 ^ c.2.1.toNat := toNat_pow a0
      have e3 : ∀ i, (zs.getD i 0 + (c.1 + 2 ^ c.2.1.toNat)).toNat = (zs.getD i 0 + c.1).toNat + 2 ^ c.2.1.toNat := fun i => by
        rw [← Int.add_assoc]; exact toNat_pow (Int.add_nonneg (getD_nn hz i) a0)
      have hcn : cN zs (c.1 + 2 ^ c.2.1.toNat, c.2.1 + 1, c.2.2) = cN zs c := by
        refine range_ext fun j => ?_
        rw [cN_lt ok' j, cN_lt ⟨h0, a0, a1, l0, l1⟩ j]
        refine and_congr_right fun _ => forall_congr' fun k => imp_congr_right fun _ => ?_
        dsimp only
        rw [hgI _ _ _ a0, hgI _ _ _ (pow_nn a0), eh, e2, e3]
        exact good_one a1n
      rw [hcn]
      refine List.map_congr_left fun i _ => ?_
      rw [hq _ (pow_nn a0)]
      dsimp only [Function.comp]
      rw [hq c a0, e3, eh, Nat.pow_succ, ← Nat.div_div_eq_div_mul, Nat.add_div_right _ (Nat.two_pow_pos _)]
    · rw [if_neg k1]
      have hs : dueStep zs c d = (c.1, c.2.1 + 1, c.2.2) := by unfold dueStep; rw [if_neg k2, if_neg k1]
      have ok' : DOk (dueStep zs c d) := step_ok ⟨h0, a0, a1, l0, l1⟩
      rw [hs] at ok' ⊢
      rw [dueW_eq, dueW_eq]
      obtain ⟨L', e1, e2⟩ := cutPar_range (qN zs c) (cN zs c)
      rw [e1]
      have hcn : cN zs (c.1, c.2.1 + 1, c.2.2) = L' := by
        refine range_ext fun j => ?_
        rw [cN_lt ok' j, e2 j, cN_lt ⟨h0, a0, a1, l0, l1⟩ j, and_assoc]
        refine and_congr_right fun _ => ?_
        dsimp only
        constructor
        · intro k
          refine ⟨fun i hi => ?_, fun i hi => ?_⟩
          · have := k i hi
            rw [hgI _ _ _ a0, eh, good_zero a1n] at this
            rw [hgI _ _ _ a0]; exact this.1
          · have := k i hi
            rw [hgI _ _ _ a0, eh, good_zero a1n] at this
            rw [hq c a0]; exact this.2
        · rintro ⟨k, k'⟩ i hi
          rw [hgI _ _ _ a0, eh, good_zero a1n]
          refine ⟨(hgI _ _ _ a0).mp (k i hi), ?_⟩
          have := k' i hi
          rwa [hq c a0] at this
      rw [hcn]
      refine List.map_congr_left fun i _ => ?_
      rw [hq (c.1, c.2.1 + 1, c.2.2) a0, hq c a0]
      dsimp only
      rw [eh, Nat.pow_succ, ← Nat.div_div_eq_div_mul]

theorem dueW_zero {zs : List Int} (hl : zs.length = 5) : dueW zs (0, 0, 5) = zs.map Int.toNat := by
  match zs, hl with
  | [a, b, c, d, e], _ =>
    have h : ∀ (z : Int), Builtin.bitOr ((z + 0).fmod (2 ^ (0 : Int).toNat)) 0 = 0 := by
      intro z
      have : (z + 0).fmod (2 ^ (0 : Int).toNat) = 0 := by
        show (z + 0).fmod 1 = 0
        rw [Int.fmod_eq_emod_of_nonneg _ (by decide)]; omega
      rw [this]; decide
    have hc : cN [a, b, c, d, e] (0, 0, 5) = 5 := by
      refine range_ext fun j => ?_
      rw [cN_lt ok0 j]
      dsimp only
      refine ⟨fun x => by omega, fun x => ⟨by omega, fun k _ => h _⟩⟩
    rw [dueW_eq, hc]
    have q : ∀ i, qN [a, b, c, d, e] (0, 0, 5) i = ([a, b, c, d, e].getD i 0).toNat := fun i => by
      unfold qN
      show (([a, b, c, d, e].getD i 0 + 0).fdiv 1).toNat = _
      rw [Int.fdiv_eq_ediv_of_nonneg _ (by decide)]; simp
    show [_, _, _, _, _] = [_, _, _, _, _]
    simp only [q]
    rfl

end Mine
end
section
open PySem PySem.W PySem.Calls PyProof.Rows PySem.Builtin
set_option Elab.async false
set_option maxRecDepth 100000
set_option linter.unusedVariables false
namespace Mine
/-! the first row of a folded text -/
noncomputable def strC (Ls : List (Str × Str)) : List Nat := Ls.flatMap fun p => p.1.cps.toList ++ p.2.cps.toList
theorem join_one (sep a : Str) : Txt.join sep [a] = a := by
  show Builtin.Str.glued sep [a] = a
  rw [StrLaws.glued_eq_join]
  rfl
theorem emp_codes : (Str.ofString "").cps = #[] := by decide +kernel
theorem spc_codes : (Str.ofString " ").cps = #[32] := by decide +kernel
theorem join_codes : ∀ l : List Str, (Txt.join (Str.ofString "") l).cps.toList = l.flatMap fun a => a.cps.toList
  | [] => rfl
  | [a] => by rw [join_one]; simp
  | a :: b :: r => by
    rw [join_cons2, emp_codes]
    have ih := join_codes (b :: r)
    simp only [Array.append_empty, Array.toList_append, ih, List.flatMap_cons]
theorem strL_codes (Ls : List (Str × Str)) : (strL Ls).cps.toList = strC Ls := by
  unfold strL strC
  rw [join_codes, List.flatMap_map]
  congr 1
  funext p
  unfold pairS
  rw [join_codes]
  simp
theorem strL_eq {Ls : List (Str × Str)} {l : List Nat} (h : strC Ls = l) : strL Ls = ⟨l.toArray⟩ := str_of_list (by rw [strL_codes, h])

noncomputable def wls : Nat → List Nat → List (List Nat)
  | _, [] => []
  | k, n :: r => wordL k n :: wls (k + 1) r
theorem wls_len : ∀ (k : Nat) (ws : List Nat), (wls k ws).length = ws.length
  | _, [] => rfl
  | k, n :: r => by simp [wls, wls_len (k + 1) r]
theorem text_join : ∀ (r : List Nat) (k n : Nat), textFrom k (n :: r) = joinW (wordL k n) (wls (k + 1) r)
  | [], k, n => rfl
  | m :: r, k, n => by
    show wordL k n ++ 32 :: textFrom (k + 1) (m :: r) = wordL k n ++ 32 :: joinW (wordL (k + 1) m) (wls (k + 1 + 1) r)
    rw [text_join r (k + 1) m]
theorem text_snoc : ∀ (ws : List Nat) (k n : Nat), ws ≠ [] → textFrom k (ws ++ [n]) = textFrom k ws ++ 32 :: wordL (k + ws.length) n
  | [], k, n, h => absurd rfl h
  | [m], k, n, _ => by simp [textFrom]
  | m :: m' :: r, k, n, _ => by
    have ih := text_snoc (m' :: r) (k + 1) n (by simp)
    show wordL k m ++ 32 :: textFrom (k + 1) ((m' :: r) ++ [n]) = (wordL k m ++ 32 :: textFrom (k + 1) (m' :: r)) ++ 32 :: _
    rw [ih]
    have : k + 1 + (m' :: r).length = k + (m :: m' :: r).length := by simp; omega
    rw [this]
    simp

theorem totL_snoc (Ls : List (Str × Str)) (c : Str × Str) : totL (Ls ++ [c]) = totL Ls + (c.1.length + c.2.length) := by simp [totL]
theorem wS_len (w : List Nat) : (wS w).length = w.length := by simp [wS, Str.length]
theorem wordL_len (k n : Nat) : (wordL k n).length = n + 1 := by simp [wordL]
theorem wS_codes (w : List Nat) : (wS w).cps.toList = w := by simp [wS]
theorem spc_len : (Str.ofString " ").length = 1 := by decide +kernel
theorem emp_len : (Str.ofString "").length = 0 := by decide +kernel

/-- the rows that stand stay -/
theorem rows_head {M : Int} {x : Str} : ∀ (cs : List (Str × Str)) (st : FSt), (∃ l, st.1 = x :: l) → ∃ l, (cs.foldl (stp M) st).1 = x :: l
  | [], st, h => h
  | c :: cs, st, ⟨l, h⟩ => by
    refine rows_head cs (stp M st c) ?_
    unfold stp
    split
    · exact ⟨l, h⟩
    · split
      · split
        · exact ⟨l ++ [Str.ofString ""], by simp [h]⟩
        · exact ⟨l, h⟩
      · exact ⟨l ++ [strL st.2.1], by simp [h]⟩

noncomputable def rowsOf (st : FSt) : List Str := st.1 ++ [strL st.2.1]
theorem first_of {M : Int} {x : Str} {cs : List (Str × Str)} {st : FSt} (h : ∃ l, st.1 = x :: l) : ((rowsOf (cs.foldl (stp M) st)).head?) = some x := by
  obtain ⟨l, e⟩ := rows_head (M := M) cs st h
  simp [rowsOf, e]

theorem first_go {M z : Int} : ∀ (rs done : List Nat) (items : List (Str × Str)), done ≠ [] → items ≠ [] → strC items = textFrom 0 done →
    (rowsOf (((wls done.length rs).map fun v => (Str.ofString " ", wS v)).foldl (stp M) ([], items, z))).head? =
      some ⟨(textFrom 0 (done ++ rs.take (fitGo z M (rs.map Int.ofNat) (z + totL items) done.length - done.length).toNat)).toArray⟩
  | [], done, items, hd, hi, hs => by
    simp [wls, rowsOf, strL_eq hs]
  | n :: rs, done, items, hd, hi, hs => by
    have hl : 0 < done.length := by cases done with | nil => exact absurd rfl hd | cons _ _ => simp
    simp only [wls, List.map_cons, List.foldl_cons]
    have ht : totL (items ++ [(Str.ofString " ", wS (wordL done.length n))]) = totL items + (n + 2) := by
      rw [totL_snoc, wS_len, wordL_len, spc_len]; omega
    have hw : (if ((done.length : Nat) : Int) > 0 then z + (totL items : Int) + (Int.ofNat n + 1) + 1 else z + (totL items : Int) + (Int.ofNat n + 1)) = z + ((totL items + (n + 2) : Nat) : Int) := by
      rw [if_pos (by omega)]
      show z + (totL items : Int) + ((n : Int) + 1) + 1 = _
      omega
    by_cases hA : z + ((totL items + (n + 2) : Nat) : Int) ≤ M
    · have es : stp M ([], items, z) (Str.ofString " ", wS (wordL done.length n)) = ([], items ++ [(Str.ofString " ", wS (wordL done.length n))], z) := by
        unfold stp; rw [if_pos (by dsimp only; rw [ht]; exact hA)]
      rw [es]
      have ih := first_go (M := M) (z := z) rs (done ++ [n]) (items ++ [(Str.ofString " ", wS (wordL done.length n))]) (by simp) (by simp) (by
        rw [text_snoc _ _ _ hd, Nat.zero_add, ← hs]
        simp [strC, wS_codes, spc_codes])
      rw [show (done ++ [n]).length = done.length + 1 by simp] at ih
      rw [ih]
      have hg : fitGo z M (Int.ofNat n :: rs.map Int.ofNat) (z + (totL items : Int)) done.length = fitGo z M (rs.map Int.ofNat) (z + ((totL items + (n + 2) : Nat) : Int)) (done.length + 1) := by
        conv => lhs; unfold fitGo
        rw [hw, if_neg (by omega)]
      rw [hg, ht]
      have hge := fit_take.fitGo_ge z M (rs.map Int.ofNat) (z + ((totL items + (n + 2) : Nat) : Int)) (done.length + 1)
      have e1 : ((done.length + 1 : Nat) : Int) = (done.length : Int) + 1 := by omega
      rw [e1]
      generalize fitGo z M (rs.map Int.ofNat) (z + ((totL items + (n + 2) : Nat) : Int)) ((done.length : Int) + 1) = F at *
      have e2 : (F - (done.length : Int)).toNat = (F - ((done.length : Int) + 1)).toNat + 1 := by omega
      rw [e2, List.take_succ_cons]
      simp
    · have es : stp M ([], items, z) (Str.ofString " ", wS (wordL done.length n)) = ([] ++ [strL items], [(Str.ofString " ", wS (wordL done.length n))], 0) := by
        unfold stp; rw [if_neg (by dsimp only; rw [ht]; exact hA), if_neg hi]
      rw [es, first_of ⟨[], rfl⟩]
      have hg : fitGo z M (Int.ofNat n :: rs.map Int.ofNat) (z + (totL items : Int)) done.length = done.length := by
        conv => lhs; unfold fitGo
        rw [hw, if_pos ⟨by omega, .inl (by omega)⟩]
      rw [hg, strL_eq hs]
      simp

/-- the first row of a text of words, folded -/
theorem first_row {M z : Int} (hz : 0 ≤ z) (n : Nat) (r : List Nat) : (rowsOf (stAt M z (wls 0 (n :: r)) (wls 0 (n :: r)).length)).head? = some (textS ((n :: r).take (fitF ((n :: r).map Int.ofNat) z M).toNat)) := by
  unfold stAt
  rw [List.take_of_length_le (by rw [prs_len]; exact Nat.le_refl _)]
  simp only [wls, prs, List.foldl_cons]
  have ht : totL ([] ++ [(Str.ofString "", wS (wordL 0 n))]) = n + 1 := by
    rw [totL_snoc, wS_len, wordL_len, emp_len]; simp [totL]
  have ht' : totL [(Str.ofString "", wS (wordL 0 n))] = n + 1 := by simpa using ht
  unfold fitF
  have hw : (if (0 : Int) > 0 then z + (Int.ofNat n + 1) + 1 else z + (Int.ofNat n + 1)) = z + ((n + 1 : Nat) : Int) := by
    rw [if_neg (by omega)]
    show z + ((n : Int) + 1) = _
    omega
  have hs : strC [(Str.ofString "", wS (wordL 0 n))] = textFrom 0 [n] := by
    simp [strC, wS_codes, emp_codes, textFrom]
  have go := first_go (M := M) (z := z) r [n] [(Str.ofString "", wS (wordL 0 n))] (by simp) (by simp) hs
  rw [ht'] at go
  have fin : ∀ F : Int, 1 ≤ F → (⟨(textFrom 0 ([n] ++ r.take (F - (([n] : List Nat).length : Int)).toNat)).toArray⟩ : Str) = textS ((n :: r).take F.toNat) := by
    intro F hF
    have : F.toNat = (F - (([n] : List Nat).length : Int)).toNat + 1 := by simp; omega
    unfold textS
    rw [this, List.take_succ_cons]
    rfl
  have hge := fit_take.fitGo_ge z M (r.map Int.ofNat) (z + ((n + 1 : Nat) : Int)) 1
  by_cases hA : z + ((n + 1 : Nat) : Int) ≤ M
  · have es : stp M ([], [], z) (Str.ofString "", wS (wordL 0 n)) = ([], [] ++ [(Str.ofString "", wS (wordL 0 n))], z) := by
      unfold stp; rw [if_pos (by dsimp only; rw [ht]; exact hA)]
    have hg : fitGo z M ((n :: r).map Int.ofNat) z 0 = fitGo z M (r.map Int.ofNat) (z + ((n + 1 : Nat) : Int)) 1 := by
      rw [List.map_cons]
      conv => lhs; unfold fitGo
      rw [hw, if_neg (by omega)]
      rfl
    rw [es, hg]
    exact go.trans (congrArg some (fin _ hge))
  · by_cases hp : 0 < z
    · have es : stp M ([], [], z) (Str.ofString "", wS (wordL 0 n)) = ([] ++ [Str.ofString ""], [(Str.ofString " ", wS (wordL 0 n))], 0) := by
        unfold stp; rw [if_neg (by dsimp only; rw [ht]; exact hA), if_pos rfl, if_pos hp]
      rw [es, first_of ⟨[], rfl⟩]
      have hg : fitGo z M ((n :: r).map Int.ofNat) z 0 = 0 := by
        rw [List.map_cons]
        conv => lhs; unfold fitGo
        rw [hw, if_pos ⟨by omega, .inr (by omega)⟩]
      rw [hg]
      have e0 : Str.ofString "" = textS [] := by decide +kernel
      exact congrArg some e0
    · have es : stp M ([], [], z) (Str.ofString "", wS (wordL 0 n)) = ([], [(Str.ofString "", wS (wordL 0 n))], z) := by
        unfold stp; rw [if_neg (by dsimp only; rw [ht]; exact hA), if_pos rfl, if_neg hp]
      have hg : fitGo z M ((n :: r).map Int.ofNat) z 0 = fitGo z M (r.map Int.ofNat) (z + ((n + 1 : Nat) : Int)) 1 := by
        rw [List.map_cons]
        conv => lhs; unfold fitGo
        rw [hw, if_neg (by omega)]
        rfl
      rw [es, hg]
      exact go.trans (congrArg some (fin _ hge))

/-- no row has a line's end in it -/
noncomputable def NoNL (x : Str) : Prop := ∀ c ∈ x.cps.toList, c ≠ 10
noncomputable def StNL (st : FSt) : Prop := (∀ x ∈ st.1, NoNL x) ∧ ∀ p ∈ st.2.1, NoNL p.1 ∧ NoNL p.2
theorem nl_emp : NoNL (Str.ofString "") := by unfold NoNL; rw [emp_codes]; simp
theorem nl_spc : NoNL (Str.ofString " ") := by unfold NoNL; rw [spc_codes]; simp
theorem nl_strL {Ls : List (Str × Str)} (h : ∀ p ∈ Ls, NoNL p.1 ∧ NoNL p.2) : NoNL (strL Ls) := by
  unfold NoNL
  rw [strL_codes]
  intro c hc
  unfold strC at hc
  obtain ⟨p, hp, hc⟩ := List.mem_flatMap.mp hc
  rcases List.mem_append.mp hc with hc | hc
  · exact (h p hp).1 c hc
  · exact (h p hp).2 c hc
theorem nl_stp {M : Int} {st : FSt} {c : Str × Str} (h : StNL st) (hc : NoNL c.1 ∧ NoNL c.2) : StNL (stp M st c) := by
  obtain ⟨h1, h2⟩ := h
  unfold stp
  split
  · refine ⟨h1, fun p hp => ?_⟩
    rcases List.mem_append.mp hp with hp | hp
    · exact h2 p hp
    · rw [List.mem_singleton.mp hp]; exact hc
  · split
    · split
      · refine ⟨fun x hx => ?_, fun p hp => ?_⟩
        · rcases List.mem_append.mp hx with hx | hx
          · exact h1 x hx
          · rw [List.mem_singleton.mp hx]; exact nl_emp
        · rw [List.mem_singleton.mp hp]; exact ⟨nl_spc, hc.2⟩
      · refine ⟨h1, fun p hp => ?_⟩
        rw [List.mem_singleton.mp hp]; exact hc
    · refine ⟨fun x hx => ?_, fun p hp => ?_⟩
      · rcases List.mem_append.mp hx with hx | hx
        · exact h1 x hx
        · rw [List.mem_singleton.mp hx]; exact nl_strL h2
      · rw [List.mem_singleton.mp hp]; exact ⟨nl_spc, hc.2⟩
theorem nl_fold {M : Int} : ∀ (cs : List (Str × Str)) (st : FSt), StNL st → (∀ c ∈ cs, NoNL c.1 ∧ NoNL c.2) → StNL (cs.foldl (stp M) st)
  | [], st, h, _ => h
  | c :: cs, st, h, hc => nl_fold cs _ (nl_stp h (hc c (List.mem_cons_self ..))) fun d hd => hc d (List.mem_cons_of_mem _ hd)
theorem nl_word (k n : Nat) (hk : k ≤ 100) : NoNL (wS (wordL k n)) := by
  unfold NoNL
  rw [wS_codes]
  unfold wordL
  intro c hc
  rcases List.mem_cons.mp hc with rfl | hc
  · omega
  · rw [List.eq_of_mem_replicate hc]; decide
theorem wls_mem : ∀ (ws : List Nat) (k : Nat) (v : List Nat), v ∈ wls k ws → ∃ j n, v = wordL j n ∧ k ≤ j ∧ j < k + ws.length ∧ n ∈ ws
  | [], k, v, h => by simp [wls] at h
  | n :: r, k, v, h => by
    rcases List.mem_cons.mp h with rfl | h
    · exact ⟨k, n, rfl, Nat.le_refl _, by simp, List.mem_cons_self ..⟩
    · obtain ⟨j, n', e, h1, h2, h3⟩ := wls_mem r (k + 1) v h
      exact ⟨j, n', e, by omega, by simp; omega, List.mem_cons_of_mem _ h3⟩
theorem prs_mem {ws : List (List Nat)} {c : Str × Str} (h : c ∈ prs ws) : (c.1 = Str.ofString "" ∨ c.1 = Str.ofString " ") ∧ ∃ v ∈ ws, c.2 = wS v := by
  cases ws with
  | nil => simp [prs] at h
  | cons w ws =>
    simp only [prs, List.mem_cons, List.mem_map] at h
    rcases h with rfl | ⟨v, hv, rfl⟩
    · exact ⟨.inl rfl, w, List.mem_cons_self .., rfl⟩
    · exact ⟨.inr rfl, v, List.mem_cons_of_mem _ hv, rfl⟩
theorem rows_nl {M z : Int} {ws : List Nat} (hl : ws.length ≤ 100) (j : Nat) : ∀ x ∈ rowsOf (stAt M z (wls 0 ws) j), NoNL x := by
  have h : StNL (stAt M z (wls 0 ws) j) := by
    unfold stAt
    refine nl_fold _ _ ⟨by simp, by simp⟩ fun c hc => ?_
    obtain ⟨h1, v, hv, h2⟩ := prs_mem (List.mem_of_mem_take hc)
    obtain ⟨i, n, rfl, _, hi, _⟩ := wls_mem _ _ _ hv
    refine ⟨?_, by rw [h2]; exact nl_word i n (by omega)⟩
    rcases h1 with e | e
    · rw [e]; exact nl_emp
    · rw [e]; exact nl_spc
  intro x hx
  rcases List.mem_append.mp hx with hx | hx
  · exact h.1 x hx
  · rw [List.mem_singleton.mp hx]; exact nl_strL h.2
/-- a word has no blank in it -/
theorem nobl_word (k n : Nat) : NoBl (wordL k n) := by
  unfold NoBl wordL
  intro c hc
  rcases List.mem_cons.mp hc with rfl | hc
  · constructor <;> omega
  · rw [List.eq_of_mem_replicate hc]; decide
end Mine
end
section
open PySem PySem.W PySem.Calls PyProof.Rows PySem.Builtin
set_option Elab.async false
set_option maxRecDepth 100000
set_option linter.unusedVariables false
namespace Mine
/-! texts: split, replace, join, by their signs -/
noncomputable def glueL (c : List Nat) : List (List Nat) → List Nat
  | [] => []
  | [a] => a
  | a :: b :: r => a ++ c ++ glueL c (b :: r)
noncomputable abbrev cdS (x : Str) : List Nat := x.cps.toList
theorem join_glue (sep : Str) : ∀ l : List Str, cdS (Txt.join sep l) = glueL (cdS sep) (l.map cdS)
  | [] => rfl
  | [a] => by rw [join_one]; rfl
  | a :: b :: r => by
    rw [join_cons2]
    have ih := join_glue sep (b :: r)
    simp only [cdS, Array.toList_append, List.map_cons, glueL] at ih ⊢
    rw [ih]
theorem join_join (sep : Str) (l : List Str) : Txt.join sep l = Str.join sep l := by
  show Builtin.Str.glued sep l = _
  rw [StrLaws.glued_eq_join]
theorem cut_inj {c : Nat} : ∀ {a b x y : List Nat}, c ∉ a → c ∉ b → a ++ c :: x = b ++ c :: y → a = b ∧ x = y
  | [], [], x, y, _, _, e => ⟨rfl, by simpa using e⟩
  | [], b :: bs, x, y, _, hb, e => by
    have : c = b := by simpa using (List.cons.inj e).1
    exact absurd (this ▸ List.mem_cons_self ..) hb
  | a :: as, [], x, y, ha, _, e => by
    have : a = c := by simpa using (List.cons.inj e).1
    exact absurd (this ▸ List.mem_cons_self ..) ha
  | a :: as, b :: bs, x, y, ha, hb, e => by
    obtain ⟨h1, h2⟩ := List.cons.inj e
    obtain ⟨h3, h4⟩ := cut_inj (fun h => ha (List.mem_cons_of_mem _ h)) (fun h => hb (List.mem_cons_of_mem _ h)) h2
    exact ⟨by rw [h1, h3], h4⟩
theorem glue_inj {c : Nat} : ∀ (A B : List (List Nat)), A ≠ [] → B ≠ [] → (∀ a ∈ A, c ∉ a) → (∀ b ∈ B, c ∉ b) → glueL [c] A = glueL [c] B → A = B
  | [], _, h, _, _, _, _ => absurd rfl h
  | _ :: _, [], _, h, _, _, _ => absurd rfl h
  | [a], [b], _, _, _, _, e => by rw [show a = b from e]
  | [a], b :: b' :: r, _, _, ha, _, e => by
    exfalso
    have : c ∈ a := by rw [show a = _ from e]; simp [glueL]
    exact ha a (List.mem_cons_self ..) this
  | a :: a' :: r, [b], _, _, _, hb, e => by
    exfalso
    have : c ∈ b := by rw [← show _ = b from e]; simp [glueL]
    exact hb b (List.mem_cons_self ..) this
  | a :: a' :: r, b :: b' :: r', _, _, ha, hb, e => by
    have e' : a ++ c :: glueL [c] (a' :: r) = b ++ c :: glueL [c] (b' :: r') := by simpa [glueL] using e
    obtain ⟨h1, h2⟩ := cut_inj (ha a (List.mem_cons_self ..)) (hb b (List.mem_cons_self ..)) e'
    rw [h1, glue_inj (a' :: r) (b' :: r') (by simp) (by simp) (fun x h => ha x (List.mem_cons_of_mem _ h)) (fun x h => hb x (List.mem_cons_of_mem _ h)) h2]
theorem split_ne (x : Str) (c : Nat) : Txt.split x ⟨#[c]⟩ ≠ [] := by
  intro h
  have h1 := StrLaws.join_split x ⟨#[c]⟩
  rw [h] at h1
  have h2 : x = Str.join ⟨#[c]⟩ [] := h1.symm
  have h3 : x.length = 0 := by rw [h2]; rfl
  unfold Txt.split at h
  rw [if_pos (by rw [h3]; rfl)] at h
  cases h
theorem split_eq {x : Str} {c : Nat} {A : List (List Nat)} (hA : A ≠ []) (hc : ∀ a ∈ A, c ∉ a) (e : cdS x = glueL [c] A) : (Txt.split x ⟨#[c]⟩).map cdS = A := by
  have h1 := StrLaws.join_split x ⟨#[c]⟩
  rw [← join_join] at h1
  have h2 := congrArg cdS h1
  rw [join_glue] at h2
  refine glue_inj _ _ (fun h => split_ne x c (by simpa using h)) hA (fun a ha => ?_) hc (h2.trans e)
  obtain ⟨p, hp, rfl⟩ := List.mem_map.mp ha
  exact StrLaws.split_free x c p hp
theorem wS_cdS (x : Str) : wS (cdS x) = x := by cases x; rfl
theorem split_wS {x : Str} {c : Nat} {A : List (List Nat)} (hA : A ≠ []) (hc : ∀ a ∈ A, c ∉ a) (e : cdS x = glueL [c] A) : Txt.split x ⟨#[c]⟩ = A.map wS := by
  rw [← split_eq hA hc e, List.map_map]
  have : (wS ∘ cdS) = (id : Str → Str) := funext wS_cdS
  rw [this, List.map_id]
/-- the first row -/
theorem split_rows {rows : List Str} {c : Nat} (hne : rows ≠ []) (hc : ∀ x ∈ rows, c ∉ cdS x) : Txt.split (Txt.join ⟨#[c]⟩ rows) ⟨#[c]⟩ = rows := by
  rw [split_wS (A := rows.map cdS) (by simpa using hne) (fun a ha => by obtain ⟨p, hp, rfl⟩ := List.mem_map.mp ha; exact hc p hp) (join_glue _ _), List.map_map]
  have : (wS ∘ cdS) = (id : Str → Str) := funext wS_cdS
  rw [this, List.map_id]
noncomputable def subC (c d e : Nat) : Nat := if e = c then d else e
theorem map_free {c d : Nat} {a : List Nat} (h : c ∉ a) : a.map (subC c d) = a := by
  conv => rhs; rw [← List.map_id a]
  refine List.map_congr_left fun e he => ?_
  have hne : ¬ e = c := fun q => h (by rw [← q]; exact he)
  unfold subC
  rw [if_neg hne]
  rfl
theorem glue_sub {c d : Nat} : ∀ (L : List (List Nat)), (∀ a ∈ L, c ∉ a) → (glueL [c] L).map (subC c d) = glueL [d] L
  | [], _ => rfl
  | [a], h => map_free (h a (List.mem_cons_self ..))
  | a :: b :: r, h => by
    have ih := glue_sub (d := d) (b :: r) fun x hx => h x (List.mem_cons_of_mem _ hx)
    simp only [glueL, List.map_append, ih, map_free (h a (List.mem_cons_self ..))]
    simp [subC]
theorem replace_codes (x : Str) (c d : Nat) : cdS (Txt.replace x ⟨#[c]⟩ ⟨#[d]⟩) = (cdS x).map (subC c d) := by
  rw [StrLaws.replace_one, ← join_join, join_glue]
  have h1 := StrLaws.join_split x ⟨#[c]⟩
  rw [← join_join] at h1
  have h2 := congrArg cdS h1
  rw [join_glue] at h2
  rw [← h2]
  exact (glue_sub _ fun a ha => by obtain ⟨p, hp, rfl⟩ := List.mem_map.mp ha; exact StrLaws.split_free x c p hp).symm

/-! words with another mark -/
noncomputable def wordQ (q k n : Nat) : List Nat := (97 + k) :: List.replicate n q
noncomputable def wlsQ (q : Nat) : Nat → List Nat → List (List Nat)
  | _, [] => []
  | k, n :: r => wordQ q k n :: wlsQ q (k + 1) r
theorem wlsQ_34 : ∀ (k : Nat) (ws : List Nat), wlsQ 34 k ws = wls k ws
  | _, [] => rfl
  | k, n :: r => by simp [wlsQ, wls, wlsQ_34 (k + 1) r, wordQ, wordL]
theorem textFrom_glue : ∀ (ws : List Nat) (k : Nat), textFrom k ws = glueL [32] (wls k ws)
  | [], _ => rfl
  | [n], _ => rfl
  | n :: m :: r, k => by
    show wordL k n ++ 32 :: textFrom (k + 1) (m :: r) = wordL k n ++ [32] ++ glueL [32] (wls (k + 1) (m :: r))
    rw [textFrom_glue (m :: r) (k + 1)]
    simp
theorem wordQ_sub {q d k n : Nat} (h : 97 + k ≠ q) : (wordQ q k n).map (subC q d) = wordQ d k n := by
  unfold wordQ
  simp only [List.map_cons, List.map_replicate]
  simp [subC, h]
theorem glueQ_sub {q d : Nat} (hq : q ≠ 32) : ∀ (ws : List Nat) (k : Nat), (∀ i, 97 + k ≤ i → i ≠ q) → (glueL [32] (wlsQ q k ws)).map (subC q d) = glueL [32] (wlsQ d k ws)
  | [], _, _ => rfl
  | [n], k, h => wordQ_sub (h _ (Nat.le_refl _))
  | n :: m :: r, k, h => by
    have ih := glueQ_sub hq (m :: r) (k + 1) (d := d) fun i hi => h i (by omega)
    show (wordQ q k n ++ [32] ++ glueL [32] (wlsQ q (k + 1) (m :: r))).map (subC q d) = wordQ d k n ++ [32] ++ glueL [32] (wlsQ d (k + 1) (m :: r))
    rw [List.map_append, List.map_append, ih, wordQ_sub (h _ (Nat.le_refl _))]
    have : subC q d 32 = 32 := by unfold subC; rw [if_neg (by omega)]
    simp [this]
theorem wlsQ_free {q : Nat} (hq : q ≠ 32) : ∀ (ws : List Nat) (k : Nat), ∀ a ∈ wlsQ q k ws, 32 ∉ a
  | [], _, a, h => by simp [wlsQ] at h
  | n :: r, k, a, h => by
    rcases List.mem_cons.mp h with rfl | h
    · unfold wordQ
      intro hm
      rcases List.mem_cons.mp hm with e | hm
      · omega
      · exact hq (List.eq_of_mem_replicate hm).symm
    · exact wlsQ_free hq r (k + 1) a h
/-- what a word's reading leaves of it -/
noncomputable def escL : List Nat → List Nat
  | [] => []
  | [c] => [c]
  | c :: e :: r => if c = 92 then e :: escL r else c :: escL (e :: r)
theorem esc_run : ∀ n, escL (List.replicate n 92) = List.replicate ((n + 1) / 2) 92
  | 0 => rfl
  | 1 => rfl
  | n + 2 => by
    rw [List.replicate_succ, List.replicate_succ]
    show (if 92 = 92 then 92 :: escL (List.replicate n 92) else _) = _
    rw [if_pos rfl, esc_run n, show (n + 2 + 1) / 2 = (n + 1) / 2 + 1 by omega, List.replicate_succ]
theorem esc_word (k n : Nat) : escL (wordQ 92 k n) = wordQ 92 k ((n + 1) / 2) := by
  unfold wordQ
  cases n with
  | zero => rfl
  | succ n =>
    rw [List.replicate_succ]
    show (if 97 + k = 92 then _ else (97 + k) :: escL (92 :: List.replicate n 92)) = _
    rw [if_neg (by omega), ← List.replicate_succ, esc_run]
theorem esc_wls : ∀ (ws : List Nat) (k : Nat), (wlsQ 92 k ws).map escL = wlsQ 92 k (ws.map fun n => (n + 1) / 2)
  | [], _ => rfl
  | n :: r, k => by simp [wlsQ, esc_word, esc_wls r (k + 1)]
/-- the words that the reading finds -/
noncomputable def readW (ws : List Nat) : List (List Nat) := if ws = [] then [[]] else wlsQ 92 0 ws
theorem read_split {x : Str} {ws : List Nat} (e : x = textS ws) : Txt.split (Txt.replace x ⟨#[34]⟩ ⟨#[92]⟩) ⟨#[32]⟩ = (readW ws).map wS := by
  have hc : cdS (Txt.replace x ⟨#[34]⟩ ⟨#[92]⟩) = glueL [32] (wlsQ 92 0 ws) := by
    rw [replace_codes, e]
    show (textFrom 0 ws).map (subC 34 92) = _
    rw [textFrom_glue, ← wlsQ_34]
    exact glueQ_sub (by decide) ws 0 fun i hi => by omega
  unfold readW
  by_cases h : ws = []
  · rw [if_pos h]
    subst h
    exact split_wS (by simp) (by simp) hc
  · rw [if_neg h]
    refine split_wS ?_ (wlsQ_free (by decide) ws 0) hc
    cases ws with
    | nil => exact absurd rfl h
    | cons n r => simp [wlsQ]
theorem read_back (ws : List Nat) : Txt.replace (Txt.join ⟨#[32]⟩ ((readW ws).map fun v => wS (escL v))) ⟨#[92]⟩ ⟨#[34]⟩ = textS (ws.map fun n => (n + 1) / 2) := by
  apply str_of_list
  show cdS _ = _
  rw [replace_codes, join_glue, List.map_map]
  have e1 : (cdS ∘ fun v => wS (escL v)) = escL := funext fun v => wS_codes _
  rw [e1]
  unfold readW
  by_cases h : ws = []
  · subst h; rfl
  · rw [if_neg h, esc_wls, textFrom_glue, ← wlsQ_34]
    exact glueQ_sub (by decide) _ 0 fun i hi => by omega
end Mine
end
section
open PySem PySem.W PySem.Calls PyProof.Rows PySem.Builtin
set_option Elab.async false
set_option maxRecDepth 100000
namespace Mine
/-! a generator function's frame: for, if, by segments (nothing raises) -/
section
variable {prog : Program} {w : World} {A : Around} {R : GenEnd} {Y : Protocol} {n : Nat} {s₀ : Shared} {c : Code} {fs : List Frame} {s : Shared} {env : Env}
  {K : Flow → Sem Fin} {H : Value → Sem Fin} {gd : Bool → Bool} {lv : List Value → List Value}
noncomputable abbrev NoE : Value → Shared → Prop := fun _ _ => False
theorem wpAny_ne {α : Type} {M : Model} {A : Around} {m : Sem α} {Q : α → Shared → Prop} {E : Value → Shared → Prop} {s : Shared} (h : wpAny M A m Q NoE s) : wpAny M A m Q E s :=
  wpAny_mono h (fun _ _ x => x) fun _ _ x => x.elim

theorem seg_stmt {st : Stmt} (h : wpAny (model prog w) (A.over c fs) (exec st env) (fun f s' => Seg (model prog w) A R Y n s₀ c (K f) fs s') NoE s) : Seg (model prog w) A R Y n s₀ c ((exec st env).wrap K H gd lv) fs s :=
  seg_wrap (wpAny_ne h)

theorem seg_execs_nil0 (h : Seg (model prog w) A R Y n s₀ c (K .next) fs s) : Seg (model prog w) A R Y n s₀ c ((execs [] env).wrap K H gd lv) fs s := h

theorem seg_If {test : Expr} {body orelse : List Stmt} {pos : Pos}
    (h : wpAny (model prog w) (A.over c fs) (isTrue test env (eval test env)) (fun b s' => Seg (model prog w) A R Y n s₀ c ((if b = true then execs body env else execs orelse env).wrap K H gd lv) fs s') NoE s) :
    Seg (model prog w) A R Y n s₀ c ((exec (.If test body orelse pos) env).wrap K H gd lv) fs s := by
  rw [exec_If]
  refine seg_bind_wrap (wpAny_standAt ?_)
  refine seg_bind_wrap (wpAny_ne (wpAny_mono h (fun b s' hb => ?_) fun _ _ e => e))
  exact hb

theorem seg_For {target iter : Expr} {body : List Stmt} {pos : Pos} (hs : ∀ x, foldedSetIterable iter env x = pure x)
    (h : wpAny (model prog w) (A.over c fs) (eval iter env) (fun x s₁ => wpAny (model prog w) (A.over c fs) (pyIter x) (fun it s₂ => ∀ p, Seg (model prog w) A R Y n s₀ (.forLoop target it body [] env) ((model prog w).den (.forLoop target it body [] env))
      (.ret (fun r => ((match r with | .ok f => (.pure f : Sem Flow) | .error e => .raise e).onRaise fun (x : Value) => do
        if (← field x 1) == Value.none then unsupported "frame.own-activation:exception-without-traceback"
        setFlight x env.frame).wrap K H gd lv) none (gd false) (lv []) c p [] :: fs) s₂) NoE s₁) NoE s) :
    Seg (model prog w) A R Y n s₀ c ((exec (.For target iter body [] pos) env).wrap K H gd lv) fs s := by
  rw [exec_For]
  refine seg_bind_wrap (wpAny_standAt ?_)
  refine seg_bind_wrap (wpAny_ne (wpAny_mono h (fun x s₁ h₁ => ?_) fun _ _ e => e))
  refine seg_bind_wrap (wpAny_of_eq (hs x) ?_)
  refine seg_bind_wrap (wpAny_standAt ?_)
  refine seg_bind_wrap (wpAny_holding (wpAny_ne (wpAny_mono h₁ (fun it s₂ h₂ => ?_) fun _ _ e => e)))
  exact seg_call h₂

theorem seg_forLoop {target : Expr} {it : Value} {body : List Stmt}
    (h : wpAny (model prog w) (A.over (.forLoop target it body [] env) fs) (pyNext it) (fun r s₁ => match r with
        | none => Seg (model prog w) A R Y n s₀ (.block [] env) (leafOf (.ok .next)) fs s₁
        | some v => wpAny (model prog w) (A.over (.forLoop target it body [] env) fs) (letOwnedTupleGo target it v) (fun _ s₂ => wpAny (model prog w) (A.over (.forLoop target it body [] env) fs) (assign target env v) (fun _ s₃ =>
            Seg (model prog w) A R Y n s₀ (.forLoop target it body [] env) ((execs body env).wrap (fun f => match f with
            | .next | .cont => .pure (.again (.forLoop target it body [] env))
            | .brk => .pure (.done .next)
            | .ret v => .pure (.done (.ret v))) (fun e => (do noteFrame e env; theTreesLotGoes e : Sem Unit).wrap (fun _ => .raise e) .raise id id) id id) fs s₃) NoE s₂) NoE s₁) NoE s) :
    Seg (model prog w) A R Y n s₀ (.forLoop target it body [] env) ((model prog w).den (.forLoop target it body [] env)) fs s := by
  show Seg _ A R Y n s₀ _ ((forTurn target it body [] env).onRaise (fun x => do noteFrame x env; theTreesLotGoes x)) fs s
  unfold forTurn
  rw [Sem.onRaise_eq_wrap]
  refine seg_bind_wrap (wpAny_standAt ?_)
  rw [Sem.bind_eq_wrap', Sem.onRaise_eq_wrap, Sem.wrap_wrap, Sem.wrap_wrap]
  refine seg_wrap (wpAny_ne (wpAny_mono h (fun r s₁ h₁ => ?_) fun _ _ e => e))
  cases r with
  | none =>
    refine seg_again rfl ?_
    exact h₁
  | some v =>
    refine seg_bind_wrap (wpAny_ne (wpAny_mono h₁ (fun _ s₂ h₂ => ?_) fun _ _ e => e))
    refine seg_bind_wrap (wpAny_ne (wpAny_mono h₂ (fun _ s₃ h₃ => ?_) fun _ _ e => e))
    rw [Sem.bind_eq_wrap', Sem.wrap_wrap]
    rw [Sem.wrap_congr (execs body env) _ _ (K' := fun f => match f with
            | .next | .cont => .pure (.again (.forLoop target it body [] env))
            | .brk => .pure (.done .next)
            | .ret v => .pure (.done (.ret v))) (H' := (fun e => (do noteFrame e env; theTreesLotGoes e : Sem Unit).wrap (fun _ => .raise e) .raise id id))
        (fun f => by cases f <;> rfl)
        (fun e => by first | exact Sem.bind_eq_wrap _ _ | (show (do noteFrame e env; theTreesLotGoes e : Sem Unit).bind (fun _ => .raise e) = _; rw [Sem.bind_eq_wrap]))]
    exact h₃
theorem seg_yield_next {e : Expr} {ypos pos : Pos} (hfs : splitAtGen fs = none) (hgd : gd false = false) (hfg : fs.any Frame.guarded = false)
    (h : wpAny (model prog w) (A.over c fs) (eval e env) (fun v s' => ∀ kap : Resume → Shared → Prop,
        (∀ x s'', (match x with | .ref _ => False | _ => Seg (model prog w) A R Y n s'' c (K .next) fs s'') → kap (.send x) s'') → Y n s₀ v s' kap) NoE s)
    (hco : env.scope.isCoroutine = false) (hi : interactive env = false) :
    Seg (model prog w) A R Y (n + 1) s₀ c ((exec (.Expr (.Yield (some e) ypos) pos) env).wrap K H gd lv) fs s :=
  seg_Expr_Yield hfs hgd hfg (wpAny_ne h) hco hi
end
end Mine
end
section
open PySem PySem.W PySem.Calls PyProof.Rows PySem.Builtin
set_option Elab.async false
set_option maxRecDepth 100000
namespace Mine
theorem ROG.weak {w : World} {mean : ExcName → Option Value} {mg mb : Str → Option Value} {f : Addr} {fp fp' : List Addr} {Pre Pre' : Heap → Prop} {news : List (Addr × Obj)} {vs : List Value} {Post Post' : Heap → Value → Heap → Prop} {d d' u u' : Nat}
    (C : ROG w mean mg mb f fp Pre news vs Post d u) (hfp : ∀ b ∈ fp, b ∈ fp') (hPre : ∀ h, Pre' h → Pre h) (hd : d ≤ d') (hu : u ≤ u')
    (hPost : ∀ h v h', (∀ p ∈ news, h.get? p.1 = some p.2) → Pre' h → Post h v h' → KeptBut fp h h' → Post' h v h') : ROG w mean mg mb f fp' Pre' news vs Post' d' u' := by
  intro dp un gd cn cs a ccd cl outer A₀ base h₀ L m s Q E B F X N T hk hP G hd1 hu1 hret
  refine C dp un gd cn cs a ccd cl outer A₀ base h₀ L m s Q E B F X N T hk (hPre _ hP) G (by omega) (by omega) fun v h' tk' gs' hR F' K' G' => ?_
  exact hret v h' tk' gs' (hPost _ _ _ (fun p hp => (N p hp).1) hP hR K') F' (fun b o hb e => K' b o (fun hh => hb (hfp b hh)) e) G'

noncomputable def ItOff (ads : List Addr) (its : Array Value) : Prop := ∀ (i : Nat) T, its[i]? = some (.ref T) → ∀ a ∈ ads, @Ne Nat T a
theorem TupsAt.kept {h h' : Heap} {its : Array Value} {Ls : List (Str × Str)} {fp : List Addr} (x : TupsAt h its Ls) (k : KeptBut fp h h') (o : ItOff fp its) : TupsAt h' its Ls := by
  refine ⟨x.1, fun j p e => ?_⟩
  obtain ⟨T, tf, tp, a, b⟩ := x.2 j p e
  exact ⟨T, tf, tp, a, k _ _ (fun hm => o j T a T hm rfl) b⟩
theorem TupsAt.push {h : Heap} {its : Array Value} {Ls : List (Str × Str)} {T : Addr} {f p : Str} {tf tp : Tok} (x : TupsAt h its Ls) (e : h.get? T = some (tup2 f tf p tp)) : TupsAt h (its.push (.ref T)) (Ls ++ [(f, p)]) := by
  refine ⟨by simp [x.1], fun j q hq => ?_⟩
  rcases Nat.lt_or_ge j Ls.length with hl | hl
  · rw [List.getElem?_append_left hl] at hq
    obtain ⟨T', tf', tp', a, b⟩ := x.2 j q hq
    refine ⟨T', tf', tp', ?_, b⟩
    rw [Array.getElem?_push_lt (by rw [x.1]; exact hl)]
    rw [← a, Array.getElem?_eq_getElem (by rw [x.1]; exact hl)]
  · rw [List.getElem?_append_right hl] at hq
    have hj : j - Ls.length = 0 := by
      rcases Nat.eq_zero_or_pos (j - Ls.length) with h0 | h0
      · exact h0
      · rw [List.getElem?_eq_none (by simp; omega)] at hq; cases hq
    rw [hj] at hq
    have : q = (f, p) := by simpa using hq.symm
    subst this
    refine ⟨T, tf, tp, ?_, e⟩
    rw [show j = its.size by rw [x.1]; omega, Array.getElem?_push_size]
theorem tups_nil (h : Heap) : TupsAt h #[] [] := tups_none h
theorem get_ne {h : Heap} {b b' : Addr} {o o' : Obj} (h1 : h.get? b = some o) (h2 : h.get? b' = some o') (h3 : (o.cls == o'.cls) = false) : @Ne Nat b b' := by
  intro e
  rw [e, h2] at h1
  cases h1
  simp at h3
theorem fp_sub {ll x dx a b : Addr} : ∀ c ∈ [x, a, b], c ∈ [ll, x, dx, a, b] := fun c h => by
  rcases List.mem_cons.mp h with e | h
  · rw [e]; exact .tail _ (.head _)
  · exact .tail _ (.tail _ (.tail _ h))
theorem ap_mk {w : World} {h h' : Heap} {ll x dx T : Addr} {kt t' : Tok} {R : FSt} {its lns' its' ps' qs' : Array Value} {n' kl' k' : Nat}
    (a1 : h'.get? ll = some (lstO lns' kl')) (a2 : h'.get? x = some (accO dx its' n')) (a3 : h'.get? dx = some (iniO w kt (.int R.2.2 t') k')) (a4 : h'.get? 169 = some (tabObj ps')) (a5 : h'.get? 176 = some (tabObj qs'))
    (b1 : TriplesOk ps'.toList) (b2 : TriplesOk qs'.toList) (b3 : StrsV lns'.toList R.1) (b4 : TupsAt h' its' R.2.1) (b5 : h.get? T = none) (b6 : its' = its.push (.ref T) ∨ its' = (#[] : Array Value).push (.ref T)) :
    Value.none = .none ∧ ∃ lns' its' n' kl' k' t' ps' qs' T, h'.get? ll = some (lstO lns' kl') ∧ h'.get? x = some (accO dx its' n') ∧ h'.get? dx = some (iniO w kt (.int R.2.2 t') k') ∧ h'.get? 169 = some (tabObj ps') ∧ h'.get? 176 = some (tabObj qs') ∧
        TriplesOk ps'.toList ∧ TriplesOk qs'.toList ∧ StrsV lns'.toList R.1 ∧ TupsAt h' its' R.2.1 ∧ h.get? T = none ∧ (its' = its.push (.ref T) ∨ its' = (#[] : Array Value).push (.ref T)) :=
  ⟨rfl, exI9 _ _ _ _ _ _ _ _ _ ⟨a1, a2, a3, a4, a5, b1, b2, b3, b4, b5, b6⟩⟩

/-- _append_chunk: a state's step -/
theorem ap_cl (w : World) (mean : ExcName → Option Value) (mg mb : Str → Option Value) (r dr ll x dx : Addr) (a1 a2 a3 a4 a5 a6 tM tc tl ts : Tok) (M : Int) (kd kl n k : Nat) (lns its ps qs : Array Value) (kt tz tf tp : Tok) (st : FSt) (c : Str × Str) (z0 : Int) (j : Nat)
    (htr : TriplesOk ps.toList) (hts : TriplesOk qs.toList) (hok : FOk z0 j st) (hj : j ≤ 50) (hz0 : 0 ≤ z0 ∧ z0 ≤ 1000) (hM0 : 0 ≤ M) (hf : c.1 = if j = 0 then Str.ofString "" else Str.ofString " ") (hcl : c.1.length ≤ 1000 ∧ c.2.length ≤ 1000) (hlv : StrsV lns.toList st.1) :
    ROG w mean mg mb 120 [ll, x, dx, 169, 176] (fun h => TupsAt h its st.2.1 ∧ ItOff [ll, x, dx, 169, 176] its)
      [(r, fvO dr), (dr, fvD w a1 a2 a3 a4 a5 a6 M tM tc tl ts ll x kd), (ll, lstO lns kl), (x, accO dx its n), (dx, iniO w kt (.int st.2.2 tz) k), (169, tabObj ps), (176, tabObj qs)] [.ref r, .str c.1 tf, .str c.2 tp]
      (fun h v h' => v = .none ∧ ∃ lns' its' n' kl' k' t' ps' qs' T, h'.get? ll = some (lstO lns' kl') ∧ h'.get? x = some (accO dx its' n') ∧ h'.get? dx = some (iniO w kt (.int (stp M st c).2.2 t') k') ∧ h'.get? 169 = some (tabObj ps') ∧ h'.get? 176 = some (tabObj qs') ∧
        TriplesOk ps'.toList ∧ TriplesOk qs'.toList ∧ StrsV lns'.toList (stp M st c).1 ∧ TupsAt h' its' (stp M st c).2.1 ∧ h.get? T = none ∧ (its' = its.push (.ref T) ∨ its' = (#[] : Array Value).push (.ref T))) 120 1200 := by
  obtain ⟨lines, Ls, z⟩ := st
  obtain ⟨f, p⟩ := c
  obtain ⟨o1, o2, o3, o4, o5⟩ := hok
  dsimp only at o1 o2 o3 o4 o5 hf hcl hlv
  have hz : 0 ≤ z ∧ z ≤ 1000 := by rcases o4 with rfl | rfl <;> omega
  have hln : lns.size ≤ 100 := by have := hlv.len; simp at this; omega
  have hn : (Ls ++ [(f, p)]).length ≤ 100 := by simp; omega
  have hLs : ∀ q ∈ Ls ++ [(f, p)], q.1.length ≤ 1000 ∧ q.2.length ≤ 1000 := by
    intro q hq
    rcases List.mem_append.mp hq with hq | hq
    · exact o3 q hq
    · rw [List.mem_singleton.mp hq]; exact hcl
  by_cases hA : z + totL (Ls ++ [(f, p)]) ≤ M
  · have es : stp M (lines, Ls, z) (f, p) = (lines, Ls ++ [(f, p)], z) := by unfold stp; rw [if_pos hA]
    rw [es]
    refine (apA_cl w mean mg mb r dr ll x dx a1 a2 a3 a4 a5 a6 tM tc tl ts M kd kl n k lns its ps qs kt tz tf tp z f p Ls htr hts hn hln hLs hz.1 hz.2 hA).weak fp_sub (fun h x => x.1) (by omega) (by omega) ?_
    intro h v h' N hP hR K
    refine andE4 hR fun ev q1 q2 q3 => Exists.elim q1 fun T q1 => andE3 q1 fun hx hT hT' => Exists.elim q2 fun ps' q2 => Exists.elim q3 fun qs' q3 => eqE (C := fun v => v = Value.none ∧ _) ev ?_
    have gx := N (x, accO dx its n) (by k_mem)
    have gl := N (ll, lstO lns kl) (by k_mem)
    have gd := N (dx, iniO w kt (.int z tz) k) (by k_mem)
    have g1 := N (169, tabObj ps) (by k_mem)
    have g2 := N (176, tabObj qs) (by k_mem)
    refine ap_mk (K _ _ (nin3 (get_ne gl gx rfl) (get_ne gl g1 rfl) (get_ne gl g2 rfl)) gl) hx (K _ _ (nin3 (get_ne gd gx rfl) (get_ne gd g1 rfl) (get_ne gd g2 rfl)) gd) q2.2 q3.2 q2.1 q3.1 hlv ?_ hT (.inl rfl)
    exact (hP.1.kept K fun i T' e a ha => hP.2 i T' e a (fp_sub a ha)).push hT'
  · by_cases hL : Ls = []
    · subst hL
      have hj0 : j = 0 := by
        rcases Nat.eq_zero_or_pos j with h | h
        · exact h
        · have := o5 h; simp at this
      subst hj0
      rw [if_pos rfl] at hf
      subst hf
      by_cases hzp : 0 < z
      · have es : stp M (lines, [], z) (Str.ofString "", p) = (lines ++ [Str.ofString ""], [(Str.ofString " ", p)], 0) := by unfold stp; rw [if_neg hA, if_pos rfl, if_pos hzp]
        rw [es]
        intro dp un gd cn cs a ccd cl outer A₀ base h₀ L m s Q E B F X N T hk hP G hd1 hu1 hret
        have hi0 : its = #[] := by
          have := hP.1.1
          exact Array.eq_empty_of_size_eq_zero (by simpa using this)
        subst hi0
        refine (apB1_cl w mean mg mb r dr ll x dx a1 a2 a3 a4 a5 a6 tM tc tl ts M kd kl n k lns ps qs kt tz tf tp z p htr hts hn hln hLs hz.1 hz.2 hzp (by omega) hM0) dp un gd cn cs a ccd cl outer A₀ base h₀ L m s Q E B F X N T hk trivial G hd1 hu1 fun v h' tk' gs' hR F' K' G' => ?_
        refine hret v h' tk' gs' ?_ F' K' G'
        refine andE4 hR fun ev q1 q2 q3 => exE7 q1 fun T n' kl' k' t' u' tf' q1 => andE5 q1 fun hl hx hd hT hT' => Exists.elim q2 fun ps' q2 => Exists.elim q3 fun qs' q3 => eqE (C := fun v => v = Value.none ∧ _) ev ?_
        exact ap_mk hl hx hd q2.2 q3.2 q2.1 q3.1 (by rw [Array.toList_push]; exact hlv.snoc _ _) ((tups_nil h').push hT') hT (.inr rfl)
      · have hz0' : z = 0 := by omega
        have es : stp M (lines, [], z) (Str.ofString "", p) = (lines, [(Str.ofString "", p)], z) := by unfold stp; rw [if_neg hA, if_pos rfl, if_neg hzp]
        rw [es]
        intro dp un gd cn cs a ccd cl outer A₀ base h₀ L m s Q E B F X N T hk hP G hd1 hu1 hret
        have hi0 : its = #[] := by
          have := hP.1.1
          exact Array.eq_empty_of_size_eq_zero (by simpa using this)
        subst hi0
        have gx := (N (x, accO dx #[] n) (by k_mem)).1
        have gl := (N (ll, lstO lns kl) (by k_mem)).1
        have gd' := (N (dx, iniO w kt (.int z tz) k) (by k_mem)).1
        have g1 := (N (169, tabObj ps) (by k_mem)).1
        have g2 := (N (176, tabObj qs) (by k_mem)).1
        refine (apB2_cl w mean mg mb r dr ll x dx a1 a2 a3 a4 a5 a6 tM tc tl ts M kd kl n k lns ps qs kt tz tf tp z (Str.ofString "") p htr hts hn hln hLs hz.1 hz.2 hz0' (by omega) hM0) dp un gd cn cs a ccd cl outer A₀ base h₀ L m s Q E B F X N T hk trivial G (by omega) (by omega) fun v h' tk' gs' hR F' K' G' => ?_
        refine hret v h' tk' gs' ?_ F' (fun b o hb e => K' b o (fun hh => hb (fp_sub b hh)) e) G'
        refine andE4 hR fun ev q1 q2 q3 => exE2 q1 fun T n' q1 => andE3 q1 fun hx hT hT' => Exists.elim q2 fun ps' q2 => Exists.elim q3 fun qs' q3 => eqE (C := fun v => v = Value.none ∧ _) ev ?_
        exact ap_mk (K' _ _ (nin3 (get_ne gl gx rfl) (get_ne gl g1 rfl) (get_ne gl g2 rfl)) gl) hx (K' _ _ (nin3 (get_ne gd' gx rfl) (get_ne gd' g1 rfl) (get_ne gd' g2 rfl)) gd') q2.2 q3.2 q2.1 q3.1 hlv ((tups_nil h').push hT') hT (.inr rfl)
    · have hL1 : 1 ≤ Ls.length := by
        cases Ls with
        | nil => exact absurd rfl hL
        | cons _ _ => simp
      have hj1 : j ≠ 0 := by omega
      rw [if_neg hj1] at hf
      subst hf
      have es : stp M (lines, Ls, z) (Str.ofString " ", p) = (lines ++ [strL Ls], [(Str.ofString " ", p)], 0) := by unfold stp; rw [if_neg hA, if_neg hL]
      rw [es]
      refine (apC_cl w mean mg mb r dr ll x dx a1 a2 a3 a4 a5 a6 tM tc tl ts M kd kl n k lns its ps qs kt tz tf tp z p Ls htr hts hn hln hLs hz.1 hz.2 (by omega) hM0 hL1).weak (fun _ h => h) (fun h x => x.1) (by omega) (by omega) ?_
      intro h v h' N hP hR K
      refine andE4 hR fun ev q1 q2 q3 => exE6 q1 fun T n' kl' k' t' u' q1 => andE5 q1 fun hl hx hd hT hT' => Exists.elim q2 fun ps' q2 => Exists.elim q3 fun qs' q3 => eqE (C := fun v => v = Value.none ∧ _) ev ?_
      exact ap_mk hl hx hd q2.2 q3.2 q2.1 q3.1 (by rw [Array.toList_push]; exact hlv.snoc _ _) ((tups_nil h').push hT') hT (.inr rfl)
end Mine
end
section
open PySem PySem.W PyProof.Rows PySem.Builtin
set_option Elab.async false
set_option maxRecDepth 100000
namespace Mine
noncomputable def NewOff (h₀ : Heap) (L : Addr) (all : List (Addr × Obj)) (T : Addr) : Prop := @Ne Nat T L ∧ h₀.get? T = none ∧ ∀ p ∈ all, @Ne Nat T p.1
theorem NewOff.of {h₀ h : Heap} {L T : Addr} {m : Str → Option Value} {all : List (Addr × Obj)} (F : Fr h₀ L h m) (N : News h₀ L h all) (hn : h.get? T = none) : NewOff h₀ L all T := by
  refine ⟨?_, ?_, OffAll.of N hn⟩
  · rintro rfl
    obtain ⟨_, _, _, ho, _⟩ := F.ns
    rw [ho] at hn; cases hn
  · cases z : h₀.get? T with
    | none => rfl
    | some o => rw [F.keep _ _ z] at hn; cases hn
section
variable {w : World} {mean : ExcName → Option Value} {mg mb : Str → Option Value} {dp un : Nat} {gd : Option (List Code)} {cn : Str} {cs : Scope} {a : Addr} {ccd : Value} {cl : List (Str × Addr)} {outer : List Env} {A₀ : Around} {base h₀ : Heap} {L : Addr} {m : Str → Option Value} {s : Shared} {Q E : Value → Shared → Prop} {all : List (Addr × Obj)}
  {r dr ll x dx : Addr} {a1 a2 a3 a4 a5 a6 tM tc tl ts : Tok} {M : Int} {kd kl : Nat} {lns its ps qs : Array Value} {n k j : Nat} {kt tz tf tp : Tok} {st : FSt} {c : Str × Str} {z0 : Int}
  {n1 : Array Value → Nat → List (Addr × Obj)} {n2 : Array Value → Nat → Array Value → Nat → List (Addr × Obj)} {n3 : Array Value → Nat → Array Value → Nat → Tok → Nat → List (Addr × Obj)}
  {n4 : Array Value → Nat → Array Value → Nat → Tok → Nat → Array Value → List (Addr × Obj)} {n5 : Array Value → Nat → Array Value → Nat → Tok → Nat → Array Value → Array Value → List (Addr × Obj)}
theorem ap_use (B : Below A₀ base outer h₀) (F : Fr h₀ L s.heap m) (X : (hd.heap_1 w.params).In h₀) (N : News h₀ L s.heap all) (TT : Top VW LS mean mg mb h₀) (hk : cs.kind = .function) (hd : dp + 120 < recursionLimit) (hu : un + 1200 < cLine) (G : AllBare s.gens)
  (m0 : (r, fvO dr) ∈ all) (m1 : (dr, fvD w a1 a2 a3 a4 a5 a6 M tM tc tl ts ll x kd) ∈ all) (m2 : (ll, lstO lns kl) ∈ all) (m3 : (x, accO dx its n) ∈ all) (m4 : (dx, iniO w kt (.int st.2.2 tz) k) ∈ all) (m5 : (169, tabObj ps) ∈ all) (m6 : (176, tabObj qs) ∈ all)
  (U1 : ∀ l kl', Upd ll (lstO lns kl) (lstO l kl') all (n1 l kl'))
  (U2 : ∀ l kl' i n', Upd x (accO dx its n) (accO dx i n') (n1 l kl') (n2 l kl' i n'))
  (U3 : ∀ l kl' i n' t' k', Upd dx (iniO w kt (.int st.2.2 tz) k) (iniO w kt (.int (stp M st c).2.2 t') k') (n2 l kl' i n') (n3 l kl' i n' t' k'))
  (U4 : ∀ l kl' i n' t' k' ps', Upd 169 (tabObj ps) (tabObj ps') (n3 l kl' i n' t' k') (n4 l kl' i n' t' k' ps'))
  (U5 : ∀ l kl' i n' t' k' ps' qs', Upd 176 (tabObj qs) (tabObj qs') (n4 l kl' i n' t' k' ps') (n5 l kl' i n' t' k' ps' qs'))
  (P : TupsAt s.heap its st.2.1) (P2 : ItOff [ll, x, dx, 169, 176] its) (x1 : TriplesOk ps.toList) (x2 : TriplesOk qs.toList) (x3 : FOk z0 j st) (x4 : j ≤ 50) (x5 : 0 ≤ z0 ∧ z0 ≤ 1000) (x6 : 0 ≤ M) (x7 : c.1 = if j = 0 then Str.ofString "" else Str.ofString " ") (x8 : c.1.length ≤ 1000 ∧ c.2.length ≤ 1000) (x9 : StrsV lns.toList st.1)
  (h : ∀ l i n' kl' k' t' ps' qs' T h' tk' gs', TriplesOk ps'.toList → TriplesOk qs'.toList → StrsV l.toList (stp M st c).1 → TupsAt h' i (stp M st c).2.1 → s.heap.get? T = none → (i = its.push (.ref T) ∨ i = (#[] : Array Value).push (.ref T)) → NewOff h₀ L all T →
    Fr h₀ L h' m → News h₀ L h' (n5 l kl' i n' t' k' ps' qs') → AllBare gs' → Q .none { s with heap := h', toks := tk', gens := gs' }) :
  wpAny (model PR w) (ktrTop dp un gd cn cs L a ccd cl outer) (call (.ref 120) [.ref r, .str c.1 tf, .str c.2 tp]) Q E s := by
  refine (ap_cl w mean mg mb r dr ll x dx a1 a2 a3 a4 a5 a6 tM tc tl ts M kd kl n k lns its ps qs kt tz tf tp st c z0 j x1 x2 x3 x4 x5 x6 x7 x8 x9).use B F X N (sub7 m0 m1 m2 m3 m4 m5 m6) TT hk ⟨P, P2⟩ G hd hu fun v h' tk' gs' hR F' K' G' => ?_
  refine andE2 hR fun ev q => exE9 q fun l i n' kl' k' t' ps' qs' T q => andE11 q fun g1 g2 g3 g4 g5 c1 c2 c3 c4 c5 c6 => eqE (C := fun v => Q v _) ev ?_
  exact h l i n' kl' k' t' ps' qs' T h' tk' gs' c1 c2 c3 c4 c5 c6 (NewOff.of F N c5) F' (upd5_then N (U1 l kl') (U2 l kl' i n') (U3 l kl' i n' t' k') (U4 l kl' i n' t' k' ps') (U5 l kl' i n' t' k' ps' qs') K' g1 g2 g3 g4 g5 id) G'
end
end Mine
end
section
open PySem PySem.W PyProof.Rows PySem.Builtin
set_option Elab.async false
set_option maxRecDepth 100000
set_option maxHeartbeats 8000000
set_option pp.deepTerms false
set_option pp.deepTerms.threshold 6
set_option pp.maxSteps 3000
set_option pp.proofs false
namespace Mine
theorem rows_VF8_1 : True := by
  k_with_none
  w_top off
  k_with "pj" => (first | assumption | exact pj1 (by assumption) | exact pj2 (by assumption) | exact pj3 (by assumption) | exact pj4 (by assumption) | exact pj5 (by assumption) | exact pj6 (by assumption) | exact pl2 (by assumption) | exact pl3 (by assumption) | exact pl4 (by assumption) | exact pl5 (by assumption) | exact pl6 (by assumption) | exact pl7 (by assumption))
  k_with "k_ne" => (first | with_reducible exact Off.ne (by assumption) | with_reducible exact Off.ne' (by assumption) | exact news_neB (by assumption) (by k_mem) (by k_mem) rfl | exact OffAll.pick (by assumption) (by k_mem) | exact OffAll.pick' (by assumption) (by k_mem) | (refine neN ?_; (try dsimp only); (first | exact ne_u1 | exact ne_d1 | exact ne_u2 | exact ne_d2 | exact ne_u3 | exact ne_d3 | exact ne_l0 (by walk_at "pj") | exact ne_l1 (by walk_at "pj") | exact ne_l2 (by walk_at "pj") | exact ne_l3 (by walk_at "pj") | exact ne_g0 (by walk_at "pj") | exact ne_g1 (by walk_at "pj") | exact ne_g2 (by walk_at "pj") | exact ne_g3 (by walk_at "pj") | walk_at "pj" | exact Ne.symm (by walk_at "pj") | omega)))
  k_with "mine enter" => (k_dflt (refine' code_defG ?k1 ?k2 ?k3 ?k4 ?k5 ?kA ?kF ?kK ?k6 ?k7 ?k8 ?k9 ?kB ?_ ?c2 ?c3 ?c4 ?c5; (case kA => exact rfl); (case kF => exact rfl); (case kK => assumption); (case k1 => k_asm); (case k2 => k_asm); (case k3 => k_asm); (case k4 => k_asm); (case k5 => k_asm); (case k6 => k_is); (case k7 => k_is); (case k8 => first | exact room0 (by assumption) | ktr_room); (case k9 => first | exact BindsTo.of_eq rfl | exact binds_K (by k_in) rfl (by k_is) rfl rfl rfl); (case c5 => decide); (case kB => exact locs rfl); (case c2 => exact rfl); (case c3 => exact rfl); (case c4 => exact rfl); k_whole; intro _ _ _ _ _ _ B' _ _ _; (try dsimp only); (try k_lift B'); (try k_fold)))
  k_with "getMethod ref" => (k_here; k_dflt (refine' ka_method ?k1 ?k2 ?k3 ?k4 ?k5 ?k6 ?k7 ?k8 ?_; (case k1 => k_asm); (case k2 => k_asm); (case k3 => k_asm); (case k4 => k_mem); (case k5 => k_mem); (case k6 => k_is); (case k7 => kernel_rfl); (case k8 => exact rfl); k_whole))
  k_with "compareOp NotEq ref ref" => (k_here; k_dflt (refine' ka_ne_pair ?k1 ?k2 ?k3 ?k4 ?k5 ?_; (case k1 => k_asm); (case k2 => k_mem); (case k3 => k_mem); (case k4 => ktr_units); (case k5 => assumption); k_whole))
  k_with "getAttr ref" => (k_here; (with_reducible show wpAny _ _ (getAttr (Value.ref _) (PySem.Str.ofString "push") _) _ _ _); k_dflt (refine' ka_getFn (f := 151) ?k1 ?k2 ?k3 ?k4 ?k5 ?k6 ?k7 ?_; (case k1 => k_asm); (case k2 => k_asm); (case k3 => k_asm); (case k4 => k_mem); (case k5 => k_mem); (case k6 => kernel_rfl); (case k7 => kernel_rfl); k_whole); intro _ _ _ _ l1; (try k_lt l1))
  k_with "callWith ref" => (k_here; (with_reducible show wpAny _ _ (callWith _ (Value.ref _) _ (backTo _ (starEach [Expr.Starred _ _] _)) []) _ _ _); k_dflt (refine' callWith_SP ?k1 ?k2 ?_ ?k3; (case k1 => k_asm); (case k2 => k_mem); (case k3 => exact rfl); k_whole))
  k_with "eval Call Attribute" => (k_here; (with_reducible show wpAny _ _ (PySem.eval (Expr.Call _ [Expr.Starred _ _] _ _) _) _ _ _); k_dflt (refine' star_call ?_ ?k1; (case k1 => exact rfl); k_whole))
  k_with "mine base" => (first | exact tb_nil | (refine tb_cls rfl ?zb; (case zb => walk_at "mine base")) | (refine tb_ref (by assumption) ?zb; (case zb => walk_at "mine base")))
  k_with "mine out" => (first | exact so_nil | (refine so_fp ?za ?zb; (case za => k_mem); (case zb => walk_at "mine out")) | (refine so_in ?za ?zb; (case za => k_mem); (case zb => walk_at "mine out")))
  k_with "mine sub" => (first | exact sub_nil | (refine sub_cons ?za ?zb; (case za => k_mem); (case zb => walk_at "mine sub")))
  k_with "mine cl" => ((case fB => k_asm); (case fF => k_asm); (case fX => k_asm); (case fN => k_asm); (case fT => k_asm); (case fk => exact rfl); (case fd => first | exact room_le (by assumption) rfl | ktr_room); (case fu => first | exact room_le (by assumption) rfl | ktr_units); (try case fG => k_asm); (try case m0 => k_mem); (try case m1 => k_mem); (try case m2 => k_mem); (try case m3 => k_mem); (try case fU => walk_at "mine upd"); (try case fV => walk_at "mine upd"); (try case u1 => walk_at "mine upd"); (try case u2 => walk_at "mine upd"); (try case u3 => walk_at "mine upd"); (try case u4 => walk_at "mine upd"); (try case u5 => walk_at "mine upd"); (try case m4 => k_mem); (try case m5 => k_mem); (try case m6 => k_mem); (try case fP => walk_at "mine tups"))
  k_with "mine upd" => (first | k_upd | (intro _; walk_at "mine upd"))
  k_with "mine tups" => (first | exact TupsAt.keeps (by assumption) (fun b f tf p tp e => Fr.keep (by assumption) _ _ e) | exact tups_push (by assumption) (by assumption) (by assumption) (by k_mem))
  k_with "mine x" => (first | assumption | omega | (rw [Array.size_push]; omega) | (simp; omega) | (simp; done))
  k_with "call ref" => (k_here; k_dflt (refine' pushC_use ?fB ?fF ?fX ?fN ?fT ?fk ?fd ?fu ?m0 ?m4 ?x1 ?fU ?_; walk_at "mine cl"; (case x1 => walk_at "mine x"); k_whole); intro _ _ _ _ _ _ _; (try k_sweep); (try dsimp only); (try k_fold))
  k_with "getAttr ref" => (k_here; (with_reducible show wpAny _ _ (getAttr (Value.ref _) (PySem.Str.ofString "_initial_size") _) _ _ _); k_dflt (refine' ka_getIS ?k1 ?k2 ?k3 ?k4 ?k5 ?k6 ?_; (case k1 => k_asm); (case k2 => k_asm); (case k3 => k_asm); (case k4 => k_mem); (case k5 => k_mem); (case k6 => first | rfl | assumption); k_whole))
  k_with "subscriptTail" => (k_here; (with_reducible show wpAny _ _ (subscriptTail _ _ (Value.ref _) (Value.int _ _)) _ _ _); k_dflt (refine' ka_tailInt ?k1 ?k2 ?k3 ?k4 ?k5 ?k6 ?k7 ?_ ?kb ?kc; (case k1 => k_asm); (case k2 => k_asm); (case k3 => k_asm); (case k4 => k_mem); (case k5 => first | omega | (rw [Array.size_push]; omega)); (case k6 => first | omega | (rw [Array.size_push]; omega)); (case k7 => first | assumption | apply_assumption); (case kb => with_unfolding_all rfl); (case kc => intro _; with_unfolding_all rfl); k_whole))
  k_with "call ref" => (k_here; k_dflt (refine' len_use ?fB ?fF ?fX ?fN ?fT ?fk ?fd ?fu ?fG ?m1 ?m2 ?fP ?x1 ?x2 ?fU ?_; walk_at "mine cl"; (case x1 => walk_at "mine x"); (case x2 => walk_at "mine x"); k_whole); intro _ _ _ _ _ _ _ _ _; (try k_sweep); (try dsimp only); (try k_fold))
  k_with "call ref" => (k_here; k_dflt (refine' str_use ?fB ?fF ?fX ?fN ?fT ?fk ?fd ?fu ?fG ?m1 ?m2 ?fP ?x1 ?x2 ?x3 ?fU ?_; walk_at "mine cl"; (case x1 => walk_at "mine x"); (case x2 => walk_at "mine x"); (case x3 => walk_at "mine x"); k_whole); intro _ _ _ _ _ _ _ _ _; (try k_sweep); (try dsimp only); (try k_fold))
  k_with "call ref" => (k_here; k_dflt (refine' ws_use ?fB ?fF ?fX ?fN ?fT ?fk ?fd ?fu ?fG ?m1 ?m2 ?m3 ?fP ?x1 ?x2 ?x3 ?x4 ?x5 ?x6 ?x7 ?fU ?fV ?_; walk_at "mine cl"; (case x1 => walk_at "mine x"); (case x2 => walk_at "mine x"); (case x3 => walk_at "mine x"); (case x4 => walk_at "mine x"); (case x5 => walk_at "mine x"); (case x6 => walk_at "mine x"); (case x7 => walk_at "mine x"); k_whole); intro _ _ _ _ _ _ _ _ _ _; (try k_sweep); (try dsimp only); (try k_fold))
  k_with "call ref" => (k_here; k_dflt (refine' push_use ?fB ?fF ?fX ?fN ?fT ?fk ?fd ?fu ?m4 ?x1 ?fU ?_; walk_at "mine cl"; (case x1 => walk_at "mine x"); k_whole); intro _ _ _ _ _ _ _; (try k_sweep); (try dsimp only); (try k_fold))
  k_with "call ref" => (k_here; k_dflt (refine' pop_use ?fB ?fF ?fX ?fN ?fT ?fk ?fd ?fu ?m4 ?x1 ?fU ?_; walk_at "mine cl"; (case x1 => walk_at "mine x"); k_whole); intro _ _ _ _; (try k_sweep); (try dsimp only); (try k_fold))
  k_with "call ref" => (k_here; k_dflt (refine' popnil_use ?fB ?fF ?fX ?fN ?fT ?fk ?fd ?fu ?m0 ?m1 ?_; walk_at "mine cl"; k_whole); intro _ _ _ _ _ _ _ _ _; (try k_sweep); (try dsimp only); (try k_fold))
  k_with "call ref" => (k_here; k_dflt (refine' reset_use ?fB ?fF ?fX ?fN ?fT ?fk ?fd ?fu ?m4 ?x1 ?fU ?fV ?_; walk_at "mine cl"; (case x1 => walk_at "mine x"); k_whole); intro _ _ _ _ _ _ _; (try k_sweep); (try dsimp only); (try k_fold))
  k_with "call ref" => (k_here; k_dflt (refine' reset1_use ?fB ?fF ?fX ?fN ?fT ?fk ?fd ?fu ?m0 ?m4 ?fU ?fV ?x1 ?x2 ?_; walk_at "mine cl"; (case x1 => walk_at "mine x"); (case x2 => walk_at "mine x"); k_whole); intro _ _ _ _ _ _; (try k_sweep); (try dsimp only); (try k_fold))
  k_with "call ref" => (k_here; k_dflt (refine' poplast_use ?fB ?fF ?fX ?fN ?fT ?fk ?fd ?fu ?m4 ?x1 ?fU ?_; walk_at "mine cl"; (case x1 => walk_at "mine x"); k_whole); intro _ _ _ _ _ _ _ _; (try k_sweep); (try dsimp only); (try k_fold))
  k_with "call ref" => (k_here; k_dflt (refine' count_use ?fB ?fF ?fX ?fN ?fT ?fk ?fd ?fu ?m0 ?m1 ?_; walk_at "mine cl"; k_whole); intro _ _ _ _ _; (try k_sweep); (try dsimp only); (try k_fold))
  k_with "truthy ref" => (k_here; k_dflt (refine' ka_truthy ?k1 ?k2 ?k3 ?k4 ?k5 ?_; (case k1 => k_asm); (case k2 => k_asm); (case k3 => k_asm); (case k4 => k_mem); (case k5 => k_mem); k_whole))
  k_with "call type:str" => (k_here; k_dflt (refine' kso_call ?k1 ?k2 (acc_inst (news_at ?k3 ?k4) (news_at ?k5 ?k6)) ?k7 ?k8 ?_; (case k1 => ktr_units); (case k2 => k_in); (case k3 => k_asm); (case k4 => k_mem); (case k5 => k_asm); (case k6 => k_mem); (case k7 => k_is); (case k8 => k_is); k_whole))
  k_with "StrBack" => (dsimp only [W.StrBack])
  k_with "call builtin:len" => (k_here; k_dflt (refine' ka_len2 ?k1 ?k2 ?k3 ?k4 ?k5 ?_; (case k1 => k_asm); (case k2 => k_asm); (case k3 => k_asm); (case k4 => k_mem); (case k5 => k_mem); k_whole))
  k_with "LenBack" => (k_dflt (refine ⟨⟨by omega, by omega⟩, ?_⟩))
  k_with "getMethod ref" => (k_here; (with_reducible show wpAny _ _ (getMethod (Value.ref 50) _ _) _ _ _); k_dflt (refine' re_method ?k1 ?k2 ?_; (case k1 => k_asm); (case k2 => k_asm); k_whole))
  k_with "call builtin:re.Pattern.split" => (k_here; k_dflt (refine' re_split ?k1 ?k2 ?k3 ?k4 ?k5 ?k6 ?k7 ?_; (case k1 => k_asm); (case k2 => k_asm); (case k3 => k_asm); (case k4 => assumption); (case k5 => assumption); (case k6 => assumption); (case k7 => assumption); k_whole); intro _ _ _ _ _ _ _ _ l1 _; k_lt l1)
  k_with "truthy str" => (k_here; k_dflt (refine' tr_str ?k1 ?_; (case k1 => assumption); k_whole); intro _)
  k_with "truthy str" => (k_here; k_dflt (refine' tr_nil ?k1 ?_; (case k1 => assumption); k_whole); intro _)
  k_with "setItem ref ref" => (k_here; k_dflt (refine' ks_front ?k1 ?k2 ?k3 ?k4 ?k5 ?k6 ?k7 ?_; (case k1 => k_asm); (case k2 => k_asm); (case k3 => k_mem); (case k4 => k_ne); (case k5 => intro _; k_upd); (case k6 => assumption); (case k7 => first | assumption | decide | (simp; done)); k_whole); intro _ _ _ _; (try k_sweep))
  k_with "callWith type:zip" => (k_here; (with_reducible show wpAny _ _ (callWith _ (Value.type _) _ (backTo _ (starEach [Expr.Starred _ _] _)) []) _ _ _); k_dflt (refine' callWith_SZ ?_ ?k3; (case k3 => exact rfl); k_whole))
  k_with "call builtin:iter" => (k_here; k_dflt (refine' ks_iterL ?k1 ?k2 ?k3 ?_; (case k1 => k_asm); (case k2 => k_asm); (case k3 => k_mem); k_whole); intro _ _ _ _ l1; k_lt l1)
  k_with "call type:zip" => (k_here; k_dflt (refine' ks_zipL ?k1 ?k2 ?k3 ?_; (case k1 => k_asm); (case k2 => k_asm); (case k3 => k_mem); k_whole); intro _ _ _ _ _ _ l1 _ _; k_lt l1)
  trivial
theorem for_zipN {w : World} {A : Around} {E : Value → Shared → Prop} {s : Shared} {env : Env} {h₀ : Heap} {xa xb : Str} {pa pb pt pos : Pos} {x1} {iter : Expr} {body : List Stmt} {Q : Flow → Shared → Prop} {items : Array Value} {M0 : Str → Option Value} {n : Nat} {l q' : Addr} {lo : Obj} {nq' : Nat} {base : List (Addr × Obj)}
    (_F₀ : Fr h₀ env.locals s.heap M0) (_N₀ : News h₀ env.locals s.heap ((l, lo) :: (q', lstO items nq') :: base)) (P : List Addr → Nat → List (Addr × Obj) → Shared → Prop)
    (hE : PassesOwn (model PR w) A env E) (hh : A.handled = none) (hxa : env.kindOf xa = some .local) (hxb : env.kindOf xb = some .local) (hp : (env.scope.kind == .class || (env.scope.kind == .module && env.locals != env.globals)) = false)
    (hsz : items.size = 2 * n)
    (h : wpAny (model PR w) A (PySem.eval iter env) (fun v s₁ => Hold (∃ z TI TO I q nq news, v = .ref z ∧ ZChain z TI TO I q news ∧ Fr h₀ env.locals s₁.heap M0 ∧ News h₀ env.locals s₁.heap (zNews z TI TO I q (prO .none .none) (litO q 0) items nq news) ∧ P [z, TO, TI, I, q] 0 news s₁)) E s)
    (turn : ∀ z TI TO I q nq too io news j s x y h' tk', j < n → items[2 * j]? = some x → items[2 * j + 1]? = some y → ZChain z TI TO I q news → P [z, TO, TI, I, q] j news s →
      Fr h₀ env.locals h' (mapAB xa xb M0 (some x) (some y)) → News h₀ env.locals h' (zNews z TI TO I q too io items nq news) → KeptBut [z, TO, I, env.locals] s.heap h' →
      wpAny (model PR w) A (execs body env) (fun f s₃ => match f with
        | .next => Hold (∃ news', Fr h₀ env.locals s₃.heap (mapAB xa xb M0 (some x) (some y)) ∧ News h₀ env.locals s₃.heap (zNews z TI TO I q too io items nq news') ∧ (∀ p ∈ news', @LT.lt Nat _ p.1 q) ∧ P [z, TO, TI, I, q] (j + 1) news' s₃)
        | _ => False) E { s with heap := h', toks := tk' })
    (fin : ∀ z TI TO I q news s a b h', ZChain z TI TO I q news → P [z, TO, TI, I, q] n news s → Fr h₀ env.locals h' (mapAB xa xb M0 a b) → News h₀ env.locals h' news → KeptBut [z, TO, I, env.locals] s.heap h' → Q .next { s with heap := h' })
    (hs : ∀ x, foldedSetIterable iter env x = pure x) : wpAny (model PR w) A (exec (.For (.Tuple [.Name xa pa, .Name xb pb] x1 pt) iter body [] pos) env) Q E s :=
  for_zip P hE hh hxa hxb hp hsz h turn fin hs
theorem gsub_none {h g : Heap} {T : Addr} {keys : List Addr} (GS : GSub h g keys) (hn : g.get? T = none) (hk : T ∉ keys) : h.get? T = none := by
  cases e : h.get? T with
  | none => rfl
  | some o => rw [GS _ _ e hk] at hn; cases hn
theorem items_vals {g h' : Heap} {L1 l q' : Addr} {lo : Obj} {nq' : Nat} {base : List (Addr × Obj)} {w0 : List Nat} {ws0 : List (List Nat)} {k t : Tok} {vs : List Value} (_N₀ : News g L1 h' ((l, lo) :: (q', lstO (#[Value.str (Str.ofString "") k] ++ (Value.str ⟨w0.toArray⟩ t :: vs).toArray) nq') :: base)) (h : StrVals vs (pcsT ws0)) : StrVals (#[Value.str (Str.ofString "") k] ++ (Value.str ⟨w0.toArray⟩ t :: vs).toArray).toList ([] :: pcs w0 ws0) := by
  have b0 : (⟨([] : List Nat).toArray⟩ : Str) = Str.ofString "" := by decide +kernel
  rw [pcs_eq]
  simp only [Array.toList_append, List.cons_append, List.nil_append]
  exact .cons ⟨k, by rw [b0]⟩ (.cons ⟨t, rfl⟩ h)
theorem items_size {w0 : List Nat} {ws0 : List (List Nat)} {items : Array Value} (h : StrVals items.toList ([] :: pcs w0 ws0)) : items.size = 2 * (w0 :: ws0).length := by
  have := h.len
  simp [pcs_len] at this
  simp
  omega
structure TOff (h₀ : Heap) (L : Addr) (ads : List Addr) (its : Array Value) : Prop where
  e : ∀ (i : Nat) T, its[i]? = some (.ref T) → @Ne Nat T L ∧ h₀.get? T = none ∧ ∀ a ∈ ads, @Ne Nat T a
  u : ∀ (i j : Nat) T, its[i]? = some (.ref T) → its[j]? = some (.ref T) → i = j
theorem tups_alive {h : Heap} {its : Array Value} {Ls : List (Str × Str)} (x : TupsAt h its Ls) {i : Nat} {T : Addr} (e : its[i]? = some (.ref T)) : ∃ o, h.get? T = some o := by
  have hi : i < Ls.length := by
    rw [← x.1]
    rcases Nat.lt_or_ge i its.size with hl | hl
    · exact hl
    · rw [Array.getElem?_eq_none hl] at e; cases e
  obtain ⟨T', tf, tp, a, b⟩ := x.2 i _ (List.getElem?_eq_getElem hi)
  rw [e] at a
  cases a
  exact ⟨_, b⟩
theorem TOff.step {h₀ h : Heap} {L T : Addr} {all : List (Addr × Obj)} {ads : List Addr} {its its' : Array Value} {Ls : List (Str × Str)} (x : TOff h₀ L ads its) (ht : TupsAt h its Ls) (hn : h.get? T = none) (of : NewOff h₀ L all T) (ha : ∀ a ∈ ads, a ∈ all.map (·.1)) (ho : its' = its.push (.ref T) ∨ its' = (#[] : Array Value).push (.ref T)) : TOff h₀ L ads its' := by
  have nT : @Ne Nat T L ∧ h₀.get? T = none ∧ ∀ a ∈ ads, @Ne Nat T a := by
    refine ⟨of.1, of.2.1, fun a hm => ?_⟩
    obtain ⟨p, hp, rfl⟩ := List.mem_map.mp (ha a hm)
    exact of.2.2 p hp
  rcases ho with rfl | rfl
  · have cs : ∀ (i : Nat) T', (its.push (.ref T))[i]? = some (.ref T') → (i < its.size ∧ its[i]? = some (.ref T')) ∨ (i = its.size ∧ T' = T) := by
      intro i T' e
      rw [Array.getElem?_push] at e
      split at e
      · rename_i hi
        simp at e
        exact .inr ⟨hi, e.symm⟩
      · have hl : i < its.size := by
          rcases Nat.lt_or_ge i its.size with hl | hl
          · exact hl
          · rw [Array.getElem?_eq_none hl] at e; cases e
        exact .inl ⟨hl, e⟩
    have old : ∀ (i : Nat), its[i]? ≠ some (.ref T) := fun i e => by
      obtain ⟨o, ho⟩ := tups_alive ht e
      rw [ho] at hn; cases hn
    refine ⟨fun i T' e => ?_, fun i j T' e e' => ?_⟩
    · rcases cs i T' e with ⟨_, h1⟩ | ⟨_, rfl⟩
      · exact x.e i T' h1
      · exact nT
    · rcases cs i T' e with ⟨_, h1⟩ | ⟨h1, rfl⟩ <;> rcases cs j T' e' with ⟨_, h2⟩ | ⟨h2, h3⟩
      · exact x.u i j T' h1 h2
      · subst h3; exact absurd h1 (old i)
      · exact absurd h2 (old j)
      · rw [h1, h2]
  · have cs : ∀ (i : Nat) T', ((#[] : Array Value).push (.ref T))[i]? = some (.ref T') → i = 0 ∧ T' = T := by
      intro i T' e
      match i with
      | 0 => exact ⟨rfl, by simpa using e.symm⟩
      | i + 1 => simp at e
    refine ⟨fun i T' e => ?_, fun i j T' e e' => ?_⟩
    · obtain ⟨_, rfl⟩ := cs i T' e; exact nT
    · rw [(cs i T' e).1, (cs j T' e').1]
theorem TOff.nil (h₀ : Heap) (L : Addr) (ads : List Addr) : TOff h₀ L ads #[] := ⟨fun i T e => by simp at e, fun i j T e => by simp at e⟩
theorem TOff.sub {h₀ : Heap} {L : Addr} {ads ads' : List Addr} {its : Array Value} (x : TOff h₀ L ads its) (h : ∀ a ∈ ads', a ∈ ads) : ItOff ads' its := fun i T e a ha => (x.e i T e).2.2 a (h a ha)
theorem TOff.subL {h₀ : Heap} {L : Addr} {ads ads' : List Addr} {its : Array Value} (x : TOff h₀ L ads its) (h : ∀ a ∈ ads', a ∈ ads ∨ a = L) : ItOff ads' its := fun i T e a ha => by
  rcases h a ha with h | rfl
  · exact (x.e i T e).2.2 a h
  · exact (x.e i T e).1
/-- what a turn of the loop finds -/
noncomputable def SpP (w : World) (g : Heap) (L : Addr) (r dr ll x dx : Addr) (a1 a2 a3 a4 a5 a6 tM tc tl ts kt : Tok) (M z : Int) (kd : Nat) (ws : List (List Nat)) (s0 : Shared) (ad : List Addr) (j : Nat) (news : List (Addr × Obj)) (s : Shared) : Prop :=
  ∃ lns its n k kl tz ps qs, news = [(r, fvO dr), (dr, fvD w a1 a2 a3 a4 a5 a6 M tM tc tl ts ll x kd), (ll, lstO lns kl), (x, accO dx its n), (dx, iniO w kt (.int (stAt M z ws j).2.2 tz) k), (169, tabObj ps), (176, tabObj qs)] ∧
    TriplesOk ps.toList ∧ TriplesOk qs.toList ∧ AllBare s.gens ∧ s.drawn = s0.drawn ∧ s.os = s0.os ∧ TupsAt s.heap its (stAt M z ws j).2.1 ∧ StrsV lns.toList (stAt M z ws j).1 ∧ TOff g L (ad ++ [r, dr, ll, x, dx, 169, 176]) its
theorem rows_VF8_2 : True := by
  k_with "call ref" => (k_here; k_dflt (refine' ap_use ?fB ?fF ?fX ?fN ?fT ?fk ?fd ?fu ?fG ?m0 ?m1 ?m2 ?m3 ?m4 ?m5 ?m6 ?u1 ?u2 ?u3 ?u4 ?u5 ?pP ?pQ ?x1 ?x2 ?x3 ?x4 ?x5 ?x6 ?x7 ?x8 ?x9 ?_; walk_at "mine cl"; (case pP => assumption); (case pQ => assumption); (case x1 => walk_at "mine x"); (case x2 => walk_at "mine x"); (case x3 => walk_at "mine x"); (case x4 => walk_at "mine x"); (case x5 => walk_at "mine x"); (case x6 => walk_at "mine x"); (case x7 => walk_at "mine x"); (case x8 => walk_at "mine x"); (case x9 => walk_at "mine x"); k_whole); intro _ _ _ _ _ _ _ _ _ _ _ _ _ _ _ _ _ _ _ _ _ _; (try k_sweep); (try dsimp only); (try k_fold))
  k_with "execs cons" => ((with_reducible refine wpAny_execs_cons ?_); (try dsimp only); (try (refine tk_any ?_; intro _)); (try k_fold))
  trivial
theorem asp_cl (w : World) (mean : ExcName → Option Value) (mg mb : Str → Option Value) (r dr ll x dx : Addr) (a1 a2 a3 a4 a5 a6 tM tc tl ts : Tok) (M : Int) (kd kl n k : Nat) (ps qs : Array Value) (kt tz tf tp tq : Tok) (z : Int) (tx : Str) (w0 : List Nat) (ws0 : List (List Nat)) (htr : TriplesOk ps.toList) (hts : TriplesOk qs.toList)
  (hz0 : 0 ≤ z ∧ z ≤ 1000) (hM0 : 0 ≤ M) (hl2 : tx.length ≤ 1000) (hl : (Str.ofString "" ++ tx).cps.size ≤ 1000) (htx : (Str.ofString "" ++ tx).cps.toList = joinW w0 ws0) (hw0 : NoBl w0) (hws0 : ∀ v ∈ ws0, v ≠ [] ∧ NoBl v) (hwn : 0 < (⟨w0.toArray⟩ : Str).length ∧ (⟨w0.toArray⟩ : Str).length ≤ 1000) (hwl : ∀ v ∈ w0 :: ws0, v.length ≤ 1000) (hnw : ws0.length ≤ 40) :
  ROG w mean mg mb 113 [ll, x, dx, 169, 176] (fun _ => True) [(r, fvO dr), (dr, fvD w a1 a2 a3 a4 a5 a6 M tM tc tl ts ll x kd), (ll, lstO #[] kl), (x, accO dx #[] n), (dx, iniO w kt (.int z tz) k), (169, tabObj ps), (176, tabObj qs)] [.ref r, .str (Str.ofString "") tf, .str tx tp, .str (Str.ofString " ") tq]
    (fun h v h' => v = .none ∧ ∃ lns' its' n' kl' k' t' ps' qs', h'.get? ll = some (lstO lns' kl') ∧ h'.get? x = some (accO dx its' n') ∧ h'.get? dx = some (iniO w kt (.int (stAt M z (w0 :: ws0) (w0 :: ws0).length).2.2 t') k') ∧ h'.get? 169 = some (tabObj ps') ∧ h'.get? 176 = some (tabObj qs') ∧
        TriplesOk ps'.toList ∧ TriplesOk qs'.toList ∧ StrsV lns'.toList (stAt M z (w0 :: ws0) (w0 :: ws0).length).1 ∧ TupsAt h' its' (stAt M z (w0 :: ws0) (w0 :: ws0).length).2.1 ∧ (∀ (i : Nat) T, its'[i]? = some (.ref T) → h.get? T = none) ∧ ∀ (i j : Nat) T, its'[i]? = some (.ref T) → its'[j]? = some (.ref T) → i = j) 220 2200 := by
  delta ROG PR; k_fill
  intro dp un gd cn cs a ccd cl outer A₀ base h₀ L m s Q E B F KX N T' hk HP G hdp hun hret
  have o7 := off7 N
  have n1 := o7.n1
  have n2 := o7.n2
  have n3 := o7.n3
  have n4 := o7.n4
  have n5 := o7.n5
  have n6 := o7.n6
  have n7 := o7.n7
  have n8 := o7.n8
  have n9 := o7.n9
  have m1 := o7.m1
  have m2 := o7.m2
  have m3 := o7.m3
  have m4 := o7.m4
  have m5 := o7.m5
  have m6 := o7.m6
  have m7 := o7.m7
  have m8 := o7.m8
  have m9 := o7.m9
  have m0 := o7.m0
  have hsz' : (#[] : Array Value).size ≤ 1000 := Nat.zero_le _
  have hsz : (#[] : Array Value).size < 1000 := by decide
  w_strict (refine wpAny_call ?_; walk_at "mine enter")
  rename_i g1 L1 h1 FG1 F1 N1 X1 T1 GS1
  have HT : TupsAt g1 #[] [] := tups_none _
  have KN := Hold.in N1
  have KF := Hold.in F1
  k_with "exec For" => (refine Hold.out ?rF1)
  w_strict k_steps
  case rF1 =>
    refine Hold.in ?_
    rename StrVals _ _ => hvR
    rename News g1 _ _ _ => NX
    rename Fr g1 _ _ _ => FX
    have hitm := items_vals (w0 := w0) NX hvR
    refine (fun (P : List Addr → Nat → List (Addr × Obj) → Shared → Prop) (eP : P = SpP w g1 L1 r dr ll x dx a1 a2 a3 a4 a5 a6 tM tc tl ts kt M z kd (w0 :: ws0) s) => ?_) _ rfl
    have toS : ∀ ad j nw s', P ad j nw s' → SpP w g1 L1 r dr ll x dx a1 a2 a3 a4 a5 a6 tM tc tl ts kt M z kd (w0 :: ws0) s ad j nw s' := fun _ _ _ _ h => eP ▸ h
    have ofS : ∀ ad j nw s', SpP w g1 L1 r dr ll x dx a1 a2 a3 a4 a5 a6 tM tc tl ts kt M z kd (w0 :: ws0) s ad j nw s' → P ad j nw s' := fun _ _ _ _ h => eP ▸ h
    refine for_zipN FX NX P ?pE rfl rfl rfl rfl (items_size (hitm)) ?ev ?tn ?fi (fun _ => rfl)
    case pE => passes_own
    case ev =>
      subst eP
      w_strict k_steps
      rename News g1 _ _ _ => NE
      rename Fr g1 _ _ _ => FE
      refine Hold.in (exI7 _ _ _ _ _ _ _ ⟨rfl, ⟨?c1, ?c2, ?c3, ?c4, ?c5⟩, FE, cb_drop NE (by walk_at "mine sub"), exI8 _ #[] n k kl tz ps qs ⟨rfl, htr, hts, ?g1, rfl, rfl, tups_nil _, .nil, TOff.nil _ _ _⟩⟩)
      case c1 => exact List.forall_mem_cons.mpr ⟨by dsimp only; walk_at "pj", List.forall_mem_cons.mpr ⟨by dsimp only; walk_at "pj", List.forall_mem_cons.mpr ⟨by dsimp only; walk_at "pj", List.forall_mem_cons.mpr ⟨by dsimp only; walk_at "pj", List.forall_mem_cons.mpr ⟨by dsimp only; walk_at "pj", List.forall_mem_cons.mpr ⟨by dsimp only; walk_at "pj", List.forall_mem_cons.mpr ⟨by dsimp only; walk_at "pj", List.forall_mem_nil _⟩⟩⟩⟩⟩⟩⟩
      case c2 => first | omega | (dsimp only; omega)
      case c3 => first | omega | (dsimp only; omega)
      case c4 => first | omega | (dsimp only; omega)
      case c5 => first | omega | (dsimp only; omega)
      case g1 => assumption
    case tn =>
      intro z' TI TO I q nq too io news j s' xv yv h' tk' hlt hx hy C hP FT NT KT
      replace KT : KeptBut [z', TO, I, L1] s'.heap h' := KT
      refine exE8 (toS _ _ _ _ hP) fun lnsj itsj nj kj klj tzj psj qsj q9 => andE9 q9 fun en htrj htsj Gj hdj hoj htaj hlvj hoffj => ?_
      clear hP q9
      subst en
      refine exE3 (turn_vals hitm hlt hx hy) fun c tfj tpj q9 => andE3 q9 fun hc ex ey => ?_
      clear q9
      subst ex
      subst ey
      have hok := stAt_ok (M := M) (z := z) hwl j (Nat.le_of_lt hlt)
      have hj50 : j ≤ 50 := by simp at hlt; omega
      have hfb := prs_blank hc
      have hcl := prs_small hwl hc
      have hta' : TupsAt h' itsj (stAt M z (w0 :: ws0) j).2.1 := htaj.kept KT (hoffj.subL (by simp))
      have hio : ItOff [ll, x, dx, 169, 176] itsj := hoffj.sub (by simp)
      have ca := C.a
      have cb := C.b
      have cc := C.c
      have cd := C.d
      have ce := C.e
      clear C
      have CA := Hold.in ca
      have HX := Hold.in hoffj
      have HL := Hold.in htaj
      have es := stAt_succ (M := M) (z := z) hc
      clear NX FX
      k_lt ca
      have cI := lt7 ca cb
      have cT := lt7 cI (Nat.lt_trans cc cd)
      w_strict k_steps
      rename News g1 _ _ _ => NE
      rename Fr g1 _ _ _ => FE
      rename NewOff _ _ _ _ => of9
      rename _ ∨ _ => hor9
      rename TupsAt _ _ _ => hta9
      rename h'.get? _ = none => hn9
      show Hold _
      refine Hold.in ⟨_, FE, NE, ?ca, ?sp⟩
      case ca => exact List.forall_mem_cons.mpr ⟨by dsimp only; walk_at "pj", List.forall_mem_cons.mpr ⟨by dsimp only; walk_at "pj", List.forall_mem_cons.mpr ⟨by dsimp only; walk_at "pj", List.forall_mem_cons.mpr ⟨by dsimp only; walk_at "pj", List.forall_mem_cons.mpr ⟨by dsimp only; walk_at "pj", List.forall_mem_cons.mpr ⟨by dsimp only; walk_at "pj", List.forall_mem_cons.mpr ⟨by dsimp only; walk_at "pj", List.forall_mem_nil _⟩⟩⟩⟩⟩⟩⟩
      case sp =>
        refine ofS _ _ _ _ ?_
        unfold SpP
        rw [es]
        exact (exI8 _ _ _ _ _ _ _ _ ⟨rfl, by assumption, by assumption, by assumption, hdj, hoj, hta9, by assumption, TOff.step HX.out hta' hn9 of9 (by simp) hor9⟩)
    case fi =>
      intro z' TI TO I q news s' av bv h' C hP FT NT KT
      replace KT : KeptBut [z', TO, I, L1] s'.heap h' := KT
      refine exE8 (toS _ _ _ _ hP) fun lnsj itsj nj kj klj tzj psj qsj q9 => andE9 q9 fun en htrj htsj Gj hdj hoj htaj hlvj hoffj => ?_
      clear hP q9
      subst en
      have hta' : TupsAt h' itsj (stAt M z (w0 :: ws0) (w0 :: ws0).length).2.1 := htaj.kept KT (hoffj.subL (by simp))
      clear NX FX
      w_strict k_steps
      rw [hdj, hoj]
      rename News h₀ _ _ _ => NB
      have hfr : ∀ (i : Nat) T, itsj[i]? = some (.ref T) → s.heap.get? T = none := fun i T e => gsub_none GS1 (hoffj.e i T e).2.1 (fun hm => (hoffj.e i T e).2.2 T (by simp at hm ⊢; exact .inr (.inr (.inr (.inr (.inr hm))))) rfl)
      exact hret _ _ _ _ ⟨rfl, exI8 lnsj itsj _ _ _ _ _ _ ⟨news_at NB (by k_mem), news_at NB (by k_mem), news_at NB (by k_mem), news_at NB (by k_mem), news_at NB (by k_mem), htrj, htsj, hlvj, hta', hfr, hoffj.u⟩⟩ (by assumption) (kept_mut [ll, x, dx, 169, 176] N GS1 (Fr.keep FT) (sub_out NB (by walk_at "mine out"))) Gj
end Mine
end
section
open PySem PySem.W PySem.Calls PyProof.Rows PySem.Builtin
set_option Elab.async false
set_option maxRecDepth 100000
namespace Mine
section
variable {w : World} {A : Around} {E : Value → Shared → Prop} {s : Shared} {q L : Addr} {h₀ : Heap} {m : Str → Option Value} {k : Nat} {v : Value} {news : List (Addr × Obj)} {news' : Nat → List (Addr × Obj)}
theorem lst_pop0 {tk : Tok} {Q : Value → Shared → Prop} (ho : s.heap.get? q = some (lstO #[v] k))
    (h : ∀ h' n', Heap.SameBut q s.heap h' → h'.get? q = some (lstO #[] n') → Q v { s with heap := h' }) :
    wpAny (model PR w) A (call (.builtin "list.pop") [.ref q, .int 0 tk]) Q E s := by
  have hl : s.heap.IsList q #[v] := ⟨_, ho, rfl, _, rfl⟩
  refine wpAny_call_entry F.slot_list_pop hl.typeIs F.entry_list_pop ?_ (F.args_list_pop_2 _ _)
  unfold Builtin.«list.pop»
  refine wpAny_bind (m := PySem.selfAndSome "list.pop" "pop" 0 1 ⟨[Value.ref q, .int 0 tk], []⟩) (wpAny_of_eq (a := (Value.ref q, [.int 0 tk])) rfl ?_)
  refine wpAny_bind (m := PySem.asIndex (.int 0 tk)) (wpAny_of_eq (a := (0 : Int)) (by rfl) ?_)
  dsimp only
  rw [if_neg (by decide)]
  refine wpAny_bind (m := Builtin.List.listItems (.ref q)) ?_
  unfold Builtin.List.listItems
  refine wpAny_bind (wpAny_seqItems ho rfl (wpAny_pure ?_))
  rw [if_neg (by simp)]
  have e1 : (PySem.seqIndex? 0 (#[v] : Array Value).size) = some 0 := rfl
  rw [e1]
  simp only [Option.bind_some, List.getElem?_toArray, List.getElem?_cons_zero, Option.map_some]
  refine wpAny_bind ?_
  show wpAny _ _ (updateSeq q (·.eraseIdxIfInBounds 0)) _ _ s
  have fin : ∀ f : Array Value → Array Value, ∃ n', (Obj.mapSeq f (lstO #[v] k)) = lstO (f #[v]) n' := fun f => ⟨_, rfl⟩
  obtain ⟨n', en⟩ := fin fun xs => xs.eraseIdxIfInBounds 0
  refine wpAny_updateSeq ho rfl (wpAny_pure ⟨v, rfl, h _ n' (Heap.SameBut.update ..) ?_⟩) (by rw [PySem.sizeLine_eq]; simp) (by rw [PySem.sizeLine_eq]; simp)
  rw [Heap.get?_update_self _ ho rfl]
  exact (congrArg some en).trans (by simp)
theorem ks_pop0 {tk : Tok} {vs : List Value} {Q : Value → Shared → Prop} (F : Fr h₀ L s.heap m) (N : News h₀ L s.heap news) (hv : StrVals vs (pcsT [])) (U : ∀ n', Upd q (lstO (v :: vs).toArray k) (lstO #[] n') news (news' n'))
    (h : ∀ n' h', Fr h₀ L h' m → News h₀ L h' (news' n') → Q v { s with heap := h' }) : wpAny (model PR w) A (call (.builtin "list.pop") [.ref q, .int 0 tk]) Q E s := by
  have hvs : vs = [] := by cases hv; rfl
  subst hvs
  have hx := (upd_at N (U 0)).1
  exact lst_pop0 hx fun h' n' hs hg => h n' h' (upd_fr F N (U n') (keptBut_same hs)) (upd_news N (U n') (keptBut_same hs) hg)
end
end Mine
end
section
open PySem PySem.W PyProof.Rows PySem.Builtin
set_option Elab.async false
set_option maxRecDepth 100000
set_option maxHeartbeats 8000000
set_option pp.deepTerms false
set_option pp.deepTerms.threshold 6
set_option pp.maxSteps 3000
set_option pp.proofs false
namespace Mine
theorem rows_VF9_1 : True := by
  k_with_none
  w_top off
  k_with "pj" => (first | assumption | exact pj1 (by assumption) | exact pj2 (by assumption) | exact pj3 (by assumption) | exact pj4 (by assumption) | exact pj5 (by assumption) | exact pj6 (by assumption) | exact pl2 (by assumption) | exact pl3 (by assumption) | exact pl4 (by assumption) | exact pl5 (by assumption) | exact pl6 (by assumption) | exact pl7 (by assumption))
  k_with "k_ne" => (first | with_reducible exact Off.ne (by assumption) | with_reducible exact Off.ne' (by assumption) | exact news_neB (by assumption) (by k_mem) (by k_mem) rfl | exact OffAll.pick (by assumption) (by k_mem) | exact OffAll.pick' (by assumption) (by k_mem) | (refine neN ?_; (try dsimp only); (first | exact ne_u1 | exact ne_d1 | exact ne_u2 | exact ne_d2 | exact ne_u3 | exact ne_d3 | exact ne_l0 (by walk_at "pj") | exact ne_l1 (by walk_at "pj") | exact ne_l2 (by walk_at "pj") | exact ne_l3 (by walk_at "pj") | exact ne_g0 (by walk_at "pj") | exact ne_g1 (by walk_at "pj") | exact ne_g2 (by walk_at "pj") | exact ne_g3 (by walk_at "pj") | walk_at "pj" | exact Ne.symm (by walk_at "pj") | omega)))
  k_with "mine enter" => (k_dflt (refine' code_defG ?k1 ?k2 ?k3 ?k4 ?k5 ?kA ?kF ?kK ?k6 ?k7 ?k8 ?k9 ?kB ?_ ?c2 ?c3 ?c4 ?c5; (case kA => exact rfl); (case kF => exact rfl); (case kK => assumption); (case k1 => k_asm); (case k2 => k_asm); (case k3 => k_asm); (case k4 => k_asm); (case k5 => k_asm); (case k6 => k_is); (case k7 => k_is); (case k8 => first | exact room0 (by assumption) | ktr_room); (case k9 => first | exact BindsTo.of_eq rfl | exact binds_K (by k_in) rfl (by k_is) rfl rfl rfl); (case c5 => decide); (case kB => exact locs rfl); (case c2 => exact rfl); (case c3 => exact rfl); (case c4 => exact rfl); k_whole; intro _ _ _ _ _ _ B' _ _ _; (try dsimp only); (try k_lift B'); (try k_fold)))
  k_with "getMethod ref" => (k_here; k_dflt (refine' ka_method ?k1 ?k2 ?k3 ?k4 ?k5 ?k6 ?k7 ?k8 ?_; (case k1 => k_asm); (case k2 => k_asm); (case k3 => k_asm); (case k4 => k_mem); (case k5 => k_mem); (case k6 => k_is); (case k7 => kernel_rfl); (case k8 => exact rfl); k_whole))
  k_with "compareOp NotEq ref ref" => (k_here; k_dflt (refine' ka_ne_pair ?k1 ?k2 ?k3 ?k4 ?k5 ?_; (case k1 => k_asm); (case k2 => k_mem); (case k3 => k_mem); (case k4 => ktr_units); (case k5 => assumption); k_whole))
  k_with "getAttr ref" => (k_here; (with_reducible show wpAny _ _ (getAttr (Value.ref _) (PySem.Str.ofString "push") _) _ _ _); k_dflt (refine' ka_getFn (f := 151) ?k1 ?k2 ?k3 ?k4 ?k5 ?k6 ?k7 ?_; (case k1 => k_asm); (case k2 => k_asm); (case k3 => k_asm); (case k4 => k_mem); (case k5 => k_mem); (case k6 => kernel_rfl); (case k7 => kernel_rfl); k_whole); intro _ _ _ _ l1; (try k_lt l1))
  k_with "callWith ref" => (k_here; (with_reducible show wpAny _ _ (callWith _ (Value.ref _) _ (backTo _ (starEach [Expr.Starred _ _] _)) []) _ _ _); k_dflt (refine' callWith_SP ?k1 ?k2 ?_ ?k3; (case k1 => k_asm); (case k2 => k_mem); (case k3 => exact rfl); k_whole))
  k_with "eval Call Attribute" => (k_here; (with_reducible show wpAny _ _ (PySem.eval (Expr.Call _ [Expr.Starred _ _] _ _) _) _ _ _); k_dflt (refine' star_call ?_ ?k1; (case k1 => exact rfl); k_whole))
  k_with "mine base" => (first | exact tb_nil | (refine tb_cls rfl ?zb; (case zb => walk_at "mine base")) | (refine tb_ref (by assumption) ?zb; (case zb => walk_at "mine base")))
  k_with "mine out" => (first | exact so_nil | (refine so_fp ?za ?zb; (case za => k_mem); (case zb => walk_at "mine out")) | (refine so_in ?za ?zb; (case za => k_mem); (case zb => walk_at "mine out")))
  k_with "mine sub" => (first | exact sub_nil | (refine sub_cons ?za ?zb; (case za => k_mem); (case zb => walk_at "mine sub")))
  k_with "mine cl" => ((case fB => k_asm); (case fF => k_asm); (case fX => k_asm); (case fN => k_asm); (case fT => k_asm); (case fk => exact rfl); (case fd => first | exact room_le (by assumption) rfl | ktr_room); (case fu => first | exact room_le (by assumption) rfl | ktr_units); (try case fG => k_asm); (try case m0 => k_mem); (try case m1 => k_mem); (try case m2 => k_mem); (try case m3 => k_mem); (try case fU => walk_at "mine upd"); (try case fV => walk_at "mine upd"); (try case u1 => walk_at "mine upd"); (try case u2 => walk_at "mine upd"); (try case u3 => walk_at "mine upd"); (try case u4 => walk_at "mine upd"); (try case u5 => walk_at "mine upd"); (try case m4 => k_mem); (try case m5 => k_mem); (try case m6 => k_mem); (try case fP => walk_at "mine tups"))
  k_with "mine upd" => (first | k_upd | (intro _; walk_at "mine upd"))
  k_with "mine tups" => (first | exact TupsAt.keeps (by assumption) (fun b f tf p tp e => Fr.keep (by assumption) _ _ e) | exact tups_push (by assumption) (by assumption) (by assumption) (by k_mem))
  k_with "mine x" => (first | assumption | omega | (rw [Array.size_push]; omega) | (simp; omega) | (simp; done))
  k_with "call ref" => (k_here; k_dflt (refine' pushC_use ?fB ?fF ?fX ?fN ?fT ?fk ?fd ?fu ?m0 ?m4 ?x1 ?fU ?_; walk_at "mine cl"; (case x1 => walk_at "mine x"); k_whole); intro _ _ _ _ _ _ _; (try k_sweep); (try dsimp only); (try k_fold))
  k_with "getAttr ref" => (k_here; (with_reducible show wpAny _ _ (getAttr (Value.ref _) (PySem.Str.ofString "_initial_size") _) _ _ _); k_dflt (refine' ka_getIS ?k1 ?k2 ?k3 ?k4 ?k5 ?k6 ?_; (case k1 => k_asm); (case k2 => k_asm); (case k3 => k_asm); (case k4 => k_mem); (case k5 => k_mem); (case k6 => first | rfl | assumption); k_whole))
  k_with "subscriptTail" => (k_here; (with_reducible show wpAny _ _ (subscriptTail _ _ (Value.ref _) (Value.int _ _)) _ _ _); k_dflt (refine' ka_tailInt ?k1 ?k2 ?k3 ?k4 ?k5 ?k6 ?k7 ?_ ?kb ?kc; (case k1 => k_asm); (case k2 => k_asm); (case k3 => k_asm); (case k4 => k_mem); (case k5 => first | omega | (rw [Array.size_push]; omega)); (case k6 => first | omega | (rw [Array.size_push]; omega)); (case k7 => first | assumption | apply_assumption); (case kb => with_unfolding_all rfl); (case kc => intro _; with_unfolding_all rfl); k_whole))
  k_with "call ref" => (k_here; k_dflt (refine' len_use ?fB ?fF ?fX ?fN ?fT ?fk ?fd ?fu ?fG ?m1 ?m2 ?fP ?x1 ?x2 ?fU ?_; walk_at "mine cl"; (case x1 => walk_at "mine x"); (case x2 => walk_at "mine x"); k_whole); intro _ _ _ _ _ _ _ _ _; (try k_sweep); (try dsimp only); (try k_fold))
  k_with "call ref" => (k_here; k_dflt (refine' str_use ?fB ?fF ?fX ?fN ?fT ?fk ?fd ?fu ?fG ?m1 ?m2 ?fP ?x1 ?x2 ?x3 ?fU ?_; walk_at "mine cl"; (case x1 => walk_at "mine x"); (case x2 => walk_at "mine x"); (case x3 => walk_at "mine x"); k_whole); intro _ _ _ _ _ _ _ _ _; (try k_sweep); (try dsimp only); (try k_fold))
  k_with "call ref" => (k_here; k_dflt (refine' ws_use ?fB ?fF ?fX ?fN ?fT ?fk ?fd ?fu ?fG ?m1 ?m2 ?m3 ?fP ?x1 ?x2 ?x3 ?x4 ?x5 ?x6 ?x7 ?fU ?fV ?_; walk_at "mine cl"; (case x1 => walk_at "mine x"); (case x2 => walk_at "mine x"); (case x3 => walk_at "mine x"); (case x4 => walk_at "mine x"); (case x5 => walk_at "mine x"); (case x6 => walk_at "mine x"); (case x7 => walk_at "mine x"); k_whole); intro _ _ _ _ _ _ _ _ _ _; (try k_sweep); (try dsimp only); (try k_fold))
  k_with "call ref" => (k_here; k_dflt (refine' push_use ?fB ?fF ?fX ?fN ?fT ?fk ?fd ?fu ?m4 ?x1 ?fU ?_; walk_at "mine cl"; (case x1 => walk_at "mine x"); k_whole); intro _ _ _ _ _ _ _; (try k_sweep); (try dsimp only); (try k_fold))
  k_with "call ref" => (k_here; k_dflt (refine' pop_use ?fB ?fF ?fX ?fN ?fT ?fk ?fd ?fu ?m4 ?x1 ?fU ?_; walk_at "mine cl"; (case x1 => walk_at "mine x"); k_whole); intro _ _ _ _; (try k_sweep); (try dsimp only); (try k_fold))
  k_with "call ref" => (k_here; k_dflt (refine' popnil_use ?fB ?fF ?fX ?fN ?fT ?fk ?fd ?fu ?m0 ?m1 ?_; walk_at "mine cl"; k_whole); intro _ _ _ _ _ _ _ _ _; (try k_sweep); (try dsimp only); (try k_fold))
  k_with "call ref" => (k_here; k_dflt (refine' reset_use ?fB ?fF ?fX ?fN ?fT ?fk ?fd ?fu ?m4 ?x1 ?fU ?fV ?_; walk_at "mine cl"; (case x1 => walk_at "mine x"); k_whole); intro _ _ _ _ _ _ _; (try k_sweep); (try dsimp only); (try k_fold))
  k_with "call ref" => (k_here; k_dflt (refine' reset1_use ?fB ?fF ?fX ?fN ?fT ?fk ?fd ?fu ?m0 ?m4 ?fU ?fV ?x1 ?x2 ?_; walk_at "mine cl"; (case x1 => walk_at "mine x"); (case x2 => walk_at "mine x"); k_whole); intro _ _ _ _ _ _; (try k_sweep); (try dsimp only); (try k_fold))
  k_with "call ref" => (k_here; k_dflt (refine' poplast_use ?fB ?fF ?fX ?fN ?fT ?fk ?fd ?fu ?m4 ?x1 ?fU ?_; walk_at "mine cl"; (case x1 => walk_at "mine x"); k_whole); intro _ _ _ _ _ _ _ _; (try k_sweep); (try dsimp only); (try k_fold))
  k_with "call ref" => (k_here; k_dflt (refine' count_use ?fB ?fF ?fX ?fN ?fT ?fk ?fd ?fu ?m0 ?m1 ?_; walk_at "mine cl"; k_whole); intro _ _ _ _ _; (try k_sweep); (try dsimp only); (try k_fold))
  k_with "truthy ref" => (k_here; k_dflt (refine' ka_truthy ?k1 ?k2 ?k3 ?k4 ?k5 ?_; (case k1 => k_asm); (case k2 => k_asm); (case k3 => k_asm); (case k4 => k_mem); (case k5 => k_mem); k_whole))
  k_with "call type:str" => (k_here; k_dflt (refine' kso_call ?k1 ?k2 (acc_inst (news_at ?k3 ?k4) (news_at ?k5 ?k6)) ?k7 ?k8 ?_; (case k1 => ktr_units); (case k2 => k_in); (case k3 => k_asm); (case k4 => k_mem); (case k5 => k_asm); (case k6 => k_mem); (case k7 => k_is); (case k8 => k_is); k_whole))
  k_with "StrBack" => (dsimp only [W.StrBack])
  k_with "call builtin:len" => (k_here; k_dflt (refine' ka_len2 ?k1 ?k2 ?k3 ?k4 ?k5 ?_; (case k1 => k_asm); (case k2 => k_asm); (case k3 => k_asm); (case k4 => k_mem); (case k5 => k_mem); k_whole))
  k_with "LenBack" => (k_dflt (refine ⟨⟨by omega, by omega⟩, ?_⟩))
  k_with "getMethod ref" => (k_here; (with_reducible show wpAny _ _ (getMethod (Value.ref 50) _ _) _ _ _); k_dflt (refine' re_method ?k1 ?k2 ?_; (case k1 => k_asm); (case k2 => k_asm); k_whole))
  k_with "call builtin:re.Pattern.split" => (k_here; k_dflt (refine' re_split ?k1 ?k2 ?k3 ?k4 ?k5 ?k6 ?k7 ?_; (case k1 => k_asm); (case k2 => k_asm); (case k3 => k_asm); (case k4 => assumption); (case k5 => assumption); (case k6 => assumption); (case k7 => assumption); k_whole); intro _ _ _ _ _ _ _ _ l1 _; k_lt l1)
  k_with "truthy str" => (k_here; k_dflt (refine' tr_str ?k1 ?_; (case k1 => assumption); k_whole); intro _)
  k_with "truthy str" => (k_here; k_dflt (refine' tr_nil ?k1 ?_; (case k1 => assumption); k_whole); intro _)
  k_with "setItem ref ref" => (k_here; k_dflt (refine' ks_front ?k1 ?k2 ?k3 ?k4 ?k5 ?k6 ?k7 ?_; (case k1 => k_asm); (case k2 => k_asm); (case k3 => k_mem); (case k4 => k_ne); (case k5 => intro _; k_upd); (case k6 => assumption); (case k7 => first | assumption | decide | (simp; done)); k_whole); intro _ _ _ _; (try k_sweep))
  k_with "callWith type:zip" => (k_here; (with_reducible show wpAny _ _ (callWith _ (Value.type _) _ (backTo _ (starEach [Expr.Starred _ _] _)) []) _ _ _); k_dflt (refine' callWith_SZ ?_ ?k3; (case k3 => exact rfl); k_whole))
  k_with "call builtin:iter" => (k_here; k_dflt (refine' ks_iterL ?k1 ?k2 ?k3 ?_; (case k1 => k_asm); (case k2 => k_asm); (case k3 => k_mem); k_whole); intro _ _ _ _ l1; k_lt l1)
  k_with "call type:zip" => (k_here; k_dflt (refine' ks_zipL ?k1 ?k2 ?k3 ?_; (case k1 => k_asm); (case k2 => k_asm); (case k3 => k_mem); k_whole); intro _ _ _ _ _ _ l1 _ _; k_lt l1)
  k_with "call builtin:list.pop" => (k_here; k_dflt (show wpAny _ _ (call _ [Value.ref _, Value.int _ _]) _ _ _); k_dflt (refine' ks_pop0 ?k1 ?k2 ?k3 ?k4 ?_; (case k1 => k_asm); (case k2 => k_asm); (case k3 => assumption); (case k4 => intro _; k_upd); k_whole); intro _ _ _ N9; (try dsimp only at N9); (try k_sweep))
  k_with "execs cons" => ((with_reducible refine wpAny_execs_cons ?_); (try dsimp only); (try (refine tk_any ?_; intro _)); (try k_fold))
  trivial
theorem for_zipF {w : World} {A : Around} {E : Value → Shared → Prop} {s : Shared} {env : Env} {h₀ : Heap} {xa xb : Str} {pa pb pt pos : Pos} {x1} {iter : Expr} {body : List Stmt} {Q : Flow → Shared → Prop} {items : Array Value} {M0 : Str → Option Value} {n : Nat}
    (_F₀ : Fr h₀ env.locals s.heap M0) (P : List Addr → Nat → List (Addr × Obj) → Shared → Prop)
    (hE : PassesOwn (model PR w) A env E) (hh : A.handled = none) (hxa : env.kindOf xa = some .local) (hxb : env.kindOf xb = some .local) (hp : (env.scope.kind == .class || (env.scope.kind == .module && env.locals != env.globals)) = false)
    (hsz : items.size = 2 * n)
    (h : wpAny (model PR w) A (PySem.eval iter env) (fun v s₁ => Hold (∃ z TI TO I q nq news, v = .ref z ∧ ZChain z TI TO I q news ∧ Fr h₀ env.locals s₁.heap M0 ∧ News h₀ env.locals s₁.heap (zNews z TI TO I q (prO .none .none) (litO q 0) items nq news) ∧ P [z, TO, TI, I, q] 0 news s₁)) E s)
    (turn : ∀ z TI TO I q nq too io news j s x y h' tk', j < n → items[2 * j]? = some x → items[2 * j + 1]? = some y → ZChain z TI TO I q news → P [z, TO, TI, I, q] j news s →
      Fr h₀ env.locals h' (mapAB xa xb M0 (some x) (some y)) → News h₀ env.locals h' (zNews z TI TO I q too io items nq news) → KeptBut [z, TO, I, env.locals] s.heap h' →
      wpAny (model PR w) A (execs body env) (fun f s₃ => match f with
        | .next => Hold (∃ news', Fr h₀ env.locals s₃.heap (mapAB xa xb M0 (some x) (some y)) ∧ News h₀ env.locals s₃.heap (zNews z TI TO I q too io items nq news') ∧ (∀ p ∈ news', @LT.lt Nat _ p.1 q) ∧ P [z, TO, TI, I, q] (j + 1) news' s₃)
        | _ => False) E { s with heap := h', toks := tk' })
    (fin : ∀ z TI TO I q news s a b h', ZChain z TI TO I q news → P [z, TO, TI, I, q] n news s → Fr h₀ env.locals h' (mapAB xa xb M0 a b) → News h₀ env.locals h' news → KeptBut [z, TO, I, env.locals] s.heap h' → Q .next { s with heap := h' })
    (hs : ∀ x, foldedSetIterable iter env x = pure x) : wpAny (model PR w) A (exec (.For (.Tuple [.Name xa pa, .Name xb pb] x1 pt) iter body [] pos) env) Q E s :=
  for_zip P hE hh hxa hxb hp hsz h turn fin hs
theorem asp0_cl (w : World) (mean : ExcName → Option Value) (mg mb : Str → Option Value) (r dr ll x dx : Addr) (a1 a2 a3 a4 a5 a6 tM tc tl ts : Tok) (M : Int) (kd kl n k : Nat) (ps qs : Array Value) (kt tz tf tp tq : Tok) (z : Int) (htr : TriplesOk ps.toList) (hts : TriplesOk qs.toList) :
  ROG w mean mg mb 113 [] (fun _ => True) [(r, fvO dr), (dr, fvD w a1 a2 a3 a4 a5 a6 M tM tc tl ts ll x kd), (ll, lstO #[] kl), (x, accO dx #[] n), (dx, iniO w kt (.int z tz) k), (169, tabObj ps), (176, tabObj qs)] [.ref r, .str (Str.ofString "") tf, .str (Str.ofString "") tp, .str (Str.ofString " ") tq]
    (fun h v h' => v = .none) 220 2200 := by
  delta ROG PR; k_fill
  intro dp un gd cn cs a ccd cl outer A₀ base h₀ L m s Q E B F KX N T' hk HP G hdp hun hret
  have o7 := off7 N
  have n1 := o7.n1
  have n2 := o7.n2
  have n3 := o7.n3
  have n4 := o7.n4
  have n5 := o7.n5
  have n6 := o7.n6
  have n7 := o7.n7
  have n8 := o7.n8
  have n9 := o7.n9
  have m1 := o7.m1
  have m2 := o7.m2
  have m3 := o7.m3
  have m4 := o7.m4
  have m5 := o7.m5
  have m6 := o7.m6
  have m7 := o7.m7
  have m8 := o7.m8
  have m9 := o7.m9
  have m0 := o7.m0
  have hsz' : (#[] : Array Value).size ≤ 1000 := Nat.zero_le _
  have hsz : (#[] : Array Value).size < 1000 := by decide
  w_strict (refine wpAny_call ?_; walk_at "mine enter")
  rename_i g1 L1 h1 FG1 F1 N1 X1 T1 GS1
  have HT : TupsAt g1 #[] [] := tups_none _
  have KN := Hold.in N1
  have KF := Hold.in F1
  have htx : (Str.ofString "" ++ Str.ofString "").cps.toList = joinW [] [] := by decide +kernel
  have hl : (Str.ofString "" ++ Str.ofString "").cps.size ≤ 1000 := by decide +kernel
  have hl2 : (Str.ofString "").length ≤ 1000 := by decide +kernel
  have hw0 : NoBl [] := fun c hc => by cases hc
  have hws0 : ∀ v ∈ ([] : List (List Nat)), v ≠ [] ∧ NoBl v := fun c hc => by cases hc
  have hwn : (⟨([] : List Nat).toArray⟩ : Str).length = 0 := rfl
  k_with "exec For" => (refine Hold.out ?rF1)
  w_strict k_steps
  case rF1 =>
    refine Hold.in ?_
    rename Fr g1 _ _ _ => FX
    refine for_zipF (items := #[]) (n := 0) FX (fun _ j news s1 => news = [(r, fvO dr), (dr, fvD w a1 a2 a3 a4 a5 a6 M tM tc tl ts ll x kd), (ll, lstO #[] kl), (x, accO dx #[] n), (dx, iniO w kt (.int z tz) k), (169, tabObj ps), (176, tabObj qs)] ∧ s1.gens = s.gens ∧ s1.drawn = s.drawn ∧ s1.os = s.os) ?pE rfl rfl rfl rfl rfl ?ev ?tn ?fi (fun _ => rfl)
    case pE => passes_own
    case ev =>
      w_strict k_steps
      rename News g1 _ _ _ => NE
      rename Fr g1 _ _ _ => FE
      refine Hold.in (exI7 _ _ _ _ _ _ _ ⟨rfl, ⟨?c1, ?c2, ?c3, ?c4, ?c5⟩, FE, cb_drop NE (by walk_at "mine sub"), rfl, rfl, rfl, rfl⟩)
      case c1 => exact List.forall_mem_cons.mpr ⟨by dsimp only; walk_at "pj", List.forall_mem_cons.mpr ⟨by dsimp only; walk_at "pj", List.forall_mem_cons.mpr ⟨by dsimp only; walk_at "pj", List.forall_mem_cons.mpr ⟨by dsimp only; walk_at "pj", List.forall_mem_cons.mpr ⟨by dsimp only; walk_at "pj", List.forall_mem_cons.mpr ⟨by dsimp only; walk_at "pj", List.forall_mem_cons.mpr ⟨by dsimp only; walk_at "pj", List.forall_mem_nil _⟩⟩⟩⟩⟩⟩⟩
      case c2 => first | omega | (dsimp only; omega)
      case c3 => first | omega | (dsimp only; omega)
      case c4 => first | omega | (dsimp only; omega)
      case c5 => first | omega | (dsimp only; omega)
    case tn =>
      intro z' TI TO I q nq too io news j s' xv yv h' tk' hlt
      exact absurd hlt (Nat.not_lt_zero _)
    case fi =>
      intro z' TI TO I q news s' av bv h' C hP FT NT KT
      obtain ⟨rfl, e1, e2, e3⟩ := hP
      clear FX
      w_strict k_steps
      rw [e1, e2, e3]
      rename News h₀ _ _ _ => NB
      exact hret _ _ _ _ rfl (by assumption) (kept_mut [] N GS1 (Fr.keep FT) (sub_out NB (by walk_at "mine out"))) G
end Mine
end
section
open PySem PySem.W PyProof.Rows PySem.Builtin
set_option Elab.async false
set_option maxRecDepth 100000
set_option maxHeartbeats 8000000
set_option pp.deepTerms false
set_option pp.deepTerms.threshold 6
set_option pp.maxSteps 3000
set_option pp.proofs false
namespace Mine
theorem rows_VF10_1 : True := by
  k_with_none
  w_top off
  k_with "k_ne" => (first | with_reducible exact Off.ne (by assumption) | with_reducible exact Off.ne' (by assumption) | exact news_neB (by assumption) (by k_mem) (by k_mem) rfl | exact OffAll.pick (by assumption) (by k_mem) | exact OffAll.pick' (by assumption) (by k_mem) | (refine neN ?_; (try dsimp only); omega))
  k_with "mine enter" => (k_dflt (refine' code_defG ?k1 ?k2 ?k3 ?k4 ?k5 ?kA ?kF ?kK ?k6 ?k7 ?k8 ?k9 ?kB ?_ ?c2 ?c3 ?c4 ?c5; (case kA => exact rfl); (case kF => exact rfl); (case kK => assumption); (case k1 => k_asm); (case k2 => k_asm); (case k3 => k_asm); (case k4 => k_asm); (case k5 => k_asm); (case k6 => k_is); (case k7 => k_is); (case k8 => first | exact room0 (by assumption) | ktr_room); (case k9 => first | exact BindsTo.of_eq rfl | exact binds_K (by k_in) rfl (by k_is) rfl rfl rfl); (case c5 => decide); (case kB => exact locs rfl); (case c2 => exact rfl); (case c3 => exact rfl); (case c4 => exact rfl); k_whole; intro _ _ _ _ _ _ B' _ _ _; (try dsimp only); (try k_lift B'); (try k_fold)))
  k_with "getMethod ref" => (k_here; k_dflt (refine' ka_method ?k1 ?k2 ?k3 ?k4 ?k5 ?k6 ?k7 ?k8 ?_; (case k1 => k_asm); (case k2 => k_asm); (case k3 => k_asm); (case k4 => k_mem); (case k5 => k_mem); (case k6 => k_is); (case k7 => kernel_rfl); (case k8 => exact rfl); k_whole))
  k_with "compareOp NotEq ref ref" => (k_here; k_dflt (refine' ka_ne_pair ?k1 ?k2 ?k3 ?k4 ?k5 ?_; (case k1 => k_asm); (case k2 => k_mem); (case k3 => k_mem); (case k4 => ktr_units); (case k5 => assumption); k_whole))
  k_with "getAttr ref" => (k_here; (with_reducible show wpAny _ _ (getAttr (Value.ref _) (PySem.Str.ofString "push") _) _ _ _); k_dflt (refine' ka_getFn (f := 151) ?k1 ?k2 ?k3 ?k4 ?k5 ?k6 ?k7 ?_; (case k1 => k_asm); (case k2 => k_asm); (case k3 => k_asm); (case k4 => k_mem); (case k5 => k_mem); (case k6 => kernel_rfl); (case k7 => kernel_rfl); k_whole); intro _ _ _ _ l1; (try k_lt l1))
  k_with "callWith ref" => (k_here; (with_reducible show wpAny _ _ (callWith _ (Value.ref _) _ (backTo _ (starEach [Expr.Starred _ _] _)) []) _ _ _); k_dflt (refine' callWith_SP ?k1 ?k2 ?_ ?k3; (case k1 => k_asm); (case k2 => k_mem); (case k3 => exact rfl); k_whole))
  k_with "eval Call Attribute" => (k_here; (with_reducible show wpAny _ _ (PySem.eval (Expr.Call _ [Expr.Starred _ _] _ _) _) _ _ _); k_dflt (refine' star_call ?_ ?k1; (case k1 => exact rfl); k_whole))
  k_with "mine base" => (first | exact tb_nil | (refine tb_cls rfl ?zb; (case zb => walk_at "mine base")) | (refine tb_ref (by assumption) ?zb; (case zb => walk_at "mine base")))
  k_with "mine out" => (first | exact so_nil | (refine so_fp ?za ?zb; (case za => k_mem); (case zb => walk_at "mine out")) | (refine so_in ?za ?zb; (case za => k_mem); (case zb => walk_at "mine out")))
  k_with "mine sub" => (first | exact sub_nil | (refine sub_cons ?za ?zb; (case za => k_mem); (case zb => walk_at "mine sub")))
  k_with "mine cl" => ((case fB => k_asm); (case fF => k_asm); (case fX => k_asm); (case fN => k_asm); (case fT => k_asm); (case fk => exact rfl); (case fd => first | exact room_le (by assumption) rfl | ktr_room); (case fu => first | exact room_le (by assumption) rfl | ktr_units); (try case fG => k_asm); (try case m0 => k_mem); (try case m1 => k_mem); (try case m2 => k_mem); (try case m3 => k_mem); (try case fU => walk_at "mine upd"); (try case fV => walk_at "mine upd"); (try case u1 => walk_at "mine upd"); (try case u2 => walk_at "mine upd"); (try case u3 => walk_at "mine upd"); (try case u4 => walk_at "mine upd"); (try case u5 => walk_at "mine upd"); (try case m4 => k_mem); (try case m5 => k_mem); (try case m6 => k_mem); (try case fP => walk_at "mine tups"))
  k_with "mine upd" => (first | k_upd | (intro _; walk_at "mine upd"))
  k_with "mine tups" => (first | exact TupsAt.keeps (by assumption) (fun b f tf p tp e => Fr.keep (by assumption) _ _ e) | exact tups_push (by assumption) (by assumption) (by assumption) (by k_mem))
  k_with "mine x" => (first | assumption | omega | (rw [Array.size_push]; omega) | (simp; omega) | (simp; done))
  k_with "call ref" => (k_here; k_dflt (refine' pushC_use ?fB ?fF ?fX ?fN ?fT ?fk ?fd ?fu ?m0 ?m4 ?x1 ?fU ?_; walk_at "mine cl"; (case x1 => walk_at "mine x"); k_whole); intro _ _ _ _ _ _ _; (try k_sweep); (try dsimp only); (try k_fold))
  k_with "getAttr ref" => (k_here; (with_reducible show wpAny _ _ (getAttr (Value.ref _) (PySem.Str.ofString "_initial_size") _) _ _ _); k_dflt (refine' ka_getIS ?k1 ?k2 ?k3 ?k4 ?k5 ?k6 ?_; (case k1 => k_asm); (case k2 => k_asm); (case k3 => k_asm); (case k4 => k_mem); (case k5 => k_mem); (case k6 => first | rfl | assumption); k_whole))
  k_with "subscriptTail" => (k_here; (with_reducible show wpAny _ _ (subscriptTail _ _ (Value.ref _) (Value.int _ _)) _ _ _); k_dflt (refine' ka_tailInt ?k1 ?k2 ?k3 ?k4 ?k5 ?k6 ?k7 ?_ ?kb ?kc; (case k1 => k_asm); (case k2 => k_asm); (case k3 => k_asm); (case k4 => k_mem); (case k5 => first | omega | (rw [Array.size_push]; omega)); (case k6 => first | omega | (rw [Array.size_push]; omega)); (case k7 => first | assumption | apply_assumption); (case kb => with_unfolding_all rfl); (case kc => intro _; with_unfolding_all rfl); k_whole))
  k_with "call ref" => (k_here; k_dflt (refine' len_use ?fB ?fF ?fX ?fN ?fT ?fk ?fd ?fu ?fG ?m1 ?m2 ?fP ?x1 ?x2 ?fU ?_; walk_at "mine cl"; (case x1 => walk_at "mine x"); (case x2 => walk_at "mine x"); k_whole); intro _ _ _ _ _ _ _ _ _; (try k_sweep); (try dsimp only); (try k_fold))
  k_with "call ref" => (k_here; k_dflt (refine' str_use ?fB ?fF ?fX ?fN ?fT ?fk ?fd ?fu ?fG ?m1 ?m2 ?fP ?x1 ?x2 ?x3 ?fU ?_; walk_at "mine cl"; (case x1 => walk_at "mine x"); (case x2 => walk_at "mine x"); (case x3 => walk_at "mine x"); k_whole); intro _ _ _ _ _ _ _ _ _; (try k_sweep); (try dsimp only); (try k_fold))
  k_with "call ref" => (k_here; k_dflt (refine' ws_use ?fB ?fF ?fX ?fN ?fT ?fk ?fd ?fu ?fG ?m1 ?m2 ?m3 ?fP ?x1 ?x2 ?x3 ?x4 ?x5 ?x6 ?x7 ?fU ?fV ?_; walk_at "mine cl"; (case x1 => walk_at "mine x"); (case x2 => walk_at "mine x"); (case x3 => walk_at "mine x"); (case x4 => walk_at "mine x"); (case x5 => walk_at "mine x"); (case x6 => walk_at "mine x"); (case x7 => walk_at "mine x"); k_whole); intro _ _ _ _ _ _ _ _ _ _; (try k_sweep); (try dsimp only); (try k_fold))
  k_with "call ref" => (k_here; k_dflt (refine' push_use ?fB ?fF ?fX ?fN ?fT ?fk ?fd ?fu ?m4 ?x1 ?fU ?_; walk_at "mine cl"; (case x1 => walk_at "mine x"); k_whole); intro _ _ _ _ _ _ _; (try k_sweep); (try dsimp only); (try k_fold))
  k_with "call ref" => (k_here; k_dflt (refine' pop_use ?fB ?fF ?fX ?fN ?fT ?fk ?fd ?fu ?m4 ?x1 ?fU ?_; walk_at "mine cl"; (case x1 => walk_at "mine x"); k_whole); intro _ _ _ _; (try k_sweep); (try dsimp only); (try k_fold))
  k_with "call ref" => (k_here; k_dflt (refine' popnil_use ?fB ?fF ?fX ?fN ?fT ?fk ?fd ?fu ?m0 ?m1 ?_; walk_at "mine cl"; k_whole); intro _ _ _ _ _ _ _ _ _; (try k_sweep); (try dsimp only); (try k_fold))
  k_with "call ref" => (k_here; k_dflt (refine' reset_use ?fB ?fF ?fX ?fN ?fT ?fk ?fd ?fu ?m4 ?x1 ?fU ?fV ?_; walk_at "mine cl"; (case x1 => walk_at "mine x"); k_whole); intro _ _ _ _ _ _ _; (try k_sweep); (try dsimp only); (try k_fold))
  k_with "call ref" => (k_here; k_dflt (refine' reset1_use ?fB ?fF ?fX ?fN ?fT ?fk ?fd ?fu ?m0 ?m4 ?fU ?fV ?x1 ?x2 ?_; walk_at "mine cl"; (case x1 => walk_at "mine x"); (case x2 => walk_at "mine x"); k_whole); intro _ _ _ _ _ _; (try k_sweep); (try dsimp only); (try k_fold))
  k_with "call ref" => (k_here; k_dflt (refine' poplast_use ?fB ?fF ?fX ?fN ?fT ?fk ?fd ?fu ?m4 ?x1 ?fU ?_; walk_at "mine cl"; (case x1 => walk_at "mine x"); k_whole); intro _ _ _ _ _ _ _ _; (try k_sweep); (try dsimp only); (try k_fold))
  k_with "call ref" => (k_here; k_dflt (refine' count_use ?fB ?fF ?fX ?fN ?fT ?fk ?fd ?fu ?m0 ?m1 ?_; walk_at "mine cl"; k_whole); intro _ _ _ _ _; (try k_sweep); (try dsimp only); (try k_fold))
  k_with "truthy ref" => (k_here; k_dflt (refine' ka_truthy ?k1 ?k2 ?k3 ?k4 ?k5 ?_; (case k1 => k_asm); (case k2 => k_asm); (case k3 => k_asm); (case k4 => k_mem); (case k5 => k_mem); k_whole))
  k_with "call type:str" => (k_here; k_dflt (refine' kso_call ?k1 ?k2 (acc_inst (news_at ?k3 ?k4) (news_at ?k5 ?k6)) ?k7 ?k8 ?_; (case k1 => ktr_units); (case k2 => k_in); (case k3 => k_asm); (case k4 => k_mem); (case k5 => k_asm); (case k6 => k_mem); (case k7 => k_is); (case k8 => k_is); k_whole))
  k_with "StrBack" => (dsimp only [W.StrBack])
  k_with "call builtin:len" => (k_here; k_dflt (refine' ka_len2 ?k1 ?k2 ?k3 ?k4 ?k5 ?_; (case k1 => k_asm); (case k2 => k_asm); (case k3 => k_asm); (case k4 => k_mem); (case k5 => k_mem); k_whole))
  k_with "LenBack" => (k_dflt (refine ⟨⟨by omega, by omega⟩, ?_⟩))
  k_with "getMethod ref" => (k_here; (with_reducible show wpAny _ _ (getMethod (Value.ref 50) _ _) _ _ _); k_dflt (refine' re_method ?k1 ?k2 ?_; (case k1 => k_asm); (case k2 => k_asm); k_whole))
  k_with "call builtin:re.Pattern.split" => (k_here; k_dflt (refine' re_split ?k1 ?k2 ?k3 ?k4 ?k5 ?k6 ?k7 ?_; (case k1 => k_asm); (case k2 => k_asm); (case k3 => k_asm); (case k4 => assumption); (case k5 => assumption); (case k6 => assumption); (case k7 => assumption); k_whole); intro _ _ _ _ _ _ _ _ l1 _; k_lt l1)
  k_with "truthy str" => (k_here; k_dflt (refine' tr_str ?k1 ?_; (case k1 => assumption); k_whole); intro _)
  k_with "truthy str" => (k_here; k_dflt (refine' tr_nil ?k1 ?_; (case k1 => assumption); k_whole); intro _)
  k_with "setItem ref ref" => (k_here; k_dflt (refine' ks_front ?k1 ?k2 ?k3 ?k4 ?k5 ?k6 ?k7 ?_; (case k1 => k_asm); (case k2 => k_asm); (case k3 => k_mem); (case k4 => k_ne); (case k5 => intro _; k_upd); (case k6 => assumption); (case k7 => first | assumption | decide | (simp; done)); k_whole); intro _ _ _ _; (try k_sweep))
  k_with "callWith type:zip" => (k_here; (with_reducible show wpAny _ _ (callWith _ (Value.type _) _ (backTo _ (starEach [Expr.Starred _ _] _)) []) _ _ _); k_dflt (refine' callWith_SZ ?_ ?k3; (case k3 => exact rfl); k_whole))
  k_with "call builtin:iter" => (k_here; k_dflt (refine' ks_iterL ?k1 ?k2 ?k3 ?_; (case k1 => k_asm); (case k2 => k_asm); (case k3 => k_mem); k_whole); intro _ _ _ _ l1; k_lt l1)
  k_with "call type:zip" => (k_here; k_dflt (refine' ks_zipL ?k1 ?k2 ?k3 ?_; (case k1 => k_asm); (case k2 => k_asm); (case k3 => k_mem); k_whole); intro _ _ _ _ _ _ l1 _ _; k_lt l1)
  trivial
theorem ks_joinL {w : World} {A : Around} {E : Value → Shared → Prop} {s : Shared} {L ll : Addr} {h₀ : Heap} {its : Array Value} {n : Nat} {news : List (Addr × Obj)} {x : Str} {t : Tok} {ys : List Str} {Q : Value → Shared → Prop}
    (N : News h₀ L s.heap news) (hm : (ll, lstO its n) ∈ news) (hv : StrsAre its.toList ys) (hok : (ys.map (·.length)).sum + ys.length * x.length ≤ 16777216)
    (h : ∀ t k, Q (.str (Txt.join x ys) t) { s with toks := k }) : wpAny (model PR w) A (call (.builtin "str.join") [.str x t, .ref ll]) Q E s :=
  join_list ⟨_, (N _ hm).1, rfl, _, rfl⟩ hv hok h
theorem StrsV.are {a : List Value} {c : List Str} (h : StrsV a c) : StrsAre a c := by
  induction h with
  | nil => exact .nil
  | cons _ ih => exact .cons _ _ ih
theorem StrsAre.snoc {a : List Value} {c : List Str} (h : StrsAre a c) (x : Str) (t : Tok) : StrsAre (a ++ [.str x t]) (c ++ [x]) := by
  induction h with
  | nil => exact .cons _ _ .nil
  | cons _ _ _ ih => exact .cons _ _ ih
theorem StrsAre.push {a : Array Value} {c : List Str} (h : StrsAre a.toList c) (x : Str) (t : Tok) : StrsAre (a.push (.str x t)).toList (c ++ [x]) := by
  rw [Array.toList_push]; exact StrsAre.snoc h x t
theorem rows_VF10_2 : True := by
  k_with "call ref" => (k_here; k_dflt (refine' nl_use ?fB ?fF ?fX ?fN ?fT ?fk ?fd ?fu ?fG ?m0 ?m1 ?m2 ?m3 ?u1 ?u2 ?u3 ?u4 ?u5 ?m4 ?m5 ?m6 ?fP ?x0 ?x1 ?x2 ?x3 ?x4 ?x5 ?x6 ?x7 ?x8 ?x9 ?x10 ?_; walk_at "mine cl"; (case x0 => walk_at "mine x"); (case x1 => walk_at "mine x"); (case x2 => walk_at "mine x"); (case x3 => walk_at "mine x"); (case x4 => walk_at "mine x"); (case x5 => walk_at "mine x"); (case x6 => walk_at "mine x"); (case x7 => walk_at "mine x"); (case x8 => walk_at "mine x"); (case x9 => walk_at "mine x"); (case x10 => walk_at "mine x"); k_whole); intro _ _ _ _ _ _ _ _ _ _ _ _ _ _ _; (try k_sweep); (try dsimp only); (try k_fold))
  k_with "call ref" => (k_here; k_dflt (refine' nlpos_use ?fB ?fF ?fX ?fN ?fT ?fk ?fd ?fu ?fG ?m0 ?m1 ?m2 ?u1 ?u2 ?u3 ?u4 ?u5 ?m4 ?m5 ?m6 ?x1 ?x2 ?x3 ?x4 ?x5 ?_; walk_at "mine cl"; (case x1 => walk_at "mine x"); (case x2 => walk_at "mine x"); (case x3 => walk_at "mine x"); (case x4 => walk_at "mine x"); (case x5 => walk_at "mine x"); k_whole); intro _ _ _ _ _ _ _ _ _ _ _ _ _ _ _; (try k_sweep); (try dsimp only); (try k_fold))
  k_with "call ref" => (k_here; k_dflt (refine' nlzero_use ?fB ?fF ?fX ?fN ?fT ?fk ?fd ?fu ?fG ?m0 ?m1 ?m2 ?u1 ?u2 ?u3 ?u4 ?m4 ?m5 ?m6 ?x1 ?x2 ?x3 ?x4 ?x5 ?_; walk_at "mine cl"; (case x1 => walk_at "mine x"); (case x2 => walk_at "mine x"); (case x3 => walk_at "mine x"); (case x4 => walk_at "mine x"); (case x5 => walk_at "mine x"); k_whole); intro _ _ _ _ _ _ _ _ _ _ _ _ _; (try k_sweep); (try dsimp only); (try k_fold))
  k_with "call builtin:str.join" => (k_here; k_dflt (refine' ks_joinL ?k1 ?k2 ?k3 ?k4 ?_; (case k1 => k_asm); (case k2 => k_mem); (case k3 => first | assumption | exact StrsAre.push (by assumption) _ _); (case k4 => assumption); k_whole); intro _ _)
  k_with "execs cons" => ((with_reducible refine wpAny_execs_cons ?_); (try dsimp only); (try (refine tk_any ?_; intro _)); (try k_fold))
  trivial
theorem str1_cl (w : World) (lines : List Str) (tnl : Tok) (mean : ExcName → Option Value) (mg mb : Str → Option Value) (r dr ll x dx T : Addr) (a1 a2 a3 a4 a5 a6 tM tc tl ts : Tok) (M : Int) (kd kl n k : Nat) (lns ini ps qs : Array Value) (kt tz tf tp : Tok) (z : Int) (f p : Str) (Li : List (Str × Str)) (htr : TriplesOk ps.toList) (hts : TriplesOk qs.toList) (hn : (Li ++ [(f, p)]).length ≤ 100) (hln : lns.size ≤ 100) (hLs : ∀ q ∈ Li ++ [(f, p)], q.1.length ≤ 1000 ∧ q.2.length ≤ 1000)
  (hz0 : 0 ≤ z) (hz1 : z ≤ 1000) (hp : 0 < p.length) (hpe : (p == Str.ofString "") = false ∨ (f == Str.ofString " ") = false) (hz : z ≠ 0 ∨ (0 < totL (Li ++ [(f, p)]) ∧ Txt.isspace (strL (Li ++ [(f, p)])) = false)) (hlv : StrsAre lns.toList lines) (hjn : ((lines ++ [strL (Li ++ [(f, p)])]).map (·.length)).sum + (lines ++ [strL (Li ++ [(f, p)])]).length * (Str.ofString "\n").length ≤ 16777216) :
  ROG w mean mg mb 71 [ll, x, dx, 169, 176] (fun h => TupsAt h ini Li ∧ ∀ j : Nat, ini[j]? ≠ some (.ref T)) [(r, fvO dr), (dr, fvD w a1 a2 a3 a4 a5 a6 M tM tc tl ts ll x kd), (ll, lstO lns kl), (x, accO dx (ini.push (.ref T)) n), (dx, iniO w kt (.int z tz) k), (169, tabObj ps), (176, tabObj qs), (T, tup2 f tf p tp)] [.ref r, .str (Str.ofString "\n") tnl]
    (fun _ v h' => (∃ t, v = .str (Txt.join (Str.ofString "\n") (lines ++ [strL (Li ++ [(f, p)])])) t) ∧ (∃ ps', TriplesOk ps'.toList ∧ h'.get? 169 = some (tabObj ps')) ∧ (∃ qs', TriplesOk qs'.toList ∧ h'.get? 176 = some (tabObj qs'))) 60 600 := by
  delta ROG PR; k_fill
  intro dp un gd cn cs a ccd cl outer A₀ base h₀ L m s Q E B F KX N T' hk HP G hdp hun hret
  obtain ⟨HP, hTi⟩ := HP
  have o7 := off7 N
  have n1 := o7.n1
  have n2 := o7.n2
  have n3 := o7.n3
  have n4 := o7.n4
  have n5 := o7.n5
  have n6 := o7.n6
  have n7 := o7.n7
  have n8 := o7.n8
  have n9 := o7.n9
  have m1 := o7.m1
  have m2 := o7.m2
  have m3 := o7.m3
  have m4 := o7.m4
  have m5 := o7.m5
  have m6 := o7.m6
  have m7 := o7.m7
  have m8 := o7.m8
  have m9 := o7.m9
  have m0 := o7.m0
  have o5 := off5 N
  have l1 := o5.l1
  have l2 := o5.l2
  have l3 := o5.l3
  have l4 := o5.l4
  have l5 := o5.l5
  have htot := totL_le (Li ++ [(f, p)]) hn hLs
  have hsz : ini.size < 1000 := by rw [HP.1]; simp at hn; omega
  have hsz' : ini.size ≤ 1000 := by omega
  w_strict (refine wpAny_call ?_; walk_at "mine enter")
  rename_i g1 L1 h1 FG1 F1 N1 X1 T1 GS1
  have HT : TupsAt g1 ini Li := tups_base N GS1 HP (by walk_at "mine base")
  w_strict k_steps
  all_goals exact hret _ _ _ _ ⟨⟨_, rfl⟩, tri_at (by assumption) (by k_mem) (by assumption), tri_at (by assumption) (by k_mem) (by assumption)⟩ (by assumption) (kept_mut [ll, x, dx, 169, 176] N (by assumption) (Fr.keep (by assumption)) (sub_out (by assumption) (by walk_at "mine out"))) (by assumption)

theorem str2_cl (w : World) (lines : List Str) (tnl : Tok) (mean : ExcName → Option Value) (mg mb : Str → Option Value) (r dr ll x dx : Addr) (a1 a2 a3 a4 a5 a6 tM tc tl ts : Tok) (M : Int) (kd kl n k : Nat) (lns ps qs : Array Value) (kt tz : Tok) (z : Int) (htr : TriplesOk ps.toList) (hts : TriplesOk qs.toList) (hln : lns.size ≤ 100) (hz1 : z ≤ 1000) (hz : 0 < z) (hlv : StrsAre lns.toList lines) (hjn : ((lines ++ [Str.ofString ""]).map (·.length)).sum + (lines ++ [Str.ofString ""]).length * (Str.ofString "\n").length ≤ 16777216) :
  ROG w mean mg mb 71 [ll, x, dx, 169, 176] (fun _ => True) [(r, fvO dr), (dr, fvD w a1 a2 a3 a4 a5 a6 M tM tc tl ts ll x kd), (ll, lstO lns kl), (x, accO dx #[] n), (dx, iniO w kt (.int z tz) k), (169, tabObj ps), (176, tabObj qs)] [.ref r, .str (Str.ofString "\n") tnl]
    (fun _ v h' => (∃ t, v = .str (Txt.join (Str.ofString "\n") (lines ++ [Str.ofString ""])) t) ∧ (∃ ps', TriplesOk ps'.toList ∧ h'.get? 169 = some (tabObj ps')) ∧ (∃ qs', TriplesOk qs'.toList ∧ h'.get? 176 = some (tabObj qs'))) 60 600 := by
  delta ROG PR; k_fill
  intro dp un gd cn cs a ccd cl outer A₀ base h₀ L m s Q E B F KX N T' hk HP G hdp hun hret
  have o7 := off7 N
  have n1 := o7.n1
  have n2 := o7.n2
  have n3 := o7.n3
  have n4 := o7.n4
  have n5 := o7.n5
  have n6 := o7.n6
  have n7 := o7.n7
  have n8 := o7.n8
  have n9 := o7.n9
  have m1 := o7.m1
  have m2 := o7.m2
  have m3 := o7.m3
  have m4 := o7.m4
  have m5 := o7.m5
  have m6 := o7.m6
  have m7 := o7.m7
  have m8 := o7.m8
  have m9 := o7.m9
  have m0 := o7.m0
  have hpe : (Str.ofString "" == Str.ofString "") = false ∨ (Str.ofString "" == Str.ofString " ") = false := .inr (by decide +kernel)
  have e0 : (Str.ofString "").length = 0 := by decide +kernel
  have ht0 : totL ([] ++ [(Str.ofString "", Str.ofString "")]) = 0 := by simp [totL, e0]
  have hn : (([] : List (Str × Str)) ++ [(Str.ofString "", Str.ofString "")]).length ≤ 100 := by simp
  have hLs : ∀ q ∈ ([] : List (Str × Str)) ++ [(Str.ofString "", Str.ofString "")], q.1.length ≤ 1000 ∧ q.2.length ≤ 1000 := by simp [e0]
  have hz0 : 0 ≤ z := by omega
  have hzw : z ≠ 0 ∨ (0 < totL (([] : List (Str × Str)) ++ [(Str.ofString "", Str.ofString "")]) ∧ Txt.isspace (strL (([] : List (Str × Str)) ++ [(Str.ofString "", Str.ofString "")])) = false) := .inl (by omega)
  have hsz : (#[] : Array Value).size < 1000 := by decide
  have hsz' : (#[] : Array Value).size ≤ 1000 := Nat.zero_le _
  w_strict (refine wpAny_call ?_; walk_at "mine enter")
  rename_i g1 L1 h1 FG1 F1 N1 X1 T1 GS1
  have HT : TupsAt g1 #[] [] := tups_none _
  w_strict k_steps
  all_goals exact hret _ _ _ _ ⟨⟨_, rfl⟩, tri_at (by assumption) (by k_mem) (by assumption), tri_at (by assumption) (by k_mem) (by assumption)⟩ (by assumption) (kept_mut [ll, x, dx, 169, 176] N (by assumption) (Fr.keep (by assumption)) (sub_out (by assumption) (by walk_at "mine out"))) (by assumption)

theorem str3_cl (w : World) (lines : List Str) (tnl : Tok) (mean : ExcName → Option Value) (mg mb : Str → Option Value) (r dr ll x dx : Addr) (a1 a2 a3 a4 a5 a6 tM tc tl ts : Tok) (M : Int) (kd kl n k : Nat) (lns ps qs : Array Value) (kt tz : Tok) (z : Int) (htr : TriplesOk ps.toList) (hts : TriplesOk qs.toList) (hln : lns.size ≤ 100) (hz1 : z ≤ 1000) (hz : z = 0) (hlv : StrsAre lns.toList lines) (hjn : (lines.map (·.length)).sum + lines.length * (Str.ofString "\n").length ≤ 16777216) :
  ROG w mean mg mb 71 [x, dx, 169, 176] (fun _ => True) [(r, fvO dr), (dr, fvD w a1 a2 a3 a4 a5 a6 M tM tc tl ts ll x kd), (ll, lstO lns kl), (x, accO dx #[] n), (dx, iniO w kt (.int z tz) k), (169, tabObj ps), (176, tabObj qs)] [.ref r, .str (Str.ofString "\n") tnl]
    (fun _ v h' => (∃ t, v = .str (Txt.join (Str.ofString "\n") (lines)) t) ∧ (∃ ps', TriplesOk ps'.toList ∧ h'.get? 169 = some (tabObj ps')) ∧ (∃ qs', TriplesOk qs'.toList ∧ h'.get? 176 = some (tabObj qs'))) 60 600 := by
  delta ROG PR; k_fill
  intro dp un gd cn cs a ccd cl outer A₀ base h₀ L m s Q E B F KX N T' hk HP G hdp hun hret
  have o7 := off7 N
  have n1 := o7.n1
  have n2 := o7.n2
  have n3 := o7.n3
  have n4 := o7.n4
  have n5 := o7.n5
  have n6 := o7.n6
  have n7 := o7.n7
  have n8 := o7.n8
  have n9 := o7.n9
  have m1 := o7.m1
  have m2 := o7.m2
  have m3 := o7.m3
  have m4 := o7.m4
  have m5 := o7.m5
  have m6 := o7.m6
  have m7 := o7.m7
  have m8 := o7.m8
  have m9 := o7.m9
  have m0 := o7.m0
  have hpe : (Str.ofString "" == Str.ofString "") = false ∨ (Str.ofString "" == Str.ofString " ") = false := .inr (by decide +kernel)
  have e0 : (Str.ofString "").length = 0 := by decide +kernel
  have ht0 : totL ([] ++ [(Str.ofString "", Str.ofString "")]) = 0 := by simp [totL, e0]
  have hn : (([] : List (Str × Str)) ++ [(Str.ofString "", Str.ofString "")]).length ≤ 100 := by simp
  have hLs : ∀ q ∈ ([] : List (Str × Str)) ++ [(Str.ofString "", Str.ofString "")], q.1.length ≤ 1000 ∧ q.2.length ≤ 1000 := by simp [e0]
  have hz0 : 0 ≤ z := by omega
  have hsz : (#[] : Array Value).size < 1000 := by decide
  have hsz' : (#[] : Array Value).size ≤ 1000 := Nat.zero_le _
  w_strict (refine wpAny_call ?_; walk_at "mine enter")
  rename_i g1 L1 h1 FG1 F1 N1 X1 T1 GS1
  have HT : TupsAt g1 #[] [] := tups_none _
  w_strict k_steps
  all_goals exact hret _ _ _ _ ⟨⟨_, rfl⟩, tri_at (by assumption) (by k_mem) (by assumption), tri_at (by assumption) (by k_mem) (by assumption)⟩ (by assumption) (kept_mut [x, dx, 169, 176] N (by assumption) (Fr.keep (by assumption)) (sub_out (by assumption) (by walk_at "mine out"))) (by assumption)
end Mine
end
section
open PySem PySem.W PyProof.Rows PySem.Builtin
set_option Elab.async false
set_option maxRecDepth 100000
set_option maxHeartbeats 8000000
set_option pp.deepTerms false
set_option pp.deepTerms.threshold 6
set_option pp.maxSteps 3000
set_option pp.proofs false
namespace Mine
theorem rows_APA_1 : True := by
  k_with_none
  w_top off
  k_with "mine enter" => (k_dflt (refine' code_defG ?k1 ?k2 ?k3 ?k4 ?k5 ?kA ?kF ?kK ?k6 ?k7 ?k8 ?k9 ?kB ?_ ?c2 ?c3 ?c4 ?c5; (case kA => exact rfl); (case kF => exact rfl); (case kK => assumption); (case k1 => k_asm); (case k2 => k_asm); (case k3 => k_asm); (case k4 => k_asm); (case k5 => k_asm); (case k6 => k_is); (case k7 => k_is); (case k8 => first | exact room0 (by assumption) | ktr_room); (case k9 => exact BindsTo.of_eq rfl); (case c5 => decide); (case kB => exact locs rfl); (case c2 => exact rfl); (case c3 => exact rfl); (case c4 => exact rfl); k_whole; intro _ _ _ _ _ _ B' _ _ _; (try dsimp only); (try k_lift B'); (try k_fold)))
  k_with "mine sub" => (first | exact sub_nil | (refine sub_cons ?za ?zb; (case za => k_mem); (case zb => walk_at "mine sub")))
  k_with "execs cons" => ((with_reducible refine wpAny_execs_cons ?_); (try dsimp only); (try (refine tk_any ?_; intro _)); (try k_fold))
  trivial
theorem meas1 {n : Nat} {i : Int} (h : 5 ≤ i) (l : i < n) : n - (i + 1).toNat < n - i.toNat := by
  have h0 : 0 ≤ i := Int.le_trans (by decide) h
  rw [toNat_up h0]
  exact Nat.sub_lt_sub_left ((Int.toNat_lt h0).mpr l) (Nat.lt_succ_self _)
theorem meas2 {n : Nat} {i : Int} (h : 5 ≤ i) (l : ¬ (n : Int) ≤ i + 1) : n - (i + 1 + 1).toNat < n - i.toNat := by
  have h0 : 0 ≤ i := Int.le_trans (by decide) h
  rw [toNat_up (nn_up h0), toNat_up h0]
  exact Nat.sub_lt_sub_left ((Int.toNat_lt h0).mpr (Int.lt_trans (Int.lt_succ i) (Int.not_le.mp l))) (Nat.lt_succ_of_lt (Nat.lt_succ_self _))
theorem parse_ro (w : World) (mean : ExcName → Option Value) (mg mb : Str → Option Value) (x : Str) (t : Tok) (hx : x.length ≤ 200) (hx5 : 5 ≤ x.length) (e1 : (Txt.slice x none (some 3) != Str.ofString "257") = false) (e2 : (Txt.slice x (some 3) (some 5) != Str.ofString " \"") = false) :
  ROC w mean mg mb 243 [] [.str x t] (fun v => ∃ t, v = .str (parseS x) t) 4 40 := by
  delta ROC PR; k_fill
  intro dp un gd cn cs a ccd cl outer A₀ base h₀ L m s Q E B F KX N T hk hdp hun hret
  k_with "exec While Compare cons nil" => k_while (fun _ i d => 5 ≤ i ∧ i ≤ (x.length : Int) ∧ (d.length : Int) ≤ i ∧ PI x i d) (fun _ i d => x.length - i.toNat) "i" "dirname"
  k_with "measure" => first | exact meas1 (by assumption) (by assumption) | exact meas2 (by assumption) (by assumption)
  k_with "state" => first | exact parse_two (by assumption) (by assumption) (by assumption) (by assumption) (by assumption) (by assumption) (by assumption) | exact parse_one (by assumption) (by assumption) (by assumption) (by assumption) (by assumption)
  w_strict (refine wpAny_call ?_; walk_at "mine enter"; k_steps)
  all_goals (refine hret _ _ _ ⟨_, congrArg (fun x => Value.str x _) ?_⟩ (by assumption) (kept_of N (by assumption) (Fr.keep (by assumption)) (cb_drop (by assumption) (by walk_at "mine sub"))))
  all_goals first | exact parse_end (by assumption) (by assumption) (by assumption) (by assumption) | exact parse_brk1 (by assumption) (by assumption) (by assumption) (by assumption) (by assumption) | exact parse_brk2 (by assumption) (by assumption) (by assumption) (by assumption) (by assumption) (by assumption)
end Mine
end
section
open PySem PySem.W PyProof.Rows PySem.Builtin
set_option Elab.async false
set_option maxRecDepth 100000
set_option maxHeartbeats 8000000
set_option pp.deepTerms false
set_option pp.deepTerms.threshold 6
set_option pp.maxSteps 3000
set_option pp.proofs false
namespace Mine
noncomputable abbrev p257 : Str := Str.ofString "257 \""
theorem p257_codes : p257.cps = #[50, 53, 55, 32, 34] := by decide +kernel
theorem sl_pre (x : Str) : Txt.slice (p257 ++ x) none (some 3) = Str.ofString "257" := by
  show StrLaws.sliceText (p257 ++ x) none (some 3) = _
  have hl : 3 ≤ (p257 ++ x).length := by
    show 3 ≤ (p257.cps ++ x.cps).size
    rw [p257_codes]; simp; omega
  have e : StrLaws.sliceText (p257 ++ x) none (some 3) = StrLaws.sliceText (p257 ++ x) (some ((0 : Nat) : Int)) (some ((3 : Nat) : Int)) := by
    unfold StrLaws.sliceText
    rw [StrLaws.sliceIdx_none_lo]
    rfl
  rw [e, StrLaws.sliceText_nat _ (by omega) hl]
  have e2 : (p257 ++ x).cps.toList = [50, 53, 55, 32, 34] ++ x.cps.toList := by
    show (p257.cps ++ x.cps).toList = _
    rw [p257_codes]; simp
  rw [e2]
  have e3 : Str.ofString "257" = ⟨#[50, 53, 55]⟩ := by decide +kernel
  rw [e3]
  rfl
theorem sl_mid (x : Str) : Txt.slice (p257 ++ x) (some 3) (some 5) = Str.ofString " \"" := by
  show StrLaws.sliceText (p257 ++ x) (some ((3 : Nat) : Int)) (some ((5 : Nat) : Int)) = _
  have hl : 5 ≤ (p257 ++ x).length := by
    show 5 ≤ (p257.cps ++ x.cps).size
    rw [p257_codes]; simp
  rw [StrLaws.sliceText_nat _ (by omega) hl]
  have e2 : (p257 ++ x).cps.toList = [50, 53, 55, 32, 34] ++ x.cps.toList := by
    show (p257.cps ++ x.cps).toList = _
    rw [p257_codes]; simp
  rw [e2]
  have e3 : Str.ofString " \"" = ⟨#[32, 34]⟩ := by decide +kernel
  rw [e3]
  rfl
theorem parse_p257 (x : Str) : parseS (p257 ++ x) = ⟨(parseGo x.cps.toList).toArray⟩ := by
  unfold parseS
  have e2 : (p257 ++ x).cps.toList = [50, 53, 55, 32, 34] ++ x.cps.toList := by
    show (p257.cps ++ x.cps).toList = _
    rw [p257_codes]; simp
  rw [e2]
  rfl
theorem p257_len (x : Str) : (p257 ++ x).length = 5 + x.length := by
  show (p257.cps ++ x.cps).size = _
  rw [p257_codes, Array.size_append]
  rfl
theorem ROC.use {w : World} {mean : ExcName → Option Value} {mg mb : Str → Option Value} {f : Addr} {news all : List (Addr × Obj)} {vs : List Value} {R : Value → Prop} {d u : Nat}
  (C : ROC w mean mg mb f news vs R d u) {dp un : Nat} {gd : Option (List Code)} {cn : Str} {cs : Scope} {a : Addr} {ccd : Value} {cl : List (Str × Addr)} {outer : List Env} {A₀ : Around} {base h₀ : Heap} {L : Addr} {m : Str → Option Value} {s : Shared} {Q E : Value → Shared → Prop}
  (B : Below A₀ base outer h₀) (F : Fr h₀ L s.heap m) (X : (hd.heap_1 w.params).In h₀) (N : News h₀ L s.heap all) (sub : ∀ p ∈ news, p ∈ all) (T : Top VW LS mean mg mb h₀) (hk : cs.kind = .function) (hd : dp + d < recursionLimit) (hu : un + u < cLine)
  (h : ∀ v h' tk', R v → Fr h₀ L h' m → KeptBut [] s.heap h' → Q v { s with heap := h', toks := tk' }) :
  wpAny (model PR w) (ktrTop dp un gd cn cs L a ccd cl outer) (call (.ref f) vs) Q E s :=
  C dp un gd cn cs a ccd cl outer A₀ base h₀ L m s Q E B F X (cb_drop N sub) T hk hd hu h
theorem parse_ro2 (w : World) (mean : ExcName → Option Value) (mg mb : Str → Option Value) (x : Str) (t : Tok) (hx : x.length ≤ 195) : ROC w mean mg mb 243 [] [.str (p257 ++ x) t] (fun v => ∃ t, v = .str ⟨(parseGo x.cps.toList).toArray⟩ t) 4 40 := by
  have := parse_ro w mean mg mb (p257 ++ x) t (by rw [p257_len]; omega) (by rw [p257_len]; omega) (by rw [sl_pre]; decide +kernel) (by rw [sl_mid]; decide +kernel)
  rw [parse_p257] at this
  exact this
theorem rows_APB_1 : True := by
  k_with_none
  w_top off
  k_with "mine enter" => (k_dflt (refine' code_defG ?k1 ?k2 ?k3 ?k4 ?k5 ?kA ?kF ?kK ?k6 ?k7 ?k8 ?k9 ?kB ?_ ?c2 ?c3 ?c4 ?c5; (case kA => exact rfl); (case kF => exact rfl); (case kK => assumption); (case k1 => k_asm); (case k2 => k_asm); (case k3 => k_asm); (case k4 => k_asm); (case k5 => k_asm); (case k6 => k_is); (case k7 => k_is); (case k8 => first | exact room0 (by assumption) | ktr_room); (case k9 => exact BindsTo.of_eq rfl); (case c5 => decide); (case kB => exact locs rfl); (case c2 => exact rfl); (case c3 => exact rfl); (case c4 => exact rfl); k_whole; intro _ _ _ _ _ _ B' _ _ _; (try dsimp only); (try k_lift B'); (try k_fold)))
  k_with "binaryOp Add str str" => (k_here; k_dflt (refine' KXadd.add (K := 5) (L := 195) (by decide +kernel) (by assumption) (by decide) ?_); intro _ _ _)
  k_with "call ref" => (k_here; k_dflt (show wpAny _ _ (call (Value.ref 243) [Value.str _ _]) _ _ _); (rename News _ _ _ _ => nN); k_dflt (refine' ROC.use (parse_ro2 _ _ _ _ _ _ ?x1) ?fB ?fF ?fX nN ?fS ?fT ?fk ?fd ?fu ?_; (case x1 => assumption); (case fB => k_asm); (case fF => k_asm); (case fX => k_asm); (case fT => k_asm); (case fk => exact rfl); (case fS => exact List.forall_mem_nil _); (case fd => first | exact room_le (by assumption) rfl | ktr_room); (case fu => first | exact room_le (by assumption) rfl | ktr_units); k_whole); intro _ _ _ hR9 _ K9; (obtain ⟨t9, e9⟩ := hR9); subst e9; (have N9 := kept_news nN K9); clear K9; (try dsimp only); (try k_fold))
  k_with "mine out" => (first | exact so_nil | (refine so_fp ?za ?zb; (case za => k_mem); (case zb => walk_at "mine out")) | (refine so_in ?za ?zb; (case za => k_mem); (case zb => walk_at "mine out")))
  k_with "execs cons" => ((with_reducible refine wpAny_execs_cons ?_); (try dsimp only); (try (refine tk_any ?_; intro _)); (try k_fold))
  trivial
theorem aft0_cl (w : World) (mean : ExcName → Option Value) (mg mb : Str → Option Value) (td : Addr) (x : Str) (t : Tok) (hd wd : Int) (tk th tw : Tok) (hx : x.length ≤ 195) :
  ROM w mean mg mb 248 [] (fun _ => True) [(td, tupO 0 hd wd tk th tw)] [.str x t, .ref td] (fun _ v _ => ∃ t, v = .str ⟨(parseGo x.cps.toList).toArray⟩ t) 12 120 := by
  delta ROM PR; k_fill
  intro dp un gd cn cs a ccd cl outer A₀ base h₀ L m s Q E B F KX N T hk HP hdp hun hret
  w_strict (refine wpAny_call ?_; walk_at "mine enter"; k_steps)
  exact hret _ _ _ ⟨_, rfl⟩ (by assumption) (kept_mut [] N (by assumption) (Fr.keep (by assumption)) (sub_out (by assumption) (by walk_at "mine out")))
end Mine
end
section
open PySem PySem.W PySem.Calls PyProof.Rows PySem.Builtin
set_option Elab.async false
set_option maxRecDepth 100000
set_option linter.unusedVariables false
namespace Mine
/-! what the state behind the fold's loop offers to _str -/
theorem st_words {M z : Int} {ws : List Nat} (hz : ∀ n ∈ ws, n ≤ 15) : ∀ j, j ≤ ws.length → ∀ q ∈ (stAt M z (wls 0 ws) j).2.1, ∃ k n, q.2 = wS (wordL k n) ∧ k < ws.length ∧ n ≤ 15
  | 0, _, q, h => by simp [stAt_zero] at h
  | j + 1, hj, q, h => by
    have ih := st_words (M := M) (z := z) hz j (by omega)
    have hl : j < (prs (wls 0 ws)).length := by rw [prs_len, wls_len]; omega
    have e : (prs (wls 0 ws))[j]? = some (prs (wls 0 ws))[j] := List.getElem?_eq_getElem hl
    rw [stAt_succ e] at h
    have hc : ∃ k n, ((prs (wls 0 ws))[j]).2 = wS (wordL k n) ∧ k < ws.length ∧ n ≤ 15 := by
      obtain ⟨_, v, hv, h2⟩ := prs_mem (List.getElem_mem hl)
      obtain ⟨i, n, rfl, _, hi, hn⟩ := wls_mem _ _ _ hv
      exact ⟨i, n, h2, by omega, hz n hn⟩
    generalize (prs (wls 0 ws))[j] = c at *
    unfold stp at h
    split at h
    · rcases List.mem_append.mp h with h | h
      · exact ih q h
      · rw [List.mem_singleton.mp h]; exact hc
    · split at h
      · split at h
        · rw [List.mem_singleton.mp h]; exact hc
        · rw [List.mem_singleton.mp h]; exact hc
      · rw [List.mem_singleton.mp h]; exact hc
theorem strL_len (Ls : List (Str × Str)) : (strL Ls).length = totL Ls := by
  have : (strL Ls).length = (strL Ls).cps.toList.length := by simp [Str.length]
  rw [this, strL_codes]
  unfold strC totL
  rw [List.length_flatMap]
  congr 1
  apply List.map_congr_left
  intro p _
  simp [Str.length]
theorem wls_small {ws : List Nat} (hz : ∀ n ∈ ws, n ≤ 15) (k : Nat) : ∀ v ∈ wls k ws, v.length ≤ 1000 := by
  intro v hv
  obtain ⟨i, n, rfl, _, _, hn⟩ := wls_mem _ _ _ hv
  rw [wordL_len]
  have := hz n hn
  omega
theorem st_lines {M z : Int} {ws : List Nat} (hl5 : ws.length ≤ 5) (hz : ∀ n ∈ ws, n ≤ 15) : ∀ j, j ≤ ws.length → ∀ x ∈ (stAt M z (wls 0 ws) j).1, x.length ≤ 200000
  | 0, _, q, h => by simp [stAt_zero] at h
  | j + 1, hj, x, h => by
    have ih := st_lines (M := M) (z := z) hl5 hz j (by omega)
    have ok := stAt_ok (M := M) (z := z) (wls_small hz 0) j (by rw [wls_len]; omega)
    have hl : j < (prs (wls 0 ws)).length := by rw [prs_len, wls_len]; omega
    have e : (prs (wls 0 ws))[j]? = some (prs (wls 0 ws))[j] := List.getElem?_eq_getElem hl
    rw [stAt_succ e] at h
    have hs : (strL (stAt M z (wls 0 ws) j).2.1).length ≤ 200000 := by
      rw [strL_len]
      exact totL_le _ (by have := ok.items; omega) ok.small
    unfold stp at h
    split at h
    · exact ih x h
    · split at h
      · split at h
        · rcases List.mem_append.mp h with h | h
          · exact ih x h
          · rw [List.mem_singleton.mp h, emp_len]; omega
        · exact ih x h
      · rcases List.mem_append.mp h with h | h
        · exact ih x h
        · rw [List.mem_singleton.mp h]; exact hs

structure LastOk (z : Int) (lines : List Str) (Li : List (Str × Str)) (f p : Str) (lz : Int) : Prop where
  hn : (Li ++ [(f, p)]).length ≤ 100
  hLs : ∀ q ∈ Li ++ [(f, p)], q.1.length ≤ 1000 ∧ q.2.length ≤ 1000
  hz0 : 0 ≤ lz
  hz1 : lz ≤ 1000
  hp : 0 < p.length
  hpe : (p == Str.ofString "") = false ∨ (f == Str.ofString " ") = false
  hz : lz ≠ 0 ∨ (0 < totL (Li ++ [(f, p)]) ∧ Txt.isspace (strL (Li ++ [(f, p)])) = false)
  hjn : ((lines ++ [strL (Li ++ [(f, p)])]).map (·.length)).sum + (lines ++ [strL (Li ++ [(f, p)])]).length * (Str.ofString "\n").length ≤ 16777216
  hjl : (Txt.join (Str.ofString "\n") (lines ++ [strL (Li ++ [(f, p)])])).length ≤ 10000000
theorem nl_len : (Str.ofString "\n").length = 1 := by decide +kernel
theorem letter_space {k : Nat} (h : k < 5) : Unicode.isSpace (97 + k) = false := by
  obtain rfl | rfl | rfl | rfl | rfl : k = 0 ∨ k = 1 ∨ k = 2 ∨ k = 3 ∨ k = 4 := lt5 h
  all_goals decide +kernel
theorem last_ok {M z : Int} {ws : List Nat} (hz0 : 0 ≤ z ∧ z ≤ 1000) (hl5 : ws.length ≤ 5) (hl1 : 1 ≤ ws.length) (hz : ∀ n ∈ ws, n ≤ 15) {st : FSt} (es : st = stAt M z (wls 0 ws) (wls 0 ws).length) :
    ∃ Li f p, st.2.1 = Li ++ [(f, p)] ∧ LastOk z st.1 Li f p st.2.2 ∧ st.1.length ≤ 5 := by
  subst es
  have ok := stAt_ok (M := M) (z := z) (wls_small hz 0) (wls 0 ws).length (Nat.le_refl _)
  have hw := st_words (M := M) (z := z) hz (wls 0 ws).length (by rw [wls_len]; exact Nat.le_refl _)
  have hL := st_lines (M := M) (z := z) hl5 hz (wls 0 ws).length (by rw [wls_len]; exact Nat.le_refl _)
  have hlen := wls_len 0 ws
  generalize stAt M z (wls 0 ws) (wls 0 ws).length = st at *
  obtain ⟨lines, items, lz⟩ := st
  obtain ⟨o1, o2, o3, o4, o5⟩ := ok
  dsimp only at *
  have hi := o5 (by omega)
  have hne : items ≠ [] := fun h => by rw [h] at hi; simp at hi
  obtain ⟨Li, q, e⟩ : ∃ Li q, items = Li ++ [q] := ⟨items.dropLast, items.getLast hne, (List.dropLast_concat_getLast hne).symm⟩
  obtain ⟨f, p⟩ := q
  subst e
  obtain ⟨k, n, ep, hk, hn⟩ := hw (f, p) (by simp)
  dsimp only at ep
  have hpl : p.length = n + 1 := by rw [ep, wS_len, wordL_len]
  have hsl : (strL (Li ++ [(f, p)])).length ≤ 200000 := by
    rw [strL_len]
    exact totL_le _ (by omega) o3
  have hsum : ((lines ++ [strL (Li ++ [(f, p)])]).map (·.length)).sum ≤ 6 * 200000 := by
    have := sum_le 200000 (lines ++ [strL (Li ++ [(f, p)])]) fun a ha => by
      rcases List.mem_append.mp ha with ha | ha
      · exact hL a ha
      · rw [List.mem_singleton.mp ha]; exact hsl
    have h6 : (lines ++ [strL (Li ++ [(f, p)])]).length ≤ 6 := by simp; omega
    exact Nat.le_trans this (Nat.mul_le_mul_right _ h6)
  have h6 : (lines ++ [strL (Li ++ [(f, p)])]).length ≤ 6 := by simp; omega
  refine ⟨Li, f, p, rfl, ⟨by omega, o3, ?_, ?_, by omega, .inl ?_, .inr ⟨?_, ?_⟩, ?_, ?_⟩, by omega⟩
  · rcases o4 with h | h <;> omega
  · rcases o4 with h | h <;> omega
  · refine beq_false_of_ne fun h => ?_
    rw [h, emp_len] at hpl
    omega
  · rw [totL_snoc]; dsimp only; omega
  · unfold Txt.isspace
    have : ((strL (Li ++ [(f, p)])).cps.all Unicode.isSpace) = false := by
      rw [Array.all_eq_false']
      refine ⟨97 + k, ?_, by rw [letter_space (by omega)]; simp⟩
      rw [← Array.mem_toList_iff, strL_codes]
      unfold strC
      rw [List.mem_flatMap]
      refine ⟨(f, p), by simp, ?_⟩
      rw [List.mem_append]
      right
      dsimp only
      rw [ep, wS_codes]
      exact List.mem_cons_self ..
    rw [this, Bool.and_false]
  · rw [nl_len]; omega
  · rw [join_join]
    have := StrLaws.join_length_le (Str.ofString "\n") (lines ++ [strL (Li ++ [(f, p)])])
    rw [nl_len] at this
    omega
/-- the first row of what _str gives -/
theorem rows_split {M z : Int} (hz : 0 ≤ z) {n : Nat} {r : List Nat} (hl : (n :: r).length ≤ 100) : ∃ rest, Txt.split (Txt.join (Str.ofString "\n") (rowsOf (stAt M z (wls 0 (n :: r)) (wls 0 (n :: r)).length))) (Str.ofString "\n") = textS ((n :: r).take (fitF ((n :: r).map Int.ofNat) z M).toNat) :: rest := by
  have e10 : Str.ofString "\n" = ⟨#[10]⟩ := by decide +kernel
  have hd := first_row (M := M) hz n r
  have hnl := rows_nl (M := M) (z := z) hl (wls 0 (n :: r)).length
  generalize rowsOf (stAt M z (wls 0 (n :: r)) (wls 0 (n :: r)).length) = rows at *
  rw [e10]
  rw [split_rows (fun h => by rw [h] at hd; cases hd) (fun x hx h => hnl x hx 10 h rfl)]
  cases rows with
  | nil => cases hd
  | cons a rest => exact ⟨rest, by rw [← Option.some.inj hd]⟩
/-- the last of the items -/
theorem tups_last {h h₀ : Heap} {its : Array Value} {Li : List (Str × Str)} {f p : Str} (x : TupsAt h its (Li ++ [(f, p)])) (hf : ∀ (i : Nat) T, its[i]? = some (.ref T) → h₀.get? T = none) (hu : ∀ (i j : Nat) T, its[i]? = some (.ref T) → its[j]? = some (.ref T) → i = j) :
    ∃ ini T tf tp, its = ini.push (.ref T) ∧ TupsAt h ini Li ∧ h.get? T = some (tup2 f tf p tp) ∧ h₀.get? T = none ∧ ∀ j : Nat, ini[j]? ≠ some (.ref T) := by
  obtain ⟨T, tf, tp, e, g⟩ := x.2 Li.length (f, p) (by simp)
  have hs : its.size = Li.length + 1 := by rw [x.1]; simp
  have hne : its ≠ #[] := fun h => by rw [h] at hs; simp at hs
  have hp : its = its.pop.push (.ref T) := by
    apply Array.ext
    · simp [hs]
    · intro i h1 h2
      rw [Array.getElem_push]
      split
      · rename_i hi
        simp
      · rename_i hi
        simp at hi
        have : i = Li.length := by omega
        subst this
        have := Array.getElem?_eq_some_iff.mp e
        exact this.2
  refine ⟨its.pop, T, tf, tp, hp, ⟨by simp [hs], fun j q hq => ?_⟩, g, hf _ T e, fun j hj => ?_⟩
  · have hl : j < Li.length := (List.getElem?_eq_some_iff.mp hq).1
    obtain ⟨T', a, b, c, d⟩ := x.2 j q (by rw [List.getElem?_append_left hl]; exact hq)
    refine ⟨T', a, b, ?_, d⟩
    rw [Array.getElem?_pop, if_pos (by omega)]
    exact c
  · rw [Array.getElem?_pop] at hj
    split at hj
    · rename_i hlt
      have := hu j Li.length T hj e
      omega
    · cases hj
end Mine
end
section
open PySem PySem.W PySem.Calls PyProof.Rows PySem.Builtin
set_option Elab.async false
set_option maxRecDepth 100000
namespace Mine
theorem text_codes (n : Nat) (r : List Nat) : (textS (n :: r)).cps.toList = joinW (wordL 0 n) (wls 1 r) := by
  show textFrom 0 (n :: r) = _
  rw [text_join]
theorem emp_app (x : Str) : Str.ofString "" ++ x = x := by
  apply Str.ext'
  show (Str.ofString "").cps ++ x.cps = x.cps
  rw [emp_codes]; simp
theorem textFrom_len : ∀ (ws : List Nat) (k : Nat), (∀ n ∈ ws, n ≤ 15) → (textFrom k ws).length ≤ 17 * ws.length
  | [], k, _ => by simp [textFrom]
  | [n], k, h => by
    have := h n (by simp)
    show (wordL k n).length ≤ _
    rw [wordL_len]; simp; omega
  | n :: m :: r, k, h => by
    have ih := textFrom_len (m :: r) (k + 1) fun a ha => h a (List.mem_cons_of_mem _ ha)
    have := h n (by simp)
    show (wordL k n ++ 32 :: textFrom (k + 1) (m :: r)).length ≤ _
    rw [List.length_append, wordL_len, List.length_cons]
    simp only [List.length_cons] at ih ⊢
    omega
theorem textS_len {ws : List Nat} (h5 : ws.length ≤ 5) (h : ∀ n ∈ ws, n ≤ 15) : (textS ws).length ≤ 85 := by
  have := textFrom_len ws 0 h
  show (textFrom 0 ws).toArray.size ≤ 85
  simp; omega
/-- _ascii_split of a text of words, as _str wants it -/
theorem aspw_cl (w : World) (mean : ExcName → Option Value) (mg mb : Str → Option Value) (r dr ll x dx : Addr) (a1 a2 a3 a4 a5 a6 tM tc tl ts : Tok) (M : Int) (kd kl n k : Nat) (ps qs : Array Value) (kt tz tf tp tq : Tok) (z : Int) (wn : Nat) (wr : List Nat) (htr : TriplesOk ps.toList) (hts : TriplesOk qs.toList)
  (hz0 : 0 ≤ z ∧ z ≤ 1000) (hM0 : 0 ≤ M) (hl5 : (wn :: wr).length ≤ 5) (hws : ∀ m ∈ wn :: wr, m ≤ 15) :
  ROG w mean mg mb 113 [ll, x, dx, 169, 176] (fun _ => True) [(r, fvO dr), (dr, fvD w a1 a2 a3 a4 a5 a6 M tM tc tl ts ll x kd), (ll, lstO #[] kl), (x, accO dx #[] n), (dx, iniO w kt (.int z tz) k), (169, tabObj ps), (176, tabObj qs)] [.ref r, .str (Str.ofString "") tf, .str (textS (wn :: wr)) tp, .str (Str.ofString " ") tq]
    (fun h v h' => v = .none ∧ ∃ lns' ini' T' tf' tp' n' kl' k' t' ps' qs' Li f p lz lines rest, h'.get? ll = some (lstO lns' kl') ∧ h'.get? x = some (accO dx (ini'.push (.ref T')) n') ∧ h'.get? dx = some (iniO w kt (.int lz t') k') ∧ h'.get? 169 = some (tabObj ps') ∧ h'.get? 176 = some (tabObj qs') ∧
        TriplesOk ps'.toList ∧ TriplesOk qs'.toList ∧ StrsAre lns'.toList lines ∧ lns'.size ≤ 100 ∧ TupsAt h' ini' Li ∧ h'.get? T' = some (tup2 f tf' p tp') ∧ h.get? T' = none ∧ (∀ j : Nat, ini'[j]? ≠ some (.ref T')) ∧ LastOk z lines Li f p lz ∧
        Txt.split (Txt.join (Str.ofString "\n") (lines ++ [strL (Li ++ [(f, p)])])) (Str.ofString "\n") = textS ((wn :: wr).take (fitF ((wn :: wr).map Int.ofNat) z M).toNat) :: rest) 220 2200 := by
  have hlen := textS_len hl5 hws
  have hww := wls_small hws 0
  have hwl1 : (wls 1 wr).length ≤ 40 := by rw [wls_len]; simp at hl5; omega
  have base := asp_cl w mean mg mb r dr ll x dx a1 a2 a3 a4 a5 a6 tM tc tl ts M kd kl n k ps qs kt tz tf tp tq z (textS (wn :: wr)) (wordL 0 wn) (wls 1 wr) htr hts hz0 hM0 (by omega)
    (by rw [emp_app]; exact Nat.le_trans hlen (by decide)) (by rw [emp_app]; exact text_codes wn wr) (nobl_word 0 wn)
    (fun v hv => by
      obtain ⟨i, m, rfl, _⟩ := wls_mem _ _ _ hv
      exact ⟨by simp [wordL], nobl_word i m⟩)
    (by
      have := hws wn (by simp)
      show 0 < (wS (wordL 0 wn)).length ∧ (wS (wordL 0 wn)).length ≤ 1000
      rw [wS_len, wordL_len]; omega)
    hww hwl1
  refine base.weak (fun _ h => h) (fun _ h => h) (Nat.le_refl _) (Nat.le_refl _) ?_
  intro h v h' N hP hR K
  refine andE2 hR fun ev q => exE8 q fun lns' its' n' kl' k' t' ps' qs' q2 => andE11 q2 fun g1 g2 g3 g4 g5 h1 h2 hv ht hf hu => ⟨ev, ?_⟩
  clear hR q q2
  refine exE3 (last_ok (M := M) hz0 hl5 (by simp) hws (st := stAt M z (wordL 0 wn :: wls 1 wr) (wordL 0 wn :: wls 1 wr).length) rfl) fun Li f p q => andE3 q fun ei lk ln => Exists.elim (rows_split (M := M) hz0.1 (n := wn) (r := wr) (by omega)) fun rest hr => ?_
  clear q
  have er : rowsOf (stAt M z (wls 0 (wn :: wr)) (wls 0 (wn :: wr)).length) = (stAt M z (wordL 0 wn :: wls 1 wr) (wordL 0 wn :: wls 1 wr).length).1 ++ [strL (Li ++ [(f, p)])] := by
    rw [← ei]; rfl
  rw [er] at hr
  generalize stAt M z (wordL 0 wn :: wls 1 wr) (wordL 0 wn :: wls 1 wr).length = st at *
  rw [ei] at ht
  refine exE4 (tups_last ht hf hu) fun ini T tf' tp' q => andE5 q fun e1 e2 e3 e4 e5 => ?_
  have hsz : lns'.size ≤ 100 := by
    have := hv.len
    simp at this
    omega
  exact exI12 lns' ini T tf' tp' n' kl' k' t' ps' qs' Li (exI5 f p st.2.2 st.1 rest ⟨g1, e1 ▸ g2, g3, g4, g5, h1, h2, hv.are, hsz, e2, e3, e4, e5, lk, hr⟩)
end Mine
end
section
open PySem PySem.W PyProof.Rows PySem.Builtin
set_option Elab.async false
set_option maxRecDepth 100000
namespace Mine
theorem news_fin {h₀ h h' : Heap} {L td ll x dx : Addr} {k hd' wd : Int} {tk th tw : Tok} {all : List (Addr × Obj)} {o1 o2 o1' o2' : Obj} (N : News h₀ L h all) (K : KeptBut [ll, x, dx, 169, 176] h h') (hm : (td, tupO k hd' wd tk th tw) ∈ all) (n1 : @Ne Nat td ll) (n2 : @Ne Nat td x) (n3 : @Ne Nat td dx) (n4 : @Ne Nat td 169) (n5 : @Ne Nat td 176)
    (hp : (169, o1) ∈ all) (hq : (176, o2) ∈ all) (gp : h'.get? 169 = some o1') (gq : h'.get? 176 = some o2') : News h₀ L h' [(td, tupO k hd' wd tk th tw), (169, o1'), (176, o2')] :=
  List.forall_mem_cons.mpr ⟨⟨K _ _ (fun hm => (List.mem_cons.mp hm).elim n1 fun hm => nin4 n2 n3 n4 n5 hm) (N _ hm).1, (N _ hm).2⟩, List.forall_mem_cons.mpr ⟨⟨gp, (N _ hp).2⟩, List.forall_mem_cons.mpr ⟨⟨gq, (N _ hq).2⟩, List.forall_mem_nil _⟩⟩⟩
theorem kept_more {ll x dx : Addr} {h h' : Heap} (K : KeptBut [x, dx, 169, 176] h h') : KeptBut [ll, x, dx, 169, 176] h h' := fun b o hb e => K b o (fun hm => hb (List.mem_cons_of_mem _ hm)) e
section
variable {w : World} {mean : ExcName → Option Value} {mg mb : Str → Option Value} {dp un : Nat} {gd : Option (List Code)} {cn : Str} {cs : Scope} {a : Addr} {ccd : Value} {cl : List (Str × Addr)} {outer : List Env} {A₀ : Around} {base h₀ : Heap} {L : Addr} {m : Str → Option Value} {s : Shared} {Q E : Value → Shared → Prop} {all : List (Addr × Obj)}
  {r dr ll x dx T td : Addr} {a1 a2 a3 a4 a5 a6 tM tc tl ts t0 tnl tt1 tt2 tt3 : Tok} {M tk1 tk2 tk3 : Int} {kd kl : Nat} {lns ini ps qs : Array Value} {n k : Nat} {kt tz tf tp tq : Tok} {z : Int} {f p : Str} {Li : List (Str × Str)} {lines : List Str}
theorem mk_use (B : Below A₀ base outer h₀) (F : Fr h₀ L s.heap m) (X : (hd.heap_1 w.params).In h₀) (N : News h₀ L s.heap all) (TT : Top VW LS mean mg mb h₀) (hk : cs.kind = .function) (hd : dp + 14 < recursionLimit) (hu : un + 120 < cLine)
  (h : ∀ x dx n kt k h' tk', Off x dx → OffAll x all → OffAll dx all → Fr h₀ L h' m → News h₀ L h' ((x, accO dx #[] n) :: (dx, iniO w kt (.int z tz) k) :: all) → Q (.ref x) { s with heap := h', toks := tk' }) :
  wpAny (model PR w) (ktrTop dp un gd cn cs L a ccd cl outer) (call (.ref 207) [.int z tz]) Q E s := by
  refine (mk_cl w mean mg mb z tz).use B F X N sub_nil TT hk trivial hd hu fun v h' tk' hR F' K' => ?_
  refine exE5 hR fun x dx n kt k q => andE5 q fun ev hn hm ga gb => eqE (C := fun v => Q v _) ev ?_
  have N9 := fresh_news2 F (fresh_news2 F (kept_news N K') hm gb) hn ga
  exact h x dx n kt k h' tk' (Off.mk (news_neB N9 (List.Mem.head _) (List.Mem.tail _ (List.Mem.head _)) rfl)) (OffAll.of N hn) (OffAll.of N hm) F' N9
theorem asp0_use (B : Below A₀ base outer h₀) (F : Fr h₀ L s.heap m) (X : (hd.heap_1 w.params).In h₀) (N : News h₀ L s.heap all) (TT : Top VW LS mean mg mb h₀) (hk : cs.kind = .function) (hd : dp + 220 < recursionLimit) (hu : un + 2200 < cLine) (G : AllBare s.gens)
  (m0 : (r, fvO dr) ∈ all) (m1 : (dr, fvD w a1 a2 a3 a4 a5 a6 M tM tc tl ts ll x kd) ∈ all) (m2 : (ll, lstO #[] kl) ∈ all) (m3 : (x, accO dx #[] n) ∈ all) (m4 : (dx, iniO w kt (.int z tz) k) ∈ all) (m5 : (169, tabObj ps) ∈ all) (m6 : (176, tabObj qs) ∈ all) (x1 : TriplesOk ps.toList) (x2 : TriplesOk qs.toList)
  (h : ∀ h' tk' gs', Fr h₀ L h' m → News h₀ L h' all → AllBare gs' → Q .none { s with heap := h', toks := tk', gens := gs' }) :
  wpAny (model PR w) (ktrTop dp un gd cn cs L a ccd cl outer) (call (.ref 113) [.ref r, .str (Str.ofString "") tf, .str (Str.ofString "") tp, .str (Str.ofString " ") tq]) Q E s := by
  refine (asp0_cl w mean mg mb r dr ll x dx a1 a2 a3 a4 a5 a6 tM tc tl ts M kd kl n k ps qs kt tz tf tp tq z x1 x2).use B F X N (sub7 m0 m1 m2 m3 m4 m5 m6) TT hk trivial G hd hu fun v h' tk' gs' hR F' K' G' => ?_
  exact eqE (C := fun v => Q v _) hR (h h' tk' gs' F' (kept_news N K') G')
section
variable {wn : Nat} {wr : List Nat} {n1 : Array Value → Nat → List (Addr × Obj)} {n2 : Array Value → Nat → Array Value → Nat → List (Addr × Obj)} {n3 : Array Value → Nat → Array Value → Nat → Int → Tok → Nat → List (Addr × Obj)}
  {n4 : Array Value → Nat → Array Value → Nat → Int → Tok → Nat → Array Value → List (Addr × Obj)} {n5 : Array Value → Nat → Array Value → Nat → Int → Tok → Nat → Array Value → Array Value → List (Addr × Obj)}
theorem aspw_use (B : Below A₀ base outer h₀) (F : Fr h₀ L s.heap m) (X : (hd.heap_1 w.params).In h₀) (N : News h₀ L s.heap all) (TT : Top VW LS mean mg mb h₀) (hk : cs.kind = .function) (hd : dp + 220 < recursionLimit) (hu : un + 2200 < cLine) (G : AllBare s.gens)
  (m0 : (r, fvO dr) ∈ all) (m1 : (dr, fvD w a1 a2 a3 a4 a5 a6 M tM tc tl ts ll x kd) ∈ all) (m2 : (ll, lstO #[] kl) ∈ all) (m3 : (x, accO dx #[] n) ∈ all)
  (U1 : ∀ l kl', Upd ll (lstO #[] kl) (lstO l kl') all (n1 l kl'))
  (U2 : ∀ l kl' i n', Upd x (accO dx #[] n) (accO dx i n') (n1 l kl') (n2 l kl' i n'))
  (U3 : ∀ l kl' i n' lz t' k', Upd dx (iniO w kt (.int z tz) k) (iniO w kt (.int lz t') k') (n2 l kl' i n') (n3 l kl' i n' lz t' k'))
  (U4 : ∀ l kl' i n' lz t' k' ps', Upd 169 (tabObj ps) (tabObj ps') (n3 l kl' i n' lz t' k') (n4 l kl' i n' lz t' k' ps'))
  (U5 : ∀ l kl' i n' lz t' k' ps' qs', Upd 176 (tabObj qs) (tabObj qs') (n4 l kl' i n' lz t' k' ps') (n5 l kl' i n' lz t' k' ps' qs'))
  (m4 : (dx, iniO w kt (.int z tz) k) ∈ all) (m5 : (169, tabObj ps) ∈ all) (m6 : (176, tabObj qs) ∈ all) (x1 : TriplesOk ps.toList) (x2 : TriplesOk qs.toList) (x3 : 0 ≤ z ∧ z ≤ 1000) (x4 : 0 ≤ M) (x5 : (wn :: wr).length ≤ 5) (x6 : ∀ m ∈ wn :: wr, m ≤ 15)
  (h : ∀ l ini' T' tf' tp' n' kl' k' t' ps' qs' Li f p lz lines rest h' tk' gs', TriplesOk ps'.toList → TriplesOk qs'.toList → StrsAre l.toList lines → l.size ≤ 100 → TupsAt h' ini' Li → OffAll T' all → (∀ j : Nat, ini'[j]? ≠ some (.ref T')) → LastOk z lines Li f p lz →
    Txt.split (Txt.join (Str.ofString "\n") (lines ++ [strL (Li ++ [(f, p)])])) (Str.ofString "\n") = textS ((wn :: wr).take (fitF ((wn :: wr).map Int.ofNat) z M).toNat) :: rest →
    Fr h₀ L h' m → News h₀ L h' ((T', tup2 f tf' p tp') :: n5 l kl' (ini'.push (.ref T')) n' lz t' k' ps' qs') → AllBare gs' → Q .none { s with heap := h', toks := tk', gens := gs' }) :
  wpAny (model PR w) (ktrTop dp un gd cn cs L a ccd cl outer) (call (.ref 113) [.ref r, .str (Str.ofString "") tf, .str (textS (wn :: wr)) tp, .str (Str.ofString " ") tq]) Q E s := by
  refine (aspw_cl w mean mg mb r dr ll x dx a1 a2 a3 a4 a5 a6 tM tc tl ts M kd kl n k ps qs kt tz tf tp tq z wn wr x1 x2 x3 x4 x5 x6).use B F X N (sub7 m0 m1 m2 m3 m4 m5 m6) TT hk trivial G hd hu fun v h' tk' gs' hR F' K' G' => ?_
  refine andE2 hR fun ev q => exE12 q fun l ini' T' tf' tp' n' kl' k' t' ps' qs' Li q => exE5 q fun f p lz lines rest q => andE5 q fun g1 g2 g3 g4 q => ?_
  refine andE11 q fun g5 c1 c2 c3 c4 c5 c6 c7 c8 c9 c10 => eqE (C := fun v => Q v _) ev ?_
  exact h l ini' T' tf' tp' n' kl' k' t' ps' qs' Li f p lz lines rest h' tk' gs' c1 c2 c3 c4 c5 (OffAll.of N c7) c8 c9 c10 F'
    (fresh_news2 F (upd5_then N (U1 l kl') (U2 l kl' (ini'.push (.ref T')) n') (U3 l kl' (ini'.push (.ref T')) n' lz t' k') (U4 l kl' (ini'.push (.ref T')) n' lz t' k' ps') (U5 l kl' (ini'.push (.ref T')) n' lz t' k' ps' qs') K' g1 g2 g3 g4 g5 id) c7 c6) G'
end
theorem str1_use {zz : Int} (B : Below A₀ base outer h₀) (F : Fr h₀ L s.heap m) (X : (hd.heap_1 w.params).In h₀) (N : News h₀ L s.heap all) (TT : Top VW LS mean mg mb h₀) (hk : cs.kind = .function) (hd : dp + 60 < recursionLimit) (hu : un + 600 < cLine) (G : AllBare s.gens)
  (m0 : (r, fvO dr) ∈ all) (m1 : (dr, fvD w a1 a2 a3 a4 a5 a6 M tM tc tl ts ll x kd) ∈ all) (m2 : (ll, lstO lns kl) ∈ all) (m3 : (x, accO dx (ini.push (.ref T)) n) ∈ all) (m4 : (dx, iniO w kt (.int z tz) k) ∈ all) (m5 : (169, tabObj ps) ∈ all) (m6 : (176, tabObj qs) ∈ all) (m7 : (T, tup2 f tf p tp) ∈ all) (m8 : (td, tupO tk1 tk2 tk3 tt1 tt2 tt3) ∈ all)
  (b1 : @Ne Nat td ll) (b2 : @Ne Nat td x) (b3 : @Ne Nat td dx) (b4 : @Ne Nat td 169) (b5 : @Ne Nat td 176)
  (P : TupsAt s.heap ini Li) (x0 : ∀ j : Nat, ini[j]? ≠ some (.ref T)) (x1 : TriplesOk ps.toList) (x2 : TriplesOk qs.toList) (x4 : lns.size ≤ 100) (x5 : StrsAre lns.toList lines) (K : LastOk zz lines Li f p z)
  (h : ∀ t h' tk' gs' ps' qs', TriplesOk ps'.toList → TriplesOk qs'.toList → Fr h₀ L h' m → News h₀ L h' [(td, tupO tk1 tk2 tk3 tt1 tt2 tt3), (169, tabObj ps'), (176, tabObj qs')] → AllBare gs' → Q (.str (Txt.join (Str.ofString "\n") (lines ++ [strL (Li ++ [(f, p)])])) t) { s with heap := h', toks := tk', gens := gs' }) :
  wpAny (model PR w) (ktrTop dp un gd cn cs L a ccd cl outer) (call (.ref 71) [.ref r, .str (Str.ofString "\n") tnl]) Q E s := by
  refine (str1_cl w lines tnl mean mg mb r dr ll x dx T a1 a2 a3 a4 a5 a6 tM tc tl ts M kd kl n k lns ini ps qs kt tz tf tp z f p Li x1 x2 K.hn x4 K.hLs K.hz0 K.hz1 K.hp K.hpe K.hz x5 K.hjn).use B F X N (sub8 m0 m1 m2 m3 m4 m5 m6 m7) TT hk ⟨P, x0⟩ G hd hu fun v h' tk' gs' hR F' K' G' => ?_
  refine andE3 hR fun q1 q2 q3 => Exists.elim q1 fun t ev => Exists.elim q2 fun ps' q2 => Exists.elim q3 fun qs' q3 => eqE (C := fun v => Q v _) ev ?_
  exact h t h' tk' gs' ps' qs' q2.1 q3.1 F' (news_fin N K' m8 b1 b2 b3 b4 b5 m5 m6 q2.2 q3.2) G'
theorem str2_use (B : Below A₀ base outer h₀) (F : Fr h₀ L s.heap m) (X : (hd.heap_1 w.params).In h₀) (N : News h₀ L s.heap all) (TT : Top VW LS mean mg mb h₀) (hk : cs.kind = .function) (hd : dp + 60 < recursionLimit) (hu : un + 600 < cLine) (G : AllBare s.gens)
  (m0 : (r, fvO dr) ∈ all) (m1 : (dr, fvD w a1 a2 a3 a4 a5 a6 M tM tc tl ts ll x kd) ∈ all) (m2 : (ll, lstO lns kl) ∈ all) (m3 : (x, accO dx #[] n) ∈ all) (m4 : (dx, iniO w kt (.int z tz) k) ∈ all) (m5 : (169, tabObj ps) ∈ all) (m6 : (176, tabObj qs) ∈ all) (m8 : (td, tupO tk1 tk2 tk3 tt1 tt2 tt3) ∈ all)
  (b1 : @Ne Nat td ll) (b2 : @Ne Nat td x) (b3 : @Ne Nat td dx) (b4 : @Ne Nat td 169) (b5 : @Ne Nat td 176)
  (x1 : TriplesOk ps.toList) (x2 : TriplesOk qs.toList) (x3 : lns.size ≤ 100) (x4 : z ≤ 1000) (x5 : 0 < z) (x6 : StrsAre lns.toList lines) (x7 : ((lines ++ [Str.ofString ""]).map (·.length)).sum + (lines ++ [Str.ofString ""]).length * (Str.ofString "\n").length ≤ 16777216)
  (h : ∀ t h' tk' gs' ps' qs', TriplesOk ps'.toList → TriplesOk qs'.toList → Fr h₀ L h' m → News h₀ L h' [(td, tupO tk1 tk2 tk3 tt1 tt2 tt3), (169, tabObj ps'), (176, tabObj qs')] → AllBare gs' → Q (.str (Txt.join (Str.ofString "\n") (lines ++ [Str.ofString ""])) t) { s with heap := h', toks := tk', gens := gs' }) :
  wpAny (model PR w) (ktrTop dp un gd cn cs L a ccd cl outer) (call (.ref 71) [.ref r, .str (Str.ofString "\n") tnl]) Q E s := by
  refine (str2_cl w lines tnl mean mg mb r dr ll x dx a1 a2 a3 a4 a5 a6 tM tc tl ts M kd kl n k lns ps qs kt tz z x1 x2 x3 x4 x5 x6 x7).use B F X N (sub7 m0 m1 m2 m3 m4 m5 m6) TT hk trivial G hd hu fun v h' tk' gs' hR F' K' G' => ?_
  refine andE3 hR fun q1 q2 q3 => Exists.elim q1 fun t ev => Exists.elim q2 fun ps' q2 => Exists.elim q3 fun qs' q3 => eqE (C := fun v => Q v _) ev ?_
  exact h t h' tk' gs' ps' qs' q2.1 q3.1 F' (news_fin N K' m8 b1 b2 b3 b4 b5 m5 m6 q2.2 q3.2) G'
theorem str3_use (B : Below A₀ base outer h₀) (F : Fr h₀ L s.heap m) (X : (hd.heap_1 w.params).In h₀) (N : News h₀ L s.heap all) (TT : Top VW LS mean mg mb h₀) (hk : cs.kind = .function) (hd : dp + 60 < recursionLimit) (hu : un + 600 < cLine) (G : AllBare s.gens)
  (m0 : (r, fvO dr) ∈ all) (m1 : (dr, fvD w a1 a2 a3 a4 a5 a6 M tM tc tl ts ll x kd) ∈ all) (m2 : (ll, lstO lns kl) ∈ all) (m3 : (x, accO dx #[] n) ∈ all) (m4 : (dx, iniO w kt (.int z tz) k) ∈ all) (m5 : (169, tabObj ps) ∈ all) (m6 : (176, tabObj qs) ∈ all) (m8 : (td, tupO tk1 tk2 tk3 tt1 tt2 tt3) ∈ all)
  (b1 : @Ne Nat td ll) (b2 : @Ne Nat td x) (b3 : @Ne Nat td dx) (b4 : @Ne Nat td 169) (b5 : @Ne Nat td 176)
  (x1 : TriplesOk ps.toList) (x2 : TriplesOk qs.toList) (x3 : lns.size ≤ 100) (x4 : z ≤ 1000) (x5 : z = 0) (x6 : StrsAre lns.toList lines) (x7 : (lines.map (·.length)).sum + lines.length * (Str.ofString "\n").length ≤ 16777216)
  (h : ∀ t h' tk' gs' ps' qs', TriplesOk ps'.toList → TriplesOk qs'.toList → Fr h₀ L h' m → News h₀ L h' [(td, tupO tk1 tk2 tk3 tt1 tt2 tt3), (169, tabObj ps'), (176, tabObj qs')] → AllBare gs' → Q (.str (Txt.join (Str.ofString "\n") lines) t) { s with heap := h', toks := tk', gens := gs' }) :
  wpAny (model PR w) (ktrTop dp un gd cn cs L a ccd cl outer) (call (.ref 71) [.ref r, .str (Str.ofString "\n") tnl]) Q E s := by
  refine (str3_cl w lines tnl mean mg mb r dr ll x dx a1 a2 a3 a4 a5 a6 tM tc tl ts M kd kl n k lns ps qs kt tz z x1 x2 x3 x4 x5 x6 x7).use B F X N (sub7 m0 m1 m2 m3 m4 m5 m6) TT hk trivial G hd hu fun v h' tk' gs' hR F' K' G' => ?_
  refine andE3 hR fun q1 q2 q3 => Exists.elim q1 fun t ev => Exists.elim q2 fun ps' q2 => Exists.elim q3 fun qs' q3 => eqE (C := fun v => Q v _) ev ?_
  exact h t h' tk' gs' ps' qs' q2.1 q3.1 F' (news_fin N (kept_more K') m8 b1 b2 b3 b4 b5 m5 m6 q2.2 q3.2) G'
end
end Mine
end
section
open PySem PySem.W PyProof.Rows PySem.Builtin
set_option Elab.async false
set_option maxRecDepth 100000
set_option maxHeartbeats 8000000
set_option pp.deepTerms false
set_option pp.deepTerms.threshold 6
set_option pp.maxSteps 3000
set_option pp.proofs false
namespace Mine
theorem rows_AFT2_1 : True := by
  k_with_none
  w_top off
  k_with "k_ne" => (first | with_reducible exact Off.ne (by assumption) | with_reducible exact Off.ne' (by assumption) | exact news_neB (by assumption) (by k_mem) (by k_mem) rfl | exact OffAll.pick (by assumption) (by k_mem) | exact OffAll.pick' (by assumption) (by k_mem) | (refine neN ?_; (try dsimp only); omega))
  k_with "mine enter" => (k_dflt (refine' code_defG ?k1 ?k2 ?k3 ?k4 ?k5 ?kA ?kF ?kK ?k6 ?k7 ?k8 ?k9 ?kB ?_ ?c2 ?c3 ?c4 ?c5; (case kA => exact rfl); (case kF => exact rfl); (case kK => assumption); (case k1 => k_asm); (case k2 => k_asm); (case k3 => k_asm); (case k4 => k_asm); (case k5 => k_asm); (case k6 => k_is); (case k7 => k_is); (case k8 => first | exact room0 (by assumption) | ktr_room); (case k9 => first | exact BindsTo.of_eq rfl | exact binds_K (by k_in) rfl (by k_is) rfl rfl rfl); (case c5 => decide); (case kB => exact locs rfl); (case c2 => exact rfl); (case c3 => exact rfl); (case c4 => exact rfl); k_whole; intro _ _ _ _ _ _ B' _ _ _; (try dsimp only); (try k_lift B'); (try k_fold)))
  k_with "mine enter2" => (k_dflt (refine' code_defG ?k1 ?k2 ?k3 ?k4 ?k5 ?kA ?kF ?kK ?k6 ?k7 ?k8 ?k9 ?kB ?_ ?c2 ?c3 ?c4 ?c5; (case kA => exact rfl); (case kF => exact rfl); (case kK => exact rfl); (case k1 => k_asm); (case k2 => k_asm); (case k3 => k_asm); (case k4 => k_asm); (case k5 => k_asm); (case k6 => k_is); (case k7 => k_is); (case k8 => first | exact room0 (by assumption) | ktr_room); (case k9 => first | exact BindsTo.of_eq rfl | exact binds_K (by k_in) rfl (by k_is) rfl rfl rfl); (case c5 => decide); (case kB => exact locs rfl); (case c2 => exact rfl); (case c3 => exact rfl); (case c4 => exact rfl); k_whole; intro _ _ _ _ _ _ B' _ _ _; (try dsimp only); (try k_lift B'); (try k_fold)))
  trivial
theorem units_under_make (A : Around) (args : Args) : (A.under (.builtin "type.__call__" args)).units = A.units + 1 := by
  show A.units + (Code.builtin "type.__call__" args).cUnits = A.units + 1
  have : (Code.builtin "type.__call__" args).cUnits = 1 := by kernel_rfl
  rw [this]
theorem size2 {x : Str} (h : x.length ≤ 10000000) : x.length + 2 ≤ sizeLine := by rw [PySem.sizeLine_eq]; omega
theorem ks_item0 {w : World} {A : Around} {E : Value → Shared → Prop} {s : Shared} {L D : Addr} {h₀ : Heap} {news : List (Addr × Obj)} {value slice : PySem.Expr} {x : Str} {t u : Tok} {l : List (Str × Tok)} {n : Nat} {Q : Value → Shared → Prop}
    (N : News h₀ L s.heap news) (hm : (D, W.listOf (strValues ((x, t) :: l)).toArray n) ∈ news) (h : Q (.str x t) s)
    (hs : subscripted slice false (.ref D) (.int 0 u) = operate [.ref D, .int 0 u] (getItem (.ref D) (.int 0 u))) :
    wpAny (model PR w) A (subscriptTail value slice (.ref D) (.int 0 u)) Q E s :=
  tail_any (Heap.IsList.typeIs ⟨_, (N _ hm).1, rfl, _, rfl⟩) slot_list_getitem.lookup (wpAny_getItem_list ⟨_, (N _ hm).1, rfl, _, rfl⟩ (by decide) (by decide) (by simp [strValues]) h) hs
theorem rows_AFT2_2 : True := by
  k_with "mine base" => (first | exact tb_nil | (refine tb_cls rfl ?zb; (case zb => walk_at "mine base")) | (refine tb_ref (by assumption) ?zb; (case zb => walk_at "mine base")))
  k_with "mine out" => (first | exact so_nil | (refine so_fp ?za ?zb; (case za => k_mem); (case zb => walk_at "mine out")) | (refine so_in ?za ?zb; (case za => k_mem); (case zb => walk_at "mine out")))
  k_with "mine sub" => (first | exact sub_nil | (refine sub_cons ?za ?zb; (case za => k_mem); (case zb => walk_at "mine sub")))
  k_with "mine cl" => ((case fB => k_asm); (case fF => k_asm); (case fX => k_asm); (case fN => k_asm); (case fT => k_asm); (case fk => exact rfl); (case fd => first | exact room_le (by assumption) rfl | ktr_room); (case fu => first | exact room_le (by assumption) rfl | ktr_units); (try case fG => k_asm); (try case m0 => k_mem); (try case m1 => k_mem); (try case m2 => k_mem); (try case m3 => k_mem); (try case fU => walk_at "mine upd"); (try case fV => walk_at "mine upd"); (try case u1 => walk_at "mine upd"); (try case u2 => walk_at "mine upd"); (try case u3 => walk_at "mine upd"); (try case u4 => walk_at "mine upd"); (try case u5 => walk_at "mine upd"); (try case m4 => k_mem); (try case m5 => k_mem); (try case m6 => k_mem); (try case fP => walk_at "mine tups"))
  k_with "mine upd" => (first | k_upd | (intro _; walk_at "mine upd"))
  k_with "mine tups" => (first | exact TupsAt.keeps (by assumption) (fun b f tf p tp e => Fr.keep (by assumption) _ _ e) | exact tups_push (by assumption) (by assumption) (by assumption) (by k_mem))
  k_with "mine x" => (first | assumption | omega | (rw [Array.size_push]; omega) | (simp; omega) | (simp; done))
  k_with "call ref" => (k_here; k_dflt (refine' mk_use ?fB ?fF ?fX ?fN ?fT ?fk ?fd ?fu ?_; (case fB => k_asm); (case fF => k_asm); (case fX => k_asm); (case fN => k_asm); (case fT => k_asm); (case fk => exact rfl); (case fd => ktr_room); (case fu => (have hcL9 := cLine_is; (try simp only [units_in1, units_deeper, units_under_make] at *); (try dsimp only [ktrTop] at *); omega)); k_whole); intro _ _ _ _ _ _ _ _ _ _ _ _; (try k_sweep); (try dsimp only); (try k_fold))
  k_with "call ref" => (k_here; (with_reducible show wpAny _ _ (call (Value.ref 123) _) _ _ _); k_dflt (refine' call_cls ?k1 ?k2 ?k3 ?k4 ?k5 ?k6 ?_; (case k1 => k_asm); (case k2 => k_asm); (case k3 => k_asm); (case k4 => k_is); (case k5 => k_is); (case k6 => k_is); k_whole); intro _ _ _ _ _ l1 l2; (try k_lt l1); (try k_lt2 l2); (try k_sweep); walk_at "mine enter2")
  k_with "call ref" => (k_here; k_dflt (refine' aspw_use ?fB ?fF ?fX ?fN ?fT ?fk ?fd ?fu ?fG ?m0 ?m1 ?m2 ?m3 ?u1 ?u2 ?u3 ?u4 ?u5 ?m4 ?m5 ?m6 ?x1 ?x2 ?x3 ?x4 ?x5 ?x6 ?_; walk_at "mine cl"; (case x1 => walk_at "mine x"); (case x2 => walk_at "mine x"); (case x3 => walk_at "mine x"); (case x4 => walk_at "mine x"); (case x5 => walk_at "mine x"); (case x6 => walk_at "mine x"); k_whole); intro _ _ _ _ _ _ _ _ _ _ _ _ _ _ _ _ _ _ _ _ _ _ _ _ _ _ _ lk9 _ _ _ _; have lki9 := LastOk.hjl lk9; (try k_sweep); (try dsimp only); (try k_fold))
  k_with "call ref" => (k_here; k_dflt (refine' str1_use ?fB ?fF ?fX ?fN ?fT ?fk ?fd ?fu ?fG ?m0 ?m1 ?m2 ?m3 ?m4 ?m5 ?m6 ?m7 ?m8 ?b1 ?b2 ?b3 ?b4 ?b5 ?pP ?x0 ?x1 ?x2 ?x4 ?x5 ?pK ?_; walk_at "mine cl"; (case m7 => k_mem); (case m8 => k_mem); (case b1 => k_ne); (case b2 => k_ne); (case b3 => k_ne); (case b4 => k_ne); (case b5 => k_ne); (case pP => (first | assumption | exact TupsAt.keeps (by assumption) (fun b f tf p tp e => Fr.keep (by assumption) _ _ e))); (case pK => assumption); (case x0 => walk_at "mine x"); (case x1 => walk_at "mine x"); (case x2 => walk_at "mine x"); (case x4 => walk_at "mine x"); (case x5 => walk_at "mine x"); k_whole); intro _ _ _ _ _ _ _ _ _ _ _; (try k_sweep); (try dsimp only); (try k_fold))
  k_with "call builtin:str.split" => (k_here; (with_reducible show wpAny _ _ (call (Value.builtin "str.split") [Value.str _ _, Value.str _ _]) _ _ _); k_dflt (refine' KSpl.split1 ?k1 ?k2 ?k3 ?_ ?k4; (case k1 => k_asm); (case k2 => k_asm); (case k3 => decide +kernel); (case k4 => exact size2 (by assumption)); k_whole); (intro _ _ _ _ e' _ _ _ l1); (try k_lt l1); (obtain ⟨t8, l8, e8, _⟩ := KSpl.cons_of (e'.trans (by assumption))); subst e8)
  k_with "subscriptTail" => (k_here; (with_reducible show wpAny _ _ (subscriptTail _ _ (Value.ref _) (Value.int 0 _)) _ _ _); k_dflt (refine' ks_item0 ?k1 ?k2 ?_ ?kb; (case k1 => k_asm); (case k2 => k_mem); (case kb => with_unfolding_all rfl); k_whole))
  k_with "execs cons" => ((with_reducible refine wpAny_execs_cons ?_); (try dsimp only); (try (refine tk_any ?_; intro _)); (try k_fold))
  trivial
theorem aft2w_cl (w : World) (mean : ExcName → Option Value) (mg mb : Str → Option Value) (td : Addr) (wn : Nat) (wr : List Nat) (t : Tok) (z M : Int) (tk th tw : Tok) (ps qs : Array Value) (htr : TriplesOk ps.toList) (hts : TriplesOk qs.toList) (hz : 0 ≤ z ∧ z ≤ 1000) (hM : 0 ≤ M) (hl5 : (wn :: wr).length ≤ 5) (hws : ∀ m ∈ wn :: wr, m ≤ 15) :
  ROG w mean mg mb 248 [169, 176] (fun _ => True) [(td, tupO 2 z M tk th tw), (169, tabObj ps), (176, tabObj qs)] [.str (textS (wn :: wr)) t, .ref td] (fun _ v h' => (∃ t, v = .str (textS ((wn :: wr).take (fitF ((wn :: wr).map Int.ofNat) z M).toNat)) t) ∧ (∃ ps', TriplesOk ps'.toList ∧ h'.get? 169 = some (tabObj ps')) ∧ (∃ qs', TriplesOk qs'.toList ∧ h'.get? 176 = some (tabObj qs'))) 240 2400 := by
  delta ROG PR; k_fill
  intro dp un gd cn cs a ccd cl outer A₀ base h₀ L m s Q E B F KX N T' hk HP G hdp hun hret
  w_strict (refine wpAny_call ?_; walk_at "mine enter"; k_steps)
  rename (List.map _ _)[_]? = some _ => hy9
  cases hy9
  exact hret _ _ _ _ ⟨⟨_, rfl⟩, tri_at (by assumption) (by k_mem) (by assumption), tri_at (by assumption) (by k_mem) (by assumption)⟩ (by assumption) (kept_mut [169, 176] N (by assumption) (Fr.keep (by assumption)) (sub_out (by assumption) (by walk_at "mine out"))) (by assumption)
end Mine
end
section
open PySem PySem.W PyProof.Rows PySem.Builtin
set_option Elab.async false
set_option maxRecDepth 100000
set_option maxHeartbeats 8000000
set_option pp.deepTerms false
set_option pp.deepTerms.threshold 6
set_option pp.maxSteps 3000
set_option pp.proofs false
namespace Mine
theorem rows_AFT3_1 : True := by
  k_with_none
  w_top off
  k_with "k_ne" => (first | with_reducible exact Off.ne (by assumption) | with_reducible exact Off.ne' (by assumption) | exact news_neB (by assumption) (by k_mem) (by k_mem) rfl | exact OffAll.pick (by assumption) (by k_mem) | exact OffAll.pick' (by assumption) (by k_mem) | (refine neN ?_; (try dsimp only); omega))
  k_with "mine enter" => (k_dflt (refine' code_defG ?k1 ?k2 ?k3 ?k4 ?k5 ?kA ?kF ?kK ?k6 ?k7 ?k8 ?k9 ?kB ?_ ?c2 ?c3 ?c4 ?c5; (case kA => exact rfl); (case kF => exact rfl); (case kK => assumption); (case k1 => k_asm); (case k2 => k_asm); (case k3 => k_asm); (case k4 => k_asm); (case k5 => k_asm); (case k6 => k_is); (case k7 => k_is); (case k8 => first | exact room0 (by assumption) | ktr_room); (case k9 => first | exact BindsTo.of_eq rfl | exact binds_K (by k_in) rfl (by k_is) rfl rfl rfl); (case c5 => decide); (case kB => exact locs rfl); (case c2 => exact rfl); (case c3 => exact rfl); (case c4 => exact rfl); k_whole; intro _ _ _ _ _ _ B' _ _ _; (try dsimp only); (try k_lift B'); (try k_fold)))
  k_with "mine enter2" => (k_dflt (refine' code_defG ?k1 ?k2 ?k3 ?k4 ?k5 ?kA ?kF ?kK ?k6 ?k7 ?k8 ?k9 ?kB ?_ ?c2 ?c3 ?c4 ?c5; (case kA => exact rfl); (case kF => exact rfl); (case kK => exact rfl); (case k1 => k_asm); (case k2 => k_asm); (case k3 => k_asm); (case k4 => k_asm); (case k5 => k_asm); (case k6 => k_is); (case k7 => k_is); (case k8 => first | exact room0 (by assumption) | ktr_room); (case k9 => first | exact BindsTo.of_eq rfl | exact binds_K (by k_in) rfl (by k_is) rfl rfl rfl); (case c5 => decide); (case kB => exact locs rfl); (case c2 => exact rfl); (case c3 => exact rfl); (case c4 => exact rfl); k_whole; intro _ _ _ _ _ _ B' _ _ _; (try dsimp only); (try k_lift B'); (try k_fold)))
  k_with "mine base" => (first | exact tb_nil | (refine tb_cls rfl ?zb; (case zb => walk_at "mine base")) | (refine tb_ref (by assumption) ?zb; (case zb => walk_at "mine base")))
  k_with "mine out" => (first | exact so_nil | (refine so_fp ?za ?zb; (case za => k_mem); (case zb => walk_at "mine out")) | (refine so_in ?za ?zb; (case za => k_mem); (case zb => walk_at "mine out")))
  k_with "mine sub" => (first | exact sub_nil | (refine sub_cons ?za ?zb; (case za => k_mem); (case zb => walk_at "mine sub")))
  k_with "mine cl" => ((case fB => k_asm); (case fF => k_asm); (case fX => k_asm); (case fN => k_asm); (case fT => k_asm); (case fk => exact rfl); (case fd => first | exact room_le (by assumption) rfl | ktr_room); (case fu => first | exact room_le (by assumption) rfl | ktr_units); (try case fG => k_asm); (try case m0 => k_mem); (try case m1 => k_mem); (try case m2 => k_mem); (try case m3 => k_mem); (try case fU => walk_at "mine upd"); (try case fV => walk_at "mine upd"); (try case u1 => walk_at "mine upd"); (try case u2 => walk_at "mine upd"); (try case u3 => walk_at "mine upd"); (try case u4 => walk_at "mine upd"); (try case u5 => walk_at "mine upd"); (try case m4 => k_mem); (try case m5 => k_mem); (try case m6 => k_mem); (try case fP => walk_at "mine tups"))
  k_with "mine upd" => (first | k_upd | (intro _; walk_at "mine upd"))
  k_with "mine tups" => (first | exact TupsAt.keeps (by assumption) (fun b f tf p tp e => Fr.keep (by assumption) _ _ e) | exact tups_push (by assumption) (by assumption) (by assumption) (by k_mem))
  k_with "mine x" => (first | assumption | omega | (rw [Array.size_push]; omega) | (simp; omega) | (simp; done))
  k_with "call ref" => (k_here; k_dflt (refine' mk_use ?fB ?fF ?fX ?fN ?fT ?fk ?fd ?fu ?_; (case fB => k_asm); (case fF => k_asm); (case fX => k_asm); (case fN => k_asm); (case fT => k_asm); (case fk => exact rfl); (case fd => ktr_room); (case fu => (have hcL9 := cLine_is; (try simp only [units_in1, units_deeper, units_under_make] at *); (try dsimp only [ktrTop] at *); omega)); k_whole); intro _ _ _ _ _ _ _ _ _ _ _ _; (try k_sweep); (try dsimp only); (try k_fold))
  k_with "call ref" => (k_here; (with_reducible show wpAny _ _ (call (Value.ref 123) _) _ _ _); k_dflt (refine' call_cls ?k1 ?k2 ?k3 ?k4 ?k5 ?k6 ?_; (case k1 => k_asm); (case k2 => k_asm); (case k3 => k_asm); (case k4 => k_is); (case k5 => k_is); (case k6 => k_is); k_whole); intro _ _ _ _ _ l1 l2; (try k_lt l1); (try k_lt2 l2); (try k_sweep); walk_at "mine enter2")
  k_with "call ref" => (k_here; k_dflt (refine' asp0_use ?fB ?fF ?fX ?fN ?fT ?fk ?fd ?fu ?fG ?m0 ?m1 ?m2 ?m3 ?m4 ?m5 ?m6 ?x1 ?x2 ?_; walk_at "mine cl"; (case x1 => walk_at "mine x"); (case x2 => walk_at "mine x"); k_whole); intro _ _ _ _ _ _; (try k_sweep); (try dsimp only); (try k_fold))
  k_with "call ref" => (k_here; k_dflt (refine' str2_use ?fB ?fF ?fX ?fN ?fT ?fk ?fd ?fu ?fG ?m0 ?m1 ?m2 ?m3 ?m4 ?m5 ?m6 ?m8 ?b1 ?b2 ?b3 ?b4 ?b5 ?x1 ?x2 ?x3 ?x4 ?x5 ?x6 ?x7 ?_; walk_at "mine cl"; (case m8 => k_mem); (case b1 => k_ne); (case b2 => k_ne); (case b3 => k_ne); (case b4 => k_ne); (case b5 => k_ne); (case x1 => walk_at "mine x"); (case x2 => walk_at "mine x"); (case x3 => walk_at "mine x"); (case x4 => walk_at "mine x"); (case x5 => walk_at "mine x"); (case x6 => walk_at "mine x"); (case x7 => walk_at "mine x"); k_whole); intro _ _ _ _ _ _ _ _ _ _ _; (try k_sweep); (try dsimp only); (try k_fold))
  k_with "call ref" => (k_here; k_dflt (refine' str3_use ?fB ?fF ?fX ?fN ?fT ?fk ?fd ?fu ?fG ?m0 ?m1 ?m2 ?m3 ?m4 ?m5 ?m6 ?m8 ?b1 ?b2 ?b3 ?b4 ?b5 ?x1 ?x2 ?x3 ?x4 ?x5 ?x6 ?x7 ?_; walk_at "mine cl"; (case m8 => k_mem); (case b1 => k_ne); (case b2 => k_ne); (case b3 => k_ne); (case b4 => k_ne); (case b5 => k_ne); (case x1 => walk_at "mine x"); (case x2 => walk_at "mine x"); (case x3 => walk_at "mine x"); (case x4 => walk_at "mine x"); (case x5 => walk_at "mine x"); (case x6 => walk_at "mine x"); (case x7 => walk_at "mine x"); k_whole); intro _ _ _ _ _ _ _ _ _ _ _; (try k_sweep); (try dsimp only); (try k_fold))
  k_with "call builtin:str.split" => (k_here; (with_reducible show wpAny _ _ (call (Value.builtin "str.split") [Value.str _ _, Value.str _ _]) _ _ _); k_dflt (refine' KSpl.split1 ?k1 ?k2 ?k3 ?_ ?k4; (case k1 => k_asm); (case k2 => k_asm); (case k3 => decide +kernel); (case k4 => exact size2 (by assumption)); k_whole); (intro _ _ _ _ e' _ _ _ l1); (try k_lt l1); (obtain ⟨t8, l8, e8, _⟩ := KSpl.cons_of (e'.trans (by assumption))); subst e8)
  k_with "subscriptTail" => (k_here; (with_reducible show wpAny _ _ (subscriptTail _ _ (Value.ref _) (Value.int 0 _)) _ _ _); k_dflt (refine' ks_item0 ?k1 ?k2 ?_ ?kb; (case k1 => k_asm); (case k2 => k_mem); (case kb => with_unfolding_all rfl); k_whole))
  k_with "execs cons" => ((with_reducible refine wpAny_execs_cons ?_); (try dsimp only); (try (refine tk_any ?_; intro _)); (try k_fold))
  trivial
theorem aft2e_cl (w : World) (mean : ExcName → Option Value) (mg mb : Str → Option Value) (td : Addr) (t : Tok) (z M : Int) (tk th tw : Tok) (ps qs : Array Value) (htr : TriplesOk ps.toList) (hts : TriplesOk qs.toList) (hz : 0 ≤ z ∧ z ≤ 1000) (hM : 0 ≤ M) (hzp : 0 < z) :
  ROG w mean mg mb 248 [169, 176] (fun _ => True) [(td, tupO 2 z M tk th tw), (169, tabObj ps), (176, tabObj qs)] [.str (textS []) t, .ref td] (fun _ v h' => (∃ t, v = .str (textS []) t) ∧ (∃ ps', TriplesOk ps'.toList ∧ h'.get? 169 = some (tabObj ps')) ∧ (∃ qs', TriplesOk qs'.toList ∧ h'.get? 176 = some (tabObj qs'))) 240 2400 := by
  delta ROG PR; k_fill
  intro dp un gd cn cs a ccd cl outer A₀ base h₀ L m s Q E B F KX N T' hk HP G hdp hun hret
  have e0 : textS [] = Str.ofString "" := by decide +kernel
  rw [e0]
  have hln0 : (#[] : Array Value).size ≤ 100 := Nat.zero_le _
  have hlv0 : StrsAre (#[] : Array Value).toList [] := .nil
  have hz1 : z ≤ 1000 := hz.2
  have hjn0 : (([] ++ [Str.ofString ""] : List Str).map (·.length)).sum + ([] ++ [Str.ofString ""] : List Str).length * (Str.ofString "\n").length ≤ 16777216 := by decide +kernel
  have hjl0 : (Txt.join (Str.ofString "\n") ([] ++ [Str.ofString ""])).length ≤ 10000000 := by decide +kernel
  have hr0 : Txt.split (Txt.join (Str.ofString "\n") ([] ++ [Str.ofString ""])) (Str.ofString "\n") = Str.ofString "" :: [] := by decide +kernel
  w_strict (refine wpAny_call ?_; walk_at "mine enter"; k_steps)
  try (rename (List.map _ _)[_]? = some _ => hy9; cases hy9)
  exact hret _ _ _ _ ⟨⟨_, rfl⟩, tri_at (by assumption) (by k_mem) (by assumption), tri_at (by assumption) (by k_mem) (by assumption)⟩ (by assumption) (kept_mut [169, 176] N (by assumption) (Fr.keep (by assumption)) (sub_out (by assumption) (by walk_at "mine out"))) (by assumption)
theorem aft2z_cl (w : World) (mean : ExcName → Option Value) (mg mb : Str → Option Value) (td : Addr) (t : Tok) (z M : Int) (tk th tw : Tok) (ps qs : Array Value) (htr : TriplesOk ps.toList) (hts : TriplesOk qs.toList) (hz : 0 ≤ z ∧ z ≤ 1000) (hM : 0 ≤ M) (hzz : z = 0) :
  ROG w mean mg mb 248 [169, 176] (fun _ => True) [(td, tupO 2 z M tk th tw), (169, tabObj ps), (176, tabObj qs)] [.str (textS []) t, .ref td] (fun _ v h' => (∃ t, v = .str (textS []) t) ∧ (∃ ps', TriplesOk ps'.toList ∧ h'.get? 169 = some (tabObj ps')) ∧ (∃ qs', TriplesOk qs'.toList ∧ h'.get? 176 = some (tabObj qs'))) 240 2400 := by
  delta ROG PR; k_fill
  intro dp un gd cn cs a ccd cl outer A₀ base h₀ L m s Q E B F KX N T' hk HP G hdp hun hret
  have e0 : textS [] = Str.ofString "" := by decide +kernel
  rw [e0]
  have hln0 : (#[] : Array Value).size ≤ 100 := Nat.zero_le _
  have hlv0 : StrsAre (#[] : Array Value).toList [] := .nil
  have hz1 : z ≤ 1000 := hz.2
  have hjn0 : (([] : List Str).map (·.length)).sum + ([] : List Str).length * (Str.ofString "\n").length ≤ 16777216 := by decide +kernel
  have hjl0 : (Txt.join (Str.ofString "\n") ([])).length ≤ 10000000 := by decide +kernel
  have hr0 : Txt.split (Txt.join (Str.ofString "\n") ([])) (Str.ofString "\n") = Str.ofString "" :: [] := by decide +kernel
  w_strict (refine wpAny_call ?_; walk_at "mine enter"; k_steps)
  try (rename (List.map _ _)[_]? = some _ => hy9; cases hy9)
  exact hret _ _ _ _ ⟨⟨_, rfl⟩, tri_at (by assumption) (by k_mem) (by assumption), tri_at (by assumption) (by k_mem) (by assumption)⟩ (by assumption) (kept_mut [169, 176] N (by assumption) (Fr.keep (by assumption)) (sub_out (by assumption) (by walk_at "mine out"))) (by assumption)
end Mine
end
section
open PySem PySem.W PySem.Calls PyProof.Rows PySem.Builtin
set_option Elab.async false
set_option maxRecDepth 100000
set_option maxHeartbeats 8000000
set_option pp.deepTerms false
set_option pp.deepTerms.threshold 6
set_option pp.maxSteps 3000
set_option pp.proofs false
namespace Mine
noncomputable abbrev gScope : Scope := { kind := .function, names := [(Str.ofString "addr", .local), (Str.ofString "pos", .local), (Str.ofString "escape", .local), (Str.ofString "ch", .local), (Str.ofString "enumerate", .globalImplicit)], isGenerator := true, isCoroutine := false, more := [] }
noncomputable abbrev gEnv (LG f : Addr) (cd : Value) : Env := envOf (Str.ofString "_iter_escaped_chars") gScope LG f cd
noncomputable abbrev mG (a p e c : Option Value) : Str → Option Value := fun y => if y = Str.ofString "pos" then p else if y = Str.ofString "escape" then e else if y = Str.ofString "ch" then c else if y = Str.ofString "addr" then a else none
noncomputable def outsL : List Nat → Bool → List Nat
  | [], false => []
  | [], true => [92]
  | c :: r, true => c :: outsL r false
  | c :: r, false => if c = 92 then outsL r true else c :: outsL r false
theorem outs_esc : ∀ l : List Nat, outsL l false = escL l
  | [] => rfl
  | [c] => by
    by_cases h : c = 92
    · subst h; rfl
    · simp [outsL, escL, h]
  | c :: e :: r => by
    by_cases h : c = 92
    · subst h
      show outsL (e :: r) true = (if 92 = 92 then e :: escL r else _)
      rw [if_pos rfl, ← outs_esc r]
      rfl
    · show (if c = 92 then _ else c :: outsL (e :: r) false) = (if c = 92 then _ else c :: escL (e :: r))
      rw [if_neg h, if_neg h, outs_esc (e :: r)]

noncomputable abbrev tupY (p : Int) (tp : Tok) (u : Str) (tu : Tok) : Obj := { cls := .type "tuple", data := .seq #[.int p tp, .str u tu] }
/-- what the generator's run has left as it was: all that stood below lim, but its frame -/
noncomputable def GS2 (LG lim : Addr) (s₀ s : Shared) : Prop := ∃ h' tk, s = { s₀ with heap := h', toks := tk } ∧ ∀ b o, b ≠ LG → @LT.lt Nat _ b lim → s₀.heap.get? b = some o → h'.get? b = some o
theorem GS2.refl (LG lim : Addr) (s : Shared) : GS2 LG lim s s := ⟨s.heap, s.toks, rfl, fun _ _ _ _ e => e⟩
theorem GS2.step {LG lim : Addr} {s₀ s : Shared} (x : GS2 LG lim s₀ s) {h' : Heap} {tk : Nat} (hk : ∀ b o, b ≠ LG → @LT.lt Nat _ b lim → s.heap.get? b = some o → h'.get? b = some o) : GS2 LG lim s₀ { s with heap := h', toks := tk } := by
  obtain ⟨h₁, tk₁, rfl, hk₁⟩ := x
  exact ⟨h', tk, rfl, fun b o hC hw e => hk b o hC hw (hk₁ b o hC hw e)⟩
noncomputable def gY (LG lim : Addr) (mu : List Addr) (O : List Nat) : Protocol := fun m s₀ v s kap =>
  (∃ T p tp u tu c, v = .ref T ∧ s.heap.get? T = some (tupY p tp u tu) ∧ O[O.length - 1 - m]? = some c ∧ (u = ⟨#[c]⟩ ∨ u = ⟨#[92, c]⟩)) ∧ GS2 LG lim s₀ s ∧
  ∀ s'' : Shared, (∀ b o, b ∉ mu → s.heap.get? b = some o → s''.heap.get? b = some o) → kap (.send .none) s''
noncomputable def gR (LG lim : Addr) : GenEnd := fun n s₀ r s₁ => r = .ok (.ret .none) ∧ (n = 0 ∧ GS2 LG lim s₀ s₁)

structure GSt (g : Heap) (LG EN IT : Addr) (x : Str) (t : Tok) (i : Nat) (esc : Bool) (h : Heap) : Prop where
  fr : ∃ p tp c, Fr g LG h (mG (some (.str x t)) (some (.int p tp)) (some (.bool esc)) c)
  en : ∃ old, IsEnum h EN IT i old
  it : h.IsStrIter IT (strIterType x) x t i
theorem draws_str {prog : Program} {w : World} {A : Around} (hh : A.handled = none) (it : Addr) (x : Str) (t : Tok) :
    Draws prog w A it [it] x.cps.size (fun i v => ∃ c u, x.cps[i]? = some c ∧ v = .str ⟨#[c]⟩ u) (fun i h => h.IsStrIter it (strIterType x) x t i) := by
  unfold strIterType
  split
  · exact Draws.strAscii hh it x t
  · exact Draws.strWide hh it x t

theorem rows_GNB_1 : True := by
  k_with_none
  w_top off
  k_with "binaryOp Add str str" => (k_here; k_dflt (refine' KXadd.add (K := 1) (L := 1) (by decide +kernel) (by exact Nat.le_refl 1) (by decide) ?_); intro _ _ _)
  k_with "newTuple" => (k_here; refine wpAny_newTuple ?_)
  k_with "execs cons" => ((with_reducible refine wpAny_execs_cons ?_); (try dsimp only); (try (refine tk_any ?_; intro _)); (try k_fold))
  trivial
noncomputable abbrev stE (b : Bool) (p1 p2 p3 : Pos) : Stmt := .Assign [.Name "escape" p1] (.Constant (.bool b) 0 p2) p3
noncomputable abbrev stY1 (p1 p2 p3 p4 p5 p6 p7 : Pos) : Stmt := .Expr (.Yield (some (.Tuple [.Name "pos" p1, .BinOp (.Constant (.str "\\") 0 p2) .Add (.Name "ch" p3) p4] 0 p5)) p6) p7
noncomputable abbrev stY2 (p1 p2 p3 p4 p5 : Pos) : Stmt := .Expr (.Yield (some (.Tuple [.Name "pos" p1, .Name "ch" p2] 0 p3)) p4) p5
noncomputable abbrev stY3 (p1 p2 p3 p4 p5 : Pos) : Stmt := .Expr (.Yield (some (.Tuple [.Name "pos" p1, .Constant (.str "\\") 0 p2] 0 p3)) p4) p5
noncomputable abbrev stC (s1 s2 : Stmt) (p1 p2 p3 p4 : Pos) : Stmt := .If (.Compare (.Name "ch" p1) [.Eq] [.Constant (.str "\\") 0 p2] p3) [s1] [s2] p4
noncomputable abbrev stB (s1 s2 s3 : Stmt) (p1 p2 : Pos) : Stmt := .If (.Name "escape" p1) [s1, s2] [s3] p2
noncomputable abbrev tgE (p1 p2 p3 : Pos) : PySem.Expr := .Tuple [.Name "pos" p1, .Name "ch" p2] 0 p3

section
variable {w : World} {A : Around} {mean : ExcName → Option Value} {mg mb : Str → Option Value} {g : Heap} {LG f EN IT lim : Addr} {mu : List Addr} {cd : Value} {x : Str} {t : Tok} {O : List Nat} {fs : List Frame}
theorem bs_codes : Str.ofString "\\" = ⟨#[92]⟩ := by decide +kernel
theorem is92 {c : Nat} : ((⟨#[c]⟩ : Str) == Str.ofString "\\") = decide (c = 92) := by
  rw [bs_codes]
  by_cases h : c = 92
  · subst h; decide
  · rw [decide_eq_false h]
    apply beq_false_of_ne
    intro e
    injection e with e
    have := congrArg Array.toList e
    simp at this
    exact h this
theorem esc_cat (c : Nat) : Str.ofString "\\" ++ (⟨#[c]⟩ : Str) = ⟨#[92, c]⟩ := by
  rw [bs_codes]; rfl
theorem st_esc {E : Value → Shared → Prop} {s : Shared} {Q : Flow → Shared → Prop} {a p e c : Option Value} {b : Bool} {p1 p2 p3 : Pos} (F : Fr g LG s.heap (mG a p e c))
    (h : ∀ h', Fr g LG h' (mG a p (some (.bool b)) c) → (∀ b o, b ≠ LG → s.heap.get? b = some o → h'.get? b = some o) → h'.objs.size = s.heap.objs.size → Q .next { s with heap := h', toks := s.toks + 1 }) :
    wpAny (model PR w) A (exec (stE b p1 p2 p3) (gEnv LG f cd)) Q E s := by
  rw [exec_Assign_Name _ _ _ _ _ rfl]
  refine wpAny_bind (wpAny_standAt (wpAny_bind ?_))
  show wpAny _ _ (pure (Value.bool b)) _ _ _
  refine wpAny_pure (wpAny_bind (wpAny_standAt (wpAny_bind (wpAny_bindName (wpAny_storeName_local rfl F.ns (fun h₄ hn₄ hs₄ => ?_) rfl)))))
  refine wpAny_pure (h h₄ ⟨?_, fun b o e => hs₄.extBut b o (fun q => by have q' : b = LG := q; rw [q', Heap.get?_none_of_le F.above] at e; cases e) (F.keep b o e), F.above⟩ (fun b o hb e => hs₄.extBut b o hb e) hs₄.1)
  refine (show (fun y => if y = (Str.ofString "escape") then some (Value.bool b) else mG a p e c y) = mG a p (some (.bool b)) c from ?_) ▸ hn₄
  funext y
  by_cases hy1 : y = Str.ofString "escape"
  · subst hy1; rfl
  · simp only [hy1, mG, if_false]
theorem gen_loop {q1 q2 q3 a1 a2 a3 a4 a5 a6 a7 b1 b2 b3 c1 c2 c3 d1 d2 d3 d4 d5 e1 e2 e3 e4 f1 f2 : Pos} (T : Top VW LS mean mg mb g) (X : (hd.heap_1 w.params).In g) (n1 : @Ne Nat LG EN) (n2 : @Ne Nat LG IT) (n3 : @Ne Nat EN IT) (z1 : g.get? EN = none) (z2 : g.get? IT = none) (l1 : @LE.le Nat _ lim EN) (l2 : @LE.le Nat _ lim IT) (m1 : ∀ b ∈ [LG, EN, IT], b ∉ mu) (m2 : ∀ b o, g.get? b = some o → b ∉ mu)
    (hov : ∀ c, (A.over c fs).handled = none) (hfs : splitAtGen fs = none) (hfg : fs.any Frame.guarded = false) (hx : x.length ≤ 1000)
    (after : ∀ esc s₀ s, (∃ p tp c, Fr g LG s.heap (mG (some (.str x t)) (some (.int p tp)) (some (.bool esc)) c)) → GS2 LG lim s₀ s → (∃ pre, O = pre ++ outsL [] esc) →
      Seg (model PR w) A (gR LG lim) (gY LG lim mu O) (outsL [] esc).length s₀ (.block [] (gEnv LG f cd)) (leafOf (.ok .next)) fs s) :
    ∀ (rem : List Nat) (i : Nat) (esc : Bool) (s₀ s : Shared), i ≤ x.cps.size → x.cps.toList.drop i = rem → (∃ pre, O = pre ++ outsL rem esc) → GSt g LG EN IT x t i esc s.heap → GS2 LG lim s₀ s →
      Seg (model PR w) A (gR LG lim) (gY LG lim mu O) (outsL rem esc).length s₀
        (.forLoop (tgE q1 q2 q3) (.ref EN) [stB (stY1 a1 a2 a3 a4 a5 a6 a7) (stE false b1 b2 b3) (stC (stE true c1 c2 c3) (stY2 d1 d2 d3 d4 d5) e1 e2 e3 e4) f1 f2] [] (gEnv LG f cd))
        ((model PR w).den (.forLoop (tgE q1 q2 q3) (.ref EN) [stB (stY1 a1 a2 a3 a4 a5 a6 a7) (stE false b1 b2 b3) (stC (stE true c1 c2 c3) (stY2 d1 d2 d3 d4 d5) e1 e2 e3 e4) f1 f2] [] (gEnv LG f cd))) fs s := by
  have lo : ∀ b : Addr, @LT.lt Nat _ b lim → b ∉ [EN, IT] := fun b hb hm => by
    rcases List.mem_cons.mp hm with rfl | hm
    · exact Nat.not_lt.mpr l1 hb
    · rw [List.mem_singleton.mp hm] at hb; exact Nat.not_lt.mpr l2 hb
  have D := fun (A' : Around) (hA : A'.handled = none) => draws_str (prog := PR) (w := w) (A := A'.in1) hA IT x t
  have W := fun (A' : Around) (hA : A'.handled = none) => WalksT.enumerateD (D A' hA) EN n3 (by simpa using n3) (by simp)
  intro rem
  induction rem with
  | nil =>
    intro i esc s₀ s hi' hd hO hst hsi
    have hi : i = x.cps.size := by
      have := congrArg List.length hd
      simp at this; omega
    subst hi
    have hen := hst.en
    have hit := hst.it
    refine exE3 hst.fr fun p tp cc F => ?_
    clear hst
    refine seg_forLoop ((W _ (hov _)).done s _ _ ⟨hen, hit⟩ fun h' tk hk => ?_)
    refine after esc s₀ _ ⟨p, tp, cc, ⟨F.ns.at' fun o e => hk _ o (by simpa using ⟨n1, n2⟩) e, fun b o e => hk b o ?_ (F.keep b o e), F.above⟩⟩ (hsi.step fun b o h1 h2 e => hk b o (lo b h2) e) hO
    simp only [List.mem_cons, List.not_mem_nil, or_false]
    rintro (h | h)
    · rw [h, z1] at e; cases e
    · rw [h, z2] at e; cases e
  | cons c rem ih =>
    intro i esc s₀ s hi' hd hO hst hsi
    have hlt : i < x.cps.size := by
      have := congrArg List.length hd
      simp at this; omega
    have hc : x.cps[i]? = some c := by
      have := congrArg List.head? hd
      simpa using this
    have hd' : x.cps.toList.drop (i + 1) = rem := by
      have := congrArg List.tail hd
      simpa using this
    have hen := hst.en
    have hit := hst.it
    refine exE3 hst.fr fun p tp cc F => ?_
    clear hst
    refine seg_forLoop ((W _ (hov _)).item i s _ _ hlt ⟨hen, hit⟩ fun T1 vals h₁ tk₁ hP hT1 ht hM hk₁ => ?_)
    obtain ⟨tt, v, ⟨c', u, hc', rfl⟩, rfl⟩ := hP
    rw [hc] at hc'
    obtain rfl := Option.some.inj hc'
    have hap := (W _ (hov (.forLoop (tgE q1 q2 q3) (.ref EN) [] [] (gEnv LG f cd)))).apart _ _ _ hM
    refine (W _ (hov _)).go _ _ _ i T1 _ _ _ hM fun h₂ hst₂ hk₂ => ?_
    have ht₂ : h₂.IsTuple T1 #[.int i tt, .str ⟨#[c]⟩ u] := let ⟨o, ho, r⟩ := ht; ⟨o, hk₂ _ o hap ho, r⟩
    refine assign_Tuple_tuple (hov _) ht₂ rfl rfl fun h₃ he₃ => ?_
    have kk : ∀ b o, b ∉ [EN, IT] → s.heap.get? b = some o → h₃.get? b = some o := fun b o hb e => by
      have e2 := hk₂ b o hb (hk₁ b o hb e)
      exact he₃ b o (Nat.ne_of_lt (Heap.lt_size e2)) e2
    have zz : ∀ b o, g.get? b = some o → b ∉ [EN, IT] := fun b o e => by
      simp only [List.mem_cons, List.not_mem_nil, or_false]
      rintro (h | h)
      · rw [h, z1] at e; cases e
      · rw [h, z2] at e; cases e
    have F₃ : Fr g LG h₃ (mG (some (.str x t)) (some (.int p tp)) (some (.bool esc)) cc) := ⟨F.ns.at' fun o e => kk _ o (by simpa using ⟨n1, n2⟩) e, fun b o e => kk b o (zz b o e) (F.keep b o e), F.above⟩
    have hLg : g.get? LG = none := Heap.get?_none_of_le F.above
    refine assignInOrder_cons (wpAny_assign_Name (wpAny_storeName_local rfl F₃.ns (fun h₄ hn₄ hs₄ => ?_) rfl))
    refine assignInOrder_cons (wpAny_assign_Name (wpAny_storeName_local rfl hn₄ (fun h₅ hn₅ hs₅ => ?_) rfl))
    refine assignInOrder_nil ?_
    have k5 : ∀ b o, b ≠ LG → h₃.get? b = some o → h₅.get? b = some o := fun b o hb e => hs₅.extBut b o hb (hs₄.extBut b o hb e)
    have F₅ : Fr g LG h₅ (mG (some (.str x t)) (some (.int i tt)) (some (.bool esc)) (some (.str ⟨#[c]⟩ u))) := by
      refine ⟨?_, fun b o e => k5 b o (fun q => by rw [q, hLg] at e; cases e) (F₃.keep b o e), F.above⟩
      refine (show (fun y => if y = (Str.ofString "ch") then some (Value.str ⟨#[c]⟩ u) else if y = Str.ofString "pos" then some (.int i tt) else mG (some (.str x t)) (some (.int p tp)) (some (.bool esc)) cc y) = mG (some (.str x t)) (some (.int i tt)) (some (.bool esc)) (some (.str ⟨#[c]⟩ u)) from ?_) ▸ hn₅
      funext y
      by_cases hy1 : y = Str.ofString "ch"
      · subst hy1; rfl
      · by_cases hy2 : y = Str.ofString "pos"
        · subst hy2; rfl
        · simp only [hy1, hy2, mG, if_false]
    have hen₅ : ∃ old, IsEnum h₅ EN IT ((i + 1 : Nat) : Int) old := by
      obtain ⟨old, e⟩ := hst₂.1
      refine ⟨old, ?_⟩
      have e3 := he₃ _ _ (Nat.ne_of_lt (Heap.lt_size e)) e
      exact k5 _ _ (Ne.symm n1) e3
    have hit₅ : h₅.IsStrIter IT (strIterType x) x t (i + 1) := by
      obtain ⟨o, ho, r⟩ := hst₂.2
      exact ⟨o, k5 _ _ (Ne.symm n2) (he₃ _ _ (Nat.ne_of_lt (Heap.lt_size ho)) ho), r⟩
    have hsi₅ : GS2 LG lim s₀ { s with heap := h₅, toks := tk₁ + 1 + 1 } := hsi.step fun b o h1 h2 e => k5 b o h1 (kk b o (lo b h2) e)
    have N₅ : News g LG h₅ [] := fun p hp => nomatch hp
    clear F F₃ hn₅ hn₄ hs₅ hs₄
    obtain ⟨pre, hO⟩ := hO
    -- how a turn goes on
    have go : ∀ (esc' : Bool) (s₁ s₂ : Shared) (p : Int) (tp : Tok) (cc : Option Value), (∃ pre, O = pre ++ outsL rem esc') → Fr g LG s₂.heap (mG (some (.str x t)) (some (.int p tp)) (some (.bool esc')) cc) → (∀ b ∈ [EN, IT], ∀ o, h₅.get? b = some o → s₂.heap.get? b = some o) → GS2 LG lim s₁ s₂ →
        Seg (model PR w) A (gR LG lim) (gY LG lim mu O) (outsL rem esc').length s₁
        (.forLoop (tgE q1 q2 q3) (.ref EN) [stB (stY1 a1 a2 a3 a4 a5 a6 a7) (stE false b1 b2 b3) (stC (stE true c1 c2 c3) (stY2 d1 d2 d3 d4 d5) e1 e2 e3 e4) f1 f2] [] (gEnv LG f cd))
        (.pure (.again (.forLoop (tgE q1 q2 q3) (.ref EN) [stB (stY1 a1 a2 a3 a4 a5 a6 a7) (stE false b1 b2 b3) (stC (stE true c1 c2 c3) (stY2 d1 d2 d3 d4 d5) e1 e2 e3 e4) f1 f2] [] (gEnv LG f cd)))) fs s₂ := by
      intro esc' s₁ s₂ p tp cc hO' F' hk' hs'
      refine seg_again rfl (ih (i + 1) esc' s₁ s₂ hlt hd' hO' ⟨⟨p, tp, cc, F'⟩, ?_, ?_⟩ hs')
      · obtain ⟨old, e⟩ := hen₅
        exact ⟨old, hk' EN (by simp) _ e⟩
      · obtain ⟨o, ho, r⟩ := hit₅
        exact ⟨o, hk' IT (by simp) _ ho, r⟩
    cases esc with
    | true =>
      refine seg_execs_cons (seg_If ?_)
      w_strict k_steps
      rw [if_pos rfl]
      refine seg_execs_cons ?_
      show Seg _ _ _ _ ((outsL rem false).length + 1) _ _ _ _ _
      refine seg_yield_next hfs rfl hfg ?_ rfl rfl
      w_strict k_steps
      rename_i kap hkap
      have up : ∀ {o b o'}, h₅.get? b = some o' → (h₅.push o).get? b = some o' := fun e => Heap.get?_push_of_some _ e
      refine ⟨(exI5 _ _ _ _ _ ⟨c, rfl, Heap.get?_push_size _ rfl, ?_, .inr ?_⟩), hsi₅.step fun b o _ _ e => up e, fun s'' hK => hkap .none s'' ?_⟩
      · rw [hO]; simp [outsL]
      · exact esc_cat c
      · have hk : ∀ b ∈ [LG, EN, IT], ∀ o, h₅.get? b = some o → s''.heap.get? b = some o := fun b hb o e => hK b o (m1 b hb) (up e)
        have hg : ∀ b o, g.get? b = some o → s''.heap.get? b = some o := fun b o e => hK b o (m2 b o e) (up (F₅.keep b o e))
        dsimp only
        refine seg_execs_cons (seg_stmt (st_esc (F := ⟨F₅.ns.at' fun o e => hk _ (by simp) o e, hg, F₅.above⟩) fun h₆ F₆ k₆ _ => ?_))
        dsimp only
        refine seg_execs_nil0 ?_
        dsimp only
        refine seg_execs_nil0 ?_
        refine go false s'' _ _ _ _ ⟨pre ++ [c], by rw [hO]; simp [outsL]⟩ F₆ (fun b hb o e => k₆ b o (by rcases List.mem_cons.mp hb with rfl | hb; exact Ne.symm n1; rw [List.mem_singleton.mp hb]; exact Ne.symm n2) (hk b (List.mem_cons_of_mem _ hb) o e)) ⟨h₆, _, rfl, fun b o h1 _ e => k₆ b o h1 e⟩
    | false =>
      refine seg_execs_cons (seg_If ?_)
      w_strict k_steps
      rw [if_neg Bool.false_ne_true]
      refine seg_execs_cons (seg_If ?_)
      w_strict k_steps
      by_cases h92 : c = 92
      · rw [if_pos (by rw [is92]; exact decide_eq_true h92)]
        have eo : outsL (c :: rem) false = outsL rem true := by show (if c = 92 then _ else _) = _; rw [if_pos h92]
        rw [eo] at hO ⊢
        refine seg_execs_cons (seg_stmt (st_esc (F := F₅) fun h₆ F₆ k₆ _ => ?_))
        dsimp only
        refine seg_execs_nil0 ?_
        dsimp only
        refine seg_execs_nil0 ?_
        dsimp only
        refine seg_execs_nil0 ?_
        exact go true _ _ _ _ _ ⟨pre, hO⟩ F₆ (fun b hb o e => k₆ b o (by rcases List.mem_cons.mp hb with rfl | hb; exact Ne.symm n1; rw [List.mem_singleton.mp hb]; exact Ne.symm n2) e) (hsi₅.step fun b o h1 _ e => k₆ b o h1 e)
      · rw [if_neg (by rw [is92]; simp [h92])]
        have eo : outsL (c :: rem) false = c :: outsL rem false := by show (if c = 92 then _ else _) = _; rw [if_neg h92]
        rw [eo] at hO ⊢
        refine seg_execs_cons ?_
        show Seg _ _ _ _ ((outsL rem false).length + 1) _ _ _ _ _
        refine seg_yield_next hfs rfl hfg ?_ rfl rfl
        w_strict k_steps
        rename_i kap hkap
        have up : ∀ {o b o'}, h₅.get? b = some o' → (h₅.push o).get? b = some o' := fun e => Heap.get?_push_of_some _ e
        refine ⟨(exI5 _ _ _ _ _ ⟨c, rfl, Heap.get?_push_size _ rfl, ?_, .inl rfl⟩), hsi₅.step fun b o _ _ e => up e, fun s'' hK => hkap .none s'' ?_⟩
        · rw [hO]; simp
        · have hk : ∀ b ∈ [LG, EN, IT], ∀ o, h₅.get? b = some o → s''.heap.get? b = some o := fun b hb o e => hK b o (m1 b hb) (up e)
          have hg : ∀ b o, g.get? b = some o → s''.heap.get? b = some o := fun b o e => hK b o (m2 b o e) (up (F₅.keep b o e))
          dsimp only
          refine seg_execs_nil0 ?_
          dsimp only
          refine seg_execs_nil0 ?_
          dsimp only
          refine seg_execs_nil0 ?_
          exact go false s'' s'' _ _ _ ⟨pre ++ [c], by rw [hO]; simp⟩ ⟨F₅.ns.at' fun o e => hk _ (by simp) o e, hg, F₅.above⟩ (fun b hb o e => hk b (List.mem_cons_of_mem _ hb) o e) (GS2.refl _ _ _)
end
end Mine
end
section
open PySem PySem.W PySem.Calls PyProof.Rows PySem.Builtin
set_option Elab.async false
set_option maxRecDepth 100000
set_option maxHeartbeats 8000000
set_option pp.deepTerms false
set_option pp.deepTerms.threshold 6
set_option pp.maxSteps 3000
set_option pp.proofs false
namespace Mine
theorem rows_GNC_1 : True := by
  k_with_none
  w_top off
  k_with "newTuple" => (refine wpAny_newTuple ?_)
  k_with "execs cons" => ((with_reducible refine wpAny_execs_cons ?_); (try dsimp only); (try (refine tk_any ?_; intro _)); (try k_fold))
  trivial
section
variable {w : World} {A : Around} {mean : ExcName → Option Value} {mg mb : Str → Option Value} {g : Heap} {LG f lim : Addr} {mu : List Addr} {cd : Value} {x : Str} {t : Tok} {O : List Nat}
theorem st_pos {E : Value → Shared → Prop} {s : Shared} {Q : Flow → Shared → Prop} {a p e c : Option Value} {p1 p2 p3 : Pos} (F : Fr g LG s.heap (mG a p e c))
    (h : ∀ h' tk tk', Fr g LG h' (mG a (some (.int 0 tk)) e c) → (∀ b o, b ≠ LG → s.heap.get? b = some o → h'.get? b = some o) → h'.objs.size = s.heap.objs.size → Q .next { s with heap := h', toks := tk' }) :
    wpAny (model PR w) A (exec (.Assign [.Name "pos" p1] (.Constant (.int 0) 0 p2) p3) (gEnv LG f cd)) Q E s := by
  rw [exec_Assign_Name _ _ _ _ _ rfl]
  refine wpAny_bind (wpAny_standAt (wpAny_bind ?_))
  refine wpAny_Constant_int ?_
  refine wpAny_bind (wpAny_standAt (wpAny_bind (wpAny_bindName (wpAny_storeName_local rfl F.ns (fun h₄ hn₄ hs₄ => ?_) rfl))))
  refine wpAny_pure (h h₄ s.toks _ ⟨?_, fun b o e => hs₄.extBut b o (fun q => by have q' : b = LG := q; rw [q', Heap.get?_none_of_le F.above] at e; cases e) (F.keep b o e), F.above⟩ (fun b o hb e => hs₄.extBut b o hb e) hs₄.1)
  refine (show (fun y => if y = (Str.ofString "pos") then some (Value.int 0 s.toks) else mG a p e c y) = mG a (some (.int 0 s.toks)) e c from ?_) ▸ hn₄
  funext y
  by_cases hy1 : y = Str.ofString "pos"
  · subst hy1; rfl
  · simp only [hy1, mG, if_false]
noncomputable abbrev frF (K : Flow → Sem Fin) (H : Value → Sem Fin) (c : Code) (p : Pos) (fr : Option Addr) : Frame :=
  .ret (fun r => ((match r with | .ok f => (.pure f : Sem Flow) | .error e => .raise e).onRaise fun (x : Value) => do
        if (← field x 1) == Value.none then unsupported "frame.own-activation:exception-without-traceback"
        setFlight x fr).wrap K H id id) none (id false) (id []) c p []
theorem gen_after {c : Code} {pp : Pos} {a1 a2 a3 a4 a5 b1 b2 : Pos} {H0 : Value → Sem Fin} (hmu : LG ∉ mu) (m2 : ∀ b o, g.get? b = some o → b ∉ mu) :
    ∀ esc s₀ s, (∃ p tp cc, Fr g LG s.heap (mG (some (.str x t)) (some (.int p tp)) (some (.bool esc)) cc)) → GS2 LG lim s₀ s → (∃ pre, O = pre ++ outsL [] esc) →
      Seg (model PR w) A (gR LG lim) (gY LG lim mu O) (outsL [] esc).length s₀ (.block [] (gEnv LG f cd)) (leafOf (.ok .next))
        [frF (fun f_1 => match f_1 with | .next => (execs [Stmt.If (.Name "escape" b1) [stY3 a1 a2 a3 a4 a5] [] b2] (gEnv LG f cd)).wrap (fun f => .pure (.done (.ret (match f with | .ret v => v | _ => .none)))) H0 id id | f => .pure (.done (.ret (match f with | .ret v => v | _ => .none)))) H0 c pp (some LG)] s := by
  rintro esc s₀ s ⟨p, tp, cc, F⟩ hs ⟨pre, hO⟩
  refine seg_leaf (.ok .next) ?_
  show Seg _ _ _ _ _ _ _ ((execs _ _).wrap _ _ _ _) _ _
  have N : News g LG s.heap [] := fun p hp => nomatch hp
  cases esc with
  | true =>
    refine seg_execs_cons (seg_If ?_)
    w_strict k_steps
    rw [if_pos rfl]
    refine seg_execs_cons ?_
    show Seg _ _ _ _ (0 + 1) _ _ _ _ _
    refine seg_yield_next rfl rfl rfl ?_ rfl rfl
    w_strict k_steps
    rename_i kap hkap
    have up : ∀ {o b o'}, s.heap.get? b = some o' → (s.heap.push o).get? b = some o' := fun e => Heap.get?_push_of_some _ e
    refine ⟨(exI5 _ _ _ _ _ ⟨92, rfl, Heap.get?_push_size _ rfl, ?_, .inl bs_codes⟩), hs.step fun b o _ _ e => up e, fun s'' hK => hkap .none s'' ?_⟩
    · rw [hO]; simp [outsL]
    · dsimp only
      refine seg_execs_nil0 ?_
      dsimp only
      refine seg_execs_nil0 ?_
      dsimp only
      exact seg_end (.ok (.ret .none)) ⟨rfl, rfl, GS2.refl _ _ _⟩
  | false =>
    refine seg_execs_cons (seg_If ?_)
    w_strict k_steps
    rw [if_neg Bool.false_ne_true]
    refine seg_execs_nil0 ?_
    dsimp only
    refine seg_execs_nil0 ?_
    dsimp only
    exact seg_end (.ok (.ret .none)) ⟨rfl, rfl, hs⟩
theorem rows_GNC_2 : True := by
  k_with "call type:enumerate" => ((refine call_enumerate_str ?_); intro _ _ _ _ _)
  k_with "pyIter ref" => (refine wpAny_pyIter_enum (by assumption) ?_)
  trivial
theorem gen_func {q1 q2 q3 a1 a2 a3 a4 a5 a6 a7 b1 b2 b3 c1 c2 c3 d1 d2 d3 d4 d5 e1 e2 e3 e4 f1 f2 p1 p2 p3 p4 p5 p6 r1 r2 r3 r4 i1 i2 j1 j2 j3 j4 j5 : Pos} (T : Top VW LS mean mg mb g) (X : (hd.heap_1 w.params).In g) (hh : A.handled = none) (hx : x.length ≤ 1000)
    (s : Shared) (F₀ : Fr g LG s.heap (fun y => List.lookup y [(Str.ofString "addr", Value.str x t)].reverse)) (hmu : LG ∉ mu) (m2 : ∀ b o, g.get? b = some o → b ∉ mu) (hlim : @LE.le Nat _ lim s.heap.objs.size) (mlim : ∀ b ∈ mu, @LT.lt Nat _ b lim) :
    Seg (model PR w) A (gR LG lim) (gY LG lim mu (outsL x.cps.toList false)) (outsL x.cps.toList false).length s
      (.func [.Assign [.Name "pos" p1] (.Constant (.int 0) 0 p2) p3, stE false p4 p5 p6, .For (tgE q1 q2 q3) (.Call (.Name "enumerate" r1) [.Name "addr" r2] [] r3) [stB (stY1 a1 a2 a3 a4 a5 a6 a7) (stE false b1 b2 b3) (stC (stE true c1 c2 c3) (stY2 d1 d2 d3 d4 d5) e1 e2 e3 e4) f1 f2] [] r4, .If (.Name "escape" i1) [stY3 j1 j2 j3 j4 j5] [] i2] (gEnv LG f cd))
      ((model PR w).den (.func [.Assign [.Name "pos" p1] (.Constant (.int 0) 0 p2) p3, stE false p4 p5 p6, .For (tgE q1 q2 q3) (.Call (.Name "enumerate" r1) [.Name "addr" r2] [] r3) [stB (stY1 a1 a2 a3 a4 a5 a6 a7) (stE false b1 b2 b3) (stC (stE true c1 c2 c3) (stY2 d1 d2 d3 d4 d5) e1 e2 e3 e4) f1 f2] [] r4, .If (.Name "escape" i1) [stY3 j1 j2 j3 j4 j5] [] i2] (gEnv LG f cd))) [] s := by
  have F₁ : Fr g LG s.heap (mG (some (.str x t)) none none none) := by
    refine (show (fun y => List.lookup y [(Str.ofString "addr", Value.str x t)].reverse) = mG (some (.str x t)) none none none from ?_) ▸ F₀
    funext y
    by_cases h1 : y = Str.ofString "addr"
    · subst h1; rfl
    · have : List.lookup y [(Str.ofString "addr", Value.str x t)].reverse = none := by
        show (match y == Str.ofString "addr" with | true => some (Value.str x t) | false => none) = none
        rw [beq_false_of_ne h1]
      rw [this]
      show none = (if y = _ then none else if y = _ then none else if y = _ then none else if y = _ then some (Value.str x t) else none)
      simp only [h1, if_false, ite_self]
  clear F₀
  revert X
  delta PR; k_fill
  intro X
  refine seg_func ?_
  refine seg_execs_cons (seg_stmt (st_pos (F := F₁) fun h₂ tk tk' F₂ k₂ z₂ => ?_))
  dsimp only
  refine seg_execs_cons (seg_stmt (st_esc (F := F₂) fun h₃ F₃ k₃ z₃ => ?_))
  dsimp only at F₃ k₃ z₃ ⊢
  have N₃ : News g LG h₃ [] := fun p hp => nomatch hp
  clear F₂ F₁
  refine seg_execs_cons (seg_For (fun _ => rfl) ?_)
  w_strict k_steps
  rename_i h' hen hit hsz hk pp
  have hlim' : @LE.le Nat _ lim h₃.objs.size := by rw [z₃, z₂]; exact hlim
  have zz : ∀ b, @LE.le Nat _ h₃.objs.size b → g.get? b = none := fun b hb => by
    cases e : g.get? b with
    | none => rfl
    | some o => exact absurd (Heap.lt_size (F₃.keep _ _ e)) (Nat.not_lt.mpr hb)
  have hL : @LT.lt Nat _ LG h₃.objs.size := F₃.ns.lt
  refine gen_loop T X (Nat.ne_of_lt (Nat.lt_succ_of_lt hL)) (Nat.ne_of_lt hL) (Nat.succ_ne_self _) (zz _ (Nat.le_succ _)) (zz _ (Nat.le_refl _)) (Nat.le_succ_of_le hlim') hlim' ?_ m2 (fun c => by cases c <;> exact hh) rfl rfl hx (gen_after hmu m2) x.cps.toList 0 false s _ (Nat.zero_le _) rfl ⟨[], rfl⟩ ⟨⟨_, _, _, F₃.keeps hk⟩, ⟨_, hen⟩, hit⟩ ?_
  · intro b hb hm
    have hl := mlim b hm
    rcases List.mem_cons.mp hb with rfl | hb
    · exact hmu hm
    · rcases List.mem_cons.mp hb with rfl | hb
      · exact Nat.lt_irrefl _ (Nat.lt_of_lt_of_le hl (Nat.le_succ_of_le hlim'))
      · rw [List.mem_singleton.mp hb] at hl
        exact Nat.lt_irrefl _ (Nat.lt_of_lt_of_le hl hlim')
  · exact ⟨h', _, rfl, fun b o h1 h2 e => hk b o (k₃ b o h1 (k₂ b o h1 e))⟩
end
end Mine
end
section
open PySem PySem.W PySem.Calls PyProof.Rows PySem.Builtin PyProof.Rows.LCg
set_option Elab.async false
set_option maxRecDepth 100000
set_option maxHeartbeats 4000000
namespace Mine
/-! a list comprehension over a generator that gives pairs -/
noncomputable def GenNew (w : World) (A : Around) (LG : Addr) (O : List Nat) (a gi : Nat) (s₁ : Shared) : Prop :=
  ∃ c, s₁.heap.IsGen a gi ∧ s₁.gens[gi]? = some (.fresh c) ∧ @LT.lt Nat _ LG s₁.heap.objs.size ∧ @LT.lt Nat _ a s₁.heap.objs.size ∧ a ≠ LG ∧
    ∀ (lim : Addr) (mu : List Addr) (s' : Shared), (∀ b o, s₁.heap.get? b = some o → s'.heap.get? b = some o) → @LE.le Nat _ lim s'.heap.objs.size → (∀ b ∈ mu, @LT.lt Nat _ b lim) → (∀ b ∈ mu, @LE.le Nat _ s₁.heap.objs.size b) →
      Seg (model PR w) A.in1 (gR LG lim) (gY LG lim mu O) O.length s' c ((model PR w).den c) [] s'
theorem step4 {N j jj : Nat} (hj : j ≤ N) (e : N - j = jj + 1) : N - 1 - (jj + 1 - 1) = j ∧ N + 1 - (j + 1) < N + 1 - j ∧ j + 1 ≤ N ∧ N - (j + 1) = jj := by
  have e' : N = j + (jj + 1) := by rw [← e, Nat.add_sub_cancel' hj]
  subst e'
  refine ⟨?_, Nat.sub_lt_sub_left (Nat.lt_succ_of_le (Nat.le_add_right _ _)) (Nat.lt_succ_self j), Nat.add_le_add_left (Nat.le_add_left 1 jj) j, ?_⟩
  · show j + jj - jj = j
    exact Nat.add_sub_cancel ..
  · exact Nat.add_sub_add_left j (jj + 1) 1
theorem letOwned_gen {prog : Program} {w : World} {A : Around} {E : Value → Shared → Prop} {s : Shared} {elts : List PySem.Expr} {x1} {pos : Pos} {a T : Addr} {g : Nat} {Q : Unit → Shared → Prop} (hg : s.heap.IsGen a g) (hQ : Q () s) :
    wpAny (model prog w) A (letOwnedTupleGo (.Tuple elts x1 pos) (.ref a) (.ref T)) Q E s := by
  obtain ⟨o, nm, qn, ho, hc, hd, hs⟩ := hg
  show wpAny _ A (do let o ← load a; _) _ _ s
  refine wpAny_bind (wpAny_load ho ?_)
  rw [hc, hd]
  exact wpAny_pure hQ
theorem strsAre_snoc' {ys : List Value} {l : List Nat} {c : Nat} {t : Tok} (h : StrsAre ys (l.map fun c => (⟨#[c]⟩ : Str))) : StrsAre (ys ++ [.str ⟨#[c]⟩ t]) ((l ++ [c]).map fun c => (⟨#[c]⟩ : Str)) := by
  rw [List.map_append]
  exact StrsAre.snoc h _ t
section
variable {w : World} {A : Around} {E : Value → Shared → Prop} {s : Shared} {h₀ : Heap} {L : Addr} {m : Str → Option Value} {env : Env} {Q : Value → Shared → Prop} {O : List Nat}
theorem comp_gen {elt iter : PySem.Expr} {x x₂ : Str} {px px₂ tp pos : Pos} {kt : Nat} {scope : Scope} {cl : List (Str × Addr)} (hroom : A.depth < recursionLimit) (hh : A.handled = none) (hl : h₀.NoLimit) (F₀ : Fr h₀ L s.heap m)
    (hclos : closureFor scope env = pure cl) (hcell : ∀ y ∈ scope.names, y.2 ≠ .cell) (hkind : scope.kind = .function)
    (hnames : ∀ y ∈ scope.names, y.2 = .local → scope.names.lookup y.1 = some .local) (hx : scope.names.lookup x = some .local) (hx₂ : scope.names.lookup x₂ = some .local) (hxx : x ≠ x₂) (hO : O.length ≤ 1000)
    (h : wpAny (model PR w) A (PySem.eval iter env) (fun v s₁ => ∃ LG a gi h₁ tk₁ gs₁, v = .ref a ∧ s₁ = { s with heap := h₁, toks := tk₁, gens := gs₁ } ∧ GenNew w A LG O a gi s₁ ∧ (∀ b o, s.heap.get? b = some o → h₁.get? b = some o) ∧ s.heap.get? LG = none ∧ s.heap.get? a = none ∧ @LE.le Nat _ s.heap.objs.size h₁.objs.size ∧ AllBare gs₁) E s)
    (helt : ∀ (C : Addr) (s' : Shared) m₂ (u : Str) (tu : Tok) (c : Nat) (Q' E' : Value → Shared → Prop), Fr h₀ L s'.heap m → s.heap.get? C = none → s'.heap.Ns C m₂ → m₂ x₂ = some (.str u tu) → (u = ⟨#[c]⟩ ∨ u = ⟨#[92, c]⟩) → (∀ t tk, Q' (.str ⟨#[c]⟩ t) { s' with toks := tk }) →
      wpAny (model PR w) A (PySem.eval elt (compEnvC scope cl C env)) Q' E' s')
    (hQ : ∀ D h' tk gs ys, (∀ b o, s.heap.get? b = some o → h'.get? b = some o) → h'.get? D = some (lst ys) → s.heap.get? D = none → StrsAre ys (O.map fun c => (⟨#[c]⟩ : Str)) → AllBare gs → Q (.ref D) { s with heap := h', toks := tk, gens := gs })
    (hs : ∀ x, foldedSetIterable iter env x = pure x) :
    wpAny (model PR w) A (PySem.eval (.ListComp elt [⟨.Tuple [.Name x px, .Name x₂ px₂] kt tp, iter, [], 0⟩] scope pos) env) Q E s := by
  rw [eval_ListComp]
  refine wpAny_comprehension_free (use := none) rfl hs hclos hkind hnames (wpAny_mono h (fun xv s₁ h₁ => ?_) fun _ _ e => e)
  refine exE6 h₁ fun LG a gi h₉ tk₁ gs₁ q => andE8 q fun ev es G up₁ hLG0 ha0 hsz₁ hB => Exists.elim G fun c G2 => andE6 G2 fun hgen hfr hLG ha haL hseg => ?_
  clear q G2 G h h₁
  rename Heap => h₁
  subst ev
  subst es
  refine wpAny_pyIter_gen hgen ?_
  refine wpAny_newObj_type (wpAny_newFunctionEnv hcell (by intro y hy; simp at hy) (fun h₂ hns₂ hsb₂ => ?_) hkind)
  dsimp only at hns₂ hsb₂ hgen hfr hLG ha hseg ⊢
  generalize hH2 : h₁.push { cls := .type "list", dict := none, data := .seq ([] : List Value).toArray } = H2 at hns₂ hsb₂ ⊢
  have hC : H2.objs.size = h₁.objs.size + 1 := by rw [← hH2, Heap.size_push]
  generalize hCg : H2.objs.size = C at *
  generalize hDe : h₁.objs.size = D at *
  have hDC : @Ne Nat D C := by rw [hC]; exact Nat.ne_of_lt (Nat.lt_succ_self _)
  have below : ∀ b o, h₁.get? b = some o → @Ne Nat b C ∧ @Ne Nat b D := fun b o e => by
    have hlt := Heap.lt_size e
    rw [hDe] at hlt
    exact ⟨by rw [hC]; exact Nat.ne_of_lt (Nat.lt_succ_of_lt hlt), Nat.ne_of_lt hlt⟩
  have old : ∀ b o, h₁.get? b = some o → h₂.get? b = some o := fun b o e => hsb₂.extBut b o (below b o e).1 (Heap.get?_push_of_some _ (hH2 ▸ Heap.get?_push_of_some _ e))
  have hacc : h₂.get? D = some (lst []) := hsb₂.extBut _ _ hDC (Heap.get?_push_of_some _ (by rw [← hDe, ← hH2]; exact Heap.get?_push_size _ rfl))
  have hz₂ : h₂.objs.size = C + 1 := by rw [hsb₂.1, Heap.size_push, hCg]
  -- what stands
  have hL0 : ∃ o, s.heap.get? L = some o := let ⟨o, _, _, ho, _⟩ := F₀.ns; ⟨o, ho⟩
  obtain ⟨oL, hoL⟩ := hL0
  have notC : ∀ b o, s.heap.get? b = some o → @Ne Nat b C ∧ @Ne Nat b D ∧ b ≠ LG := fun b o e => ⟨(below b o (up₁ b o e)).1, (below b o (up₁ b o e)).2, fun q => by rw [q, hLG0] at e; cases e⟩
  have hLC : @Ne Nat LG C := by rw [hC]; exact Nat.ne_of_lt (Nat.lt_succ_of_lt hLG)
  have hLD : @Ne Nat LG D := Nat.ne_of_lt hLG
  have haC : @Ne Nat a C := by rw [hC]; exact Nat.ne_of_lt (Nat.lt_succ_of_lt ha)
  have haD : @Ne Nat a D := Nat.ne_of_lt ha
  have hD0 : s.heap.get? D = none := by
    cases e : s.heap.get? D with
    | none => rfl
    | some o => exact absurd rfl (notC D o e).2.1
  have hC0 : s.heap.get? C = none := by
    cases e : s.heap.get? C with
    | none => rfl
    | some o => exact absurd rfl (notC C o e).1
  have lim1 : ∀ b o, s.heap.get? b = some o → @LT.lt Nat _ b (C + 1) := fun b o e => by
    have := Heap.lt_size (up₁ b o e)
    rw [hDe] at this
    rw [hC]
    exact Nat.lt_succ_of_lt (Nat.lt_succ_of_lt this)
  have fr : ∀ h', (∀ b o, s.heap.get? b = some o → h'.get? b = some o) → Fr h₀ L h' m := fun h' k => F₀.keeps k
  have loop : ∀ s₃ : Shared, s₃ = { s with heap := h₂, toks := tk₁ + ([] : List (Str × Value)).length, gens := gs₁ } →
      codeAny (model PR w) A (.compLoop (.ListComp elt [⟨.Tuple [.Name x px, .Name x₂ px₂] kt tp, iter, [], 0⟩] scope pos) 0 (.ref a) (.ref D) (compEnvC scope cl C env))
        (compPost (model PR w) A E none Q (.ref D) C) s₃ := by
    rintro s₃ rfl
    refine LCp.codeAny_compLoop_pair
      (fun k s' => ∃ h' tk gs gst j ys m', s' = { s with heap := h', toks := tk, gens := gs } ∧ j ≤ O.length ∧ k = O.length + 1 - j ∧ ys.length = j ∧ StrsAre ys ((O.take j).map fun c => (⟨#[c]⟩ : Str)) ∧ GenOnly gi gs₁ gs ∧ gs[gi]? = some gst ∧ h'.IsGen a gi ∧
        (∀ b o, s.heap.get? b = some o → h'.get? b = some o) ∧ h'.get? D = some (lst ys) ∧ h'.Ns C m' ∧
        (∀ s'' : Shared, (∀ b o, b ∉ [C, D] → h'.get? b = some o → s''.heap.get? b = some o) → @LE.le Nat _ h'.objs.size s''.heap.objs.size → gst.Goes (model PR w) A.in1 (gR LG (C + 1)) (gY LG (C + 1) [C, D] O) (O.length - j) (.send .none) s'')) ?_ (O.length + 1)
      ⟨h₂, _, gs₁, .fresh c, 0, [], _, rfl, Nat.zero_le _, rfl, rfl, .nil, ⟨rfl, fun _ _ => rfl⟩, hfr, hgen.keeps old, fun b o e => old b o (up₁ b o e), hacc, hns₂, fun s'' k hz => ⟨rfl, ?_⟩⟩
    · intro k s' hI
      refine exE7 hI fun h' tk gs gst j ys m' hI2 => andE12 hI2 fun es hj ek hyl hys hgo hgst hgen' up' hD' hns' hgoes => ?_
      clear hI hI2
      subst es
      have F' := fr h' up'
      refine wpAny_pyNext_gen (P := fun n s₀ s₁ => n = 0 ∧ GS2 LG (C + 1) s₀ s₁) hh (hl.keeps F'.keep) hroom hgen' hgst (hgoes _ (fun b o _ e => e) (Nat.le_refl _)) ?_ ?_
      · intro v s₂ gs' q
        refine andE3 q fun q1 q2 hkap => exE6 q1 fun T p tp' u tu cc q3 => andE4 q3 fun ev hT hOc hu => exE2 q2 fun h₃ tk₃ q4 => andE2 q4 fun es k₃ => ?_
        clear q q1 q2 q3 q4
        subst ev
        subst es
        obtain ⟨jj, hjj⟩ : ∃ jj, O.length - j = jj + 1 := by
          cases hz : O.length - j with
          | zero =>
            exfalso
            have := hkap _ (fun b o _ e => e)
            rw [hz] at this
            exact this
          | succ jj => exact ⟨jj, rfl⟩
        rw [hjj] at hkap hOc
        have st4 := step4 hj hjj
        have hOj : O[j]? = some cc := by
          have : O.length - 1 - (jj + 1 - 1) = j := (step4 hj hjj).1
          rwa [this] at hOc
        dsimp only [Shared.setGen] at hT k₃ hkap
        have kC : ∀ {b o}, h'.get? b = some o → b ≠ LG → @LT.lt Nat _ b (C + 1) → h₃.get? b = some o := fun e hb hlt => k₃ _ _ hb hlt e
        have up₃ : ∀ b o, s.heap.get? b = some o → h₃.get? b = some o := fun b o e => kC (up' b o e) (notC b o e).2.2 (lim1 b o e)
        have hgen₃ : h₃.IsGen a gi := by
          obtain ⟨o, nm, qn, ho, r⟩ := hgen'
          refine ⟨o, nm, qn, kC ho haL ?_, r⟩
          rw [hC]
          exact Nat.lt_succ_of_lt (Nat.lt_succ_of_lt ha)
        have hD₃ : h₃.get? D = some (lst ys) := kC hD' (Ne.symm hLD) (by rw [hC]; exact Nat.lt_succ_of_lt (Nat.lt_succ_self _))
        have hns₃ : h₃.Ns C m' := hns'.at' fun o e => kC e (Ne.symm hLC) (Nat.lt_succ_self _)
        refine letOwned_gen hgen₃ ?_
        refine assign_Tuple_tuple hh ⟨_, hT, rfl, _, rfl⟩ rfl rfl fun h₅ he => ?_
        have he' : ∀ b o, h₃.get? b = some o → h₅.get? b = some o := fun b o e => he b o (Nat.ne_of_lt (Heap.lt_size e)) e
        refine assignInOrder_cons (wpAny_assign_Name (wpAny_storeName_local (lookup_relabel_local hx) (hns₃.at' fun o e => he' _ o e) (fun h₆ hn₆ hs₆ => ?_) (by simp [compEnvC, relabel, hkind])))
        refine assignInOrder_cons (wpAny_assign_Name (wpAny_storeName_local (lookup_relabel_local hx₂) hn₆ (fun h₇ hn₇ hs₇ => ?_) (by simp [compEnvC, relabel, hkind])))
        refine assignInOrder_nil ?_
        have k₇ : ∀ b o, b ≠ C → h₃.get? b = some o → h₇.get? b = some o := fun b o hb e => hs₇.extBut b o hb (hs₆.extBut b o hb (he' b o e))
        have up₇ : ∀ b o, s.heap.get? b = some o → h₇.get? b = some o := fun b o e => k₇ b o (notC b o e).1 (up₃ b o e)
        refine helt C _ _ u tu cc _ _ (fr h₇ up₇) hC0 hn₇ (by simp) hu fun t tk₈ => ?_
        refine append_at (hsz := by show ys.toArray.size ≤ sizeLine; rw [List.size_toArray, hyl, PySem.sizeLine_eq]; omega) (k₇ D _ hDC hD₃) fun h₉ hs₉ hD₉ => ?_
        have k₉ : ∀ b o, b ≠ C → b ≠ D → h₃.get? b = some o → h₉.get? b = some o := fun b o hb hb' e => hs₉.extBut b o hb' (k₇ b o hb e)
        refine ⟨O.length + 1 - (j + 1), by rw [ek]; exact st4.2.1, exI7 h₉ tk₈ _ gs' (j + 1) (ys ++ [.str ⟨#[cc]⟩ t]) _ ⟨rfl, st4.2.2.1, rfl, by rw [List.length_append, List.length_singleton, hyl], ?_, ?_, ?_, ?_, ?_, ?_, hn₇.sameBut hs₉ (Ne.symm hDC), ?_⟩⟩
        · rw [List.take_add_one, hOj, Option.toList_some]
          exact strsAre_snoc' hys
        · refine ⟨?_, fun k hk => ?_⟩
          · simp only [Shared.setGen, Array.size_setIfInBounds]; exact hgo.1
          · simp only [Shared.setGen]
            rw [Array.getElem?_setIfInBounds_ne (Ne.symm hk), Array.getElem?_setIfInBounds_ne (Ne.symm hk)]
            exact hgo.2 k hk
        · have hlt : gi < gs.size := (Array.getElem?_eq_some_iff.mp hgst).1
          simp [Shared.setGen, hlt]
        · obtain ⟨o, nm, qn, ho, r⟩ := hgen₃
          exact ⟨o, nm, qn, k₉ _ _ haC haD ho, r⟩
        · exact fun b o e => k₉ b o (notC b o e).1 (notC b o e).2.1 (up₃ b o e)
        · exact hD₉.trans (congrArg some (lst_snoc ys _))
        · intro s'' kk _
          have := hkap s'' fun b o hb e => kk b o hb (k₉ b o (fun q => hb (by simp [q])) (fun q => hb (by simp [q])) e)
          rw [st4.2.2.2]
          exact this
      · rintro s₂ ⟨hn0, ⟨h₃, tk₃, rfl, k₃⟩⟩ h₄ up₄
        have hj' : j = O.length := Nat.le_antisymm hj (Nat.le_of_sub_eq_zero ‹_›)
        subst hj'
        dsimp only [Shared.setGen] at k₃ up₄
        rw [List.take_length] at hys
        have kC : ∀ {b o}, h'.get? b = some o → b ≠ LG → @LT.lt Nat _ b (C + 1) → h₄.get? b = some o := fun e hb hlt => up₄ _ _ (k₃ _ _ hb hlt e)
        have hns₄ : h₄.Ns C m' := hns'.at' fun o e => kC e (Ne.symm hLC) (Nat.lt_succ_self _)
        have hD₄ : h₄.get? D = some (lst ys) := kC hD' (Ne.symm hLD) (by rw [hC]; exact Nat.lt_succ_of_lt (Nat.lt_succ_self _))
        refine ⟨m', hns₄, fun h'' hs'' => ?_⟩
        refine hQ D h'' _ _ ys (fun b o e => hs''.extBut b o (notC b o e).1 (kC (up' b o e) (notC b o e).2.2 (lim1 b o e))) (hs''.extBut _ _ hDC hD₄) hD0 hys ?_
        intro y hy
        simp only [Shared.setGen] at hy
        obtain ⟨i, hi, rfl⟩ := Array.mem_iff_getElem.mp hy
        by_cases hig : i = gi
        · subst hig
          simp [GenState.bare]
        · have e1 : gs[i]? = gs₁[i]? := hgo.2 i hig
          have e2 : ((gs.setIfInBounds gi .running).setIfInBounds gi .finished)[i]? = gs₁[i]? := by
            rw [Array.getElem?_setIfInBounds_ne (Ne.symm hig), Array.getElem?_setIfInBounds_ne (Ne.symm hig)]
            exact e1
          rw [Array.getElem?_eq_getElem hi] at e2
          exact hB _ (Array.mem_of_getElem? e2.symm)
    · exact hseg (C + 1) [C, D] s'' (fun b o e => k b o (by simp only [List.mem_cons, List.not_mem_nil, or_false]; rintro (q | q); exact (below b o e).1 q; exact (below b o e).2 q) (old b o e)) (by rw [hz₂] at hz; exact hz) (by
        intro b hb
        simp only [List.mem_cons, List.not_mem_nil, or_false] at hb
        rcases hb with rfl | rfl
        · exact Nat.lt_succ_self _
        · rw [hC]; exact Nat.lt_succ_of_lt (Nat.lt_succ_self _)) (by
        intro b hb
        simp only [List.mem_cons, List.not_mem_nil, or_false] at hb
        rcases hb with rfl | rfl
        · rw [hC]; exact Nat.le_succ _
        · exact Nat.le_refl _)
  exact codeAny_compStart_list (loop _ rfl) (wpAny_pyIter_gen (hgen.keeps old) (loop _ rfl))
end
end Mine
end
section
open PySem PySem.W PySem.Calls PyProof.Rows PySem.Builtin
set_option Elab.async false
set_option maxRecDepth 100000
set_option maxHeartbeats 4000000
namespace Mine
section
variable {prog : Program} {w : World} {A : Around} {E : Value → Shared → Prop} {s : Shared} {h₀ : Heap} {L : Addr} {m : Str → Option Value}
/-- calling a generator function: its frame and its object are made -/
theorem call_gen {K : Frag} {R : Result → Shared → Prop} {name qual : Str} {params : Arguments} {body : List Stmt} {scope : Scope} {dV kV doc pm cdv ct oc : Value} {an od : Option Addr} {osl : Array (Option Value)} {f : Addr} {args : Args} {binds : List (Str × Value)}
    (F : Fr h₀ L s.heap m) (X₀ : K.In h₀) (hl : h₀.NoLimit) (ho : K.lookup f = some ⟨oc, od, .func (fnOf name qual params body scope dV kV doc pm an cdv ct), osl⟩) (hcd : codeIn K cdv qual = true) (hroom : A.depth < recursionLimit)
    (hbind : BindsTo s (fnOf name qual params body scope dV kV doc pm an cdv ct) args binds) (hloc : ∀ y ∈ binds, scope.names.lookup y.1 = some .local)
    (h : ∀ h₁ tk, Fr h₀ s.heap.objs.size h₁ (fun y => binds.reverse.lookup y) → (∀ b o, s.heap.get? b = some o → h₁.get? b = some o) → h₁.objs.size = s.heap.objs.size + 1 + 1 → h₁.IsGen (s.heap.objs.size + 1) s.gens.size →
      R (.ok (.ret (.ref (s.heap.objs.size + 1)))) { s with heap := h₁, toks := tk, gens := s.gens.push (.fresh (.func body (envOf qual scope s.heap.objs.size f cdv))) })
    (hco : scope.isCoroutine = false) (hgen : scope.isGenerator = true) (hk : scope.kind = .function)
    (hcell : ∀ x ∈ scope.names, x.2 ≠ .cell) : codeAny (model prog w) A (.call (.ref f) args) R s := by
  have X₁ := X₀.keeps F.keep
  refine codeAny_call_generator hroom (X₁ _ _ ho) rfl hco hgen rfl (codeRec_of X₁ hcd) (hbind _ _ _ _ (wpAny_newFunctionEnv hcell hloc (fun h' hns hs => ?_) hk))
  have k₁ : ∀ b o, s.heap.get? b = some o → h'.get? b = some o := fun b o e => hs.extBut b o (Nat.ne_of_lt (Heap.lt_size e)) (Heap.get?_push_of_some _ e)
  have hz : h'.objs.size = s.heap.objs.size + 1 := by rw [hs.1, Heap.size_push]
  refine ⟨hl.keeps fun b o e => k₁ b o (F.keep b o e), ?_⟩
  dsimp only
  rw [hz]
  refine h _ _ ⟨hns.push _, fun b o e => Heap.get?_push_of_some _ (k₁ b o (F.keep b o e)), ?_⟩ (fun b o e => Heap.get?_push_of_some _ (k₁ b o e)) (by rw [Heap.size_push, hz]) (exI3 _ _ _ ⟨by rw [← hz]; exact Heap.get?_push_size _ rfl, rfl, rfl, rfl⟩)
  exact Nat.le_of_lt (Nat.lt_of_le_of_lt F.above F.ns.lt)
end
section
variable {w : World} {A : Around} {s : Shared} {h₀ : Heap} {L : Addr} {m : Str → Option Value} {mean : ExcName → Option Value} {mg mb : Str → Option Value} {x : Str} {t : Tok}
theorem esc_call {E : Value → Shared → Prop} {Q : Value → Shared → Prop} (F : Fr h₀ L s.heap m) (X : (hd.heap_1 w.params).In h₀) (T : Top VW LS mean mg mb h₀) (G : AllBare s.gens) (hroom : A.depth < recursionLimit) (hh : A.handled = none) (hx : x.length ≤ 1000)
    (h : ∀ LG a gi h₁ tk₁ gs₁, GenNew w A LG (escL x.cps.toList) a gi { s with heap := h₁, toks := tk₁, gens := gs₁ } → (∀ b o, s.heap.get? b = some o → h₁.get? b = some o) → s.heap.get? LG = none → s.heap.get? a = none → @LE.le Nat _ s.heap.objs.size h₁.objs.size → AllBare gs₁ →
      Q (.ref a) { s with heap := h₁, toks := tk₁, gens := gs₁ }) : wpAny (model PR w) A (call (.ref 45) [.str x t]) Q E s := by
  revert X
  delta PR; k_fill
  intro X
  refine wpAny_call ?_
  refine' call_gen (K := hd.heap_1 w.params) (scope := gScope) F X T.nolimit ?k6 ?k7 hroom ?k9 ?kB ?_ ?c2 ?c3 ?c4 ?c5
  (case k6 => k_is)
  (case k7 => k_is)
  (case k9 => exact BindsTo.of_eq rfl)
  (case c5 => decide)
  (case kB => exact locs rfl)
  (case c2 => exact rfl)
  (case c3 => exact rfl)
  (case c4 => exact rfl)
  intro h₁ tk F₁ up hz hgen
  have nz : ∀ b, @LE.le Nat _ s.heap.objs.size b → s.heap.get? b = none := fun b hb => by
    cases e : s.heap.get? b with
    | none => rfl
    | some o => exact absurd (Heap.lt_size e) (Nat.not_lt.mpr hb)
  refine h s.heap.objs.size (s.heap.objs.size + 1) s.gens.size h₁ tk _ ⟨_, hgen, Array.getElem?_push_size, by show _ < h₁.objs.size; rw [hz]; exact Nat.lt_succ_of_lt (Nat.lt_succ_self _), by show _ < h₁.objs.size; rw [hz]; exact Nat.lt_succ_self _, Nat.succ_ne_self _, ?_⟩ up (nz _ (Nat.le_refl _)) (nz _ (Nat.le_succ _)) (by rw [hz]; exact Nat.le_succ_of_le (Nat.le_succ _)) ?_
  · intro lim mu s' k hlim m1 m2
    dsimp only at k m2
    have e := outs_esc x.cps.toList
    rw [← e]
    have F' : Fr h₀ s.heap.objs.size s'.heap _ := F₁.keeps k
    refine gen_func (A := A.in1) T X hh hx s' F' (fun hm => ?_) (fun b o e hm => ?_) hlim m1
    · have := m2 _ hm
      rw [hz] at this
      exact absurd this (Nat.not_le.mpr (Nat.lt_succ_of_lt (Nat.lt_succ_self _)))
    · have h1 := m2 _ hm
      have h2 := Heap.lt_size (F₁.keep _ _ e)
      exact absurd h1 (Nat.not_le.mpr h2)
  · exact G.push rfl
end
end Mine
end
section
open PySem PySem.W PySem.Calls PyProof.Rows PySem.Builtin PyProof.Rows.LCg
set_option Elab.async false
set_option maxRecDepth 100000
set_option maxHeartbeats 4000000
namespace Mine
/-! a list comprehension over a list, bound to a name; an element only makes things -/
section
variable {w : World} {A : Around} {E : Value → Shared → Prop} {s : Shared} {h₀ : Heap} {m : Str → Option Value} {env : Env} {Q : Flow → Shared → Prop}
theorem comp_core {elt iter : PySem.Expr} {x y : Str} {px py pos : Pos} {scope : Scope} {cl : List (Str × Addr)} {ax : Addr} {its : Array Value} (R : Nat → Value → Prop) (hh : A.handled = none) (F₀ : Fr h₀ env.locals s.heap m)
    (hclos : closureFor scope env = pure cl) (hcell : ∀ z ∈ scope.names, z.2 ≠ .cell) (hkind : scope.kind = .function)
    (hnames : ∀ z ∈ scope.names, z.2 = .local → scope.names.lookup z.1 = some .local) (hx : scope.names.lookup x = some .local)
    (hy : env.kindOf y = some .local) (hp : (env.scope.kind == .class || (env.scope.kind == .module && env.locals != env.globals)) = false)
    (hl : s.heap.IsList ax its) (hz : its.size ≤ 1000) (hB : AllBare s.gens)
    (turn : ∀ (i : Nat) v (C : Addr) m₂ h' tk' gs' (Q' E' : Value → Shared → Prop), its[i]? = some v → (∀ b o, s.heap.get? b = some o → h'.get? b = some o) → h'.Ns C m₂ → s.heap.get? C = none → m₂ x = some v → AllBare gs' →
      (∀ r h'' tk'' gs'', R i r → (∀ b o, h'.get? b = some o → h''.get? b = some o) → AllBare gs'' → Q' r { s with heap := h'', toks := tk'', gens := gs'' }) →
      wpAny (model PR w) A (PySem.eval elt (compEnvC scope cl C env)) Q' E' { s with heap := h', toks := tk', gens := gs' })
    (hQ : ∀ D h' tk gs ys, Fr h₀ env.locals h' (fun z => if z = y then some (.ref D) else m z) → (∀ b o, b ≠ env.locals → s.heap.get? b = some o → h'.get? b = some o) → h'.get? D = some (lst ys) → s.heap.get? D = none →
      ys.length = its.size → (∀ (i : Nat) r, ys[i]? = some r → R i r) → AllBare gs → Q .next { s with heap := h', toks := tk, gens := gs }) :
    wpAny (model PR w) A (pyIter (.ref ax)) (fun it s₂ => wpAny (model PR w) A (newList []) (fun acc s₃ => wpAny (model PR w) A (newFunctionEnv scope env.globals cl [] env.qual none .none (some env)) (fun cenv s₄ =>
      codeAny (model PR w) A (.compStart (.ListComp elt [⟨.Name x px, iter, [], 0⟩] scope pos) 0 it acc { cenv with scope := relabel scope env }) (compPost (model PR w) A E (some (assign (.Name y py) env)) (fun _ s' => Q .next s') acc cenv.locals) s₄) E s₃) E s₂) E s := by
  refine wpAny_pyIter_list hl ?_
  generalize hIe : s.heap.objs.size = I
  have upI : ∀ b o, s.heap.get? b = some o → (s.heap.push { cls := .type "list_iterator", data := .fields #[.ref ax, .int 0 0] }).get? b = some o := fun b o e => Heap.get?_push_of_some _ e
  have hI1 : (s.heap.push { cls := .type "list_iterator", data := .fields #[.ref ax, .int 0 0] }).IsListIter I ax 0 := ⟨_, by rw [← hIe]; exact Heap.get?_push_size _ rfl, rfl, rfl⟩
  have hz1 : (s.heap.push { cls := .type "list_iterator", data := .fields #[.ref ax, .int 0 0] }).objs.size = I + 1 := by rw [Heap.size_push, hIe]
  generalize s.heap.push { cls := .type "list_iterator", data := .fields #[.ref ax, .int 0 0] } = h₁ at upI hI1 hz1 ⊢
  refine wpAny_newObj_type (wpAny_newFunctionEnv hcell (by intro y hy; simp at hy) (fun h₂ hns₂ hsb₂ => ?_) hkind)
  dsimp only at hns₂ hsb₂ ⊢
  generalize hH2 : h₁.push { cls := .type "list", dict := none, data := .seq ([] : List Value).toArray } = H2 at hns₂ hsb₂ ⊢
  have hC : H2.objs.size = I + 1 + 1 := by rw [← hH2, Heap.size_push, hz1]
  rw [hz1]
  rw [hC] at hns₂ hsb₂ ⊢
  have hax : ax < I := by rw [← hIe]; obtain ⟨_, e, _⟩ := hl; exact Heap.lt_size e
  have old1 : ∀ b o, h₁.get? b = some o → h₂.get? b = some o := fun b o e => hsb₂.extBut b o (by
    have := Heap.lt_size e
    rw [hz1] at this
    exact Nat.ne_of_lt (Nat.lt_succ_of_lt this)) (Heap.get?_push_of_some _ (hH2 ▸ Heap.get?_push_of_some _ e))
  have hacc : h₂.get? (I + 1) = some (lst []) := hsb₂.extBut _ _ (Nat.ne_of_lt (Nat.lt_succ_self _)) (Heap.get?_push_of_some _ (by rw [← hz1, ← hH2]; exact Heap.get?_push_size _ rfl))
  have nw : ∀ b o, s.heap.get? b = some o → @Ne Nat b I ∧ @Ne Nat b (I + 1) ∧ @Ne Nat b (I + 1 + 1) := fun b o e => by
    have := Heap.lt_size e
    rw [hIe] at this
    exact ⟨Nat.ne_of_lt this, Nat.ne_of_lt (Nat.lt_succ_of_lt this), Nat.ne_of_lt (Nat.lt_succ_of_lt (Nat.lt_succ_of_lt this))⟩
  have nn : ∀ b, @LE.le Nat _ I b → s.heap.get? b = none := fun b hb => by
    cases e : s.heap.get? b with
    | none => rfl
    | some o =>
      have := Heap.lt_size e
      rw [hIe] at this
      exact absurd this (Nat.not_lt.mpr hb)
  have W := Walks.list (prog := PR) (w := w) (A := A) hh I ax (Nat.ne_of_lt hax) its
  have hLs : ∃ o, s.heap.get? env.locals = some o := let ⟨o, _, _, ho, _⟩ := F₀.ns; ⟨o, ho⟩
  obtain ⟨oL, hoL⟩ := hLs
  have loop : ∀ s₃ : Shared, s₃ = { s with heap := h₂, toks := s.toks + ([] : List (Str × Value)).length } →
      codeAny (model PR w) A (.compLoop (.ListComp elt [⟨.Name x px, iter, [], 0⟩] scope pos) 0 (.ref I) (.ref (I + 1)) (compEnvC scope cl (I + 1 + 1) env))
        (compPost (model PR w) A E (some (assign (.Name y py) env)) (fun _ s' => Q .next s') (.ref (I + 1)) (I + 1 + 1)) s₃ := by
    rintro s₃ rfl
    refine codeAny_compLoop_tests
      (fun k s' => ∃ h' tk gs i ys m', s' = { s with heap := h', toks := tk, gens := gs } ∧ i ≤ its.size ∧ k = its.size + 1 - i ∧ ys.length = i ∧ (∀ (i : Nat) r, ys[i]? = some r → R i r) ∧ AllBare gs ∧ (h'.IsListIter I ax i ∧ h'.IsList ax its) ∧
        (∀ b o, s.heap.get? b = some o → h'.get? b = some o) ∧ h'.get? (I + 1) = some (lst ys) ∧ h'.Ns (I + 1 + 1) m') ?_ (its.size + 1)
      ⟨h₂, _, s.gens, 0, [], _, rfl, Nat.zero_le _, rfl, rfl, fun i r e => by simp at e, hB, ⟨let ⟨o, ho, r⟩ := hI1; ⟨o, old1 _ _ ho, r⟩, hl.at fun o e => old1 _ o (upI _ o e)⟩, fun b o e => old1 b o (upI b o e), hacc, hns₂⟩
    intro k s' hI
    refine exE6 hI fun h' tk gs i ys m' hI2 => andE10 hI2 fun es hi ek hyl hys hB' hst up' hD' hns' => ?_
    clear hI hI2
    subst es
    by_cases hlt : i < its.size
    · refine W.item i _ _ _ hlt hst fun v h₃ tk₃ hPv hst₃ hk₃ => ?_
      have k₃ : ∀ b o, @Ne Nat b I → h'.get? b = some o → h₃.get? b = some o := fun b o hb e => hk₃ b o (by simpa using hb) e
      refine wpAny_assign_Name (wpAny_storeName_local (lookup_relabel_local hx) (hns'.at' fun o e => k₃ _ o (Nat.ne_of_gt (Nat.lt_succ_of_lt (Nat.lt_succ_self _))) e) (fun h₄ hn₄ hs₄ => ?_) (by simp [compEnvC, relabel, hkind]))
      refine wpAny_tests_nil ?_
      simp only [if_true]
      have k₄ : ∀ b o, @Ne Nat b (I + 1 + 1) → h₃.get? b = some o → h₄.get? b = some o := fun b o hb e => hs₄.extBut b o hb e
      have up₄ : ∀ b o, s.heap.get? b = some o → h₄.get? b = some o := fun b o e => k₄ b o (nw b o e).2.2 (k₃ b o (nw b o e).1 (up' b o e))
      refine turn i v (I + 1 + 1) _ h₄ _ gs _ _ hPv up₄ hn₄ (nn _ (Nat.le_succ_of_le (Nat.le_succ _))) (by simp) hB' fun r h₅ tk₅ gs₅ hr up₅ hB₅ => ?_
      have hD₄ : h₄.get? (I + 1) = some (lst ys) := k₄ _ _ (Nat.ne_of_lt (Nat.lt_succ_self _)) (k₃ _ _ (Nat.succ_ne_self _) hD')
      refine append_at (hsz := by show ys.toArray.size ≤ sizeLine; rw [List.size_toArray, hyl, PySem.sizeLine_eq]; omega) (up₅ _ _ hD₄) fun h₆ hs₆ hD₆ => ?_
      have k₆ : ∀ b o, @Ne Nat b (I + 1) → h₄.get? b = some o → h₆.get? b = some o := fun b o hb e => hs₆.extBut b o hb (up₅ b o e)
      refine ⟨its.size + 1 - (i + 1), by omega, exI6 h₆ tk₅ gs₅ (i + 1) (ys ++ [r]) _ ⟨rfl, hlt, rfl, by rw [List.length_append, List.length_singleton, hyl], ?_, hB₅, ?_, fun b o e => k₆ b o (nw b o e).2.1 (up₄ b o e), hD₆.trans (congrArg some (lst_snoc ys r)), hn₄.at' fun o e => k₆ _ o (Nat.succ_ne_self _) e⟩⟩
      · intro i' r' e'
        rcases Nat.lt_trichotomy i' ys.length with h1 | h1 | h1
        · rw [List.getElem?_append_left h1] at e'; exact hys i' r' e'
        · subst h1
          rw [List.getElem?_append_right (Nat.le_refl _), Nat.sub_self] at e'
          cases e'
          exact hyl ▸ hr
        · rw [List.getElem?_append_right (Nat.le_of_lt h1)] at e'
          have : 0 < i' - ys.length := by omega
          cases hh : i' - ys.length with
          | zero => omega
          | succ q => rw [hh] at e'; cases e'
      · refine W.frame _ _ _ hst₃ fun b hb o e => ?_
        simp only [List.mem_cons, List.not_mem_nil, or_false] at hb
        rcases hb with rfl | rfl
        · exact k₆ _ _ (Nat.ne_of_lt (Nat.lt_succ_self _)) (k₄ _ _ (Nat.ne_of_lt (Nat.lt_succ_of_lt (Nat.lt_succ_self _))) e)
        · exact k₆ _ _ (Nat.ne_of_lt (Nat.lt_succ_of_lt hax)) (k₄ _ _ (Nat.ne_of_lt (Nat.lt_succ_of_lt (Nat.lt_succ_of_lt hax))) e)
    · obtain rfl : i = its.size := Nat.le_antisymm hi (Nat.not_lt.mp hlt)
      refine W.done _ _ _ hst fun h₃ tk₃ hk₃ => ?_
      have k₃ : ∀ b o, @Ne Nat b I → h'.get? b = some o → h₃.get? b = some o := fun b o hb e => hk₃ b o (by simpa using hb) e
      have up₃ : ∀ b o, s.heap.get? b = some o → h₃.get? b = some o := fun b o e => k₃ b o (nw b o e).1 (up' b o e)
      have hD₃ : h₃.get? (I + 1) = some (lst ys) := k₃ _ _ (Nat.succ_ne_self _) hD'
      have hns₃ := hns'.at' fun o e => k₃ _ o (Nat.ne_of_gt (Nat.lt_succ_of_lt (Nat.lt_succ_self _))) e
      have F₃ := F₀.keeps up₃
      show wpAny _ A (assign (.Name y py) env (.ref (I + 1))) _ _ _
      refine wpAny_assign_Name (wpAny_storeName_local hy F₃.ns (fun h₄ hn₄ hs₄ => ?_) hp)
      have hL₀ : h₀.get? env.locals = none := Heap.get?_none_of_le F₀.above
      have hCL : @Ne Nat (I + 1 + 1) env.locals := Ne.symm (nw _ _ hoL).2.2
      have hDL : @Ne Nat (I + 1) env.locals := Ne.symm (nw _ _ hoL).2.1
      have F₄ : Fr h₀ env.locals h₄ (fun z => if z = y then some (.ref (I + 1)) else m z) := ⟨hn₄, fun b o e => hs₄.extBut b o (fun q => by rw [q, hL₀] at e; cases e) (F₃.keep b o e), F₃.above⟩
      refine ⟨m', hns₃.sameBut hs₄ hCL, fun h'' hs'' => ?_⟩
      have hC0 : h₀.get? (I + 1 + 1) = none := by
        cases e : h₀.get? (I + 1 + 1) with
        | none => rfl
        | some o => exact absurd rfl (nw _ _ (F₀.keep _ _ e)).2.2
      refine hQ (I + 1) h'' _ gs ys (F₄.change hs'' hCL hC0) (fun b o hb e => hs''.extBut b o (nw b o e).2.2 (hs₄.extBut b o hb (up₃ b o e))) (hs''.extBut _ _ (Nat.ne_of_lt (Nat.lt_succ_self _)) (hs₄.extBut _ _ hDL hD₃)) (nn _ (Nat.le_succ _)) hyl hys hB'
  exact codeAny_compStart_list (loop _ rfl) (W.self 0 _ _ _ ⟨let ⟨o, ho, r⟩ := hI1; ⟨o, old1 _ _ ho, r⟩, hl.at fun o e => old1 _ o (upI _ o e)⟩ (loop _ rfl))
theorem comp_keep {elt iter : PySem.Expr} {x y : Str} {px py pos spos : Pos} {scope : Scope} {cl : List (Str × Addr)} {ax : Addr} {its : Array Value} (R : Nat → Value → Prop) (hh : A.handled = none) (F₀ : Fr h₀ env.locals s.heap m)
    (hsw : swapsWith (.ListComp elt [⟨.Name x px, iter, [], 0⟩] scope pos) (some (.Name y py)) spos.line env = pure true)
    (hclos : closureFor scope env = pure cl) (hcell : ∀ z ∈ scope.names, z.2 ≠ .cell) (hkind : scope.kind = .function)
    (hnames : ∀ z ∈ scope.names, z.2 = .local → scope.names.lookup z.1 = some .local) (hx : scope.names.lookup x = some .local)
    (hy : env.kindOf y = some .local) (hp : (env.scope.kind == .class || (env.scope.kind == .module && env.locals != env.globals)) = false)
    (hl : s.heap.IsList ax its) (hz : its.size ≤ 1000) (hB : AllBare s.gens)
    (hit : ∀ (Q' : Value → Shared → Prop), Q' (.ref ax) s → wpAny (model PR w) A (PySem.eval iter env) Q' E s)
    (turn : ∀ (i : Nat) v (C : Addr) m₂ h' tk' gs' (Q' E' : Value → Shared → Prop), its[i]? = some v → (∀ b o, s.heap.get? b = some o → h'.get? b = some o) → h'.Ns C m₂ → s.heap.get? C = none → m₂ x = some v → AllBare gs' →
      (∀ r h'' tk'' gs'', R i r → (∀ b o, h'.get? b = some o → h''.get? b = some o) → AllBare gs'' → Q' r { s with heap := h'', toks := tk'', gens := gs'' }) →
      wpAny (model PR w) A (PySem.eval elt (compEnvC scope cl C env)) Q' E' { s with heap := h', toks := tk', gens := gs' })
    (hQ : ∀ D h' tk gs ys, Fr h₀ env.locals h' (fun z => if z = y then some (.ref D) else m z) → (∀ b o, b ≠ env.locals → s.heap.get? b = some o → h'.get? b = some o) → h'.get? D = some (lst ys) → s.heap.get? D = none →
      ys.length = its.size → (∀ (i : Nat) r, ys[i]? = some r → R i r) → AllBare gs → Q .next { s with heap := h', toks := tk, gens := gs })
    (hs : ∀ x, foldedSetIterable iter env x = pure x) :
    wpAny (model PR w) A (exec (.Assign [.Name y py] (.ListComp elt [⟨.Name x px, iter, [], 0⟩] scope pos) spos) env) Q E s := by
  rw [exec_Assign_Name_used _ _ _ _ hsw]
  refine wpAny_bind (wpAny_standAt (wpAny_bind ?_))
  show wpAny _ A (do let _ ← comprehension (.ListComp elt [⟨.Name x px, iter, [], 0⟩] scope pos) scope env _ (newList []) false (PySem.eval iter env) (some (assign (.Name y py) env))) _ _ s
  refine wpAny_bind (wpAny_mono (wpAny_comprehension_free (use := some (assign (.Name y py) env)) (Q := fun _ s' => Q .next s') rfl hs hclos hkind hnames
    (hit _ (comp_core R hh F₀ hclos hcell hkind hnames hx hy hp hl hz hB turn hQ))) (fun _ s' hq => wpAny_pure (wpAny_pure hq)) fun _ _ e => e)
end
end Mine
end
section
open PySem PySem.W PyProof.Rows PySem.Builtin PyProof.Rows.LCg
set_option Elab.async false
set_option maxRecDepth 100000
set_option maxHeartbeats 8000000
set_option pp.deepTerms false
set_option pp.deepTerms.threshold 6
set_option pp.maxSteps 3000
set_option pp.proofs false
namespace Mine
theorem q_lit : Str.ofString "\"" = ⟨#[34]⟩ := by decide +kernel
theorem b_lit : Str.ofString "\\" = ⟨#[92]⟩ := by decide +kernel
theorem s_lit : Str.ofString " " = ⟨#[32]⟩ := by decide +kernel
theorem replace_len (x : Str) (c d : Nat) : (Txt.replace x ⟨#[c]⟩ ⟨#[d]⟩).length = x.length := by
  have h := congrArg List.length (replace_codes x c d)
  simpa [cdS, Str.length] using h
theorem rows_AFT1_1 : True := by
  k_with_none
  w_top off
  k_with "mine enter" => (k_dflt (refine' code_defG ?k1 ?k2 ?k3 ?k4 ?k5 ?kA ?kF ?kK ?k6 ?k7 ?k8 ?k9 ?kB ?_ ?c2 ?c3 ?c4 ?c5; (case kA => exact rfl); (case kF => exact rfl); (case kK => assumption); (case k1 => k_asm); (case k2 => k_asm); (case k3 => k_asm); (case k4 => k_asm); (case k5 => k_asm); (case k6 => k_is); (case k7 => k_is); (case k8 => first | exact room0 (by assumption) | ktr_room); (case k9 => exact BindsTo.of_eq rfl); (case c5 => decide); (case kB => exact locs rfl); (case c2 => exact rfl); (case c3 => exact rfl); (case c4 => exact rfl); k_whole; intro _ _ _ _ _ _ B' _ _ _; (try dsimp only); (try k_lift B'); (try k_fold)))
  k_with "call builtin:str.replace" => (k_here; (with_reducible show wpAny _ _ (call (Value.builtin "str.replace") [Value.str _ _, Value.str _ _, Value.str _ _]) _ _ _); (refine SC.replaceW (by first | omega | (show @Ne Nat _ _; omega)) (by first | omega | (show @Ne Nat _ _; omega)) (by first | omega | (show @Ne Nat _ _; omega)) (by decide +kernel) (Nat.le_trans (by assumption) (by decide)) (by decide +kernel) ?_); intro _ _)
  k_with "call builtin:str.split" => (k_here; (with_reducible show wpAny _ _ (call (Value.builtin "str.split") [Value.str _ _, Value.str _ _]) _ _ _); k_dflt (refine' KSpl.split1 ?k1 ?k2 ?k3 ?_ ?k4; (case k1 => k_asm); (case k2 => k_asm); (case k3 => decide +kernel); (case k4 => exact size2 (by assumption)); k_whole); (intro _ _ _ _ e' a' _ _ l1); (try k_lt l1); (replace e' := e'.trans (by assumption)); rw [e'] at a')
  trivial
theorem strsAre_get {a : List Value} {c : List Str} (h : StrsAre a c) : ∀ {i : Nat} {v : Value}, a[i]? = some v → ∃ y t, c[i]? = some y ∧ v = .str y t := by
  induction h with
  | nil => intro i v e; simp at e
  | cons y t _ ih =>
    intro i v e
    cases i with
    | zero => simp at e; exact ⟨y, t, rfl, e.symm⟩
    | succ i => exact ih (by simpa using e)
theorem item_last1 (c : Nat) : Txt.item (⟨#[c]⟩ : Str) (-1) = ⟨#[c]⟩ := by rfl
theorem item_last2 (b c : Nat) : Txt.item (⟨#[b, c]⟩ : Str) (-1) = ⟨#[c]⟩ := by rfl
theorem ks_joinT {w : World} {A : Around} {E : Value → Shared → Prop} {s : Shared} {L ll : Addr} {h₀ : Heap} {its : List Value} {news : List (Addr × Obj)} {x : Str} {t : Tok} {ys : List Str} {Q : Value → Shared → Prop}
    (N : News h₀ L s.heap news) (hm : (ll, lst its) ∈ news) (hv : StrsAre its ys) (hok : (ys.map (·.length)).sum + ys.length * x.length ≤ 16777216)
    (h : ∀ t k, s.toks ≤ k → Q (.str (Txt.join x ys) t) { s with toks := k }) : wpAny (model PR w) A (call (.builtin "str.join") [.str x t, .ref ll]) Q E s :=
  wpAny_with_toks (Nat.le_refl _) (join_list ⟨_, (N _ hm).1, rfl, _, rfl⟩ hv hok fun t k hk => h t k hk)
theorem strs_of {ys : List Value} {f : Nat → Str} {l : List Str} (hl : ys.length = l.length) (hR : ∀ (i : Nat) r, ys[i]? = some r → ∃ t, r = .str (f i) t) (hf : ∀ (i : Nat) a, l[i]? = some a → f i = a) : StrsAre ys l := by
  have h := strs_rel ys f hR
  have e : (List.range ys.length).map f = l := by
    apply List.ext_getElem?
    intro i
    by_cases hi : i < l.length
    · rw [List.getElem?_map, List.getElem?_range (by omega), List.getElem?_eq_getElem hi]
      exact congrArg some (hf i _ (List.getElem?_eq_getElem hi))
    · rw [List.getElem?_eq_none (by simp; omega), List.getElem?_eq_none (by omega)]
  rw [e] at h
  exact h
theorem news_up {h₀ h h' : Heap} {L : Addr} {news : List (Addr × Obj)} (N : News h₀ L h news) (up : ∀ b o, b ≠ L → h.get? b = some o → h'.get? b = some o) : News h₀ L h' news := fun p hp => ⟨up _ _ (N p hp).2.1 (N p hp).1, (N p hp).2⟩
theorem news_cat {h₀ h : Heap} {L : Addr} {a b : List (Addr × Obj)} (N : News h₀ L h a) (M : News h₀ L h b) : News h₀ L h (a ++ b) := fun p hp => (List.mem_append.mp hp).elim (N p) (M p)
theorem news_one {h₀ h h' : Heap} {L C : Addr} {m : Str → Option Value} {oC : Obj} (F : Fr h₀ L h m) (hC0 : h.get? C = none) (eC : h'.get? C = some oC) : News h₀ L h' [(C, oC)] := by
  intro p hp
  rw [List.mem_singleton.mp hp]
  refine ⟨eC, fun q => ?_, ?_⟩
  · obtain ⟨o, _, _, ho, _⟩ := F.ns
    have q' : C = L := q
    rw [← q', hC0] at ho
    cases ho
  · cases e : h₀.get? C with
    | none => rfl
    | some o => rw [F.keep C o e] at hC0; cases hC0
theorem strsAre_len {a : List Value} {c : List Str} (h : StrsAre a c) : a.length = c.length := by
  induction h with
  | nil => rfl
  | cons _ _ _ ih => simp [ih]
theorem readW_len (ws : List Nat) (h : ws.length ≤ 5) : (readW ws).length ≤ 5 := by
  unfold readW
  split
  · simp
  · have : ∀ (ws : List Nat) (k : Nat), (wlsQ 92 k ws).length = ws.length := by
      intro ws
      induction ws with
      | nil => intro k; rfl
      | cons n r ih => intro k; simp [wlsQ, ih]
    rw [this]; exact h
theorem readW_small {ws : List Nat} (h : ∀ n ∈ ws, n ≤ 15) : ∀ v ∈ readW ws, v.length ≤ 16 := by
  have main : ∀ (ws : List Nat) (k : Nat), (∀ n ∈ ws, n ≤ 15) → ∀ v ∈ wlsQ 92 k ws, v.length ≤ 16 := by
    intro ws
    induction ws with
    | nil => intro k _ v hv; simp [wlsQ] at hv
    | cons n r ih =>
      intro k h v hv
      rcases List.mem_cons.mp hv with rfl | hv
      · have := h n (by simp)
        simp [wordQ]; omega
      · exact ih (k + 1) (fun m hm => h m (List.mem_cons_of_mem _ hm)) v hv
  unfold readW
  split
  · intro v hv; simp at hv; simp [hv]
  · exact main ws 0 h
theorem escL_len : ∀ l : List Nat, (escL l).length ≤ l.length
  | [] => Nat.le_refl _
  | [c] => Nat.le_refl _
  | c :: e :: r => by
    show (if c = 92 then e :: escL r else c :: escL (e :: r)).length ≤ _
    have h1 := escL_len r
    have h2 := escL_len (e :: r)
    split <;> simp at * <;> omega
theorem join_signs (O : List Nat) : Txt.join (Str.ofString "") (O.map fun c => (⟨#[c]⟩ : Str)) = wS O := by
  apply str_of_list
  rw [join_codes, List.flatMap_map]
  induction O with
  | nil => rfl
  | cons c r ih => simp [List.flatMap_cons] at ih ⊢
theorem rows_AFT1_2 : True := by
  k_with "call builtin:str.join" => (k_here; k_dflt (refine' ks_joinT ?k1 ?k2 ?k3 ?k4 ?_; (case k1 => k_asm); (case k2 => k_mem); (case k3 => assumption); (case k4 => assumption); k_whole); intro _ _ hk9; (try dsimp only at hk9))
  k_with "mine out" => (first | exact so_nil | (refine so_fp ?za ?zb; (case za => k_mem); (case zb => walk_at "mine out")) | (refine so_in ?za ?zb; (case za => k_mem); (case zb => walk_at "mine out")))
  k_with "execs cons" => ((with_reducible refine wpAny_execs_cons ?_); try dsimp only)
  trivial
theorem aft1_cl (w : World) (mean : ExcName → Option Value) (mg mb : Str → Option Value) (td : Addr) (ws : List Nat) (t : Tok) (hdv wd : Int) (tk th tw : Tok) (hl5 : ws.length ≤ 5) (hws : ∀ m ∈ ws, m ≤ 15) :
  ROG w mean mg mb 248 [] (fun _ => True) [(td, tupO 1 hdv wd tk th tw)] [.str (textS ws) t, .ref td] (fun _ v _ => ∃ t, v = .str (textS (ws.map fun n => (n + 1) / 2)) t) 120 1200 := by
  delta ROG PR; k_fill
  intro dp un gd cn cs a ccd cl outer A₀ base h₀ L m s Q E B F KX N T hk HP G hdp hun hret
  have hx85 := textS_len hl5 hws
  have hsp : Txt.split (Txt.replace (textS ws) (Str.ofString "\"") (Str.ofString "\\")) (Str.ofString " ") = (readW ws).map wS := by
    rw [q_lit, b_lit, s_lit]; exact read_split rfl
  have hrl : (Txt.replace (textS ws) (Str.ofString "\"") (Str.ofString "\\")).length ≤ 10000000 := by
    rw [q_lit, b_lit, replace_len]; exact Nat.le_trans hx85 (by decide)
  k_with "exec Assign cons ListComp" => (refine Hold.out ?rA)
  w_strict (refine wpAny_call ?_; walk_at "mine enter"; k_steps)
  case rA =>
    refine Hold.in ?_
    rename News _ _ _ _ => NX
    rename Fr _ _ _ _ => FX
    rename StrsAre _ _ => hst
    rename Top VW LS mean mg mb _ => TX
    rename (hd.heap_1 w.params).In _ => KX'
    refine comp_keep (cl := []) (its := (strValues _).toArray) (fun i r => ∃ t, r = .str (wS (escL ((readW ws).getD i []))) t) rfl FX (by with_unfolding_all rfl) (closureFor_none (by decide)) (by decide) rfl (by decide) rfl rfl rfl (News.isList NX (by k_mem)) ?hz G ?hit ?turn ?hQ (fun _ => rfl)
    case hz =>
      have h1 := strsAre_len hst
      have h2 := readW_len ws hl5
      rw [List.length_map] at h1
      show (strValues _).toArray.size ≤ 1000
      rw [List.size_toArray]
      omega
    case hit =>
      intro Q' q
      exact ld FX rfl q
    case turn =>
      intro i v C m₂ h9 tk9 gs9 Q9 E9 hi up9 hn9 hC0 hx9 hB9 hret9
      obtain ⟨y, ty, hy, rfl⟩ := strsAre_get hst (by simpa using hi)
      obtain ⟨wd9, hw9, rfl⟩ : ∃ wd9, (readW ws)[i]? = some wd9 ∧ y = wS wd9 := by
        rw [List.getElem?_map] at hy
        cases e : (readW ws)[i]? with
        | none => rw [e] at hy; cases hy
        | some q => rw [e] at hy; cases hy; exact ⟨q, rfl, rfl⟩
      have hws9 := readW_small hws wd9 (List.mem_of_getElem? hw9)
      have F9 := FX.keeps up9
      obtain ⟨oC, eC, hCo⟩ := ns_obj hn9
      have N9 := news_one FX hC0 eC
      clear NX FX
      k_with "eval ListComp" => (refine Hold.out ?rB)
      w_strict k_steps
      case rB =>
        refine Hold.in ?_
        refine comp_gen (cl := []) (O := escL wd9) ?g1 rfl TX.nolimit F9 (closureFor_none (by decide)) (by decide) rfl (by decide) rfl rfl (by decide) ?g2 ?g3 ?g4 ?g5 (fun _ => rfl)
        case g1 => ktr_room
        case g2 =>
          have := escL_len wd9
          omega
        case g3 =>
          k_with "call ref" => (refine Hold.out ?rC)
          w_strict k_steps
          case rC =>
            refine Hold.in ?_
            refine esc_call F9 KX' TX hB9 ?g6 rfl ?g7 ?_
            case g6 => ktr_room
            case g7 => rw [wS_len]; omega
            intro LG a gi h₁ tk₁ gs₁ g1 u1 z1 z2 z3 z4
            rw [wS_codes] at g1
            exact ⟨LG, a, gi, h₁, tk₁, gs₁, rfl, rfl, g1, u1, z1, z2, z3, z4⟩
        case g4 =>
          intro C2 s2 m3 u tu c Q2 E2 F2 hC2 hn2 hu2 hc2 hq2
          obtain ⟨oC2, eC2, hCo2⟩ := ns_obj hn2
          have N2 := news_one F9 hC2 eC2
          clear N9 F9
          rcases hc2 with rfl | rfl
          · w_strict k_steps
            rw [item_last1]
            exact hq2 _ _
          · w_strict k_steps
            rw [item_last2]
            exact hq2 _ _
        case g5 =>
          intro D h' tk gs ys up' hD' hD0' hys' hB'
          k_with "call builtin:str.join" => (refine Hold.out ?rD)
          k_with "call builtin:str.join" => (k_here; k_dflt (refine' ks_joinT ?k1 ?k2 ?k3 ?k4 ?_; (case k1 => k_asm); (case k2 => k_mem); (case k3 => assumption); (case k4 => assumption); k_whole); intro _ _ hk9; (try dsimp only at hk9))
          w_strict k_steps
          case rD =>
            refine Hold.in ?_
            refine join_list ⟨_, hD', rfl, _, rfl⟩ hys' ?_ fun t9 k9 => ?_
            · have h1 := sum_le 1 ((escL wd9).map fun c => (⟨#[c]⟩ : Str)) fun a ha => by
                obtain ⟨c, _, rfl⟩ := List.mem_map.mp ha
                exact Nat.le_refl 1
              have h2 := escL_len wd9
              have h3 : (Str.ofString "").length = 0 := by decide +kernel
              rw [List.length_map] at h1 ⊢
              rw [h3]
              omega
            · rw [join_signs]
              exact hret9 _ _ _ _ ⟨_, by rw [List.getD_eq_getElem?_getD, hw9]; rfl⟩ (fun b o e => up' b o e) hB'
    case hQ =>
      intro D h9 tk9 gs9 ys F9 up9 hD9 hD0 hyl hyR hB9
      have N9 := news_cat (news_one FX hD0 hD9) (news_up NX up9)
      have hlen : ys.length = ((readW ws).map fun v => wS (escL v)).length := by
        have h1 := strsAre_len hst
        rw [hyl, List.size_toArray, h1]
        simp
      have hys := strs_of hlen hyR fun i a e => by
        rw [List.getElem?_map] at e
        cases e2 : (readW ws)[i]? with
        | none => rw [e2] at e; cases e
        | some q =>
          rw [e2] at e
          cases e
          rw [List.getD_eq_getElem?_getD, e2]
          rfl
      have hrl5 := readW_len ws hl5
      have hsl : (Str.ofString " ").length = 1 := by decide +kernel
      have hsum := sum_le 16 ((readW ws).map fun v => wS (escL v)) fun a ha => by
        obtain ⟨v, hv, rfl⟩ := List.mem_map.mp ha
        have h1 := readW_small hws v hv
        have h2 := escL_len v
        rw [wS_len]
        omega
      rw [List.length_map] at hsum
      have hok : (((readW ws).map fun v => wS (escL v)).map (·.length)).sum + ((readW ws).map fun v => wS (escL v)).length * (Str.ofString " ").length ≤ 16777216 := by
        rw [List.length_map, hsl]
        omega
      have hjl : (Txt.join (Str.ofString " ") ((readW ws).map fun v => wS (escL v))).length ≤ 200 := by
        rw [join_join]
        have := StrLaws.join_length_le (Str.ofString " ") ((readW ws).map fun v => wS (escL v))
        rw [List.length_map, hsl] at this
        omega
      clear NX FX hyR
      simp only [List.cons_append, List.nil_append] at N9
      w_strict k_steps
      have hfin : Txt.replace (Txt.join (Str.ofString " ") ((readW ws).map fun v => wS (escL v))) (Str.ofString "\\") (Str.ofString "\"") = textS (ws.map fun n => (n + 1) / 2) := by
        rw [q_lit, b_lit, s_lit]; exact read_back ws
      rw [hfin]
      exact hret _ _ _ _ ⟨_, rfl⟩ (by assumption) (kept_mut [] N (by assumption) (Fr.keep (by assumption)) (sub_out (by assumption) (by walk_at "mine out"))) (by assumption)
end Mine
end
section
open PySem PySem.W PyProof.Rows PySem.Builtin
set_option Elab.async false
set_option maxRecDepth 100000
namespace Mine
theorem ROM.rog {w : World} {mean : ExcName → Option Value} {mg mb : Str → Option Value} {f : Addr} {fp : List Addr} {Pre : Heap → Prop} {news : List (Addr × Obj)} {vs : List Value} {Post : Heap → Value → Heap → Prop} {d u : Nat}
    (C : ROM w mean mg mb f fp Pre news vs Post d u) : ROG w mean mg mb f fp Pre news vs Post d u := by
  intro dp un gd cn cs a ccd cl outer A₀ base h₀ L m s Q E B F X N T hk hP G hd1 hu1 hret
  exact C dp un gd cn cs a ccd cl outer A₀ base h₀ L m s Q E B F X N T hk hP hd1 hu1 fun v h' tk' hR F' K' => hret v h' tk' s.gens hR F' K' G
theorem ROG.drop {w : World} {mean : ExcName → Option Value} {mg mb : Str → Option Value} {f : Addr} {fp : List Addr} {Pre : Heap → Prop} {news news' : List (Addr × Obj)} {vs : List Value} {Post : Heap → Value → Heap → Prop} {d u : Nat}
    (C : ROG w mean mg mb f fp Pre news vs Post d u) (h : ∀ p ∈ news, p ∈ news') : ROG w mean mg mb f fp Pre news' vs Post d u := by
  intro dp un gd cn cs a ccd cl outer A₀ base h₀ L m s Q E B F X N T hk hP G hd1 hu1 hret
  exact C dp un gd cn cs a ccd cl outer A₀ base h₀ L m s Q E B F X (cb_drop N h) T hk hP G hd1 hu1 hret
noncomputable abbrev TabsAt (h' : Heap) : Prop := (∃ ps', TriplesOk ps'.toList ∧ h'.get? 169 = some (tabObj ps')) ∧ (∃ qs', TriplesOk qs'.toList ∧ h'.get? 176 = some (tabObj qs'))
/-- _law_after, whatever the deed -/
theorem after_cl (w : World) (mean : ExcName → Option Value) (mg mb : Str → Option Value) (td : Addr) (ws : List Nat) (t : Tok) (k z M : Int) (tk th tw : Tok) (ps qs : Array Value) (htr : TriplesOk ps.toList) (hts : TriplesOk qs.toList)
    (hl5 : ws.length ≤ 5) (hws : ∀ m ∈ ws, m ≤ 15) (hk : 0 ≤ k ∧ k ≤ 2) (hz : 0 ≤ z ∧ z ≤ 1000) (hM : 0 ≤ M) :
    ROG w mean mg mb 248 [169, 176] (fun _ => True) [(td, tupO k z M tk th tw), (169, tabObj ps), (176, tabObj qs)] [.str (textS ws) t, .ref td] (fun _ v h' => (∃ t, v = .str (textS (afterW ws (k, z, M))) t) ∧ TabsAt h') 240 2400 := by
  have hlen := textS_len hl5 hws
  have tabs : ∀ {h h' : Heap}, (∀ p ∈ [(td, tupO k z M tk th tw), ((169 : Addr), tabObj ps), ((176 : Addr), tabObj qs)], h.get? p.1 = some p.2) → KeptBut [] h h' → TabsAt h' := fun N K =>
    ⟨⟨ps, htr, K.all (N (169, tabObj ps) (by simp))⟩, ⟨qs, hts, K.all (N (176, tabObj qs) (by simp))⟩⟩
  obtain rfl | rfl | rfl : k = 0 ∨ k = 1 ∨ k = 2 := by omega
  · refine ((aft0_cl w mean mg mb td (textS ws) t z M tk th tw (by omega)).rog.drop (by simp)).weak (by simp) (fun _ h => h) (by omega) (by omega) ?_
    rintro h v h' N - ⟨t', rfl⟩ K
    refine ⟨⟨t', ?_⟩, tabs N K⟩
    have e : afterW ws (0, z, M) = cutPar ws := by simp [afterW]
    rw [e]
    show Value.str ⟨(parseGo (textFrom 0 ws)).toArray⟩ t' = _
    rw [parse_text]
    rfl
  · refine ((aft1_cl w mean mg mb td ws t z M tk th tw hl5 hws).drop (by simp)).weak (by simp) (fun _ h => h) (by omega) (by omega) ?_
    rintro h v h' N - ⟨t', rfl⟩ K
    refine ⟨⟨t', ?_⟩, tabs N K⟩
    have e : afterW ws (1, z, M) = ws.map (fun n => (n + 1) / 2) := by simp [afterW]
    rw [e]
  · cases ws with
    | nil =>
      have e : afterW [] (2, z, M) = [] := by simp [afterW]
      rw [e]
      by_cases h0 : 0 < z
      · exact aft2e_cl w mean mg mb td t z M tk th tw ps qs htr hts hz hM h0
      · exact aft2z_cl w mean mg mb td t z M tk th tw ps qs htr hts hz hM (by omega)
    | cons n wr =>
      have e : afterW (n :: wr) (2, z, M) = (n :: wr).take (fitF ((n :: wr).map Int.ofNat) z M).toNat := by simp only [afterW, if_true]
      rw [e]
      exact aft2w_cl w mean mg mb td n wr t z M tk th tw ps qs htr hts hz hM hl5 hws
end Mine
end
section
open PySem PySem.W PySem.Calls PyProof.Rows
set_option Elab.async false
set_option maxRecDepth 100000
namespace Mine
theorem five {vs : List Value} {ns : List Int} (hi : IntsAre vs ns) (h : ns.length = 5) : ∃ z0 z1 z2 z3 z4 t0 t1 t2 t3 t4, vs = [.int z0 t0, .int z1 t1, .int z2 t2, .int z3 t3, .int z4 t4] ∧ ns = [z0, z1, z2, z3, z4] := by
  obtain ⟨a, b, c, d, e, rfl⟩ : ∃ a b c d e, ns = [a, b, c, d, e] := by
    match ns, h with
    | [a, b, c, d, e], _ => exact ⟨a, b, c, d, e, rfl⟩
  obtain _ | ⟨_, _, hi⟩ := hi
  obtain _ | ⟨_, _, hi⟩ := hi
  obtain _ | ⟨_, _, hi⟩ := hi
  obtain _ | ⟨_, _, hi⟩ := hi
  obtain _ | ⟨_, _, hi⟩ := hi
  obtain _ | _ := hi
  exact (exI10 _ _ _ _ _ _ _ _ _ _ ⟨rfl, rfl⟩)
theorem nums_slice {w : World} {A : Around} {E : Value → Shared → Prop} {s : Shared} {h₀ : Heap} {L l : Addr} {m : Str → Option Value} {news : List (Addr × Obj)} {value slice : PySem.Expr} {vs : List Value} {ns : List Int} {u : Tok} {k : Nat} {ops : List Value} {Q : Value → Shared → Prop}
    (F : Fr h₀ L s.heap m) (N : News h₀ L s.heap news) (hm : (l, W.listOf vs.toArray k) ∈ news) (hi : IntsAre vs (ns.take 5 ++ [27, 12, 1472, 31, 4]))
    (h : ∀ D h' z0 z1 z2 z3 z4 t0 t1 t2 t3 t4, Fr h₀ L h' m → News h₀ L h' ((D, W.listOf #[.int z0 t0, .int z1 t1, .int z2 t2, .int z3 t3, .int z4 t4] 0) :: news) → (∀ p ∈ news, p.1 < D) → Q (.ref D) { s with heap := h' })
    (hs : subscripted slice false (.ref l) (.ref s.heap.objs.size) = operate ops (getItem (.ref l) (.ref s.heap.objs.size))) :
    wpAny (model PR w) A (subscriptTail value slice (.ref l) (.ref s.heap.objs.size)) Q E { s with heap := s.heap.push { cls := .type "slice", data := .fields #[.none, .int 5 u, .none] } } := by
  have hl : s.heap.IsList l vs.toArray := News.isList N hm
  have hlen : vs.length ≤ 10 := by
    rw [hi.length]
    simp only [List.length_append, List.length_take, List.length_cons, List.length_nil]
    omega
  have hz : vs.toArray.size ≤ sizeLine := by rw [List.size_toArray, PySem.sizeLine_eq]; omega
  have hm5 := kmk_upto (y := 5) hi (by decide)
  have h5 : (List.take (5 : Int).toNat (ns.take 5 ++ [27, 12, 1472, 31, 4])).length = 5 := by
    simp only [List.length_take, List.length_append, List.length_cons, List.length_nil]
    show min 5 (min 5 ns.length + 5) = 5
    omega
  obtain ⟨z0, z1, z2, z3, z4, t0, t1, t2, t3, t4, e1, e2⟩ := five hm5 h5
  refine tail_any (Heap.IsList.typeIs (s := { s with heap := s.heap.push { cls := .type "slice", data := .fields #[.none, .int 5 u, .none] } }) (hl.push _)) list_getitem_lookup
    (wpAny_getItem_list_slice (hl.push _) (Heap.IsSliceOf.new ..) IsPart.none (IsPart.int _ _) IsPart.none (by decide) ?_ hz) hs
  have e3 : slicePick vs.toArray none (some 5) none = #[.int z0 t0, .int z1 t1, .int z2 t2, .int z3 t3, .int z4 t4] := by
    apply Array.toList_inj.mp
    rw [e1]
  rw [e3]
  have N1 := News.push (F.push { cls := .type "slice", data := .fields #[.none, .int 5 u, .none] }) (N.grown fun _ _ e => Heap.get?_push_of_some _ e) { cls := .type "list", data := .seq #[.int z0 t0, .int z1 t1, .int z2 t2, .int z3 t3, .int z4 t4] }
  rw [Heap.size_push] at N1
  show Q (.ref (s.heap.push _).objs.size) _
  rw [Heap.size_push]
  exact h _ _ _ _ _ _ _ _ _ _ _ _ ((F.push _).push _) N1 fun p hp => Nat.lt_succ_of_lt (Heap.lt_size (N p hp).1)
end Mine
end
section
open PySem PySem.Spec PySem.Calls PySem.W PyProof.Rows PyProof.Rows.LCg
set_option Elab.async false
set_option maxRecDepth 100000
namespace Mine
/-! what the walk of law leans on -/
noncomputable def TupsAre (R : Nat → Int → Int → Int → Prop) : Nat → List Value → List (Addr × Obj) → Prop
  | 0, ys, ts => ys = [] ∧ ts = []
  | i + 1, ys, ts => ∃ ys' ts' a k z M t1 t2 t3, ys = ys' ++ [.ref a] ∧ ts = (a, tupO k z M t1 t2 t3) :: ts' ∧ R i k z M ∧ TupsAre R i ys' ts'
/-- a list comprehension whose elements are new triples -/
theorem crest_tup {prog : Program} {w : World} {A : Around} {h₀ : Heap} {L : Addr} {m : Str → Option Value} {env : Env} {elt : PySem.Expr} {x : Str} {scope : Scope} {cl : List (Str × Addr)} {s : Shared} {S : List (Addr × Obj) → Prop} {P : Nat → Value → Prop} {Fin : List Value → List (Addr × Obj) → Prop} {news : List (Addr × Obj)}
    {n : Nat} (R : Nat → Int → Int → Int → Prop)
    (turn : ∀ i v I oI C oC D m₂ ys lg h tk (E' : Value → Shared → Prop), i < n → P i v → (∀ p ∈ news, p ∈ lg) → LCg.NsObj oC m₂ → m₂ x = some v → Fr h₀ L h m → News h₀ L h ((I, oI) :: (C, oC) :: (D, LCg.lst ys) :: lg) → LCg.Off3 I C D lg → ((@Ne Nat I C) ∧ (@Ne Nat I D) ∧ (@Ne Nat C D)) →
      wpAny (model prog w) A (PySem.eval elt (compEnvC scope cl C env)) (LCg.CompEnd h₀ L m { s with heap := h, toks := tk } I oI C oC D (LCg.lst ys) S (fun y news' => ∃ a k z M t1 t2 t3, y = .ref a ∧ news' = (a, tupO k z M t1 t2 t3) :: lg ∧ R i k z M)) E' { s with heap := h, toks := tk })
    (fin : ∀ (ys : List Value) ts, TupsAre R n ys ts → Fin ys (ts ++ news)) : LCg.CompRest prog w A h₀ L m env elt x scope cl s S P Fin n 0 [] news := by
  have key : ∀ (j i : Nat) (ys : List Value) (ts : List (Addr × Obj)), i + j = n → TupsAre R i ys ts → LCg.CompRest prog w A h₀ L m env elt x scope cl s S P Fin j i ys (ts ++ news) := by
    intro j
    induction j with
    | zero =>
      intro i ys ts hi hR
      obtain rfl : i = n := by omega
      exact LCg.CompRest.zero (fin ys ts hR)
    | succ j ih =>
      intro i ys ts hi hR
      refine LCg.CompRest.succ ?_
      intro v I oI C oC D m₂ h tk E' hv hC hx F N off ne
      refine wpAny_mono (turn i v I oI C oC D m₂ ys (ts ++ news) h tk E' (by omega) hv (fun p hp => List.mem_append_right _ hp) hC hx F N off ne) (fun y s₂ hq => ?_) fun _ _ e => e
      obtain ⟨h', tk', nw, e, F', N', off', hS, a, k, z, M, t1, t2, t3, rfl, rfl, hr⟩ := hq
      refine ⟨h', tk', _, e, F', N', off', hS, ?_⟩
      exact ih (i + 1) _ ((a, tupO k z M t1 t2 t3) :: ts) (by omega) ⟨ys, ts, a, k, z, M, t1, t2, t3, rfl, rfl, hr, hR⟩
  exact key n 0 [] [] (by omega) ⟨rfl, rfl⟩
theorem csrc_tup {prog : Program} {w : World} {A : Around} {h₀ : Heap} {L : Addr} {m : Str → Option Value} {env : Env} {elt : PySem.Expr} {x : Str} {scope : Scope} {cl : List (Str × Addr)} {Fin : Shared → List Value → List (Addr × Obj) → Prop} {ax : Addr} {vs : List Value} {k : Nat} {news : List (Addr × Obj)} {s₁ : Shared}
    (R : Nat → Int → Int → Int → Prop) (hh : A.handled = none) (F : Fr h₀ L s₁.heap m) (N : News h₀ L s₁.heap news) (hm : (ax, ({ cls := .type "list", data := .seq vs.toArray k } : Obj)) ∈ news) (hn : vs.length ≤ 1000)
    (turn : ∀ (i : Nat) v I oI C oC D m₂ ys lg h g tk (E' : Value → Shared → Prop), vs[i]? = some v → (∀ p ∈ news, p ∈ lg) → LCg.NsObj oC m₂ → m₂ x = some v → Fr h₀ L h m → News h₀ L h ((I, oI) :: (C, oC) :: (D, LCg.lst ys) :: lg) → LCg.Off3 I C D lg → ((@Ne Nat I C) ∧ (@Ne Nat I D) ∧ (@Ne Nat C D)) →
      wpAny (model prog w) A (PySem.eval elt (compEnvC scope cl C env)) (LCg.CompEnd h₀ L m { { s₁ with heap := g } with heap := h, toks := tk } I oI C oC D (LCg.lst ys) (LCg.SrcAt h₀ ax vs.toArray) (fun y news' => ∃ a k z M t1 t2 t3, y = .ref a ∧ news' = (a, tupO k z M t1 t2 t3) :: lg ∧ R i k z M)) E' { { s₁ with heap := g } with heap := h, toks := tk })
    (fin : ∀ g, ∀ (ys : List Value) ts, TupsAre R vs.length ys ts → Fin { s₁ with heap := g } ys (ts ++ news)) :
    LCg.CompSrc prog w A h₀ L m env elt x scope cl Fin (.ref ax) s₁ := by
  refine LCg.CompSrc.ledger hh F N hm (by rw [PySem.sizeLine_eq, List.size_toArray]; omega) ?_
  intro g
  rw [List.size_toArray]
  refine crest_tup R ?_ (fin g)
  intro i v I oI C oC D m₂ ys lg h tk E' hi hv hsub hC hx F N off ne
  exact turn i v I oI C oC D m₂ ys lg h g tk E' (by simpa using hv) hsub hC hx F N off ne
theorem compEnd_tup {h₀ : Heap} {L I C D T ax : Addr} {m : Str → Option Value} {s₁ : Shared} {oI oC oD : Obj} {its : Array Value} {news lg : List (Addr × Obj)} {R : Int → Int → Int → Prop} {h' : Heap} {tk : Nat} {k z M : Int} {t1 t2 t3 : Tok} {kk : Nat}
    (F : Fr h₀ L h' m) (N : News h₀ L h' ((T, tupO k z M t1 t2 t3) :: (I, oI) :: (C, oC) :: (D, oD) :: lg)) (lt : ∀ p ∈ (I, oI) :: (C, oC) :: (D, oD) :: lg, p.1 < T) (off : LCg.Off3 I C D lg)
    (hm : (ax, ({ cls := .type "list", data := .seq its kk } : Obj)) ∈ news) (hsub : ∀ p ∈ news, p ∈ lg) (r : R k z M) :
    LCg.CompEnd h₀ L m s₁ I oI C oC D oD (LCg.SrcAt h₀ ax its) (fun y news' => ∃ a k z M t1 t2 t3, y = .ref a ∧ news' = (a, tupO k z M t1 t2 t3) :: lg ∧ R k z M) (.ref T) { s₁ with heap := h', toks := tk } := by
  have a := lt _ (List.mem_cons_self ..)
  have b := lt _ (List.mem_cons_of_mem _ (List.mem_cons_self ..))
  have c := lt _ (List.mem_cons_of_mem _ (List.mem_cons_of_mem _ (List.mem_cons_self ..)))
  refine ⟨h', tk, (T, tupO k z M t1 t2 t3) :: lg, rfl, F, cb_drop N (fun p hp => by simp only [List.mem_cons] at hp ⊢; rcases hp with h | h | h | h | h <;> simp [h]), ⟨⟨Nat.ne_of_gt a, Nat.ne_of_gt b, Nat.ne_of_gt c⟩, off⟩, .inr ⟨_, List.mem_cons_of_mem _ (hsub _ hm), rfl, _, rfl⟩, T, k, z, M, t1, t2, t3, rfl, rfl, r⟩
theorem tups_succ {R : Nat → Int → Int → Int → Prop} {i : Nat} {ys : List Value} {ts : List (Addr × Obj)} {C : List Value → List (Addr × Obj) → Prop} (h : TupsAre R (i + 1) ys ts)
    (g : ∀ ys' ts' a k z M t1 t2 t3, R i k z M → TupsAre R i ys' ts' → C (ys' ++ [.ref a]) ((a, tupO k z M t1 t2 t3) :: ts')) : C ys ts := by
  obtain ⟨ys', ts', a, k, z, M, t1, t2, t3, rfl, rfl, c, h⟩ := h
  exact g _ _ _ _ _ _ _ _ _ c h
theorem tups_none_of {R : Nat → Int → Int → Int → Prop} {ys : List Value} {ts : List (Addr × Obj)} {C : List Value → List (Addr × Obj) → Prop} (h : TupsAre R 0 ys ts) (g : C [] []) : C ys ts := by
  obtain ⟨rfl, rfl⟩ := h
  exact g
theorem tups_five {R : Nat → Int → Int → Int → Prop} {ys : List Value} {ts : List (Addr × Obj)} {C : List Value → List (Addr × Obj) → Prop} (h : TupsAre R 5 ys ts)
    (g : ∀ a0 a1 a2 a3 a4 k0 k1 k2 k3 k4 h0 h1 h2 h3 h4 m0 m1 m2 m3 m4 p0 p1 p2 p3 p4 q0 q1 q2 q3 q4 r0 r1 r2 r3 r4, R 0 k0 h0 m0 → R 1 k1 h1 m1 → R 2 k2 h2 m2 → R 3 k3 h3 m3 → R 4 k4 h4 m4 →
      C [.ref a0, .ref a1, .ref a2, .ref a3, .ref a4] [(a4, tupO k4 h4 m4 p4 q4 r4), (a3, tupO k3 h3 m3 p3 q3 r3), (a2, tupO k2 h2 m2 p2 q2 r2), (a1, tupO k1 h1 m1 p1 q1 r1), (a0, tupO k0 h0 m0 p0 q0 r0)]) : C ys ts :=
  tups_succ h fun y4 t4 a4 k4 h4 m4 p4 q4 r4 c4 h => tups_succ (C := fun y t => C (y ++ [.ref a4]) ((a4, tupO k4 h4 m4 p4 q4 r4) :: t)) h fun y3 t3 a3 k3 h3 m3 p3 q3 r3 c3 h =>
    tups_succ (C := fun y t => C (y ++ [.ref a3] ++ [.ref a4]) ((a4, tupO k4 h4 m4 p4 q4 r4) :: (a3, tupO k3 h3 m3 p3 q3 r3) :: t)) h fun y2 t2 a2 k2 h2 m2 p2 q2 r2 c2 h =>
    tups_succ (C := fun y t => C (y ++ [.ref a2] ++ [.ref a3] ++ [.ref a4]) ((a4, tupO k4 h4 m4 p4 q4 r4) :: (a3, tupO k3 h3 m3 p3 q3 r3) :: (a2, tupO k2 h2 m2 p2 q2 r2) :: t)) h fun y1 t1 a1 k1 h1 m1 p1 q1 r1 c1 h =>
    tups_succ (C := fun y t => C (y ++ [.ref a1] ++ [.ref a2] ++ [.ref a3] ++ [.ref a4]) ((a4, tupO k4 h4 m4 p4 q4 r4) :: (a3, tupO k3 h3 m3 p3 q3 r3) :: (a2, tupO k2 h2 m2 p2 q2 r2) :: (a1, tupO k1 h1 m1 p1 q1 r1) :: t)) h fun y0 t0 a0 k0 h0 m0 p0 q0 r0 c0 h =>
    tups_none_of (C := fun y t => C (y ++ [.ref a0] ++ [.ref a1] ++ [.ref a2] ++ [.ref a3] ++ [.ref a4]) ((a4, tupO k4 h4 m4 p4 q4 r4) :: (a3, tupO k3 h3 m3 p3 q3 r3) :: (a2, tupO k2 h2 m2 p2 q2 r2) :: (a1, tupO k1 h1 m1 p1 q1 r1) :: (a0, tupO k0 h0 m0 p0 q0 r0) :: t)) h
      (g a0 a1 a2 a3 a4 k0 k1 k2 k3 k4 h0 h1 h2 h3 h4 m0 m1 m2 m3 m4 p0 p1 p2 p3 p4 q0 q1 q2 q3 q4 r0 r1 r2 r3 r4 c0 c1 c2 c3 c4)
theorem ints_succ {ys : List Value} {n : Nat} {P : Int → Prop} {C : List Value → Prop} (hl : ys.length = n + 1) (hR : ∀ (j : Nat) y, ys[j]? = some y → ∃ z t, y = .int z t ∧ P z) (g : ∀ z t ys', ys'.length = n → (∀ (j : Nat) y, ys'[j]? = some y → ∃ z t, y = .int z t ∧ P z) → P z → C (.int z t :: ys')) : C ys := by
  cases ys with
  | nil => cases hl
  | cons y r =>
    obtain ⟨z, t, rfl, p⟩ := hR 0 y rfl
    exact g z t r (Nat.succ.inj hl) (fun j y e => hR (j + 1) y e) p
theorem five_of {ys : List Value} {P : Int → Prop} {C : List Value → Prop} (hl : ys.length = 5) (hR : ∀ (i : Nat) y, ys[i]? = some y → ∃ z t, y = .int z t ∧ P z)
    (g : ∀ z0 z1 z2 z3 z4 t0 t1 t2 t3 t4, P z0 → P z1 → P z2 → P z3 → P z4 → C [.int z0 t0, .int z1 t1, .int z2 t2, .int z3 t3, .int z4 t4]) : C ys :=
  ints_succ hl hR fun z0 t0 y0 l0 r0 p0 => ints_succ (C := fun y => C (.int z0 t0 :: y)) l0 r0 fun z1 t1 y1 l1 r1 p1 => ints_succ (C := fun y => C (.int z0 t0 :: .int z1 t1 :: y)) l1 r1 fun z2 t2 y2 l2 r2 p2 =>
    ints_succ (C := fun y => C (.int z0 t0 :: .int z1 t1 :: .int z2 t2 :: y)) l2 r2 fun z3 t3 y3 l3 r3 p3 => ints_succ (C := fun y => C (.int z0 t0 :: .int z1 t1 :: .int z2 t2 :: .int z3 t3 :: y)) l3 r3 fun z4 t4 y4 l4 _ p4 => by
    cases y4 with
    | nil => exact g z0 z1 z2 z3 z4 t0 t1 t2 t3 t4 p0 p1 p2 p3 p4
    | cons _ _ => cases l4
theorem five_eq {ys : List Value} {P : Int → Prop} {G : Prop} (hl : ys.length = 5) (hR : ∀ (i : Nat) y, ys[i]? = some y → ∃ z t, y = .int z t ∧ P z)
    (g : ∀ z0 z1 z2 z3 z4 t0 t1 t2 t3 t4, ys = [.int z0 t0, .int z1 t1, .int z2 t2, .int z3 t3, .int z4 t4] → P z0 → P z1 → P z2 → P z3 → P z4 → G) : G :=
  five_of (C := fun y => ys = y → G) hl hR (fun z0 z1 z2 z3 z4 t0 t1 t2 t3 t4 p0 p1 p2 p3 p4 e => g z0 z1 z2 z3 z4 t0 t1 t2 t3 t4 e p0 p1 p2 p3 p4) rfl
theorem tups_eq {R : Nat → Int → Int → Int → Prop} {ys : List Value} {ts : List (Addr × Obj)} {G : Prop} (h : TupsAre R 5 ys ts)
    (g : ∀ a0 a1 a2 a3 a4 k0 k1 k2 k3 k4 h0 h1 h2 h3 h4 m0 m1 m2 m3 m4 p0 p1 p2 p3 p4 q0 q1 q2 q3 q4 r0 r1 r2 r3 r4, ys = [.ref a0, .ref a1, .ref a2, .ref a3, .ref a4] → ts = [(a4, tupO k4 h4 m4 p4 q4 r4), (a3, tupO k3 h3 m3 p3 q3 r3), (a2, tupO k2 h2 m2 p2 q2 r2), (a1, tupO k1 h1 m1 p1 q1 r1), (a0, tupO k0 h0 m0 p0 q0 r0)] →
      R 0 k0 h0 m0 → R 1 k1 h1 m1 → R 2 k2 h2 m2 → R 3 k3 h3 m3 → R 4 k4 h4 m4 → G) : G :=
  tups_five (C := fun y t => ys = y → ts = t → G) h (fun a0 a1 a2 a3 a4 k0 k1 k2 k3 k4 h0 h1 h2 h3 h4 m0 m1 m2 m3 m4 p0 p1 p2 p3 p4 q0 q1 q2 q3 q4 r0 r1 r2 r3 r4 c0 c1 c2 c3 c4 e1 e2 => g a0 a1 a2 a3 a4 k0 k1 k2 k3 k4 h0 h1 h2 h3 h4 m0 m1 m2 m3 m4 p0 p1 p2 p3 p4 q0 q1 q2 q3 q4 r0 r1 r2 r3 r4 e1 e2 c0 c1 c2 c3 c4) rfl rfl
theorem slice_min (i n : Nat) : max 0 (min ((i : Int) + 1) (n : Int)) = ((min (i + 1) n : Nat) : Int) := by omega
theorem slice_upto (vs : List Value) (i : Nat) : slicePick vs.toArray none (some ((i : Int) + 1)) none = (vs.take (i + 1)).toArray := by
  have e : sliceBounds none (some ((i : Int) + 1)) none vs.toArray.size = (((0 : Nat) : Int), ((min (i + 1) vs.toArray.size : Nat) : Int), 1) := by
    simp only [sliceBounds, Option.getD_none, show (1 : Int) > 0 by decide, if_true, if_neg (show ¬ ((i : Int) + 1 < 0) from Int.not_lt.mpr (Int.natCast_nonneg (i + 1)))]
    refine congrArg (fun x => (((0 : Nat) : Int), x, (1 : Int))) ?_
    exact slice_min i _
  rw [PySem.W.kmk_pick_nat _ e, List.drop_zero, Nat.sub_zero, List.size_toArray]
  congr 1
  rw [Nat.min_def]
  split
  · rfl
  · rw [List.take_of_length_le (Nat.le_refl _), List.take_of_length_le (Nat.le_of_not_le ‹_›)]
section
variable {w : World} {A : Around} {E : Value → Shared → Prop} {s : Shared} {h₀ : Heap} {L l : Addr} {m : Str → Option Value} {news : List (Addr × Obj)} {value slice : PySem.Expr} {vs : List Value} {u : Tok} {k i : Nat} {ops : List Value} {Q : Value → Shared → Prop}
theorem ls_at {v : Value} (hi5 : i < 5) (N : News h₀ L s.heap news) (hm : (l, W.listOf vs.toArray k) ∈ news) (e : vs[i]? = some v) (h : Q v s)
    (hs : subscripted slice false (.ref l) (.int (i : Int) u) = operate [.ref l, .int (i : Int) u] (getItem (.ref l) (.int (i : Int) u))) :
    wpAny (model PR w) A (subscriptTail value slice (.ref l) (.int (i : Int) u)) Q E s := by
  exact tail_any (Heap.IsList.typeIs ⟨_, (N _ hm).1, rfl, _, rfl⟩) slot_list_getitem.lookup (wpAny_getItem_list ⟨_, (N _ hm).1, rfl, _, rfl⟩ (Int.natCast_nonneg i) (by omega) (by rw [Int.toNat_natCast, List.getElem?_toArray]; exact e) h) hs
end
/-- what a turn of law leans on -/
noncomputable def TurnR (ds : List Addr) (D : List (Int × Int × Int)) (news : List (Addr × Obj)) (i : Nat) (d : Addr) (k h m : Int) (p q s : Tok) : Prop :=
  ds[i]? = some d ∧ D[i]? = some (k, h, m) ∧ (d, tupO k h m p q s) ∈ news ∧ (0 ≤ k ∧ k ≤ 2 ∧ 0 ≤ h ∧ h ≤ 1000 ∧ 0 ≤ m)
theorem turn_pick {ds : List Addr} {D : List (Int × Int × Int)} {news : List (Addr × Obj)} {i : Nat} {G : Prop} {d0 d1 d2 d3 d4 : Addr} {k0 k1 k2 k3 k4 h0 h1 h2 h3 h4 m0 m1 m2 m3 m4 : Int} {p0 p1 p2 p3 p4 q0 q1 q2 q3 q4 s0 s1 s2 s3 s4 : Tok}
    (t0 : TurnR ds D news 0 d0 k0 h0 m0 p0 q0 s0) (t1 : TurnR ds D news 1 d1 k1 h1 m1 p1 q1 s1) (t2 : TurnR ds D news 2 d2 k2 h2 m2 p2 q2 s2) (t3 : TurnR ds D news 3 d3 k3 h3 m3 p3 q3 s3) (t4 : TurnR ds D news 4 d4 k4 h4 m4 p4 q4 s4) (hi : i < 5)
    (g : ∀ d k h m p q s, TurnR ds D news i d k h m p q s → G) : G := by
  match i, hi with
  | 0, _ => exact g _ _ _ _ _ _ _ t0
  | 1, _ => exact g _ _ _ _ _ _ _ t1
  | 2, _ => exact g _ _ _ _ _ _ _ t2
  | 3, _ => exact g _ _ _ _ _ _ _ t3
  | 4, _ => exact g _ _ _ _ _ _ _ t4
theorem after_turn (w : World) (mean : ExcName → Option Value) (mg mb : Str → Option Value) (td : Addr) (zs : List Int) (D : List (Int × Int × Int)) (i : Nat) (t : Tok) (k z M : Int) (tk th tw : Tok) (ps qs : Array Value) (htr : TriplesOk ps.toList) (hts : TriplesOk qs.toList)
    (hl : zs.length = 5) (hzs : ∀ z ∈ zs, 0 ≤ z ∧ z ≤ 15) (hD : D[i]? = some (k, z, M)) (hk : 0 ≤ k ∧ k ≤ 2) (hz : 0 ≤ z ∧ z ≤ 1000) (hM : 0 ≤ M) :
    ROG w mean mg mb 248 [169, 176] (fun _ => True) [(td, tupO k z M tk th tw), (169, tabObj ps), (176, tabObj qs)] [.str (dueT zs (D.take i)) t, .ref td] (fun _ v h' => (∃ t, v = .str (dueT zs (D.take (i + 1))) t) ∧ TabsAt h') 240 2400 := by
  have ok : DOk (dueFold zs (D.take i)) := fold_ok zs (D.take i) _ ok0
  unfold dueT
  rw [due_next hD, ← after_step hl (fun z h => (hzs z h).1) ok]
  refine after_cl w mean mg mb td (dueW zs (dueFold zs (D.take i))) t k z M tk th tw ps qs htr hts ?_ ?_ hk hz hM
  · rw [dueW_eq, List.length_map, List.length_range]
    exact cN_le ok
  · intro m hm
    rw [dueW_eq] at hm
    obtain ⟨j, _, rfl⟩ := List.mem_map.mp hm
    have hj : 0 ≤ zs.getD j 0 ∧ zs.getD j 0 ≤ 15 := by
      rw [List.getD_eq_getElem?_getD]
      cases h : zs[j]? with
      | none => simp
      | some z => simpa using hzs z (List.mem_of_getElem? h)
    have := fdiv_bound (h := (dueFold zs (D.take i)).2.1) hj.1 hj.2 ok.a0 ok.a1
    show ((zs.getD j 0 + (dueFold zs (D.take i)).1).fdiv (2 ^ (dueFold zs (D.take i)).2.1.toNat)).toNat ≤ 15
    omega
theorem due0 (r0 r1 r2 r3 r4 : Int) : dueT [r0, r1, r2, r3, r4] [] = textS ((List.range 5).map fun i => ([r0, r1, r2, r3, r4].getD i 0).toNat) := by
  show textS (dueW [r0, r1, r2, r3, r4] (0, 0, 5)) = _
  rw [dueW_zero rfl]
  rfl
theorem kst_own {m : Str → Option Value} {ps : List (Str × Value)} (h : ∀ p ∈ ps, m p.1 = some p.2) : kstB m ps = m := funext fun _ => kstB_eq h fun _ => rfl
theorem ne_same {prog : Program} {w : World} {A : Around} {E : Value → Shared → Prop} {s : Shared} {Q : Value → Shared → Prop} {x y : Str} {t u : Tok} (e : x = y) (h : Q (.bool false) s) : wpAny (model prog w) A (compareOp .NotEq (.str x t) (.str y u)) Q E s := by
  subst e
  refine ne_str ?_
  simpa using h
theorem news_tabs {h₀ h h' : Heap} {L J : Addr} {oJ : Obj} {ps qs ps' qs' : Array Value} {fx : List (Addr × Obj)} (N : News h₀ L h ((J, oJ) :: (169, tabObj ps) :: (176, tabObj qs) :: fx)) (K : KeptBut [169, 176] h h')
    (e1 : h'.get? 169 = some (tabObj ps')) (e2 : h'.get? 176 = some (tabObj qs')) (ne : ∀ p ∈ (169, tabObj ps) :: (176, tabObj qs) :: fx, @Ne Nat p.1 J) (hf : ∀ p ∈ fx, @Ne Nat p.1 169 ∧ @Ne Nat p.1 176) :
    News h₀ L h' ((J, oJ) :: (169, tabObj ps') :: (176, tabObj qs') :: fx) := by
  intro p hp
  rcases List.mem_cons.mp hp with rfl | hp
  · have z := N _ (List.mem_cons_self ..)
    have a := ne _ (List.mem_cons_self ..)
    have b := ne _ (List.mem_cons_of_mem _ (List.mem_cons_self ..))
    exact ⟨K _ _ (fun hm => by
      rcases List.mem_cons.mp hm with e | hm
      · exact a e.symm
      · exact b (List.mem_singleton.mp hm).symm) z.1, z.2⟩
  rcases List.mem_cons.mp hp with rfl | hp
  · exact ⟨e1, (N (169, tabObj ps) (by simp)).2⟩
  rcases List.mem_cons.mp hp with rfl | hp
  · exact ⟨e2, (N (176, tabObj qs) (by simp)).2⟩
  have z := N p (by simp [hp])
  obtain ⟨a, b⟩ := hf p hp
  exact ⟨K _ _ (fun hm => by
      rcases List.mem_cons.mp hm with e | hm
      · exact a e
      · exact b (List.mem_singleton.mp hm)) z.1, z.2⟩
theorem news_pick {h₀ h : Heap} {L : Addr} {a b c4 c3 c2 c1 c0 e f g o t1 t2 : Addr × Obj} (N : News h₀ L h [a, b, c4, c3, c2, c1, c0, e, f, g, o, t1, t2]) : News h₀ L h (t1 :: t2 :: [b, c4, c3, c2, c1, c0, e, o]) := cb_drop N (by simp)
theorem tups_off {h₀ h : Heap} {L a0 a1 a2 a3 a4 Dd Dr C : Addr} {o1 o2 o3 b0 b1 b2 b3 b4 : Obj} {x y : Array Value} (N : News h₀ L h ((169, tabObj x) :: (176, tabObj y) :: [(Dd, o1), (a4, b4), (a3, b3), (a2, b2), (a1, b1), (a0, b0), (Dr, o2), (C, o3)]))
    (k0 : (b0.cls == .type "tuple") = true) (k1 : (b1.cls == .type "tuple") = true) (k2 : (b2.cls == .type "tuple") = true) (k3 : (b3.cls == .type "tuple") = true) (k4 : (b4.cls == .type "tuple") = true)
    (hd : @Ne Nat Dd 169 ∧ @Ne Nat Dd 176) (hr : @Ne Nat Dr 169 ∧ @Ne Nat Dr 176) (hc : @Ne Nat C 169 ∧ @Ne Nat C 176) : ∀ p ∈ [(Dd, o1), (a4, b4), (a3, b3), (a2, b2), (a1, b1), (a0, b0), (Dr, o2), (C, o3)], @Ne Nat p.1 169 ∧ @Ne Nat p.1 176 := by
  have key : ∀ a b, (a, b) ∈ (169, tabObj x) :: (176, tabObj y) :: [(Dd, o1), (a4, b4), (a3, b3), (a2, b2), (a1, b1), (a0, b0), (Dr, o2), (C, o3)] → (b.cls == .type "tuple") = true → @Ne Nat a 169 ∧ @Ne Nat a 176 := by
    intro a b hm hb
    have hb' : b.cls = .type "tuple" := by simpa using hb
    exact ⟨news_ne N hm (o' := tabObj x) (by simp) (by rw [hb']; simp), news_ne N hm (o' := tabObj y) (by simp) (by rw [hb']; simp)⟩
  refine List.forall_mem_cons.mpr ⟨hd, List.forall_mem_cons.mpr ⟨key _ _ (by simp) k4, List.forall_mem_cons.mpr ⟨key _ _ (by simp) k3, List.forall_mem_cons.mpr ⟨key _ _ (by simp) k2, List.forall_mem_cons.mpr ⟨key _ _ (by simp) k1, List.forall_mem_cons.mpr ⟨key _ _ (by simp) k0, List.forall_mem_cons.mpr ⟨hr, List.forall_mem_cons.mpr ⟨hc, List.forall_mem_nil _⟩⟩⟩⟩⟩⟩⟩⟩
theorem nat900 {r : Int} (h : 0 ≤ r ∧ r ≤ 15) : r.toNat ≤ 900 := by omega
theorem le1000 {r : Int} (h : 0 ≤ r ∧ r ≤ 15) : r ≤ 1000 := by omega
theorem gt_ne {L : Nat} (h : 169 < L ∧ 176 < L) : @Ne Nat (L + 1) 169 ∧ @Ne Nat (L + 1) 176 := by omega
theorem pre5 {h : Heap} {d0 d1 d2 d3 d4 : Addr} {k0 k1 k2 k3 k4 h0 h1 h2 h3 h4 m0 m1 m2 m3 m4 : Int} {p0 p1 p2 p3 p4 q0 q1 q2 q3 q4 s0 s1 s2 s3 s4 : Tok} (t0 : h.get? d0 = some (tupO k0 h0 m0 p0 q0 s0)) (t1 : h.get? d1 = some (tupO k1 h1 m1 p1 q1 s1)) (t2 : h.get? d2 = some (tupO k2 h2 m2 p2 q2 s2))
    (t3 : h.get? d3 = some (tupO k3 h3 m3 p3 q3 s3)) (t4 : h.get? d4 = some (tupO k4 h4 m4 p4 q4 s4)) (n : Nat) (i : Nat) (d : Addr) (e : ([d0, d1, d2, d3, d4].take n)[i]? = some d) :
    ∃ (k hd wd : Int) (tk th tw : Tok), h.get? d = some (tupO k hd wd tk th tw) ∧ ([(k0, h0, m0), (k1, h1, m1), (k2, h2, m2), (k3, h3, m3), (k4, h4, m4)].take n)[i]? = some (k, hd, wd) := by
  rw [List.getElem?_take] at e ⊢
  split at e
  · rename_i hlt
    rw [if_pos hlt]
    match i, e with
    | 0, e => cases e; exact (exI6 _ _ _ _ _ _ ⟨t0, rfl⟩)
    | 1, e => cases e; exact (exI6 _ _ _ _ _ _ ⟨t1, rfl⟩)
    | 2, e => cases e; exact (exI6 _ _ _ _ _ _ ⟨t2, rfl⟩)
    | 3, e => cases e; exact (exI6 _ _ _ _ _ _ ⟨t3, rfl⟩)
    | 4, e => cases e; exact (exI6 _ _ _ _ _ _ ⟨t4, rfl⟩)
    | i + 5, e => simp at e
  · cases e
theorem ne_tabs {J : Addr} {ps qs ps' qs' : Array Value} {fx : List (Addr × Obj)} (ne : ∀ p ∈ (169, tabObj ps) :: (176, tabObj qs) :: fx, @Ne Nat p.1 J) : ∀ p ∈ (169, tabObj ps') :: (176, tabObj qs') :: fx, @Ne Nat p.1 J := by
  intro p hp
  rcases List.mem_cons.mp hp with rfl | hp
  · exact ne (169, tabObj ps) (List.mem_cons_self ..)
  rcases List.mem_cons.mp hp with rfl | hp
  · exact ne (176, tabObj qs) (List.mem_cons_of_mem _ (List.mem_cons_self ..))
  exact ne p (List.mem_cons_of_mem _ (List.mem_cons_of_mem _ hp))
section
variable {w : World} {A : Around} {E : Value → Shared → Prop} {s : Shared} {env : Env} {h₀ : Heap}
/-- a loop over range(n) whose turns may change the generators' table -/
noncomputable abbrev rgIt (i n : Nat) : Obj := { cls := .type "range_iterator", data := .fields #[rawInt (i : Int), rawInt ((n : Int) - i), rawInt 1] }
noncomputable def UpI (h₀ : Heap) (L : Addr) (I : Nat → (Str → Option Value) → List (Addr × Obj) → Array GenState → Prop) (s₁ : Shared) (n : Nat) (J : Addr) (k : Nat) (s : Shared) : Prop :=
  ∃ i m news h tk gs, k = n - i ∧ i ≤ n ∧ s = { s₁ with heap := h, toks := tk, gens := gs } ∧ Fr h₀ L h m ∧ News h₀ L h ((J, rgIt i n) :: news) ∧ (∀ p ∈ news, @Ne Nat p.1 J) ∧ I i m news gs
theorem for_upto {x : Str} {px pos : Pos} {iter : PySem.Expr} {body orelse : List Stmt} {Q : Flow → Shared → Prop} (I : Nat → (Str → Option Value) → List (Addr × Obj) → Array GenState → Prop)
    (hE : PassesOwn (model PR w) A env E) (hh : A.handled = none) (hx : env.kindOf x = some .local) (hp : (env.scope.kind == .class || (env.scope.kind == .module && env.locals != env.globals)) = false)
    (h : wpAny (model PR w) A (PySem.eval iter env) (fun v s₁ => Hold (∃ r ta tb tc m news, ∃ n : Nat, v = .ref r ∧ IsRange s₁.heap r 0 (n : Int) 1 ta tb tc ∧ n ≤ 100 ∧ Fr h₀ env.locals s₁.heap m ∧ News h₀ env.locals s₁.heap news ∧ I 0 m news s₁.gens ∧
      (∀ (i : Nat) m news J oJ t' h' tk' gs', i < n → I i m news gs' → Fr h₀ env.locals h' (fun y => if y = x then some (.int (i : Int) t') else m y) → News h₀ env.locals h' ((J, oJ) :: news) → (∀ p ∈ news, @Ne Nat p.1 J) →
        wpAny (model PR w) A (execs body env) (fun f s₃ => match f with
          | .brk => Q .next s₃
          | .ret v => Q (.ret v) s₃
          | _ => Hold (∃ h tk gs m' news', s₃ = { s₁ with heap := h, toks := tk, gens := gs } ∧ Fr h₀ env.locals h m' ∧ News h₀ env.locals h ((J, oJ) :: news') ∧ (∀ p ∈ news', @Ne Nat p.1 J) ∧ I (i + 1) m' news' gs)) E { s₁ with heap := h', toks := tk', gens := gs' }) ∧
      (∀ m news h' tk' gs', I n m news gs' → Fr h₀ env.locals h' m → News h₀ env.locals h' news → wpAny (model PR w) A (execs orelse env) Q E { s₁ with heap := h', toks := tk', gens := gs' }))) E s)
    (hs : ∀ x, foldedSetIterable iter env x = pure x) : wpAny (model PR w) A (exec (.For (.Name x px) iter body orelse pos) env) Q E s := by
  refine for_run2 hE (wpAny_mono h (fun v s₁ h₁ => ?_) fun _ _ e => e) hs (fun _ _ => rfl)
  refine exE7 h₁.out fun r ta tb tc m news n q => andE8 q fun ev hr hn F N h0 ht hd => ?_
  clear h h₁ q
  refine eqE (C := fun v => wpAny (model PR w) A (pyIter v) _ E s₁) ev ?_
  have P := ks_pushed (o := { cls := .type "range_iterator", data := .fields #[rawInt 0, rawInt (Builtin.Range.rangeSize 0 (n : Int) 1), rawInt 1] }) F N rfl
  refine wpAny_pyIter_range hr (small_one (by decide) (by decide) (by omega) (by omega)) ⟨UpI h₀ env.locals I s₁ n s₁.heap.objs.size, ⟨n, 0, m, news, _, s₁.toks, s₁.gens, rfl, Nat.zero_le _, rfl, P.1, ?_, fun p hp => Nat.ne_of_lt (P.2.2 p hp), h0⟩, ?_⟩
  · have N' := P.2.1
    rw [rangeSize_nat] at N' ⊢
    rw [show rgIt 0 n = { cls := .type "range_iterator", data := .fields #[rawInt 0, rawInt (n : Int), rawInt 1] } from by simp [rgIt]]
    exact N'
  clear P F N h0
  generalize s₁.heap.objs.size = J
  intro k s hI
  refine exE6 hI fun i m news h tk gs q => andE7 q fun ek hi es F N ne hI => ?_
  clear q hr
  refine eqE (C := fun s => wpAny (model PR w) A (pyNext (.ref J)) _ E s) es ?_
  have hit : IsRangeIter h J (i : Int) ((n : Int) - i) 1 := (N _ (List.mem_cons_self ..)).1
  by_cases hlt : i < n
  · refine wpAny_pyNext_range_item (s := { s₁ with heap := h, toks := tk, gens := gs }) hit (by omega) fun h' hit' hs' => ?_
    have hit2 : h'.get? J = some (rgIt (i + 1) n) := by
      have e : h'.get? J = some _ := hit'
      rw [e, rgIt, show ((i : Int) + 1) = ((i + 1 : Nat) : Int) by omega, show ((n : Int) - i - 1) = (n : Int) - ((i + 1 : Nat) : Int) by omega]
    have P := kept1_to F N ne (keptBut_same hs') hit2
    refine wpAny_assign_Name (wpAny_storeName_local hx P.1.ns (fun h2 hn2 hs2 => ?_) hp)
    refine wpAny_mono (ht i m news J _ _ h2 _ gs hlt hI (P.1.set hn2 hs2) (P.2.set hs2) ne) (fun f s₃ h₃ => ?_) fun _ _ e => e
    have go : Hold (∃ h tk gs m' news', s₃ = { s₁ with heap := h, toks := tk, gens := gs } ∧ Fr h₀ env.locals h m' ∧ News h₀ env.locals h ((J, rgIt (i + 1) n) :: news') ∧ (∀ p ∈ news', @Ne Nat p.1 J) ∧ I (i + 1) m' news' gs) → ∃ m, m < k ∧ UpI h₀ env.locals I s₁ n J m s₃ := fun q =>
      exE5 q.out fun h tk gs m' news' q => andE5 q fun e a b c d => ⟨n - (i + 1), by omega, i + 1, m', news', h, tk, gs, rfl, hlt, e, a, b, c, d⟩
    cases f with
    | brk => exact h₃
    | ret v => exact h₃
    | next => exact go h₃
    | cont => exact go h₃
  · have e : i = n := by omega
    rw [e] at hI
    refine wpAny_pyNext_range_end (s := { s₁ with heap := h, toks := tk, gens := gs }) hh hit (by omega) fun h' hs' => ?_
    have P := kept1 F N ne (kept_end hs')
    exact hd m news h' tk gs hI P.1 P.2
end
end Mine
end
section
open PySem PySem.W PyProof.Rows
set_option Elab.async false
set_option maxRecDepth 100000
set_option maxHeartbeats 0
namespace Mine.U
noncomputable abbrev PP : Program := PySem.Challenge.rw_yf0025_01.row.prog
theorem left_ho : ∀ w : World, (fencedOpening treeTable PP w 3604).map (fun s => (s.heap, s.gens, s.drawn, s.toks)) = some (hh (l0 (hd.heap_1 w.params) w.params) w.params, #[], boot_drawn, 276) := by
  intro w; kernel_rfl
theorem left_hs : ∀ w : World, ((hh (l0 (hd.heap_1 w.params) w.params) w.params).isNs mainGlobals && (#[] : Array GenState).size == 0, (hh (l0 (hd.heap_1 w.params) w.params) w.params).objs.size, (hh (l0 (hd.heap_1 w.params) w.params) w.params).nsMap mainGlobals "__annotations__") = (true, 28, some (.ref 6)) := by
  intro w; kernel_rfl
theorem left_hp : ∀ (w : World) (os : OsState), topGo treeTable PP w 28 (some (.ref 6)) 12 (sh (l0 (hd.heap_1 w.params) w.params) w.params 276 os) (topStub PP) = some (sh (lA (hd.heap_1 w.params) w.params) w.params 282 os, ⟨denote treeTable (bC PP), bC PP, pq, [topFrame pq]⟩) := by
  intro w os; kernel_rfl
theorem left_hb : ∀ (w : World) (os : OsState), segRun treeTable PP w 28 (some (.ref 6)) 1 1 (sh (lA (hd.heap_1 w.params) w.params) w.params 282 os) (blockOf (behindTheImports PP) (bE PP) (bC PP) pq [topFrame pq]) = some (.next, (st (lA (hd.heap_1 w.params) w.params) w.params 32 282 os).abs, bC PP, pq) := by
  intro w os; kernel_rfl
theorem left_r1 : ∀ (w : World) (os : OsState), rT PP w 700 (st (lA (hd.heap_1 w.params) w.params) w.params 32 282 os) ((behindTheImports PP).take 8) pq = some (.next, st (lB (hd.heap_1 w.params) w.params) w.params 128 445 os, bC PP, po 23 0 94 47) := by
  intro w os; kernel_rfl
theorem left_r2 : ∀ (w : World) (os : OsState), rT PP w 600 (st (lB (hd.heap_1 w.params) w.params) w.params 128 445 os) (((behindTheImports PP).drop 8).take 1) (po 23 0 94 47) = some (.next, st (lC (hd.heap_1 w.params) w.params) w.params 212 541 os, bC PP, po 95 0 130 32) := by
  intro w os; kernel_rfl
theorem left_r3 : ∀ (w : World) (os : OsState), rT PP w 700 (st (lC (hd.heap_1 w.params) w.params) w.params 212 541 os) (((behindTheImports PP).drop 8).drop 1) (po 95 0 130 32) = some (.next, st (lZ (hd.heap_1 w.params) w.params) w.params 266 622 os, bC PP, po 193 0 202 15) := by
  intro w os; kernel_rfl
theorem left_hf : ∀ (w : World) (os : OsState), topRun treeTable PP w 28 (some (.ref 6)) 2 (st (lZ (hd.heap_1 w.params) w.params) w.params 266 622 os).abs ⟨doneF .next, bC PP, po 193 0 202 15, [topFrame pq]⟩ = some (sh (lZ (hd.heap_1 w.params) w.params) w.params 622 os) := by
  intro w os; kernel_rfl
theorem left_l1 : ∀ (w : World) (os : OsState), (staticsOk (importedModules PP.main.body) (hh (l0 (hd.heap_1 w.params) w.params) w.params) (hh (lZ (hd.heap_1 w.params) w.params) w.params) && namesBound PP (hh (lZ (hd.heap_1 w.params) w.params) w.params) && gensDone (sh (lZ (hd.heap_1 w.params) w.params) w.params 622 os) && laidKept (hh (l0 (hd.heap_1 w.params) w.params) w.params) (hh (lZ (hd.heap_1 w.params) w.params) w.params)) = true := by
  intro w os; kernel_rfl
theorem left_l2 : ∀ (w : World) (os : OsState), openSeen hd.view_1 [Str.ofString "_twin_re_1", Str.ofString "_Accumulator"] (importedModules PP.main.body) (fun s => xlAt hd.view_1 [] s && recOk PySem.Challenge.rw_yf0025_01.row.records s) true (sh (lZ (hd.heap_1 w.params) w.params) w.params 622 os) = openGood hd.view_1 [Str.ofString "_twin_re_1", Str.ofString "_Accumulator"] := by
  intro w os; kernel_rfl
end Mine.U
end
section
open PySem PySem.W PySem.Calls PyProof.Rows
set_option Elab.async false
set_option maxRecDepth 100000
set_option maxHeartbeats 8000000
set_option pp.deepTerms false
set_option pp.deepTerms.threshold 6
set_option pp.maxSteps 4000
set_option pp.proofs false
namespace Mine
noncomputable def EndL (s₁ : Shared) (tabs : List (Addr × Addr)) (r : Result) (s' : Shared) : Prop :=
  r = .ok (.ret (.bool true)) ∧ (∀ b o, (ghostOf s₁.heap tabs).get? b = some o → s'.heap.get? b = some o) ∧ GrownAll tabs s'.heap ∧ s'.os = s₁.os ∧ AllBare s'.gens
noncomputable def LawEnd (s₁ : Shared) (f : Flow) (s' : Shared) : Prop := EndL s₁ [(173, 169), (180, 176)] (.ok (.ret (match f with | .ret v => v | _ => .none))) s'
theorem law_post {M : Model} {A : Around} {cd : Code} {s s₁ : Shared} {cw : ClaimW} {cl : Str → Option Addr} {mean : ExcName → Option Value} {args : List WData} {tabs : List (Addr × Addr)} (hT : PySem.W.TabsAt tabs s₁.heap) (hr : ∀ x, cw.raises args x = false) (hp : cw.post args (.bool true) args = true)
    (h : codeAny M A cd (EndL s₁ tabs) s) : codeAny M A cd (GoodWG cw cl mean args s₁) s :=
  codeAny_mono h fun r s' ⟨e, hk, hgr, hos, hg⟩ => by
    subst e
    have keep : ∀ b o, b ∉ tabs.map (·.2) → s₁.heap.get? b = some o → s'.heap.get? b = some o := fun b o hb e => hk b o (ghost_ne e hb)
    have grown : ∀ b o, b ∈ tabs.map (·.2) → s₁.heap.get? b = some o → isCodeTable s₁.heap b ∧ o = tabObj #[] ∧ ∃ ps, s'.heap.get? b = some (tabObj ps) := fun b o hb e => by
      obtain ⟨q, hq, rfl⟩ := List.mem_map.mp hb
      have e2 := (hT q hq).2
      rw [e] at e2
      exact ⟨((hT q hq).1.tab (hT q hq).2).isCodeTable, Option.some.inj e2, hgr.get q hq⟩
    refine ⟨.inl ⟨_, _, [], rfl, hr, ReadsW.bool true, hp, fun _ => ⟨List.nodup_nil, fun _ hm => nomatch hm⟩⟩, ⟨fun b o e => ?_, fun b o e => ?_⟩, hos, hg⟩
    · by_cases hb : b ∈ tabs.map (·.2)
      · obtain ⟨ht, rfl, ps, hP⟩ := grown b o hb e
        exact .inr (.inl ⟨ht, rfl, #[], ps, rfl, by rw [Array.empty_append]; exact hP⟩)
      · exact .inl (keep b o hb e)
    · by_cases hb : b ∈ tabs.map (·.2)
      · obtain ⟨_, _, ps, hP⟩ := grown b o hb e
        exact ⟨_, hP⟩
      · exact ⟨o, keep b o hb e⟩
local macro_rules | `(tactic| k_steps) => `(tactic| repeat' (first | (k_unfold; (try dsimp only)) | walk1 | (dsimp only; walk1) | (leave1; walk_say "STEP leave1"; (try dsimp only)) | fail "no step"))
theorem item_int {vs : List Value} {i : Nat} {v : Value} (e : vs[i]? = some v) (h : ∀ v ∈ vs, ∃ z t, v = .int z t) : ∃ z t, v = .int z t := h v (List.mem_of_getElem? e)
theorem news_n7 {h₀ h : Heap} {L : Addr} {a b1 b2 b3 c d e : Addr × Obj} (N : News h₀ L h [a, b1, b2, b3, c, d, e]) : News h₀ L h [a, c, d, e] := cb_drop N (by simp)
theorem law_any {M : Model} {A : Around} {t : Sem Flow} {s₁ s : Shared} {gh : Heap} (e : gh = ghostOf s₁.heap [(173, 169), (180, 176)]) (hs : s.os = s₁.os)
    (h : ∀ (Q : Flow → Shared → Prop) (E : Value → Shared → Prop), (∀ e s, E e s → False) → (∀ h' tk' gs', (∀ b o, gh.get? b = some o → h'.get? b = some o) → TabsAt h' → AllBare gs' → Q (.ret (.bool true)) { s with heap := h', toks := tk', gens := gs' }) → wpAny M A t Q E s) : wpAny M A t (LawEnd s₁) (fun _ _ => False) s := by
  subst e
  refine h _ _ (fun _ _ e => e) fun h' tk' gs' hk ht hg => ?_
  obtain ⟨⟨ps, p1, p2⟩, ⟨qs, q1, q2⟩⟩ := ht
  exact ⟨rfl, hk, ⟨⟨ps, p2⟩, ⟨qs, q2⟩, trivial⟩, hs, hg⟩
theorem rows_LAW_1 : True := by
  k_with_none
  w_top off
  k_with "pj" => (first | assumption | exact pj1 (by assumption) | exact pj2 (by assumption) | exact pj3 (by assumption) | exact pj4 (by assumption) | exact pj5 (by assumption) | exact pj6 (by assumption) | exact pl2 (by assumption) | exact pl3 (by assumption) | exact pl4 (by assumption) | exact pl5 (by assumption) | exact pl6 (by assumption) | exact pl7 (by assumption))
  k_with "k_ne" => (refine neN ?_; (try dsimp only); (first | exact ne_u1 | exact ne_d1 | exact ne_u2 | exact ne_d2 | exact ne_u3 | exact ne_d3 | exact ne_l0 (by walk_at "pj") | exact ne_l1 (by walk_at "pj") | exact ne_l2 (by walk_at "pj") | exact ne_l3 (by walk_at "pj") | exact ne_g0 (by walk_at "pj") | exact ne_g1 (by walk_at "pj") | exact ne_g2 (by walk_at "pj") | exact ne_g3 (by walk_at "pj") | walk_at "pj" | exact Ne.symm (by walk_at "pj") | omega))
  k_with "subscriptTail" => (k_here; (with_reducible show wpAny _ _ (subscriptTail (PySem.Expr.BinOp _ _ _ _) (PySem.Expr.Slice _ _ _ _) (Value.ref _) (Value.ref _)) _ _ _); k_dflt (refine' nums_slice ?zF ?zN ?zl ?zi ?_ ?zs; (case zF => k_asm); (case zN => k_asm); (case zl => k_mem); (case zi => assumption); (case zs => with_unfolding_all rfl); k_whole); intro _ _ _ _ _ _ _ _ _ _ _ _ _ _ lz1; (try k_lt lz1); (try dsimp only))
  trivial
theorem t0 : PySem.Challenge.rw_yf0025_01.Holds := hd (And.intro (U.left_by U.left_ho U.left_hs U.left_hp U.left_hb U.left_r1 U.left_r2 U.left_r3 U.left_hf (by rfl) U.left_l1 U.left_l2 (fun w os => by kernel_rfl)) (by
  k_fill
  intro w s₀ s₁ mg mb G Y fa o pm cd doc dV kV ho hdd hcd hD hmg hg args vals as hpre hlay hrd hwl hlo
  have KX := km_in_of Y
  have hT8 := km_tabs_of Y
  refine Ground.open G ?_
  intro T B D TE TW
  try (refine guard_noD D (by decide +kernel) ?_; clear D)
  have hT9 : PySem.W.TabsAt [(173, 169), (180, 176)] s₁.heap := List.forall_mem_cons.mpr ⟨⟨codeHd_of_K (c := 173) (P := 169) KX (by kernel_rfl), hT8 169 (by simp)⟩, List.forall_mem_cons.mpr ⟨⟨codeHd_of_K (c := 180) (P := 176) KX (by kernel_rfl), hT8 176 (by simp)⟩, fun _ h => nomatch h⟩⟩
  clear hmg
  wrow_args hpre hlay hrd hwl hlo
  first | refine callC_kw (enter_call ?_) | refine enter_call ?_
  w_top on
  refine law_post hT9 (fun _ => rfl) ?hp ?_
  case hp => wrow_post
  w_call any ho hdd hcd hD T F
  clear hdd
  kn_ghosts F T
  k_drop
  refine wpAny_mono (Q := LawEnd s₁) (E := fun _ _ => False) ?walk ?_ (fun _ _ e => e.elim)
  rotate_left
  · intro f s' h
    exact h
  case walk =>
    dsimp only
    refine law_any rfl rfl ?_
    intro Q E hEF hret
    have hg' : AllBare s₁.gens := by rw [hg]; intro i g; simp at g
    clear hg
    rename CellsAre _ _ _ => CC
    (try clear hD); (try clear hcd); (try clear ho); (try clear hT8); (try clear G); (try clear TE); (try clear TW); (try clear T); (try clear B); (try clear hT9)
    rename Below _ _ _ _ => B1
    rename Fr _ _ _ _ => F1
    rename News _ _ _ _ => N1
    rename Top _ _ _ _ _ _ => T1
    rename Frag.In _ _ => X1
    rename _ < s₁.heap.objs.size ∧ _ => l1
    rename Heap.IsList (ghostOf _ _) _ _ => hl1
    rename IntsAre _ _ => hI
    rename _ = Data.cell _ => dR
    rename ReadsAll _ _ _ _ => ra
    rename Well _ _ _ _ => wl
    rename Reads _ _ _ _ => rd
    rename ReadsAllW _ _ _ _ _ _ => rw'
    rename ¬ _ < _ => h63
    rename True => tt
    rename Heap.IsList s₁.heap _ _ => hl0
    rename CodeHd _ _ _ => cc1
    clear cc1
    rename CodeHd _ _ _ => cc2
    clear ra wl rd rw' tt hl0 cc2
    (try clear Y)
    rename WData.layableAll _ = _ => q1
    clear q1
    rename WShape.hasAll _ _ _ = _ => q1
    clear q1
    rename PyData.layable0 _ = _ => q1
    clear q1
    rename PyData.layableAll0 _ = _ => q1
    clear q1
    rename Spec.Shape.has _ _ = _ => q1
    clear q1
    generalize hgh : ghostOf s₁.heap [(173, 169), (180, 176)] = gh at B1 F1 N1 T1 X1 hl1 hret
    (try clear hgh)
    generalize s₁.heap.objs.size = L at *
    generalize ExcName.means s₀.heap = mean at T1
    rename Obj => oR
    replace dR : oR.data = .cell none := dR
    k_with "exec Assign cons ListComp" => (k_here; lcg_calm; k_dflt (refine LCg.Assign_ListComp_U (F₀ := by k_asm) (by rfl) (by with_unfolding_all rfl) (by with_unfolding_all rfl) (by decide) (by rfl) (by decide) (by rfl) (by rfl) (by rfl) ?_))
    k_with "CompSrc" => (refine Hold.out ?rS)
    w_strict k_steps
    case rS =>
      refine Hold.in ?_
      rename News _ _ _ _ => N2
      replace N2 := news_n7 N2
      refine' csrc_ledger (fun _ r => ∃ z t, r = .int z t ∧ 0 ≤ z ∧ z < 1000000) ?a1 ?a2 ?a3 ?a4 ?a5 ?a6 ?a7
      (case a2 => exact rfl); (case a3 => k_asm); (case a4 => k_asm); (case a5 => exact List.mem_cons_self ..); (case a1 => exact Nat.le_of_ble_eq_true rfl)
      case a6 =>
        intro i v I9 oI9 C9 oC9 D9 m9 ys9 h9 g9 tk9 E9 hi9 hC9 hx9 F9 N9 off9 ne9
        obtain ⟨z9, t9, rfl⟩ : ∃ z t, v = .int z t := by
          exact item_int hi9 (by intro v hv; simp only [List.mem_cons, List.not_mem_nil, or_false] at hv; rcases hv with rfl | rfl | rfl | rfl | rfl <;> exact ⟨_, _, rfl⟩)
        simp only [LCg.Off3, and_true] at off9
        k_with "CompEnd" => (refine Hold.out ?rE)
        w_strict k_steps
        case rE =>
          exact Hold.in (compEnd_el (by assumption) (by assumption) (by kcf_all) (by simp only [LCg.Off3, and_true]; assumption) (by lcg_src) ⟨_, _, rfl, Int.fmod_nonneg_of_pos _ (by decide), Int.fmod_lt_of_pos _ (by decide)⟩)
      case a7 =>
        intro g9 ys9 hl9 hR9
        refine five_eq hl9 hR9 fun z0 z1 z2 z3 z4 t0 t1 t2 t3 t4 e9 b0 b1 b2 b3 b4 => ?_
        clear hl9 hR9
        subst e9
        k_with "CompSrc" => (refine Hold.out ?rS2)
        w_strict k_steps
        case rS2 =>
          refine Hold.in ?_
          refine' csrc_ledger (fun _ r => ∃ z t, r = .int z t ∧ 0 ≤ z ∧ z ≤ 15) ?c1 ?c2 ?c3 ?c4 ?c5 ?c6 ?c7
          (case c2 => exact rfl); (case c3 => k_asm); (case c4 => k_asm); (case c5 => exact List.mem_cons_self ..); (case c1 => exact Nat.le_of_ble_eq_true rfl)
          case c6 =>
            intro i v I9 oI9 C9 oC9 D9 m9 ys9 h9 g9 tk9 E9 hi9 hC9 hx9 F9 N9 off9 ne9
            obtain ⟨z9, t9, rfl⟩ : ∃ z t, v = .int z t := by
              exact item_int hi9 (by intro v hv; simp only [List.mem_cons, List.not_mem_nil, or_false] at hv; rcases hv with rfl | rfl | rfl | rfl | rfl <;> exact ⟨_, _, rfl⟩)
            simp only [LCg.Off3, and_true] at off9
            k_with "CompEnd" => (refine Hold.out ?rE2)
            w_strict k_steps
            case rE2 =>
              exact Hold.in (compEnd_el (by assumption) (by assumption) (by kcf_all) (by simp only [LCg.Off3, and_true]; assumption) (by lcg_src) ⟨_, _, rfl, Int.fmod_nonneg_of_pos _ (by decide), Int.le_of_lt_add_one (Int.fmod_lt_of_pos _ (by decide))⟩)
          case c7 =>
            intro g9 ys9 hl9 hR9
            refine five_eq hl9 hR9 fun r0 r1 r2 r3 r4 v0 v1 v2 v3 v4 e9 a0 a1 a2 a3 a4 => ?_
            clear hl9 hR9
            subst e9
            k_with "CompSrc" => (refine Hold.out ?rS3)
            w_strict k_steps
            case rS3 =>
              refine Hold.in ?_
              refine' csrc_tup (fun _ k z M => 0 ≤ k ∧ k ≤ 2 ∧ 0 ≤ z ∧ z ≤ 1000 ∧ 0 ≤ M) ?e1 ?e2 ?e3 ?e4 ?e5 ?e6 ?e7
              (case e1 => exact rfl); (case e2 => k_asm); (case e3 => k_asm); (case e4 => exact List.mem_cons_of_mem _ (List.mem_cons_self ..)); (case e5 => exact Nat.le_of_ble_eq_true rfl)
              case e6 =>
                intro i v I9 oI9 C9 oC9 D9 m9 ys9 lg9 h9 g9 tk9 E9 hi9 hs9 hC9 hx9 F9 N9 off9 ne9
                obtain ⟨z9, t9, rfl⟩ : ∃ z t, v = .int z t := by
                  exact item_int hi9 (by intro v hv; simp only [List.mem_cons, List.not_mem_nil, or_false] at hv; rcases hv with rfl | rfl | rfl | rfl | rfl <;> exact ⟨_, _, rfl⟩)
                k_with "newTuple" => (refine Hold.out ?rT)
                w_strict k_steps
                case rT =>
                  refine Hold.in (kup_newTuple F9 N9 ?_ (Nat.le_of_ble_eq_true rfl))
                  intro T9 h9' F9' N9' l9
                  refine compEnd_tup F9' N9' l9 off9 (List.mem_cons_of_mem _ (List.mem_cons_self ..)) hs9 ?_
                  have x1 := Int.fmod_nonneg_of_pos (z9.fdiv 16) (show (0 : Int) < 3 by decide)
                  have x2 := Int.fmod_lt_of_pos (z9.fdiv 16) (show (0 : Int) < 3 by decide)
                  have x3 := Int.fmod_nonneg_of_pos (z9.fdiv 48) (show (0 : Int) < 2 by decide)
                  have x4 := Int.fmod_lt_of_pos (z9.fdiv 48) (show (0 : Int) < 2 by decide)
                  have x5 := Int.fmod_nonneg_of_pos (z9.fdiv 96) (show (0 : Int) < 60 by decide)
                  refine ⟨x1, by omega, by omega, by omega, by omega⟩
              case e7 =>
                intro g9 ys9 ts9 hT9
                refine tups_eq hT9 fun d0 d1 d2 d3 d4 k0 k1 k2 k3 k4 h0 h1 h2 h3 h4 m0 m1 m2 m3 m4 p0 p1 p2 p3 p4 q0 q1 q2 q3 q4 s0 s1 s2 s3 s4 e8 e9 c0 c1 c2 c3 c4 => ?_
                clear hT9
                subst e8
                subst e9
                have hzs : ∀ z ∈ [r0, r1, r2, r3, r4], 0 ≤ z ∧ z ≤ 15 := List.forall_mem_cons.mpr ⟨a0, List.forall_mem_cons.mpr ⟨a1, List.forall_mem_cons.mpr ⟨a2, List.forall_mem_cons.mpr ⟨a3, List.forall_mem_cons.mpr ⟨a4, List.forall_mem_nil _⟩⟩⟩⟩⟩
                k_with "CompSrc" => (refine Hold.out ?rS4)
                w_strict k_steps
                case rS4 =>
                  refine Hold.in ?_
                  refine' csrc_range (n := 5) (fun i v => ∃ t, v = .str (wordS i ([r0, r1, r2, r3, r4].getD i 0).toNat) t) ?f1 ?f2 ?f3 ?f4 ?f5 ?f6 ?f7
                  (case f1 => decide); (case f2 => exact rfl); (case f3 => k_asm); (case f4 => k_asm); (case f5 => assumption)
                  case f6 =>
                    intro i t9 I9 oI9 C9 oC9 D9 m9 ys9 h9 g9 tk9 E9 hi9 hC9 hx9 F9 N9 off9 ne9
                    simp only [LCg.Off3, and_true] at off9
                    k_with "CompEnd" => (refine Hold.out ?rE4)
                    k_with "binaryOp Mult str int" => (k_dflt (refine PySem.SB.mul (by assumption) ?_); intro _ _)
                    k_with "binaryOp Add str str" => (k_dflt (refine' KXadd.add (K := 1) (L := 15) (Nat.le_of_eq rfl) (mul_q_len (And.right (by assumption))) (by decide) ?_); intro _ _ _)
                    have hi0 : (0 : Int) ≤ (i : Int) := Int.natCast_nonneg i
                    have hi6 : (i : Int) < 5 := Int.ofNat_lt.mpr hi9
                    have lab : (Str.ofString "abcde").length = 5 := by decide +kernel
                    have bi := at5 hzs hi9
                    have ui := mulOk_q bi.1 (le1000 bi)
                    have i2 := mul_q_len bi.2
                    w_strict k_steps
                    case rE4 => exact Hold.in (compEnd_el (by assumption) (by assumption) (by kcf_all) (by simp only [LCg.Off3, and_true]; assumption) trivial ⟨_, congrArg (fun x => Value.str x _) (word_at (item_abc hi9))⟩)
                  case f7 =>
                    intro g9 ys9 hl9 hR9
                    k_with "call builtin:str.join" => (refine Hold.out ?rJ)
                    k_with "execs cons For cons" => (refine Hold.out ?rF)
                    w_strict k_steps
                    case rJ =>
                      refine Hold.in ?_
                      refine' join_rel ?q1 hl9 hR9 ?q2 ?q3 ?q4 ?_
                      (case q1 => first | assumption | is_list | exact News.isList (by k_asm) (by k_mem))
                      (case q2 => intro i hi; refine wordS_len ?_; obtain rfl | rfl | rfl | rfl | rfl : i = 0 ∨ i = 1 ∨ i = 2 ∨ i = 3 ∨ i = 4 := (lt5 hi); all_goals (first | exact nat900 a0 | exact nat900 a1 | exact nat900 a2 | exact nat900 a3 | exact nat900 a4)); (case q3 => decide); (case q4 => decide +kernel)
                      rw [join_text]
                      w_strict k_steps
                      case rF =>
                        refine Hold.in (wpAny_execs_cons ?_)
                        dsimp only
                        rename_i Dr hE tkE oE hF oR2 dR2 g9x Dd hA tkA oA eA hB tkB tA uA vA irA keA Dx hC tkC oC tC kC hD FL NL
                        clear irA keA eA
                        simp only [LCg.Off1, List.cons_append, List.nil_append, and_true] at oA
                        have NF : News gh L hD ((169, tabObj #[]) :: (176, tabObj #[]) :: [(Dd, LCg.lst [.ref d0, .ref d1, .ref d2, .ref d3, .ref d4]), (d4, tupO k4 h4 m4 p4 q4 s4), (d3, tupO k3 h3 m3 p3 q3 s3), (d2, tupO k2 h2 m2 p2 q2 s2), (d1, tupO k1 h1 m1 p1 q1 s1), (d0, tupO k0 h0 m0 p0 q0 s0), (Dr, LCg.lst [.int r0 v0, .int r1 v1, .int r2 v2, .int r3 v3, .int r4 v4]), (L + 1, oR2)]) := news_pick NL
                        clear NL
                        have hf := tups_off NF rfl rfl rfl rfl rfl ⟨oA.2.2.2.2.2.2.2.2.2.1.symm, oA.2.2.2.2.2.2.2.2.2.2.symm⟩ ⟨oE.2.2.2.1.symm, oE.2.2.2.2.symm⟩ (gt_ne l1)
                        clear oA oE oC
                        refine for_upto (h₀ := gh) (fun i m news gs => m (Str.ofString "deeds") = some (.ref Dd) ∧ (∃ t, m (Str.ofString "text") = some (.str (dueT [r0, r1, r2, r3, r4] ([(k0, h0, m0), (k1, h1, m1), (k2, h2, m2), (k3, h3, m3), (k4, h4, m4)].take i)) t)) ∧
                          (∃ ps qs, TriplesOk ps.toList ∧ TriplesOk qs.toList ∧ news = (169, tabObj ps) :: (176, tabObj qs) :: [(Dd, LCg.lst [.ref d0, .ref d1, .ref d2, .ref d3, .ref d4]), (d4, tupO k4 h4 m4 p4 q4 s4), (d3, tupO k3 h3 m3 p3 q3 s3), (d2, tupO k2 h2 m2 p2 q2 s2), (d1, tupO k1 h1 m1 p1 q1 s1), (d0, tupO k0 h0 m0 p0 q0 s0), (Dr, LCg.lst [.int r0 v0, .int r1 v1, .int r2 v2, .int r3 v3, .int r4 v4]), (L + 1, oR2)]) ∧ AllBare gs) (fun e s h => (hEF e s h).elim) rfl rfl rfl ?_ (fun _ => rfl)
                        w_strict k_steps
                        refine Hold.in (exI6 _ _ _ _ _ _ ⟨5, rfl, by assumption, by decide, by assumption, by assumption, ⟨rfl, ⟨_, congrArg (fun x => some (Value.str x _)) (due0 r0 r1 r2 r3 r4).symm⟩, ⟨#[], #[], trivial, trivial, rfl⟩, hg'⟩, ?turn, ?done⟩)
                        case done =>
                          rintro m news h' tk' gs' ⟨_, _, ⟨ps, qs, tp, tq, rfl⟩, G⟩ F N
                          dsimp only
                          w_strict k_steps
                          exact hret _ _ _ (fun b o e => F.keep b o e) ⟨⟨ps, tp, (N (169, tabObj ps) (List.mem_cons_self ..)).1⟩, ⟨qs, tq, (N (176, tabObj qs) (List.mem_cons_of_mem _ (List.mem_cons_self ..))).1⟩⟩ G
                        case turn =>
                          intro i m news J oJ t' h' tk' gs' hi hI F N ne
                          refine andE4 hI fun e1 q1 q2 G => Exists.elim q1 fun tt e2 => exE2 q2 fun ps qs q3 => andE3 q3 fun tp tq en => ?_
                          clear hI q1 q2 q3
                          subst en
                          rw [← kst_own (m := m) (ps := [(Str.ofString "deeds", Value.ref Dd), (Str.ofString "text", Value.str (dueT [r0, r1, r2, r3, r4] ([(k0, h0, m0), (k1, h1, m1), (k2, h2, m2), (k3, h3, m3), (k4, h4, m4)].take i)) tt)]) (List.forall_mem_cons.mpr ⟨e1, List.forall_mem_cons.mpr ⟨e2, List.forall_mem_nil _⟩⟩)] at F
                          have N' : News gh L h' _ := N
                          have F' : Fr gh L h' _ := F
                          clear F N e1 e2
                          dsimp only
                          refine turn_pick (ds := [d0, d1, d2, d3, d4]) (D := [(k0, h0, m0), (k1, h1, m1), (k2, h2, m2), (k3, h3, m3), (k4, h4, m4)]) (news := [(Dd, LCg.lst [.ref d0, .ref d1, .ref d2, .ref d3, .ref d4]), (d4, tupO k4 h4 m4 p4 q4 s4), (d3, tupO k3 h3 m3 p3 q3 s3), (d2, tupO k2 h2 m2 p2 q2 s2), (d1, tupO k1 h1 m1 p1 q1 s1), (d0, tupO k0 h0 m0 p0 q0 s0), (Dr, LCg.lst [.int r0 v0, .int r1 v1, .int r2 v2, .int r3 v3, .int r4 v4]), (L + 1, oR2)]) ⟨rfl, rfl, by k_mem, c0⟩ ⟨rfl, rfl, by k_mem, c1⟩ ⟨rfl, rfl, by k_mem, c2⟩ ⟨rfl, rfl, by k_mem, c3⟩ ⟨rfl, rfl, by k_mem, c4⟩ hi fun d k h9 m9 p9 q9 s9 R9 => ?_
                          have Rd : ([.ref d0, .ref d1, .ref d2, .ref d3, .ref d4] : List Value)[i]? = some (.ref d) := by
                            have e := congrArg (Option.map Value.ref) R9.1
                            rwa [← List.getElem?_map] at e
                          have Rm := R9.2.2.1
                          have Rb := R9.2.2.2
                          have RD := R9.2.1
                          clear R9
                          k_with "subscriptTail Name" => ((with_reducible show wpAny _ _ (subscriptTail _ _ (Value.ref _) (Value.int _ _)) _ _ _); k_dflt (refine' ls_at hi ?lsN ?lsl ?lsi ?_ ?lss; (case lsN => k_asm); (case lsl => k_mem); (case lsi => exact Rd); (case lss => with_unfolding_all rfl); k_whole))
                          k_with "call ref" => (refine Hold.out ?rA0)
                          w_strict k_steps
                          case rA0 =>
                            refine Hold.in ?_
                            refine' ROG.use (after_turn w mean mg mb d [r0, r1, r2, r3, r4] [(k0, h0, m0), (k1, h1, m1), (k2, h2, m2), (k3, h3, m3), (k4, h4, m4)] i tt k h9 m9 p9 q9 s9 ps qs tp tq rfl hzs RD ⟨Rb.1, Rb.2.1⟩ ⟨Rb.2.2.1, Rb.2.2.2.1⟩ Rb.2.2.2.2) B1 F' X1 N' (sub3 (List.Mem.tail _ (List.Mem.tail _ (List.Mem.tail _ Rm))) (by k_mem) (by k_mem)) T1 rfl trivial G ?fd ?fu ?_
                            (case fd => first | ktr_room | decide); (case fu => first | ktr_units | decide)
                            intro v9 h9x tk9 gs9 hR9 F9 K9 G9
                            refine Exists.elim hR9.1 fun t9 e9 => Exists.elim hR9.2.1 fun ps9 p9x => Exists.elim hR9.2.2 fun qs9 q9x => ?_
                            clear hR9
                            subst e9
                            have N9 := news_tabs N' K9 p9x.2 q9x.2 ne hf
                            clear K9 F' N'
                            dsimp only
                            k_with "call ref" => (refine Hold.out ?rB0)
                            w_strict k_steps
                            case rB0 =>
                              refine Hold.in ?_
                              rename News _ _ _ _ => nM
                              rw [slice_upto] at nM
                              rename Fr _ _ _ _ => mF
                              refine' due_cl w mean mg mb Dr _ r0 r1 r2 r3 r4 v0 v1 v2 v3 v4 ([d0, d1, d2, d3, d4].take (i + 1)) ([(k0, h0, m0), (k1, h1, m1), (k2, h2, m2), (k3, h3, m3), (k4, h4, m4)].take (i + 1)) 0 5 (List.length_take_le' _ _) (by rw [List.length_take, List.length_take]; rfl) hzs _ _ _ _ _ _ _ _ _ _ _ _ _ _ _ _ _ B1 mF X1 (cb_drop nM (sub2 ?s1 ?s2)) T1 rfl (pre5 (nM (d0, tupO k0 h0 m0 p0 q0 s0) ?w0).1 (nM (d1, tupO k1 h1 m1 p1 q1 s1) ?w1).1 (nM (d2, tupO k2 h2 m2 p2 q2 s2) ?w2).1 (nM (d3, tupO k3 h3 m3 p3 q3 s3) ?w3).1 (nM (d4, tupO k4 h4 m4 p4 q4 s4) ?w4).1 (i + 1)) ?gd ?gu ?_
                              (case s2 => rw [List.map_take]; exact List.Mem.head _); (case s1 => k_mem); (case w4 => k_mem); (case w3 => k_mem); (case w2 => k_mem); (case w1 => k_mem); (case w0 => k_mem)
                              (case gd => first | ktr_room | decide); (case gu => first | ktr_units | decide)
                              intro v8 h8 tk8 hR8 F8 K8
                              refine Exists.elim hR8 fun t8 e8 => ?_
                              clear hR8
                              subst e8
                              have N8 := cb_drop (kept_news nM K8) (fun p hp => List.mem_cons_of_mem _ hp)
                              clear K8 mF nM
                              dsimp only
                              k_with "compareOp NotEq str str" => (k_dflt (refine ne_same rfl ?_))
                              w_strict k_steps
                              exact Hold.in (exI5 _ _ _ _ _ ⟨rfl, F8, N8, ne_tabs ne, rfl, ⟨_, rfl⟩, ⟨_, _, p9x.1, q9x.1, rfl⟩, G9⟩)))
end Mine
end
theorem PySem.Challenge.cw_yf0025_01_holds : PySem.Challenge.rw_yf0025_01.Holds := by
  exact Mine.t0
