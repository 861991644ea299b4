import PyProof.Rows.All
import Wide.All
import OpenK.AllK
import Wide.FinOn
import Lean
import PySem.Challenge.RW_wb0015_01
set_option Elab.async false

section
open PySem PySem.W PyProof.Rows
set_option maxRecDepth 100000
set_option maxHeartbeats 8000000
namespace Mine
open_top hd for PySem.Challenge.rw_wb0015_01
end Mine
end

namespace Mine
theorem top_off : True := by
  w_top off
  trivial
end Mine

section
open PySem PySem.W PyProof.Rows
set_option maxRecDepth 100000
namespace Mine
/-! pure texts -/
/-- a text of a list of signs -/
def mkS (l : List Nat) : PySem.Str := ⟨l.toArray⟩
theorem mkS_cps (l : List Nat) : (mkS l).cps.toList = l := rfl
theorem mkS_of (x : PySem.Str) : mkS x.cps.toList = x := rfl
theorem mkS_app (a b : List Nat) : mkS a ++ mkS b = mkS (a ++ b) := by
  apply PySem.Str.ext'
  show a.toArray ++ b.toArray = (a ++ b).toArray
  simp
theorem mkS_len (l : List Nat) : (mkS l).length = l.length := by simp [mkS, PySem.Str.length]
theorem str_app (x y : PySem.Str) : (x ++ y).cps.toList = x.cps.toList ++ y.cps.toList := by
  rw [PySem.Str.cps_append, Array.toList_append]
theorem str_ext {x y : PySem.Str} (h : x.cps.toList = y.cps.toList) : x = y := PySem.Str.ext' (Array.toList_inj.mp h)
/-- the join's signs -/
def joinL (c : Nat) : List (List Nat) → List Nat
  | [] => []
  | [x] => x
  | x :: y :: r => x ++ c :: joinL c (y :: r)
theorem join_cps (c : Nat) : ∀ l : List PySem.Str, (PySem.Str.join ⟨#[c]⟩ l).cps.toList = joinL c (l.map (·.cps.toList))
  | [] => rfl
  | [x] => rfl
  | x :: y :: r => by
    show (x ++ ⟨#[c]⟩ ++ PySem.Str.join ⟨#[c]⟩ (y :: r)).cps.toList = _
    rw [str_app, str_app, join_cps c (y :: r)]
    show x.cps.toList ++ [c] ++ _ = x.cps.toList ++ c :: joinL c ((y :: r).map (·.cps.toList))
    rw [List.append_assoc]; rfl
theorem app_sep_inj {c : Nat} : ∀ {a b s t : List Nat}, c ∉ a → c ∉ b → a ++ c :: s = b ++ c :: t → a = b ∧ s = t
  | [], [], _, _, _, _, h => ⟨rfl, (List.cons.inj h).2⟩
  | [], y :: b, _, _, _, hb, h => absurd (List.mem_cons.mpr (.inl (List.cons.inj h).1)) hb
  | x :: a, [], _, _, ha, _, h => absurd (List.mem_cons.mpr (.inl (List.cons.inj h).1.symm)) ha
  | x :: a, y :: b, s, t, ha, hb, h => by
    obtain ⟨h1, h2⟩ := List.cons.inj h
    obtain ⟨h3, h4⟩ := app_sep_inj (fun hm => ha (List.mem_cons_of_mem _ hm)) (fun hm => hb (List.mem_cons_of_mem _ hm)) h2
    exact ⟨by rw [h1, h3], h4⟩
theorem mem_joinL {c : Nat} : ∀ {y : List Nat} {r : List (List Nat)} {a : List Nat}, c ∈ a ++ c :: joinL c (y :: r) := by
  intro y r a; simp
theorem joinL_inj {c : Nat} : ∀ {l k : List (List Nat)}, l ≠ [] → k ≠ [] → (∀ p ∈ l, c ∉ p) → (∀ p ∈ k, c ∉ p) → joinL c l = joinL c k → l = k
  | [], _, h, _, _, _, _ => absurd rfl h
  | _, [], _, h, _, _, _ => absurd rfl h
  | [x], [y], _, _, _, _, h => by have h' : x = y := h; rw [h']
  | [x], y :: z :: k, _, _, hl, _, h => absurd (by have h' : x = y ++ c :: joinL c (z :: k) := h; rw [h']; exact mem_joinL) (hl x (.head _))
  | x :: w :: l, [y], _, _, _, hk, h => absurd (by have h' : x ++ c :: joinL c (w :: l) = y := h; rw [← h']; exact mem_joinL) (hk y (.head _))
  | x :: w :: l, y :: z :: k, _, _, hl, hk, h => by
    have h' : x ++ c :: joinL c (w :: l) = y ++ c :: joinL c (z :: k) := h
    obtain ⟨h1, h2⟩ := app_sep_inj (hl x (.head _)) (hk y (.head _)) h'
    have h3 := joinL_inj (l := w :: l) (k := z :: k) (by simp) (by simp) (fun p hp => hl p (.tail _ hp)) (fun p hp => hk p (.tail _ hp)) h2
    rw [h1, h3]
theorem split_ne (x : PySem.Str) (c : Nat) : Txt.split x ⟨#[c]⟩ ≠ [] := by
  unfold Txt.split
  split
  · simp
  · split
    · simp
    · rw [StrLaws.partsBetween_eq]
      obtain ⟨p, r, e⟩ := StrLaws.partsFrom_ne x (PySem.Str.length ⟨#[c]⟩) 0 (Builtin.Str.occurrences x ⟨#[c]⟩ 0 x.length (x.length + 1))
      rw [e]; simp
theorem cps_map_inj : ∀ {l k : List PySem.Str}, l.map (·.cps.toList) = k.map (·.cps.toList) → l = k
  | [], [], _ => rfl
  | [], _ :: _, h => by cases h
  | _ :: _, [], h => by cases h
  | x :: l, y :: k, h => by
    obtain ⟨h1, h2⟩ := List.cons.inj h
    rw [str_ext h1, cps_map_inj h2]
/-- a text that joins pieces without the sign splits into them -/
theorem split_join (c : Nat) (l : List PySem.Str) (hne : l ≠ []) (hf : ∀ p ∈ l, c ∉ p.cps.toList) : Txt.split (PySem.Str.join ⟨#[c]⟩ l) ⟨#[c]⟩ = l := by
  apply cps_map_inj
  refine joinL_inj (c := c) (by simpa using split_ne _ c) (by simpa using hne) ?_ ?_ ?_
  · intro p hp
    obtain ⟨q, hq, rfl⟩ := List.mem_map.mp hp
    exact StrLaws.split_free _ c q hq
  · intro p hp
    obtain ⟨q, hq, rfl⟩ := List.mem_map.mp hp
    exact hf q hq
  · rw [← join_cps, ← join_cps, StrLaws.join_split]
theorem txt_join (sep : PySem.Str) (l : List PySem.Str) : Txt.join sep l = PySem.Str.join sep l := StrLaws.glued_eq_join sep l
/-- a row: n blanks, a sign -/
def rowS (n c : Nat) : PySem.Str := mkS (List.replicate n 32 ++ [c])
theorem row_len (n c : Nat) : (rowS n c).length = n + 1 := by simp [rowS, mkS_len]
theorem takeWhile_blanks (n c : Nat) (hc : c ≠ 32) : (List.replicate n 32 ++ [c]).takeWhile (fun d => (#[32] : Array Nat).contains d) = List.replicate n 32 := by
  induction n with
  | zero => simp [hc]
  | succ n ih => rw [List.replicate_succ, List.cons_append, List.takeWhile_cons, ih]; simp
theorem lstrip_row (n c : Nat) (hc : c ≠ 32) : Txt.lstripChars (rowS n c) (PySem.Str.ofString " ") = mkS [c] := by
  have hb : PySem.Str.ofString " " = ⟨#[32]⟩ := by decide +kernel
  rw [hb]
  have hlo : PySem.stripLo (fun d => (#[32] : Array Nat).contains d) true (rowS n c) = n := by
    unfold PySem.stripLo
    rw [if_pos rfl]
    show ((List.replicate n 32 ++ [c]).takeWhile _).length = n
    rw [takeWhile_blanks n c hc, List.length_replicate]
  have hhi : PySem.stripHi (fun d => (#[32] : Array Nat).contains d) false (rowS n c) n = n + 1 := by
    unfold PySem.stripHi
    rw [if_neg (by decide), row_len]
  show Txt.stripBy (fun d => (#[32] : Array Nat).contains d) true false (rowS n c) = _
  unfold Txt.stripBy PySem.stripSame PySem.stripped
  rw [hlo, hhi, row_len]
  by_cases h : n = 0
  · subst h; rfl
  · rw [if_neg (by simp [h])]
    apply str_ext
    rw [StrLaws.strSub_toList]
    show ((List.replicate n 32 ++ [c]).drop n).take (n + 1 - n) = [c]
    rw [List.drop_append_of_le_length (by simp), List.drop_of_length_le (by simp)]
    simp
theorem mul_blank (n : Int) : Txt.mul (PySem.Str.ofString " ") n = mkS (List.replicate n.toNat 32) := by
  have hb : PySem.Str.ofString " " = ⟨#[32]⟩ := by decide +kernel
  rw [hb]
  unfold Txt.mul
  by_cases h : n < 1
  · rw [if_pos h]
    have : n.toNat = 0 := by omega
    rw [this]; rfl
  · rw [if_neg h]
    by_cases h1 : n = 1
    · subst h1; rfl
    · rw [if_neg (by simp [h1, PySem.Str.length])]
      apply str_ext
      show ((List.replicate n.toNat (#[32] : Array Nat)).foldl (· ++ ·) #[]).toList = List.replicate n.toNat 32
      have gen : ∀ (k : Nat) (acc : Array Nat), ((List.replicate k (#[32] : Array Nat)).foldl (· ++ ·) acc).toList = acc.toList ++ List.replicate k 32 := by
        intro k
        induction k with
        | zero => intro acc; simp
        | succ k ih => intro acc; rw [List.replicate_succ, List.foldl_cons, ih]; simp [List.replicate_succ]
      rw [gen]; simp
end Mine
end

section
open PySem PySem.W PyProof.Rows
set_option maxRecDepth 100000
namespace Mine
/-! the pattern's machine -/
open PySem.Sre (M)
def sreC : Array Nat := #[14, 4, 0, 0, 0, 6, 1, 5, 5, 0, 6, 6, 1, 1]
theorem ex5 (m : M) (hc : m.code = sreC) (hp : m.pc = 5) : m.exec = (if (m.pos == 0 || m.text.getD (m.pos - 1) 0 == 10) = true then { m with seen := (m.seen.add 6).add 44, pc := 7 } else { m with seen := (m.seen.add 6).add 44, answer := some false }) := by
  cases m
  dsimp only at hc hp
  subst hc hp
  rfl
theorem ex7 (m : M) (hc : m.code = sreC) (hp : m.pc = 7) (hi : m.inner = none) (hw : m.weight = 1) : m.exec = { m with seen := m.seen.add 5, frames := { wait := .lookNot, pc := 7, pos := m.pos, outermost := m.outermost, kept := { lastmark := m.lastmark, lastindex := m.lastindex } } :: m.frames, weight := 2, pc := 10, handed := m.pos, outermost := false } := by
  cases m
  dsimp only at hc hp hi hw
  subst hc hp hi hw
  rfl
theorem ex10 (m : M) (hc : m.code = sreC) (hp : m.pc = 10) : m.exec = (if (m.pos == m.lim || m.text.getD m.pos 0 == 10) = true then { m with seen := (m.seen.add 6).add 49, pc := 12 } else { m with seen := (m.seen.add 6).add 49, answer := some false }) := by
  cases m
  dsimp only at hc hp
  subst hc hp
  rfl
theorem ex12 (m : M) (hc : m.code = sreC) (hp : m.pc = 12) (ho : m.outermost = false) : m.exec = { m with seen := m.seen.add 1, handed := m.pos, answer := some true } := by
  cases m
  dsimp only at hc hp ho
  subst hc hp ho
  rfl
theorem ex13 (m : M) (hc : m.code = sreC) (hp : m.pc = 13) (hw : m.wholeText = false) : m.exec = (if (m.outermost && (m.mustAdvance && m.pos == m.start)) = true then { m with seen := m.seen.add 1, answer := some false } else { m with seen := m.seen.add 1, handed := m.pos, answer := some true }) := by
  cases m
  dsimp only at hc hp hw
  subst hc hp hw
  rfl
/-- the machine at a try at p -/
def tryM (text : Array Nat) (p : Nat) (mu first : Bool) (seen : PySem.Sre.Seen) (hd : Nat) (mk : Array (Option Nat)) : M :=
  { code := sreC, text, lim := text.size, start := p, lastStart := text.size, wholeText := false, mustAdvance := mu, pc := 5, pos := p, handed := hd, outermost := first, marks := mk, lastmark := -1, lastindex := -1,
    loops := #[], inner := none, frames := [{ wait := .nextStart, pc := 5, pos := p, outermost := first }], weight := 1, answer := none, seen, outcome := none }
def b1 (text : Array Nat) (p : Nat) : Bool := p == 0 || text.getD (p - 1) 0 == 10
def b2 (text : Array Nat) (p : Nat) : Bool := p == text.size || text.getD p 0 == 10
theorem run_add (a b : Nat) (m : M) : M.runFor (a + b) m = M.runFor b (M.runFor a m) := by
  induction a generalizing m with
  | zero => simp [M.runFor]
  | succ a ih =>
    rw [Nat.succ_add]
    show (if m.outcome.isSome then m else M.runFor (a + b) m.step) = M.runFor b (if m.outcome.isSome then m else M.runFor a m.step)
    split
    · rename_i h
      cases b with
      | zero => rfl
      | succ b => show m = if m.outcome.isSome then m else _; rw [if_pos h]
    · exact ih _
theorem run_one (m : M) (h : m.outcome = none) : M.runFor 1 m = m.step := by
  show (if m.outcome.isSome then m else m.step) = _
  rw [h]; rfl
theorem run_done (n : Nat) (m : M) (h : m.outcome.isSome = true) : M.runFor n m = m := by
  cases n with
  | zero => rfl
  | succ n => show (if m.outcome.isSome then m else _) = m; rw [if_pos h]
theorem step_go (m : M) (h1 : m.outcome = none) (h2 : m.answer = none) (h3 : m.pc < m.code.size) : m.step = m.exec := by
  obtain ⟨_, _, _, _, _, _, _, _, _, _, _, _, _, _, _, _, _, _, _, _, _⟩ := m
  dsimp only at h1 h2 h3
  subst h1 h2
  show (if _ < _ then _ else _) = _
  rw [if_pos h3]
theorem step_back (m : M) (f : PySem.Sre.Frame) (r : List PySem.Sre.Frame) (yes : Bool) (h1 : m.outcome = none) (h2 : m.answer = some yes) (h3 : m.frames = f :: r) : m.step = M.resume { m with answer := none, frames := r, weight := m.weight - (1 + f.kept.marks.size), pc := f.pc, pos := f.pos, outermost := f.outermost } f yes := by
  obtain ⟨_, _, _, _, _, _, _, _, _, _, _, _, _, _, _, _, _, _, _, _, _⟩ := m
  dsimp only at h1 h2 h3
  subst h1 h2 h3
  rfl
theorem run_succ {n : Nat} {m m' r : M} (h : m.outcome = none) (hs : m.step = m') (hr : M.runFor n m' = r) : M.runFor (n + 1) m = r := by
  show (if m.outcome.isSome then m else M.runFor n m.step) = r
  rw [h, hs]
  exact hr
theorem ex5t (m : M) (hc : m.code = sreC) (hp : m.pc = 5) (hb : (m.pos == 0 || m.text.getD (m.pos - 1) 0 == 10) = true) : m.exec = { m with seen := (m.seen.add 6).add 44, pc := 7 } := (ex5 m hc hp).trans (if_pos hb)
theorem ex5f (m : M) (hc : m.code = sreC) (hp : m.pc = 5) (hb : (m.pos == 0 || m.text.getD (m.pos - 1) 0 == 10) = false) : m.exec = { m with seen := (m.seen.add 6).add 44, answer := some false } := (ex5 m hc hp).trans (if_neg (by rw [hb]; decide))
theorem ex10t (m : M) (hc : m.code = sreC) (hp : m.pc = 10) (hb : (m.pos == m.lim || m.text.getD m.pos 0 == 10) = true) : m.exec = { m with seen := (m.seen.add 6).add 49, pc := 12 } := (ex10 m hc hp).trans (if_pos hb)
theorem ex10f (m : M) (hc : m.code = sreC) (hp : m.pc = 10) (hb : (m.pos == m.lim || m.text.getD m.pos 0 == 10) = false) : m.exec = { m with seen := (m.seen.add 6).add 49, answer := some false } := (ex10 m hc hp).trans (if_neg (by rw [hb]; decide))
theorem ex13t (m : M) (hc : m.code = sreC) (hp : m.pc = 13) (hw : m.wholeText = false) (hb : (m.outermost && (m.mustAdvance && m.pos == m.start)) = true) : m.exec = { m with seen := m.seen.add 1, answer := some false } := (ex13 m hc hp hw).trans (if_pos hb)
theorem ex13f (m : M) (hc : m.code = sreC) (hp : m.pc = 13) (hw : m.wholeText = false) (hb : (m.outermost && (m.mustAdvance && m.pos == m.start)) = false) : m.exec = { m with seen := m.seen.add 1, handed := m.pos, answer := some true } := (ex13 m hc hp hw).trans (if_neg (by rw [hb]; decide))
theorem res_start_f (m : M) (f : PySem.Sre.Frame) (hf : f.wait = .nextStart) : M.resume m f false = (if f.pos < m.lastStart then { m with mustAdvance := false }.attemptFrom (f.pos + 1) false else m.say false) := by
  obtain ⟨_, _, _, _, _, _, _, _⟩ := f
  dsimp only at hf
  subst hf
  rfl
theorem res_start_t (m : M) (f : PySem.Sre.Frame) (hf : f.wait = .nextStart) : M.resume m f true = m.say true := by
  obtain ⟨_, _, _, _, _, _, _, _⟩ := f
  dsimp only at hf
  subst hf
  rfl
/-- behind a try that fails: the next place, or the end -/
theorem run_fail1 (text : Array Nat) (p : Nat) (mu first : Bool) (seen : PySem.Sre.Seen) (hd : Nat) (mk : Array (Option Nat)) (c : Nat) (h : p < text.size) :
    M.runFor 1 { (tryM text p mu first seen hd mk) with answer := some false, pc := c } = tryM text (p + 1) false false seen (p + 1) mk :=
  run_succ rfl ((step_back _ _ _ _ rfl rfl rfl).trans ((res_start_f _ _ rfl).trans (if_pos h))) rfl
theorem run_fail2 (text : Array Nat) (p : Nat) (mu first : Bool) (seen : PySem.Sre.Seen) (hd : Nat) (mk : Array (Option Nat)) (c : Nat) (h : ¬ p < text.size) :
    (M.runFor 2 { (tryM text p mu first seen hd mk) with answer := some false, pc := c }).outcome = some .failed := by
  rw [run_succ (n := 1) rfl ((step_back _ _ _ _ rfl rfl rfl).trans ((res_start_f _ _ rfl).trans (if_neg h))) rfl]
  rfl
theorem try_miss1 (text : Array Nat) (p : Nat) (mu first : Bool) (seen : PySem.Sre.Seen) (hd : Nat) (mk : Array (Option Nat)) (h : b1 text p = false) :
    ∃ seen' hd' c, M.runFor 1 (tryM text p mu first seen hd mk) = { (tryM text p mu first seen' hd' mk) with answer := some false, pc := c } :=
  ⟨(seen.add 6).add 44, hd, 5, run_succ rfl ((step_go _ rfl rfl (by show 5 < 14; decide)).trans (ex5f _ rfl rfl h)) rfl⟩
theorem try_miss2 (text : Array Nat) (p : Nat) (mu first : Bool) (seen : PySem.Sre.Seen) (hd : Nat) (mk : Array (Option Nat)) (h : b1 text p = true) (h2 : b2 text p = true) :
    ∃ seen' hd' c, M.runFor 5 (tryM text p mu first seen hd mk) = { (tryM text p mu first seen' hd' mk) with answer := some false, pc := c } := by
  refine ⟨(((((seen.add 6).add 44).add 5).add 6).add 49).add 1, p, 7, ?_⟩
  refine run_succ rfl ((step_go _ rfl rfl (by show 5 < 14; decide)).trans (ex5t _ rfl rfl h)) ?_
  refine run_succ rfl ((step_go _ rfl rfl (by show 7 < 14; decide)).trans (ex7 _ rfl rfl rfl rfl)) ?_
  refine run_succ rfl ((step_go _ rfl rfl (by show 10 < 14; decide)).trans (ex10t _ rfl rfl h2)) ?_
  refine run_succ rfl ((step_go _ rfl rfl (by show 12 < 14; decide)).trans (ex12 _ rfl rfl rfl)) ?_
  refine run_succ rfl (step_back _ _ _ _ rfl rfl rfl) ?_
  rfl
theorem try_pass (text : Array Nat) (p : Nat) (mu first : Bool) (seen : PySem.Sre.Seen) (hd : Nat) (mk : Array (Option Nat)) (h : b1 text p = true) (h2 : b2 text p = false) :
    ∃ seen' hd', M.runFor 4 (tryM text p mu first seen hd mk) = { (tryM text p mu first seen' hd' mk) with pc := 13 } := by
  refine ⟨((((seen.add 6).add 44).add 5).add 6).add 49, p, ?_⟩
  refine run_succ rfl ((step_go _ rfl rfl (by show 5 < 14; decide)).trans (ex5t _ rfl rfl h)) ?_
  refine run_succ rfl ((step_go _ rfl rfl (by show 7 < 14; decide)).trans (ex7 _ rfl rfl rfl rfl)) ?_
  refine run_succ rfl ((step_go _ rfl rfl (by show 10 < 14; decide)).trans (ex10f _ rfl rfl h2)) ?_
  refine run_succ rfl (step_back _ _ _ _ rfl rfl rfl) ?_
  rfl
theorem try_must (text : Array Nat) (p : Nat) (mu first : Bool) (seen : PySem.Sre.Seen) (hd : Nat) (mk : Array (Option Nat)) (h : b1 text p = true) (h2 : b2 text p = false) (hf : (first && mu) = true) :
    ∃ seen' hd' c, M.runFor 5 (tryM text p mu first seen hd mk) = { (tryM text p mu first seen' hd' mk) with answer := some false, pc := c } := by
  obtain ⟨s1, d1, e⟩ := try_pass text p mu first seen hd mk h h2
  obtain ⟨rfl, rfl⟩ : first = true ∧ mu = true := by simpa using hf
  have e5 : M.runFor 5 (tryM text p true true seen hd mk) = M.runFor 1 (M.runFor 4 (tryM text p true true seen hd mk)) := run_add 4 1 _
  rw [e5, e]
  exact ⟨s1.add 1, d1, 13, run_succ rfl ((step_go _ rfl rfl (by show 13 < 14; decide)).trans (ex13t _ rfl rfl rfl (by show (true && (true && p == p)) = true; simp))) rfl⟩
theorem try_hit (text : Array Nat) (p : Nat) (mu first : Bool) (seen : PySem.Sre.Seen) (hd : Nat) (mk : Array (Option Nat)) (h : b1 text p = true) (h2 : b2 text p = false)
    (hf : (first && mu) = false) : ∃ m', M.runFor 7 (tryM text p mu first seen hd mk) = m' ∧ m'.outcome = some .matched ∧ m'.start = p ∧ m'.handed = p := by
  obtain ⟨s1, d1, e⟩ := try_pass text p mu first seen hd mk h h2
  have e5 : M.runFor 7 (tryM text p mu first seen hd mk) = M.runFor 3 (M.runFor 4 (tryM text p mu first seen hd mk)) := run_add 4 3 _
  rw [e5, e]
  have e6 := run_succ (n := 2) (r := _) rfl ((step_go { (tryM text p mu first s1 d1 mk) with pc := 13 } rfl rfl (by show 13 < 14; decide)).trans (ex13f _ rfl rfl rfl (by show (first && (mu && p == p)) = false; simpa using hf))) (run_succ rfl ((step_back _ _ _ _ rfl rfl rfl).trans (res_start_t _ _ rfl)) (run_succ rfl rfl rfl))
  exact ⟨_, e6, rfl, rfl, rfl⟩
end Mine
end

section
open PySem PySem.W PyProof.Rows Calls
set_option maxRecDepth 100000
namespace Mine
theorem slot_sub : Slot "re.Pattern" "sub" "re.Pattern.sub" :=
  .of (owner := "re.Pattern") (n := "sub") (by rw [typeLookup_type, builtinLookup_eq_fast]; kernel_rfl) (by decide +kernel) (by decide +kernel) (by decide +kernel)
    (by first | exact .inl (by decide +kernel) | exact .inr (by decide +kernel)) (by rw [isSubtype_type]; kernel_rfl)
theorem type_sub : typeOf (.builtin "re.Pattern.sub") = pure (.type "method_descriptor") := by show builtinType _ = _; rw [builtinType_eq_fast]; kernel_rfl
theorem entry_sub : entryFor table "re.Pattern.sub" = some Builtin.«re.Pattern.sub» := entryFor_of_tree (by kernel_rfl)
theorem entry_subloop : entryFor table "re.Pattern.sub.loop" = some Builtin.«re.Pattern.sub.loop» := entryFor_of_tree (by kernel_rfl)
theorem args_sub (a b c : Value) : argsOk "re.Pattern.sub" ⟨[a, b, c], []⟩ := by
  unfold argsOk; kernel_rfl
theorem plain_pat : PlainAttrs "re.Pattern" :=
  ⟨⟨"object.__getattribute__", by rw [typeLookup_type, builtinLookup_eq_fast]; kernel_rfl, by decide +kernel⟩, by rw [typeLookup_type, builtinLookup_eq_fast]; kernel_rfl⟩
end Mine
end

section
open PySem PySem.W PyProof.Rows Calls
set_option maxRecDepth 100000
namespace Mine
/-- the pattern's two objects -/
def patO (t1 t2 : Tok) (a : Addr) : Obj := { cls := .type "re.Pattern", data := .fields #[.str (PySem.Str.ofString "(?m)^(?!$)") t1, .int 40 t2, .int 0 0, .none, .none, .ref a, .int 0 0] }
def codO : Obj := { cls := .type "tuple", data := .seq #[.int 14 0, .int 4 0, .int 0 0, .int 0 0, .int 0 0, .int 6 0, .int 1 0, .int 5 0, .int 5 0, .int 0 0, .int 6 0, .int 6 0, .int 1 0, .int 1 0] }
structure Pat (h : Heap) (p : Addr) : Prop where
  out : ∃ t1 t2 a, h.get? p = some (patO t1 t2 a) ∧ h.get? a = some codO
section
variable {M : Model} {A : Around} {E : Value → Shared → Prop} {s : Shared}
open Builtin.Re
theorem whole_target {p : Addr} {x : PySem.Str} {t : Tok} {Q : ReTarget → Shared → Prop} (hp : Pat s.heap p)
    (h : Q { pattern := .ref p, string := .str x t, code := sreC, text := x.cps, kind := 0, groups := 0, pos := 0, lim := x.cps.size } s) :
    wpAny M A (reWholeTarget (.ref p) (.str x t)) Q E s := by
  obtain ⟨t1, t2, a, h1, h2⟩ := hp.out
  unfold reWholeTarget
  refine wpAny_bind (wpAny_fieldsOf h1 rfl ?_)
  refine wpAny_bind (m := reTextOf (.str x t)) (wpAny_pure ?_)
  show wpAny M A (reNoCollectionInside (.str x t) 0 >>= _) Q E s
  refine wpAny_bind (m := reNoCollectionInside (.str x t) 0) (wpAny_pure ?_)
  refine wpAny_bind ?_
  unfold reRawItems
  refine wpAny_bind ?_
  show wpAny M A (seqItems? (.ref a)) _ E s
  refine wpAny_seqItems h2 rfl ?_
  refine wpAny_pure ?_
  refine wpAny_pure ?_
  have e1 : Array.map (fun x => Int.toNat x) (Array.map reRawOf ((some #[Value.int 14 0, Value.int 4 0, Value.int 0 0, Value.int 0 0, Value.int 0 0, Value.int 6 0, Value.int 1 0, Value.int 5 0, Value.int 5 0, Value.int 0 0, Value.int 6 0, Value.int 6 0, Value.int 1 0, Value.int 1 0]).getD #[])) = sreC := by decide +kernel
  have e2 : reRawNat (#[Value.str (PySem.Str.ofString "(?m)^(?!$)") t1, Value.int 40 t2, Value.int 0 0, Value.none, Value.none, Value.ref a, Value.int 0 0].getD 2 Value.none) = 0 := rfl
  rw [← e1, ← e2] at h
  exact h
theorem run_le {a b : Nat} {m : Sre.M} (h : a ≤ b) (hs : (Sre.M.runFor a m).outcome.isSome = true) : Sre.M.runFor b m = Sre.M.runFor a m := by
  obtain ⟨c, rfl⟩ := Nat.exists_eq_add_of_le h
  rw [run_add, run_done _ _ hs]
theorem drive : ∀ (T n : Nat) (m : Sre.M) (s : Shared) (Q : Sre.M → Shared → Prop), n ≤ 4 * T → (Sre.M.runFor n m).outcome.isSome = true → Q (Sre.M.runFor n m) s → n ≠ 0 → wpAny M A (reDrive T m) Q E s
  | 0, n, m, s, Q, h, _, _, h0 => by omega
  | T + 1, n, m, s, Q, h, hs, hq, h0 => by
    unfold reDrive
    show wpAny M A (if (Sre.M.runFor 4 m).outcome.isSome = true then pure (Sre.M.runFor 4 m) else (rule "sre.turn" >>= fun _ => reDrive T (Sre.M.runFor 4 m))) Q E s
    by_cases h4 : (Sre.M.runFor 4 m).outcome.isSome = true
    · rw [if_pos h4]
      refine wpAny_pure ?_
      have e : Sre.M.runFor 4 m = Sre.M.runFor n m := by
        rcases Nat.le_total n 4 with hn | hn
        · exact run_le hn hs
        · exact (run_le hn h4).symm
      rw [e]; exact hq
    · rw [if_neg h4]
      have hn : 4 < n := by
        refine Nat.lt_of_not_le fun hn => h4 ?_
        rw [run_le hn hs]; exact hs
      obtain ⟨c, rfl⟩ := Nat.exists_eq_add_of_le (Nat.le_of_lt hn)
      rw [run_add] at hs hq
      exact wpAny_bind (wpAny_rule (drive T c _ s Q (by omega) hs hq (by omega)))
theorem rules_pass (l : List Nat) (c : Nat → Bool) (g : Nat → String) (Q : PUnit → Shared → Prop) (h : Q ⟨⟩ s) :
    wpAny M A (forIn l PUnit.unit (fun i _ => if c i = true then (rule (g i) >>= fun _ => pure (ForInStep.yield PUnit.unit)) else pure (ForInStep.yield PUnit.unit)) : Sem PUnit) Q E s := by
  induction l with
  | nil => rw [List.forIn_nil]; exact wpAny_pure h
  | cons a l ih =>
    rw [List.forIn_cons]
    refine wpAny_bind ?_
    by_cases hc : c a = true
    · rw [if_pos hc]; exact wpAny_bind (wpAny_rule (wpAny_pure ih))
    · rw [if_neg hc]; exact wpAny_pure ih
theorem run_to_end {n : Nat} {m : Sre.M} {Q : Option Sre.M → Shared → Prop} (hn : n ≤ 4 * 2 ^ 64) (h0 : n ≠ 0)
    (h : ((Sre.M.runFor n m).outcome = some .matched ∧ Q (some (Sre.M.runFor n m)) s) ∨ ((Sre.M.runFor n m).outcome = some .failed ∧ Q none s)) :
    wpAny M A (reRunToEnd m) Q E s := by
  unfold reRunToEnd
  refine wpAny_bind (drive (2 ^ 64) n m s _ hn ?_ ?_ h0)
  · rcases h with h | h <;> rw [h.1] <;> rfl
  · refine wpAny_bind (wpAny_mono (Q := fun _ s' => s' = s) (rules_pass _ _ _ _ rfl) (fun _ s' e => ?_) fun _ _ x => x)
    subst e
    rcases h with h | h
    · rw [h.1]; exact wpAny_pure h.2
    · rw [h.1]; exact wpAny_pure h.2
end
def hit (text : Array Nat) (q : Nat) : Bool := b1 text q && !b2 text q
theorem hit_lt {text : Array Nat} {q : Nat} (h : hit text q = true) (hq : q ≤ text.size) : q < text.size := by
  rcases Nat.lt_or_ge q text.size with h' | h'
  · exact h'
  · have e : q = text.size := Nat.le_antisymm hq h'
    subst e
    simp [hit, b2] at h
/-- the search from a place: to the first place that fits -/
theorem search_from (text : Array Nat) : ∀ (k p : Nat) (mu first : Bool) (seen : Sre.Seen) (hd : Nat) (mk : Array (Option Nat)), p + k = text.size →
    ∃ n, n ≤ 7 * (k + 1) ∧ n ≠ 0 ∧
      (((Sre.M.runFor n (tryM text p mu first seen hd mk)).outcome = some .failed ∧ ∀ q, p ≤ q → q ≤ text.size → hit text q = true → q = p ∧ (first && mu) = true) ∨
       (∃ q, (Sre.M.runFor n (tryM text p mu first seen hd mk)).outcome = some .matched ∧ (Sre.M.runFor n (tryM text p mu first seen hd mk)).start = q ∧ (Sre.M.runFor n (tryM text p mu first seen hd mk)).handed = q ∧
          p ≤ q ∧ q ≤ text.size ∧ hit text q = true ∧ (q = p → (first && mu) = false) ∧ ∀ q', p ≤ q' → q' < q → hit text q' = true → q' = p ∧ (first && mu) = true)) := by
  intro k
  induction k with
  | zero =>
    intro p mu first seen hd mk hp
    have hp' : p = text.size := by omega
    have hb2 : b2 text p = true := by simp [b2, hp']
    have noHit : ∀ q, p ≤ q → q ≤ text.size → hit text q = true → q = p ∧ (first && mu) = true := by
      intro q h1 h2 h3
      have := hit_lt h3 h2
      omega
    cases hb1 : b1 text p with
    | false =>
      obtain ⟨s1, d1, c, e⟩ := try_miss1 text p mu first seen hd mk hb1
      refine ⟨3, by omega, by omega, .inl ⟨?_, noHit⟩⟩
      rw [show (3 : Nat) = 1 + 2 from rfl, run_add, e]
      exact run_fail2 text p mu first s1 d1 mk c (by omega)
    | true =>
      obtain ⟨s1, d1, c, e⟩ := try_miss2 text p mu first seen hd mk hb1 hb2
      refine ⟨7, by omega, by omega, .inl ⟨?_, noHit⟩⟩
      rw [show (7 : Nat) = 5 + 2 from rfl, run_add, e]
      exact run_fail2 text p mu first s1 d1 mk c (by omega)
  | succ k ih =>
    intro p mu first seen hd mk hp
    have hlt : p < text.size := by omega
    have goOn : ∀ (a : Nat) (s1 : Sre.Seen) (d1 c : Nat), a ≤ 5 → Sre.M.runFor a (tryM text p mu first seen hd mk) = { (tryM text p mu first s1 d1 mk) with answer := some false, pc := c } → (hit text p = true → (first && mu) = true) →
        ∃ n, n ≤ 7 * (k + 1 + 1) ∧ n ≠ 0 ∧
      (((Sre.M.runFor n (tryM text p mu first seen hd mk)).outcome = some .failed ∧ ∀ q, p ≤ q → q ≤ text.size → hit text q = true → q = p ∧ (first && mu) = true) ∨
       (∃ q, (Sre.M.runFor n (tryM text p mu first seen hd mk)).outcome = some .matched ∧ (Sre.M.runFor n (tryM text p mu first seen hd mk)).start = q ∧ (Sre.M.runFor n (tryM text p mu first seen hd mk)).handed = q ∧
          p ≤ q ∧ q ≤ text.size ∧ hit text q = true ∧ (q = p → (first && mu) = false) ∧ ∀ q', p ≤ q' → q' < q → hit text q' = true → q' = p ∧ (first && mu) = true)) := by
      intro a s1 d1 c ha e hh
      obtain ⟨n, hn, hn0, h⟩ := ih (p + 1) false false s1 (p + 1) mk (by omega)
      have e2 : Sre.M.runFor (a + (1 + n)) (tryM text p mu first seen hd mk) = Sre.M.runFor n (tryM text (p + 1) false false s1 (p + 1) mk) := by
        rw [run_add, e, run_add, run_fail1 text p mu first s1 d1 mk c hlt]
      refine ⟨a + (1 + n), by omega, by omega, ?_⟩
      rw [e2]
      rcases h with ⟨h1, h2⟩ | ⟨q, h1, h2, h3, h4, h5, h6, h7, h8⟩
      · refine .inl ⟨h1, fun q hq1 hq2 hq3 => ?_⟩
        by_cases hq : q = p
        · subst hq; exact ⟨rfl, hh hq3⟩
        · have := (h2 q (by omega) hq2 hq3).2
          simp at this
      · refine .inr ⟨q, h1, h2, h3, by omega, h5, h6, fun hq => by omega, fun q' hq1 hq2 hq3 => ?_⟩
        by_cases hq : q' = p
        · subst hq; exact ⟨rfl, hh hq3⟩
        · have := (h8 q' (by omega) hq2 hq3).2
          simp at this
    cases hb1 : b1 text p with
    | false =>
      obtain ⟨s1, d1, c, e⟩ := try_miss1 text p mu first seen hd mk hb1
      exact goOn 1 s1 d1 c (by omega) e (fun h => by simp [hit, hb1] at h)
    | true =>
      cases hb2 : b2 text p with
      | true =>
        obtain ⟨s1, d1, c, e⟩ := try_miss2 text p mu first seen hd mk hb1 hb2
        exact goOn 5 s1 d1 c (by omega) e (fun h => by simp [hit, hb2] at h)
      | false =>
        cases hf : (first && mu) with
        | true =>
          obtain ⟨s1, d1, c, e⟩ := try_must text p mu first seen hd mk hb1 hb2 hf
          have := goOn 5 s1 d1 c (by omega) e (fun _ => hf)
          rw [hf] at this
          exact this
        | false =>
          obtain ⟨m', e, h1, h2, h3⟩ := try_hit text p mu first seen hd mk hb1 hb2 hf
          refine ⟨7, by omega, by omega, .inr ⟨p, ?_, ?_, ?_, Nat.le_refl _, by omega, by simp [hit, hb1, hb2], fun _ => rfl, fun q' h1 h2 => by omega⟩⟩
          · rw [e]; exact h1
          · rw [e]; exact h2
          · rw [e]; exact h3
end Mine
end

section
open PySem PySem.W PyProof.Rows Calls
set_option maxRecDepth 100000
namespace Mine
/-! the sub's loop -/
def outP (text : Array Nat) (p : Nat) : List Nat := (List.range p).flatMap fun q => (if hit text q = true then [32] else []) ++ [text.getD q 0]
theorem outP_succ (text : Array Nat) (p : Nat) : outP text (p + 1) = outP text p ++ ((if hit text p = true then [32] else []) ++ [text.getD p 0]) := by
  unfold outP
  rw [List.range_succ, List.flatMap_append]
  simp
theorem seg_succ (text : Array Nat) (p q : Nat) (h : p ≤ q) (hq : q < text.size) : (text.extract p (q + 1)).toList = (text.extract p q).toList ++ [text.getD q 0] := by
  have e : ∀ b, (text.extract p b).toList = (text.toList.drop p).take (b - p) := fun b => by
    have := StrLaws.strSub_toList ⟨text⟩ p b
    exact this
  rw [e, e, show q + 1 - p = (q - p) + 1 by omega, List.take_add_one]
  congr 1
  rw [List.getElem?_drop, show p + (q - p) = q by omega]
  have : q < text.toList.length := by simpa using hq
  rw [List.getElem?_eq_getElem this]
  simp [Array.getD, hq]
theorem outP_seg (text : Array Nat) (p : Nat) : ∀ k, p + (k + 1) ≤ text.size → (∀ q, p < q → q < p + (k + 1) → hit text q = false) →
    outP text (p + (k + 1)) = outP text p ++ ((if hit text p = true then [32] else []) ++ (text.extract p (p + (k + 1))).toList)
  | 0, h, _ => by
    rw [outP_succ, seg_succ text p p (Nat.le_refl _) (by omega)]
    have : (text.extract p p).toList = [] := by simp
    rw [this, List.nil_append]
  | k + 1, h, hn => by
    rw [show p + (k + 1 + 1) = p + (k + 1) + 1 by omega, outP_succ, outP_seg text p k (by omega) (fun q h1 h2 => hn q h1 (by omega)), hn (p + (k + 1)) (by omega) (by omega),
      seg_succ text p (p + (k + 1)) (by omega) (by omega)]
    simp
theorem outP_to (text : Array Nat) {p q : Nat} (h : p < q) (hq : q ≤ text.size) (hn : ∀ r, p < r → r < q → hit text r = false) :
    outP text q = outP text p ++ ((if hit text p = true then [32] else []) ++ (text.extract p q).toList) := by
  obtain ⟨k, rfl⟩ : ∃ k, q = p + (k + 1) := ⟨q - p - 1, by omega⟩
  exact outP_seg text p k hq hn
def flatS (xs : List (PySem.Str × Tok)) : List Nat := (xs.map fun x => x.1.cps.toList).flatten
theorem flatS_snoc (xs : List (PySem.Str × Tok)) (x : PySem.Str) (t : Tok) : flatS (xs ++ [(x, t)]) = flatS xs ++ x.cps.toList := by simp [flatS]
theorem join_empty : ∀ l : List PySem.Str, (PySem.Str.join ⟨#[]⟩ l).cps.toList = (l.map (·.cps.toList)).flatten
  | [] => rfl
  | [x] => by simp [PySem.Str.join]
  | x :: y :: r => by
    show (x ++ ⟨#[]⟩ ++ PySem.Str.join ⟨#[]⟩ (y :: r)).cps.toList = _
    rw [str_app, str_app, join_empty (y :: r)]
    simp
theorem sum_flat (l : List PySem.Str) : (l.map (·.length)).sum = ((l.map (·.cps.toList)).flatten).length := by
  rw [List.length_flatten, List.map_map]
  congr 1
theorem outP_len (text : Array Nat) : ∀ p, (outP text p).length ≤ 2 * p
  | 0 => by simp [outP]
  | p + 1 => by
    rw [outP_succ, List.length_append, List.length_append]
    have := outP_len text p
    split <;> simp <;> omega
def SubInv (text : Array Nat) (p : Nat) (must : Bool) (xs : List (PySem.Str × Tok)) : Prop :=
  p ≤ text.size ∧ xs.length ≤ 2 * p + 1 ∧ ((must = false ∧ p = 0 ∧ xs = []) ∨ (must = true ∧ hit text p = true ∧ flatS xs = outP text p ++ [32]))
/-- a hit behind: what the list holds then -/
theorem sub_hit {text : Array Nat} {p q : Nat} {must : Bool} {xs : List (PySem.Str × Tok)} (I : SubInv text p must xs) (hpq : p ≤ q) (hq : q ≤ text.size) (hh : hit text q = true)
    (h1 : q = p → (true && must) = false) (h2 : ∀ q', p ≤ q' → q' < q → hit text q' = true → q' = p ∧ (true && must) = true) (t t' : Tok) :
    (p < q → SubInv text q true (xs ++ [(⟨text.extract p q⟩, t)] ++ [(PySem.Str.ofString " ", t')])) ∧ (¬ p < q → SubInv text q true (xs ++ [(PySem.Str.ofString " ", t')])) := by
  have hb : (PySem.Str.ofString " ").cps.toList = [32] := by decide +kernel
  obtain ⟨hp, hl, I⟩ := I
  constructor
  · intro hlt
    refine ⟨hq, by simp only [List.length_append, List.length_singleton]; omega, .inr ⟨rfl, hh, ?_⟩⟩
    rw [flatS_snoc, flatS_snoc, hb]
    rw [outP_to text hlt hq (fun r hr1 hr2 => by
      cases e : hit text r with
      | false => rfl
      | true => have := (h2 r (by omega) hr2 e).1; omega)]
    rcases I with ⟨rfl, rfl, rfl⟩ | ⟨rfl, hp', hf⟩
    · have e0 : hit text 0 = false := by
        cases e : hit text 0 with
        | false => rfl
        | true => have := (h2 0 (Nat.le_refl _) hlt e).2; simp at this
      rw [e0]
      simp [flatS, outP]
    · rw [hf, hp']
      simp
  · intro hlt
    have e : q = p := by omega
    subst e
    have hm : must = false := by simpa using h1 rfl
    subst hm
    rcases I with ⟨_, rfl, rfl⟩ | ⟨h, _⟩
    · refine ⟨hq, by simp, .inr ⟨rfl, hh, ?_⟩⟩
      rw [flatS_snoc, hb]
      simp [flatS, outP]
    · cases h
theorem sub_end {text : Array Nat} {p : Nat} {must : Bool} {xs : List (PySem.Str × Tok)} (I : SubInv text p must xs)
    (h2 : ∀ q, p ≤ q → q ≤ text.size → hit text q = true → q = p ∧ (true && must) = true) (t : Tok) :
    (p < text.size → flatS (xs ++ [(⟨text.extract p text.size⟩, t)]) = outP text text.size ∧ xs ++ [(⟨text.extract p text.size⟩, t)] ≠ [] ∧ xs.length ≤ 2 * text.size + 1) ∧
    (¬ p < text.size → flatS xs = outP text text.size ∧ xs = []) := by
  obtain ⟨hp, hl, I⟩ := I
  constructor
  · intro hlt
    refine ⟨?_, by simp, by omega⟩
    rw [flatS_snoc]
    rw [outP_to text hlt (Nat.le_refl _) (fun r hr1 hr2 => by
      cases e : hit text r with
      | false => rfl
      | true => have := (h2 r (by omega) (by omega) e).1; omega)]
    rcases I with ⟨rfl, rfl, rfl⟩ | ⟨rfl, hp', hf⟩
    · have e0 : hit text 0 = false := by
        cases e : hit text 0 with
        | false => rfl
        | true => have := (h2 0 (Nat.le_refl _) (by omega) e).2; simp at this
      rw [e0]
      simp [flatS, outP]
    · rw [hf, hp']
      simp
  · intro hlt
    have e : p = text.size := by omega
    rcases I with ⟨rfl, rfl, rfl⟩ | ⟨rfl, hp', hf⟩
    · rw [← e]; simp [flatS, outP]
    · have := hit_lt hp' hp
      omega
end Mine
end

section
open PySem PySem.W PyProof.Rows Calls
set_option maxRecDepth 100000
namespace Mine
section
variable {prog : Program} {w : World} {A : Around} {E : Value → Shared → Prop} {s : Shared}
open Builtin.Re
theorem for_search (text : Array Nat) (p : Nat) (must : Bool) (hp : p ≤ text.size) : Sre.forSearch sreC text 0 p text.size must = tryM text p must true (({} : Sre.Seen).add 14) p #[] := by
  show (if (decide (p > text.size) || decide (text.size - p < 0)) = true then _ else _) = _
  rw [if_neg (by simp; omega)]
  rfl
theorem strValues_app (a b : List (PySem.Str × Tok)) : strValues (a ++ b) = strValues a ++ strValues b := by simp [strValues]
theorem strValues_len (a : List (PySem.Str × Tok)) : (strValues a).length = a.length := by simp [strValues]
theorem push_ledger {h₀ h : Heap} {L D : Addr} {m : PySem.Str → Option Value} {news : List (Addr × Obj)} {xs : Array Value} {n : Nat} {v : Value} (F : Fr h₀ L h m) (N : News h₀ L h ((D, listOf xs n) :: news)) (hD : ∀ p ∈ news, p.1 ≠ D) :
    ∃ n', Fr h₀ L (h.update D (Obj.mapSeq (·.push v))) m ∧ News h₀ L (h.update D (Obj.mapSeq (·.push v))) ((D, listOf (xs.push v) n') :: news) := by
  refine ⟨if (xs.push v).size == xs.size then n else n + 1, ?_⟩
  exact news_upd (pre := []) (o' := listOf (xs.push v) (if (xs.push v).size == xs.size then n else n + 1)) F N (by simp) hD rfl rfl
theorem joinOk_of {ys : List PySem.Str} (h : ((ys.map (·.cps.toList)).flatten).length ≤ 1000000) : JoinOk ⟨#[]⟩ ys = true := by
  unfold JoinOk
  rw [StrLaws.joinTotal, sum_flat]
  show (!decide _) = true
  have e : PySem.Str.length ⟨#[]⟩ = 0 := rfl
  rw [e, Nat.mul_zero, Nat.add_zero]
  generalize ((ys.map (·.cps.toList)).flatten).length = n at h
  have : ¬ n > sizeLine := by rw [sizeLine_eq]; omega
  simpa using this
theorem join_made {h₀ h : Heap} {L D : Addr} {news : List (Addr × Obj)} {ys : List (PySem.Str × Tok)} {c : Nat} {tk tj : Tok} {text : Array Nat} {Q : Value → Shared → Prop} (hx : text.size ≤ 100000)
    (N : News h₀ L h ((D, listOf (strValues ys).toArray c) :: news)) (hf : flatS ys = outP text text.size)
    (hq : ∀ t' k, Q (.str (mkS (outP text text.size)) t') { s with heap := h, toks := k }) :
    wpAny (model prog w) A (call (.builtin "str.join") [.str ⟨#[]⟩ tj, .ref D]) Q E { s with heap := h, toks := tk } := by
  have ND := (N (D, listOf (strValues ys).toArray c) (.head _)).1
  have hl : h.IsList D (strValues ys).toArray := ⟨_, ND, rfl, c, rfl⟩
  have hfl : ((ys.map (·.1)).map (·.cps.toList)).flatten = outP text text.size := by
    rw [List.map_map]; exact hf
  refine SC.join (s := { s with heap := h, toks := tk }) hl rfl (joinOk_of ?_) fun t' k => ?_
  · rw [hfl]
    have := outP_len text text.size
    omega
  · have e : Txt.join ⟨#[]⟩ (ys.map (·.1)) = mkS (outP text text.size) := by
      apply str_ext
      rw [txt_join, join_empty, hfl]; rfl
    rw [e]
    exact hq t' k
theorem sub_loop {h₀ : Heap} {L D pa : Addr} {m : PySem.Str → Option Value} {news : List (Addr × Obj)} {x : PySem.Str} {tx tb : Tok} {R : Result → Shared → Prop} (hD : ∀ p ∈ news, p.1 ≠ D) (hpat : Pat h₀ pa) (hx : x.length ≤ 100000)
    (hR : ∀ t' h' tk', Fr h₀ L h' m → News h₀ L h' news → R (.ok (.ret (.str (mkS (outP x.cps x.cps.size)) t'))) { s with heap := h', toks := tk' }) :
    ∀ (k p : Nat) (must : Bool) (n : Int) (xs : List (PySem.Str × Tok)) (c : Nat) (h : Heap) (tk : Nat), 2 * (x.cps.size - p) + (if must = true then 0 else 1) < k → SubInv x.cps p must xs → Fr h₀ L h m → News h₀ L h ((D, listOf (strValues xs).toArray c) :: news) →
      codeAny (model prog w) A (.builtin "re.Pattern.sub.loop" ⟨[.ref pa, .str x tx, .str (PySem.Str.ofString " ") tb, rawInt 0, rawInt 0, rawInt n, rawInt (p : Nat), rawInt (p : Nat), .bool must, .ref D, .bool false], []⟩) R { s with heap := h, toks := tk } := by
  have hxs : x.cps.size ≤ 100000 := hx
  intro k
  induction k with
  | zero => intro p must n xs c h tk hk; omega
  | succ k ih =>
    intro p must n xs c h tk hk I F N
    have hp : p ≤ x.cps.size := I.1
    have hlen := I.2.1
    have hpat' : Pat h pa := by
      obtain ⟨t1, t2, a, e1, e2⟩ := hpat.out
      exact ⟨t1, t2, a, F.keep _ _ e1, F.keep _ _ e2⟩
    have ND := (N (D, listOf (strValues xs).toArray c) (.head _)).1
    refine codeAny_builtin entry_subloop ?_
    unfold Builtin.«re.Pattern.sub.loop»
    simp only [rawInt]
    refine wpAny_bind (whole_target hpat' ?_)
    rw [if_pos (by decide)]
    refine wpAny_bind (m := reLiteralCannotBeTurned (.str (PySem.Str.ofString " ") tb)) (wpAny_pure ?_)
    rw [if_neg (by simp), Int.toNat_natCast]
    dsimp only
    refine wpAny_bind ?_
    show wpAny _ _ (reRunToEnd (Sre.forSearch sreC x.cps 0 p x.cps.size must)) _ _ _
    rw [for_search _ _ _ hp]
    obtain ⟨N1, hN1, hN0, hres⟩ := search_from x.cps (x.cps.size - p) p must true (({} : Sre.Seen).add 14) p #[] (by omega)
    refine run_to_end (n := N1) (by omega) hN0 ?_
    rcases hres with ⟨ho, hnone⟩ | ⟨q, ho, hst, hha, hpq, hq, hh, hne, hfirst⟩
    · refine .inr ⟨ho, ?_⟩
      obtain ⟨e1, e2⟩ := sub_end I hnone tk
      by_cases hlt : p < x.cps.size
      · obtain ⟨hf, hnn, _⟩ := e1 hlt
        rw [if_pos hlt]
        refine wpAny_bind ?_
        show wpAny _ _ (mkStr ⟨x.cps.extract p x.cps.size⟩) _ _ _
        refine wpAny_mkStr ?_ ?_
        · dsimp only
          obtain ⟨n', F', N'⟩ := push_ledger (v := .str ⟨x.cps.extract p x.cps.size⟩ tk) F N hD
          refine wpAny_bind (wpAny_updateSeq ND rfl ?_ ?_ ?_)
          · rw [show (strValues xs).toArray.push (Value.str ⟨x.cps.extract p x.cps.size⟩ tk) = (strValues (xs ++ [(⟨x.cps.extract p x.cps.size⟩, tk)])).toArray by simp [strValues]] at N'
            have ND' := (N' _ (.head _)).1
            refine wpAny_bind ?_
            show wpAny _ _ (mkStr ⟨x.cps.extract 0 0⟩) _ _ _
            refine wpAny_mkStr ?_ (by simp [PySem.Str.length])
            refine wpAny_bind (wpAny_seqItems ND' rfl ?_)
            have hne : ((some (strValues (xs ++ [(⟨x.cps.extract p x.cps.size⟩, tk)])).toArray).getD #[]).isEmpty = false := by simp [strValues]
            rw [hne, if_neg (by decide)]
            refine wpAny_bind ?_
            rw [show x.cps.extract 0 0 = #[] by simp]
            refine join_made (text := x.cps) hxs N' hf fun t' k => ?_
            rw [if_neg (by decide)]
            exact wpAny_pure (hR t' _ _ F' fun p hp => N' p (.tail _ hp))
          · rw [List.size_toArray, strValues_len, sizeLine_eq]; omega
          · rw [Array.size_push, List.size_toArray, strValues_len, sizeLine_eq]; omega
        · have : (x.cps.extract p x.cps.size).size ≤ x.cps.size := by rw [Array.size_extract]; omega
          show (x.cps.extract p x.cps.size).size ≤ sizeLine
          rw [sizeLine_eq]; omega
      · obtain ⟨hf, rfl⟩ := e2 hlt
        rw [if_neg hlt]
        refine wpAny_bind ?_
        show wpAny _ _ (mkStr ⟨x.cps.extract 0 0⟩) _ _ _
        refine wpAny_mkStr ?_ (by simp [PySem.Str.length])
        refine wpAny_bind (wpAny_seqItems ND rfl ?_)
        rw [if_pos (by simp [strValues])]
        refine wpAny_pure ?_
        show R _ _
        rw [show x.cps.extract 0 0 = (mkS (outP x.cps x.cps.size)).cps by rw [← hf]; simp [flatS, mkS]]
        exact hR tk _ _ F fun p hp => N p (.tail _ hp)
    · refine .inl ⟨ho, ?_⟩
      dsimp only
      rw [hst, hha]
      obtain ⟨e1, e2⟩ := sub_hit I hpq hq hh hne hfirst tk tb
      have hqlt := hit_lt hh hq
      have last : ∀ (ys : List (PySem.Str × Tok)) (c : Nat) (h : Heap) (tk : Nat), Fr h₀ L h m → News h₀ L h ((D, listOf (strValues ys).toArray c) :: news) → ys.length ≤ 2 * x.cps.size + 2 → SubInv x.cps q true (ys ++ [(PySem.Str.ofString " ", tb)]) → (must = false ∨ p < q) →
          wpAny (model prog w) (A.under (Code.builtin "re.Pattern.sub.loop" ⟨[.ref pa, .str x tx, .str (PySem.Str.ofString " ") tb, .int 0 0, .int 0 0, .int n 0, .int (p : Nat) 0, .int (p : Nat) 0, .bool must, .ref D, .bool false], []⟩))
            (do updateSeq D fun x => x.push (Value.str (PySem.Str.ofString " ") tb)
                again (Code.builtin "re.Pattern.sub.loop" ⟨[.ref pa, .str x tx, .str (PySem.Str.ofString " ") tb, .int 0 0, .int 0 0, .int (n + 1) 0, .int (q : Nat) 0, .int (q : Nat) 0, .bool (q == q), .ref D, .bool false], []⟩))
            (fun fin s' => match fin with | .done f => R (.ok f) s' | .again c' => c'.quiet = true ∧ codeAny (model prog w) A c' R s') (fun e s' => R (.error e) s') { s with heap := h, toks := tk } := by
        intro ys c h tk F N hy I' hm
        have ND := (N (D, listOf (strValues ys).toArray c) (.head _)).1
        obtain ⟨n', F', N'⟩ := push_ledger (v := .str (PySem.Str.ofString " ") tb) F N hD
        refine wpAny_bind (wpAny_updateSeq ND rfl ?_ ?_ ?_)
        · rw [show (strValues ys).toArray.push (Value.str (PySem.Str.ofString " ") tb) = (strValues (ys ++ [(PySem.Str.ofString " ", tb)])).toArray by simp [strValues]] at N'
          refine wpAny_pure ⟨plainId_quiet (by decide +kernel) _, ?_⟩
          rw [beq_self_eq_true]
          refine ih q true (n + 1) _ n' _ tk ?_ I' F' N'
          rw [if_pos rfl]
          rcases hm with rfl | hm
          · rw [if_neg (by decide)] at hk; omega
          · omega
        · rw [List.size_toArray, strValues_len, sizeLine_eq]; omega
        · rw [Array.size_push, List.size_toArray, strValues_len, sizeLine_eq]; omega
      by_cases hlt : p < q
      · rw [if_pos hlt]
        refine wpAny_bind ?_
        show wpAny _ _ (mkStr ⟨x.cps.extract p q⟩) _ _ _
        refine wpAny_mkStr ?_ ?_
        · dsimp only
          obtain ⟨n', F', N'⟩ := push_ledger (v := .str ⟨x.cps.extract p q⟩ tk) F N hD
          refine wpAny_bind (wpAny_updateSeq ND rfl ?_ ?_ ?_)
          · rw [show (strValues xs).toArray.push (Value.str ⟨x.cps.extract p q⟩ tk) = (strValues (xs ++ [(⟨x.cps.extract p q⟩, tk)])).toArray by simp [strValues]] at N'
            rw [if_pos (by decide)]
            refine wpAny_bind (wpAny_pure ?_)
            rw [if_pos (by rfl)]
            exact last _ n' _ _ F' N' (by rw [List.length_append, List.length_singleton]; omega) (e1 hlt) (.inr hlt)
          · rw [List.size_toArray, strValues_len, sizeLine_eq]; omega
          · rw [Array.size_push, List.size_toArray, strValues_len, sizeLine_eq]; omega
        · have : (x.cps.extract p q).size ≤ x.cps.size := by rw [Array.size_extract]; omega
          show (x.cps.extract p q).size ≤ sizeLine
          rw [sizeLine_eq]; omega
      · rw [if_neg hlt, if_pos (by decide)]
        refine wpAny_bind (wpAny_pure ?_)
        rw [if_pos (by rfl)]
        have hqp : q = p := by omega
        refine last xs c h tk F N (by omega) (e2 hlt) (.inl ?_)
        have := hne hqp
        simpa using this
end
end Mine
end

section
open PySem PySem.W PyProof.Rows Calls
set_option maxRecDepth 100000
namespace Mine
theorem str_nocall : typeLookup (.type "str") "__call__" = pure none := by rw [typeLookup_type, builtinLookup_eq_fast]; kernel_rfl
section
variable {prog : Program} {w : World} {A : Around} {E : Value → Shared → Prop} {s : Shared}
open Builtin.Re
theorem named_sub (a b : Value) : reNamed "re.Pattern.sub" "sub" ["repl", "string", "count"] 2 [a, b] [] = pure [some a, some b, none] := by
  rfl
theorem sub_call {h₀ : Heap} {L pa : Addr} {m : PySem.Str → Option Value} {news : List (Addr × Obj)} {x : PySem.Str} {tx tb : Tok} {Q : Value → Shared → Prop} (F : Fr h₀ L s.heap m) (N : News h₀ L s.heap news) (hpat : Pat h₀ pa) (hx : x.length ≤ 100000)
    (hq : ∀ t' h' tk', Fr h₀ L h' m → News h₀ L h' news → Q (.str (mkS (outP x.cps x.cps.size)) t') { s with heap := h', toks := tk' }) :
    wpAny (model prog w) A (call (.builtin "re.Pattern.sub") [.ref pa, .str (PySem.Str.ofString " ") tb, .str x tx]) Q E s := by
  have hpat' : Pat s.heap pa := by
    obtain ⟨t1, t2, a, e1, e2⟩ := hpat.out
    exact ⟨t1, t2, a, F.keep _ _ e1, F.keep _ _ e2⟩
  have hT : s.TypeIs (.ref pa) "re.Pattern" := by
    obtain ⟨t1, t2, a, e1, e2⟩ := hpat'.out
    exact ⟨_, e1, rfl⟩
  refine wpAny_call (codeAny_call_builtin slot_sub.plain entry_sub (slot_sub.check _ _ _ _ _ _ _ _ hT (args_sub _ _ _) ?_))
  unfold Builtin.«re.Pattern.sub» reSubstitute
  dsimp only
  rw [named_sub]
  refine wpAny_bind (wpAny_pure ?_)
  refine wpAny_bind (m := (pure 0 : Sem Int)) (wpAny_pure ?_)
  refine wpAny_bind (wpAny_specialOf (typeIs_str _ _ _) str_nocall ?_)
  rw [if_neg (by decide)]
  refine wpAny_bind (m := asStr? (.str (PySem.Str.ofString " ") tb)) (wpAny_pure ?_)
  refine wpAny_bind (wpAny_pure ?_)
  rw [if_neg (by decide), if_pos (by decide +kernel)]
  refine wpAny_bind (wpAny_pure ?_)
  refine wpAny_bind (wpAny_holding (whole_target hpat' ?_))
  rw [if_neg (by show ¬ ((0 : Int) == 1) = true; decide)]
  refine wpAny_bind (wpAny_newList ?_ (Nat.zero_le _))
  refine wpAny_pure ⟨plainId_quiet (by decide +kernel) _, ?_⟩
  have F' := F.push { cls := .type "list", data := .seq ([] : List Value).toArray }
  have N' := News.push F N { cls := .type "list", data := .seq ([] : List Value).toArray }
  refine sub_loop (s := s) (D := s.heap.objs.size) (fun p hp => Nat.ne_of_lt (Heap.lt_size (N p hp).1)) hpat hx ?_ (2 * (x.cps.size - 0) + 1 + 1) 0 false 0 [] 0 _ s.toks (by simp) ⟨Nat.zero_le _, by simp, .inl ⟨rfl, rfl, rfl⟩⟩ F' N'
  intro t' h' tk' F'' N''
  exact hq t' h' tk' F'' N''
end
end Mine
end

section
open PySem PySem.W PyProof.Rows Calls
set_option maxRecDepth 100000
namespace Mine
section
variable {prog : Program} {w : World} {A : Around} {E : Value → Shared → Prop} {s : Shared}
theorem mul_one_str {x : PySem.Str} {t u : Tok} {Q : Value → Shared → Prop} (h : ∀ t' k, Q (.str x t') { s with toks := k }) :
    wpAny (model prog w) A (binaryOp .Mult (.int 1 t) (.str x u)) Q E s := by
  refine lm_binaryOp_repeat_right (T := "str") (U := "int") (by decide) (fun s' => typeIs_int s' 1 t) (typeIs_str s x u) F.fills_int_mul noFill_str_mul F.slot_int_mul lm_noRepeat_int repeat_str F.slot_int_index.lookup ?_
  refine call_gives F.slot_int_mul (typeIs_int s 1 t) F.entry_int_mul (F.args_int_mul_2 _ _) (AutoIntG3.int___mul___int_str_0 1 t x u) ⟨rfl, typeIs_str s x u, ?_⟩
  refine call_gives F.slot_str_mul (typeIs_str s x u) F.entry_str_mul (F.args_str_mul_2 _ _) (gives_str_mul x 1 u t (by decide) (by simp) (by simp)) ?_
  rw [if_neg (by decide), if_pos (by simp)]
  exact h u s.toks
theorem joinOk_small {x : PySem.Str} {ys : List PySem.Str} (h : (ys.map (·.length)).sum + ys.length * x.length ≤ 1000000) : JoinOk x ys = true := by
  unfold JoinOk
  rw [StrLaws.joinTotal]
  show (!decide _) = true
  generalize (ys.map (·.length)).sum + ys.length * x.length = n at h
  have : ¬ n > sizeLine := by rw [sizeLine_eq]; omega
  simpa using this
theorem join1_K {h₀ : Heap} {L D : Addr} {news : List (Addr × Obj)} {x y : PySem.Str} {tx ty : Tok} {n : Nat} {Q : Value → Shared → Prop} (N : News h₀ L s.heap news) (hm : (D, listOf #[.str y ty] n) ∈ news)
    (hx : x.length ≤ 100) (hy : y.length ≤ 100000) (hq : ∀ t' k, Q (.str y t') { s with toks := k }) : wpAny (model prog w) A (call (.builtin "str.join") [.str x tx, .ref D]) Q E s := by
  refine SC.join (l := [(y, ty)]) (texts := [y]) ⟨_, (N _ hm).1, rfl, n, rfl⟩ rfl (joinOk_small ?_) hq
  simp only [List.map_cons, List.map_nil, List.sum_cons, List.sum_nil, List.length_cons, List.length_nil]
  omega
theorem nl_eq : PySem.Str.ofString "\n" = ⟨#[10]⟩ := by decide +kernel
theorem join4_K {h₀ : Heap} {L D : Addr} {news : List (Addr × Obj)} {y1 y2 y3 y4 : PySem.Str} {tx t1 t2 t3 t4 : Tok} {n : Nat} {Q : Value → Shared → Prop} (N : News h₀ L s.heap news) (hm : (D, listOf #[.str y1 t1, .str y2 t2, .str y3 t3, .str y4 t4] n) ∈ news)
    (h1 : y1.length ≤ 1000) (h2 : y2.length ≤ 1000) (h3 : y3.length ≤ 1000) (h4 : y4.length ≤ 1000) (hq : ∀ t' k, Q (.str (PySem.Str.join ⟨#[10]⟩ [y1, y2, y3, y4]) t') { s with toks := k }) :
    wpAny (model prog w) A (call (.builtin "str.join") [.str (PySem.Str.ofString "\n") tx, .ref D]) Q E s := by
  rw [nl_eq]
  refine SC.join (l := [(y1, t1), (y2, t2), (y3, t3), (y4, t4)]) (texts := [y1, y2, y3, y4]) ⟨_, (N _ hm).1, rfl, n, rfl⟩ rfl (joinOk_small ?_) fun t' k => ?_
  · simp only [List.map_cons, List.map_nil, List.sum_cons, List.sum_nil, List.length_cons, List.length_nil]
    have : PySem.Str.length ⟨#[10]⟩ = 1 := rfl
    omega
  · rw [txt_join]; exact hq t' k
theorem join3_K {h₀ : Heap} {L D : Addr} {news : List (Addr × Obj)} {y1 y2 y3 : PySem.Str} {tx t1 t2 t3 : Tok} {n : Nat} {Q : Value → Shared → Prop} (N : News h₀ L s.heap news) (hm : (D, listOf #[.str y1 t1, .str y2 t2, .str y3 t3] n) ∈ news)
    (h1 : y1.length ≤ 1000) (h2 : y2.length ≤ 1000) (h3 : y3.length ≤ 1000) (hq : ∀ t' k, Q (.str (PySem.Str.join ⟨#[10]⟩ [y1, y2, y3]) t') { s with toks := k }) :
    wpAny (model prog w) A (call (.builtin "str.join") [.str (PySem.Str.ofString "\n") tx, .ref D]) Q E s := by
  rw [nl_eq]
  refine SC.join (l := [(y1, t1), (y2, t2), (y3, t3)]) (texts := [y1, y2, y3]) ⟨_, (N _ hm).1, rfl, n, rfl⟩ rfl (joinOk_small ?_) fun t' k => ?_
  · simp only [List.map_cons, List.map_nil, List.sum_cons, List.sum_nil, List.length_cons, List.length_nil]
    have : PySem.Str.length ⟨#[10]⟩ = 1 := rfl
    omega
  · rw [txt_join]; exact hq t' k
end
end Mine
end

section
open PySem PySem.W PyProof.Rows
set_option maxRecDepth 100000
namespace Mine
/-! what the sub gives, row by row -/
def ind : Bool → List Nat → List Nat
  | _, [] => []
  | b, c :: r => (if (b && c != 10) = true then [32] else []) ++ c :: ind (c == 10) r
theorem out_ind (text : Array Nat) : ∀ (b : List Nat) (p : Nat), text.toList.drop p = b → p + b.length = text.size →
    (List.range' p b.length).flatMap (fun q => (if hit text q = true then [32] else []) ++ [text.getD q 0]) = ind (b1 text p) b
  | [], p, _, _ => by simp [ind]
  | c :: r, p, hd, hl => by
    have hlt : p < text.size := by simp at hl; omega
    have hc : text.getD p 0 = c := by
      have h1 : text.toList[p]? = some c := by
        have := congrArg (fun l => l[0]?) hd
        simpa using this
      have h2 : p < text.toList.length := by simpa using hlt
      rw [List.getElem?_eq_getElem h2] at h1
      have h3 := Option.some.inj h1
      simp only [Array.getElem_toList] at h3
      simp [Array.getD, hlt, h3]
    have hd' : text.toList.drop (p + 1) = r := by
      have := congrArg List.tail hd
      simpa using this
    have ih := out_ind text r (p + 1) hd' (by simp at hl; omega)
    have hb1 : b1 text (p + 1) = (c == 10) := by simp [b1, hc]
    have hh : hit text p = (b1 text p && c != 10) := by
      have hne : (p == text.size) = false := by simp; omega
      simp [hit, b2, hc, hne, bne]
    rw [List.length_cons, List.range'_succ, List.flatMap_cons, ih, hb1, hh, hc]
    simp [ind]
theorem outP_ind (text : Array Nat) : outP text text.size = ind true text.toList := by
  have := out_ind text text.toList 0 rfl (by simp)
  rw [show b1 text 0 = true from rfl] at this
  rw [← this]
  unfold outP
  rw [List.range_eq_range']
  simp
def addB (r : List Nat) : List Nat := if r = [] then [] else 32 :: r
theorem ind_false : ∀ (r t : List Nat), 10 ∉ r → ind false (r ++ 10 :: t) = r ++ 10 :: ind true t
  | [], t, _ => by simp [ind]
  | c :: r, t, h => by
    have hc : (c == 10) = false := by
      simp only [List.mem_cons, not_or] at h
      simp; exact fun e => h.1 e.symm
    rw [List.cons_append, ind, hc, ind_false r t (fun hm => h (.tail _ hm))]
    simp
theorem ind_false0 : ∀ (r : List Nat), 10 ∉ r → ind false r = r
  | [], _ => by simp [ind]
  | c :: r, h => by
    have hc : (c == 10) = false := by
      simp only [List.mem_cons, not_or] at h
      simp; exact fun e => h.1 e.symm
    rw [ind, hc, ind_false0 r (fun hm => h (.tail _ hm))]
    simp
theorem ind_true (r t : List Nat) (h : 10 ∉ r) : ind true (r ++ 10 :: t) = addB r ++ 10 :: ind true t := by
  cases r with
  | nil => simp [ind, addB]
  | cons c r =>
    have hc : (c == 10) = false := by
      simp only [List.mem_cons, not_or] at h
      simp; exact fun e => h.1 e.symm
    rw [List.cons_append, ind, hc, ind_false r t (fun hm => h (.tail _ hm))]
    simp [addB, bne, hc]
theorem ind_true0 (r : List Nat) (h : 10 ∉ r) : ind true r = addB r := by
  cases r with
  | nil => simp [ind, addB]
  | cons c r =>
    have hc : (c == 10) = false := by
      simp only [List.mem_cons, not_or] at h
      simp; exact fun e => h.1 e.symm
    rw [ind, hc, ind_false0 r (fun hm => h (.tail _ hm))]
    simp [addB, bne, hc]
theorem ind_join : ∀ (l : List (List Nat)), (∀ r ∈ l, 10 ∉ r) → ind true (joinL 10 l) = joinL 10 (l.map addB)
  | [], _ => by simp [joinL, ind]
  | [r], h => by
    show ind true r = addB r
    exact ind_true0 r (h r (.head _))
  | r :: t :: l, h => by
    show ind true (r ++ 10 :: joinL 10 (t :: l)) = addB r ++ 10 :: joinL 10 ((t :: l).map addB)
    rw [ind_true r _ (h r (.head _)), ind_join (t :: l) (fun p hp => h p (.tail _ hp))]
/-- the rows of the page set in by one -/
theorem out_join (l : List PySem.Str) (h : ∀ r ∈ l, 10 ∉ r.cps.toList) :
    mkS (outP (PySem.Str.join ⟨#[10]⟩ l).cps (PySem.Str.join ⟨#[10]⟩ l).cps.size) = PySem.Str.join ⟨#[10]⟩ (l.map fun r => mkS (addB r.cps.toList)) := by
  apply str_ext
  rw [mkS_cps, outP_ind, join_cps, join_cps, ind_join]
  · rw [List.map_map, List.map_map]
    rfl
  · intro r hr
    obtain ⟨q, hq, rfl⟩ := List.mem_map.mp hr
    exact h q hq
theorem row_free (n c : Nat) (hc : c ≠ 10) : 10 ∉ (rowS n c).cps.toList := by
  show 10 ∉ List.replicate n 32 ++ [c]
  intro h
  rcases List.mem_append.mp h with h | h
  · have := List.eq_of_mem_replicate h; omega
  · exact hc (List.mem_singleton.mp h).symm
theorem addB_row (n c : Nat) : mkS (addB (rowS n c).cps.toList) = rowS (n + 1) c := by
  show mkS (addB (List.replicate n 32 ++ [c])) = mkS (List.replicate (n + 1) 32 ++ [c])
  have : addB (List.replicate n 32 ++ [c]) = 32 :: (List.replicate n 32 ++ [c]) := by simp [addB]
  rw [this, List.replicate_succ, List.cons_append]
theorem addB_nil : mkS (addB (mkS []).cps.toList) = mkS [] := rfl
theorem row_make (k c : Nat) : mkS (List.replicate k 32) ++ mkS [c] = rowS k c := by rw [mkS_app]; rfl
end Mine
end

section
open PySem PySem.W PyProof.Rows
set_option maxRecDepth 100000
namespace Mine
/-! words that keep the texts' equations out of the walk's sight -/
structure SplitIs (x y : PySem.Str) (l : List PySem.Str) : Prop where
  out : Txt.split x y = l
structure StripIs (x v : PySem.Str) : Prop where
  out : Txt.lstripChars x (PySem.Str.ofString " ") = v
structure JoinIs (l : List PySem.Str) (v : PySem.Str) : Prop where
  out : PySem.Str.join ⟨#[10]⟩ l = v
structure MulIs (n : Int) (v : PySem.Str) : Prop where
  out : Txt.mul (PySem.Str.ofString " ") n = v
structure AppIs (x y v : PySem.Str) : Prop where
  out : x ++ y = v
structure IndIs (x v : PySem.Str) : Prop where
  out : mkS (outP x.cps x.cps.size) = v
section
variable {prog : Program} {w : World} {A : Around} {E : Value → Shared → Prop} {s : Shared} {h₀ : Heap} {L : Addr} {m : PySem.Str → Option Value} {news : List (Addr × Obj)} {Q : Value → Shared → Prop}
theorem strip_W {x v : PySem.Str} {t u : Tok} (W : StripIs x v) (hx : x.length ≤ 100000) (h : ∀ t' k, Q (.str v t') { s with toks := k }) : wpAny (model prog w) A (call (.builtin "str.lstrip") [.str x t, .str (PySem.Str.ofString " ") u]) Q E s := by
  refine SC.lstripChars (fun t' k => ?_) (by rw [sizeLine_eq]; omega)
  rw [W.out]
  exact h t' k
theorem mul_W {n n' : Int} {v : PySem.Str} {t u : Tok} (W : MulIs n' v) (e : n = n') (h0 : -1000 ≤ n) (h1 : n ≤ 1000) (h : ∀ t' k, Q (.str v t') { s with toks := k }) :
    wpAny (model prog w) A (binaryOp .Mult (.str (PySem.Str.ofString " ") t) (.int n u)) Q E s := by
  subst e
  refine SB.mul (mulOk_of 1 1000 (by decide +kernel) (by omega) (by omega) (by decide) (by decide)) fun t' k => ?_
  rw [W.out]
  exact h t' k
theorem app_W {x y v : PySem.Str} {t u : Tok} (W : AppIs x y v) (hx : x.length ≤ 100000) (hy : y.length ≤ 100000) (h : ∀ t' k, Q (.str v t') { s with toks := k }) :
    wpAny (model prog w) A (binaryOp .Add (.str x t) (.str y u)) Q E s := by
  refine KOpn.add (by omega) fun t' k _ => ?_
  rw [W.out]
  exact h t' k
theorem join4_W {D : Addr} {y1 y2 y3 y4 v : PySem.Str} {tx t1 t2 t3 t4 : Tok} {n : Nat} (N : News h₀ L s.heap news) (hm : (D, listOf #[.str y1 t1, .str y2 t2, .str y3 t3, .str y4 t4] n) ∈ news) (W : JoinIs [y1, y2, y3, y4] v)
    (h1 : y1.length ≤ 1000) (h2 : y2.length ≤ 1000) (h3 : y3.length ≤ 1000) (h4 : y4.length ≤ 1000) (hq : ∀ t' k, Q (.str v t') { s with toks := k }) :
    wpAny (model prog w) A (call (.builtin "str.join") [.str (PySem.Str.ofString "\n") tx, .ref D]) Q E s :=
  join4_K N hm h1 h2 h3 h4 fun t' k => by rw [W.out]; exact hq t' k
theorem join3_W {D : Addr} {y1 y2 y3 v : PySem.Str} {tx t1 t2 t3 : Tok} {n : Nat} (N : News h₀ L s.heap news) (hm : (D, listOf #[.str y1 t1, .str y2 t2, .str y3 t3] n) ∈ news) (W : JoinIs [y1, y2, y3] v)
    (h1 : y1.length ≤ 1000) (h2 : y2.length ≤ 1000) (h3 : y3.length ≤ 1000) (hq : ∀ t' k, Q (.str v t') { s with toks := k }) :
    wpAny (model prog w) A (call (.builtin "str.join") [.str (PySem.Str.ofString "\n") tx, .ref D]) Q E s :=
  join3_K N hm h1 h2 h3 fun t' k => by rw [W.out]; exact hq t' k
theorem split4_W {x y r1 r2 r3 r4 : PySem.Str} {t u : Tok} (F : Fr h₀ L s.heap m) (N : News h₀ L s.heap news) (W : SplitIs x y [r1, r2, r3, r4]) (hy : (y.length == 0) = false) (hx : x.length ≤ 100000)
    (h : ∀ D t1 t2 t3 t4 h' k, Fr h₀ L h' m → News h₀ L h' ((D, listOf #[.str r1 t1, .str r2 t2, .str r3 t3, .str r4 t4] 0) :: news) → (∀ p ∈ news, p.1 < D) → Q (.ref D) { s with heap := h', toks := k }) :
    wpAny (model prog w) A (call (.builtin "str.split") [.str x t, .str y u]) Q E s := by
  refine KSpl.split1 F N hy (fun D l h' k e a F' N' l1 => ?_) (by rw [sizeLine_eq]; omega)
  rw [W.out] at e
  obtain ⟨t1, l2, rfl, e1⟩ := KSpl.cons_of e
  obtain ⟨t2, l3, rfl, e2⟩ := KSpl.cons_of e1
  obtain ⟨t3, l4, rfl, e3⟩ := KSpl.cons_of e2
  obtain ⟨t4, l5, rfl, e4⟩ := KSpl.cons_of e3
  have e5 := KSpl.nil_of e4
  subst e5
  exact h D t1 t2 t3 t4 h' k F' N' l1
theorem split1_W {x y : PySem.Str} {t u : Tok} (F : Fr h₀ L s.heap m) (N : News h₀ L s.heap news) (W : SplitIs x y [x]) (hy : (y.length == 0) = false) (hx : x.length ≤ 100000)
    (h : ∀ D t1 h' k, Fr h₀ L h' m → News h₀ L h' ((D, listOf #[.str x t1] 0) :: news) → (∀ p ∈ news, p.1 < D) → Q (.ref D) { s with heap := h', toks := k }) :
    wpAny (model prog w) A (call (.builtin "str.split") [.str x t, .str y u]) Q E s := by
  refine KSpl.split1 F N hy (fun D l h' k e a F' N' l1 => ?_) (by rw [sizeLine_eq]; omega)
  rw [W.out] at e
  obtain ⟨t1, l2, rfl, e1⟩ := KSpl.cons_of e
  have e5 := KSpl.nil_of e1
  subst e5
  exact h D t1 h' k F' N' l1
theorem sub_W {pa : Addr} {x v : PySem.Str} {tx tb : Tok} (F : Fr h₀ L s.heap m) (N : News h₀ L s.heap news) (hpat : Pat h₀ pa) (W : IndIs x v) (hx : x.length ≤ 100000)
    (hq : ∀ t' h' tk', Fr h₀ L h' m → News h₀ L h' news → Q (.str v t') { s with heap := h', toks := tk' }) :
    wpAny (model prog w) A (call (.builtin "re.Pattern.sub") [.ref pa, .str (PySem.Str.ofString " ") tb, .str x tx]) Q E s :=
  sub_call F N hpat hx fun t' h' tk' F' N' => by rw [W.out]; exact hq t' h' tk' F' N'
end
end Mine
end

section
open PySem PySem.W PyProof.Rows
set_option maxRecDepth 100000
set_option maxHeartbeats 8000000
namespace Mine
noncomputable abbrev LO : List PySem.Str := looseW hd.view_39 [Str.ofString "_twin_re_1", Str.ofString "_indent"]
theorem fill0 (w : World) (h : Heap) : (hd.heap_39 w.params).In h → PySem.Challenge.rw_wb0015_01 = PySem.Challenge.rw_wb0015_01 := by k_fill; intro _; rfl
theorem pat_of {w : World} {h : Heap} (X : (hd.heap_39 w.params).In h) : Pat h 36 := ⟨_, _, 35, X 36 _ (by k_is), X 35 _ (by k_is)⟩
section
variable {w : World} {base h₀ : Heap} {A₀ : Around} {outer : List Env} {L : Addr} {m : PySem.Str → Option Value} {s : Shared} {news : List (Addr × Obj)} {cs : Scope} {mean : ExcName → Option Value} {mg mb : PySem.Str → Option Value} {dp un : Nat}
   {gd : Option (List Code)} {cn : PySem.Str} {a : Addr} {ccd : Value} {cl : List (PySem.Str × Addr)} {Q E : Value → Shared → Prop}
theorem get_sub {M : Model} {A : Around} {E : Value → Shared → Prop} {s : Shared} {pl : Sem Bool} {Q : Value × List Value → Shared → Prop} (F : Fr h₀ L s.heap m) (X : (hd.heap_39 w.params).In h₀) (h : Q (.builtin "re.Pattern.sub", [.ref 36]) s) :
    wpAny M A (getMethod (.ref 36) "sub" pl) Q E s := by
  obtain ⟨t1, t2, a, e1, e2⟩ := (pat_of X).out
  have e1' := F.keep _ _ e1
  refine getMethod_builtin ⟨_, e1', rfl⟩ plain_pat slot_sub type_sub ?_ h
  intro b hb
  cases hb
  exact ⟨_, e1', rfl⟩
local macro_rules | `(tactic| walk_at "getMethod ref") => `(tactic| (k_here; (with_reducible show wpAny _ _ (getMethod (Value.ref 36) _ _) _ _ _); refine get_sub (by k_asm) (by k_asm) ?_))
local macro_rules | `(tactic| walk_at "binaryOp Mult int str") => `(tactic| ((with_reducible show wpAny _ _ (binaryOp Operator.Mult (Value.int 1 _) (Value.str _ _)) _ _ _); refine mul_one_str ?_; intro _ _))
local macro_rules | `(tactic| walk_at "call builtin:re.Pattern.sub") => `(tactic| (k_here; (with_reducible show wpAny _ _ (call (Value.builtin "re.Pattern.sub") _) _ _ _); refine sub_W (by k_asm) (by k_asm) (pat_of (by k_asm)) (by assumption) (by k_asm) ?_; intro _ _ _ _ _))
local macro_rules | `(tactic| cell_enter) => `(tactic| (refine' code_def ?k1 ?k2 ?k3 ?k4 ?k5 ?kA ?kF ?kK ?k6 ?k7 ?k8 ?k9 ?kB ?_ ?c2 ?c3 ?c4 ?c5; (case kA => exact rfl); (case kF => exact rfl); (case kK => assumption); (case k1 => k_asm); (case k2 => k_asm); (case k3 => k_asm); (case k4 => k_asm); (case k5 => k_asm); (case k6 => k_is); (case k7 => k_is); (case k8 => ktr_room); (case k9 => exact binds_K (by k_in) rfl (by k_is) rfl rfl rfl); (case c5 => decide); (case kB => exact locs rfl); (case c2 => exact rfl); (case c3 => exact rfl); (case c4 => exact rfl); k_whole; intro g' L' h' FG' F' N' B' X' T'; (try dsimp only); (try k_lift B'); (try k_fold)))
theorem indent_ok (B : Below A₀ base outer h₀) (F : Fr h₀ L s.heap m) (X : (hd.heap_39 w.params).In h₀) (N : News h₀ L s.heap news) (T : Top hd.view_39 LO mean mg mb h₀) (hk : cs.kind = .function) (hdp : dp + 4 < recursionLimit)
   {x v : PySem.Str} {t1 t2 : Tok} (W : IndIs x v) (hx : x.length ≤ 100000)
   (hret : ∀ (t : Tok) (h' : Heap) (tk' : Nat), Fr h₀ L h' m → News h₀ L h' news → Q (.str v t) { s with heap := h', toks := tk' }) :
   wpAny (model PySem.Challenge.rw_wb0015_01.row.prog w) (ktrTop dp un gd cn cs L a ccd cl outer) (call (.ref 44) [.str x t1, .int 1 t2]) Q E s := by
  refine wpAny_call ?_
  k_dflt cell_enter
  k_steps
  exact hret _ _ _ (by assumption) (by assumption)
end
end Mine
end

section
open PySem PySem.W PyProof.Rows
set_option maxRecDepth 100000
set_option maxHeartbeats 8000000
namespace Mine
theorem fill1 (w : World) (h : Heap) : (hd.heap_39 w.params).In h → PySem.Challenge.rw_wb0015_01 = PySem.Challenge.rw_wb0015_01 := by k_fill; intro _; rfl
section
variable {w : World} {base h₀ : Heap} {A₀ : Around} {outer : List Env} {L : Addr} {m : PySem.Str → Option Value} {s : Shared} {news : List (Addr × Obj)} {cs : Scope} {mean : ExcName → Option Value} {mg mb : PySem.Str → Option Value} {dp un : Nat}
   {gd : Option (List Code)} {cn : PySem.Str} {a : Addr} {ccd : Value} {cl : List (PySem.Str × Addr)} {Q E : Value → Shared → Prop}
local macro_rules | `(tactic| walk_at "call builtin:str.split") => `(tactic| (k_here; (with_reducible show wpAny _ _ (call (Value.builtin "str.split") [Value.str _ _, Value.str _ _]) _ _ _); (refine split1_W (by k_asm) (by k_asm) (by assumption) (by decide) (by omega) ?_); intro D' t' h' k' F' N' l1; (try k_lt l1)))
local macro_rules | `(tactic| walk_at "call builtin:str.join") => `(tactic| (k_here; (with_reducible show wpAny _ _ (call (Value.builtin "str.join") [Value.str _ _, Value.ref _]) _ _ _); (refine join1_K (by k_asm) (by k_mem) (by decide +kernel) (by first | omega | assumption) ?_); intro _ _))
abbrev tupObj (vs : Array Value) : Obj := { cls := .type "tuple", data := .seq vs }
theorem drop2 {h₀ h : Heap} {L : Addr} {x y : Addr × Obj} {news : List (Addr × Obj)} (N : News h₀ L h (x :: y :: news)) : News h₀ L h (x :: news) := fun p hp => N p (by
  rcases List.mem_cons.mp hp with rfl | hp
  · exact .head _
  · exact .tail _ (.tail _ hp))
theorem alias_lo (B : Below A₀ base outer h₀) (F : Fr h₀ L s.heap m) (X : (hd.heap_39 w.params).In h₀) (N : News h₀ L s.heap news) (T : Top hd.view_39 LO mean mg mb h₀) (hk : cs.kind = .function) (hdp : dp + 4 < recursionLimit)
   {rel ver : PySem.Str} {t1 t2 t3 : Tok} (hlt : rel.cps.toList < (PySem.Str.ofString "5").cps.toList)
   (hret : ∀ (q : Addr) (u1 u2 u3 : Tok) (h' : Heap) (tk' : Nat), Fr h₀ L h' m → News h₀ L h' ((q, tupObj #[.str (PySem.Str.ofString "SunOS") u1, .str rel u2, .str ver u3]) :: news) → Q (.ref q) { s with heap := h', toks := tk' }) :
   wpAny (model PySem.Challenge.rw_wb0015_01.row.prog w) (ktrTop dp un gd cn cs L a ccd cl outer) (call (.ref 51) [.str (PySem.Str.ofString "SunOS") t1, .str rel t2, .str ver t3]) Q E s := by
  refine wpAny_call ?_
  k_dflt cell_enter
  k_steps
  all_goals exact hret _ _ _ _ _ _ (by assumption) (by assumption)
theorem alias_hi (B : Below A₀ base outer h₀) (F : Fr h₀ L s.heap m) (X : (hd.heap_39 w.params).In h₀) (N : News h₀ L s.heap news) (T : Top hd.view_39 LO mean mg mb h₀) (hk : cs.kind = .function) (hdp : dp + 4 < recursionLimit)
   {k : Int} {ver : PySem.Str} {t1 t2 t3 : Tok} (hk0 : 50 ≤ k) (hk1 : k < 100) (hlt : ¬ (PySem.Str.ofString (toString k)).cps.toList < (PySem.Str.ofString "5").cps.toList) (hsp : SplitIs (PySem.Str.ofString (toString k)) (PySem.Str.ofString ".") [PySem.Str.ofString (toString k)])
   (hl : (PySem.Str.ofString (toString k)).length ≤ 100) (hl3 : (PySem.Str.ofString (toString (k - 3))).length ≤ 100000)
   (hret : ∀ (q : Addr) (u1 u2 u3 : Tok) (h' : Heap) (tk' : Nat), Fr h₀ L h' m → News h₀ L h' ((q, tupObj #[.str (PySem.Str.ofString "Solaris") u1, .str (PySem.Str.ofString (toString (k - 3))) u2, .str ver u3]) :: news) → Q (.ref q) { s with heap := h', toks := tk' }) :
   wpAny (model PySem.Challenge.rw_wb0015_01.row.prog w) (ktrTop dp un gd cn cs L a ccd cl outer) (call (.ref 51) [.str (PySem.Str.ofString "SunOS") t1, .str (PySem.Str.ofString (toString k)) t2, .str ver t3]) Q E s := by
  refine wpAny_call ?_
  k_dflt cell_enter
  k_steps
  all_goals exact hret _ _ _ _ _ _ (by assumption) (drop2 (by assumption))
end
end Mine
end

section
open PySem PySem.W PyProof.Rows
set_option maxRecDepth 100000
set_option maxHeartbeats 8000000
namespace Mine
theorem fill3 (w : World) (h : Heap) : (hd.heap_39 w.params).In h → PySem.Challenge.rw_wb0015_01 = PySem.Challenge.rw_wb0015_01 := by k_fill; intro _; rfl
theorem num_facts : ∀ k : Nat, k < 100 → 50 ≤ k → ¬ (PySem.Str.ofString (toString (k : Int))).cps.toList < (PySem.Str.ofString "5").cps.toList ∧
    Txt.split (PySem.Str.ofString (toString (k : Int))) (PySem.Str.ofString ".") = [PySem.Str.ofString (toString (k : Int))] ∧ (PySem.Str.ofString (toString (k : Int))).length ≤ 100 := by decide +kernel
theorem num_lo : ∀ k : Nat, k < 50 → 47 ≤ k → (PySem.Str.ofString (toString (k : Int))).cps.toList < (PySem.Str.ofString "5").cps.toList := by decide +kernel
theorem num_len : ∀ k : Nat, k < 100 → (PySem.Str.ofString (toString (k : Int))).length ≤ 100000 := by decide +kernel
section
variable {w : World} {base h₀ : Heap} {A₀ : Around} {outer : List Env} {L : Addr} {m : PySem.Str → Option Value} {s : Shared} {news : List (Addr × Obj)} {cs : Scope} {mean : ExcName → Option Value} {mg mb : PySem.Str → Option Value} {dp un : Nat}
   {gd : Option (List Code)} {cn : PySem.Str} {a : Addr} {ccd : Value} {cl : List (PySem.Str × Addr)} {Q E : Value → Shared → Prop}
theorem alias_hi' (B : Below A₀ base outer h₀) (F : Fr h₀ L s.heap m) (X : (hd.heap_39 w.params).In h₀) (N : News h₀ L s.heap news) (T : Top hd.view_39 LO mean mg mb h₀) (hk : cs.kind = .function) (hdp : dp + 4 < recursionLimit)
   {k : Int} {ver : PySem.Str} {t1 t2 t3 : Tok} (hk0 : 50 ≤ k) (hk1 : k < 100)
   (hret : ∀ (q : Addr) (u1 u2 u3 : Tok) (h' : Heap) (tk' : Nat), Fr h₀ L h' m → News h₀ L h' ((q, tupObj #[.str (PySem.Str.ofString "Solaris") u1, .str (PySem.Str.ofString (toString (k - 3))) u2, .str ver u3]) :: news) → Q (.ref q) { s with heap := h', toks := tk' }) :
   wpAny (model PySem.Challenge.rw_wb0015_01.row.prog w) (ktrTop dp un gd cn cs L a ccd cl outer) (call (.ref 51) [.str (PySem.Str.ofString "SunOS") t1, .str (PySem.Str.ofString (toString k)) t2, .str ver t3]) Q E s := by
  have e : ((k.toNat : Nat) : Int) = k := by omega
  have e3 : (((k - 3).toNat : Nat) : Int) = k - 3 := by omega
  have f := num_facts k.toNat (by omega) (by omega)
  have f3 := num_len (k - 3).toNat (by omega)
  rw [e] at f
  rw [e3] at f3
  exact alias_hi B F X N T hk hdp hk0 hk1 f.1 ⟨f.2.1⟩ f.2.2 f3 hret
theorem alias_lo' (B : Below A₀ base outer h₀) (F : Fr h₀ L s.heap m) (X : (hd.heap_39 w.params).In h₀) (N : News h₀ L s.heap news) (T : Top hd.view_39 LO mean mg mb h₀) (hk : cs.kind = .function) (hdp : dp + 4 < recursionLimit)
   {k : Int} {ver : PySem.Str} {t1 t2 t3 : Tok} (hk0 : 47 ≤ k) (hk1 : k < 50)
   (hret : ∀ (q : Addr) (u1 u2 u3 : Tok) (h' : Heap) (tk' : Nat), Fr h₀ L h' m → News h₀ L h' ((q, tupObj #[.str (PySem.Str.ofString "SunOS") u1, .str (PySem.Str.ofString (toString k)) u2, .str ver u3]) :: news) → Q (.ref q) { s with heap := h', toks := tk' }) :
   wpAny (model PySem.Challenge.rw_wb0015_01.row.prog w) (ktrTop dp un gd cn cs L a ccd cl outer) (call (.ref 51) [.str (PySem.Str.ofString "SunOS") t1, .str (PySem.Str.ofString (toString k)) t2, .str ver t3]) Q E s := by
  have e : ((k.toNat : Nat) : Int) = k := by omega
  have f := num_lo k.toNat (by omega) (by omega)
  rw [e] at f
  exact alias_lo B F X N T hk hdp f hret
local macro_rules | `(tactic| walk_at "call builtin:str.split") => `(tactic| (k_here; (with_reducible show wpAny _ _ (call (Value.builtin "str.split") [Value.str _ _, Value.str _ _]) _ _ _); (refine split4_W (by k_asm) (by k_asm) (by assumption) (by decide) (by omega) ?_); intro D' t1' t2' t3' t4' h' k' F' N' l1; (try k_lt l1)))
local macro_rules | `(tactic| walk_at "call builtin:str.join") => `(tactic| (k_here; (with_reducible show wpAny _ _ (call (Value.builtin "str.join") [Value.str _ _, Value.ref _]) _ _ _); (refine' join4_W ?k1 ?k2 ?k3 ?k4 ?k5 ?k6 ?k7 ?_; (case k1 => k_asm); (case k2 => k_mem); (case k3 => assumption); (case k4 => first | omega | decide +kernel); (case k5 => first | omega | decide +kernel); (case k6 => first | omega | decide +kernel); (case k7 => first | omega | decide +kernel)); intro _ _))
local macro_rules | `(tactic| walk_at "call builtin:str.lstrip") => `(tactic| ((with_reducible show wpAny _ _ (call (Value.builtin "str.lstrip") [Value.str _ _, Value.str _ _]) _ _ _); (refine strip_W (by assumption) (by omega) ?_); intro _ _))
local macro_rules | `(tactic| walk_at "binaryOp Mult str int") => `(tactic| ((with_reducible show wpAny _ _ (binaryOp Operator.Mult (Value.str _ _) (Value.int _ _)) _ _ _); (refine mul_W (by assumption) (by omega) (by omega) (by omega) ?_); intro _ _))
local macro_rules | `(tactic| walk_at "binaryOp Add str str") => `(tactic| ((with_reducible show wpAny _ _ (binaryOp Operator.Add (Value.str _ _) (Value.str _ _)) _ _ _); (refine app_W (by assumption) (by omega) (by omega) ?_); intro _ _))
local macro_rules | `(tactic| walk_at "call ref") => `(tactic| (k_here; (with_reducible show wpAny _ _ (call (Value.ref 51) _) _ _ _); k_dflt (first
  | (refine' alias_hi' ?k1 ?k2 ?k3 ?k4 ?k5 ?k6 ?k7 ?k8 ?k9 ?_; (case k1 => k_asm); (case k2 => k_asm); (case k3 => k_asm); (case k4 => k_asm); (case k5 => k_asm); (case k6 => exact rfl); (case k7 => ktr_room); (case k8 => omega); (case k9 => omega); intro q' u1' u2' u3' h' tk' F' N')
  | (refine' alias_lo' ?k1 ?k2 ?k3 ?k4 ?k5 ?k6 ?k7 ?k8 ?k9 ?_; (case k1 => k_asm); (case k2 => k_asm); (case k3 => k_asm); (case k4 => k_asm); (case k5 => k_asm); (case k6 => exact rfl); (case k7 => ktr_room); (case k8 => omega); (case k9 => omega); intro q' u1' u2' u3' h' tk' F' N'))))
local macro_rules | `(tactic| walk_at "call ref") => `(tactic| (k_here; (with_reducible show wpAny _ _ (call (Value.ref 44) _) _ _ _); k_dflt
  (refine' indent_ok ?k1 ?k2 ?k3 ?k4 ?k5 ?k6 ?k7 ?k8 ?k9 ?_; (case k1 => k_asm); (case k2 => k_asm); (case k3 => k_asm); (case k4 => k_asm); (case k5 => k_asm); (case k6 => exact rfl); (case k7 => ktr_room); (case k8 => assumption); (case k9 => omega); intro t' h' tk' F' N')))
theorem fire_lo0 (B : Below A₀ base outer h₀) (F : Fr h₀ L s.heap m) (X : (hd.heap_39 w.params).In h₀) (N : News h₀ L s.heap news) (T : Top hd.view_39 LO mean mg mb h₀) (hk : cs.kind = .function) (hdp : dp + 8 < recursionLimit)
   {p r1 r2 r3 r4 nm : PySem.Str} {na : Nat} {t1 t2 : Tok} (ha : na < 3) (W1 : SplitIs p (PySem.Str.ofString "\n") [r1, r2, r3, r4]) (W2 : StripIs r1 nm) (lp : p.length ≤ 1000) (lr : r1.length = na + 1) (ln : nm.length = 1)
   (hret : ∀ (t : Tok) (h' : Heap) (tk' : Nat), Fr h₀ L h' m → News h₀ L h' news → Q (.str p t) { s with heap := h', toks := tk' }) :
   wpAny (model PySem.Challenge.rw_wb0015_01.row.prog w) (ktrTop dp un gd cn cs L a ccd cl outer) (call (.ref 63) [.str p t1, .int 0 t2]) Q E s := by
  refine wpAny_call ?_
  k_dflt cell_enter
  k_steps
  exact hret _ _ _ (by assumption) (cb_drop (by assumption) (fun p hp => by repeat (first | exact hp | refine List.Mem.tail _ ?_)))
theorem fire_lo1 (B : Below A₀ base outer h₀) (F : Fr h₀ L s.heap m) (X : (hd.heap_39 w.params).In h₀) (N : News h₀ L s.heap news) (T : Top hd.view_39 LO mean mg mb h₀) (hk : cs.kind = .function) (hdp : dp + 8 < recursionLimit)
   {p r1 r2 r3 r4 nm : PySem.Str} {na : Nat} {t1 t2 : Tok} (ha : na < 3) (W1 : SplitIs p (PySem.Str.ofString "\n") [r1, r2, r3, r4]) (W2 : StripIs r2 nm) (lp : p.length ≤ 1000) (lr : r2.length = na + 1) (ln : nm.length = 1)
   (hret : ∀ (t : Tok) (h' : Heap) (tk' : Nat), Fr h₀ L h' m → News h₀ L h' news → Q (.str p t) { s with heap := h', toks := tk' }) :
   wpAny (model PySem.Challenge.rw_wb0015_01.row.prog w) (ktrTop dp un gd cn cs L a ccd cl outer) (call (.ref 63) [.str p t1, .int 1 t2]) Q E s := by
  refine wpAny_call ?_
  k_dflt cell_enter
  k_steps
  exact hret _ _ _ (by assumption) (cb_drop (by assumption) (fun p hp => by repeat (first | exact hp | refine List.Mem.tail _ ?_)))
theorem fire_lo2 (B : Below A₀ base outer h₀) (F : Fr h₀ L s.heap m) (X : (hd.heap_39 w.params).In h₀) (N : News h₀ L s.heap news) (T : Top hd.view_39 LO mean mg mb h₀) (hk : cs.kind = .function) (hdp : dp + 8 < recursionLimit)
   {p r1 r2 r3 r4 nm : PySem.Str} {na : Nat} {t1 t2 : Tok} (ha : na < 3) (W1 : SplitIs p (PySem.Str.ofString "\n") [r1, r2, r3, r4]) (W2 : StripIs r3 nm) (lp : p.length ≤ 1000) (lr : r3.length = na + 1) (ln : nm.length = 1)
   (hret : ∀ (t : Tok) (h' : Heap) (tk' : Nat), Fr h₀ L h' m → News h₀ L h' news → Q (.str p t) { s with heap := h', toks := tk' }) :
   wpAny (model PySem.Challenge.rw_wb0015_01.row.prog w) (ktrTop dp un gd cn cs L a ccd cl outer) (call (.ref 63) [.str p t1, .int 2 t2]) Q E s := by
  refine wpAny_call ?_
  k_dflt cell_enter
  k_steps
  exact hret _ _ _ (by assumption) (cb_drop (by assumption) (fun p hp => by repeat (first | exact hp | refine List.Mem.tail _ ?_)))
theorem fire_hi0 (B : Below A₀ base outer h₀) (F : Fr h₀ L s.heap m) (X : (hd.heap_39 w.params).In h₀) (N : News h₀ L s.heap news) (T : Top hd.view_39 LO mean mg mb h₀) (hk : cs.kind = .function) (hdp : dp + 8 < recursionLimit)
   {p r1 r2 r3 r4 nm j o e s2 s3 s4 bl x1 row res : PySem.Str} {na : Nat} {t1 t2 : Tok} (ha : 3 ≤ na) (ha2 : na ≤ 50) (W1 : SplitIs p (PySem.Str.ofString "\n") [r1, r2, r3, r4]) (W2 : StripIs r1 nm) (lp : p.length ≤ 1000) (lr : r1.length = na + 1) (ln : nm.length = 1)
   (ls2 : s2.length ≤ 100) (ls3 : s3.length ≤ 100) (ls4 : s4.length ≤ 100) (lr2 : r2.length ≤ 100) (lr3 : r3.length ≤ 100) (lr4 : r4.length ≤ 100) (W3 : JoinIs [PySem.Str.ofString "", r2, r3, r4] j) (lj : j.length ≤ 1000) (W4 : IndIs j o) (lo : o.length ≤ 1000) (W5 : SplitIs o (PySem.Str.ofString "\n") [e, s2, s3, s4]) (le : e.length ≤ 100)
   (W6 : MulIs ((na : Int) - 3) bl) (lb : bl.length ≤ 100) (W7 : AppIs e bl x1) (lx : x1.length ≤ 100) (W8 : AppIs x1 nm row) (lw : row.length ≤ 100) (W9 : JoinIs [row, s2, s3, s4] res)
   (hret : ∀ (t : Tok) (h' : Heap) (tk' : Nat), Fr h₀ L h' m → News h₀ L h' news → Q (.str res t) { s with heap := h', toks := tk' }) :
   wpAny (model PySem.Challenge.rw_wb0015_01.row.prog w) (ktrTop dp un gd cn cs L a ccd cl outer) (call (.ref 63) [.str p t1, .int 0 t2]) Q E s := by
  refine wpAny_call ?_
  k_dflt cell_enter
  k_steps
  exact hret _ _ _ (by assumption) (cb_drop (by assumption) (fun p hp => by repeat (first | exact hp | refine List.Mem.tail _ ?_)))
theorem fire_hi1 (B : Below A₀ base outer h₀) (F : Fr h₀ L s.heap m) (X : (hd.heap_39 w.params).In h₀) (N : News h₀ L s.heap news) (T : Top hd.view_39 LO mean mg mb h₀) (hk : cs.kind = .function) (hdp : dp + 8 < recursionLimit)
   {p r1 r2 r3 r4 nm j o e s1 s3 s4 bl x1 row res : PySem.Str} {na : Nat} {t1 t2 : Tok} (ha : 3 ≤ na) (ha2 : na ≤ 50) (W1 : SplitIs p (PySem.Str.ofString "\n") [r1, r2, r3, r4]) (W2 : StripIs r2 nm) (lp : p.length ≤ 1000) (lr : r2.length = na + 1) (ln : nm.length = 1)
   (ls1 : s1.length ≤ 100) (ls3 : s3.length ≤ 100) (ls4 : s4.length ≤ 100) (lr1 : r1.length ≤ 100) (lr3 : r3.length ≤ 100) (lr4 : r4.length ≤ 100) (W3 : JoinIs [r1, PySem.Str.ofString "", r3, r4] j) (lj : j.length ≤ 1000) (W4 : IndIs j o) (lo : o.length ≤ 1000) (W5 : SplitIs o (PySem.Str.ofString "\n") [s1, e, s3, s4]) (le : e.length ≤ 100)
   (W6 : MulIs ((na : Int) - 3) bl) (lb : bl.length ≤ 100) (W7 : AppIs e bl x1) (lx : x1.length ≤ 100) (W8 : AppIs x1 nm row) (lw : row.length ≤ 100) (W9 : JoinIs [s1, row, s3, s4] res)
   (hret : ∀ (t : Tok) (h' : Heap) (tk' : Nat), Fr h₀ L h' m → News h₀ L h' news → Q (.str res t) { s with heap := h', toks := tk' }) :
   wpAny (model PySem.Challenge.rw_wb0015_01.row.prog w) (ktrTop dp un gd cn cs L a ccd cl outer) (call (.ref 63) [.str p t1, .int 1 t2]) Q E s := by
  refine wpAny_call ?_
  k_dflt cell_enter
  k_steps
  exact hret _ _ _ (by assumption) (cb_drop (by assumption) (fun p hp => by repeat (first | exact hp | refine List.Mem.tail _ ?_)))
theorem fire_hi2 (B : Below A₀ base outer h₀) (F : Fr h₀ L s.heap m) (X : (hd.heap_39 w.params).In h₀) (N : News h₀ L s.heap news) (T : Top hd.view_39 LO mean mg mb h₀) (hk : cs.kind = .function) (hdp : dp + 8 < recursionLimit)
   {p r1 r2 r3 r4 nm j o e s1 s2 s4 bl x1 row res : PySem.Str} {na : Nat} {t1 t2 : Tok} (ha : 3 ≤ na) (ha2 : na ≤ 50) (W1 : SplitIs p (PySem.Str.ofString "\n") [r1, r2, r3, r4]) (W2 : StripIs r3 nm) (lp : p.length ≤ 1000) (lr : r3.length = na + 1) (ln : nm.length = 1)
   (ls1 : s1.length ≤ 100) (ls2 : s2.length ≤ 100) (ls4 : s4.length ≤ 100) (lr1 : r1.length ≤ 100) (lr2 : r2.length ≤ 100) (lr4 : r4.length ≤ 100) (W3 : JoinIs [r1, r2, PySem.Str.ofString "", r4] j) (lj : j.length ≤ 1000) (W4 : IndIs j o) (lo : o.length ≤ 1000) (W5 : SplitIs o (PySem.Str.ofString "\n") [s1, s2, e, s4]) (le : e.length ≤ 100)
   (W6 : MulIs ((na : Int) - 3) bl) (lb : bl.length ≤ 100) (W7 : AppIs e bl x1) (lx : x1.length ≤ 100) (W8 : AppIs x1 nm row) (lw : row.length ≤ 100) (W9 : JoinIs [s1, s2, row, s4] res)
   (hret : ∀ (t : Tok) (h' : Heap) (tk' : Nat), Fr h₀ L h' m → News h₀ L h' news → Q (.str res t) { s with heap := h', toks := tk' }) :
   wpAny (model PySem.Challenge.rw_wb0015_01.row.prog w) (ktrTop dp un gd cn cs L a ccd cl outer) (call (.ref 63) [.str p t1, .int 2 t2]) Q E s := by
  refine wpAny_call ?_
  k_dflt cell_enter
  k_steps
  exact hret _ _ _ (by assumption) (cb_drop (by assumption) (fun p hp => by repeat (first | exact hp | refine List.Mem.tail _ ?_)))
end
end Mine
end

section
namespace Mine
/-! the sand, in plain numbers -/
def Least (A B C f0 f1 f2 : Nat) : Prop :=
  ∀ u0 u1 u2 : Nat, A + u1 + u2 ≤ 2 + 3 * u0 → B + u0 + u2 ≤ 2 + 3 * u1 → C + u0 + u1 ≤ 2 + 3 * u2 → f0 ≤ u0 ∧ f1 ≤ u1 ∧ f2 ≤ u2
structure Sand (A B C Z f0 f1 f2 a b c z : Nat) : Prop where
  ea : A + f1 + f2 = a + 3 * f0
  eb : B + f0 + f2 = b + 3 * f1
  ec : C + f0 + f1 = c + 3 * f2
  ez : z = Z + f0 + f1 + f2
  least : Least A B C f0 f1 f2
theorem Sand.start (A B C Z : Nat) : Sand A B C Z 0 0 0 A B C Z := ⟨by omega, by omega, by omega, by omega, fun _ _ _ _ _ _ => ⟨Nat.zero_le _, Nat.zero_le _, Nat.zero_le _⟩⟩
variable {A B C Z f0 f1 f2 a b c z : Nat}
theorem Sand.fire0 (S : Sand A B C Z f0 f1 f2 a b c z) (h : 3 ≤ a) : Sand A B C Z (f0 + 1) f1 f2 (a - 3) (b + 1) (c + 1) (z + 1) := by
  obtain ⟨ea, eb, ec, ez, le⟩ := S
  refine ⟨by omega, by omega, by omega, by omega, fun u0 u1 u2 h0 h1 h2 => ?_⟩
  obtain ⟨l0, l1, l2⟩ := le u0 u1 u2 h0 h1 h2
  exact ⟨by omega, by omega, by omega⟩
theorem Sand.swap1 (S : Sand A B C Z f0 f1 f2 a b c z) : Sand B A C Z f1 f0 f2 b a c z := by
  obtain ⟨ea, eb, ec, ez, le⟩ := S
  refine ⟨eb, ea, by rw [Nat.add_right_comm]; exact ec, by rw [ez, Nat.add_right_comm Z f0 f1], fun u0 u1 u2 h0 h1 h2 => ?_⟩
  obtain ⟨l0, l1, l2⟩ := le u1 u0 u2 h1 h0 (by rw [Nat.add_right_comm]; exact h2)
  exact ⟨l1, l0, l2⟩
theorem Sand.swap2 (S : Sand A B C Z f0 f1 f2 a b c z) : Sand C B A Z f2 f1 f0 c b a z := by
  obtain ⟨ea, eb, ec, ez, le⟩ := S
  refine ⟨by rw [Nat.add_right_comm]; exact ec, by rw [Nat.add_right_comm]; exact eb, by rw [Nat.add_right_comm]; exact ea, by rw [ez, Nat.add_right_comm Z f0 f1, Nat.add_right_comm (Z + f1) f0 f2, Nat.add_right_comm Z f1 f2], fun u0 u1 u2 h0 h1 h2 => ?_⟩
  obtain ⟨l0, l1, l2⟩ := le u2 u1 u0 (by rw [Nat.add_right_comm]; exact h2) (by rw [Nat.add_right_comm]; exact h1) (by rw [Nat.add_right_comm]; exact h0)
  exact ⟨l2, l1, l0⟩
theorem Sand.fire1 (S : Sand A B C Z f0 f1 f2 a b c z) (h : 3 ≤ b) : Sand A B C Z f0 (f1 + 1) f2 (a + 1) (b - 3) (c + 1) (z + 1) := (S.swap1.fire0 h).swap1
theorem Sand.fire2 (S : Sand A B C Z f0 f1 f2 a b c z) (h : 3 ≤ c) : Sand A B C Z f0 f1 (f2 + 1) (a + 1) (b + 1) (c - 3) (z + 1) := (S.swap2.fire0 h).swap2
/-- the sum stays -/
theorem Sand.sum (S : Sand A B C Z f0 f1 f2 a b c z) : a + b + c + z = A + B + C + Z := by
  obtain ⟨ea, eb, ec, ez, le⟩ := S
  omega
theorem uniq_aux {v0 v1 v2 a b c p q r : Nat} (m1 : v1 ≤ v0) (m2 : v2 ≤ v0) (ha : a ≤ 2) (hb : b ≤ 2) (hc : c ≤ 2) (h0 : a + v1 + v2 = p + 3 * v0) (h1 : b + v0 + v2 = q + 3 * v1) (h2 : c + v0 + v1 = r + 3 * v2)
    (hm : p = 2 ∨ q = 2 ∨ r = 2) (z1 : p = 0 → q = 0 → False) (z2 : p = 0 → r = 0 → False) (z3 : q = 0 → r = 0 → False) : v0 = 0 := by
  have hv : v0 = 0 ∨ v0 = 1 ∨ v0 = 2 := by omega
  rcases hv with h | rfl | rfl
  · exact h
  · exfalso
    have h1c : v1 = 0 ∨ v1 = 1 := by omega
    have h2c : v2 = 0 ∨ v2 = 1 := by omega
    rcases h1c with rfl | rfl <;> rcases h2c with rfl | rfl
    · clear z1 z2 z3 hm h1 h2; omega
    · exact z2 (by clear z1 z2 z3 hm h1 h2; omega) (by clear z1 z2 z3 hm h0 h1; omega)
    · exact z1 (by clear z1 z2 z3 hm h1 h2; omega) (by clear z1 z2 z3 hm h0 h2; omega)
    · clear z1 z2 z3; omega
  · exact (z1 (by clear z1 z2 z3 hm h1 h2; omega) (by clear z1 z2 z3 hm h2; omega)).elim
/-- what is at rest and can come back is reached -/
theorem Sand.uniq {u0 u1 u2 p q r : Nat} (S : Sand A B C Z f0 f1 f2 a b c z) (ha : a ≤ 2) (hb : b ≤ 2) (hc : c ≤ 2)
    (e0 : A + u1 + u2 = p + 3 * u0) (e1 : B + u0 + u2 = q + 3 * u1) (e2 : C + u0 + u1 = r + 3 * u2) (hp : p ≤ 2) (hq : q ≤ 2) (hr : r ≤ 2)
    (hm : p = 2 ∨ q = 2 ∨ r = 2) (hz : (0 < p ∧ 0 < q) ∨ (0 < p ∧ 0 < r) ∨ (0 < q ∧ 0 < r)) : f0 = u0 ∧ f1 = u1 ∧ f2 = u2 := by
  obtain ⟨ea, eb, ec, ez, le⟩ := S
  obtain ⟨l0, l1, l2⟩ := le u0 u1 u2 (by omega) (by omega) (by omega)
  obtain ⟨v0, rfl⟩ := Nat.exists_eq_add_of_le l0
  obtain ⟨v1, rfl⟩ := Nat.exists_eq_add_of_le l1
  obtain ⟨v2, rfl⟩ := Nat.exists_eq_add_of_le l2
  have h0 : a + v1 + v2 = p + 3 * v0 := by omega
  have h1 : b + v0 + v2 = q + 3 * v1 := by omega
  have h2 : c + v0 + v1 = r + 3 * v2 := by omega
  clear ea eb ec ez le e0 e1 e2 l0 l1 l2
  have z1 : p = 0 → q = 0 → False := fun x y => by clear h0 h1 h2 hm ha hb hc; omega
  have z2 : p = 0 → r = 0 → False := fun x y => by clear h0 h1 h2 hm ha hb hc; omega
  have z3 : q = 0 → r = 0 → False := fun x y => by clear h0 h1 h2 hm ha hb hc; omega
  clear hz
  have hv : v0 = 0 ∧ v1 = 0 ∧ v2 = 0 := by
    have hmax : (v1 ≤ v0 ∧ v2 ≤ v0) ∨ (v0 ≤ v1 ∧ v2 ≤ v1) ∨ (v0 ≤ v2 ∧ v1 ≤ v2) := by clear h0 h1 h2 z1 z2 z3 hm; omega
    rcases hmax with ⟨m1, m2⟩ | ⟨m1, m2⟩ | ⟨m1, m2⟩
    · obtain rfl := uniq_aux m1 m2 ha hb hc h0 h1 h2 hm z1 z2 z3
      exact ⟨rfl, Nat.le_zero.mp m1, Nat.le_zero.mp m2⟩
    · obtain rfl := uniq_aux m1 m2 hb ha hc h1 h0 (by rw [Nat.add_right_comm]; exact h2) (hm.elim (fun h => .inr (.inl h)) (fun h => h.elim .inl (fun h => .inr (.inr h)))) (fun x y => z1 y x) z3 z2
      exact ⟨Nat.le_zero.mp m1, rfl, Nat.le_zero.mp m2⟩
    · obtain rfl := uniq_aux m1 m2 hc ha hb h2 (by rw [Nat.add_right_comm]; exact h0) (by rw [Nat.add_right_comm]; exact h1) (hm.elim (fun h => .inr (.inl h)) (fun h => h.elim (fun h => .inr (.inr h)) .inl)) (fun x y => z2 y x) (fun x y => z3 y x) z1
      exact ⟨Nat.le_zero.mp m1, Nat.le_zero.mp m2, rfl⟩
  obtain ⟨rfl, rfl, rfl⟩ := hv
  exact ⟨rfl, rfl, rfl⟩
end Mine
end

section
open PySem PySem.W PyProof.Rows
set_option maxRecDepth 100000
set_option maxHeartbeats 8000000
namespace Mine
/-- the page of four rows -/
def page4 (a b c z : Nat) : PySem.Str := PySem.Str.join ⟨#[10]⟩ [rowS a 97, rowS b 98, rowS c 99, rowS z 122]
theorem split4 (r1 r2 r3 r4 : PySem.Str) (h1 : 10 ∉ r1.cps.toList) (h2 : 10 ∉ r2.cps.toList) (h3 : 10 ∉ r3.cps.toList) (h4 : 10 ∉ r4.cps.toList) : SplitIs (PySem.Str.join ⟨#[10]⟩ [r1, r2, r3, r4]) (PySem.Str.ofString "\n") [r1, r2, r3, r4] := by
  refine ⟨?_⟩
  rw [nl_eq]
  refine split_join 10 _ (by simp) ?_
  intro p hp
  simp only [List.mem_cons, List.not_mem_nil, or_false] at hp
  rcases hp with rfl | rfl | rfl | rfl <;> assumption
theorem ind4 (r1 r2 r3 r4 : PySem.Str) (h1 : 10 ∉ r1.cps.toList) (h2 : 10 ∉ r2.cps.toList) (h3 : 10 ∉ r3.cps.toList) (h4 : 10 ∉ r4.cps.toList) :
    IndIs (PySem.Str.join ⟨#[10]⟩ [r1, r2, r3, r4]) (PySem.Str.join ⟨#[10]⟩ [mkS (addB r1.cps.toList), mkS (addB r2.cps.toList), mkS (addB r3.cps.toList), mkS (addB r4.cps.toList)]) := by
  refine ⟨?_⟩
  rw [out_join]
  · rfl
  · intro p hp
    simp only [List.mem_cons, List.not_mem_nil, or_false] at hp
    rcases hp with rfl | rfl | rfl | rfl <;> assumption
theorem join4_len (r1 r2 r3 r4 : PySem.Str) : (PySem.Str.join ⟨#[10]⟩ [r1, r2, r3, r4]).length = r1.length + r2.length + r3.length + r4.length + 3 := by
  show (r1 ++ ⟨#[10]⟩ ++ (r2 ++ ⟨#[10]⟩ ++ (r3 ++ ⟨#[10]⟩ ++ r4))).length = _
  simp only [PySem.Str.length_append]
  have : PySem.Str.length ⟨#[10]⟩ = 1 := rfl
  omega
theorem page4_len (a b c z : Nat) : (page4 a b c z).length = a + b + c + z + 7 := by
  unfold page4
  rw [join4_len, row_len, row_len, row_len, row_len]; omega
theorem free97 (n : Nat) : 10 ∉ (rowS n 97).cps.toList := row_free n 97 (by decide)
theorem free98 (n : Nat) : 10 ∉ (rowS n 98).cps.toList := row_free n 98 (by decide)
theorem free99 (n : Nat) : 10 ∉ (rowS n 99).cps.toList := row_free n 99 (by decide)
theorem free122 (n : Nat) : 10 ∉ (rowS n 122).cps.toList := row_free n 122 (by decide)
theorem emp_eq : PySem.Str.ofString "" = mkS [] := by decide +kernel
theorem freeE : 10 ∉ (PySem.Str.ofString "").cps.toList := by rw [emp_eq]; decide
theorem addB_emp : mkS (addB (PySem.Str.ofString "").cps.toList) = mkS [] := by rw [emp_eq]; rfl
theorem mulIs (n : Nat) (h : 3 ≤ n) : MulIs ((n : Int) - 3) (mkS (List.replicate (n - 3) 32)) := by
  refine ⟨?_⟩
  rw [mul_blank, show ((n : Int) - 3).toNat = n - 3 by omega]
theorem app_emp (x : List Nat) : AppIs (mkS []) (mkS x) (mkS x) := ⟨by rw [mkS_app]; rfl⟩
theorem app_row (k c : Nat) : AppIs (mkS (List.replicate k 32)) (mkS [c]) (rowS k c) := ⟨row_make k c⟩
theorem stripIs (n c : Nat) (h : c ≠ 32) : StripIs (rowS n c) (mkS [c]) := ⟨lstrip_row n c h⟩
theorem repl_len (k : Nat) : (mkS (List.replicate k 32)).length = k := by rw [mkS_len, List.length_replicate]
section
variable {w : World} {base h₀ : Heap} {A₀ : Around} {outer : List Env} {L : Addr} {m : PySem.Str → Option Value} {s : Shared} {news : List (Addr × Obj)} {cs : Scope} {mean : ExcName → Option Value} {mg mb : PySem.Str → Option Value} {dp un : Nat}
   {gd : Option (List Code)} {cn : PySem.Str} {a : Addr} {ccd : Value} {cl : List (PySem.Str × Addr)} {Q E : Value → Shared → Prop}
theorem page_lo0 (B : Below A₀ base outer h₀) (F : Fr h₀ L s.heap m) (X : (hd.heap_39 w.params).In h₀) (N : News h₀ L s.heap news) (T : Top hd.view_39 LO mean mg mb h₀) (hk : cs.kind = .function) (hdp : dp + 8 < recursionLimit)
   {na nb nc nz : Nat} {t1 t2 : Tok} (h : na < 3) (hs : na + nb + nc + nz ≤ 50)
   (hret : ∀ (t : Tok) (h' : Heap) (tk' : Nat), Fr h₀ L h' m → News h₀ L h' news → Q (.str (page4 na nb nc nz) t) { s with heap := h', toks := tk' }) :
   wpAny (model PySem.Challenge.rw_wb0015_01.row.prog w) (ktrTop dp un gd cn cs L a ccd cl outer) (call (.ref 63) [.str (page4 na nb nc nz) t1, .int 0 t2]) Q E s :=
  fire_lo0 B F X N T hk hdp h (split4 _ _ _ _ (free97 _) (free98 _) (free99 _) (free122 _)) (stripIs _ _ (by decide)) (by rw [page4_len]; omega) (row_len _ _) rfl hret
theorem page_hi0 (B : Below A₀ base outer h₀) (F : Fr h₀ L s.heap m) (X : (hd.heap_39 w.params).In h₀) (N : News h₀ L s.heap news) (T : Top hd.view_39 LO mean mg mb h₀) (hk : cs.kind = .function) (hdp : dp + 8 < recursionLimit)
   {na nb nc nz : Nat} {t1 t2 : Tok} (h : 3 ≤ na) (hs : na + nb + nc + nz ≤ 50)
   (hret : ∀ (t : Tok) (h' : Heap) (tk' : Nat), Fr h₀ L h' m → News h₀ L h' news → Q (.str (page4 (na - 3) (nb + 1) (nc + 1) (nz + 1)) t) { s with heap := h', toks := tk' }) :
   wpAny (model PySem.Challenge.rw_wb0015_01.row.prog w) (ktrTop dp un gd cn cs L a ccd cl outer) (call (.ref 63) [.str (page4 na nb nc nz) t1, .int 0 t2]) Q E s := by
  have I := ind4 (PySem.Str.ofString "") (rowS nb 98) (rowS nc 99) (rowS nz 122) freeE (free98 _) (free99 _) (free122 _)
  rw [addB_emp, addB_row, addB_row, addB_row] at I
  have el : (PySem.Str.ofString "").length = 0 := by rw [emp_eq]; rfl
  have el2 : (mkS []).length = 0 := rfl
  exact fire_hi0 B F X N T hk hdp h (by omega) (split4 _ _ _ _ (free97 _) (free98 _) (free99 _) (free122 _)) (stripIs _ _ (by decide)) (by rw [page4_len]; omega) (row_len _ _) rfl
    (by rw [row_len]; omega) (by rw [row_len]; omega) (by rw [row_len]; omega) (by rw [row_len]; omega) (by rw [row_len]; omega) (by rw [row_len]; omega) (j := PySem.Str.join ⟨#[10]⟩ [PySem.Str.ofString "", rowS nb 98, rowS nc 99, rowS nz 122]) ⟨rfl⟩ (by rw [join4_len]; simp only [row_len, el]; omega) I (by rw [join4_len]; simp only [row_len, el2]; omega) (split4 _ _ _ _ (by decide) (free98 _) (free99 _) (free122 _)) (by rw [el2]; omega)
    (mulIs _ h) (by rw [repl_len]; omega) (app_emp _) (by rw [repl_len]; omega) (app_row _ _) (by rw [row_len]; omega) ⟨rfl⟩ hret
theorem page_lo1 (B : Below A₀ base outer h₀) (F : Fr h₀ L s.heap m) (X : (hd.heap_39 w.params).In h₀) (N : News h₀ L s.heap news) (T : Top hd.view_39 LO mean mg mb h₀) (hk : cs.kind = .function) (hdp : dp + 8 < recursionLimit)
   {na nb nc nz : Nat} {t1 t2 : Tok} (h : nb < 3) (hs : na + nb + nc + nz ≤ 50)
   (hret : ∀ (t : Tok) (h' : Heap) (tk' : Nat), Fr h₀ L h' m → News h₀ L h' news → Q (.str (page4 na nb nc nz) t) { s with heap := h', toks := tk' }) :
   wpAny (model PySem.Challenge.rw_wb0015_01.row.prog w) (ktrTop dp un gd cn cs L a ccd cl outer) (call (.ref 63) [.str (page4 na nb nc nz) t1, .int 1 t2]) Q E s :=
  fire_lo1 B F X N T hk hdp h (split4 _ _ _ _ (free97 _) (free98 _) (free99 _) (free122 _)) (stripIs _ _ (by decide)) (by rw [page4_len]; omega) (row_len _ _) rfl hret
theorem page_hi1 (B : Below A₀ base outer h₀) (F : Fr h₀ L s.heap m) (X : (hd.heap_39 w.params).In h₀) (N : News h₀ L s.heap news) (T : Top hd.view_39 LO mean mg mb h₀) (hk : cs.kind = .function) (hdp : dp + 8 < recursionLimit)
   {na nb nc nz : Nat} {t1 t2 : Tok} (h : 3 ≤ nb) (hs : na + nb + nc + nz ≤ 50)
   (hret : ∀ (t : Tok) (h' : Heap) (tk' : Nat), Fr h₀ L h' m → News h₀ L h' news → Q (.str (page4 (na + 1) (nb - 3) (nc + 1) (nz + 1)) t) { s with heap := h', toks := tk' }) :
   wpAny (model PySem.Challenge.rw_wb0015_01.row.prog w) (ktrTop dp un gd cn cs L a ccd cl outer) (call (.ref 63) [.str (page4 na nb nc nz) t1, .int 1 t2]) Q E s := by
  have I := ind4 (rowS na 97) (PySem.Str.ofString "") (rowS nc 99) (rowS nz 122) (free97 _) freeE (free99 _) (free122 _)
  rw [addB_row, addB_emp, addB_row, addB_row] at I
  have el : (PySem.Str.ofString "").length = 0 := by rw [emp_eq]; rfl
  have el2 : (mkS []).length = 0 := rfl
  exact fire_hi1 B F X N T hk hdp h (by omega) (split4 _ _ _ _ (free97 _) (free98 _) (free99 _) (free122 _)) (stripIs _ _ (by decide)) (by rw [page4_len]; omega) (row_len _ _) rfl
    (by rw [row_len]; omega) (by rw [row_len]; omega) (by rw [row_len]; omega) (by rw [row_len]; omega) (by rw [row_len]; omega) (by rw [row_len]; omega) (j := PySem.Str.join ⟨#[10]⟩ [rowS na 97, PySem.Str.ofString "", rowS nc 99, rowS nz 122]) ⟨rfl⟩ (by rw [join4_len]; simp only [row_len, el]; omega) I (by rw [join4_len]; simp only [row_len, el2]; omega) (split4 _ _ _ _ (free97 _) (by decide) (free99 _) (free122 _)) (by rw [el2]; omega)
    (mulIs _ h) (by rw [repl_len]; omega) (app_emp _) (by rw [repl_len]; omega) (app_row _ _) (by rw [row_len]; omega) ⟨rfl⟩ hret
theorem page_lo2 (B : Below A₀ base outer h₀) (F : Fr h₀ L s.heap m) (X : (hd.heap_39 w.params).In h₀) (N : News h₀ L s.heap news) (T : Top hd.view_39 LO mean mg mb h₀) (hk : cs.kind = .function) (hdp : dp + 8 < recursionLimit)
   {na nb nc nz : Nat} {t1 t2 : Tok} (h : nc < 3) (hs : na + nb + nc + nz ≤ 50)
   (hret : ∀ (t : Tok) (h' : Heap) (tk' : Nat), Fr h₀ L h' m → News h₀ L h' news → Q (.str (page4 na nb nc nz) t) { s with heap := h', toks := tk' }) :
   wpAny (model PySem.Challenge.rw_wb0015_01.row.prog w) (ktrTop dp un gd cn cs L a ccd cl outer) (call (.ref 63) [.str (page4 na nb nc nz) t1, .int 2 t2]) Q E s :=
  fire_lo2 B F X N T hk hdp h (split4 _ _ _ _ (free97 _) (free98 _) (free99 _) (free122 _)) (stripIs _ _ (by decide)) (by rw [page4_len]; omega) (row_len _ _) rfl hret
theorem page_hi2 (B : Below A₀ base outer h₀) (F : Fr h₀ L s.heap m) (X : (hd.heap_39 w.params).In h₀) (N : News h₀ L s.heap news) (T : Top hd.view_39 LO mean mg mb h₀) (hk : cs.kind = .function) (hdp : dp + 8 < recursionLimit)
   {na nb nc nz : Nat} {t1 t2 : Tok} (h : 3 ≤ nc) (hs : na + nb + nc + nz ≤ 50)
   (hret : ∀ (t : Tok) (h' : Heap) (tk' : Nat), Fr h₀ L h' m → News h₀ L h' news → Q (.str (page4 (na + 1) (nb + 1) (nc - 3) (nz + 1)) t) { s with heap := h', toks := tk' }) :
   wpAny (model PySem.Challenge.rw_wb0015_01.row.prog w) (ktrTop dp un gd cn cs L a ccd cl outer) (call (.ref 63) [.str (page4 na nb nc nz) t1, .int 2 t2]) Q E s := by
  have I := ind4 (rowS na 97) (rowS nb 98) (PySem.Str.ofString "") (rowS nz 122) (free97 _) (free98 _) freeE (free122 _)
  rw [addB_row, addB_row, addB_emp, addB_row] at I
  have el : (PySem.Str.ofString "").length = 0 := by rw [emp_eq]; rfl
  have el2 : (mkS []).length = 0 := rfl
  exact fire_hi2 B F X N T hk hdp h (by omega) (split4 _ _ _ _ (free97 _) (free98 _) (free99 _) (free122 _)) (stripIs _ _ (by decide)) (by rw [page4_len]; omega) (row_len _ _) rfl
    (by rw [row_len]; omega) (by rw [row_len]; omega) (by rw [row_len]; omega) (by rw [row_len]; omega) (by rw [row_len]; omega) (by rw [row_len]; omega) (j := PySem.Str.join ⟨#[10]⟩ [rowS na 97, rowS nb 98, PySem.Str.ofString "", rowS nz 122]) ⟨rfl⟩ (by rw [join4_len]; simp only [row_len, el]; omega) I (by rw [join4_len]; simp only [row_len, el2]; omega) (split4 _ _ _ _ (free97 _) (free98 _) (by decide) (free122 _)) (by rw [el2]; omega)
    (mulIs _ h) (by rw [repl_len]; omega) (app_emp _) (by rw [repl_len]; omega) (app_row _ _) (by rw [row_len]; omega) ⟨rfl⟩ hret
end
end Mine
end

section
open PySem PySem.W PyProof.Rows PyProof.V
set_option maxRecDepth 100000
namespace Mine
section
variable {prog : Program} {w : World} {A : Around} {E : Value → Shared → Prop} {s : Shared} {env : Env} {h₀ : Heap} {x : PySem.Str} {body : List Stmt} {Q : Flow → Shared → Prop}
/-- a loop over range(n), by what holds of the turn's number, the frame's map and the ledger -/
theorem iter_rangeJ {r : Addr} {b₀ : Int} {t₀ u₀ v₀ : Tok} {n : Nat} {m₀ : PySem.Str → Option Value} {news : List (Addr × Obj)} (J : Nat → (PySem.Str → Option Value) → List (Addr × Obj) → Prop)
    (hh : A.handled = none) (hr : IsRange s.heap r 0 b₀ 1 t₀ u₀ v₀) (hsmall : Builtin.Range.small 0 b₀ 1 = true) (hn : Builtin.Range.rangeSize 0 b₀ 1 = (n : Int)) (F : Fr h₀ env.locals s.heap m₀) (N : News h₀ env.locals s.heap news) (hj : J 0 m₀ news)
    (turn : ∀ (i : Nat) t m₁ news₁ h tk own, i < n → news₁.map (·.1) = news.map (·.1) → OwnOff own (news.map (·.1)) → J i m₁ news₁ → Fr h₀ env.locals h (fun y => if y = x then some (.int (i : Int) t) else m₁ y) → News h₀ env.locals h (news₁ ++ own) →
      wpAny (model prog w) A (execs body env) (InvPostN h₀ env.locals (J (i + 1)) own (news.map (·.1)) { s with heap := h, toks := tk } Q) E { s with heap := h, toks := tk })
    (done : ∀ m₁ news₁ h tk, J n m₁ news₁ → Fr h₀ env.locals h m₁ → News h₀ env.locals h news₁ → Q .next { s with heap := h, toks := tk }) :
    wpAny (model prog w) A (pyIter (.ref r)) (fun it s₂ => LoopAtV prog w A h₀ env x body Q E it s₂) E s := by
  refine wpAny_pyIter_range hr hsmall ?_
  have W : Walks prog w A s.heap.objs.size [s.heap.objs.size] [s.heap.objs.size] n (fun i v => i < n ∧ ∃ t, v = .int (0 + i * 1) t)
      (fun i h => IsRangeIter h s.heap.objs.size (0 + (i : Nat) * 1) ((n : Int) - (i : Nat)) 1) := (Walks.range hh _ 0 1 n).bound
  refine loop_invN J W ?_ ?_ ?_ ?_ (by show IsRangeIter _ _ _ _ _; rw [hn]; simpa using Heap.get?_push_size _ rfl) (F.push _) (fun p hp => ⟨Heap.get?_push_of_some _ (N p hp).1, (N p hp).2⟩) hj ?_ ?_
  · intro hm
    exact absurd F.ns.lt ((List.mem_singleton.mp hm) ▸ Nat.lt_irrefl _)
  · intro b hb
    rw [List.mem_singleton.mp hb]
    exact next_is_new F
  · intro p hp hI
    exact absurd (Heap.lt_size (N p hp).1) ((List.mem_singleton.mp hI) ▸ Nat.lt_irrefl _)
  · intro p hp hI
    exact absurd (Heap.lt_size (N p hp).1) ((List.mem_singleton.mp hI) ▸ Nat.lt_irrefl _)
  · rintro i v m₁ nx h tk own hi ⟨_, t, rfl⟩ ha hoff hJ F₁ N₁
    have e1 : (0 : Int) + (i : Int) * 1 = (i : Int) := by omega
    rw [e1] at F₁
    exact turn i t m₁ nx h tk own hi ha hoff hJ F₁ N₁
  · intro m₁ nx h tk hJ F₁ N₁
    exact done m₁ nx h tk hJ F₁ N₁
theorem map3 {m : PySem.Str → Option Value} {p1 p2 p3 : PySem.Str} {v : Value} {v1 v2 v3 : Value} (h1 : m p1 = some v1) (h2 : m p2 = some v2) (h3 : m p3 = some v3) :
    (fun y => if y = x then some v else m y) = fun y => if y = x then some v else if y = p1 then some v1 else if y = p2 then some v2 else if y = p3 then some v3 else m y := by
  funext y
  by_cases e : y = x
  · rw [if_pos e, if_pos e]
  · rw [if_neg e, if_neg e]
    by_cases e1 : y = p1
    · rw [if_pos e1, e1, h1]
    · rw [if_neg e1]
      by_cases e2 : y = p2
      · rw [if_pos e2, e2, h2]
      · rw [if_neg e2]
        by_cases e3 : y = p3
        · rw [if_pos e3, e3, h3]
        · rw [if_neg e3]
theorem map4 {m : PySem.Str → Option Value} {p1 p2 p3 p4 : PySem.Str} {v : Value} {v1 v2 v3 v4 : Value} (h1 : m p1 = some v1) (h2 : m p2 = some v2) (h3 : m p3 = some v3) (h4 : m p4 = some v4) :
    (fun y => if y = x then some v else m y) = fun y => if y = x then some v else if y = p1 then some v1 else if y = p2 then some v2 else if y = p3 then some v3 else if y = p4 then some v4 else m y := by
  funext y
  by_cases e : y = x
  · rw [if_pos e, if_pos e]
  · rw [if_neg e, if_neg e]
    by_cases e1 : y = p1
    · rw [if_pos e1, e1, h1]
    · rw [if_neg e1]
      by_cases e2 : y = p2
      · rw [if_pos e2, e2, h2]
      · rw [if_neg e2]
        by_cases e3 : y = p3
        · rw [if_pos e3, e3, h3]
        · rw [if_neg e3]
          by_cases e4 : y = p4
          · rw [if_pos e4, e4, h4]
          · rw [if_neg e4]
theorem mapAll4 {m : PySem.Str → Option Value} {p1 p2 p3 p4 : PySem.Str} {v1 v2 v3 v4 : Value} (h1 : m p1 = some v1) (h2 : m p2 = some v2) (h3 : m p3 = some v3) (h4 : m p4 = some v4) :
    m = fun y => if y = p1 then some v1 else if y = p2 then some v2 else if y = p3 then some v3 else if y = p4 then some v4 else m y := by
  funext y
  by_cases e1 : y = p1
  · rw [if_pos e1, e1, h1]
  · rw [if_neg e1]
    by_cases e2 : y = p2
    · rw [if_pos e2, e2, h2]
    · rw [if_neg e2]
      by_cases e3 : y = p3
      · rw [if_pos e3, e3, h3]
      · rw [if_neg e3]
        by_cases e4 : y = p4
        · rw [if_pos e4, e4, h4]
        · rw [if_neg e4]
theorem mapAll3 {m : PySem.Str → Option Value} {p1 p2 p3 : PySem.Str} {v1 v2 v3 : Value} (h1 : m p1 = some v1) (h2 : m p2 = some v2) (h3 : m p3 = some v3) :
    m = fun y => if y = p1 then some v1 else if y = p2 then some v2 else if y = p3 then some v3 else m y := by
  funext y
  by_cases e1 : y = p1
  · rw [if_pos e1, e1, h1]
  · rw [if_neg e1]
    by_cases e2 : y = p2
    · rw [if_pos e2, e2, h2]
    · rw [if_neg e2]
      by_cases e3 : y = p3
      · rw [if_pos e3, e3, h3]
      · rw [if_neg e3]
end
end Mine
end

section
open PySem PySem.W PyProof.Rows PyProof.V
set_option maxRecDepth 100000
namespace Mine
/-- a text that is a page of four rows -/
structure PgIs (p : PySem.Str) (a b c z : Nat) : Prop where
  out : p = page4 a b c z
theorem page4_inj {a b c z a' b' c' z' : Nat} (h : page4 a b c z = page4 a' b' c' z') : a = a' ∧ b = b' ∧ c = c' ∧ z = z' := by
  have h1 := (split4 _ _ _ _ (free97 a) (free98 b) (free99 c) (free122 z)).out
  have h2 := (split4 _ _ _ _ (free97 a') (free98 b') (free99 c') (free122 z')).out
  unfold page4 at h
  rw [h, h2] at h1
  simp only [List.cons.injEq, and_true] at h1
  obtain ⟨e1, e2, e3, e4⟩ := h1
  have f1 := congrArg PySem.Str.length e1
  have f2 := congrArg PySem.Str.length e2
  have f3 := congrArg PySem.Str.length e3
  have f4 := congrArg PySem.Str.length e4
  simp only [row_len] at f1 f2 f3 f4
  omega
theorem PgIs.inj {p : PySem.Str} {a b c z a' b' c' z' : Nat} (h : PgIs p a b c z) (h' : PgIs p a' b' c' z') : a = a' ∧ b = b' ∧ c = c' ∧ z = z' := page4_inj (h.out.symm.trans h'.out)
structure InS (A B C Z : Nat) (ns : List Int) (k F0 a0 b0 c0 z0 f0 f1 f2 a b c z : Nat) : Prop where
  sand : Sand A B C Z f0 f1 f2 a b c z
  up : F0 ≤ f0 + f1 + f2
  same : f0 + f1 + f2 = F0 → (a = a0 ∧ b = b0 ∧ c = c0 ∧ z = z0) ∧ ∀ j n, j < k → ns[j]? = some n → (n = 0 → a ≤ 2) ∧ (n = 1 → b ≤ 2) ∧ (n = 2 → c ≤ 2)
section
variable {A B C Z : Nat} {ns : List Int} {k F0 a0 b0 c0 z0 f0 f1 f2 a b c z : Nat}
theorem InS.start (S : Sand A B C Z f0 f1 f2 a b c z) : InS A B C Z ns 0 (f0 + f1 + f2) a b c z f0 f1 f2 a b c z := ⟨S, Nat.le_refl _, fun _ => ⟨⟨rfl, rfl, rfl, rfl⟩, fun j n h => by omega⟩⟩
theorem InS.hi0 (I : InS A B C Z ns k F0 a0 b0 c0 z0 f0 f1 f2 a b c z) (h : 3 ≤ a) : InS A B C Z ns (k + 1) F0 a0 b0 c0 z0 (f0 + 1) f1 f2 (a - 3) (b + 1) (c + 1) (z + 1) :=
  ⟨I.sand.fire0 h, by have := I.up; omega, fun e => by have := I.up; omega⟩
theorem InS.hi1 (I : InS A B C Z ns k F0 a0 b0 c0 z0 f0 f1 f2 a b c z) (h : 3 ≤ b) : InS A B C Z ns (k + 1) F0 a0 b0 c0 z0 f0 (f1 + 1) f2 (a + 1) (b - 3) (c + 1) (z + 1) :=
  ⟨I.sand.fire1 h, by have := I.up; omega, fun e => by have := I.up; omega⟩
theorem InS.hi2 (I : InS A B C Z ns k F0 a0 b0 c0 z0 f0 f1 f2 a b c z) (h : 3 ≤ c) : InS A B C Z ns (k + 1) F0 a0 b0 c0 z0 f0 f1 (f2 + 1) (a + 1) (b + 1) (c - 3) (z + 1) :=
  ⟨I.sand.fire2 h, by have := I.up; omega, fun e => by have := I.up; omega⟩
theorem InS.lo {n : Int} (I : InS A B C Z ns k F0 a0 b0 c0 z0 f0 f1 f2 a b c z) (hn : ns[k]? = some n) (h : (n = 0 → a ≤ 2) ∧ (n = 1 → b ≤ 2) ∧ (n = 2 → c ≤ 2)) : InS A B C Z ns (k + 1) F0 a0 b0 c0 z0 f0 f1 f2 a b c z := by
  refine ⟨I.sand, I.up, fun e => ⟨(I.same e).1, fun j n' hj hn' => ?_⟩⟩
  by_cases hjk : j = k
  · subst hjk
    rw [hn] at hn'
    cases hn'
    exact h
  · exact (I.same e).2 j n' (by omega) hn'
theorem InS.rest (I : InS A B C Z ns ns.length F0 a0 b0 c0 z0 f0 f1 f2 a b c z) (hz : z = z0) (hz0 : z0 = Z + F0) (h0 : (0 : Int) ∈ ns) (h1 : (1 : Int) ∈ ns) (h2 : (2 : Int) ∈ ns) : a ≤ 2 ∧ b ≤ 2 ∧ c ≤ 2 := by
  have e : f0 + f1 + f2 = F0 := by have := I.sand.ez; omega
  have hall := (I.same e).2
  obtain ⟨j0, hj0⟩ := List.getElem?_of_mem h0
  obtain ⟨j1, hj1⟩ := List.getElem?_of_mem h1
  obtain ⟨j2, hj2⟩ := List.getElem?_of_mem h2
  have lt : ∀ {j : Nat} {n : Int}, ns[j]? = some n → j < ns.length := fun h => by
    rcases Nat.lt_or_ge _ ns.length with h' | h'
    · exact h'
    · rw [List.getElem?_eq_none h'] at h; cases h
  exact ⟨(hall j0 0 (lt hj0) hj0).1 rfl, (hall j1 1 (lt hj1) hj1).2.1 rfl, (hall j2 2 (lt hj2) hj2).2.2 rfl⟩
theorem InS.up1 (I : InS A B C Z ns ns.length F0 a0 b0 c0 z0 f0 f1 f2 a b c z) (h : ¬ (a = a0 ∧ b = b0 ∧ c = c0 ∧ z = z0)) : F0 + 1 ≤ f0 + f1 + f2 := by
  have := I.up
  rcases Nat.lt_or_ge F0 (f0 + f1 + f2) with h' | h'
  · exact h'
  · exact absurd (I.same (by omega)).1 h
end
def firedO (f0 f1 f2 : Nat) (t0 t1 t2 : Tok) (n : Nat) : Obj := listOf #[.int (f0 : Nat) t0, .int (f1 : Nat) t1, .int (f2 : Nat) t2] n
def OutJ (A B C Z : Nat) (rest : List (Addr × Obj)) (fl l : Addr) (i : Nat) (m : PySem.Str → Option Value) (nx : List (Addr × Obj)) : Prop :=
  ∃ (pg : PySem.Str) (f0 f1 f2 a b c z : Nat) (u t0 t1 t2 : Tok) (n : Nat), nx = (fl, listOf #[.int (f0 : Nat) t0, .int (f1 : Nat) t1, .int (f2 : Nat) t2] n) :: rest ∧ PgIs pg a b c z ∧ Sand A B C Z f0 f1 f2 a b c z ∧ i ≤ f0 + f1 + f2 ∧
    m (PySem.Str.ofString "page") = some (.str pg u) ∧ m (PySem.Str.ofString "fired") = some (.ref fl) ∧ m (PySem.Str.ofString "order") = some (.ref l)
def InJ (A B C Z : Nat) (ns : List Int) (rest : List (Addr × Obj)) (fl l : Addr) (bf : PySem.Str) (ub : Tok) (F0 a0 b0 c0 z0 : Nat) (k : Nat) (m : PySem.Str → Option Value) (nx : List (Addr × Obj)) : Prop :=
  ∃ (pg : PySem.Str) (f0 f1 f2 a b c z : Nat) (u t0 t1 t2 : Tok) (n : Nat), nx = (fl, listOf #[.int (f0 : Nat) t0, .int (f1 : Nat) t1, .int (f2 : Nat) t2] n) :: rest ∧ PgIs pg a b c z ∧ InS A B C Z ns k F0 a0 b0 c0 z0 f0 f1 f2 a b c z ∧
    m (PySem.Str.ofString "page") = some (.str pg u) ∧ m (PySem.Str.ofString "fired") = some (.ref fl) ∧ m (PySem.Str.ofString "order") = some (.ref l) ∧ m (PySem.Str.ofString "before") = some (.str bf ub)
theorem OutJ.start {A B C Z : Nat} {rest : List (Addr × Obj)} {fl l : Addr} {m : PySem.Str → Option Value} {pg : PySem.Str} {u t0 t1 t2 : Tok} {n : Nat} (_h : ∀ p ∈ rest, p.1 < fl) (hp : PgIs pg A B C Z)
    (h1 : m (PySem.Str.ofString "page") = some (.str pg u)) (h2 : m (PySem.Str.ofString "fired") = some (.ref fl)) (h3 : m (PySem.Str.ofString "order") = some (.ref l)) :
    OutJ A B C Z rest fl l 0 m ((fl, listOf #[.int 0 t0, .int 0 t1, .int 0 t2] n) :: rest) :=
  ⟨pg, 0, 0, 0, A, B, C, Z, u, t0, t1, t2, n, rfl, hp, Sand.start _ _ _ _, Nat.zero_le _, h1, h2, h3⟩
section
variable {w : World} {base h₀ : Heap} {A₀ : Around} {outer : List Env} {L : Addr} {m : PySem.Str → Option Value} {s : Shared} {news : List (Addr × Obj)} {cs : Scope} {mean : ExcName → Option Value} {mg mb : PySem.Str → Option Value} {dp un : Nat}
   {gd : Option (List Code)} {cn : PySem.Str} {a : Addr} {ccd : Value} {cl : List (PySem.Str × Addr)} {Q E : Value → Shared → Prop}
theorem pg_ne {a b c z a' b' c' z' : Nat} {p p' : PySem.Str} (h : PgIs p a b c z) (h' : PgIs p' a' b' c' z') (hz : z ≠ z') : p' ≠ p := by
  intro e
  subst e
  exact hz (h.inj h').2.2.2
theorem pg_lo0 (B : Below A₀ base outer h₀) (F : Fr h₀ L s.heap m) (X : (hd.heap_39 w.params).In h₀) (N : News h₀ L s.heap news) (T : Top hd.view_39 LO mean mg mb h₀) (hk : cs.kind = .function) (hdp : dp + 8 < recursionLimit)
   {p : PySem.Str} {na nb nc nz : Nat} {t1 t2 : Tok} (W : PgIs p na nb nc nz) (h : na < 3) (hs : na + nb + nc + nz ≤ 50)
   (hret : ∀ (t : Tok) (h' : Heap) (tk' : Nat), Fr h₀ L h' m → News h₀ L h' news → Q (.str p t) { s with heap := h', toks := tk' }) :
   wpAny (model PySem.Challenge.rw_wb0015_01.row.prog w) (ktrTop dp un gd cn cs L a ccd cl outer) (call (.ref 63) [.str p t1, .int 0 t2]) Q E s := by
  obtain ⟨rfl⟩ := W
  exact page_lo0 B F X N T hk hdp h hs hret
theorem pg_lo1 (B : Below A₀ base outer h₀) (F : Fr h₀ L s.heap m) (X : (hd.heap_39 w.params).In h₀) (N : News h₀ L s.heap news) (T : Top hd.view_39 LO mean mg mb h₀) (hk : cs.kind = .function) (hdp : dp + 8 < recursionLimit)
   {p : PySem.Str} {na nb nc nz : Nat} {t1 t2 : Tok} (W : PgIs p na nb nc nz) (h : nb < 3) (hs : na + nb + nc + nz ≤ 50)
   (hret : ∀ (t : Tok) (h' : Heap) (tk' : Nat), Fr h₀ L h' m → News h₀ L h' news → Q (.str p t) { s with heap := h', toks := tk' }) :
   wpAny (model PySem.Challenge.rw_wb0015_01.row.prog w) (ktrTop dp un gd cn cs L a ccd cl outer) (call (.ref 63) [.str p t1, .int 1 t2]) Q E s := by
  obtain ⟨rfl⟩ := W
  exact page_lo1 B F X N T hk hdp h hs hret
theorem pg_lo2 (B : Below A₀ base outer h₀) (F : Fr h₀ L s.heap m) (X : (hd.heap_39 w.params).In h₀) (N : News h₀ L s.heap news) (T : Top hd.view_39 LO mean mg mb h₀) (hk : cs.kind = .function) (hdp : dp + 8 < recursionLimit)
   {p : PySem.Str} {na nb nc nz : Nat} {t1 t2 : Tok} (W : PgIs p na nb nc nz) (h : nc < 3) (hs : na + nb + nc + nz ≤ 50)
   (hret : ∀ (t : Tok) (h' : Heap) (tk' : Nat), Fr h₀ L h' m → News h₀ L h' news → Q (.str p t) { s with heap := h', toks := tk' }) :
   wpAny (model PySem.Challenge.rw_wb0015_01.row.prog w) (ktrTop dp un gd cn cs L a ccd cl outer) (call (.ref 63) [.str p t1, .int 2 t2]) Q E s := by
  obtain ⟨rfl⟩ := W
  exact page_lo2 B F X N T hk hdp h hs hret
theorem pg_hi0 (B : Below A₀ base outer h₀) (F : Fr h₀ L s.heap m) (X : (hd.heap_39 w.params).In h₀) (N : News h₀ L s.heap news) (T : Top hd.view_39 LO mean mg mb h₀) (hk : cs.kind = .function) (hdp : dp + 8 < recursionLimit)
   {p : PySem.Str} {na nb nc nz : Nat} {t1 t2 : Tok} (W : PgIs p na nb nc nz) (h : 3 ≤ na) (hs : na + nb + nc + nz ≤ 50)
   (hret : ∀ (p' : PySem.Str) (t : Tok) (h' : Heap) (tk' : Nat), PgIs p' (na - 3) (nb + 1) (nc + 1) (nz + 1) → p' ≠ p → Fr h₀ L h' m → News h₀ L h' news → Q (.str p' t) { s with heap := h', toks := tk' }) :
   wpAny (model PySem.Challenge.rw_wb0015_01.row.prog w) (ktrTop dp un gd cn cs L a ccd cl outer) (call (.ref 63) [.str p t1, .int 0 t2]) Q E s := by
  have h2 := pg_ne W (p' := page4 (na - 3) (nb + 1) (nc + 1) (nz + 1)) ⟨rfl⟩ (by omega)
  obtain ⟨rfl⟩ := W
  exact page_hi0 B F X N T hk hdp h hs fun t h' tk' => hret _ t h' tk' ⟨rfl⟩ h2
theorem pg_hi1 (B : Below A₀ base outer h₀) (F : Fr h₀ L s.heap m) (X : (hd.heap_39 w.params).In h₀) (N : News h₀ L s.heap news) (T : Top hd.view_39 LO mean mg mb h₀) (hk : cs.kind = .function) (hdp : dp + 8 < recursionLimit)
   {p : PySem.Str} {na nb nc nz : Nat} {t1 t2 : Tok} (W : PgIs p na nb nc nz) (h : 3 ≤ nb) (hs : na + nb + nc + nz ≤ 50)
   (hret : ∀ (p' : PySem.Str) (t : Tok) (h' : Heap) (tk' : Nat), PgIs p' (na + 1) (nb - 3) (nc + 1) (nz + 1) → p' ≠ p → Fr h₀ L h' m → News h₀ L h' news → Q (.str p' t) { s with heap := h', toks := tk' }) :
   wpAny (model PySem.Challenge.rw_wb0015_01.row.prog w) (ktrTop dp un gd cn cs L a ccd cl outer) (call (.ref 63) [.str p t1, .int 1 t2]) Q E s := by
  have h2 := pg_ne W (p' := page4 (na + 1) (nb - 3) (nc + 1) (nz + 1)) ⟨rfl⟩ (by omega)
  obtain ⟨rfl⟩ := W
  exact page_hi1 B F X N T hk hdp h hs fun t h' tk' => hret _ t h' tk' ⟨rfl⟩ h2
theorem pg_hi2 (B : Below A₀ base outer h₀) (F : Fr h₀ L s.heap m) (X : (hd.heap_39 w.params).In h₀) (N : News h₀ L s.heap news) (T : Top hd.view_39 LO mean mg mb h₀) (hk : cs.kind = .function) (hdp : dp + 8 < recursionLimit)
   {p : PySem.Str} {na nb nc nz : Nat} {t1 t2 : Tok} (W : PgIs p na nb nc nz) (h : 3 ≤ nc) (hs : na + nb + nc + nz ≤ 50)
   (hret : ∀ (p' : PySem.Str) (t : Tok) (h' : Heap) (tk' : Nat), PgIs p' (na + 1) (nb + 1) (nc - 3) (nz + 1) → p' ≠ p → Fr h₀ L h' m → News h₀ L h' news → Q (.str p' t) { s with heap := h', toks := tk' }) :
   wpAny (model PySem.Challenge.rw_wb0015_01.row.prog w) (ktrTop dp un gd cn cs L a ccd cl outer) (call (.ref 63) [.str p t1, .int 2 t2]) Q E s := by
  have h2 := pg_ne W (p' := page4 (na + 1) (nb + 1) (nc - 3) (nz + 1)) ⟨rfl⟩ (by omega)
  obtain ⟨rfl⟩ := W
  exact page_hi2 B F X N T hk hdp h hs fun t h' tk' => hret _ t h' tk' ⟨rfl⟩ h2
end
theorem inJ_end {A B C Z : Nat} {ns : List Int} {rest own : List (Addr × Obj)} {fl l : Addr} {O : Obj} {bf pg : PySem.Str} {ub u t0 t1 t2 : Tok} {F0 a0 b0 c0 z0 k f0 f1 f2 a b c z n : Nat} {x0 x1 x2 : Int} {g : Heap} {L : Addr} {adr : List Addr} {s₁ : Shared} {h' : Heap} {tk : Nat} {m' : PySem.Str → Option Value}
    (F : Fr g L h' m') (N : News g L h' ((fl, listOf #[.int x0 t0, .int x1 t1, .int x2 t2] n) :: (rest ++ own))) (e0 : x0 = (f0 : Nat)) (e1 : x1 = (f1 : Nat)) (e2 : x2 = (f2 : Nat)) (hmem : (l, O) ∈ rest) (W : PgIs pg a b c z) (I : InS A B C Z ns k F0 a0 b0 c0 z0 f0 f1 f2 a b c z)
    (h1 : m' (PySem.Str.ofString "page") = some (.str pg u)) (h2 : m' (PySem.Str.ofString "fired") = some (.ref fl)) (h3 : m' (PySem.Str.ofString "order") = some (.ref l)) (h4 : m' (PySem.Str.ofString "before") = some (.str bf ub)) (hadr : adr = fl :: rest.map (·.1)) :
    InvEndN g L (fun m' nx => (l, O) ∈ nx ∧ InJ A B C Z ns rest fl l bf ub F0 a0 b0 c0 z0 k m' nx) own adr s₁ { s₁ with heap := h', toks := tk } := by
  subst e0 e1 e2 hadr
  refine InvEndN.intro (nx := (fl, listOf #[.int (f0 : Nat) t0, .int (f1 : Nat) t1, .int (f2 : Nat) t2] n) :: rest) F N ⟨.tail _ hmem, pg, f0, f1, f2, a, b, c, z, u, t0, t1, t2, n, rfl, W, I, h1, h2, h3, h4⟩ rfl ?_ ?_
  · intro p hp
    rcases List.mem_cons.mp hp with rfl | hp
    · exact .head _
    · exact .tail _ (List.mem_append.mpr (.inl hp))
  · intro p hp
    exact .tail _ (List.mem_append.mpr (.inr hp))
theorem outJ_end {A B C Z : Nat} {rest own : List (Addr × Obj)} {fl l : Addr} {pg : PySem.Str} {u t0 t1 t2 : Tok} {i f0 f1 f2 a b c z n : Nat} {g : Heap} {L : Addr} {adr : List Addr} {s₁ : Shared} {h' : Heap} {tk : Nat} {m' : PySem.Str → Option Value}
    (F : Fr g L h' m') (N : News g L h' ((fl, listOf #[.int (f0 : Nat) t0, .int (f1 : Nat) t1, .int (f2 : Nat) t2] n) :: (rest ++ own))) (W : PgIs pg a b c z) (S : Sand A B C Z f0 f1 f2 a b c z) (hi : i ≤ f0 + f1 + f2)
    (h1 : m' (PySem.Str.ofString "page") = some (.str pg u)) (h2 : m' (PySem.Str.ofString "fired") = some (.ref fl)) (h3 : m' (PySem.Str.ofString "order") = some (.ref l)) (hadr : adr = fl :: rest.map (·.1)) :
    InvEndN g L (OutJ A B C Z rest fl l i) own adr s₁ { s₁ with heap := h', toks := tk } := by
  subst hadr
  refine InvEndN.intro (nx := (fl, listOf #[.int (f0 : Nat) t0, .int (f1 : Nat) t1, .int (f2 : Nat) t2] n) :: rest) F N ⟨pg, f0, f1, f2, a, b, c, z, u, t0, t1, t2, n, rfl, W, S, hi, h1, h2, h3⟩ rfl ?_ ?_
  · intro p hp
    rcases List.mem_cons.mp hp with rfl | hp
    · exact .head _
    · exact .tail _ (List.mem_append.mpr (.inl hp))
  · intro p hp
    exact .tail _ (List.mem_append.mpr (.inr hp))
end Mine
end

section
open PySem PySem.W PyProof.Rows
set_option maxRecDepth 100000
set_option maxHeartbeats 8000000
namespace Mine
theorem fill5 (w : World) (h : Heap) : (hd.heap_39 w.params).In h → PySem.Challenge.rw_wb0015_01 = PySem.Challenge.rw_wb0015_01 := by k_fill; intro _; rfl
section
variable {w : World} {base h₀ : Heap} {A₀ : Around} {outer : List Env} {L : Addr} {m : PySem.Str → Option Value} {s : Shared} {news : List (Addr × Obj)} {cs : Scope} {mean : ExcName → Option Value} {mg mb : PySem.Str → Option Value} {dp un : Nat}
   {gd : Option (List Code)} {cn : PySem.Str} {a : Addr} {ccd : Value} {cl : List (PySem.Str × Addr)} {Q E : Value → Shared → Prop}
local macro_rules | `(tactic| walk_at "call ref") => `(tactic| (k_here; (with_reducible show wpAny _ _ (call (Value.ref 63) [_, Value.int 0 _]) _ _ _); k_dflt (first
  | (refine' pg_hi0 ?k1 ?k2 ?k3 ?k4 ?k5 ?k6 ?k7 ?k8 ?k9 ?k10 ?_; (case k1 => k_asm); (case k2 => k_asm); (case k3 => k_asm); (case k4 => k_asm); (case k5 => k_asm); (case k6 => exact rfl); (case k7 => ktr_room); (case k8 => assumption); (case k9 => omega); (case k10 => omega); intro p' t' h' tk' W' n' F' N')
  | (refine' pg_lo0 ?k1 ?k2 ?k3 ?k4 ?k5 ?k6 ?k7 ?k8 ?k9 ?k10 ?_; (case k1 => k_asm); (case k2 => k_asm); (case k3 => k_asm); (case k4 => k_asm); (case k5 => k_asm); (case k6 => exact rfl); (case k7 => ktr_room); (case k8 => assumption); (case k9 => omega); (case k10 => omega); intro t' h' tk' F' N'))))
local macro_rules | `(tactic| walk_at "call ref") => `(tactic| (k_here; (with_reducible show wpAny _ _ (call (Value.ref 63) [_, Value.int 1 _]) _ _ _); k_dflt (first
  | (refine' pg_hi1 ?k1 ?k2 ?k3 ?k4 ?k5 ?k6 ?k7 ?k8 ?k9 ?k10 ?_; (case k1 => k_asm); (case k2 => k_asm); (case k3 => k_asm); (case k4 => k_asm); (case k5 => k_asm); (case k6 => exact rfl); (case k7 => ktr_room); (case k8 => assumption); (case k9 => omega); (case k10 => omega); intro p' t' h' tk' W' n' F' N')
  | (refine' pg_lo1 ?k1 ?k2 ?k3 ?k4 ?k5 ?k6 ?k7 ?k8 ?k9 ?k10 ?_; (case k1 => k_asm); (case k2 => k_asm); (case k3 => k_asm); (case k4 => k_asm); (case k5 => k_asm); (case k6 => exact rfl); (case k7 => ktr_room); (case k8 => assumption); (case k9 => omega); (case k10 => omega); intro t' h' tk' F' N'))))
local macro_rules | `(tactic| walk_at "call ref") => `(tactic| (k_here; (with_reducible show wpAny _ _ (call (Value.ref 63) [_, Value.int 2 _]) _ _ _); k_dflt (first
  | (refine' pg_hi2 ?k1 ?k2 ?k3 ?k4 ?k5 ?k6 ?k7 ?k8 ?k9 ?k10 ?_; (case k1 => k_asm); (case k2 => k_asm); (case k3 => k_asm); (case k4 => k_asm); (case k5 => k_asm); (case k6 => exact rfl); (case k7 => ktr_room); (case k8 => assumption); (case k9 => omega); (case k10 => omega); intro p' t' h' tk' W' n' F' N')
  | (refine' pg_lo2 ?k1 ?k2 ?k3 ?k4 ?k5 ?k6 ?k7 ?k8 ?k9 ?k10 ?_; (case k1 => k_asm); (case k2 => k_asm); (case k3 => k_asm); (case k4 => k_asm); (case k5 => k_asm); (case k6 => exact rfl); (case k7 => ktr_room); (case k8 => assumption); (case k9 => omega); (case k10 => omega); intro t' h' tk' F' N'))))
local macro_rules | `(tactic| walk_at "setItem ref int") => `(tactic| (k_here; k_dflt (refine' ki_set ?F ?N ?a ?b ?e (Upd.head (by assumption)) ?_; (case F => k_asm); (case N => k_asm); (case a => decide); (case b => decide); (case e => rfl)); intro h' F' N'))
theorem off_all {own own2 news : List (Addr × Obj)} {fl : Addr} {o1 o2 : Obj} (h1 : ∀ p ∈ news, p.1 < fl) (h2 : OwnOff own (((fl, o1) :: news).map (·.1))) (h3 : OwnOff own2 (((fl, o2) :: news ++ own).map (·.1))) : ∀ p ∈ news ++ own ++ own2, p.1 ≠ fl := by
  intro p hp
  rcases List.mem_append.mp hp with hp | hp
  · rcases List.mem_append.mp hp with hp | hp
    · exact Nat.ne_of_lt (h1 p hp)
    · exact h2 p hp _ (.head _)
  · exact h3 p hp _ (.head _)
theorem drop_own {h₀ h : Heap} {L : Addr} {x y : Addr × Obj} {news own : List (Addr × Obj)} (N : News h₀ L h (x :: y :: (news ++ own))) : News h₀ L h (x :: y :: news) := fun p hp => N p (by
  rcases List.mem_cons.mp hp with rfl | hp
  · exact .head _
  · rcases List.mem_cons.mp hp with rfl | hp
    · exact .tail _ (.head _)
    · exact .tail _ (.tail _ (List.mem_append.mpr (.inl hp))))
theorem settle_ok (B : Below A₀ base outer h₀) (F : Fr h₀ L s.heap m) (X : (hd.heap_39 w.params).In h₀) (N : News h₀ L s.heap news) (T : Top hd.view_39 LO mean mg mb h₀) (hk : cs.kind = .function) (hdp : dp + 12 < recursionLimit)
   {A B C Z : Nat} {p0 : PySem.Str} {t1 : Tok} {l : Addr} {vs : List Value} {ns : List Int} {nn : Nat} (W0 : PgIs p0 A B C Z) (hm : (l, listOf vs.toArray nn) ∈ news) (hi : IntsAre vs ns) (hns : ∀ n ∈ ns, 0 ≤ n ∧ n ≤ 2) (h0 : (0 : Int) ∈ ns) (h1 : (1 : Int) ∈ ns) (h2 : (2 : Int) ∈ ns)
   (hsum : A + B + C + Z ≤ 50) (hu : ∃ u0 u1 u2 : Nat, A + u1 + u2 ≤ 2 + 3 * u0 ∧ B + u0 + u2 ≤ 2 + 3 * u1 ∧ C + u0 + u1 ≤ 2 + 3 * u2 ∧ u0 + u1 + u2 ≤ 19)
   (hret : ∀ (pg : PySem.Str) (f0 f1 f2 a b c z : Nat) (q fl : Addr) (u t0 t1 t2 : Tok) (n : Nat) (h' : Heap) (tk' : Nat), PgIs pg a b c z → Sand A B C Z f0 f1 f2 a b c z → a ≤ 2 → b ≤ 2 → c ≤ 2 → Fr h₀ L h' m →
      News h₀ L h' ((q, tupObj #[.str pg u, .ref fl]) :: (fl, listOf #[.int f0 t0, .int f1 t1, .int f2 t2] n) :: news) → Q (.ref q) { s with heap := h', toks := tk' }) :
   wpAny (model PySem.Challenge.rw_wb0015_01.row.prog w) (ktrTop dp un gd cn cs L a ccd cl outer) (call (.ref 70) [.str p0 t1, .ref l]) Q E s := by
  refine wpAny_call ?_
  k_dflt cell_enter
  repeat' (first | ((fail_if_success (with_reducible show wpAny _ _ (pyIter _) _ _ _)); first | (k_unfold; (try dsimp only)) | (k_end; wrow_close) | walk1 | (dsimp only; walk1) | (leave1; try dsimp only)))
  with_reducible rename IsRange _ _ _ _ _ _ _ _ => hR
  rename Fr _ _ _ _ => hF
  rename News _ _ _ _ => hN
  with_reducible rename (∀ p ∈ news, p.1 < _) => hl1
  refine iter_rangeJ (n := 20) (OutJ A B C Z news _ l) rfl hR (by decide) (by rfl) hF hN (OutJ.start hl1 W0 (by rfl) (by rfl) (by rfl)) ?_ ?_
  · intro i t m₁ nx h tk own hin hadr hoff hJ F₁ N₁
    obtain ⟨pg, f0, f1, f2, a', b', c', z', u, ta, tb, tc, n, rfl, W, S, hle, e1, e2, e3⟩ := hJ
    rw [map3 e1 e2 e3] at F₁
    clear hF hN
    repeat' (first | ((fail_if_success (with_reducible show wpAny _ _ (pyIter _) _ _ _)); first | (k_unfold; (try dsimp only)) | (k_end; wrow_close) | walk1 | (dsimp only; walk1) | (leave1; try dsimp only)))
    rename Fr _ _ _ _ => lF'
    (with_unfolding_all refine' For_invVF lF' ?k1 ?k2 ?_; (case k1 => exact rfl); (case k2 => exact rfl))
    repeat' (first | ((fail_if_success (with_reducible show wpAny _ _ (pyIter _) _ _ _)); first | (k_unfold; (try dsimp only)) | (k_end; wrow_close) | walk1 | (dsimp only; walk1) | (leave1; try dsimp only)))
    rename Fr _ _ _ _ => hF2
    rename News _ _ _ _ => hN2
    refine iter_invNL (InJ A B C Z ns (news ++ own) _ l pg u (f0 + f1 + f2) a' b' c' z') rfl (List.mem_append.mpr (.inl (.tail _ hm))) hi hF2 hN2 ⟨pg, f0, f1, f2, a', b', c', z', u, ta, tb, tc, n, rfl, W, InS.start S, by rfl, by rfl, by rfl, by rfl⟩ ?_ ?_
    · intro k n2 t m₂ nx h tk own2 hn hadr2 hoff2 hmem hJ F₂ N₂
      obtain ⟨pg2, g0, g1, g2, a2, b2, c2, z2, u2, td, te, tf, n3, rfl, W2, I, d1, d2, d3, d4⟩ := hJ
      rw [map4 d1 d2 d3 d4] at F₂
      have hsm := I.sand.sum
      have hk2 := hns n2 (List.mem_of_getElem? hn)
      have hcase : n2 = 0 ∨ n2 = 1 ∨ n2 = 2 := by omega
      clear hF2 hN2 F₁ N₁
      have hofA := off_all hl1 hoff hoff2
      rw [List.cons_append] at N₂
      rcases hcase with rfl | rfl | rfl
      · by_cases h3 : 3 ≤ a2
        · k_steps
          rename Fr _ _ _ _ => hF3
          rename News _ _ _ _ => hN3
          exact inJ_end hF3 hN3 (by rfl) (by rfl) (by rfl) (List.mem_append.mpr (.inl hm)) (by assumption) (I.hi0 h3) (by rfl) (by rfl) (by rfl) (by rfl) (by simp)
        · k_steps
          rename Fr _ _ _ _ => hF3
          rename News _ _ _ _ => hN3
          exact inJ_end hF3 hN3 (by rfl) (by rfl) (by rfl) (List.mem_append.mpr (.inl hm)) (by assumption) (I.lo hn ⟨fun _ => by omega, fun h => by omega, fun h => by omega⟩) (by rfl) (by rfl) (by rfl) (by rfl) (by simp)
      · by_cases h3 : 3 ≤ b2
        · k_steps
          rename Fr _ _ _ _ => hF3
          rename News _ _ _ _ => hN3
          exact inJ_end hF3 hN3 (by rfl) (by rfl) (by rfl) (List.mem_append.mpr (.inl hm)) (by assumption) (I.hi1 h3) (by rfl) (by rfl) (by rfl) (by rfl) (by simp)
        · k_steps
          rename Fr _ _ _ _ => hF3
          rename News _ _ _ _ => hN3
          exact inJ_end hF3 hN3 (by rfl) (by rfl) (by rfl) (List.mem_append.mpr (.inl hm)) (by assumption) (I.lo hn ⟨fun h => by omega, fun _ => by omega, fun h => by omega⟩) (by rfl) (by rfl) (by rfl) (by rfl) (by simp)
      · by_cases h3 : 3 ≤ c2
        · k_steps
          rename Fr _ _ _ _ => hF3
          rename News _ _ _ _ => hN3
          exact inJ_end hF3 hN3 (by rfl) (by rfl) (by rfl) (List.mem_append.mpr (.inl hm)) (by assumption) (I.hi2 h3) (by rfl) (by rfl) (by rfl) (by rfl) (by simp)
        · k_steps
          rename Fr _ _ _ _ => hF3
          rename News _ _ _ _ => hN3
          exact inJ_end hF3 hN3 (by rfl) (by rfl) (by rfl) (List.mem_append.mpr (.inl hm)) (by assumption) (I.lo hn ⟨fun h => by omega, fun h => by omega, fun _ => by omega⟩) (by rfl) (by rfl) (by rfl) (by rfl) (by simp)
    · intro m₂ nx h tk hmem hJ F₂ N₂
      obtain ⟨pg2, g0, g1, g2, a2, b2, c2, z2, u2, td, te, tf, n3, rfl, W2, I, d1, d2, d3, d4⟩ := hJ
      rw [mapAll4 d1 d2 d3 d4] at F₂
      clear hF2 hN2 F₁ N₁
      repeat' (first | ((fail_if_success (with_reducible show wpAny _ _ (pyIter _) _ _ _)); first | (k_unfold; (try dsimp only)) | (k_end; wrow_close) | walk1 | (dsimp only; walk1) | (leave1; try dsimp only)))
      · rename ((_ : PySem.Str) == _) = true => hpe
        have hpq : pg2 = pg := by simpa using hpe
        have W3 := W2
        rw [hpq] at W3
        have hinj := W3.inj W
        have hez := S.ez
        obtain ⟨qa, qb, qc⟩ := I.rest hinj.2.2.2 (by omega) h0 h1 h2
        rename News _ _ _ _ => kN
        rename Fr _ _ _ _ => kF
        exact hret pg2 g0 g1 g2 a2 b2 c2 z2 _ _ u2 td te tf n3 _ _ W2 I.sand qa qb qc kF (drop_own kN)
      · rename ((_ : PySem.Str) == _) = false => hpe
        have hne : ¬ (a2 = a' ∧ b2 = b' ∧ c2 = c' ∧ z2 = z') := by
          rintro ⟨rfl, rfl, rfl, rfl⟩
          have := W2.out.trans W.out.symm
          simp [this] at hpe
        have hup := I.up1 hne
        exact outJ_end F₂ N₂ W2 I.sand (by omega) (by rfl) (by rfl) (by rfl) (by simp)
  · intro m₁ nx h tk hJ F₁ N₁
    exfalso
    obtain ⟨pg, f0, f1, f2, a', b', c', z', u, ta, tb, tc, n, rfl, W, S, hle, e1, e2, e3⟩ := hJ
    obtain ⟨u0, u1, u2, q0, q1, q2, q3⟩ := hu
    obtain ⟨l0, l1, l2⟩ := S.least u0 u1 u2 q0 q1 q2
    omega
end
end Mine
end

section
open PySem PySem.W PyProof.Rows
set_option maxRecDepth 100000
set_option maxHeartbeats 8000000
namespace Mine
theorem fill6 (w : World) (h : Heap) : (hd.heap_39 w.params).In h → PySem.Challenge.rw_wb0015_01 = PySem.Challenge.rw_wb0015_01 := by k_fill; intro _; rfl
theorem lpage_eq {x0 x1 x2 x3 : Int} {y0 y1 y2 y3 i0 i1 i2 i3 : PySem.Str} (M0 : MulIs x0 y0) (M1 : MulIs x1 y1) (M2 : MulIs x2 y2) (M3 : MulIs x3 y3) (h0 : i0 = mkS [97]) (h1 : i1 = mkS [98]) (h2 : i2 = mkS [99]) (h3 : i3 = mkS [122]) :
    Txt.join (PySem.Str.ofString "\n") [y0 ++ i0, y1 ++ i1, y2 ++ i2, y3 ++ i3] = page4 x0.toNat x1.toNat x2.toNat x3.toNat := by
  have e0 := M0.out
  have e1 := M1.out
  have e2 := M2.out
  have e3 := M3.out
  rw [mul_blank] at e0 e1 e2 e3
  subst e0 e1 e2 e3 h0 h1 h2 h3
  rw [txt_join, nl_eq, row_make, row_make, row_make, row_make]
  rfl
/-- the page of three rows -/
def page3 (a b c : Nat) : PySem.Str := PySem.Str.join ⟨#[10]⟩ [rowS a 97, rowS b 98, rowS c 99]
theorem lpage_eq3 {x0 x1 x2 : Int} {y0 y1 y2 i0 i1 i2 : PySem.Str} (M0 : MulIs x0 y0) (M1 : MulIs x1 y1) (M2 : MulIs x2 y2) (h0 : i0 = mkS [97]) (h1 : i1 = mkS [98]) (h2 : i2 = mkS [99]) :
    Txt.join (PySem.Str.ofString "\n") [y0 ++ i0, y1 ++ i1, y2 ++ i2] = page3 x0.toNat x1.toNat x2.toNat := by
  have e0 := M0.out
  have e1 := M1.out
  have e2 := M2.out
  rw [mul_blank] at e0 e1 e2
  subst e0 e1 e2 h0 h1 h2
  rw [txt_join, nl_eq, row_make, row_make, row_make]
  rfl
section
variable {w : World} {base h₀ : Heap} {A₀ : Around} {outer : List Env} {L : Addr} {m : PySem.Str → Option Value} {s : Shared} {news : List (Addr × Obj)} {cs : Scope} {mean : ExcName → Option Value} {mg mb : PySem.Str → Option Value} {dp un : Nat}
   {gd : Option (List Code)} {cn : PySem.Str} {a : Addr} {ccd : Value} {cl : List (PySem.Str × Addr)} {Q E : Value → Shared → Prop}
theorem item_K {prog : Program} {A : Around} {l : Addr} {vs : List Value} {n : Nat} {k : Int} {u : Tok} {v : Value} {value slice : PySem.Expr} {Q : Value → Shared → Prop} (N : News h₀ L s.heap news) (hm : (l, listOf vs.toArray n) ∈ news) (h0 : 0 ≤ k) (h1 : k < 2 ^ 63) (hx : vs[k.toNat]? = some v) (h : Q v s)
    (hs : subscripted slice false (.ref l) (.int k u) = operate [.ref l, .int k u] (getItem (.ref l) (.int k u)) := by with_unfolding_all rfl) :
    wpAny (model prog w) A (subscriptTail value slice (.ref l) (.int k u)) Q E s :=
  tail_any (Heap.IsList.typeIs ⟨_, (N _ hm).1, rfl, n, rfl⟩) slot_list_getitem.lookup (wpAny_getItem_list ⟨_, (N _ hm).1, rfl, n, rfl⟩ h0 h1 (by simpa using hx) h) hs
local macro_rules | `(tactic| walk_at "subscriptTail Name Name ref int") => `(tactic| (k_here; (with_reducible show wpAny _ _ (subscriptTail _ _ (Value.ref _) (Value.int _ _)) _ _ _); k_dflt (refine' item_K ?k1 ?k2 ?k3 ?k4 ?k5 ?_ ?k6; (case k1 => k_asm); (case k2 => k_mem); (case k3 => decide); (case k4 => decide); (case k5 => rfl); (case k6 => with_unfolding_all rfl); k_whole)))
local macro_rules | `(tactic| cell_enter) => `(tactic| (refine' code_defC ?k1 ?k2 ?k3 ?k4 ?k5 ?kA ?kF ?kK ?k6 ?k7 ?k8 ?k9 ?kB ?kD ?_ ?c2 ?c3 ?c4; (case kA => exact rfl); (case kF => exact rfl); (case kK => assumption); (case k1 => k_asm); (case k2 => k_asm); (case k3 => k_asm); (case k4 => k_asm); (case k5 => k_asm); (case k6 => k_is); (case k7 => k_is); (case k8 => ktr_room); (case k9 => exact BindsTo.of_eq rfl); (case kB => exact rfl); (case kD => decide +kernel); (case c2 => exact rfl); (case c3 => exact rfl); (case c4 => exact rfl); k_whole; intro g' L' h' tk' cells' FG' F' N' Y' B' X' T' l1; (try k_lt l1); k_cells Y'; (try simp only [List.cons_append, List.nil_append] at N'); (try dsimp only); (try k_lift B'); (try k_fold)))
local macro_rules | `(tactic| walk_at "call builtin:str.join") => `(tactic| (k_here; (with_reducible show wpAny _ _ (call (Value.builtin "str.join") [Value.str _ _, Value.ref _]) _ _ _); (refine' join4_W ?k1 ?k2 ?k3 ?k4 ?k5 ?k6 ?k7 ?_; (case k1 => k_asm); (case k2 => k_mem); (case k3 => assumption); (case k4 => first | omega | decide +kernel); (case k5 => first | omega | decide +kernel); (case k6 => first | omega | decide +kernel); (case k7 => first | omega | decide +kernel)); intro _ _))
local macro_rules | `(tactic| walk_at "binaryOp Mult str int") => `(tactic| ((with_reducible show wpAny _ _ (binaryOp Operator.Mult (Value.str _ _) (Value.int _ _)) _ _ _); (refine mul_W (by assumption) rfl (by omega) (by omega) ?_); intro _ _))
local macro_rules | `(tactic| walk_at "binaryOp Add str str") => `(tactic| ((with_reducible show wpAny _ _ (binaryOp Operator.Add (Value.str _ _) (Value.str _ _)) _ _ _); (refine app_W (by assumption) (by omega) (by omega) ?_); intro _ _))
local macro_rules | `(tactic| walk_at "CompSrc") => `(tactic| (k_here; k_dflt (refine LCg.CompSrc.range (n := 4) (by rfl) (by k_asm) (by k_asm) (by assumption) (by decide) (by rfl) (by exact Nat.le_of_ble_eq_true rfl) ?_; intro g')))
local macro_rules | `(tactic| walk_at "CompRest") => `(tactic| (with_unfolding_all first
  | (refine LCg.CompRest.succ ?_; intro v' I' oI' C' oC' D' m' h' tk' E' hv' hC' hx' F' N' off' ne'; obtain ⟨t9', hv9'⟩ := hv'; subst hv9')
  | refine LCg.CompRest.zero ?_))
local macro_rules | `(tactic| walk_at "CompEnd") => `(tactic| (refine LCg.CompEnd.intro (by assumption) (by assumption) _ (fun _ hp => hp) (by assumption) trivial ?_))
theorem lpage_4 {l : Addr} {x0 x1 x2 x3 : Int} {t0 t1 t2 t3 : Tok} {nn : Nat} (B : Below A₀ base outer h₀) (F : Fr h₀ L s.heap m) (X : (hd.heap_39 w.params).In h₀) (N : News h₀ L s.heap ((l, listOf #[.int x0 t0, .int x1 t1, .int x2 t2, .int x3 t3] nn) :: news)) (T : Top hd.view_39 LO mean mg mb h₀) (hk : cs.kind = .function) (hdp : dp + 12 < recursionLimit)
   {y0 y1 y2 y3 : PySem.Str} (M0 : MulIs x0 y0) (M1 : MulIs x1 y1) (M2 : MulIs x2 y2) (M3 : MulIs x3 y3) (k0 : y0.length ≤ 100) (k1 : y1.length ≤ 100) (k2 : y2.length ≤ 100) (k3 : y3.length ≤ 100)
   (b0 : 0 ≤ x0 ∧ x0 ≤ 50) (b1 : 0 ≤ x1 ∧ x1 ≤ 50) (b2 : 0 ≤ x2 ∧ x2 ≤ 50) (b3 : 0 ≤ x3 ∧ x3 ≤ 50)
   (hret : ∀ (pg : PySem.Str) (t : Tok) (h' : Heap) (tk' : Nat), PgIs pg x0.toNat x1.toNat x2.toNat x3.toNat → Fr h₀ L h' m → News h₀ L h' news → Q (.str pg t) { s with heap := h', toks := tk' }) :
   wpAny (model PySem.Challenge.rw_wb0015_01.row.prog w) (ktrTop dp un gd cn cs L a ccd cl outer) (call (.ref 56) [.ref l]) Q E s := by
  refine wpAny_call ?_
  k_dflt cell_enter
  k_steps
  rename News _ _ _ _ => kN
  exact hret _ _ _ _ ⟨lpage_eq M0 M1 M2 M3 (by decide +kernel) (by decide +kernel) (by decide +kernel) (by decide +kernel)⟩ (by assumption) (fun p hp => kN p (.tail _ (.tail _ (.tail _ hp))))
local macro_rules | `(tactic| walk_at "CompSrc") => `(tactic| (k_here; k_dflt (refine LCg.CompSrc.range (n := 3) (by rfl) (by k_asm) (by k_asm) (by assumption) (by decide) (by rfl) (by exact Nat.le_of_ble_eq_true rfl) ?_; intro g')))
theorem lpage_3 {l : Addr} {x0 x1 x2 : Int} {t0 t1 t2 : Tok} {nn : Nat} (B : Below A₀ base outer h₀) (F : Fr h₀ L s.heap m) (X : (hd.heap_39 w.params).In h₀) (N : News h₀ L s.heap ((l, listOf #[.int x0 t0, .int x1 t1, .int x2 t2] nn) :: news)) (T : Top hd.view_39 LO mean mg mb h₀) (hk : cs.kind = .function) (hdp : dp + 12 < recursionLimit)
   {y0 y1 y2 : PySem.Str} (M0 : MulIs x0 y0) (M1 : MulIs x1 y1) (M2 : MulIs x2 y2) (k0 : y0.length ≤ 100) (k1 : y1.length ≤ 100) (k2 : y2.length ≤ 100)
   (b0 : 0 ≤ x0 ∧ x0 ≤ 50) (b1 : 0 ≤ x1 ∧ x1 ≤ 50) (b2 : 0 ≤ x2 ∧ x2 ≤ 50)
   (hret : ∀ (t : Tok) (h' : Heap) (tk' : Nat), Fr h₀ L h' m → News h₀ L h' news → Q (.str (page3 x0.toNat x1.toNat x2.toNat) t) { s with heap := h', toks := tk' }) :
   wpAny (model PySem.Challenge.rw_wb0015_01.row.prog w) (ktrTop dp un gd cn cs L a ccd cl outer) (call (.ref 56) [.ref l]) Q E s := by
  refine wpAny_call ?_
  k_dflt cell_enter
  k_steps
  rename News _ _ _ _ => kN
  rw [lpage_eq3 M0 M1 M2 (by decide +kernel) (by decide +kernel) (by decide +kernel)]
  exact hret _ _ _ (by assumption) (fun p hp => kN p (.tail _ (.tail _ (.tail _ hp))))
theorem ints4 {vs : List Value} {x0 x1 x2 x3 : Int} (h : IntsAre vs [x0, x1, x2, x3]) : ∃ t0 t1 t2 t3, vs = [.int x0 t0, .int x1 t1, .int x2 t2, .int x3 t3] := by
  cases h with
  | cons _ t0 h =>
    cases h with
    | cons _ t1 h =>
      cases h with
      | cons _ t2 h =>
        cases h with
        | cons _ t3 h =>
          cases h
          exact ⟨t0, t1, t2, t3, rfl⟩
theorem ints3 {vs : List Value} {x0 x1 x2 : Int} (h : IntsAre vs [x0, x1, x2]) : ∃ t0 t1 t2, vs = [.int x0 t0, .int x1 t1, .int x2 t2] := by
  cases h with
  | cons _ t0 h =>
    cases h with
    | cons _ t1 h =>
      cases h with
      | cons _ t2 h =>
        cases h
        exact ⟨t0, t1, t2, rfl⟩
theorem mul_is (x : Int) : MulIs x (mkS (List.replicate x.toNat 32)) := ⟨mul_blank x⟩
theorem page_of4 (B : Below A₀ base outer h₀) (F : Fr h₀ L s.heap m) (X : (hd.heap_39 w.params).In h₀) (N : News h₀ L s.heap news) (T : Top hd.view_39 LO mean mg mb h₀) (hk : cs.kind = .function) (hdp : dp + 12 < recursionLimit)
   {l : Addr} {x0 x1 x2 x3 : Int} {vs : List Value} {nn : Nat} (hm : (l, listOf vs.toArray nn) ∈ news) (hi : IntsAre vs [x0, x1, x2, x3])
   (b0 : 0 ≤ x0 ∧ x0 ≤ 50) (b1 : 0 ≤ x1 ∧ x1 ≤ 50) (b2 : 0 ≤ x2 ∧ x2 ≤ 50) (b3 : 0 ≤ x3 ∧ x3 ≤ 50)
   (hret : ∀ (pg : PySem.Str) (t : Tok) (h' : Heap) (tk' : Nat), PgIs pg x0.toNat x1.toNat x2.toNat x3.toNat → Fr h₀ L h' m → News h₀ L h' news → Q (.str pg t) { s with heap := h', toks := tk' }) :
   wpAny (model PySem.Challenge.rw_wb0015_01.row.prog w) (ktrTop dp un gd cn cs L a ccd cl outer) (call (.ref 56) [.ref l]) Q E s := by
  obtain ⟨t0, t1, t2, t3, rfl⟩ := ints4 hi
  exact lpage_4 B F X (fun p hp => by
    rcases List.mem_cons.mp hp with rfl | hp
    · exact N _ hm
    · exact N p hp) T hk hdp (mul_is _) (mul_is _) (mul_is _) (mul_is _) (by rw [repl_len]; omega) (by rw [repl_len]; omega) (by rw [repl_len]; omega) (by rw [repl_len]; omega) b0 b1 b2 b3 hret
theorem page_of3 (B : Below A₀ base outer h₀) (F : Fr h₀ L s.heap m) (X : (hd.heap_39 w.params).In h₀) (N : News h₀ L s.heap news) (T : Top hd.view_39 LO mean mg mb h₀) (hk : cs.kind = .function) (hdp : dp + 12 < recursionLimit)
   {l : Addr} {x0 x1 x2 : Int} {vs : List Value} {nn : Nat} (hm : (l, listOf vs.toArray nn) ∈ news) (hi : IntsAre vs [x0, x1, x2])
   (b0 : 0 ≤ x0 ∧ x0 ≤ 50) (b1 : 0 ≤ x1 ∧ x1 ≤ 50) (b2 : 0 ≤ x2 ∧ x2 ≤ 50)
   (hret : ∀ (t : Tok) (h' : Heap) (tk' : Nat), Fr h₀ L h' m → News h₀ L h' news → Q (.str (page3 x0.toNat x1.toNat x2.toNat) t) { s with heap := h', toks := tk' }) :
   wpAny (model PySem.Challenge.rw_wb0015_01.row.prog w) (ktrTop dp un gd cn cs L a ccd cl outer) (call (.ref 56) [.ref l]) Q E s := by
  obtain ⟨t0, t1, t2, rfl⟩ := ints3 hi
  exact lpage_3 B F X (fun p hp => by
    rcases List.mem_cons.mp hp with rfl | hp
    · exact N _ hm
    · exact N p hp) T hk hdp (mul_is _) (mul_is _) (mul_is _) (by rw [repl_len]; omega) (by rw [repl_len]; omega) (by rw [repl_len]; omega) b0 b1 b2 hret
end
end Mine
end

section
open PySem PySem.W PyProof.Rows PySem.Spec PySem.Calls
set_option maxHeartbeats 4000000
namespace Mine
open LCg
/-! a display of three clauses over ranges -/
def Clear (a : Addr) (l : List (Addr × Obj)) : Prop := ∀ p ∈ l, p.1 ≠ a
/-- a range's iterator that has given i of n -/
def rgO (i n : Nat) : Obj := { cls := .type "range_iterator", dict := none, data := .fields #[rawInt (0 + (i : Nat) * 1), rawInt ((n : Int) - (i : Nat)), rawInt 1], slots := #[] }
section
variable {prog : Program} {w : World} {A : Around} {E : Value → Shared → Prop} {s : Shared} {h₀ : Heap} {L : Addr} {m : PySem.Str → Option Value} {env : Env}
theorem news_other {h h' : Heap} {a : Addr} {nx : List (Addr × Obj)} (N : News h₀ L h nx) (hk : ∀ b o, b ∉ [a] → h.get? b = some o → h'.get? b = some o) (off : Clear a nx) : News h₀ L h' nx :=
  fun p hp => ⟨hk _ _ (by simpa using off p hp) (N p hp).1, (N p hp).2⟩
theorem news_cons {h : Heap} {a : Addr} {o : Obj} {nx : List (Addr × Obj)} (e : h.get? a = some o) (n : a ≠ L ∧ h₀.get? a = none) (N : News h₀ L h nx) : News h₀ L h ((a, o) :: nx) := fun p hp => by
  rcases List.mem_cons.mp hp with rfl | hp
  · exact ⟨e, n⟩
  · exact N p hp
theorem news_tail {h : Heap} {x : Addr × Obj} {nx : List (Addr × Obj)} (N : News h₀ L h (x :: nx)) : News h₀ L h nx := fun p hp => N p (.tail _ hp)
theorem clear_cons {a : Addr} {x : Addr × Obj} {nx : List (Addr × Obj)} (h : x.1 ≠ a) (c : Clear a nx) : Clear a (x :: nx) := fun p hp => by
  rcases List.mem_cons.mp hp with rfl | hp
  · exact h
  · exact c p hp
theorem clear_tail {a : Addr} {x : Addr × Obj} {nx : List (Addr × Obj)} (c : Clear a (x :: nx)) : Clear a nx := fun p hp => c p (.tail _ hp)
theorem clear_head {a : Addr} {x : Addr × Obj} {nx : List (Addr × Obj)} (c : Clear a (x :: nx)) : x.1 ≠ a := c x (.head _)
abbrev Jt := (PySem.Str → Option Value) → List Value → List (Addr × Obj) → Prop
/-- how a turn's tail ends -/
def LvEnd (h₀ : Heap) (L : Addr) (m : PySem.Str → Option Value) (s : Shared) (I : Addr) (oI : Obj) (C D : Addr) (c : Code) (J : Jt) (fin : Fin) (s' : Shared) : Prop :=
  fin = .again c ∧ ∃ h tk oC m₂ ys nx, s' = { s with heap := h, toks := tk } ∧ Fr h₀ L h m ∧ NsObj oC m₂ ∧ News h₀ L h ((I, oI) :: (C, oC) :: (D, lst ys) :: nx) ∧ Clear I nx ∧ Clear C nx ∧ Clear D nx ∧ J m₂ ys nx
theorem loop_rule {elt : Expr} {gens : List Comprehension} {scope : Scope} {pos px ps : Pos} {d n : Nat} {I C D : Addr} {x : PySem.Str} {cl : List (PySem.Str × Addr)} {tail : Sem Fin} {J : Nat → Jt} {R : Result → Shared → Prop} {h : Heap} {tk : Nat} {oC : Obj} {m₂ : PySem.Str → Option Value} {ys : List Value} {nx : List (Addr × Obj)}
    (heq : compTurn (.ListComp elt gens scope pos) d (.ref I) (.ref D) (compEnvC scope cl C env) = (standAt ps >>= fun _ => pyNext (.ref I) >>= fun r => match r with
      | none => pure (.done .next)
      | some v => letOwnedTupleGo (.Name x px) (.ref I) v >>= fun _ => assign (.Name x px) (compEnvC scope cl C env) v >>= fun _ => tail))
    (hh : A.handled = none) (hkind : scope.kind = .function) (hx : scope.names.lookup x = some .local) (hIC : I ≠ C) (hID : I ≠ D) (hCD : C ≠ D)
    (hstab : ∀ i v m₂ ys nx, J i m₂ ys nx → J i (fun z => if z = x then some v else m₂ z) ys nx)
    (body : ∀ (i : Nat) (h : Heap) (tk : Nat) (oC : Obj) (m₂ : PySem.Str → Option Value) (ys : List Value) (nx : List (Addr × Obj)) (t : Tok) (E' : Value → Shared → Prop), i < n → Fr h₀ L h m → NsObj oC m₂ → m₂ x = some (.int (i : Nat) t) →
      News h₀ L h ((I, rgO (i + 1) n) :: (C, oC) :: (D, lst ys) :: nx) → Clear I nx → Clear C nx → Clear D nx → J i m₂ ys nx →
      wpAny (model prog w) A tail (LvEnd h₀ L m s I (rgO (i + 1) n) C D (.compLoop (.ListComp elt gens scope pos) d (.ref I) (.ref D) (compEnvC scope cl C env)) (J (i + 1))) E' { s with heap := h, toks := tk })
    (F : Fr h₀ L h m) (hC : NsObj oC m₂) (N : News h₀ L h ((I, rgO 0 n) :: (C, oC) :: (D, lst ys) :: nx)) (cI : Clear I nx) (cC : Clear C nx) (cD : Clear D nx) (hJ : J 0 m₂ ys nx)
    (hR : ∀ h tk oC m₂ ys nx, Fr h₀ L h m → NsObj oC m₂ → News h₀ L h ((C, oC) :: (D, lst ys) :: nx) → Clear C nx → Clear D nx → J n m₂ ys nx → R (.ok .next) { s with heap := h, toks := tk }) :
    codeAny (model prog w) A (.compLoop (.ListComp elt gens scope pos) d (.ref I) (.ref D) (compEnvC scope cl C env)) R { s with heap := h, toks := tk } := by
  have W := range_walks (prog := prog) (w := w) (A := A) (I := I) hh 0 n
  refine codeAny_loop rfl (fun k s' => ∃ i h tk oC m₂ ys nx, k = n + 1 - i ∧ i ≤ n ∧ s' = { s with heap := h, toks := tk } ∧ Fr h₀ L h m ∧ NsObj oC m₂ ∧ News h₀ L h ((I, rgO i n) :: (C, oC) :: (D, lst ys) :: nx) ∧ Clear I nx ∧ Clear C nx ∧ Clear D nx ∧ J i m₂ ys nx) ?_ (n + 1)
    ⟨0, h, tk, oC, m₂, ys, nx, rfl, Nat.zero_le _, rfl, F, hC, N, cI, cC, cD, hJ⟩
  rintro k s' ⟨i, h, tk, oC, m₂, ys, nx, rfl, hi, rfl, F, hC, N, cI, cC, cD, hJ⟩
  show wpAny _ A ((compTurn (.ListComp elt gens scope pos) d (.ref I) (.ref D) (compEnvC scope cl C env)).onRaise (fun x => do noteFrame x (compEnvC scope cl C env); theTreesLotGoes x)) _ _ _
  refine wpAny_noted ?_
  rw [heq]
  refine wpAny_bind (wpAny_standAt (wpAny_bind ?_))
  have zI := N _ (.head _)
  have hst : (fun (i : Nat) (h : Heap) => IsRangeIter h I (0 + (i : Nat) * 1) ((n : Int) - (i : Nat)) 1) i h := zI.1
  have Nt : News h₀ L h ((C, oC) :: (D, lst ys) :: nx) := news_tail N
  have cIt : Clear I ((C, oC) :: (D, lst ys) :: nx) := clear_cons hIC.symm (clear_cons hID.symm cI)
  by_cases hlt : i < n
  · refine W.item i _ _ _ hlt hst fun v h₂ tk₂ hP hst₂ hk₂ => ?_
    obtain ⟨t, rfl⟩ := hP
    refine wpAny_bind (wpAny_of_eq rfl ?_)
    have N₂ := news_other Nt hk₂ cIt
    have zC := N₂ _ (.head _)
    refine wpAny_bind (wpAny_assign_Name (wpAny_storeName_local (lookup_relabel_local hx) (hC.ns zC.1) (fun h₃ hn₃ hs₃ => ?_) (by simp [compEnvC, relabel, hkind])))
    obtain ⟨oC', heC, hoC⟩ := ns_obj hn₃
    have hCC : C ≠ L ∧ h₀.get? C = none := zC.2
    have F₃ : Fr h₀ L h₃ m := (fr_but F hk₂ zI.2.1.symm zI.2.2).change hs₃ hCC.1 hCC.2
    have N₃ : News h₀ L h₃ ((D, lst ys) :: nx) := news_other (news_tail N₂) (fun b o hb e => hs₃.extBut b o (fun q => hb (List.mem_singleton.mpr q)) e) (clear_cons hCD.symm cC)
    have hI₃ : h₃.get? I = some (rgO (i + 1) n) := hs₃.extBut _ _ hIC hst₂
    refine wpAny_mono (body i h₃ _ oC' _ ys nx t _ hlt F₃ hoC (by simp) (news_cons hI₃ zI.2 (news_cons heC hCC N₃)) cI cC cD (hstab i _ m₂ ys nx hJ)) ?_ fun _ _ e => e
    rintro fin s' ⟨rfl, h₄, tk₄, oC₄, m₄, ys₄, nx₄, rfl, F₄, hC₄, N₄, aI, aC, aD, J₄⟩
    exact ⟨rfl, n + 1 - (i + 1), by omega, i + 1, h₄, tk₄, oC₄, m₄, ys₄, nx₄, rfl, hlt, rfl, F₄, hC₄, N₄, aI, aC, aD, J₄⟩
  · obtain rfl : i = n := Nat.le_antisymm hi (Nat.not_lt.mp hlt)
    refine W.done _ _ _ hst fun h₂ tk₂ hk₂ => ?_
    exact wpAny_pure (hR h₂ tk₂ oC m₂ ys nx (fr_but F hk₂ zI.2.1.symm zI.2.2) hC (news_other Nt hk₂ cIt) cC cD hJ)
end
end Mine
end

section
open PySem PySem.W PyProof.Rows PySem.Spec PySem.Calls
set_option maxHeartbeats 4000000
namespace Mine
open LCg
section
variable {prog : Program} {w : World} {A : Around} {E : Value → Shared → Prop} {s : Shared} {h₀ : Heap} {L : Addr} {m : PySem.Str → Option Value} {env : Env}
abbrev gens3 (p q r : PySem.Str) (pp pq pr : Pos) (i0 i1 i2 ct : PySem.Expr) : List Comprehension := [⟨.Name p pp, i0, [], 0⟩, ⟨.Name q pq, i1, [], 0⟩, ⟨.Name r pr, i2, [ct], 0⟩]
def deepTail (e i1 : PySem.Expr) (d : Nat) (I D : Addr) (cenv : Env) : Sem Fin :=
  eval i1 cenv >>= fun x => standAt i1.pos >>= fun _ => foldedSetIterable i1 cenv x >>= fun x => holding [x] (pyIter x) >>= fun it' => runOwn (.compStart e (d + 1) it' (.ref D) cenv) cenv >>= fun _ => again (.compLoop e d (.ref I) (.ref D) cenv)
def lastTail (e elt ct : PySem.Expr) (d : Nat) (I D : Addr) (cenv : Env) : Sem Fin :=
  (forIn [ct] true fun c r => if r = true then do let ok ← isTrue c cenv (eval c cenv); pure (ForInStep.yield ok) else pure (ForInStep.yield r)) >>= fun ok =>
    if ok = true then ((eval elt cenv >>= fun x => call (.builtin "list.append") [.ref D, x] >>= fun _ => pure ()) >>= fun _ => again (.compLoop e d (.ref I) (.ref D) cenv)) else again (.compLoop e d (.ref I) (.ref D) cenv)
variable {elt ct i0 i1 i2 : PySem.Expr} {p q r : PySem.Str} {pp pq pr : Pos} {scope : Scope} {pos : Pos}
theorem turn_0 (I D : Addr) (cenv : Env) : compTurn (.ListComp elt (gens3 p q r pp pq pr i0 i1 i2 ct) scope pos) 0 (.ref I) (.ref D) cenv = (standAt i0.pos >>= fun _ => pyNext (.ref I) >>= fun x => match x with
      | none => pure (.done .next)
      | some v => letOwnedTupleGo (.Name p pp) (.ref I) v >>= fun _ => assign (.Name p pp) cenv v >>= fun _ => deepTail (.ListComp elt (gens3 p q r pp pq pr i0 i1 i2 ct) scope pos) i1 0 I D cenv) := by rfl
theorem turn_1 (I D : Addr) (cenv : Env) : compTurn (.ListComp elt (gens3 p q r pp pq pr i0 i1 i2 ct) scope pos) 1 (.ref I) (.ref D) cenv = (standAt i1.pos >>= fun _ => pyNext (.ref I) >>= fun x => match x with
      | none => pure (.done .next)
      | some v => letOwnedTupleGo (.Name q pq) (.ref I) v >>= fun _ => assign (.Name q pq) cenv v >>= fun _ => deepTail (.ListComp elt (gens3 p q r pp pq pr i0 i1 i2 ct) scope pos) i2 1 I D cenv) := by rfl
theorem turn_2 (I D : Addr) (cenv : Env) : compTurn (.ListComp elt (gens3 p q r pp pq pr i0 i1 i2 ct) scope pos) 2 (.ref I) (.ref D) cenv = (standAt i2.pos >>= fun _ => pyNext (.ref I) >>= fun x => match x with
      | none => pure (.done .next)
      | some v => letOwnedTupleGo (.Name r pr) (.ref I) v >>= fun _ => assign (.Name r pr) cenv v >>= fun _ => lastTail (.ListComp elt (gens3 p q r pp pq pr i0 i1 i2 ct) scope pos) elt ct 2 I D cenv) := by rfl
theorem start_rule {gens : List Comprehension} {d : Nat} {g : Comprehension} {it acc : Value} {cenv : Env} {R : Result → Shared → Prop} (hg : gens[d]? = some g) (ha : g.is_async = 0)
    (h : codeAny (model prog w) A (.compLoop (.ListComp elt gens scope pos) d it acc cenv) R s)
    (hi : ∀ (Q : Value → Shared → Prop) (E : Value → Shared → Prop), Q it s → wpAny (model prog w) A (pyIter it) Q E s) :
    codeAny (model prog w) A (.compStart (.ListComp elt gens scope pos) d it acc cenv) R s := by
  refine codeAny_of_tree ?_
  show wpAny _ A ((compStart (.ListComp elt gens scope pos) d it acc cenv).onRaise (fun x => do noteFrame x cenv; standAt theWindowsPlace)) _ _ s
  refine wpAny_notedAt ?_
  have hc : (clausesOf (.ListComp elt gens scope pos))[d]? = some g := hg
  unfold compStart
  rw [hc]
  simp only [Option.elim, ha]
  refine wpAny_bind (wpAny_askSetting (wpAny_ite ?_))
  split
  · first
      | exact wpAny_pure (And.intro rfl h)
      | exact wpAny_bind (wpAny_pure (wpAny_pure (And.intro rfl h)))
  · refine wpAny_bind (wpAny_rule ?_)
    first
      | exact wpAny_bind (wpAny_standAt (wpAny_bind (hi _ _ (wpAny_pure (And.intro rfl h)))))
/-- a range called for -/
def RngEnd (h₀ : Heap) (L : Addr) (m : PySem.Str → Option Value) (s : Shared) (all : List (Addr × Obj)) (n : Nat) (xv : Value) (s₁ : Shared) : Prop :=
  ∃ r t u v h tk, xv = .ref r ∧ s₁ = { s with heap := h, toks := tk } ∧ Fr h₀ L h m ∧ News h₀ L h all ∧ IsRange h r 0 (n : Int) 1 t u v
theorem deep_rule {gens : List Comprehension} {e : PySem.Expr} {d n : Nat} {I D : Addr} {cenv : Env} {Q : Fin → Shared → Prop} {h : Heap} {tk : Nat} {all : List (Addr × Obj)} {g : Comprehension}
    (he : e = .ListComp elt gens scope pos) (hg : gens[d + 1]? = some g) (ha : g.is_async = 0) (hh : A.handled = none)
    (hs : ∀ x, foldedSetIterable i1 cenv x = pure x) (hsm : Builtin.Range.small 0 (n : Int) 1 = true) (hn : Builtin.Range.rangeSize 0 (n : Int) 1 = (n : Int))
    (hr : wpAny (model prog w) A (eval i1 cenv) (RngEnd h₀ L m { s with heap := h, toks := tk } all n) E { s with heap := h, toks := tk })
    (hin : ∀ I' h tk (R : Result → Shared → Prop), Fr h₀ L h m → News h₀ L h ((I', rgO 0 n) :: all) → Clear I' all → (∀ s', (fun s' => Q (.again (.compLoop e d (.ref I) (.ref D) cenv)) s') s' → R (.ok .next) s') →
      codeAny (model prog w) A (.compLoop e (d + 1) (.ref I') (.ref D) cenv) R { s with heap := h, toks := tk }) :
    wpAny (model prog w) A (deepTail e i1 d I D cenv) Q E { s with heap := h, toks := tk } := by
  subst he
  unfold deepTail
  refine wpAny_bind (wpAny_mono hr ?_ fun _ _ e => e)
  rintro xv s₁ ⟨r, t, u, v, h₁, tk₁, rfl, rfl, F₁, N₁, hR⟩
  refine wpAny_bind (wpAny_standAt (wpAny_bind (wpAny_of_eq (hs _) (wpAny_bind (wpAny_holding (wpAny_pyIter_range hR hsm ?_))))))
  rw [hn]
  have up : ∀ b o, h₁.get? b = some o → (h₁.push (rgO 0 n)).get? b = some o := fun b o e => Heap.get?_push_of_some _ e
  have hI : (h₁.push (rgO 0 n)).get? h₁.objs.size = some (rgO 0 n) := Heap.get?_push_size _ rfl
  have hobj : ({ cls := .type "range_iterator", data := .fields #[rawInt 0, rawInt (n : Int), rawInt 1] } : Obj) = rgO 0 n := by unfold rgO; simp
  rw [hobj]
  refine wpAny_bind (wpAny_runOwn ?_)
  show codeAny _ A _ _ _
  refine start_rule hg ha ?_ fun Q E hq => ?_
  · refine hin h₁.objs.size (h₁.push (rgO 0 n)) tk₁ _ (F₁.keeps up) (news_cons hI ⟨Ne.symm (Nat.ne_of_lt F₁.ns.lt), next_is_new F₁⟩ (N₁.grown up)) (fun p hp => Nat.ne_of_lt (Heap.lt_size (N₁ p hp).1)) ?_
    intro s' hq
    exact wpAny_pure hq
  · exact (range_walks (prog := prog) (w := w) (A := A) hh 0 n).self 0 _ _ _ hI hq
/-- a turn's end -/
def TnEnd (h₀ : Heap) (L : Addr) (m : PySem.Str → Option Value) (s : Shared) (fixed : List (Addr × Obj)) (K : Value → List (Addr × Obj) → Prop) (y : Value) (s₂ : Shared) : Prop :=
  ∃ h tk nx, s₂ = { s with heap := h, toks := tk } ∧ Fr h₀ L h m ∧ News h₀ L h (fixed ++ nx) ∧ (∀ f ∈ fixed, Clear f.1 nx) ∧ K y nx
end
end Mine
end

section
open PySem PySem.W PyProof.Rows PySem.Spec PySem.Calls
set_option maxHeartbeats 4000000
namespace Mine
open LCg
section
variable {prog : Program} {w : World} {A : Around} {E : Value → Shared → Prop} {s : Shared} {h₀ : Heap} {L : Addr} {m : PySem.Str → Option Value} {env : Env}
variable {elt ct i0 i1 i2 : PySem.Expr} {p q r : PySem.Str} {pp pq pr : Pos} {scope : Scope} {pos : Pos} {cl : List (PySem.Str × Addr)}
def Rng (prog : Program) (w : World) (A : Around) (h₀ : Heap) (L : Addr) (m : PySem.Str → Option Value) (env : Env) (scope : Scope) (cl : List (PySem.Str × Addr)) (s : Shared) (i1 : PySem.Expr) : Prop :=
  ∀ C oC m₂ h tk all (E' : Value → Shared → Prop), NsObj oC m₂ → Fr h₀ L h m → News h₀ L h ((C, oC) :: all) → wpAny (model prog w) A (eval i1 (compEnvC scope cl C env)) (RngEnd h₀ L m { s with heap := h, toks := tk } ((C, oC) :: all) 3) E' { s with heap := h, toks := tk }
def Turn (prog : Program) (w : World) (A : Around) (h₀ : Heap) (L : Addr) (m : PySem.Str → Option Value) (env : Env) (scope : Scope) (cl : List (PySem.Str × Addr)) (s : Shared) (p q r : PySem.Str) (ct elt : PySem.Expr) (Inv : Nat → List Value → List (Addr × Obj) → Prop) : Prop :=
  ∀ (i j k : Nat) (ti tj tk : Tok) C oC D I0 o0 I1 o1 I2 o2 m₂ h tok ys nx (E' : Value → Shared → Prop), i < 3 → j < 3 → k < 3 → NsObj oC m₂ → m₂ p = some (.int (i : Nat) ti) → m₂ q = some (.int (j : Nat) tj) → m₂ r = some (.int (k : Nat) tk) →
    Fr h₀ L h m → News h₀ L h ([(C, oC), (D, lst ys), (I2, o2), (I1, o1), (I0, o0)] ++ nx) → (∀ f ∈ [(C, oC), (D, lst ys), (I2, o2), (I1, o1), (I0, o0)], Clear f.1 nx) → Inv (9 * i + 3 * j + k) ys nx →
    wpAny (model prog w) A (isTrue ct (compEnvC scope cl C env) (eval ct (compEnvC scope cl C env))) (fun ok s' => if ok = true then
        wpAny (model prog w) A (eval elt (compEnvC scope cl C env)) (TnEnd h₀ L m { s with heap := h, toks := tok } [(C, oC), (D, lst ys), (I2, o2), (I1, o1), (I0, o0)] (fun y nx' => Inv (9 * i + 3 * j + k + 1) (ys ++ [y]) nx')) E' s'
        else TnEnd h₀ L m { s with heap := h, toks := tok } [(C, oC), (D, lst ys), (I2, o2), (I1, o1), (I0, o0)] (fun _ nx' => Inv (9 * i + 3 * j + k + 1) ys nx') Value.none s') E' { s with heap := h, toks := tok }
def Src3 (prog : Program) (w : World) (A : Around) (h₀ : Heap) (L : Addr) (m : PySem.Str → Option Value) (env : Env) (scope : Scope) (cl : List (PySem.Str × Addr)) (p q r : PySem.Str) (i1 i2 ct elt : PySem.Expr) (Q : Value → Shared → Prop) (xv : Value) (s₁ : Shared) : Prop :=
  ∃ (Inv : Nat → List Value → List (Addr × Obj) → Prop) (nx : List (Addr × Obj)) (ra : Addr) (t u v : Tok), xv = .ref ra ∧ A.handled = none ∧ Fr h₀ L s₁.heap m ∧ News h₀ L s₁.heap nx ∧ IsRange s₁.heap ra 0 3 1 t u v ∧ Inv 0 [] nx ∧ (∀ t ys nx, Inv t ys nx → ys.length ≤ t) ∧
    Rng prog w A h₀ L m env scope cl s₁ i1 ∧ Rng prog w A h₀ L m env scope cl s₁ i2 ∧ Turn prog w A h₀ L m env scope cl s₁ p q r ct elt Inv ∧
    (∀ D h tk ys nx, Fr h₀ L h m → News h₀ L h ((D, lst ys) :: nx) → Clear D nx → Inv 27 ys nx → Q (.ref D) { s₁ with heap := h, toks := tk })
theorem news_in {h : Heap} {x c d : Addr × Obj} {nx : List (Addr × Obj)} (N : News h₀ L h (x :: c :: d :: nx)) : News h₀ L h (c :: d :: x :: nx) := fun p hp => by
  rcases List.mem_cons.mp hp with rfl | hp
  · exact N _ (.tail _ (.head _))
  · rcases List.mem_cons.mp hp with rfl | hp
    · exact N _ (.tail _ (.tail _ (.head _)))
    · rcases List.mem_cons.mp hp with rfl | hp
      · exact N _ (.head _)
      · exact N _ (.tail _ (.tail _ (.tail _ hp)))
theorem news_out {h : Heap} {x c d : Addr × Obj} {nx : List (Addr × Obj)} (N : News h₀ L h (c :: d :: x :: nx)) : News h₀ L h (x :: c :: d :: nx) := fun p hp => by
  rcases List.mem_cons.mp hp with rfl | hp
  · exact N _ (.tail _ (.tail _ (.head _)))
  · rcases List.mem_cons.mp hp with rfl | hp
    · exact N _ (.head _)
    · rcases List.mem_cons.mp hp with rfl | hp
      · exact N _ (.tail _ (.head _))
      · exact N _ (.tail _ (.tail _ (.tail _ hp)))
theorem news_drop {h : Heap} {x c d : Addr × Obj} {nx : List (Addr × Obj)} (N : News h₀ L h (x :: c :: d :: nx)) : News h₀ L h (x :: c :: nx) := fun p hp => by
  rcases List.mem_cons.mp hp with rfl | hp
  · exact N _ (.head _)
  · rcases List.mem_cons.mp hp with rfl | hp
    · exact N _ (.tail _ (.head _))
    · exact N _ (.tail _ (.tail _ (.tail _ hp)))
theorem clear_re {a : Addr} {x y : Addr × Obj} {nx nx' : List (Addr × Obj)} (c : Clear a (x :: y :: nx)) (c' : Clear a nx') : Clear a (x :: y :: nx') := clear_cons (clear_head c) (clear_cons (clear_head (clear_tail c)) c')
def J0 (Inv : Nat → List Value → List (Addr × Obj) → Prop) (i : Nat) : Jt := fun _ ys nx => Inv (9 * i) ys nx
def J1 (Inv : Nat → List Value → List (Addr × Obj) → Prop) (p : PySem.Str) (i : Nat) (I0 : Addr) (j : Nat) : Jt := fun m₂ ys nx =>
  ∃ nx0, nx = (I0, rgO (i + 1) 3) :: nx0 ∧ Clear I0 nx0 ∧ (∃ t, m₂ p = some (.int (i : Nat) t)) ∧ Inv (9 * i + 3 * j) ys nx0
def J2 (Inv : Nat → List Value → List (Addr × Obj) → Prop) (p q : PySem.Str) (i j : Nat) (I0 I1 : Addr) (k : Nat) : Jt := fun m₂ ys nx =>
  ∃ nx0, nx = (I1, rgO (j + 1) 3) :: (I0, rgO (i + 1) 3) :: nx0 ∧ Clear I0 nx0 ∧ Clear I1 ((I0, rgO (i + 1) 3) :: nx0) ∧ (∃ t, m₂ p = some (.int (i : Nat) t)) ∧ (∃ t, m₂ q = some (.int (j : Nat) t)) ∧ Inv (9 * i + 3 * j + k) ys nx0
theorem ListComp_3 {Q : Value → Shared → Prop} (_F₀ : Fr h₀ L s.heap m) (hclos : closureFor scope env = pure cl) (hcell : ∀ y ∈ scope.names, y.2 ≠ .cell) (hkind : scope.kind = .function)
    (hnames : ∀ y ∈ scope.names, y.2 = .local → scope.names.lookup y.1 = some .local) (hp : scope.names.lookup p = some .local) (hq : scope.names.lookup q = some .local) (hr : scope.names.lookup r = some .local)
    (hpq : p ≠ q) (hpr : p ≠ r) (hqr : q ≠ r)
    (h : wpAny (model prog w) A (eval i0 env) (Src3 prog w A h₀ L m env scope cl p q r i1 i2 ct elt Q) E s)
    (hs0 : ∀ x, foldedSetIterable i0 env x = pure x := by intro _; rfl) (hs1 : ∀ C x, foldedSetIterable i1 (compEnvC scope cl C env) x = pure x := by intro _ _; rfl) (hs2 : ∀ C x, foldedSetIterable i2 (compEnvC scope cl C env) x = pure x := by intro _ _; rfl) :
    wpAny (model prog w) A (eval (.ListComp elt [⟨.Name p pp, i0, [], 0⟩, ⟨.Name q pq, i1, [], 0⟩, ⟨.Name r pr, i2, [ct], 0⟩] scope pos) env) Q E s := by
  rw [eval_ListComp]
  refine wpAny_comprehension_free (use := none) rfl hs0 hclos hkind hnames (wpAny_mono h (fun xv s₁ h₁ => ?_) fun _ _ e => e)
  obtain ⟨Inv, nx, ra, t, u, v, rfl, hh, F, N, hR, hI0, hlen, hr1, hr2, hturn, hfin⟩ := h₁
  refine wpAny_pyIter_range hR (by decide) ?_
  have hobj : ({ cls := .type "range_iterator", data := .fields #[rawInt 0, rawInt (Builtin.Range.rangeSize 0 3 1), rawInt 1] } : Obj) = rgO 0 3 := by rfl
  rw [hobj]
  have up : ∀ b o, s₁.heap.get? b = some o → (s₁.heap.push (rgO 0 3)).get? b = some o := fun b o e => Heap.get?_push_of_some _ e
  have F₁ := F.keeps up
  have N₁ : News h₀ L (s₁.heap.push (rgO 0 3)) ((s₁.heap.objs.size, rgO 0 3) :: nx) := news_cons (Heap.get?_push_size _ rfl) ⟨Ne.symm (Nat.ne_of_lt F.ns.lt), next_is_new F⟩ (N.grown up)
  have cI : Clear s₁.heap.objs.size nx := fun p hp => Nat.ne_of_lt (Heap.lt_size (N p hp).1)
  generalize hIa : s₁.heap.objs.size = I0 at N₁ cI ⊢
  generalize hg1 : s₁.heap.push (rgO 0 3) = g1 at F₁ N₁ ⊢
  refine wpAny_newObj_type (wpAny_newFunctionEnv hcell (by intro y hy; simp at hy) (fun h₁ hns₁ hsb₁ => ?_) hkind)
  dsimp only at hns₁ hsb₁ ⊢
  have up2 : ∀ b o, g1.get? b = some o → (g1.push (lst [])).get? b = some o := fun b o e => Heap.get?_push_of_some _ e
  have F₂ : Fr h₀ L (g1.push (lst [])) m := F₁.keeps up2
  have N₂ : News h₀ L (g1.push (lst [])) ((g1.objs.size, lst []) :: (I0, rgO 0 3) :: nx) := news_cons (Heap.get?_push_size _ rfl) ⟨Ne.symm (Nat.ne_of_lt F₁.ns.lt), next_is_new F₁⟩ (N₁.grown up2)
  have cD : Clear g1.objs.size ((I0, rgO 0 3) :: nx) := fun p hp => Nat.ne_of_lt (Heap.lt_size (N₁ p hp).1)
  have hl : ({ cls := .type "list", dict := none, data := .seq ([] : List Value).toArray } : Obj) = lst [] := rfl
  rw [hl] at hns₁ hsb₁ ⊢
  generalize hDa : g1.objs.size = D at N₂ cD ⊢
  generalize hg2 : g1.push (lst []) = g2 at F₂ N₂ hns₁ hsb₁ ⊢
  have cC : Clear g2.objs.size ((D, lst []) :: (I0, rgO 0 3) :: nx) := fun p hp => Nat.ne_of_lt (Heap.lt_size (N₂ p hp).1)
  have hCn : g2.objs.size ≠ L ∧ h₀.get? g2.objs.size = none := ⟨Ne.symm (Nat.ne_of_lt F₂.ns.lt), next_is_new F₂⟩
  have old : ∀ b o, g2.get? b = some o → h₁.get? b = some o := fun b o e => hsb₁.extBut b o (Nat.ne_of_lt (Heap.lt_size e)) (Heap.get?_push_of_some _ e)
  have F₃ := F₂.keeps old
  have N₃ := N₂.grown old
  obtain ⟨oC, heC, hoC⟩ := ns_obj hns₁
  generalize hCa : g2.objs.size = C at heC cC hCn ⊢
  clear hns₁ hsb₁ old hCa
  have hCD : C ≠ D := Ne.symm (clear_head cC)
  have hIC : I0 ≠ C := clear_head (clear_tail cC)
  have hID : I0 ≠ D := clear_head cD
  have N₄ : News h₀ L h₁ ((I0, rgO 0 3) :: (C, oC) :: (D, lst []) :: nx) := fun p hp => by
    rcases List.mem_cons.mp hp with rfl | hp
    · exact N₃ _ (.tail _ (.head _))
    · rcases List.mem_cons.mp hp with rfl | hp
      · exact ⟨heC, hCn⟩
      · rcases List.mem_cons.mp hp with rfl | hp
        · exact N₃ _ (.head _)
        · exact N₃ _ (.tail _ (.tail _ hp))
  refine start_rule (g := ⟨.Name p pp, i0, [], 0⟩) rfl rfl ?_ fun Q E hq => (range_walks (prog := prog) (w := w) (A := A) hh 0 3).self 0 _ _ _ (N₄ _ (.head _)).1 hq
  refine loop_rule (s := s₁) (n := 3) (J := J0 Inv) (turn_0 _ _ _) hh hkind hp hIC hID hCD (fun _ _ _ _ _ h => h) ?_ F₃ hoC N₄ cI (clear_tail (clear_tail cC)) (clear_tail cD) hI0 ?_
  · intro i h tk oC m₂ ys nx ti E' hi F hC hmp N aI aC aD hJ
    refine deep_rule (h₀ := h₀) (L := L) (m := m) (s := s₁) (n := 3) (h := h) (tk := tk) (g := ⟨.Name q pq, i1, [], 0⟩) (all := (C, oC) :: (D, lst ys) :: (I0, rgO (i + 1) 3) :: nx) rfl rfl rfl hh (hs1 C) (by decide) (by rfl) ?_ ?_
    · exact hr1 C oC m₂ h tk _ E' hC F (news_in N)
    · intro I1 h tk R F₁ N₁ c1 hfi
      refine loop_rule (s := s₁) (n := 3) (J := J1 Inv p i I0) (turn_1 _ _ _) hh hkind hq (clear_head c1).symm (clear_head (clear_tail c1)).symm hCD ?_ ?_ F₁ hC N₁ (clear_tail (clear_tail c1)) (clear_cons hIC aC) (clear_cons hID aD) ⟨nx, rfl, aI, ⟨ti, hmp⟩, hJ⟩ ?_
      · rintro j v m₂ ys nx ⟨nx0, rfl, c0, ⟨t, e⟩, hI⟩
        exact ⟨nx0, rfl, c0, ⟨t, (if_neg hpq).trans e⟩, hI⟩
      · rintro j h tk oC m₂ ys nx tj E' hj F hC hmq N aI1 aC aD ⟨nx0, rfl, c0, ⟨ti, hmp⟩, hI⟩
        refine deep_rule (h₀ := h₀) (L := L) (m := m) (s := s₁) (n := 3) (h := h) (tk := tk) (g := ⟨.Name r pr, i2, [ct], 0⟩) (all := (C, oC) :: (D, lst ys) :: (I1, rgO (j + 1) 3) :: (I0, rgO (i + 1) 3) :: nx0) rfl rfl rfl hh (hs2 C) (by decide) (by rfl) ?_ ?_
        · exact hr2 C oC m₂ h tk _ E' hC F (news_in N)
        · intro I2 h tk R2 F₂ N₂ c2 hfj
          refine loop_rule (s := s₁) (n := 3) (J := J2 Inv p q i j I0 I1) (turn_2 _ _ _) hh hkind hr (clear_head c2).symm (clear_head (clear_tail c2)).symm hCD ?_ ?_ F₂ hC N₂ (clear_tail (clear_tail c2)) (clear_cons (clear_head c1).symm aC) (clear_cons (clear_head (clear_tail c1)).symm aD) ⟨nx0, rfl, c0, aI1, ⟨ti, hmp⟩, ⟨tj, hmq⟩, hI⟩ ?_
          · rintro k v m₂ ys nx ⟨nx0, rfl, c0, aI1, ⟨t, e⟩, ⟨t', e'⟩, hI⟩
            exact ⟨nx0, rfl, c0, aI1, ⟨t, (if_neg hpr).trans e⟩, ⟨t', (if_neg hqr).trans e'⟩, hI⟩
          · rintro k h tk oC m₂ ys nx tk' E' hk F hC hmr N aI2 aC aD ⟨nx0, rfl, c0, aI1, ⟨ti, hmp⟩, ⟨tj, hmq⟩, hI⟩
            have T := hturn i j k ti tj tk' C oC D I0 _ I1 _ I2 _ m₂ h tk ys nx0 E' hi hj hk hC hmp hmq hmr F (news_in N) ?_ hI
            · unfold lastTail
              refine wpAny_bind (wpAny_tests_one (wpAny_mono T (fun ok s' hok => ?_) fun _ _ e => e))
              cases ok with
              | true =>
                simp only [if_true] at hok ⊢
                refine wpAny_bind (wpAny_bind (wpAny_mono hok (fun y s'' hy => ?_) fun _ _ e => e))
                obtain ⟨h₃, tk₃, nx₃, rfl, F₃, N₃, c₃, I₃⟩ := hy
                have zD := N₃ (D, lst ys) (.tail _ (.head _))
                have hsz : ys.toArray.size ≤ sizeLine := by
                  rw [List.size_toArray]
                  exact Nat.le_trans (hlen _ _ _ hI) (Nat.le_trans (show 9 * i + 3 * j + k ≤ 27 by omega) (by decide))
                refine wpAny_bind (append_at (hsz := hsz) zD.1 fun h₄ hs₄ hD₄ => ?_)
                refine wpAny_pure (wpAny_pure ⟨rfl, h₄, tk₃, oC, m₂, ys ++ [y], _, rfl, F₃.change hs₄ zD.2.1 zD.2.2, hC, ?_, ?_, ?_, ?_, ⟨nx₃, rfl, ?_, ?_, ⟨ti, hmp⟩, ⟨tj, hmq⟩, I₃⟩⟩)
                · have hID2 := clear_head (clear_tail c2)
                  have No := news_drop (news_out N₃)
                  have Nk := news_other No (fun b o hb e => hs₄.extBut b o (fun q => hb (List.mem_singleton.mpr q)) e) (clear_cons hID2.symm (clear_cons hCD (clear_re aD (c₃ _ (.tail _ (.head _))))))
                  exact news_in (news_cons (hD₄.trans (congrArg some (lst_snoc ys y))) zD.2 Nk)
                · exact clear_re aI2 (c₃ _ (.tail _ (.tail _ (.head _))))
                · exact clear_re aC (c₃ _ (.head _))
                · exact clear_re aD (c₃ _ (.tail _ (.head _)))
                · exact c₃ _ (.tail _ (.tail _ (.tail _ (.tail _ (.head _)))))
                · exact clear_cons (clear_head aI1) (c₃ _ (.tail _ (.tail _ (.tail _ (.head _)))))
              | false =>
                simp only [Bool.false_eq_true, if_false] at hok ⊢
                obtain ⟨h₃, tk₃, nx₃, rfl, F₃, N₃, c₃, I₃⟩ := hok
                refine wpAny_pure ⟨rfl, h₃, tk₃, oC, m₂, ys, _, rfl, F₃, hC, ?_, ?_, ?_, ?_, ⟨nx₃, rfl, ?_, ?_, ⟨ti, hmp⟩, ⟨tj, hmq⟩, I₃⟩⟩
                · exact news_out N₃
                · exact clear_re aI2 (c₃ _ (.tail _ (.tail _ (.head _))))
                · exact clear_re aC (c₃ _ (.head _))
                · exact clear_re aD (c₃ _ (.tail _ (.head _)))
                · exact c₃ _ (.tail _ (.tail _ (.tail _ (.tail _ (.head _)))))
                · exact clear_cons (clear_head aI1) (c₃ _ (.tail _ (.tail _ (.tail _ (.head _)))))
            · intro f hf
              simp only [List.mem_cons, List.not_mem_nil, or_false] at hf
              rcases hf with rfl | rfl | rfl | rfl | rfl
              · exact clear_tail (clear_tail aC)
              · exact clear_tail (clear_tail aD)
              · exact clear_tail (clear_tail aI2)
              · exact clear_tail aI1
              · exact c0
          · rintro h tk oC m₂ ys nx F hC N aC aD ⟨nx0, rfl, c0, aI1, ⟨t, e⟩, ⟨t', e'⟩, hI⟩
            exact hfj _ ⟨rfl, h, tk, oC, m₂, ys, _, rfl, F, hC, news_out N, aI1, clear_tail aC, clear_tail aD, ⟨nx0, rfl, c0, ⟨t, e⟩, (show 9 * i + 3 * j + 3 = 9 * i + 3 * (j + 1) by omega) ▸ hI⟩⟩
      · rintro h tk oC m₂ ys nx F hC N aC aD ⟨nx0, rfl, c0, ⟨t, e⟩, hI⟩
        exact hfi _ ⟨rfl, h, tk, oC, m₂, ys, nx0, rfl, F, hC, news_out N, c0, clear_tail aC, clear_tail aD, (show Inv (9 * (i + 1)) ys nx0 from (show 9 * i + 3 * 3 = 9 * (i + 1) by omega) ▸ hI)⟩
  · intro h tk oC m₂ ys nx F hC N aC aD hJ
    have zC := N _ (.head _)
    refine ⟨_, hC.ns zC.1, fun h' hs' => hfin D h' tk ys nx (F.change hs' zC.2.1 zC.2.2) ?_ aD hJ⟩
    exact news_other (news_tail N) (fun b o hb e => hs'.extBut b o (fun q => hb (List.mem_singleton.mpr q)) e) (clear_cons hCD.symm aC)
end
end Mine
end

section
namespace Mine
/-! the law's numbers -/
/-- an end that has come back -/
def Good (A B C i j k : Nat) : Prop :=
  (i = 2 ∨ j = 2 ∨ k = 2) ∧ ((0 < i ∧ 0 < j) ∨ (0 < i ∧ 0 < k) ∨ (0 < j ∧ 0 < k)) ∧ ((i : Int) - j - A + B) % 4 = 0 ∧ ((j : Int) - k - B + C) % 4 = 0
theorem good_table : ∀ d e : Fin 4, ∃ i j k : Fin 3, (i.val = 2 ∨ j.val = 2 ∨ k.val = 2) ∧ ((0 < i.val ∧ 0 < j.val) ∨ (0 < i.val ∧ 0 < k.val) ∨ (0 < j.val ∧ 0 < k.val)) ∧ (i.val + 4) % 4 = (j.val + d.val) % 4 ∧ (j.val + 4) % 4 = (k.val + e.val) % 4 := by decide +kernel
set_option synthInstance.maxHeartbeats 400000 in
set_option synthInstance.maxSize 4096 in
theorem good_one : ∀ i j k i' j' k' : Fin 3, (i.val = 2 ∨ j.val = 2 ∨ k.val = 2) → ((0 < i.val ∧ 0 < j.val) ∨ (0 < i.val ∧ 0 < k.val) ∨ (0 < j.val ∧ 0 < k.val)) → (i'.val = 2 ∨ j'.val = 2 ∨ k'.val = 2) → ((0 < i'.val ∧ 0 < j'.val) ∨ (0 < i'.val ∧ 0 < k'.val) ∨ (0 < j'.val ∧ 0 < k'.val)) → (i.val + j'.val) % 4 = (i'.val + j.val) % 4 → (j.val + k'.val) % 4 = (j'.val + k.val) % 4 → i.val = i'.val ∧ j.val = j'.val ∧ k.val = k'.val := by decide +kernel
theorem Good.uniq {A B C i j k i' j' k' : Nat} (h : Good A B C i j k) (h' : Good A B C i' j' k') (a : i < 3) (b : j < 3) (c : k < 3) (a' : i' < 3) (b' : j' < 3) (c' : k' < 3) : i = i' ∧ j = j' ∧ k = k' := by
  obtain ⟨m1, z1, e1, e2⟩ := h
  obtain ⟨m2, z2, e3, e4⟩ := h'
  have d1 : (i + j') % 4 = (i' + j) % 4 := by clear m1 z1 m2 z2 e2 e4; omega
  have d2 : (j + k') % 4 = (j' + k) % 4 := by clear m1 z1 m2 z2 e1 e3; omega
  exact good_one ⟨i, a⟩ ⟨j, b⟩ ⟨k, c⟩ ⟨i', a'⟩ ⟨j', b'⟩ ⟨k', c'⟩ m1 z1 m2 z2 d1 d2
theorem Good.exists (A B C : Nat) : ∃ i j k, i < 3 ∧ j < 3 ∧ k < 3 ∧ Good A B C i j k := by
  have hx : ∀ x : Int, ∃ d : Fin 4, (x - (d.val : Int)) % 4 = 0 := fun x => ⟨⟨(x % 4).toNat, by omega⟩, by
    show (x - ((x % 4).toNat : Int)) % 4 = 0
    omega⟩
  obtain ⟨d, hd⟩ := hx ((A : Int) - B)
  obtain ⟨e, he⟩ := hx ((B : Int) - C)
  obtain ⟨i, j, k, m, z, e1, e2⟩ := good_table d e
  refine ⟨i.val, j.val, k.val, i.isLt, j.isLt, k.isLt, m, z, ?_, ?_⟩
  · clear m z e2 he; omega
  · clear m z e1 hd; omega
/-- what a settling must show -/
structure Due (A B C Z p q r u0 u1 u2 : Nat) : Prop where
  e0 : A + u1 + u2 = p + 3 * u0
  e1 : B + u0 + u2 = q + 3 * u1
  e2 : C + u0 + u1 = r + 3 * u2
  hp : p ≤ 2
  hq : q ≤ 2
  hr : r ≤ 2
  few : u0 + u1 + u2 ≤ 19
  uniq : ∀ f0 f1 f2 a b c z, Sand A B C Z f0 f1 f2 a b c z → a ≤ 2 → b ≤ 2 → c ≤ 2 → f0 = u0 ∧ f1 = u1 ∧ f2 = u2
theorem Due.hu {A B C Z p q r u0 u1 u2 : Nat} (d : Due A B C Z p q r u0 u1 u2) : ∃ u0 u1 u2 : Nat, A + u1 + u2 ≤ 2 + 3 * u0 ∧ B + u0 + u2 ≤ 2 + 3 * u1 ∧ C + u0 + u1 ≤ 2 + 3 * u2 ∧ u0 + u1 + u2 ≤ 19 := by
  obtain ⟨e0, e1, e2, hp, hq, hr, few, _⟩ := d
  exact ⟨u0, u1, u2, by omega, by omega, by omega, few⟩
theorem Due.end {A B C Z p q r u0 u1 u2 f0 f1 f2 a b c z : Nat} (d : Due A B C Z p q r u0 u1 u2) (S : Sand A B C Z f0 f1 f2 a b c z) (ha : a ≤ 2) (hb : b ≤ 2) (hc : c ≤ 2) :
    f0 = u0 ∧ f1 = u1 ∧ f2 = u2 ∧ a = p ∧ b = q ∧ c = r ∧ z = Z + u0 + u1 + u2 := by
  obtain ⟨rfl, rfl, rfl⟩ := d.uniq _ _ _ _ _ _ _ S ha hb hc
  obtain ⟨e0, e1, e2, _, _, _, _, _⟩ := d
  obtain ⟨s0, s1, s2, s3, _⟩ := S
  omega
/-- the first question: x = lead - end, t their sum -/
theorem Due.first {A B C p q r : Nat} (h : Good A B C p q r) (hp : p < 3) (hq : q < 3) (hr : r < 3) (hA : 4 ≤ A) (hB : 3 ≤ B) (hC : 2 ≤ C) (hs : A + B + C ≤ 18) :
    ∃ t u0 u1 u2 : Nat, (t : Int) = ((A : Int) - p) + (B - q) + (C - r) ∧ (u0 : Int) = Int.fdiv ((A : Int) - p + t) 4 ∧ (u1 : Int) = Int.fdiv ((B : Int) - q + t) 4 ∧ (u2 : Int) = Int.fdiv ((C : Int) - r + t) 4 ∧ t ≤ 18 ∧ t = u0 + u1 + u2 ∧ Due A B C 0 p q r u0 u1 u2 := by
  obtain ⟨m1, z1, e1, e2⟩ := h
  obtain ⟨x, rfl⟩ := Nat.exists_eq_add_of_le (show p ≤ A from Nat.le_trans (Nat.le_of_lt hp) (Nat.le_trans (by decide) hA))
  obtain ⟨y, rfl⟩ := Nat.exists_eq_add_of_le (show q ≤ B from Nat.le_trans (Nat.le_of_lt hq) hB)
  obtain ⟨z, rfl⟩ := Nat.exists_eq_add_of_le (show r ≤ C from Nat.le_trans (Nat.le_of_lt_succ hr) hC)
  obtain ⟨f, hf⟩ : ∃ f : Int, (y : Int) = x + 4 * f := ⟨((y : Int) - x) / 4, by clear m1 z1 e2 hA hB hC hs hp hq hr; omega⟩
  obtain ⟨g, hg⟩ : ∃ g : Int, (z : Int) = y + 4 * g := ⟨((z : Int) - y) / 4, by clear m1 z1 e1 hA hB hC hs hp hq hr hf; omega⟩
  clear e1 e2 hA hB hC
  obtain ⟨u0, h0⟩ : ∃ u : Nat, (u : Int) = x + 2 * f + g := ⟨((x : Int) + 2 * f + g).toNat, by clear m1 z1 hs hp hq hr; omega⟩
  obtain ⟨u1, h1⟩ : ∃ u : Nat, (u : Int) = x + 3 * f + g := ⟨((x : Int) + 3 * f + g).toNat, by clear m1 z1 hs hp hq hr h0; omega⟩
  obtain ⟨u2, h2⟩ : ∃ u : Nat, (u : Int) = x + 3 * f + 2 * g := ⟨((x : Int) + 3 * f + 2 * g).toNat, by clear m1 z1 hs hp hq hr h0 h1; omega⟩
  have ht : x + y + z = u0 + u1 + u2 := by clear m1 z1 hs hp hq hr; omega
  have f4 : ∀ {a : Int} {u : Nat}, a = 4 * (u : Int) → (u : Int) = Int.fdiv a 4 := fun h => by
    subst h
    rw [Int.fdiv_eq_ediv_of_nonneg _ (by decide)]
    omega
  have k0 : p + x + u1 + u2 = p + 3 * u0 := by clear m1 z1 hs hp hq hr ht; omega
  have k1 : q + y + u0 + u2 = q + 3 * u1 := by clear m1 z1 hs hp hq hr ht k0; omega
  have k2 : r + z + u0 + u1 = r + 3 * u2 := by clear m1 z1 hs hp hq hr ht k0 k1; omega
  have hfew : x + y + z ≤ 18 := by clear m1 z1 hp hq hr ht k0 k1 k2 h0 h1 h2 hf hg; omega
  clear hs
  refine ⟨x + y + z, u0, u1, u2, ?_, f4 ?_, f4 ?_, f4 ?_, hfew, ht, k0, k1, k2, Nat.le_of_lt_succ hp, Nat.le_of_lt_succ hq, Nat.le_of_lt_succ hr, ?_, fun f0 f1 f2 a b c z' S ha hb hc => ?_⟩
  · clear hf hg h0 h1 h2 m1 z1 hp hq hr ht k0 k1 k2 hfew; omega
  · clear m1 z1 hp hq hr ht k1 k2 hfew k0; omega
  · clear m1 z1 hp hq hr ht k1 k2 hfew k0; omega
  · clear m1 z1 hp hq hr ht k1 k2 hfew k0; omega
  · rw [← ht]; exact Nat.le_trans hfew (by decide)
  · exact S.uniq (p := p) (q := q) (r := r) ha hb hc k0 k1 k2 (Nat.le_of_lt_succ hp) (Nat.le_of_lt_succ hq) (Nat.le_of_lt_succ hr) m1 z1
/-- the second question's ways -/
theorem Due.all {c0 c1 c2 : Nat} (h0 : c0 < 3) (h1 : c1 < 3) (h2 : c2 < 3) (hm : c0 = 2 ∨ c1 = 2 ∨ c2 = 2) (hz : (0 < c0 ∧ 0 < c1) ∨ (0 < c0 ∧ 0 < c2) ∨ (0 < c1 ∧ 0 < c2)) : Due (c0 + 1) (c1 + 1) (c2 + 1) 0 c0 c1 c2 1 1 1 :=
  ⟨by omega, by omega, by omega, by omega, by omega, by omega, by omega, fun f0 f1 f2 a b c z S ha hb hc => S.uniq (p := c0) (q := c1) (r := c2) ha hb hc (by omega) (by omega) (by omega) (by omega) (by omega) (by omega) hm hz⟩
theorem Due.none {c0 c1 c2 : Nat} (h0 : c0 < 2) (h1 : c1 < 2) (h2 : c2 < 2) : Due (c0 + 1) (c1 + 1) (c2 + 1) 0 (c0 + 1) (c1 + 1) (c2 + 1) 0 0 0 :=
  ⟨by omega, by omega, by omega, by omega, by omega, by omega, by omega, fun f0 f1 f2 a b c z S _ _ _ => by
    obtain ⟨l0, l1, l2⟩ := S.least 0 0 0 (by omega) (by omega) (by omega)
    omega⟩
theorem Due.one0 : Due 3 1 1 0 0 2 2 1 0 0 := ⟨by omega, by omega, by omega, by omega, by omega, by omega, by omega, fun f0 f1 f2 a b c z S ha hb hc => S.uniq (p := 0) (q := 2) (r := 2) ha hb hc (by omega) (by omega) (by omega) (by omega) (by omega) (by omega) (by omega) (by omega)⟩
theorem Due.one1 : Due 1 3 1 0 2 0 2 0 1 0 := ⟨by omega, by omega, by omega, by omega, by omega, by omega, by omega, fun f0 f1 f2 a b c z S ha hb hc => S.uniq (p := 2) (q := 0) (r := 2) ha hb hc (by omega) (by omega) (by omega) (by omega) (by omega) (by omega) (by omega) (by omega)⟩
theorem Due.one2 : Due 1 1 3 0 2 2 0 0 0 1 := ⟨by omega, by omega, by omega, by omega, by omega, by omega, by omega, fun f0 f1 f2 a b c z S ha hb hc => S.uniq (p := 2) (q := 2) (r := 0) ha hb hc (by omega) (by omega) (by omega) (by omega) (by omega) (by omega) (by omega) (by omega)⟩
theorem count3 (l : List Int) : List.count 0 l + List.count 1 l + List.count 2 l ≤ l.length := by
  induction l with
  | nil => simp
  | cons x l ih =>
    simp only [List.count_cons, List.length_cons, beq_iff_eq]
    by_cases a : x = 0
    · subst a; simp; omega
    · by_cases b : x = 1
      · subst b; simp; omega
      · by_cases c : x = 2
        · subst c; simp; omega
        · rw [if_neg a, if_neg b, if_neg c]; omega
theorem leads (l : List Int) (hl : l.length ≤ 9) : ∃ A B C : Nat, 4 ≤ A ∧ 3 ≤ B ∧ 2 ≤ C ∧ A + B + C ≤ 18 ∧ (2 + ((List.count 0 (0 :: 0 :: 1 :: l) : Nat) : Int)) = A ∧ (2 + ((List.count 1 (0 :: 0 :: 1 :: l) : Nat) : Int)) = B ∧ (2 + ((List.count 2 (0 :: 0 :: 1 :: l) : Nat) : Int)) = C := by
  have h := count3 l
  refine ⟨4 + List.count 0 l, 3 + List.count 1 l, 2 + List.count 2 l, by omega, by omega, by omega, by omega, ?_, ?_, ?_⟩ <;> simp [List.count_cons] <;> omega
end Mine
end

section
open PySem PySem.W PyProof.Rows PySem.Spec PySem.Calls
set_option maxHeartbeats 4000000
namespace Mine
open LCg
theorem ints_3 {vs : List Value} {x0 x1 x2 : Int} (h : IntsAre vs [x0, x1, x2]) : ∃ t0 t1 t2, vs = [.int x0 t0, .int x1 t1, .int x2 t2] := by
  cases h with
  | cons _ t0 h =>
    cases h with
    | cons _ t1 h =>
      cases h with
      | cons _ t2 h =>
        cases h
        exact ⟨t0, t1, t2, rfl⟩
theorem leads_of {ys : List Value} {ns : List Int} (h : IntsAre ys (List.map (fun k' => 2 + ((List.count k' (List.map (fun k' => Int.fmod k' 3) ([0, 0, 1] ++ List.take 9 ns)) : Nat) : Int)) (rangeKs 0 ((3 : Int) - 0).toNat))) :
    ∃ (A B C : Nat) (t0 t1 t2 : Tok), 4 ≤ A ∧ 3 ≤ B ∧ 2 ≤ C ∧ A + B + C ≤ 18 ∧ IntsAre ys [(A : Int), (B : Int), (C : Int)] ∧ ys = [.int (A : Nat) t0, .int (B : Nat) t1, .int (C : Nat) t2] := by
  obtain ⟨A, B, C, hA, hB, hC, hs, e0, e1, e2⟩ := leads (List.map (fun k' => Int.fmod k' 3) (List.take 9 ns)) (by rw [List.length_map, List.length_take]; omega)
  have hr : rangeKs 0 ((3 : Int) - 0).toNat = [0, 1, 2] := by decide
  have hm : List.map (fun k' => Int.fmod k' 3) ([0, 0, 1] ++ List.take 9 ns) = 0 :: 0 :: 1 :: List.map (fun k' => Int.fmod k' 3) (List.take 9 ns) := rfl
  rw [hr, hm] at h
  simp only [List.map_cons, List.map_nil] at h
  rw [e0, e1, e2] at h
  obtain ⟨t0, t1, t2, rfl⟩ := ints_3 h
  exact ⟨A, B, C, t0, t1, t2, hA, hB, hC, hs, h, rfl⟩
def EndsInv (A B C : Nat) (base : List (Addr × Obj)) (t : Nat) (ys : List Value) (nx : List (Addr × Obj)) : Prop :=
  (ys = [] ∧ nx = base ∧ ∀ i j k, i < 3 → j < 3 → k < 3 → 9 * i + 3 * j + k < t → ¬ Good A B C i j k) ∨
  (∃ (e : Addr) (i j k : Nat) (ti tj tk : Tok) (n : Nat), ys = [.ref e] ∧ nx = (e, listOf #[.int (i : Nat) ti, .int (j : Nat) tj, .int (k : Nat) tk] n) :: base ∧ (∀ p ∈ base, p.1 < e) ∧ i < 3 ∧ j < 3 ∧ k < 3 ∧ 9 * i + 3 * j + k < t ∧ Good A B C i j k)
theorem EndsInv.len {A B C : Nat} {base : List (Addr × Obj)} {t : Nat} {ys : List Value} {nx : List (Addr × Obj)} (h : EndsInv A B C base t ys nx) : ys.length ≤ t := by
  rcases h with ⟨rfl, _⟩ | ⟨e, i, j, k, ti, tj, tk, n, rfl, _, _, _, _, _, h, _⟩
  · exact Nat.zero_le _
  · simp; omega
theorem EndsInv.extra {A B C : Nat} {base : List (Addr × Obj)} {t : Nat} {ys : List Value} {nx : List (Addr × Obj)} (h : EndsInv A B C base t ys nx) : ∃ ex, nx = ex ++ base := by
  rcases h with ⟨rfl, rfl, _⟩ | ⟨e, i, j, k, ti, tj, tk, n, rfl, rfl, _⟩
  · exact ⟨[], rfl⟩
  · exact ⟨[_], rfl⟩
theorem EndsInv.no {A B C : Nat} {base : List (Addr × Obj)} {i j k : Nat} {ys : List Value} {nx : List (Addr × Obj)} (h : EndsInv A B C base (9 * i + 3 * j + k) ys nx) (hi : i < 3) (hj : j < 3) (hk : k < 3) (g : ¬ Good A B C i j k) : EndsInv A B C base (9 * i + 3 * j + k + 1) ys nx := by
  rcases h with ⟨rfl, rfl, h⟩ | ⟨e, i', j', k', ti, tj, tk, n, rfl, rfl, lt, a, b, c, d, g'⟩
  · refine .inl ⟨rfl, rfl, fun i' j' k' a b c d g' => ?_⟩
    by_cases hh : 9 * i' + 3 * j' + k' < 9 * i + 3 * j + k
    · exact h i' j' k' a b c hh g'
    · obtain rfl : i' = i := by omega
      obtain rfl : j' = j := by omega
      obtain rfl : k' = k := by omega
      exact g g'
  · exact .inr ⟨e, i', j', k', ti, tj, tk, n, rfl, rfl, lt, a, b, c, by omega, g'⟩
theorem EndsInv.yes {A B C : Nat} {base : List (Addr × Obj)} {i j k : Nat} {ys : List Value} {nx : List (Addr × Obj)} (h : EndsInv A B C base (9 * i + 3 * j + k) ys nx) (hi : i < 3) (hj : j < 3) (hk : k < 3) (g : Good A B C i j k) :
    ys = [] ∧ nx = base ∧ ∀ (e : Addr) (ti tj tk : Tok) (n : Nat), (∀ p ∈ base, p.1 < e) → EndsInv A B C base (9 * i + 3 * j + k + 1) [.ref e] ((e, listOf #[.int (i : Nat) ti, .int (j : Nat) tj, .int (k : Nat) tk] n) :: base) := by
  rcases h with ⟨rfl, rfl, h⟩ | ⟨e, i', j', k', ti, tj, tk, n, rfl, rfl, lt, a, b, c, d, g'⟩
  · exact ⟨rfl, rfl, fun e ti tj tk n lt => .inr ⟨e, i, j, k, ti, tj, tk, n, rfl, rfl, lt, hi, hj, hk, by omega, g⟩⟩
  · obtain ⟨rfl, rfl, rfl⟩ := g.uniq g' hi hj hk a b c
    omega
theorem EndsInv.last {A B C : Nat} {base : List (Addr × Obj)} {ys : List Value} {nx : List (Addr × Obj)} (h : EndsInv A B C base 27 ys nx) :
    ∃ (e : Addr) (i j k : Nat) (ti tj tk : Tok) (n : Nat), ys = [.ref e] ∧ nx = (e, listOf #[.int (i : Nat) ti, .int (j : Nat) tj, .int (k : Nat) tk] n) :: base ∧ (∀ p ∈ base, p.1 < e) ∧ i < 3 ∧ j < 3 ∧ k < 3 ∧ Good A B C i j k := by
  rcases h with ⟨rfl, rfl, h⟩ | ⟨e, i, j, k, ti, tj, tk, n, rfl, rfl, lt, a, b, c, _, g⟩
  · obtain ⟨i, j, k, a, b, c, g⟩ := Good.exists A B C
    exact absurd g (h i j k a b c (by omega))
  · exact ⟨e, i, j, k, ti, tj, tk, n, rfl, rfl, lt, a, b, c, g⟩
section
variable {prog : Program} {w : World} {A' : Around} {E : Value → Shared → Prop} {s : Shared} {h₀ : Heap} {L : Addr} {m : PySem.Str → Option Value} {env : Env} {elt ct i1 i2 : PySem.Expr} {p q r : PySem.Str} {scope : Scope} {cl : List (PySem.Str × Addr)} {Q : Value → Shared → Prop} {nx : List (Addr × Obj)} {ra : Addr} {t u v : Tok}
theorem off1_of {D : Addr} : ∀ {l : List (Addr × Obj)}, Clear D l → Off1 D l
  | [], _ => trivial
  | x :: l, c => ⟨clear_head c, off1_of (clear_tail c)⟩
theorem src3_law (A B C : Nat) (hh : A'.handled = none) (F : Fr h₀ L s.heap m) (N : News h₀ L s.heap nx) (hR : IsRange s.heap ra 0 3 1 t u v) (hr1 : Rng prog w A' h₀ L m env scope cl s i1) (hr2 : Rng prog w A' h₀ L m env scope cl s i2)
    (hturn : Turn prog w A' h₀ L m env scope cl s p q r ct elt (EndsInv A B C nx))
    (hfin : ∀ (D e : Addr) (i j k : Nat) (ti tj tk : Tok) (n : Nat) (h : Heap) (tok : Nat), i < 3 → j < 3 → k < 3 → Good A B C i j k → (∀ p ∈ nx, p.1 < e) → Off1 D ((e, listOf #[.int (i : Nat) ti, .int (j : Nat) tj, .int (k : Nat) tk] n) :: nx) → Fr h₀ L h m →
      News h₀ L h ((D, lst [.ref e]) :: (e, listOf #[.int (i : Nat) ti, .int (j : Nat) tj, .int (k : Nat) tk] n) :: nx) → Q (.ref D) { s with heap := h, toks := tok }) :
    Src3 prog w A' h₀ L m env scope cl p q r i1 i2 ct elt Q (.ref ra) s := by
  refine ⟨EndsInv A B C nx, nx, ra, t, u, v, rfl, hh, F, N, hR, .inl ⟨rfl, rfl, fun i j k _ _ _ h => absurd h (Nat.not_lt_zero _)⟩, fun _ _ _ h => h.len, hr1, hr2, hturn, fun D h tok ys nx' F N c I => ?_⟩
  obtain ⟨e, i, j, k, ti, tj, tk, n, rfl, rfl, lt, a, b, c', g⟩ := I.last
  exact hfin D e i j k ti tj tk n h tok a b c' g lt (off1_of c) F N
theorem tn_no {A B C i j k : Nat} {fixed ex base all : List (Addr × Obj)} {ys : List Value} {h : Heap} {tok : Nat} (I : EndsInv A B C base (9 * i + 3 * j + k) ys (ex ++ base)) (hi : i < 3) (hj : j < 3) (hk : k < 3) (g : ¬ Good A B C i j k)
    (cl : ∀ f ∈ fixed, Clear f.1 (ex ++ base)) (F : Fr h₀ L h m) (N : News h₀ L h all) (sub : ∀ p ∈ fixed ++ (base ++ ex), p ∈ all) :
    TnEnd h₀ L m s fixed (fun _ nx' => EndsInv A B C base (9 * i + 3 * j + k + 1) ys nx') .none { s with heap := h, toks := tok } := by
  refine ⟨h, tok, ex ++ base, rfl, F, fun p hp => N p (sub p ?_), cl, I.no hi hj hk g⟩
  rcases List.mem_append.mp hp with hp | hp
  · exact List.mem_append.mpr (.inl hp)
  · rcases List.mem_append.mp hp with hp | hp
    · exact List.mem_append.mpr (.inr (List.mem_append.mpr (.inr hp)))
    · exact List.mem_append.mpr (.inr (List.mem_append.mpr (.inl hp)))
theorem tn_yes {A B C i j k n : Nat} {e : Addr} {ti tj tk : Tok} {fixed ex base all : List (Addr × Obj)} {ys : List Value} {h : Heap} {tok : Nat} (I : EndsInv A B C base (9 * i + 3 * j + k) ys (ex ++ base)) (hi : i < 3) (hj : j < 3) (hk : k < 3) (g : Good A B C i j k)
    (cl : ∀ f ∈ fixed, Clear f.1 (ex ++ base)) (F : Fr h₀ L h m) (N : News h₀ L h all) (sub : ∀ p ∈ (e, listOf #[.int (i : Nat) ti, .int (j : Nat) tj, .int (k : Nat) tk] n) :: (fixed ++ base), p ∈ all) (lt : ∀ p ∈ fixed ++ base, p.1 < e) :
    TnEnd h₀ L m s fixed (fun y nx' => EndsInv A B C base (9 * i + 3 * j + k + 1) (ys ++ [y]) nx') (.ref e) { s with heap := h, toks := tok } := by
  obtain ⟨rfl, hx, hI⟩ := I.yes hi hj hk g
  refine ⟨h, tok, (e, listOf #[.int (i : Nat) ti, .int (j : Nat) tj, .int (k : Nat) tk] n) :: base, rfl, F, fun p hp => N p (sub p ?_), fun f hf => ?_, hI e ti tj tk n fun p hp => lt p (List.mem_append.mpr (.inr hp))⟩
  · rcases List.mem_append.mp hp with hp | hp
    · exact .tail _ (List.mem_append.mpr (.inl hp))
    · rcases List.mem_cons.mp hp with rfl | hp
      · exact .head _
      · exact .tail _ (List.mem_append.mpr (.inr hp))
  · rw [hx] at cl
    exact clear_cons (Ne.symm (Nat.ne_of_lt (lt f (List.mem_append.mpr (.inl hf))))) (cl f hf)
theorem tn_yes' {A B C i j k n : Nat} {e : Addr} {ti tj tk : Tok} {x : Addr × Obj} {fixed ex base : List (Addr × Obj)} {ys : List Value} {h : Heap} {tok : Nat} (I : EndsInv A B C base (9 * i + 3 * j + k) ys (ex ++ base)) (hi : i < 3) (hj : j < 3) (hk : k < 3) (g : Good A B C i j k)
    (cl : ∀ f ∈ fixed, Clear f.1 (ex ++ base)) (F : Fr h₀ L h m) (N : News h₀ L h ((e, listOf #[.int (i : Nat) ti, .int (j : Nat) tj, .int (k : Nat) tk] n) :: x :: (fixed ++ (base ++ ex)))) (lt : ∀ p ∈ fixed ++ base, p.1 < e) :
    TnEnd h₀ L m s fixed (fun y nx' => EndsInv A B C base (9 * i + 3 * j + k + 1) (ys ++ [y]) nx') (.ref e) { s with heap := h, toks := tok } :=
  tn_yes I hi hj hk g cl F N (fun p hp => by
    rcases List.mem_cons.mp hp with rfl | hp
    · exact .head _
    · refine .tail _ (.tail _ ?_)
      rcases List.mem_append.mp hp with hp | hp
      · exact List.mem_append.mpr (.inl hp)
      · exact List.mem_append.mpr (.inr (List.mem_append.mpr (.inl hp)))) lt
theorem fm4 {x : Int} : Int.fmod x 4 = 0 ↔ x % 4 = 0 := by rw [Int.fmod_eq_emod_of_nonneg _ (by decide)]
def Max3' (v a b c : Int) : Prop := (v = a ∨ v = b ∨ v = c) ∧ a ≤ v ∧ b ≤ v ∧ c ≤ v
theorem cnt3 {i j k : Nat} : ((List.count (0 : Int) [(i : Int), (j : Int), (k : Int)] : Nat) : Int) < 2 ↔ ((0 < i ∧ 0 < j) ∨ (0 < i ∧ 0 < k) ∨ (0 < j ∧ 0 < k)) := by
  simp only [List.count_cons, List.count_nil, beq_iff_eq]
  by_cases a : (i : Int) = 0 <;> by_cases b : (j : Int) = 0 <;> by_cases c : (k : Int) = 0 <;> simp only [a, b, c, if_true, if_false] <;> omega
theorem good_of {A B C i j k : Nat} {v : Int} (hi : i < 3) (hj : j < 3) (hk : k < 3) (hm : Max3' v i j k) (h2 : v = 2) (hz : ((List.count (0 : Int) [(i : Int), (j : Int), (k : Int)] : Nat) : Int) < 2) (e1 : Int.fmod ((i : Int) - j - A + B) 4 = 0) (e2 : Int.fmod ((j : Int) - k - B + C) 4 = 0) : Good A B C i j k :=
  ⟨by obtain ⟨a, _⟩ := hm; omega, cnt3.mp hz, fm4.mp e1, fm4.mp e2⟩
theorem bad1 {A B C i j k : Nat} {v : Int} (hi : i < 3) (hj : j < 3) (hk : k < 3) (hm : Max3' v i j k) (h2 : v ≠ 2) : ¬ Good A B C i j k := fun g => by
  obtain ⟨a, _, _, _⟩ := g
  obtain ⟨b, c, d, e⟩ := hm
  have hlo : 2 ≤ v := by
    rcases a with x | x | x
    · rw [x] at c; exact c
    · rw [x] at d; exact d
    · rw [x] at e; exact e
  have hhi : v ≤ 2 := by
    clear a c d e hlo h2
    rcases b with x | x | x
    · clear hj hk; omega
    · clear hi hk; omega
    · clear hi hj; omega
  exact h2 (Int.le_antisymm hhi hlo)
theorem bad2 {A B C i j k : Nat} (hz : ¬ ((List.count (0 : Int) [(i : Int), (j : Int), (k : Int)] : Nat) : Int) < 2) : ¬ Good A B C i j k := fun g => hz (cnt3.mpr g.2.1)
theorem bad3 {A B C i j k : Nat} (e1 : Int.fmod ((i : Int) - j - A + B) 4 ≠ 0) : ¬ Good A B C i j k := fun g => e1 (fm4.mpr g.2.2.1)
theorem bad4 {A B C i j k : Nat} (e1 : Int.fmod ((j : Int) - k - B + C) 4 ≠ 0) : ¬ Good A B C i j k := fun g => e1 (fm4.mpr g.2.2.2)
theorem news_rot {h : Heap} {fixed ex base : List (Addr × Obj)} (N : News h₀ L h (fixed ++ (ex ++ base))) : News h₀ L h (fixed ++ (base ++ ex)) := fun p hp => N p (by
  rcases List.mem_append.mp hp with hp | hp
  · exact List.mem_append.mpr (.inl hp)
  · rcases List.mem_append.mp hp with hp | hp
    · exact List.mem_append.mpr (.inr (List.mem_append.mpr (.inr hp)))
    · exact List.mem_append.mpr (.inr (List.mem_append.mpr (.inl hp))))
end
end Mine
end

section
open PySem PySem.W PyProof.Rows PySem.Spec PySem.Calls
set_option maxHeartbeats 4000000
namespace Mine
section
variable {prog : Program} {w : World} {A' : Around} {E : Value → Shared → Prop} {s : Shared} {h₀ : Heap} {L : Addr} {m : PySem.Str → Option Value} {Q : Value → Shared → Prop} {news : List (Addr × Obj)}
def Max3 (v a b c : Int) : Prop := (v = a ∨ v = b ∨ v = c) ∧ a ≤ v ∧ b ≤ v ∧ c ≤ v
theorem max3_K {a b c : Int} {t u x : Tok} (F : Fr h₀ L s.heap m) (N : News h₀ L s.heap news) (hh : A'.handled = none)
    (h : ∀ v t h' tk', Max3 v a b c → Fr h₀ L h' m → News h₀ L h' news → Q (.int v t) { s with heap := h', toks := tk' }) :
    wpAny (model prog w) A' (call (.builtin "max") [.int a t, .int b u, .int c x]) Q E s := by
  refine max_three_ints hh fun h' tk hk => ?_
  have key := fun v tok (q : Max3 v a b c) => h v tok h' tk q (F.keeps hk) (N.grown hk)
  by_cases hba : b > a <;> by_cases hc1 : c > b <;> by_cases hc2 : c > a <;> simp only [hba, hc1, hc2, if_true, if_false] <;> exact key _ _ (by unfold Max3; omega)
theorem sum_KL {l : Addr} {vs : List Value} {ns : List Int} {y : Int} (F : Fr h₀ L s.heap m) (N : News h₀ L s.heap news) (hh : A'.handled = none) (hm : (l, LCg.lst vs) ∈ news) (hi : IntsAre vs ns) (hy : ns.sum = y)
    (h : ∀ t h' tk', Fr h₀ L h' m → News h₀ L h' news → Q (.int y t) { s with heap := h', toks := tk' }) :
    wpAny (model prog w) A' (call (.builtin "sum") [.ref l]) Q E s := by
  subst hy
  exact LSm.sum_ints F N hh ⟨_, (N _ hm).1, rfl, _, rfl⟩ hi fun h' tk t' F' N' => h t' h' tk F' N'
theorem news_hide {h : Heap} {D : Addr} {x0 x1 x2 y0 y1 y2 : Int} {t0 t1 t2 : Tok} {nx : List (Addr × Obj)} (N : News h₀ L h ((D, LCg.lst [.int x0 t0, .int x1 t1, .int x2 t2]) :: nx)) (e0 : x0 = y0) (e1 : x1 = y1) (e2 : x2 = y2) :
    ∃ vl : List Value, IntsAre vl [y0, y1, y2] ∧ News h₀ L h ((D, LCg.lst vl) :: nx) := by
  subst e0 e1 e2
  exact ⟨_, .cons _ _ (.cons _ _ (.cons _ _ .nil)), N⟩
end
end Mine
end

section
open PySem PySem.W PyProof.Rows
set_option maxRecDepth 100000
set_option maxHeartbeats 8000000
namespace Mine
section
variable {w : World} {base h₀ : Heap} {A₀ : Around} {outer : List Env} {L : Addr} {m : PySem.Str → Option Value} {s : Shared} {news : List (Addr × Obj)} {cs : Scope} {mean : ExcName → Option Value} {mg mb : PySem.Str → Option Value} {dp un : Nat}
   {gd : Option (List Code)} {cn : PySem.Str} {a : Addr} {ccd : Value} {cl : List (PySem.Str × Addr)} {Q E : Value → Shared → Prop}
theorem settle_due (B : Below A₀ base outer h₀) (F : Fr h₀ L s.heap m) (X : (hd.heap_39 w.params).In h₀) (N : News h₀ L s.heap news) (T : Top hd.view_39 LO mean mg mb h₀) (hk : cs.kind = .function) (hdp : dp + 12 < recursionLimit)
   {A1 B1 C1 Z p q r u0 u1 u2 : Nat} {p0 : PySem.Str} {t1 : Tok} {l : Addr} {vs : List Value} {ns : List Int} {nn : Nat} (W0 : PgIs p0 A1 B1 C1 Z) (hm : (l, listOf vs.toArray nn) ∈ news) (hi : IntsAre vs ns) (hns : ∀ n ∈ ns, 0 ≤ n ∧ n ≤ 2) (h0 : (0 : Int) ∈ ns) (h1 : (1 : Int) ∈ ns) (h2 : (2 : Int) ∈ ns)
   (hsum : A1 + B1 + C1 + Z ≤ 50) (D : Due A1 B1 C1 Z p q r u0 u1 u2)
   (hret : ∀ (pg : PySem.Str) (tp fl : Addr) (u t0 t1 t2 : Tok) (n : Nat) (h' : Heap) (tk' : Nat), PgIs pg p q r (Z + u0 + u1 + u2) → Fr h₀ L h' m →
      News h₀ L h' ((tp, tupObj #[.str pg u, .ref fl]) :: (fl, listOf #[.int u0 t0, .int u1 t1, .int u2 t2] n) :: news) → Q (.ref tp) { s with heap := h', toks := tk' }) :
   wpAny (model PySem.Challenge.rw_wb0015_01.row.prog w) (ktrTop dp un gd cn cs L a ccd cl outer) (call (.ref 70) [.str p0 t1, .ref l]) Q E s := by
  refine settle_ok B F X N T hk hdp W0 hm hi hns h0 h1 h2 hsum D.hu ?_
  intro pg f0 f1 f2 a b c z tp fl u t0 t1 t2 n h' tk' W S ha hb hc F' N'
  obtain ⟨rfl, rfl, rfl, rfl, rfl, rfl, rfl⟩ := D.end S ha hb hc
  exact hret pg tp fl u t0 t1 t2 n h' tk' W F' N'
end
end Mine
end

section
open PySem PySem.W PyProof.Rows PyProof.V PySem.Spec PySem.Calls
set_option maxRecDepth 100000
set_option maxHeartbeats 8000000
namespace Mine
/-- an order that sweeps every row -/
structure Ord3 (ns : List Int) : Prop where
  small : ∀ n ∈ ns, 0 ≤ n ∧ n ≤ 2
  h0 : (0 : Int) ∈ ns
  h1 : (1 : Int) ∈ ns
  h2 : (2 : Int) ∈ ns
theorem ord_up : Ord3 [0, 1, 2] := ⟨by decide, by decide, by decide, by decide⟩
theorem ord_down : Ord3 [2, 1, 0] := ⟨by decide, by decide, by decide, by decide⟩
theorem ord_mod (l : List Int) : Ord3 (List.map (fun k' => Int.fmod k' 3) l ++ [2, 1, 0]) := by
  refine ⟨fun n hn => ?_, by simp, by simp, by simp⟩
  rcases List.mem_append.mp hn with hn | hn
  · obtain ⟨x, _, rfl⟩ := List.mem_map.mp hn
    rw [Int.fmod_eq_emod_of_nonneg _ (by decide)]
    omega
  · exact ord_down.small n hn
section
variable {w : World} {base h₀ : Heap} {A₀ : Around} {outer : List Env} {L : Addr} {m : PySem.Str → Option Value} {s : Shared} {news : List (Addr × Obj)} {cs : Scope} {mean : ExcName → Option Value} {mg mb : PySem.Str → Option Value} {dp un : Nat}
   {gd : Option (List Code)} {cn : PySem.Str} {a : Addr} {ccd : Value} {cl : List (PySem.Str × Addr)} {Q E : Value → Shared → Prop}
theorem settle_ord (B : Below A₀ base outer h₀) (F : Fr h₀ L s.heap m) (X : (hd.heap_39 w.params).In h₀) (N : News h₀ L s.heap news) (T : Top hd.view_39 LO mean mg mb h₀) (hk : cs.kind = .function) (hdp : dp + 12 < recursionLimit)
   {A1 B1 C1 Z p q r u0 u1 u2 : Nat} {p0 : PySem.Str} {t1 : Tok} {l : Addr} {vs : List Value} {ns : List Int} {nn : Nat} (W0 : PgIs p0 A1 B1 C1 Z) (hm : (l, listOf vs.toArray nn) ∈ news) (hi : IntsAre vs ns) (O : Ord3 ns)
   (hsum : A1 + B1 + C1 + Z ≤ 50) (D : Due A1 B1 C1 Z p q r u0 u1 u2)
   (hret : ∀ (pg : PySem.Str) (tp fl : Addr) (u t0 t1 t2 : Tok) (n : Nat) (h' : Heap) (tk' : Nat), PgIs pg p q r (Z + u0 + u1 + u2) → Fr h₀ L h' m →
      News h₀ L h' ((tp, tupObj #[.str pg u, .ref fl]) :: (fl, listOf #[.int u0 t0, .int u1 t1, .int u2 t2] n) :: news) → Q (.ref tp) { s with heap := h', toks := tk' }) :
   wpAny (model PySem.Challenge.rw_wb0015_01.row.prog w) (ktrTop dp un gd cn cs L a ccd cl outer) (call (.ref 70) [.str p0 t1, .ref l]) Q E s :=
  settle_due B F X N T hk hdp W0 hm hi O.small O.h0 O.h1 O.h2 hsum D hret
end
section
variable {prog : Program} {w : World} {A : Around} {E : Value → Shared → Prop} {s : Shared} {h₀ : Heap} {L : Addr} {a b la lb : Addr} {oa ob ola olb : Obj} {news : List (Addr × Obj)} {Q : Value → Shared → Prop}
theorem pages_read {h : Heap} {pg : PySem.Str} {ta t0 t1 t2 : Tok} {x0 x1 x2 : Int} {ka n : Nat} (N : News h₀ L h news) (ha : (a, oa) ∈ news) (hla : (la, ola) ∈ news) (ca : oa.cls = .type "tuple") (da : oa.data = .seq #[.str pg ta, .ref la] ka)
    (cla : ola.cls = .type "list") (dla : ola.data = .seq #[.int x0 t0, .int x1 t1, .int x2 t2] n) : Reads h (.ref a) (.tuple [.str pg, .list [.int x0, .int x1, .int x2]]) [la] :=
  reads_tuple_at (N _ ha).1 ca da (readsAll_cons_val (.str _ _) (ReadsAll.cons (reads_list_at (N _ hla).1 cla dla (readsAll_cons_val (.int _ _) (readsAll_cons_val (.int _ _) (readsAll_cons_val (.int _ _) .nil)))) .nil))
theorem page_ok {pg : PySem.Str} {p q r z : Nat} (W : PgIs pg p q r z) : PyData.strOk pg = true := by
  unfold PyData.strOk
  rw [W.out, ← Array.all_toList, List.all_eq_true]
  intro x hx
  unfold page4 at hx
  rw [join_cps] at hx
  have hx' : x ∈ (List.replicate p 32 ++ [97]) ++ 10 :: ((List.replicate q 32 ++ [98]) ++ 10 :: ((List.replicate r 32 ++ [99]) ++ 10 :: (List.replicate z 32 ++ [122]))) := hx
  simp only [List.mem_append, List.mem_cons, List.mem_replicate, List.not_mem_nil, or_false] at hx'
  have : x < 0x110000 := by omega
  simpa using this
theorem pages_shaped {pg : PySem.Str} (x0 x1 x2 : Int) {p q r z : Nat} (W : PgIs pg p q r z) : SeqAt.shaped (.tuple [.str pg, .list [.int x0, .int x1, .int x2]]) = true := by
  simp [SeqAt.shaped, PyData.canLay0, PyData.canLayAll0, PyData.depth, PyData.depthAll, page_ok W]
theorem pages_eqv (pg : PySem.Str) (x0 x1 x2 : Int) : PyData.eqv (.tuple [.str pg, .list [.int x0, .int x1, .int x2]]) (.tuple [.str pg, .list [.int x0, .int x1, .int x2]]) = true := by
  simp [PyData.eqv, PyData.eqvAll]
theorem pages_ne {pg pg' : PySem.Str} {ta tb t0 t1 t2 v0 v1 v2 : Tok} {x0 x1 x2 y0 y1 y2 : Int} {p q r z p' q' r' z' : Nat} {ka kb n n' : Nat} (N : News h₀ L s.heap news) (ha : (a, oa) ∈ news) (hb : (b, ob) ∈ news) (ca : oa.cls = .type "tuple") (cb : ob.cls = .type "tuple")
    (da : oa.data = .seq #[.str pg ta, .ref la] ka) (db : ob.data = .seq #[.str pg' tb, .ref lb] kb) (hla : (la, ola) ∈ news) (hlb : (lb, olb) ∈ news) (cla : ola.cls = .type "list") (clb : olb.cls = .type "list")
    (dla : ola.data = .seq #[.int x0 t0, .int x1 t1, .int x2 t2] n) (dlb : olb.data = .seq #[.int y0 v0, .int y1 v1, .int y2 v2] n') (e0 : x0 = y0) (e1 : x1 = y1) (e2 : x2 = y2) (W : PgIs pg p q r z) (W' : PgIs pg' p' q' r' z') (ep : p = p' ∧ q = q' ∧ r = r' ∧ z = z') (hu : A.units + 64 < cLine) (h : Q (.bool false) s) :
    wpAny (model prog w) A (compareOp .NotEq (.ref a) (.ref b)) Q E s := by
  obtain ⟨rfl, rfl, rfl, rfl⟩ := ep
  obtain rfl : pg = pg' := W.out.trans W'.out.symm
  subst e0 e1 e2
  refine ne_dataH (pages_read N ha hla ca da cla dla) (pages_read N hb hlb cb db clb dlb) (pages_shaped _ _ _ W) (pages_shaped _ _ _ W) hu ?_
  rw [pages_eqv]
  exact h
theorem pages_eq {pg pg' : PySem.Str} {ta tb t0 t1 t2 v0 v1 v2 : Tok} {x0 x1 x2 y0 y1 y2 : Int} {p q r z p' q' r' z' : Nat} {ka kb n n' : Nat} (N : News h₀ L s.heap news) (ha : (a, oa) ∈ news) (hb : (b, ob) ∈ news) (ca : oa.cls = .type "tuple") (cb : ob.cls = .type "tuple")
    (da : oa.data = .seq #[.str pg ta, .ref la] ka) (db : ob.data = .seq #[.str pg' tb, .ref lb] kb) (hla : (la, ola) ∈ news) (hlb : (lb, olb) ∈ news) (cla : ola.cls = .type "list") (clb : olb.cls = .type "list")
    (dla : ola.data = .seq #[.int x0 t0, .int x1 t1, .int x2 t2] n) (dlb : olb.data = .seq #[.int y0 v0, .int y1 v1, .int y2 v2] n') (e0 : x0 = y0) (e1 : x1 = y1) (e2 : x2 = y2) (W : PgIs pg p q r z) (W' : PgIs pg' p' q' r' z') (ep : p = p' ∧ q = q' ∧ r = r' ∧ z = z') (hu : A.units + 64 < cLine) (h : Q (.bool true) s) :
    wpAny (model prog w) A (compareOp .Eq (.ref a) (.ref b)) Q E s := by
  obtain ⟨rfl, rfl, rfl, rfl⟩ := ep
  obtain rfl : pg = pg' := W.out.trans W'.out.symm
  subst e0 e1 e2
  refine eq_dataH (pages_read N ha hla ca da cla dla) (pages_read N hb hlb cb db clb dlb) (pages_shaped _ _ _ W) (pages_shaped _ _ _ W) hu ?_
  rw [pages_eqv]
  exact h
end
theorem news_drop2 {h₀ h : Heap} {L : Addr} {a b : Addr} {vs : Array Value} {ws : Array Value} {n : Nat} {nx : List (Addr × Obj)} (N : News h₀ L h ((a, tupObj vs) :: (b, listOf ws n) :: nx)) : News h₀ L h nx := fun p hp => N p (.tail _ (.tail _ hp))
end Mine
end

section
open PySem PySem.W PyProof.Rows PyProof.V PySem.Spec PySem.Calls
set_option maxRecDepth 100000
set_option maxHeartbeats 8000000
namespace Mine
theorem calm_of (x : Int) : ∃ c0 c1 c2 : Nat, c0 < 3 ∧ c1 < 3 ∧ c2 < 3 ∧ Int.fmod (Int.fmod x 27) 3 = c0 ∧ Int.fmod (Int.fdiv (Int.fmod x 27) 3) 3 = c1 ∧ Int.fdiv (Int.fmod x 27) 9 = c2 := by
  rw [Int.fmod_eq_emod_of_nonneg x (by decide)]
  have h0 : 0 ≤ x % 27 := Int.emod_nonneg _ (by decide)
  have h1 : x % 27 < 27 := Int.emod_lt_of_pos _ (by decide)
  generalize x % 27 = k at h0 h1
  rw [Int.fmod_eq_emod_of_nonneg _ (by decide), Int.fmod_eq_emod_of_nonneg _ (by decide), Int.fdiv_eq_ediv_of_nonneg _ (by decide), Int.fdiv_eq_ediv_of_nonneg _ (by decide)]
  exact ⟨(k % 3).toNat, (k / 3 % 3).toNat, (k / 9).toNat, by omega, by omega, by omega, by omega, by omega, by omega⟩
section
variable {h₀ h : Heap} {L D : Addr} {nx : List (Addr × Obj)}
theorem news_calm (k j : Nat) {x : Int} {t0 t1 t2 : Tok} {n : Nat} (N : News h₀ L h ((D, listOf #[.int (Int.fmod (Int.fmod x 27) 3) t0, .int (Int.fmod (Int.fdiv (Int.fmod x 27) 3) 3) t1, .int (Int.fdiv (Int.fmod x 27) 9) t2] n) :: nx)) :
    ∃ (c0 c1 c2 : Nat) (t0 t1 t2 : Tok), c0 < 3 ∧ c1 < 3 ∧ c2 < 3 ∧ News h₀ L h ((D, listOf #[.int (c0 : Nat) t0, .int (c1 : Nat) t1, .int (c2 : Nat) t2] n) :: (nx.drop k).take j) := by
  obtain ⟨c0, c1, c2, h0, h1, h2, e0, e1, e2⟩ := calm_of x
  rw [e0, e1, e2] at N
  refine ⟨c0, c1, c2, t0, t1, t2, h0, h1, h2, fun p hp => N p ?_⟩
  rcases List.mem_cons.mp hp with rfl | hp
  · exact .head _
  · exact .tail _ (List.mem_of_mem_drop (List.mem_of_mem_take hp))
end
end Mine
end

section
open PySem PySem.W PyProof.Rows PyProof.V PySem.Spec PySem.Calls
set_option maxRecDepth 100000
set_option maxHeartbeats 8000000
namespace Mine
/-- row k burns -/
def Brn (c0 c1 c2 : Nat) (k : Int) : Prop := (c0 = 2 ∨ c1 = 2 ∨ c2 = 2) ∧ (((0 < c0 ∧ 0 < c1) ∨ (0 < c0 ∧ 0 < c2) ∨ (0 < c1 ∧ 0 < c2)) ∨ (k = 0 ∧ c0 = 2) ∨ (k = 1 ∧ c1 = 2) ∨ (k = 2 ∧ c2 = 2))
def brnDec (c0 c1 c2 : Nat) (k : Int) : Decidable (Brn c0 c1 c2 k) := by unfold Brn; infer_instance
def brnG (c0 c1 c2 : Nat) (l : List Int) (k : Int) : List Int := @ite (List Int) (Brn c0 c1 c2 k) (brnDec c0 c1 c2 k) (l ++ [k]) l
theorem brn_grows (c0 c1 c2 : Nat) : KPfGrows (brnG c0 c1 c2) := fun l k => by
  unfold brnG
  split <;> simp
theorem brn_yes {c0 c1 c2 : Nat} {l : List Int} {k : Int} {t : Tok} {news : List (Addr × Obj)} (h : Brn c0 c1 c2 k) : KCiEl news l (brnG c0 c1 c2 l k) (.int k t) news := ⟨rfl, k, t, rfl, by unfold brnG; rw [if_pos h]⟩
theorem brn_no {c0 c1 c2 : Nat} {l : List Int} {k : Int} {news : List (Addr × Obj)} (h : ¬ Brn c0 c1 c2 k) : KCiNo news l (brnG c0 c1 c2 l k) news := ⟨rfl, by unfold brnG; rw [if_neg h]⟩
theorem brn_one : ∀ c0 c1 c2 : Fin 3, (c0.val = 2 ∨ c1.val = 2 ∨ c2.val = 2) → ¬ ((0 < c0.val ∧ 0 < c1.val) ∨ (0 < c0.val ∧ 0 < c2.val) ∨ (0 < c1.val ∧ 0 < c2.val)) → (c0.val = 2 ∧ c1.val = 0 ∧ c2.val = 0) ∨ (c0.val = 0 ∧ c1.val = 2 ∧ c2.val = 0) ∨ (c0.val = 0 ∧ c1.val = 0 ∧ c2.val = 2) := by decide +kernel
theorem brn_due {c0 c1 c2 : Nat} (h0 : c0 < 3) (h1 : c1 < 3) (h2 : c2 < 3) {ys : List Value} (hI : IntsAre ys ((rangeKs 0 3).foldl (brnG c0 c1 c2) [])) :
    ∃ (bs : List Int) (nB v0 v1 v2 p q r : Nat), IntsAre ys bs ∧ ys.length = nB ∧ bs.length = nB ∧ nB ≤ 3 ∧ List.count 0 bs = v0 ∧ List.count 1 bs = v1 ∧ List.count 2 bs = v2 ∧ nB = v0 + v1 + v2 ∧ (p : Int) = c0 + 1 + nB - 4 * v0 ∧ (q : Int) = c1 + 1 + nB - 4 * v1 ∧ (r : Int) = c2 + 1 + nB - 4 * v2 ∧ p ≤ 3 ∧ q ≤ 3 ∧ r ≤ 3 ∧ Due (c0 + 1) (c1 + 1) (c2 + 1) 0 p q r v0 v1 v2 := by
  have hr : rangeKs 0 3 = [0, 1, 2] := by decide
  rw [hr] at hI
  simp only [List.foldl_cons, List.foldl_nil, brnG] at hI
  have hl := hI.length
  by_cases hm : c0 = 2 ∨ c1 = 2 ∨ c2 = 2
  · by_cases hz : (0 < c0 ∧ 0 < c1) ∨ (0 < c0 ∧ 0 < c2) ∨ (0 < c1 ∧ 0 < c2)
    · have b0 : Brn c0 c1 c2 0 := by unfold Brn; exact ⟨hm, .inl hz⟩
      have b1 : Brn c0 c1 c2 1 := by unfold Brn; exact ⟨hm, .inl hz⟩
      have b2 : Brn c0 c1 c2 2 := by unfold Brn; exact ⟨hm, .inl hz⟩
      simp only [if_pos b0, if_pos b1, if_pos b2] at hI hl
      exact ⟨_, 3, 1, 1, 1, c0, c1, c2, hI, hl, rfl, by omega, by decide, by decide, by decide, rfl, by omega, by omega, by omega, by omega, by omega, by omega, Due.all h0 h1 h2 hm hz⟩
    · have hcase : (c0 = 2 ∧ c1 = 0 ∧ c2 = 0) ∨ (c0 = 0 ∧ c1 = 2 ∧ c2 = 0) ∨ (c0 = 0 ∧ c1 = 0 ∧ c2 = 2) := brn_one ⟨c0, h0⟩ ⟨c1, h1⟩ ⟨c2, h2⟩ hm hz
      rcases hcase with ⟨rfl, rfl, rfl⟩ | ⟨rfl, rfl, rfl⟩ | ⟨rfl, rfl, rfl⟩
      · have b0 : Brn 2 0 0 0 := by unfold Brn; decide
        have b1 : ¬ Brn 2 0 0 1 := by unfold Brn; decide
        have b2 : ¬ Brn 2 0 0 2 := by unfold Brn; decide
        simp only [if_pos b0, if_neg b1, if_neg b2] at hI hl
        exact ⟨_, 1, 1, 0, 0, 0, 2, 2, hI, hl, rfl, by omega, by decide, by decide, by decide, rfl, by omega, by omega, by omega, by omega, by omega, by omega, Due.one0⟩
      · have b0 : ¬ Brn 0 2 0 0 := by unfold Brn; decide
        have b1 : Brn 0 2 0 1 := by unfold Brn; decide
        have b2 : ¬ Brn 0 2 0 2 := by unfold Brn; decide
        simp only [if_neg b0, if_pos b1, if_neg b2] at hI hl
        exact ⟨_, 1, 0, 1, 0, 2, 0, 2, hI, hl, rfl, by omega, by decide, by decide, by decide, rfl, by omega, by omega, by omega, by omega, by omega, by omega, Due.one1⟩
      · have b0 : ¬ Brn 0 0 2 0 := by unfold Brn; decide
        have b1 : ¬ Brn 0 0 2 1 := by unfold Brn; decide
        have b2 : Brn 0 0 2 2 := by unfold Brn; decide
        simp only [if_neg b0, if_neg b1, if_pos b2] at hI hl
        exact ⟨_, 1, 0, 0, 1, 2, 2, 0, hI, hl, rfl, by omega, by decide, by decide, by decide, rfl, by omega, by omega, by omega, by omega, by omega, by omega, Due.one2⟩
  · have b0 : ¬ Brn c0 c1 c2 0 := fun b => hm (by unfold Brn at b; exact b.1)
    have b1 : ¬ Brn c0 c1 c2 1 := fun b => hm (by unfold Brn at b; exact b.1)
    have b2 : ¬ Brn c0 c1 c2 2 := fun b => hm (by unfold Brn at b; exact b.1)
    simp only [if_neg b0, if_neg b1, if_neg b2] at hI hl
    exact ⟨_, 0, 0, 0, 0, c0 + 1, c1 + 1, c2 + 1, hI, hl, rfl, by omega, by decide, by decide, by decide, rfl, by omega, by omega, by omega, by omega, by omega, by omega, Due.none (by omega) (by omega) (by omega)⟩
end Mine
end

section
open PySem PySem.W PyProof.Rows PyProof.V PySem.Spec PySem.Calls
set_option maxRecDepth 100000
set_option maxHeartbeats 8000000
namespace Mine
/-- one of three ints -/
def sel3 (a b c k : Int) : Int := if k = 0 then a else if k = 1 then b else c
section
variable {w : World} {h₀ : Heap} {L : Addr} {s : Shared} {E : Value → Shared → Prop} {news : List (Addr × Obj)}
theorem item3_K {prog : Program} {A : Around} {l : Addr} {a b c k : Int} {ta tb tc : Tok} {n : Nat} {u : Tok} {value slice : PySem.Expr} {Q : Value → Shared → Prop} (N : News h₀ L s.heap news) (hm : (l, listOf #[.int a ta, .int b tb, .int c tc] n) ∈ news) (h0 : 0 ≤ k) (h1 : k < 0 + ((Int.toNat (3 - 0) : Nat) : Int)) (h : ∀ t, Q (.int (sel3 a b c k) t) s)
    (hs : subscripted slice false (.ref l) (.int k u) = operate [.ref l, .int k u] (getItem (.ref l) (.int k u)) := by with_unfolding_all rfl) :
    wpAny (model prog w) A (subscriptTail value slice (.ref l) (.int k u)) Q E s := by
  have h1' : k < 3 := h1
  have hk : k = 0 ∨ k = 1 ∨ k = 2 := by omega
  rcases hk with rfl | rfl | rfl
  · exact item_K (vs := [_, _, _]) N hm (by decide) (by decide) rfl (h ta) hs
  · exact item_K (vs := [_, _, _]) N hm (by decide) (by decide) rfl (h tb) hs
  · exact item_K (vs := [_, _, _]) N hm (by decide) (by decide) rfl (h tc) hs
end
end Mine
end

section
open PySem PySem.W PyProof.Rows PyProof.V PySem.Spec PySem.Calls
set_option maxRecDepth 100000
set_option maxHeartbeats 8000000
namespace Mine
theorem ind_page3 (a b c : Nat) : IndIs (page3 a b c) (page3 (a + 1) (b + 1) (c + 1)) := by
  refine ⟨?_⟩
  unfold page3
  rw [out_join]
  · simp only [List.map_cons, List.map_nil, addB_row]
  · intro r hr
    simp only [List.mem_cons, List.not_mem_nil, or_false] at hr
    rcases hr with rfl | rfl | rfl
    · exact row_free _ _ (by decide)
    · exact row_free _ _ (by decide)
    · exact row_free _ _ (by decide)
theorem len_page3 {a b c : Nat} (ha : a ≤ 50) (hb : b ≤ 50) (hc : c ≤ 50) : (page3 a b c).length ≤ 100000 := by
  have h : (page3 a b c).length = (page3 a b c).cps.toList.length := by simp [PySem.Str.length]
  rw [h]
  unfold page3
  rw [join_cps]
  show ((List.replicate a 32 ++ [97]) ++ 10 :: ((List.replicate b 32 ++ [98]) ++ 10 :: (List.replicate c 32 ++ [99]))).length ≤ 100000
  simp only [List.length_append, List.length_cons, List.length_replicate, List.length_nil]
  omega
theorem app_page3 (a b c : Nat) : AppIs (page3 a b c) (PySem.Str.ofString "\nz") (page4 a b c 0) := by
  refine ⟨?_⟩
  have hz : PySem.Str.ofString "\nz" = ⟨#[10, 122]⟩ := by decide +kernel
  rw [hz]
  apply str_ext
  rw [str_app]
  unfold page3 page4
  rw [join_cps, join_cps]
  show ((List.replicate a 32 ++ [97]) ++ 10 :: ((List.replicate b 32 ++ [98]) ++ 10 :: (List.replicate c 32 ++ [99]))) ++ [10, 122] = (List.replicate a 32 ++ [97]) ++ 10 :: ((List.replicate b 32 ++ [98]) ++ 10 :: ((List.replicate c 32 ++ [99]) ++ 10 :: (List.replicate 0 32 ++ [122])))
  simp
theorem after_of {ys : List Value} {bs : List Int} {c0 c1 c2 nB v0 v1 v2 p q r : Nat} (hI : IntsAre ys (List.map (fun k' => sel3 (c0 : Int) (c1 : Int) (c2 : Int) k' + 1 + ((bs.length : Nat) : Int) - 4 * ((List.count k' bs : Nat) : Int)) (rangeKs 0 ((3 : Int) - 0).toNat)))
    (hnB : bs.length = nB) (hv0 : List.count 0 bs = v0) (hv1 : List.count 1 bs = v1) (hv2 : List.count 2 bs = v2) (hp : (p : Int) = c0 + 1 + nB - 4 * v0) (hq : (q : Int) = c1 + 1 + nB - 4 * v1) (hr : (r : Int) = c2 + 1 + nB - 4 * v2) :
    ∃ t0 t1 t2, ys = [.int (p : Nat) t0, .int (q : Nat) t1, .int (r : Nat) t2] := by
  have e : rangeKs 0 ((3 : Int) - 0).toNat = [0, 1, 2] := by decide
  rw [e] at hI
  simp only [List.map_cons, List.map_nil, hnB, hv0, hv1, hv2] at hI
  have s0 : sel3 (c0 : Int) (c1 : Int) (c2 : Int) 0 = c0 := rfl
  have s1 : sel3 (c0 : Int) (c1 : Int) (c2 : Int) 1 = c1 := rfl
  have s2 : sel3 (c0 : Int) (c1 : Int) (c2 : Int) 2 = c2 := rfl
  rw [s0, s1, s2, ← hp, ← hq, ← hr] at hI
  obtain ⟨t0, t1, t2, rfl⟩ := ints_3 hI
  exact ⟨t0, t1, t2, rfl⟩
theorem counts_of {ys : List Value} {bs : List Int} {v0 v1 v2 : Nat} (hI : IntsAre ys (List.map (fun k' => ((List.count k' bs : Nat) : Int)) (rangeKs 0 ((3 : Int) - 0).toNat))) (hv0 : List.count 0 bs = v0) (hv1 : List.count 1 bs = v1) (hv2 : List.count 2 bs = v2) :
    ∃ t0 t1 t2, ys = [.int (v0 : Nat) t0, .int (v1 : Nat) t1, .int (v2 : Nat) t2] := by
  have e : rangeKs 0 ((3 : Int) - 0).toNat = [0, 1, 2] := by decide
  rw [e] at hI
  simp only [List.map_cons, List.map_nil, hv0, hv1, hv2] at hI
  obtain ⟨t0, t1, t2, rfl⟩ := ints_3 hI
  exact ⟨t0, t1, t2, rfl⟩
end Mine
end

section
open PySem PySem.W PyProof.Rows
set_option maxRecDepth 100000
set_option maxHeartbeats 8000000
namespace Mine
theorem law_end {cl : PySem.Str → Option Addr} {mean : ExcName → Option Value} {args : List WData} {s₁ s' : Shared} {L : Addr} {m : PySem.Str → Option Value} (F : Fr s₁.heap L s'.heap m) (hg : s'.gens = #[]) (hos : s'.os = s₁.os) :
    GoodW PySem.Challenge.rw_wb0015_01.row.claim cl mean args s₁ (.ok (.ret (.bool true))) s' := by
  refine goodW_bool F hg (raisesW_false ?_) ?_ hos
  · wrow_none_raised
  · kc_post
end Mine
end

section
open PySem PySem.W PyProof.Rows
set_option maxRecDepth 100000
set_option maxHeartbeats 8000000
namespace Mine
/-! the walk's small sums, each by itself -/
theorem tt_of {A B C i j k tS : Nat} (h : (tS : Int) = ((A : Int) - i) + (B - j) + (C - k)) : (tS : Int) = (A : Int) - i + ((B : Int) - j + ((C : Int) - k + 0)) := by omega
theorem int50 {A : Nat} (h : A ≤ 50) : 0 ≤ (A : Int) ∧ (A : Int) ≤ 50 := by omega
theorem abc50 {A B C : Nat} (h : A + B + C ≤ 18) : A ≤ 50 ∧ B ≤ 50 ∧ C ≤ 50 ∧ (A : Int).toNat + (B : Int).toNat + (C : Int).toNat + Int.toNat 0 ≤ 50 := by omega
theorem ut_of {tS u0 u1 u2 : Nat} (h : tS = u0 + u1 + u2) : Int.toNat 0 + u0 + u1 + u2 = ((tS : Nat) : Int).toNat := by
  show 0 + u0 + u1 + u2 = tS
  omega
theorem cc50 {c0 c1 c2 : Nat} (h0 : c0 < 3) (h1 : c1 < 3) (h2 : c2 < 3) : (c0 : Int).toNat ≤ 50 ∧ (c1 : Int).toNat ≤ 50 ∧ (c2 : Int).toNat ≤ 50 ∧ (c0 : Int).toNat + 1 ≤ 50 ∧ (c1 : Int).toNat + 1 ≤ 50 ∧ (c2 : Int).toNat + 1 ≤ 50 ∧ (c0 : Int).toNat + 1 + ((c1 : Int).toNat + 1) + ((c2 : Int).toNat + 1) + 0 ≤ 50 := by
  refine ⟨?_, ?_, ?_, ?_, ?_, ?_, ?_⟩ <;> simp only [Int.toNat_natCast] <;> omega
theorem vv_of {bs : List Int} {nB v0 v1 v2 : Nat} (h : bs.length = nB) (e : nB = v0 + v1 + v2) : 0 + v0 + v1 + v2 = ((bs.length : Nat) : Int).toNat := by
  show 0 + v0 + v1 + v2 = bs.length
  omega
/-- how a row's test ends -/
theorem brn_ya {c0 c1 c2 : Nat} {M k : Int} (h : M = (c0 : Int) ∨ M = (c1 : Int) ∨ M = (c2 : Int)) (h2 : M = 2) (hz : ((List.count (0 : Int) [(c0 : Int), (c1 : Int), (c2 : Int)] : Nat) : Int) < 2) : Brn c0 c1 c2 k :=
  by unfold Brn; exact ⟨by omega, .inl (cnt3.mp hz)⟩
theorem brn_yb {c0 c1 c2 : Nat} {M : Int} (k : Int) (hk : k = 0 ∨ k = 1 ∨ k = 2) (h : M = (c0 : Int) ∨ M = (c1 : Int) ∨ M = (c2 : Int)) (h2 : M = 2) (hs : sel3 (c0 : Int) (c1 : Int) (c2 : Int) k = 2) : Brn c0 c1 c2 k := by
  unfold Brn
  refine ⟨by omega, .inr ?_⟩
  rcases hk with rfl | rfl | rfl
  · exact .inl ⟨rfl, by have : (c0 : Int) = 2 := hs; omega⟩
  · exact .inr (.inl ⟨rfl, by have : (c1 : Int) = 2 := hs; omega⟩)
  · exact .inr (.inr ⟨rfl, by have : (c2 : Int) = 2 := hs; omega⟩)
theorem brn_na {c0 c1 c2 : Nat} (k : Int) (hk : k = 0 ∨ k = 1 ∨ k = 2) (hz : ¬ ((List.count (0 : Int) [(c0 : Int), (c1 : Int), (c2 : Int)] : Nat) : Int) < 2) (hs : sel3 (c0 : Int) (c1 : Int) (c2 : Int) k ≠ 2) : ¬ Brn c0 c1 c2 k := fun b => by
  unfold Brn at b
  have hz' := mt cnt3.mpr hz
  rcases b.2 with b | ⟨e, b⟩ | ⟨e, b⟩ | ⟨e, b⟩
  · exact hz' b
  · subst e
    exact hs (show (c0 : Int) = 2 by omega)
  · subst e
    exact hs (show (c1 : Int) = 2 by omega)
  · subst e
    exact hs (show (c2 : Int) = 2 by omega)
theorem brn_nb {c0 c1 c2 : Nat} {M k : Int} (h0 : c0 < 3) (h1 : c1 < 3) (h2 : c2 < 3) (hb : (c0 : Int) ≤ M ∧ (c1 : Int) ≤ M ∧ (c2 : Int) ≤ M) (h : M = (c0 : Int) ∨ M = (c1 : Int) ∨ M = (c2 : Int)) (hM : M ≠ 2) : ¬ Brn c0 c1 c2 k := fun b => by
  unfold Brn at b
  have hlo : 2 ≤ M := by
    rcases b.1 with e | e | e
    · rw [e] at hb; exact hb.1
    · rw [e] at hb; exact hb.2.1
    · rw [e] at hb; exact hb.2.2
  have hhi : M ≤ 2 := by
    clear hb hlo hM b
    rcases h with e | e | e
    · clear h1 h2; omega
    · clear h0 h2; omega
    · clear h0 h1; omega
  exact hM (Int.le_antisymm hhi hlo)
theorem cell_ne (s a b : Nat) (h : a ≠ b) : s + a ≠ s + b := fun e => h (Nat.add_left_cancel e)
end Mine
end

section
open PySem PySem.W PyProof.Rows
set_option maxRecDepth 100000
set_option maxHeartbeats 0
namespace Mine
local macro_rules | `(tactic| walk_at "call builtin:max") => `(tactic| ((with_reducible show wpAny _ _ (call (Value.builtin "max") [Value.int _ _, Value.int _ _, Value.int _ _]) _ _ _); (refine max3_K ?k1 ?k2 ?k3 ?_; (case k1 => k_asm); (case k2 => k_asm); (case k3 => with_unfolding_all rfl)); intro v' t' h' tk' hv' F' N'))
local macro_rules | `(tactic| k_ne) => `(tactic| first | with_reducible assumption | exact Ne.symm (by with_reducible assumption) | exact Nat.ne_of_lt (by with_reducible assumption) | exact Nat.ne_of_gt (by with_reducible assumption) | exact cell_ne _ 1 2 (by decide) | exact cell_ne _ 1 3 (by decide) | exact cell_ne _ 1 4 (by decide) | exact cell_ne _ 1 5 (by decide) | exact cell_ne _ 1 6 (by decide) | exact cell_ne _ 2 1 (by decide) | exact cell_ne _ 3 1 (by decide) | exact cell_ne _ 4 1 (by decide) | exact cell_ne _ 5 1 (by decide) | exact cell_ne _ 6 1 (by decide))
local macro_rules | `(tactic| walk_at "call builtin:sum") => `(tactic| ((with_reducible show wpAny _ _ (call (Value.builtin "sum") [Value.ref _]) _ _ _); (refine' sum_KL ?k1 ?k2 ?k3 ?k4 (.cons _ _ (.cons _ _ (.cons _ _ .nil))) rfl ?_; (case k1 => k_asm); (case k2 => k_asm); (case k3 => with_unfolding_all rfl); (case k4 => k_mem)); intro t' h' tk' F' N'))
local macro_rules | `(tactic| walk_at "call ref") => `(tactic| (k_here; (with_reducible show wpAny _ _ (call (Value.ref 56) [Value.ref _]) _ _ _); k_dflt (refine' page_of4 (vs := [_, _, _, _]) ?k1 ?k2 ?k3 ?k4 ?k5 ?k6 ?k7 ?k8 (.cons _ _ (.cons _ _ (.cons _ _ (.cons _ _ .nil)))) ?kb0 ?kb1 ?kb2 ?kb3 ?_; (case k1 => k_asm); (case k2 => k_asm); (case k3 => k_asm); (case k4 => k_asm); (case k5 => k_asm); (case k6 => exact rfl); (case k7 => ktr_room); (case k8 => k_mem); (case kb0 => first | (with_reducible assumption) | (refine ⟨?_, ?_⟩ <;> first | (with_reducible assumption) | omega)); (case kb1 => first | (with_reducible assumption) | (refine ⟨?_, ?_⟩ <;> first | (with_reducible assumption) | omega)); (case kb2 => first | (with_reducible assumption) | (refine ⟨?_, ?_⟩ <;> first | (with_reducible assumption) | omega)); (case kb3 => first | (with_reducible assumption) | (refine ⟨?_, ?_⟩ <;> first | (with_reducible assumption) | omega))); intro pg' t' h' tk' W' F' N'))
local macro_rules | `(tactic| walk_at "call ref") => `(tactic| (k_here; (with_reducible show wpAny _ _ (call (Value.ref 70) [Value.str _ _, Value.ref _]) _ _ _); k_dflt (refine' settle_ord ?k1 ?k2 ?k3 ?k4 ?k5 ?k6 ?k7 ?k8 ?k9 ?kx (ord_mod _) ?kb0 ?kb1 ?_; (case k1 => k_asm); (case k2 => k_asm); (case k3 => k_asm); (case k4 => k_asm); (case k9 => k_mem); (case kx => assumption); (case k5 => k_asm); (case k6 => exact rfl); (case k7 => ktr_room); (case k8 => assumption); (case kb0 => first | (with_reducible assumption) | omega); (case kb1 => assumption)); intro pg' tp' fl' u' ta' tb' tc' n' h' tk' W' F' N'))
local macro_rules | `(tactic| walk_at "call ref") => `(tactic| (k_here; (with_reducible show wpAny _ _ (call (Value.ref 70) [Value.str _ _, Value.ref _]) _ _ _); k_dflt (refine' settle_ord (vs := [_, _, _]) ?k1 ?k2 ?k3 ?k4 ?k5 ?k6 ?k7 ?k8 ?k9 (.cons _ _ (.cons _ _ (.cons _ _ .nil))) ord_up ?kb0 ?kb1 ?_; (case k1 => k_asm); (case k2 => k_asm); (case k3 => k_asm); (case k4 => k_asm); (case k5 => k_asm); (case k6 => exact rfl); (case k7 => ktr_room); (case k8 => assumption); (case k9 => k_mem); (case kb0 => first | (with_reducible assumption) | omega); (case kb1 => assumption)); intro pg' tp' fl' u' ta' tb' tc' n' h' tk' W' F' N'))
local macro_rules | `(tactic| walk_at "compareOp NotEq ref ref") => `(tactic| (k_here; (with_reducible show wpAny _ _ (compareOp CmpOp.NotEq (Value.ref _) (Value.ref _)) _ _ _); k_dflt (refine' pages_ne ?k1 ?k2 ?k3 ?j1 ?j2 ?j3 ?j4 ?k4 ?k5 ?j5 ?j6 ?j7 ?j8 ?k6 ?k7 ?k8 ?k9 ?ka ?kb ?kc ?_; (case k1 => k_asm); (case k2 => k_mem); (case k3 => k_mem); (case j1 => exact rfl); (case j2 => exact rfl); (case j3 => exact rfl); (case j4 => exact rfl); (case k4 => k_mem); (case k5 => k_mem); (case j5 => exact rfl); (case j6 => exact rfl); (case j7 => exact rfl); (case j8 => exact rfl); (case k6 => assumption); (case k7 => assumption); (case k8 => assumption); (case k9 => assumption); (case ka => assumption); (case kb => exact ⟨rfl, rfl, rfl, by first | (with_reducible assumption) | omega⟩); (case kc => ke_room))))
local macro_rules | `(tactic| walk_at "UnrEnd") => `(tactic| (k_here; k_dflt ((rename News _ _ _ _ => kN); (have kN2 := news_drop2 kN); clear kN; (repeat (with_reducible rename (_ ∧ _) => hcj; obtain ⟨hcj1, hcj2⟩ := hcj)); (with_reducible show UnrEnd _ _ _ _ _ _ _); k_unrEndL)))
local macro_rules | `(tactic| walk_at "subscriptTail Name Name ref int") => `(tactic| (k_here; (with_reducible show wpAny _ _ (subscriptTail _ _ (Value.ref _) (Value.int _ _)) _ _ _); k_dflt (refine' item3_K ?k1 ?k2 ?k3 ?k4 ?_ ?k6; (case k1 => k_asm); (case k2 => k_mem); (case k3 => assumption); (case k4 => assumption); (case k6 => with_unfolding_all rfl); intro t')))
local macro_rules | `(tactic| walk_at "compareOp Eq ref ref") => `(tactic| (k_here; (with_reducible show wpAny _ _ (compareOp CmpOp.Eq (Value.ref _) (Value.ref _)) _ _ _); k_dflt (refine' pages_eq ?k1 ?k2 ?k3 ?j1 ?j2 ?j3 ?j4 ?k4 ?k5 ?j5 ?j6 ?j7 ?j8 ?k6 ?k7 ?k8 ?k9 ?ka ?kb ?kc ?_; (case k1 => k_asm); (case k2 => k_mem); (case k3 => k_mem); (case j1 => exact rfl); (case j2 => exact rfl); (case j3 => exact rfl); (case j4 => exact rfl); (case k4 => k_mem); (case k5 => k_mem); (case j5 => exact rfl); (case j6 => exact rfl); (case j7 => exact rfl); (case j8 => exact rfl); (case k6 => first | exact rfl | assumption); (case k7 => first | exact rfl | assumption); (case k8 => first | exact rfl | assumption); (case k9 => assumption); (case ka => assumption); (case kb => exact ⟨rfl, rfl, rfl, by first | (with_reducible assumption) | omega⟩); (case kc => ke_room))))
local macro_rules | `(tactic| walk_at "call ref") => `(tactic| (k_here; (with_reducible show wpAny _ _ (call (Value.ref 56) [Value.ref _]) _ _ _); k_dflt (refine' page_of3 (vs := [_, _, _]) ?k1 ?k2 ?k3 ?k4 ?k5 ?k6 ?k7 ?k8 (.cons _ _ (.cons _ _ (.cons _ _ .nil))) ?kb0 ?kb1 ?kb2 ?_; (case k1 => k_asm); (case k2 => k_asm); (case k3 => k_asm); (case k4 => k_asm); (case k5 => k_asm); (case k6 => exact rfl); (case k7 => ktr_room); (case k8 => k_mem); (case kb0 => first | (with_reducible assumption) | omega); (case kb1 => first | (with_reducible assumption) | omega); (case kb2 => first | (with_reducible assumption) | omega)); intro t' h' tk' F' N'))
local macro_rules | `(tactic| walk_at "call ref") => `(tactic| (k_here; (with_reducible show wpAny _ _ (call (Value.ref 44) [Value.str (page3 _ _ _) _, Value.int 1 _]) _ _ _); k_dflt (refine' indent_ok ?k1 ?k2 ?k3 ?k4 ?k5 ?k6 ?k7 (ind_page3 _ _ _) ?k8 ?_; (case k1 => k_asm); (case k2 => k_asm); (case k3 => k_asm); (case k4 => k_asm); (case k5 => k_asm); (case k6 => exact rfl); (case k7 => ktr_room); (case k8 => exact len_page3 (by first | (with_reducible assumption) | omega) (by first | (with_reducible assumption) | omega) (by first | (with_reducible assumption) | omega))); intro t' h' tk' F' N'))
local macro_rules | `(tactic| walk_at "binaryOp Add str str") => `(tactic| ((with_reducible show wpAny _ _ (binaryOp Operator.Add (Value.str (page3 _ _ _) _) (Value.str _ _)) _ _ _); k_dflt (refine app_W (app_page3 _ _ _) (len_page3 (by first | (with_reducible assumption) | omega) (by first | (with_reducible assumption) | omega) (by first | (with_reducible assumption) | omega)) (by decide +kernel) ?_); intro t' tk'))
local macro_rules | `(tactic| walk_at "call ref") => `(tactic| (k_here; (with_reducible show wpAny _ _ (call (Value.ref 70) [Value.str (page4 _ _ _ _) _, Value.ref _]) _ _ _); k_dflt (refine' settle_ord (vs := [_, _, _]) ?k1 ?k2 ?k3 ?k4 ?k5 ?k6 ?k7 ⟨rfl⟩ ?k9 (.cons _ _ (.cons _ _ (.cons _ _ .nil))) ord_down ?kb0 ?kb1 ?_; (case k1 => k_asm); (case k2 => k_asm); (case k3 => k_asm); (case k4 => k_asm); (case k5 => k_asm); (case k6 => exact rfl); (case k7 => ktr_room); (case k9 => k_mem); (case kb0 => first | (with_reducible assumption) | omega); (case kb1 => assumption)); intro pg' tp' fl' u' ta' tb' tc' n' h' tk' W' F' N'))
theorem law_holds : PySem.Challenge.rw_wb0015_01.Holds := hd (by
  k_go0
  all_goals try k_fold
  k_steps
  (k_here; k_dflt (refine ListComp_3 (by k_asm) (by with_unfolding_all rfl) (by decide) (by rfl) (by decide) (by rfl) (by rfl) (by rfl) (by decide) (by decide) (by decide) ?_))
  k_steps
  rename IntsAre _ (List.map _ (rangeKs 0 _)) => hLd
  obtain ⟨A, B, C, ta, tb, tc, hA, hB, hC, hS, hLA, hys⟩ := leads_of hLd
  clear hLd
  subst hys
  rename Fr _ _ _ _ => hF
  rename News _ _ _ _ => hN
  refine src3_law A B C rfl hF hN (by assumption) ?_ ?_ ?_ ?_
  · intro C oC m₂ h tk all E' hC F N
    k_steps
    exact ⟨_, _, _, _, _, _, rfl, rfl, by assumption, by assumption, by assumption⟩
  · intro C oC m₂ h tk all E' hC F N
    k_steps
    exact ⟨_, _, _, _, _, _, rfl, rfl, by assumption, by assumption, by assumption⟩
  · intro i j k ti tj tk C' oC D I0 o0 I1 o1 I2 o2 m₂ h tok ys nx E' hi hj hk hC' hp hq hr F N cl hInv
    obtain ⟨ex, rfl⟩ := hInv.extra
    have N2 := news_rot N
    simp only [List.cons_append, List.nil_append] at N2
    clear N hF hN
    repeat' (first | ((fail_if_success (with_reducible show wpAny _ _ (call (Value.builtin "max") _) _ _ _)); first | (k_unfold; (try dsimp only)) | (k_end; wrow_close) | walk1 | (dsimp only; walk1) | (leave1; try dsimp only)))
    (refine' max3_K ?k1 ?k2 ?k3 ?_; (case k1 => k_asm); (case k2 => k_asm); (case k3 => with_unfolding_all rfl))
    intro v' t' h' tk' hv' F' N'
    k_steps
    · rename Fr _ _ _ _ => kF
      rename News _ _ _ _ => kN
      rename (_ < _) ∧ _ => lt1
      refine tn_yes' hInv hi hj hk (good_of hi hj hk hv' (by assumption) (by assumption) (by assumption) (by assumption)) cl kF kN ?_
      simp only [List.cons_append, List.nil_append]
      replace lt1 := lt1.2
      repeat (refine List.forall_mem_cons.mpr ⟨lt1.1, ?_⟩; replace lt1 := lt1.2)
      first | exact List.forall_mem_nil _ | exact List.forall_mem_cons.mpr ⟨lt1, List.forall_mem_nil _⟩
    all_goals (rename Fr _ _ _ _ => kF; rename News _ _ _ _ => kN)
    · exact tn_no hInv hi hj hk (bad4 (by assumption)) cl kF kN (fun p hp => .tail _ hp)
    · exact tn_no hInv hi hj hk (bad3 (by assumption)) cl kF kN (fun p hp => .tail _ hp)
    · exact tn_no hInv hi hj hk (bad2 (by assumption)) cl kF kN (fun p hp => .tail _ hp)
    · exact tn_no hInv hi hj hk (bad1 hi hj hk hv' (by assumption)) cl kF kN (fun p hp => hp)
  · intro D e i j k ti tj tk n h tok hi hj hk hG lt cD F N
    clear hF hN
    k_lt lt
    simp only [LCg.Off1, and_true] at cD
    (repeat (with_reducible rename (_ ∧ _) => hcj; obtain ⟨hcj1, hcj2⟩ := hcj))
    repeat' (first | ((fail_if_success (with_reducible show wpAny _ _ (eval (PySem.Expr.ListComp _ _ _ _) _) _ _ _)); first | (k_unfold; (try dsimp only)) | (k_end; wrow_close) | walk1 | (dsimp only; walk1) | (leave1; try dsimp only)))
    iterate 57 (try (first | ((fail_if_success (with_reducible show wpAny _ _ _ _ _ _)); first | ((with_reducible show LCg.FinE _ _ _ _ _ _ _); unfold LCg.FinE; intro D8 h8 tk8 F8 N8 o8; simp only [LCg.Off1, and_true] at o8) | ((with_reducible show LCg.CompSrc _ _ _ _ _ _ _ _ _ _ _ _ _ _); refine LCg.CompSrc.range (n := 3) (by rfl) (by k_asm) (by k_asm) (by assumption) (by decide) (by rfl) (by exact Nat.le_of_ble_eq_true rfl) ?_; intro g') | ((with_reducible show LCg.CompRest _ _ _ _ _ _ _ _ _ _ _ _ _ _ _ _ _ _ _); refine LCg.CompRest.succ ?_; intro v' I' oI' C' oC' D' m' h' tk' E' hv' hC' hx' F' N' off' ne'; obtain ⟨t9', hv9'⟩ := hv'; subst hv9') | ((with_reducible show LCg.CompRest _ _ _ _ _ _ _ _ _ _ _ _ _ _ _ _ _ _ _); refine LCg.CompRest.zero ?_) | ((with_reducible show LCg.CompEnd _ _ _ _ _ _ _ _ _ _ _ _ _ _); refine LCg.CompEnd.intro (by assumption) (by assumption) _ (fun _ hp => hp) (by assumption) trivial ?_) | walk1 | (dsimp only; walk1)) | ((with_reducible show wpAny _ _ (call (Value.type "range") _) _ _ _); walk1) | ((fail_if_success (with_reducible show wpAny _ _ (call _ _) _ _ _)); first | (k_unfold; (try dsimp only)) | (k_end; wrow_close) | walk1 | (dsimp only; walk1) | (leave1; try dsimp only))))
    unfold LCg.FinE
    intro D8 h8 tk8 F8 N8 o8
    simp only [LCg.Off1, and_true] at o8
    obtain ⟨vl, hLo, N9⟩ := news_hide N8 (y0 := (A : Int) - i) (y1 := (B : Int) - j) (y2 := (C : Int) - k) rfl rfl rfl
    clear N8
    obtain ⟨tS, u0, u1, u2, hT, hu0, hu1, hu2, hTl, hTs, hDue⟩ := Due.first hG hi hj hk hA hB hC hS
    repeat (with_reducible rename (_ ∧ _) => hcj; obtain ⟨hcj1, hcj2⟩ := hcj)
    repeat' (first | ((fail_if_success (with_reducible show wpAny _ _ _ _ _ _)); first | ((with_reducible show LCg.FinE _ _ _ _ _ _ _); unfold LCg.FinE; intro D8 h8 tk8 F8 N8 o8; simp only [LCg.Off1, and_true] at o8) | ((with_reducible show LCg.CompSrc _ _ _ _ _ _ _ _ _ _ _ _ _ _); refine LCg.CompSrc.range (n := 3) (by rfl) (by k_asm) (by k_asm) (by assumption) (by decide) (by rfl) (by exact Nat.le_of_ble_eq_true rfl) ?_; intro g') | ((with_reducible show LCg.CompRest _ _ _ _ _ _ _ _ _ _ _ _ _ _ _ _ _ _ _); refine LCg.CompRest.succ ?_; intro v' I' oI' C' oC' D' m' h' tk' E' hv' hC' hx' F' N' off' ne'; obtain ⟨t9', hv9'⟩ := hv'; subst hv9') | ((with_reducible show LCg.CompRest _ _ _ _ _ _ _ _ _ _ _ _ _ _ _ _ _ _ _); refine LCg.CompRest.zero ?_) | ((with_reducible show LCg.CompEnd _ _ _ _ _ _ _ _ _ _ _ _ _ _); refine LCg.CompEnd.intro (by assumption) (by assumption) _ (fun _ hp => hp) (by assumption) trivial ?_) | walk1 | (dsimp only; walk1)) | ((with_reducible show wpAny _ _ (call (Value.type "range") _) _ _ _); walk1) | ((fail_if_success (with_reducible show wpAny _ _ (call _ _) _ _ _)); first | (k_unfold; (try dsimp only)) | (k_end; wrow_close) | walk1 | (dsimp only; walk1) | (leave1; try dsimp only)))
    (refine' sum_KL (y := (tS : Int)) ?zz1 ?zz2 ?zz3 ?zz4 hLo ?zz5 ?_; (case zz1 => k_asm); (case zz2 => k_asm); (case zz3 => with_unfolding_all rfl); (case zz4 => k_mem); (case zz5 => simp only [List.sum_cons, List.sum_nil]; omega))
    intro t7 h7 tk7 F7 N7
    repeat' (first | ((fail_if_success (with_reducible show wpAny _ _ _ _ _ _)); first | ((with_reducible show LCg.FinE _ _ _ _ _ _ _); unfold LCg.FinE; intro D8 h8 tk8 F8 N8 o8; simp only [LCg.Off1, and_true] at o8) | ((with_reducible show LCg.CompSrc _ _ _ _ _ _ _ _ _ _ _ _ _ _); refine LCg.CompSrc.range (n := 3) (by rfl) (by k_asm) (by k_asm) (by assumption) (by decide) (by rfl) (by exact Nat.le_of_ble_eq_true rfl) ?_; intro g') | ((with_reducible show LCg.CompRest _ _ _ _ _ _ _ _ _ _ _ _ _ _ _ _ _ _ _); refine LCg.CompRest.succ ?_; intro v' I' oI' C' oC' D' m' h' tk' E' hv' hC' hx' F' N' off' ne'; obtain ⟨t9', hv9'⟩ := hv'; subst hv9') | ((with_reducible show LCg.CompRest _ _ _ _ _ _ _ _ _ _ _ _ _ _ _ _ _ _ _); refine LCg.CompRest.zero ?_) | ((with_reducible show LCg.CompEnd _ _ _ _ _ _ _ _ _ _ _ _ _ _); refine LCg.CompEnd.intro (by assumption) (by assumption) _ (fun _ hp => hp) (by assumption) trivial ?_) | walk1 | (dsimp only; walk1)) | ((with_reducible show wpAny _ _ (call (Value.type "range") _) _ _ _); walk1) | ((fail_if_success (with_reducible show wpAny _ _ (call _ _) _ _ _)); first | (k_unfold; (try dsimp only)) | (k_end; wrow_close) | walk1 | (dsimp only; walk1) | (leave1; try dsimp only)))
    (refine' page_of4 (vs := [_, _, _, _]) ?zy1 ?zy2 ?zy3 ?zy4 ?zy5 ?zy6 ?zy7 ?zy8 (.cons _ _ (.cons _ _ (.cons _ _ (.cons _ _ .nil)))) ?zyb0 ?zyb1 ?zyb2 ?zyb3 ?_; (case zy1 => k_asm); (case zy2 => k_asm); (case zy3 => k_asm); (case zy4 => k_asm); (case zy5 => k_asm); (case zy6 => exact rfl); (case zy7 => ktr_room); (case zy8 => k_mem); (case zyb0 => omega); (case zyb1 => omega); (case zyb2 => omega); (case zyb3 => omega))
    intro pgD tD hD9 tkD WD FD ND
    obtain ⟨tq0, tq1, tq2, hvl⟩ := ints_3 hLo
    subst hvl
    clear hLo
    repeat' (first | ((fail_if_success (with_reducible show wpAny _ _ _ _ _ _)); first | ((with_reducible show LCg.FinE _ _ _ _ _ _ _); unfold LCg.FinE; intro D8 h8 tk8 F8 N8 o8; simp only [LCg.Off1, and_true] at o8) | ((with_reducible show LCg.CompSrc _ _ _ _ _ _ _ _ _ _ _ _ _ _); refine LCg.CompSrc.range (n := 3) (by rfl) (by k_asm) (by k_asm) (by assumption) (by decide) (by rfl) (by exact Nat.le_of_ble_eq_true rfl) ?_; intro g') | ((with_reducible show LCg.CompSrc _ _ _ _ _ _ _ _ _ _ _ _ _ _); refine LCg.CompSrc.ledger (by rfl) (by k_asm) (by k_asm) (by k_mem) (by exact Nat.le_of_ble_eq_true rfl) ?_; intro g'; lcg_lit) | ((with_reducible show LCg.CompRest _ _ _ _ _ _ _ _ _ _ _ _ _ _ _ _ _ _ _); refine LCg.CompRest.succ ?_; intro v' I' oI' C' oC' D' m' h' tk' E' hv' hC' hx' F' N' off' ne'; first | (obtain ⟨t9', hv9'⟩ := hv'; subst hv9') | lcg_open hv') | ((with_reducible show LCg.CompRest _ _ _ _ _ _ _ _ _ _ _ _ _ _ _ _ _ _ _); refine LCg.CompRest.zero ?_) | ((with_reducible show LCg.CompEnd _ _ _ _ _ _ _ _ _ _ _ _ _ _); refine LCg.CompEnd.intro (by assumption) (by assumption) _ (fun _ hp => hp) (by assumption) (by lcg_src) ?_) | walk1 | (dsimp only; walk1)) | ((with_reducible show wpAny _ _ (call (Value.type "range") _) _ _ _); walk1) | ((with_reducible show wpAny _ _ (call (Value.builtin "sum") _) _ _ _); walk1) | ((fail_if_success (with_reducible show wpAny _ _ (call _ _) _ _ _)); first | (k_unfold; (try dsimp only)) | (k_end; wrow_close) | walk1 | (dsimp only; walk1) | (leave1; try dsimp only)))
    have hTT := tt_of hT
    rw [hTT] at hu0 hu1 hu2
    obtain ⟨hA50, hB50, hC50, hABC⟩ := abc50 hS
    have hAi := int50 hA50
    have hBi := int50 hB50
    have hCi := int50 hC50
    have hUT := ut_of hTs
    repeat' (first | ((fail_if_success (with_reducible show wpAny _ _ (eval (PySem.Expr.ListComp _ _ _ _) _) _ _ _)); first | (k_unfold; (try dsimp only)) | (k_end; wrow_close) | walk1 | (dsimp only; walk1) | (leave1; try dsimp only)))
    rename News _ _ _ _ => kN
    obtain ⟨c0, c1, c2, tc0, tc1, tc2, hc0, hc1, hc2, kN2⟩ := news_calm 22 2 kN
    clear kN
    simp only [List.drop_succ_cons, List.drop_zero, List.take_succ_cons, List.take_zero] at kN2
    (repeat (with_reducible rename (_ ∧ _) => hcj; obtain ⟨hcj1, hcj2⟩ := hcj))
    (repeat (with_reducible rename (_ ≠ _) => hcj; clear hcj))
    repeat' (first | ((fail_if_success (with_reducible show wpAny _ _ (eval (PySem.Expr.ListComp _ _ _ _) _) _ _ _)); first | (k_unfold; (try dsimp only)) | (k_end; wrow_close) | walk1 | (dsimp only; walk1) | (leave1; try dsimp only)))
    (k_here; k_dflt (refine LCt.ListComp_T (F₀ := by k_asm) (by with_unfolding_all rfl) (by decide) (by rfl) (by decide) (by rfl) ?_))
    repeat' (first | ((fail_if_success (with_reducible show LCt.CompSrcT _ _ _ _ _ _ _ _ _ _ _ _ _ _ _)); first | (k_unfold; (try dsimp only)) | (k_end; wrow_close) | walk1 | (dsimp only; walk1) | (leave1; try dsimp only)))
    refine LCt.CompSrcT.range (n := 3) (by rfl) (by k_asm) (by k_asm) (by assumption) (by decide) (by rfl) (by exact Nat.le_of_ble_eq_true rfl) ?_
    intro gB
    refine kci_range (brnG c0 c1 c2) ?_ ?_ (brn_grows c0 c1 c2)
    · intro kB tB I' oI' C' oC' D' m' ys' l' h' tk' E' hlo' hhi' hI' hC' hx' F' N' off' ne' hMark'
      have hk3 : kB = 0 ∨ kB = 1 ∨ kB = 2 := by omega
      rcases hk3 with rfl | rfl | rfl
      all_goals repeat' (first | ((fail_if_success (with_reducible show LCg.CompEnd _ _ _ _ _ _ _ _ _ _ _ _ _ _)); first | (k_unfold; (try dsimp only)) | (k_end; wrow_close) | walk1 | (dsimp only; walk1) | (leave1; try dsimp only)))
      all_goals (refine LCg.CompEnd.intro (by assumption) (by assumption) _ (fun _ hp => hp) off' trivial ?_)
      all_goals first | exact brn_yes (brn_ya (by assumption) (by assumption) (by assumption)) | exact brn_yes (brn_yb _ (by decide) (by assumption) (by assumption) (by assumption)) | exact brn_no (brn_na _ (by decide) (by assumption) (by assumption)) | exact brn_no (brn_nb hc0 hc1 hc2 (by assumption) (by assumption) (by assumption))
    · intro ysB hIB hLB
      unfold LCg.FinE
      intro DB hB tkB FB NB oB
      simp only [LCg.Off1, and_true] at oB
      obtain ⟨bs, nB, v0, v1, v2, pB, qB, rB, hIbs, hnY, hnB, hn3, hv0, hv1, hv2, hnv, hpB, hqB, hrB, hp3, hq3, hr3, hDueB⟩ := brn_due hc0 hc1 hc2 hIB
      clear hIB
      (repeat (with_reducible rename (_ ∧ _) => hcj; obtain ⟨hcj1, hcj2⟩ := hcj))
      obtain ⟨hx1, hx2, hx3, hx4, hx5, hx6, hx7⟩ := cc50 hc0 hc1 hc2
      have hy1 := int50 (Nat.le_trans (Nat.le_of_lt hc0) (by decide))
      have hy2 := int50 (Nat.le_trans (Nat.le_of_lt hc1) (by decide))
      have hy3 := int50 (Nat.le_trans (Nat.le_of_lt hc2) (by decide))
      have hy4 := int50 (Nat.le_trans hp3 (by decide))
      have hy5 := int50 (Nat.le_trans hq3 (by decide))
      have hy6 := int50 (Nat.le_trans hr3 (by decide))
      have hy7 := int50 (Nat.le_trans (Nat.le_of_eq hnB) (Nat.le_trans hn3 (by decide)))
      have hy8 := vv_of hnB hnv
      repeat' (first | ((fail_if_success (with_reducible show wpAny _ _ (eval (PySem.Expr.Tuple _ _ _) _) _ _ _)); first | (k_unfold; (try dsimp only)) | (k_end; wrow_close) | walk1 | (dsimp only; walk1) | (leave1; try dsimp only)))
      rename IntsAre _ (List.map _ (rangeKs 0 _)) => hLd
      obtain ⟨tp0, tp1, tp2, hys⟩ := after_of hLd hnB hv0 hv1 hv2 hpB hqB hrB
      clear hLd
      subst hys
      repeat' (first | ((fail_if_success (with_reducible show wpAny _ _ (storeName _ _ _) _ _ _)); first | (k_unfold; (try dsimp only)) | (k_end; wrow_close) | walk1 | (dsimp only; walk1) | (leave1; try dsimp only)))
      rename IntsAre _ (List.map _ (rangeKs 0 _)) => hLe
      obtain ⟨tr0, tr1, tr2, hzs⟩ := counts_of hLe hv0 hv1 hv2
      clear hLe
      subst hzs
      repeat' (first | (k_unfold; (try dsimp only)) | (k_end; exact law_end (by with_reducible assumption) (by with_reducible assumption) rfl) | walk1 | (dsimp only; walk1) | (leave1; try dsimp only)))
end Mine
end

set_option maxRecDepth 100000 in
set_option maxHeartbeats 0 in
theorem PySem.Challenge.cw_wb0015_01_holds : PySem.Challenge.rw_wb0015_01.Holds :=
  Mine.law_holds
