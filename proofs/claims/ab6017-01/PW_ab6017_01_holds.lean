import PyProof.Rows.All
import Wide.All
import OpenK.AllK
import KE.KStateW
import Wide.FinOn
import PySem.Challenge.RW_ab6017_01
set_option Elab.async false
set_option linter.all false

section
open PySem PySem.W PyProof.Rows
set_option Elab.async false
set_option maxRecDepth 100000
set_option maxHeartbeats 8000000
namespace Mine
open_top hd for PySem.Challenge.rw_ab6017_01
end Mine
end

section
namespace Mine
section
variable {α : Type} [DecidableEq α] (s d : α)

def lastIx : List α → Nat
  | [] => 0
  | c :: r => if lastIx r ≠ 0 then lastIx r + 1 else if c = s then 1 else 0
def baseL (l : List α) : List α := l.drop (lastIx s l)
def headL (l : List α) : List α := l.take (lastIx s l)
def rsL (l : List α) : List α := (l.reverse.dropWhile fun c => decide (c = s)).reverse
def dirL (l : List α) : List α := if headL s l ≠ [] ∧ headL s l ≠ List.replicate (headL s l).length s then rsL s (headL s l) else headL s l
def rootL (l : List α) : List α := if l.take 1 ≠ [s] then [] else if (l.drop 1).take 1 ≠ [s] ∨ (l.drop 2).take 1 = [s] then [s] else l.take 2
def restL (l : List α) : List α := if l.take 1 ≠ [s] then l else if (l.drop 1).take 1 ≠ [s] ∨ (l.drop 2).take 1 = [s] then l.drop 1 else l.drop 2
@[reducible] def endsL (l : List α) : Prop := l.drop (l.length - 1) = [s]
def joinL (a b : List α) : List α := if b.take 1 = [s] ∨ a = [] then b else if endsL s a then a ++ b else a ++ s :: b
def splitL : List α → List (List α)
  | [] => [[]]
  | c :: r => if c = s then [] :: splitL r else (c :: (splitL r).headD []) :: (splitL r).tail
def glueL : List (List α) → List α
  | [] => []
  | p :: q => if q = [] then p else p ++ s :: glueL q
def stepN (root : List α) (acc : List (List α)) (c : List α) : List (List α) :=
  if c = [] ∨ c = [d] then acc
  else if c ≠ [d, d] ∨ (root = [] ∧ acc = []) ∨ (acc ≠ [] ∧ acc.getLastD [] = [d, d]) then acc ++ [c]
  else acc.dropLast
def endN (root : List α) (cs : List (List α)) : List α :=
  if root ++ glueL s (cs.foldl (stepN d root) []) = [] then [d] else root ++ glueL s (cs.foldl (stepN d root) [])
def normL (l : List α) : List α := if l = [] then [d] else endN s d (rootL s l) (splitL s (restL s l))
def clearL (l : List α) : List α := if baseL s l = [] ∧ dirL s l ≠ l then dirL s l else l
def lastL (l : List α) : List α := if (baseL s (clearL s l)).length > 0 then baseL s (clearL s l) else rootL s (clearL s l)
def folderL (l : List α) : List α :=
  if (baseL s (dirL s (clearL s l))).length > 0 then dirL s (clearL s l)
  else if (rootL s (dirL s (clearL s l))).length > 0 then rootL s (dirL s (clearL s l)) else [d]
def piecesL (l : List α) : List (List α) := (splitL s l).filter fun p => decide (p ≠ [])
def leadL (l : List α) : Nat := (l.takeWhile fun c => decide (c = s)).length
def dueL (n : Nat) : List α := if n = 0 then [d] else if n = 2 then [s, s] else [s]
def rtL (n : Nat) : List α := if n = 0 then [] else if n = 2 then [s, s] else [s]

theorem lastIx_none {l : List α} (h : s ∉ l) : lastIx s l = 0 := by
  induction l with
  | nil => rfl
  | cons c r ih =>
    have h1 : c ≠ s := fun e => h (e ▸ List.mem_cons_self ..)
    have h2 := ih (fun e => h (List.mem_cons_of_mem _ e))
    simp [lastIx, h2, h1]
theorem lastIx_at (a : List α) {b : List α} (h : s ∉ b) : lastIx s (a ++ s :: b) = a.length + 1 := by
  induction a with
  | nil => simp [lastIx, lastIx_none s h]
  | cons c r ih => simp [lastIx, ih]
theorem cut_cases (l : List α) : s ∉ l ∨ ∃ a b, l = a ++ s :: b ∧ s ∉ b := by
  induction l with
  | nil => simp
  | cons c r ih =>
    rcases ih with h | ⟨a, b, rfl, h⟩
    · by_cases e : c = s
      · exact .inr ⟨[], r, by simp [e], h⟩
      · exact .inl (by simp [h]; exact fun x => e x.symm)
    · exact .inr ⟨c :: a, b, by simp, h⟩
theorem baseL_none {l : List α} (h : s ∉ l) : baseL s l = l := by simp [baseL, lastIx_none s h]
theorem headL_none {l : List α} (h : s ∉ l) : headL s l = [] := by simp [headL, lastIx_none s h]
theorem baseL_at (a : List α) {b : List α} (h : s ∉ b) : baseL s (a ++ s :: b) = b := by
  have e : a ++ s :: b = (a ++ [s]) ++ b := by simp
  unfold baseL
  rw [lastIx_at s a h, e, List.drop_append_of_le_length (by simp)]
  simp
theorem headL_at (a : List α) {b : List α} (h : s ∉ b) : headL s (a ++ s :: b) = a ++ [s] := by
  have e : a ++ s :: b = (a ++ [s]) ++ b := by simp
  unfold headL
  rw [lastIx_at s a h, e, List.take_append_of_le_length (by simp)]
  exact List.take_of_length_le (by simp)
theorem lastIx_le (l : List α) : lastIx s l ≤ l.length := by
  rcases cut_cases s l with h | ⟨a, b, rfl, h⟩
  · rw [lastIx_none s h]; omega
  · rw [lastIx_at s a h]; simp

def EndsOff (l : List α) : Prop := ∃ v c, l = v ++ [c] ∧ c ≠ s
theorem rsL_off {u : List α} (n : Nat) (h : u = [] ∨ EndsOff s u) : rsL s (u ++ List.replicate n s) = u := by
  unfold rsL
  rw [List.reverse_append, List.reverse_replicate]
  have key : ∀ (n : Nat) (r : List α), (List.replicate n s ++ r).dropWhile (fun c => decide (c = s)) = r.dropWhile (fun c => decide (c = s)) := by
    intro n r
    induction n with
    | zero => rfl
    | succ n ih => rw [List.replicate_succ, List.cons_append, List.dropWhile_cons]; simp [ih]
  rw [key]
  rcases h with rfl | ⟨v, c, rfl, hc⟩
  · rfl
  · simp [hc]
theorem rs_cases (l : List α) : ∃ u n, l = u ++ List.replicate n s ∧ (u = [] ∨ EndsOff s u) := by
  have key : ∀ m : List α, ∃ u n, m.reverse = u ++ List.replicate n s ∧ (u = [] ∨ EndsOff s u) := by
    intro m
    induction m with
    | nil => exact ⟨[], 0, rfl, .inl rfl⟩
    | cons c r ih =>
      by_cases e : c = s
      · obtain ⟨u, n, h, k⟩ := ih
        refine ⟨u, n + 1, ?_, k⟩
        rw [List.reverse_cons, h, e, List.append_assoc, ← List.replicate_succ']
      · exact ⟨(c :: r).reverse, 0, by simp, .inr ⟨r.reverse, c, by simp, e⟩⟩
  have h := key l.reverse
  rwa [List.reverse_reverse] at h

/-- the normal shape of a path that is not slashes alone -/
structure Canon (f : List α) (m : Nat) (p : List α) (n : Nat) : Prop where
  ne : p ≠ []
  free : s ∉ p
  fol : f = [] ∨ (1 ≤ m ∧ EndsOff s f)
@[reducible] def shape (f : List α) (m : Nat) (p : List α) (n : Nat) : List α := f ++ List.replicate m s ++ p ++ List.replicate n s

theorem canon_cases (l : List α) : (∃ n, l = List.replicate n s) ∨ ∃ f m p n, l = shape s f m p n ∧ Canon s f m p n := by
  obtain ⟨u, n, rfl, hu⟩ := rs_cases s l
  rcases hu with rfl | ⟨v, c, rfl, hc⟩
  · exact .inl ⟨n, by simp⟩
  · right
    rcases cut_cases s v with hv | ⟨a, b, rfl, hb⟩
    · exact ⟨[], 0, v ++ [c], n, by simp [shape], ⟨by simp, by simp [hv]; exact fun e => hc e.symm, .inl rfl⟩⟩
    · obtain ⟨f, m, hf, hff⟩ := rs_cases s (a ++ [s])
      refine ⟨f, m, b ++ [c], n, ?_, ⟨by simp, by simp [hb]; exact fun e => hc e.symm, ?_⟩⟩
      · show _ = f ++ List.replicate m s ++ (b ++ [c]) ++ List.replicate n s
        rw [← hf]; simp
      · rcases hff with rfl | h
        · exact .inl rfl
        · refine .inr ⟨?_, h⟩
          cases m with
          | zero =>
            obtain ⟨v, c', rfl, hc'⟩ := h
            simp only [List.replicate_zero, List.append_nil] at hf
            have := congrArg List.getLast? hf
            simp at this
            exact absurd this.symm hc'
          | succ m => omega
end
end Mine
end

section
set_option linter.unusedSectionVars false
set_option linter.unusedSimpArgs false
namespace Mine
section
variable {α : Type} [DecidableEq α] {s d : α}

theorem ends_mem {f : List α} (h : EndsOff s f) : ∃ c ∈ f, c ≠ s := by
  obtain ⟨v, c, rfl, hc⟩ := h
  exact ⟨c, by simp, hc⟩
theorem ends_ne {f : List α} (h : EndsOff s f) : f ≠ [] := by
  obtain ⟨v, c, rfl, hc⟩ := h
  simp
theorem not_rep {f g : List α} (h : EndsOff s f) (n : Nat) : f ++ g ≠ List.replicate n s := by
  intro e
  obtain ⟨c, hc, hn⟩ := ends_mem h
  have : c ∈ List.replicate n s := e ▸ List.mem_append_left _ hc
  exact hn (List.eq_of_mem_replicate this)
theorem free_ends {p : List α} (hp : p ≠ []) (h : s ∉ p) : EndsOff s p := by
  obtain ⟨v, c, rfl⟩ : ∃ v c, p = v ++ [c] := ⟨p.dropLast, p.getLast hp, (List.dropLast_concat_getLast hp).symm⟩
  exact ⟨v, c, rfl, fun e => h (by simp [e])⟩
theorem ends_app {a p : List α} (h : EndsOff s p) : EndsOff s (a ++ p) := by
  obtain ⟨v, c, rfl, hc⟩ := h
  exact ⟨a ++ v, c, by simp, hc⟩

theorem baseL_snoc (l : List α) : baseL s (l ++ [s]) = [] := baseL_at s l (by simp)
theorem headL_snoc (l : List α) : headL s (l ++ [s]) = l ++ [s] := headL_at s l (by simp)
theorem baseL_rep (n : Nat) : baseL s (List.replicate n s) = [] := by
  cases n with
  | zero => rfl
  | succ n => rw [List.replicate_succ']; exact baseL_snoc _
theorem headL_rep (n : Nat) : headL s (List.replicate n s) = List.replicate n s := by
  cases n with
  | zero => rfl
  | succ n => rw [List.replicate_succ']; exact headL_snoc _
theorem dirL_rep (n : Nat) : dirL s (List.replicate n s) = List.replicate n s := by
  unfold dirL
  rw [headL_rep]
  simp
theorem clearL_rep (n : Nat) : clearL s (List.replicate n s) = List.replicate n s := by
  unfold clearL
  rw [dirL_rep]
  simp
theorem rootL_rep (n : Nat) : rootL s (List.replicate n s) = rtL s n := by
  match n with
  | 0 => simp [rootL, rtL]
  | 1 => simp [rootL, rtL]
  | 2 => simp [rootL, rtL, List.replicate_succ]
  | n + 3 => simp [rootL, rtL, List.replicate_succ]
theorem rtL_len (n : Nat) : (rtL s n).length > 0 ↔ n ≠ 0 := by
  unfold rtL
  repeat' split
  all_goals simp_all
theorem lastL_rep (n : Nat) : lastL s (List.replicate n s) = rtL s n := by
  unfold lastL
  rw [clearL_rep, baseL_rep, rootL_rep]
  simp
theorem folderL_rep (n : Nat) : folderL s d (List.replicate n s) = dueL s d n := by
  unfold folderL
  rw [clearL_rep, dirL_rep, baseL_rep, rootL_rep]
  unfold dueL rtL
  repeat' split
  all_goals simp_all

section
variable {f p : List α} {m n : Nat} (C : Canon s f m p n)
include C
theorem core_base : baseL s (f ++ List.replicate m s ++ p) = p := by
  cases m with
  | zero =>
    rcases C.fol with rfl | h
    · simpa using baseL_none s C.free
    · omega
  | succ k =>
    have e : f ++ List.replicate (k + 1) s ++ p = (f ++ List.replicate k s) ++ s :: p := by rw [List.replicate_succ']; simp
    rw [e]
    exact baseL_at s _ C.free
theorem core_head : headL s (f ++ List.replicate m s ++ p) = f ++ List.replicate m s := by
  cases m with
  | zero =>
    rcases C.fol with rfl | h
    · simpa using headL_none s C.free
    · omega
  | succ k =>
    have e : f ++ List.replicate (k + 1) s ++ p = (f ++ List.replicate k s) ++ s :: p := by rw [List.replicate_succ']; simp
    rw [e, headL_at s _ C.free, List.replicate_succ']
    simp
theorem core_dir : dirL s (f ++ List.replicate m s ++ p) = if f = [] then List.replicate m s else f := by
  unfold dirL
  rw [core_head C]
  rcases C.fol with rfl | ⟨_, h⟩
  · simp
  · rw [if_pos ⟨by have := ends_ne h; simp [this], not_rep h _⟩, rsL_off s m (.inr h), if_neg (ends_ne h)]
theorem core_ends : EndsOff s (f ++ List.replicate m s ++ p) := ends_app (free_ends C.ne C.free)
theorem shape_clear : clearL s (shape s f m p n) = f ++ List.replicate m s ++ p := by
  cases n with
  | zero =>
    show clearL s (f ++ List.replicate m s ++ p ++ List.replicate 0 s) = _
    rw [List.replicate_zero, List.append_nil]
    unfold clearL
    rw [core_base C, if_neg (fun h => C.ne h.1)]
  | succ k =>
    have E := core_ends C
    have e : shape s f m p (k + 1) = (f ++ List.replicate m s ++ p ++ List.replicate k s) ++ [s] := by show _ ++ List.replicate (k + 1) s = _; rw [List.replicate_succ']; simp
    have hd : dirL s (shape s f m p (k + 1)) = f ++ List.replicate m s ++ p := by
      unfold dirL
      have hh : headL s (shape s f m p (k + 1)) = shape s f m p (k + 1) := by rw [e, headL_snoc]
      rw [hh]
      have hne : shape s f m p (k + 1) ≠ [] := by rw [e]; simp
      rw [if_pos ⟨hne, not_rep E _⟩]
      exact rsL_off s (k + 1) (.inr E)
    unfold clearL
    rw [hd, if_pos]
    refine ⟨by rw [e]; exact baseL_snoc _, fun x => ?_⟩
    have := congrArg List.length x
    rw [e] at this
    simp at this
theorem shape_last : lastL s (shape s f m p n) = p := by
  have : p.length > 0 := List.length_pos_iff.mpr C.ne
  unfold lastL
  rw [shape_clear C, core_base C, if_pos this]
omit C in
theorem base_of_ends {f : List α} (h : EndsOff s f) : baseL s f ≠ [] := by
  obtain ⟨v, c, rfl, hc⟩ := h
  rcases cut_cases s v with hv | ⟨a, b, rfl, hb⟩
  · rw [baseL_none s (by simp [hv]; exact fun e => hc e.symm)]; simp
  · rw [show a ++ s :: b ++ [c] = a ++ s :: (b ++ [c]) by simp, baseL_at s a (by simp [hb]; exact fun e => hc e.symm)]; simp
theorem shape_folder : folderL s d (shape s f m p n) = if f = [] then dueL s d m else f := by
  unfold folderL
  rw [shape_clear C, core_dir C]
  rcases C.fol with rfl | ⟨_, h⟩
  · simp only [if_true]
    rw [baseL_rep, rootL_rep]
    unfold dueL rtL
    repeat' split
    all_goals simp_all
  · have hb := base_of_ends h
    have : (baseL s f).length > 0 := List.length_pos_iff.mpr hb
    rw [if_neg (ends_ne h), if_pos this, if_neg (ends_ne h)]
end

/-- one step of the loop is enough -/
theorem clear_stops (l : List α) : ¬ (baseL s (clearL s l) = [] ∧ dirL s (clearL s l) ≠ clearL s l) := by
  rcases canon_cases s l with ⟨n, rfl⟩ | ⟨f, m, p, n, rfl, C⟩
  · rw [clearL_rep, dirL_rep]; simp
  · rw [shape_clear C, core_base C]
    exact fun h => C.ne h.1

theorem leadL_cons (c : α) (r : List α) : leadL s (c :: r) = if c = s then leadL s r + 1 else 0 := by
  unfold leadL
  rw [List.takeWhile_cons]
  by_cases e : c = s <;> simp [e]
theorem rootL_lead (l : List α) : rootL s l = rtL s (leadL s l) := by
  match l with
  | [] => simp [rootL, rtL, leadL]
  | [a] => by_cases h : a = s <;> simp [rootL, rtL, leadL, h]
  | [a, b] => by_cases h : a = s <;> by_cases h2 : b = s <;> simp [rootL, rtL, leadL, h, h2]
  | a :: b :: c :: r =>
    by_cases h : a = s
    · by_cases h2 : b = s
      · by_cases h3 : c = s
        · simp [rootL, rtL, leadL_cons, h, h2, h3]
        · simp [rootL, rtL, leadL_cons, h, h2, h3]
      · simp [rootL, rtL, leadL_cons, h, h2]
    · simp [rootL, rtL, leadL_cons, h]
theorem leadL_rep (n : Nat) : leadL s (List.replicate n s) = n := by
  induction n with
  | zero => rfl
  | succ n ih => rw [List.replicate_succ, leadL_cons, if_pos rfl, ih]
theorem leadL_off (m : Nat) {p : List α} (hp : p ≠ []) (h : s ∉ p) (r : List α) : leadL s (List.replicate m s ++ p ++ r) = m := by
  induction m with
  | zero =>
    cases p with
    | nil => exact absurd rfl hp
    | cons c q =>
      have : c ≠ s := fun e => h (by simp [e])
      simp [leadL_cons, this]
  | succ m ih =>
    rw [List.replicate_succ, List.cons_append, List.cons_append, leadL_cons, if_pos rfl]
    rw [ih]
theorem leadL_ends {f : List α} (h : EndsOff s f) (r : List α) : leadL s (f ++ r) = leadL s f := by
  obtain ⟨v, c, rfl, hc⟩ := h
  induction v with
  | nil => simp [leadL_cons, hc]
  | cons a v ih =>
    simp only [List.cons_append, leadL_cons]
    split
    · simpa using ih
    · rfl
end
end Mine
end

section
set_option linter.unusedSectionVars false
set_option linter.unusedSimpArgs false
namespace Mine
section
variable {α : Type} [DecidableEq α] {s d : α}

theorem splitL_ne (l : List α) : splitL s l ≠ [] := by
  cases l with
  | nil => simp [splitL]
  | cons c r => unfold splitL; split <;> simp
theorem splitL_app (a b : List α) : splitL s (a ++ s :: b) = splitL s a ++ splitL s b := by
  induction a with
  | nil => simp [splitL]
  | cons c r ih =>
    rw [List.cons_append, splitL, splitL, ih]
    obtain ⟨p, q, e⟩ := List.exists_cons_of_ne_nil (splitL_ne (s := s) r)
    rw [e]
    split <;> simp
theorem splitL_free {p : List α} (h : s ∉ p) : splitL s p = [p] := by
  induction p with
  | nil => rfl
  | cons c r ih =>
    have h1 : c ≠ s := fun e => h (e ▸ List.mem_cons_self ..)
    rw [splitL, if_neg h1, ih (fun e => h (List.mem_cons_of_mem _ e))]
    rfl
theorem piecesL_app (a b : List α) : piecesL s (a ++ s :: b) = piecesL s a ++ piecesL s b := by
  unfold piecesL
  rw [splitL_app, List.filter_append]
theorem piecesL_nil : piecesL s ([] : List α) = [] := by simp [piecesL, splitL]
theorem piecesL_cons (b : List α) : piecesL s (s :: b) = piecesL s b := by
  have := piecesL_app (s := s) [] b
  rw [piecesL_nil] at this
  simpa using this
theorem piecesL_rep (n : Nat) : piecesL s (List.replicate n s) = [] := by
  induction n with
  | zero => exact piecesL_nil
  | succ n ih => rw [List.replicate_succ, piecesL_cons, ih]
theorem piecesL_free {p : List α} (hp : p ≠ []) (h : s ∉ p) : piecesL s p = [p] := by
  unfold piecesL
  rw [splitL_free h]
  simp [hp]
theorem piecesL_repr (a : List α) (n : Nat) : piecesL s (a ++ List.replicate n s) = piecesL s a := by
  cases n with
  | zero => simp
  | succ n => rw [List.replicate_succ, piecesL_app, piecesL_rep, List.append_nil]
theorem piecesL_repl (n : Nat) (b : List α) : piecesL s (List.replicate n s ++ b) = piecesL s b := by
  induction n with
  | zero => simp
  | succ n ih => rw [List.replicate_succ, List.cons_append, piecesL_cons, ih]
theorem shape_pieces {f p : List α} {m n : Nat} (C : Canon s f m p n) : piecesL s (shape s f m p n) = piecesL s f ++ [p] := by
  show piecesL s (f ++ List.replicate m s ++ p ++ List.replicate n s) = _
  rw [piecesL_repr]
  rcases C.fol with rfl | ⟨hm, h⟩
  · rw [List.nil_append, piecesL_repl, piecesL_free C.ne C.free, piecesL_nil, List.nil_append]
  · cases m with
    | zero => omega
    | succ k =>
      rw [List.replicate_succ, List.append_assoc, List.cons_append, piecesL_app, piecesL_repl, piecesL_free C.ne C.free]
theorem shape_lead {f p : List α} {m n : Nat} (C : Canon s f m p n) : leadL s (shape s f m p n) = if f = [] then m else leadL s f := by
  show leadL s (f ++ List.replicate m s ++ p ++ List.replicate n s) = _
  rcases C.fol with rfl | ⟨hm, h⟩
  · rw [if_pos rfl, List.nil_append]
    exact leadL_off m C.ne C.free _
  · rw [if_neg (ends_ne h), List.append_assoc, List.append_assoc]
    exact leadL_ends h _

theorem restL_pieces (l : List α) : piecesL s (restL s l) = piecesL s l := by
  unfold restL
  match l with
  | [] => simp
  | [a] => by_cases h : a = s <;> simp [h, piecesL_cons]
  | a :: b :: r =>
    by_cases h : a = s
    · subst h
      by_cases h2 : b = a
      · subst h2
        simp only [List.take_succ_cons, List.take_zero, List.drop_succ_cons, List.drop_zero, ne_eq, not_true_eq_false, if_false, false_or]
        split <;> simp [piecesL_cons]
      · simp [h2, piecesL_cons]
    · simp [h]

theorem foldl_filter (root : List α) : ∀ (cs acc : List (List α)), cs.foldl (stepN d root) acc = (cs.filter fun c => decide (c ≠ []) && decide (c ≠ [d])).foldl (stepN d root) acc
  | [], _ => rfl
  | c :: r, acc => by
    rw [List.foldl_cons, List.filter_cons]
    by_cases h : c = [] ∨ c = [d]
    · have e : stepN d root acc c = acc := by unfold stepN; rw [if_pos h]
      have h' : (decide (c ≠ []) && decide (c ≠ [d])) = false := by rcases h with h | h <;> simp [h]
      rw [e, h']
      simp only [Bool.false_eq_true, if_false]
      exact foldl_filter root r acc
    · have h' : (decide (c ≠ []) && decide (c ≠ [d])) = true := by simp only [not_or] at h; simp [h]
      rw [h', if_pos rfl, List.foldl_cons]
      exact foldl_filter root r _
def keyL (s d : α) (l : List α) : List (List α) := (piecesL s l).filter fun c => decide (c ≠ [d])
theorem normL_eq (l : List α) : normL s d l = endN s d (rootL s l) (keyL s d l) := by
  unfold normL
  have e : ∀ root : List α, endN s d root (splitL s (restL s l)) = endN s d root (keyL s d l) := by
    intro root
    unfold endN keyL
    rw [foldl_filter root (splitL s (restL s l))]
    have : (splitL s (restL s l)).filter (fun c => decide (c ≠ []) && decide (c ≠ [d])) = (piecesL s l).filter fun c => decide (c ≠ [d]) := by
      rw [← restL_pieces, piecesL, List.filter_filter]
      congr 1
      funext c
      exact Bool.and_comm _ _
    rw [this]
  split
  · rename_i h
    subst h
    simp [keyL, piecesL_nil, endN, rootL, glueL]
  · exact e _
theorem normL_of {l l' : List α} (hr : rootL s l = rootL s l') (hk : keyL s d l = keyL s d l') : normL s d l = normL s d l' := by
  rw [normL_eq, normL_eq, hr, hk]

theorem free_take {p : List α} (h : s ∉ p) : p.take 1 ≠ [s] := by
  intro e
  exact h (List.mem_of_mem_take (i := 1) (e ▸ List.mem_singleton.mpr rfl))
theorem not_endsL {f : List α} (h : EndsOff s f) : ¬ endsL s f := by
  obtain ⟨v, c, rfl, hc⟩ := h
  unfold endsL
  simp
  exact hc
theorem rtL_lead (m : Nat) : ∃ k, rtL s m = List.replicate k s ∧ rtL s k = rtL s m := by
  match m with
  | 0 => exact ⟨0, rfl, rfl⟩
  | 1 => exact ⟨1, rfl, rfl⟩
  | 2 => exact ⟨2, rfl, rfl⟩
  | m + 3 => exact ⟨1, by simp [rtL], by simp [rtL]⟩

theorem norm_join (hsd : d ≠ s) (l : List α) : normL s d (joinL s (folderL s d l) (lastL s l)) = normL s d l := by
  rcases canon_cases s l with ⟨n, rfl⟩ | ⟨f, m, p, n, rfl, C⟩
  · rw [folderL_rep, lastL_rep]
    by_cases hn : n = 0
    · subst hn
      have e : joinL s (dueL s d 0) (rtL s 0) = [d] ++ s :: [] := by
        simp [joinL, dueL, rtL, endsL, hsd]
      rw [e]
      refine normL_of ?_ ?_
      · simp [rootL, hsd]
      · unfold keyL
        rw [piecesL_app, piecesL_nil, piecesL_free (by simp) (by simp; exact fun x => hsd x.symm)]
        simp [piecesL_nil]
    · have e : joinL s (dueL s d n) (rtL s n) = rtL s n := by
        unfold joinL
        rw [if_pos]
        left
        unfold rtL
        rw [if_neg hn]
        split <;> rfl
      rw [e]
      obtain ⟨k, hk, hk2⟩ := rtL_lead (s := s) n
      rw [hk]
      refine normL_of ?_ ?_
      · rw [rootL_rep, rootL_rep, hk2]
      · unfold keyL; rw [piecesL_rep, piecesL_rep]
  · rw [shape_folder C, shape_last C]
    have hp := free_take C.free
    have hL : rootL s (shape s f m p n) = rtL s (if f = [] then m else leadL s f) := by rw [rootL_lead, shape_lead C]
    have hK : keyL s d (shape s f m p n) = (piecesL s f ++ [p]).filter fun c => decide (c ≠ [d]) := by unfold keyL; rw [shape_pieces C]
    rcases C.fol with rfl | ⟨_, h⟩
    · rw [if_pos rfl] at hL ⊢
      by_cases hm : m = 0
      · subst hm
        have e : joinL s (dueL s d 0) p = [d] ++ s :: p := by
          unfold joinL
          rw [if_neg (by simp [hp, dueL]), if_neg (by simp [dueL, endsL, hsd])]
          simp [dueL]
        rw [e]
        refine normL_of ?_ ?_
        · rw [hL]; simp [rootL, hsd, rtL]
        · rw [hK]
          unfold keyL
          rw [piecesL_app, piecesL_free (p := [d]) (by simp) (by simp; exact fun x => hsd x.symm), piecesL_free C.ne C.free, piecesL_nil]
          simp
      · have hdue : dueL s d m = rtL s m := by unfold dueL rtL; rw [if_neg hm, if_neg hm]
        obtain ⟨k, hk, hk2⟩ := rtL_lead (s := s) m
        have e : joinL s (dueL s d m) p = List.replicate k s ++ p := by
          unfold joinL
          rw [hdue, if_neg, if_pos]
          · rw [hk]
          · unfold rtL
            rw [if_neg hm]
            split <;> simp [endsL]
          · rintro (x | x)
            · exact hp x
            · unfold rtL at x
              rw [if_neg hm] at x
              split at x <;> simp at x
        rw [e]
        refine normL_of ?_ ?_
        · rw [hL, rootL_lead]
          have := leadL_off k C.ne C.free ([] : List α)
          rw [List.append_nil] at this
          rw [this, hk2]
        · rw [hK]
          unfold keyL
          rw [piecesL_repl, piecesL_free C.ne C.free, piecesL_nil, List.nil_append]
    · have hf := ends_ne h
      rw [if_neg hf] at hL ⊢
      have e : joinL s f p = f ++ s :: p := by
        unfold joinL
        rw [if_neg (by simp [hp, hf]), if_neg (not_endsL h)]
      rw [e]
      refine normL_of ?_ ?_
      · rw [hL, rootL_lead, leadL_ends h]
      · rw [hK]
        unfold keyL
        rw [piecesL_app, piecesL_free C.ne C.free]

def Climb (s d : α) (names : List (List α)) (n₀ j : Nat) (thing : List α) : Prop :=
  (piecesL s thing = names.take j ∧ leadL s thing = n₀) ∨ (j = 0 ∧ thing = dueL s d n₀)
theorem climb_start (l : List α) : Climb s d (piecesL s l) (leadL s l) (piecesL s l).length l := .inl ⟨by simp, rfl⟩
theorem climb_step {names : List (List α)} {n₀ j : Nat} {thing : List α} (hj : j < names.length) (H : Climb s d names n₀ (j + 1) thing) :
    names[j]? = some (lastL s thing) ∧ Climb s d names n₀ j (folderL s d thing) := by
  rcases H with ⟨h1, h2⟩ | ⟨h, _⟩
  · have h3 : names.take (j + 1) = names.take j ++ [names[j]] := by rw [List.take_succ_eq_append_getElem hj]
    rcases canon_cases s thing with ⟨n, rfl⟩ | ⟨f, m, p, n, rfl, C⟩
    · rw [piecesL_rep, h3] at h1
      have hl := congrArg List.length h1
      rw [List.length_append] at hl
      simp only [List.length_nil, List.length_cons] at hl
      omega
    · rw [shape_pieces C, h3] at h1
      have h4 := List.append_inj' h1 rfl
      rw [shape_last C, shape_folder C]
      refine ⟨by rw [List.getElem?_eq_getElem hj]; have := h4.2; simp at this; rw [this], ?_⟩
      rw [shape_lead C] at h2
      rcases C.fol with rfl | ⟨_, h⟩
      · rw [if_pos rfl] at h2 ⊢
        right
        have := h4.1
        rw [piecesL_nil] at this
        have hl := congrArg List.length this
        simp at hl
        exact ⟨by omega, by rw [h2]⟩
      · rw [if_neg (ends_ne h)] at h2 ⊢
        exact .inl ⟨h4.1, h2⟩
  · omega
theorem climb_end {names : List (List α)} {n₀ : Nat} {thing : List α} (hsd : d ≠ s) (H : Climb s d names n₀ 0 thing) : folderL s d thing = dueL s d n₀ := by
  rcases H with ⟨h1, h2⟩ | ⟨_, rfl⟩
  · rcases canon_cases s thing with ⟨n, rfl⟩ | ⟨f, m, p, n, rfl, C⟩
    · rw [leadL_rep] at h2
      rw [folderL_rep, h2]
    · rw [shape_pieces C] at h1
      simp at h1
  · have hd : ∀ k, folderL s d (List.replicate k s) = dueL s d k := folderL_rep
    by_cases h0 : n₀ = 0
    · subst h0
      have C : Canon s [] 0 [d] 0 := ⟨by simp, by simp; exact fun x => hsd x.symm, .inl rfl⟩
      have := shape_folder (d := d) C
      simpa [shape, dueL] using this
    · by_cases h2 : n₀ = 2
      · subst h2
        have := hd 2
        simpa [dueL, List.replicate_succ] using this
      · have := hd 1
        simpa [dueL, h0, h2, List.replicate_succ] using this

section
variable {β : Type} [DecidableEq β] {g : α → β} (hg : ∀ a b, g a = g b → a = b)
include hg
theorem ends_map {f : List α} (h : EndsOff s f) : EndsOff (g s) (f.map g) := by
  obtain ⟨v, c, rfl, hc⟩ := h
  exact ⟨v.map g, g c, by simp, fun e => hc (hg _ _ e)⟩
theorem free_map {p : List α} (h : s ∉ p) : g s ∉ p.map g := by
  intro e
  obtain ⟨a, ha, e⟩ := List.mem_map.mp e
  exact h (hg _ _ e ▸ ha)
theorem canon_map {f p : List α} {m n : Nat} (C : Canon s f m p n) : Canon (g s) (f.map g) m (p.map g) n :=
  ⟨by simpa using C.ne, free_map hg C.free, C.fol.elim (fun e => .inl (by simp [e])) fun h => .inr ⟨h.1, ends_map hg h.2⟩⟩
theorem shape_map (f p : List α) (m n : Nat) : (shape s f m p n).map g = shape (g s) (f.map g) m (p.map g) n := by simp [shape]
theorem rtL_map (n : Nat) : (rtL s n).map g = rtL (g s) n := by
  unfold rtL; split; · rfl
  split <;> rfl
theorem dueL_map (n : Nat) : (dueL s d n).map g = dueL (g s) (g d) n := by
  unfold dueL; split; · rfl
  split <;> rfl
theorem lastL_map (l : List α) : lastL (g s) (l.map g) = (lastL s l).map g := by
  rcases canon_cases s l with ⟨n, rfl⟩ | ⟨f, m, p, n, rfl, C⟩
  · rw [List.map_replicate, lastL_rep, lastL_rep, rtL_map hg]
  · rw [shape_map hg, shape_last (canon_map hg C), shape_last C]
theorem folderL_map (l : List α) : folderL (g s) (g d) (l.map g) = (folderL s d l).map g := by
  rcases canon_cases s l with ⟨n, rfl⟩ | ⟨f, m, p, n, rfl, C⟩
  · rw [List.map_replicate, folderL_rep, folderL_rep, dueL_map hg]
  · rw [shape_map hg, shape_folder (canon_map hg C), shape_folder C]
    by_cases e : f = [] <;> simp [e, dueL_map hg]
theorem splitL_map (l : List α) : splitL (g s) (l.map g) = (splitL s l).map (List.map g) := by
  induction l with
  | nil => rfl
  | cons c r ih =>
    rw [List.map_cons, splitL, splitL, ih]
    obtain ⟨p, q, e⟩ := List.exists_cons_of_ne_nil (splitL_ne (s := s) r)
    rw [e]
    by_cases h : c = s
    · simp [h]
    · have : g c ≠ g s := fun e => h (hg _ _ e)
      simp [h, this]
theorem piecesL_map (l : List α) : piecesL (g s) (l.map g) = (piecesL s l).map (List.map g) := by
  unfold piecesL
  rw [splitL_map hg, List.filter_map]
  congr 1
  apply List.filter_congr
  intro x _
  simp
theorem leadL_map (l : List α) : leadL (g s) (l.map g) = leadL s l := by
  induction l with
  | nil => rfl
  | cons c r ih =>
    rw [List.map_cons, leadL_cons, leadL_cons, ih]
    by_cases h : c = s
    · simp [h]
    · have : g c ≠ g s := fun e => h (hg _ _ e)
      simp [h, this]
end
end
end Mine
end

section
open PySem PySem.W PySem.Spec PySem.Calls PyProof.Rows
set_option Elab.async false
set_option maxRecDepth 100000
namespace Mine

@[irreducible] def Ct (w : World) (D : Nat) (f : Addr) (vs : List Value) (R : Tok → Value) : Prop :=
  ∀ (mean : ExcName → Option Value) (mg mb : Str → Option Value) (dp un : Nat) (gd : Option (List Code)) (cn : Str) (cs : Scope) (a : Addr) (ccd : Value) (cl : List (Str × Addr)) (outer : List Env) (A₀ : Around) (base h₀ : Heap) (L : Addr) (m : Str → Option Value) (news : List (Addr × Obj)) (s : Shared) (Q E : Value → Shared → Prop),
    Below A₀ base outer h₀ → Fr h₀ L s.heap m → (Mine.hd.heap_39 w.params).In h₀ → News h₀ L s.heap news → Top Mine.hd.view_39 (looseW Mine.hd.view_39 []) mean mg mb h₀ → cs.kind = .function →
    dp + D < recursionLimit → un + 8 * D < cLine →
    (∀ (t : Tok) (h' : Heap) (tk' : Nat), Fr h₀ L h' m → News h₀ L h' news → Q (R t) { s with heap := h', toks := tk' }) →
    wpAny (model PySem.Challenge.rw_ab6017_01.row.prog w) (ktrTop dp un gd cn cs L a ccd cl outer) (call (.ref f) vs) Q E s

theorem news_sub {h₀ h : Heap} {L : Addr} {news news' : List (Addr × Obj)} (N : News h₀ L h news') (hs : ∀ p ∈ news, p ∈ news') : News h₀ L h news := cb_drop N hs


theorem ct_ret {h₀ h' : Heap} {L : Addr} {m : Str → Option Value} {news news' : List (Addr × Obj)} {s : Shared} {Q : Value → Shared → Prop} {R : Tok → Value} {v : Value} {tk' : Nat}
    (hret : ∀ (t : Tok) (h' : Heap) (tk' : Nat), Fr h₀ L h' m → News h₀ L h' news → Q (R t) { s with heap := h', toks := tk' })
    (F : Fr h₀ L h' m) (N : News h₀ L h' news') (hs : ∀ p ∈ news, p ∈ news') (e : ∃ t, v = R t) : Q v { s with heap := h', toks := tk' } := by
  obtain ⟨t, rfl⟩ := e
  exact hret t h' tk' F (news_sub N hs)


theorem ct_use {w : World} {D : Nat} {f : Addr} {vs : List Value} {R : Tok → Value} {mean : ExcName → Option Value} {mg mb : Str → Option Value} {dp un : Nat} {gd : Option (List Code)} {cn : Str} {cs : Scope} {a : Addr} {ccd : Value} {cl : List (Str × Addr)} {outer : List Env} {A₀ : Around} {base h₀ : Heap} {L : Addr} {m : Str → Option Value} {news : List (Addr × Obj)} {s : Shared} {Q E : Value → Shared → Prop}
    (C : Ct w D f vs R) (B : Below A₀ base outer h₀) (F : Fr h₀ L s.heap m) (X : (Mine.hd.heap_39 w.params).In h₀) (N : News h₀ L s.heap news) (T : Top Mine.hd.view_39 (looseW Mine.hd.view_39 []) mean mg mb h₀) (hk : cs.kind = .function)
    (hd : dp + D < recursionLimit) (hu : un + 8 * D < cLine)
    (ret : ∀ (t : Tok) (h' : Heap) (tk' : Nat), Fr h₀ L h' m → News h₀ L h' news → Q (R t) { s with heap := h', toks := tk' }) :
    wpAny (model PySem.Challenge.rw_ab6017_01.row.prog w) (ktrTop dp un gd cn cs L a ccd cl outer) (call (.ref f) vs) Q E s := by
  unfold Ct at C
  exact C _ _ _ _ _ _ _ _ _ _ _ _ _ _ _ _ _ _ _ _ _ B F X N T hk hd hu ret

end Mine
end

section
open PySem PySem.W PySem.Spec PySem.Calls PyProof.Rows
set_option Elab.async false
set_option maxRecDepth 100000
set_option maxHeartbeats 4000000
namespace Mine
theorem iss_ans {X Y : String} {b : Bool} {dep : Int} {tk : Tok} (hm : typeOf (.type Y) = pure (.type "type")) (hs : isSubtype (.type X) (.type Y) = pure b) :
    Meets (Builtin.«issubclass.nested» ⟨[.type X, .type Y, .int dep tk], []⟩) (fun _ R s => R (.ok (.ret (.bool b))) s) := by
  intro prog w A R s hq
  unfold Builtin.«issubclass.nested»
  refine wpAny_bind (wpAny_of_eq hm ?_)
  rw [if_pos (by decide)]
  k_delta "plainIsSubclass"
  refine wpAny_bind ?_
  refine wpAny_bind (m := isType (.type X)) (wpAny_pure ?_)
  refine wpAny_bind (m := isType (.type Y)) (wpAny_pure ?_)
  rw [if_pos (by decide)]
  exact wpAny_of_eq hs (wpAny_pure hq)

theorem plain_issubclass_nested : plainId "issubclass.nested" = true := by decide +kernel
theorem kind_issubclass_nested : builtinKind "issubclass.nested" = none := by decide +kernel
theorem args_issubclass_nested (a b c : Value) : argsOk "issubclass.nested" ⟨[a, b, c], []⟩ := by unfold argsOk; kernel_rfl

def issVals (X : String) : List String → Bool → Prop
  | [], b => b = false
  | Y :: r, b => typeOf (.type Y) = pure (.type "type") ∧ ∃ v, isSubtype (.type X) (.type Y) = pure v ∧ (if v then b = true else issVals X r b)

theorem iss_items {prog : Program} {w : World} {A : Around} {E : Value → Shared → Prop} {X : String} {dep : Int} : ∀ (cs : List String) (b : Bool) (s : Shared) (Q : Option Fin × Unit → Shared → Prop),
    issVals X cs b → (∀ tk, Q (if b then some (.done (.ret (.bool true))) else none, ()) { s with toks := tk }) →
    wpAny (model prog w) A (forIn (cs.map Value.type) ((none : Option Fin), ()) fun c _ => do
      if ← truthy (← call (.builtin "issubclass.nested") [.type X, c, rawInt (dep + 1)]) then
        let r ← ret (.bool true)
        pure (ForInStep.done (some r, ()))
      else pure (ForInStep.yield (none, ()))) Q E s
  | [], b, s, Q, e, h => by
    have e' : b = false := e
    subst e'
    exact wpAny_pure (h s.toks)
  | c :: cs, b, s, Q, e, h => by
    rw [List.map_cons, List.forIn_cons]
    obtain ⟨hm, v, hv, hr⟩ := e
    refine wpAny_bind (wpAny_bind (call_function_meets kind_issubclass_nested plain_issubclass_nested F.entry_issubclass_nested (args_issubclass_nested _ _ _) (iss_ans hm hv) ?_))
    show wpAny _ _ (truthy (.bool v) >>= _) _ _ _
    refine wpAny_bind (m := truthy (.bool v)) (wpAny_pure ?_)
    cases v with
    | true =>
      have hb : b = true := by simpa using hr
      subst hb
      exact wpAny_bind (wpAny_pure (wpAny_pure (wpAny_pure (h _))))
    | false =>
      exact wpAny_pure (iss_items cs b _ Q (by simpa using hr) fun tk => h tk)

theorem iss_tuple {X : String} {cs : List String} {tp : Addr} {dd : Option Addr} {n : Nat} {sl : Array (Option Value)} {b : Bool} {tk : Tok} (e : issVals X cs b) :
    Meets (Builtin.«issubclass.nested» ⟨[.type X, .ref tp, .int 0 tk], []⟩)
      (fun _ R s => (s.heap.get? tp = some ⟨.type "tuple", dd, .seq (cs.map Value.type).toArray n, sl⟩) ∧ ∀ tk', R (.ok (.ret (.bool b))) { s with toks := tk' }) := by
  intro prog w A R s hs
  obtain ⟨h, g, d, tt, os⟩ := s
  obtain ⟨htp, hq⟩ := hs
  have hT2 : (⟨h, g, d, tt, os⟩ : Shared).TypeIs (.ref tp) "tuple" := ⟨_, htp, rfl⟩
  have f1 := F.isi_sub_tuple
  unfold Builtin.«issubclass.nested»
  repeat (any_goals (first | assumption | wp_step))
  refine wpAny_arrayLoop ?_
  simp only [Option.getD_some, List.toList_toArray]
  refine iss_items (dep := 0) cs b _ _ e fun tk' => ?_
  cases b with
  | true =>
    simp only [if_true]
    repeat (any_goals (first | assumption | wp_step))
    exact hq tk'
  | false =>
    simp only [Bool.false_eq_true, if_false]
    repeat (any_goals (first | assumption | wp_step))
    exact hq tk'

theorem call_iss {prog : Program} {w : World} {A : Around} {E Q : Value → Shared → Prop} {s : Shared} {X : String} {cs : List String} {tp : Addr} {dd : Option Addr} {n : Nat} {sl : Array (Option Value)} {b : Bool} (e : issVals X cs b)
    (htp : s.heap.get? tp = some ⟨.type "tuple", dd, .seq (cs.map Value.type).toArray n, sl⟩) (h : ∀ tk, Q (.bool b) { s with toks := tk }) :
    wpAny (model prog w) A (call (.builtin "issubclass") [.type X, .ref tp]) Q E s :=
  call_issubclass (S := fun _ R s => (s.heap.get? tp = some ⟨.type "tuple", dd, .seq (cs.map Value.type).toArray n, sl⟩) ∧ ∀ tk', R (.ok (.ret (.bool b))) { s with toks := tk' })
    (fun _ _ _ _ _ hs => issubclass_outer (iss_tuple e _ _ _ _ _ hs)) ⟨htp, h⟩

theorem ty_str : typeOf (.type "str") = pure (.type "type") := kitMeta_of (by decide +kernel)
theorem ty_bytes : typeOf (.type "bytes") = pure (.type "type") := kitMeta_of (by decide +kernel)
theorem iss_str : issVals "str" ["str", "bytes"] true := ⟨ty_str, true, PySem.F.sub_str_str, rfl⟩
theorem iss_bytes : issVals "bytes" ["str", "bytes"] true := ⟨ty_str, false, PySem.F.sub_bytes_str, ty_bytes, true, PySem.F.sub_bytes_bytes, rfl⟩
end Mine
end

section
open PySem PySem.W PySem.Spec PySem.Calls PyProof.Rows
set_option Elab.async false
set_option maxRecDepth 100000
set_option maxHeartbeats 4000000
namespace Mine
local macro_rules | `(tactic| walk_at "call builtin:issubclass") => `(tactic| (k_here; k_dflt (first
  | (refine' call_iss iss_str (kitTp_N ?k1 ?k2) ?_; (case k1 => k_asm); (case k2 => k_mem); k_whole)
  | (refine' call_iss iss_bytes (kitTp_N ?k1 ?k2) ?_; (case k1 => k_asm); (case k2 => k_mem); k_whole)); intro _; (try dsimp only)))
local macro_rules | `(tactic| walk_at "call type:type") => `(tactic| ((with_reducible show wpAny _ _ (call _ [Value.bytes _ _]) _ _ _); refine call_type_of (Tx := "bytes") rfl (by decide +kernel) ?_))
theorem ct_fspath_str (w : World) (x : Str) (t : Tok) : Ct w 2 94 [.str x t] (fun _ => .str x t) := by
  unfold Ct
  k_fill
  intro mean mg mb dp un gd cn cs a ccd cl outer A₀ base h₀ L m news s Q E B F X N T hk hd hu hret
  refine wpAny_call ?_
  k_dflt cell_enter
  k_steps
  all_goals (refine' ct_ret hret ?e1 ?e2 ?e3 ?e4; (case e1 => k_asm); (case e2 => k_asm); (case e3 => kcj_all); (case e4 => exact ⟨0, rfl⟩))
theorem ct_fspath_bytes (w : World) (x : Array UInt8) (t : Tok) : Ct w 2 94 [.bytes x t] (fun _ => .bytes x t) := by
  unfold Ct
  k_fill
  intro mean mg mb dp un gd cn cs a ccd cl outer A₀ base h₀ L m news s Q E B F X N T hk hd hu hret
  refine wpAny_call ?_
  k_dflt cell_enter
  k_steps
  all_goals (refine' ct_ret hret ?e1 ?e2 ?e3 ?e4; (case e1 => k_asm); (case e2 => k_asm); (case e3 => kcj_all); (case e4 => exact ⟨0, rfl⟩))
theorem ct_get_sep_str (w : World) (x : Str) (t : Tok) : Ct w 2 108 [.str x t] (fun t' => .str (Str.ofString "/") t') := by
  unfold Ct
  k_fill
  intro mean mg mb dp un gd cn cs a ccd cl outer A₀ base h₀ L m news s Q E B F X N T hk hd hu hret
  refine wpAny_call ?_
  k_dflt cell_enter
  k_steps
  all_goals (refine' ct_ret hret ?e1 ?e2 ?e3 ?e4; (case e1 => k_asm); (case e2 => k_asm); (case e3 => kcj_all); (case e4 => exact ⟨_, rfl⟩))
theorem ct_get_sep_bytes (w : World) (x : Array UInt8) (t : Tok) : Ct w 2 108 [.bytes x t] (fun t' => .bytes (List.toArray [47]) t') := by
  unfold Ct
  k_fill
  intro mean mg mb dp un gd cn cs a ccd cl outer A₀ base h₀ L m news s Q E B F X N T hk hd hu hret
  refine wpAny_call ?_
  k_dflt cell_enter
  k_steps
  all_goals (refine' ct_ret hret ?e1 ?e2 ?e3 ?e4; (case e1 => k_asm); (case e2 => k_asm); (case e3 => kcj_all); (case e4 => exact ⟨_, rfl⟩))
end Mine
end

section
open PySem PySem.W PySem.Spec PySem.Calls PyProof.Rows PyProof Builtin Builtin.Str
set_option Elab.async false
set_option maxRecDepth 100000
set_option linter.unusedSectionVars false
set_option linter.unusedSimpArgs false
namespace Mine
@[reducible] def S (l : List Nat) : PySem.Str := ⟨l.toArray⟩
theorem S_len (l : List Nat) : (S l).length = l.length := by simp [PySem.Str.length, S]
theorem S_slash : PySem.Str.ofString "/" = S [47] := by decide +kernel
theorem S_inj {a b : List Nat} (h : S a = S b) : a = b := by
  have := congrArg (fun x : PySem.Str => x.cps.toList) h
  simpa using this
theorem S_eta (x : PySem.Str) : x = S x.cps.toList := by cases x; rfl

section
variable {α : Type} [DecidableEq α]
@[irreducible] def cutL (l : List α) (lo hi : Option Int) : List α := (l.drop (lo.elim 0 (clipAt l.length))).take (hi.elim l.length (clipAt l.length) - lo.elim 0 (clipAt l.length))
theorem clipAt_of {n : Nat} {i : Int} {k : Nat} (h : i = k) : clipAt n i = min k n := by subst h; exact clipAt_nat n k
theorem cut_take (l : List α) {i : Int} (k : Nat) (h : i = k) : cutL l none (some i) = l.take k := by
  unfold cutL
  simp only [Option.elim, List.drop_zero, Nat.sub_zero, clipAt_of h]
  by_cases hk : k ≤ l.length
  · rw [Nat.min_eq_left hk]
  · rw [Nat.min_eq_right (by omega), List.take_of_length_le (Nat.le_refl _), List.take_of_length_le (by omega)]
theorem cut_drop (l : List α) {i : Int} (k : Nat) (h : i = k) : cutL l (some i) none = l.drop k := by
  unfold cutL
  simp only [Option.elim, clipAt_of h]
  by_cases hk : k ≤ l.length
  · rw [Nat.min_eq_left hk, List.take_of_length_le (by rw [List.length_drop]; omega)]
  · rw [Nat.min_eq_right (by omega), List.drop_eq_nil_of_le (Nat.le_refl _), List.drop_eq_nil_of_le (by omega)]; simp
theorem cut_mid (l : List α) {i j : Int} (a b : Nat) (h : i = a) (h' : j = b) (hab : a ≤ b) : cutL l (some i) (some j) = (l.drop a).take (b - a) := by
  unfold cutL
  simp only [Option.elim, clipAt_of h, clipAt_of h']
  by_cases hk : a ≤ l.length
  · rw [Nat.min_eq_left hk]
    by_cases hb : b ≤ l.length
    · rw [Nat.min_eq_left hb]
    · rw [Nat.min_eq_right (by omega), List.take_of_length_le (by rw [List.length_drop]; omega), List.take_of_length_le (by rw [List.length_drop]; omega)]
  · have e1 : min a l.length = l.length := by omega
    rw [e1, List.drop_eq_nil_of_le (Nat.le_refl _), List.drop_eq_nil_of_le (by omega)]; simp
theorem cut_init (l : List α) : cutL l none (some (-1)) = l.take (l.length - 1) := by
  unfold cutL
  have : clipAt l.length (-1) = l.length - 1 := clipAt_neg l.length 1 (by omega)
  simp only [Option.elim, this, List.drop_zero, Nat.sub_zero]
theorem cut_final (l : List α) : cutL l (some (-1)) none = l.drop (l.length - 1) := by
  unfold cutL
  have : clipAt l.length (-1) = l.length - 1 := clipAt_neg l.length 1 (by omega)
  simp only [Option.elim, this]
  rw [List.take_of_length_le (by rw [List.length_drop]; omega)]
theorem cutL_len (l : List α) (lo hi : Option Int) : (cutL l lo hi).length ≤ l.length := by
  unfold cutL
  rw [List.length_take, List.length_drop]
  omega
end

theorem strSlice_plain (lo hi : Option Int) (n : Nat) : strSliceIndices lo hi 1 n = sliceRange ((lo.elim 0 (clipAt n) : Nat) : Int) ((hi.elim n (clipAt n) : Nat) : Int) 1 := by
  cases lo <;> cases hi <;> simp [strSliceIndices, clipAt_cast]
theorem slice_cut (l : List Nat) (lo hi : Option Int) : Txt.slice (S l) lo hi = S (cutL l lo hi) := by
  have key : (List.filterMap (fun i => (S l).cps[i]?) (strSliceIndices lo hi 1 (S l).length)) = cutL l lo hi := by
    rw [S_len, strSlice_plain, sliceRange_one, pick_run]
    unfold cutL
    rfl
  unfold Txt.slice
  split
  · rename_i h
    have hlen : (strSliceIndices lo hi 1 (S l).length).length = (S l).length := by simpa using h
    rw [S_len, strSlice_plain, sliceRange_one] at hlen
    simp only [List.length_map, List.length_range] at hlen
    have : cutL l lo hi = l := by
      have h1 : lo.elim 0 (clipAt l.length) = 0 ∧ hi.elim l.length (clipAt l.length) = l.length ∨ l.length = 0 := by
        have : hi.elim l.length (clipAt l.length) ≤ l.length := by
          cases hi with
          | none => exact Nat.le_refl _
          | some j =>
            have := clipAt_cast l.length j
            show clipAt l.length j ≤ l.length
            omega
        omega
      unfold cutL
      rcases h1 with ⟨h1, h2⟩ | h1
      · rw [h1, h2]; simp
      · have : l = [] := List.length_eq_zero_iff.mp h1
        subst this; simp
    rw [this]
  · rw [key]

/- rfind -/
theorem At_one (l : List Nat) (c i : Nat) : StrLaws.At (S l) (S [c]) (S l).length i ↔ l[i]? = some c := by
  have := StrLaws.subAt_one (S l) c i
  exact this
theorem rfind_last (l : List Nat) : Txt.rfind (S l) (S [47]) = (lastIx 47 l : Int) - 1 := by
  unfold Txt.rfind
  rcases StrLaws.last_spec (S l) (S [47]) with ⟨h1, h2⟩ | ⟨i, h1, h2, h3⟩
  · rw [h1]
    have : 47 ∉ l := by
      intro hm
      obtain ⟨i, hi⟩ := List.mem_iff_getElem?.mp hm
      exact h2 i ((At_one l 47 i).mpr hi)
    rw [lastIx_none 47 this]
    rfl
  · rw [h1]
    have hi := (At_one l 47 i).mp h2
    have hlt : i < l.length := by
      rcases List.getElem?_eq_some_iff.mp hi with ⟨h, _⟩
      exact h
    have e : l = l.take i ++ 47 :: l.drop (i + 1) := by
      have := List.getElem_cons_drop hlt
      rcases List.getElem?_eq_some_iff.mp hi with ⟨h, hx⟩
      rw [hx] at this
      rw [this, List.take_append_drop]
    have hfree : 47 ∉ l.drop (i + 1) := by
      intro hm
      obtain ⟨k, hk⟩ := List.mem_iff_getElem?.mp hm
      rw [List.getElem?_drop] at hk
      exact h3 (i + 1 + k) (by omega) ((At_one l 47 _).mpr hk)
    have : lastIx 47 l = i + 1 := by
      conv => lhs; rw [e]
      rw [lastIx_at 47 _ hfree, List.length_take]
      omega
    rw [this]
    simp
/- rstrip, strip, lstrip -/
theorem contains_slash (c : Nat) : (S [47]).cps.contains c = decide (c = 47) := by
  simp [S, eq_comm]
theorem rstrip_S (l : List Nat) : Txt.rstripChars (S l) (S [47]) = S (rsL 47 l) := by
  have hg : (fun c => (S [47]).cps.contains c) = fun c => decide (c = 47) := funext contains_slash
  have key : strSub (S l) 0 (stripHi (fun c => decide (c = 47)) true (S l) 0) = S (rsL 47 l) := by
    apply PySem.Str.ext'
    apply Array.toList_inj.mp
    rw [StrLaws.strSub_toList]
    obtain ⟨u, n, rfl, hu⟩ := rs_cases 47 l
    rw [rsL_off 47 n hu]
    have hk : (List.takeWhile (fun c => decide (c = 47)) (u ++ List.replicate n 47).reverse).length = n := by
      rw [List.reverse_append, List.reverse_replicate]
      have : ∀ (n : Nat) (r : List Nat), (r = [] ∨ ∃ c q, r = c :: q ∧ c ≠ 47) → (List.takeWhile (fun c => decide (c = 47)) (List.replicate n 47 ++ r)).length = n := by
        intro n r hr
        induction n with
        | zero =>
          rcases hr with rfl | ⟨c, q, rfl, hc⟩
          · rfl
          · simp [hc]
        | succ n ih =>
          rw [List.replicate_succ, List.cons_append, List.takeWhile_cons]
          simpa using ih
      refine this n _ ?_
      rcases hu with rfl | ⟨v, c, rfl, hc⟩
      · exact .inl rfl
      · exact .inr ⟨c, v.reverse, by simp, hc⟩
    unfold stripHi
    simp only [if_true, S_len]
    show ((u ++ List.replicate n 47).drop 0).take ((u ++ List.replicate n 47).length - (List.takeWhile _ (List.drop 0 (u ++ List.replicate n 47)).reverse).length - 0) = u
    rw [List.drop_zero, hk, List.length_append, List.length_replicate]
    simp
  unfold Txt.rstripChars Txt.stripBy
  have hg' : (S [47]).cps.contains = fun c => decide (c = 47) := hg
  rw [hg']
  unfold PySem.stripped stripSame
  have hlo : stripLo (fun c => decide (c = 47)) false (S l) = 0 := rfl
  rw [hlo]
  split
  · rename_i h
    simp only [beq_self_eq_true, Bool.true_and, beq_iff_eq] at h
    rw [← key, h]
    exact (StrLaws.sub_whole (S l)).symm
  · exact key
theorem lstrip_S (l : List Nat) : Txt.lstripChars (S l) (S [47]) = S (l.drop (leadL 47 l)) := by
  have hg' : (S [47]).cps.contains = fun c => decide (c = 47) := funext contains_slash
  unfold Txt.lstripChars Txt.stripBy
  rw [hg']
  have hlo : stripLo (fun c => decide (c = 47)) true (S l) = leadL 47 l := rfl
  have hle : leadL 47 l ≤ l.length := by unfold leadL; exact List.IsPrefix.length_le (List.takeWhile_prefix _)
  unfold PySem.stripped stripSame
  rw [hlo]
  have hhi : stripHi (fun c => decide (c = 47)) false (S l) (leadL 47 l) = l.length := by show (S l).length = _; exact S_len l
  rw [hhi]
  split
  · rename_i h
    simp only [Bool.and_eq_true, beq_iff_eq] at h
    rw [h.1]; rfl
  · apply PySem.Str.ext'
    apply Array.toList_inj.mp
    rw [StrLaws.strSub_toList]
    show (l.drop (leadL 47 l)).take (l.length - leadL 47 l) = l.drop (leadL 47 l)
    exact List.take_of_length_le (by rw [List.length_drop]; omega)
theorem strip_S (l : List Nat) : (Txt.stripChars (S l) (S [47]) == S []) = decide (∀ c ∈ l, c = 47) := by
  have hg' : (S [47]).cps.contains = fun c => decide (c = 47) := funext contains_slash
  unfold Txt.stripChars Txt.stripBy
  rw [hg']
  have hlo : stripLo (fun c => decide (c = 47)) true (S l) = leadL 47 l := rfl
  unfold PySem.stripped stripSame
  rw [hlo]
  have hhi : stripHi (fun c => decide (c = 47)) true (S l) (leadL 47 l) = l.length - (List.takeWhile (fun c => decide (c = 47)) (l.drop (leadL 47 l)).reverse).length := by
    unfold stripHi
    rw [S_len]
    rfl
  rw [hhi]
  by_cases hall : ∀ c ∈ l, c = 47
  · have hl : l = List.replicate l.length 47 := List.eq_replicate_of_mem hall
    have h1 : leadL 47 l = l.length := by rw [hl, leadL_rep, List.length_replicate]
    rw [decide_eq_true hall, h1, List.drop_length]
    rw [show (l.length - (List.takeWhile (fun c => decide (c = 47)) ([] : List Nat).reverse).length) = l.length from by simp]
    have h2 : strSub (S l) l.length l.length = S [] := by
      apply PySem.Str.ext'
      apply Array.toList_inj.mp
      rw [StrLaws.strSub_toList]
      simp
    by_cases hb : (l.length == 0 && l.length == (S l).length) = true
    · rw [if_pos hb]
      simp only [Bool.and_eq_true, beq_iff_eq] at hb
      have : l = [] := List.length_eq_zero_iff.mp hb.1
      subst this
      simp
    · rw [if_neg hb, h2]; simp
  · rw [decide_eq_false hall]
    have hne : (S l) ≠ S [] := by
      intro e
      have := S_inj e
      subst this
      exact hall (by simp)
    split
    · exact beq_eq_false_iff_ne.mpr hne
    · refine beq_eq_false_iff_ne.mpr ?_
      rcases canon_cases 47 l with ⟨n, rfl⟩ | ⟨f, m, p, n, rfl, C⟩
      · exact absurd (fun c hc => List.eq_of_mem_replicate hc) hall
      · intro e
        have h5 : EndsOff 47 (f ++ List.replicate m 47 ++ p) := core_ends C
        obtain ⟨v, c, hv, hc⟩ := h5
        have hsh : shape 47 f m p n = v ++ [c] ++ List.replicate n 47 := by show f ++ _ ++ p ++ _ = _; rw [hv]
        have hlead : leadL 47 (shape 47 f m p n) ≤ v.length := by
          rw [hsh, List.append_assoc]
          clear hsh e hne hv hhi hlo
          induction v with
          | nil => simp [leadL_cons, hc]
          | cons a v ih =>
            rw [List.cons_append, leadL_cons]
            split <;> simp <;> exact ih
        have htk : (List.takeWhile (fun c => decide (c = 47)) ((shape 47 f m p n).drop (leadL 47 (shape 47 f m p n))).reverse).length ≤ n := by
          generalize leadL 47 (shape 47 f m p n) = L at *
          rw [hsh, List.append_assoc, List.drop_append_of_le_length hlead, List.reverse_append, List.reverse_append, List.reverse_replicate]
          have : ∀ (n : Nat) (r : List Nat), (∃ c q, r = c :: q ∧ c ≠ 47) → (List.takeWhile (fun c => decide (c = 47)) (List.replicate n 47 ++ r)).length = n := by
            intro n r hr
            induction n with
            | zero =>
              obtain ⟨c, q, rfl, hc⟩ := hr
              simp [hc]
            | succ n ih =>
              rw [List.replicate_succ, List.cons_append, List.takeWhile_cons]
              simpa using ih
          rw [List.append_assoc, this n _ ⟨c, _, by simp; rfl, hc⟩]
          exact Nat.le_refl _
        have h6 := congrArg (fun x : PySem.Str => x.cps.toList.length) e
        simp only [StrLaws.strSub_toList, List.length_take, List.length_drop] at h6
        have h7 : (shape 47 f m p n).length = v.length + 1 + n := by rw [hsh]; simp; omega
        simp only [List.length_nil] at h6
        change min (_ - _ - _) ((shape 47 f m p n).length - _) = 0 at h6
        omega
theorem subAt_S (l m : List Nat) (i : Nat) : subAt (S l) (S m) i = ((l.drop i).take m.length == m) := by
  have := StrLaws.subAt_eq (S l) (S m) i
  rwa [S_len] at this
theorem starts_S (l : List Nat) : Txt.startswith (S l) (S [47]) = decide (l.take 1 = [47]) := by
  unfold Txt.startswith
  rw [subAt_S, S_len, S_len]
  cases l with
  | nil => simp
  | cons a r => by_cases h : a = 47 <;> simp [h]
theorem ends_S (l : List Nat) : Txt.endswith (S l) (S [47]) = decide (endsL 47 l) := by
  unfold Txt.endswith endsL
  rw [subAt_S, S_len, S_len]
  rcases List.eq_nil_or_concat l with rfl | ⟨v, c, rfl⟩
  · simp
  · by_cases h : c = 47 <;> simp [h]
theorem mul_S (n : Nat) : Txt.mul (S [47]) (n : Int) = S (List.replicate n 47) := by
  unfold Txt.mul
  by_cases h0 : n = 0
  · subst h0; rfl
  · rw [if_neg (by omega)]
    by_cases h1 : n = 1
    · subst h1; rfl
    · have : ((n : Int) == 1 || (S [47]).length == 0) = false := by
        have : ¬ (n : Int) = 1 := by omega
        simp [this, S_len]
      rw [this]
      simp only [Bool.false_eq_true, if_false, Int.toNat_natCast]
      congr 1
      have key : ∀ (n : Nat) (acc : List Nat), (List.replicate n (S [47]).cps).foldl (· ++ ·) acc.toArray = (acc ++ List.replicate n 47).toArray := by
        intro n
        induction n with
        | zero => intro acc; simp
        | succ n ih =>
          intro acc
          rw [List.replicate_succ, List.foldl_cons]
          have : acc.toArray ++ (S [47]).cps = (acc ++ [47]).toArray := by simp
          rw [this, ih, List.replicate_succ]
          simp
      have := key n []
      simpa using this
theorem mulOk (n : Nat) (hn : n ≤ 4096) : MulOk (S [47]) (n : Int) := by
  refine ⟨?_, fun _ _ => ?_, fun _ _ => ?_⟩
  · have h1 : ¬ (n : Int) < -(2 ^ 63 : Int) := by omega
    have h2 : ¬ (n : Int) ≥ 2 ^ 63 := by omega
    rw [decide_eq_false h1, decide_eq_false h2]; rfl
  · rw [S_len]
    intro h
    have h3 : (1 : Int) ≤ (2 ^ 63 - 1) / (n : Int) := by
      apply Int.le_ediv_of_mul_le <;> omega
    simp only [List.length_cons, List.length_nil] at h
    omega
  · unfold tooLong
    rw [S_len]
    simp
    rw [sizeLine_eq]
    omega
theorem notIn_S (l : List Nat) : (!!(Builtin.Str.occurrences (S l) (S [47]) 0 (S l).length 1).isEmpty) = decide (47 ∉ l) := by
  have := StrLaws.found_one (S l) 47
  have h2 : (!(Builtin.Str.occurrences (S l) (S [47]) 0 (S l).length 1).isEmpty) = decide (47 ∈ l) := this
  rw [h2]
  by_cases h : 47 ∈ l <;> simp [h]
/- join and split -/
theorem append_S (a b : List Nat) : S a ++ S b = S (a ++ b) := by
  apply PySem.Str.ext'
  rw [PySem.Str.cps_append]
  simp
theorem join_S (ps : List (List Nat)) : PySem.Str.join (S [47]) (ps.map S) = S (glueL 47 ps) := by
  induction ps with
  | nil => rfl
  | cons p q ih =>
    cases q with
    | nil => rfl
    | cons p' q' =>
      have e : PySem.Str.join (S [47]) ((p :: p' :: q').map S) = S p ++ S [47] ++ PySem.Str.join (S [47]) ((p' :: q').map S) := rfl
      rw [e, ih, append_S, append_S]
      simp [glueL]
theorem glue_split (l : List Nat) : glueL 47 (splitL 47 l) = l := by
  induction l with
  | nil => rfl
  | cons c r ih =>
    obtain ⟨p, q, e⟩ := List.exists_cons_of_ne_nil (splitL_ne (s := 47) r)
    rw [splitL, e]
    rw [e] at ih
    by_cases h : c = 47
    · simp [h, glueL] at ih ⊢
      exact ih
    · simp [h, glueL] at ih ⊢
      split at ih <;> simp_all
theorem split_uniq : ∀ (ps : List (List Nat)), ps ≠ [] → (∀ p ∈ ps, 47 ∉ p) → splitL 47 (glueL 47 ps) = ps
  | [], h, _ => absurd rfl h
  | [p], _, h => by simpa [glueL] using splitL_free (h p (List.mem_singleton.mpr rfl))
  | p :: p' :: q, _, h => by
    have e : glueL 47 (p :: p' :: q) = p ++ 47 :: glueL 47 (p' :: q) := by simp [glueL]
    rw [e, splitL_app, splitL_free (h p (List.mem_cons_self ..)), split_uniq (p' :: q) (by simp) (fun x hx => h x (List.mem_cons_of_mem _ hx))]
    rfl
theorem txt_split_ne (x y : PySem.Str) : Txt.split x y ≠ [] := by
  unfold Txt.split
  split
  · simp
  · split
    · simp
    · rw [StrLaws.partsBetween_eq]
      obtain ⟨p, r, e⟩ := StrLaws.partsFrom_ne x y.length 0 (occurrences x y 0 x.length (x.length + 1))
      rw [e]; simp
theorem split_S (l : List Nat) : Txt.split (S l) (S [47]) = (splitL 47 l).map S := by
  have h1 := StrLaws.join_split (S l) (S [47])
  have h2 := StrLaws.split_free (S l) 47
  have hne := txt_split_ne (S l) (S [47])
  generalize Txt.split (S l) (S [47]) = ys at *
  have e : ys = (ys.map (·.cps.toList)).map S := by
    rw [List.map_map]
    conv => lhs; rw [← List.map_id ys]
    apply List.map_congr_left
    intro y _
    exact S_eta y
  rw [e, join_S] at h1
  have h3 := S_inj h1
  rw [e]
  congr 1
  rw [← h3]
  refine (split_uniq _ (by simpa using hne) ?_).symm
  intro p hp
  obtain ⟨y, hy, rfl⟩ := List.mem_map.mp hp
  exact h2 y hy
end Mine
end

section
open PySem PySem.W PySem.Spec PySem.Calls PyProof.Rows PyProof Builtin
set_option Elab.async false
set_option maxRecDepth 100000
set_option linter.unusedSectionVars false
set_option linter.unusedSimpArgs false
namespace Mine
theorem slot_bytes_rfind : Slot "bytes" "rfind" "bytes.rfind" :=
  .of (owner := "bytes") (n := "rfind") (by rw [typeLookup_type, builtinLookup_eq_fast]; kernel_rfl) (by decide +kernel) (by decide +kernel) (by decide +kernel)
    (by first | exact .inl (by decide +kernel) | exact .inr (by decide +kernel)) (by rw [isSubtype_type]; kernel_rfl)
theorem type_bytes_rfind : typeOf (.builtin "bytes.rfind") = pure (.type "method_descriptor") := by show builtinType _ = _; rw [builtinType_eq_fast]; kernel_rfl
theorem entry_bytes_rfind : entryFor table "bytes.rfind" = some Builtin.«bytes.rfind» := entryFor_of_tree (by kernel_rfl)
theorem args_bytes_rfind_2 (a b : Value) : argsOk "bytes.rfind" ⟨[a, b], []⟩ := by
  unfold argsOk; rw [signature?_of (id := "bytes.rfind") (n := ['d', 'n', 'i', 'f', 'r']) (o := ['s', 'e', 't', 'y', 'b']) (by kernel_rfl) FB.owner_bytes]; kernel_rfl
theorem slot_bytes_rstrip : Slot "bytes" "rstrip" "bytes.rstrip" :=
  .of (owner := "bytes") (n := "rstrip") (by rw [typeLookup_type, builtinLookup_eq_fast]; kernel_rfl) (by decide +kernel) (by decide +kernel) (by decide +kernel)
    (by first | exact .inl (by decide +kernel) | exact .inr (by decide +kernel)) (by rw [isSubtype_type]; kernel_rfl)
theorem type_bytes_rstrip : typeOf (.builtin "bytes.rstrip") = pure (.type "method_descriptor") := by show builtinType _ = _; rw [builtinType_eq_fast]; kernel_rfl
theorem entry_bytes_rstrip : entryFor table "bytes.rstrip" = some Builtin.«bytes.rstrip» := entryFor_of_tree (by kernel_rfl)
theorem args_bytes_rstrip_2 (a b : Value) : argsOk "bytes.rstrip" ⟨[a, b], []⟩ := by
  unfold argsOk; rw [signature?_of (id := "bytes.rstrip") (n := ['p', 'i', 'r', 't', 's', 'r']) (o := ['s', 'e', 't', 'y', 'b']) (by kernel_rfl) FB.owner_bytes]; kernel_rfl
theorem slot_bytes_split : Slot "bytes" "split" "bytes.split" :=
  .of (owner := "bytes") (n := "split") (by rw [typeLookup_type, builtinLookup_eq_fast]; kernel_rfl) (by decide +kernel) (by decide +kernel) (by decide +kernel)
    (by first | exact .inl (by decide +kernel) | exact .inr (by decide +kernel)) (by rw [isSubtype_type]; kernel_rfl)
theorem type_bytes_split : typeOf (.builtin "bytes.split") = pure (.type "method_descriptor") := by show builtinType _ = _; rw [builtinType_eq_fast]; kernel_rfl
theorem entry_bytes_split : entryFor table "bytes.split" = some Builtin.«bytes.split» := entryFor_of_tree (by kernel_rfl)
theorem args_bytes_split_2 (a b : Value) : argsOk "bytes.split" ⟨[a, b], []⟩ := by
  unfold argsOk; rw [signature?_of (id := "bytes.split") (n := ['t', 'i', 'l', 'p', 's']) (o := ['s', 'e', 't', 'y', 'b']) (by kernel_rfl) FB.owner_bytes]; kernel_rfl
theorem slot_bytes_join : Slot "bytes" "join" "bytes.join" :=
  .of (owner := "bytes") (n := "join") (by rw [typeLookup_type, builtinLookup_eq_fast]; kernel_rfl) (by decide +kernel) (by decide +kernel) (by decide +kernel)
    (by first | exact .inl (by decide +kernel) | exact .inr (by decide +kernel)) (by rw [isSubtype_type]; kernel_rfl)
theorem type_bytes_join : typeOf (.builtin "bytes.join") = pure (.type "method_descriptor") := by show builtinType _ = _; rw [builtinType_eq_fast]; kernel_rfl
theorem entry_bytes_join : entryFor table "bytes.join" = some Builtin.«bytes.join» := entryFor_of_tree (by kernel_rfl)
theorem args_bytes_join_2 (a b : Value) : argsOk "bytes.join" ⟨[a, b], []⟩ := by
  unfold argsOk; rw [signature?_of (id := "bytes.join") (n := ['n', 'i', 'o', 'j']) (o := ['s', 'e', 't', 'y', 'b']) (by kernel_rfl) FB.owner_bytes]; kernel_rfl
theorem meth_bytes_rfind {M : Model} {A : Around} {E : Value → Shared → Prop} {s : Shared} {t : Tok} {b : Array UInt8} {pl : Sem Bool} {Q : Value × List Value → Shared → Prop} (h : Q (.builtin "bytes.rfind", [.bytes b t]) s) : wpAny M A (getMethod (.bytes b t) "rfind" pl) Q E s := by
  with_reducible exact KBd.method_of (.bytes b t) (typeIs_bytes _ _ _) slot_bytes_rfind type_bytes_rfind KBd.noRef h
theorem meth_bytes_rstrip {M : Model} {A : Around} {E : Value → Shared → Prop} {s : Shared} {t : Tok} {b : Array UInt8} {pl : Sem Bool} {Q : Value × List Value → Shared → Prop} (h : Q (.builtin "bytes.rstrip", [.bytes b t]) s) : wpAny M A (getMethod (.bytes b t) "rstrip" pl) Q E s := by
  with_reducible exact KBd.method_of (.bytes b t) (typeIs_bytes _ _ _) slot_bytes_rstrip type_bytes_rstrip KBd.noRef h
theorem meth_bytes_split {M : Model} {A : Around} {E : Value → Shared → Prop} {s : Shared} {t : Tok} {b : Array UInt8} {pl : Sem Bool} {Q : Value × List Value → Shared → Prop} (h : Q (.builtin "bytes.split", [.bytes b t]) s) : wpAny M A (getMethod (.bytes b t) "split" pl) Q E s := by
  with_reducible exact KBd.method_of (.bytes b t) (typeIs_bytes _ _ _) slot_bytes_split type_bytes_split KBd.noRef h
theorem meth_bytes_join {M : Model} {A : Around} {E : Value → Shared → Prop} {s : Shared} {t : Tok} {b : Array UInt8} {pl : Sem Bool} {Q : Value × List Value → Shared → Prop} (h : Q (.builtin "bytes.join", [.bytes b t]) s) : wpAny M A (getMethod (.bytes b t) "join" pl) Q E s := by
  with_reducible exact KBd.method_of (.bytes b t) (typeIs_bytes _ _ _) slot_bytes_join type_bytes_join KBd.noRef h
theorem meth_bytes_startswith {M : Model} {A : Around} {E : Value → Shared → Prop} {s : Shared} {t : Tok} {b : Array UInt8} {pl : Sem Bool} {Q : Value × List Value → Shared → Prop} (h : Q (.builtin "bytes.startswith", [.bytes b t]) s) : wpAny M A (getMethod (.bytes b t) "startswith" pl) Q E s := by
  with_reducible exact KBd.method_of (.bytes b t) (typeIs_bytes _ _ _) FB.slot_bytes_startswith FB.type_bytes_startswith KBd.noRef h
theorem meth_bytes_endswith {M : Model} {A : Around} {E : Value → Shared → Prop} {s : Shared} {t : Tok} {b : Array UInt8} {pl : Sem Bool} {Q : Value × List Value → Shared → Prop} (h : Q (.builtin "bytes.endswith", [.bytes b t]) s) : wpAny M A (getMethod (.bytes b t) "endswith" pl) Q E s := by
  with_reducible exact KBd.method_of (.bytes b t) (typeIs_bytes _ _ _) FB.slot_bytes_endswith FB.type_bytes_endswith KBd.noRef h

section
variable {b c : Array UInt8} {t u : Tok}
theorem searchArgs_eq {name : String} : Bytes.searchArgs .bytes name ⟨[.bytes b t, .bytes c u], []⟩ = pure (b, c, if ((Bytes.window b.size none none).2 - (Bytes.window b.size none none).1 < (c.size : Int)) then none else some ((Bytes.window b.size none none).1.toNat, (Bytes.window b.size none none).2.toNat)) := by
  unfold Bytes.searchArgs
  show (Bytes.buffer? _ (.bytes c u) >>= _) = _
  rw [KBy.buffer_eq]
  rfl
theorem window_none (n : Nat) : Bytes.window n none none = (0, (n : Int)) := by
  unfold Bytes.window
  simp only [Option.getD]
  rw [if_neg (by omega), if_neg (by omega), Int.min_self]
end

theorem lastIx_snoc {α : Type} [DecidableEq α] (s c : α) (l : List α) : lastIx s (l ++ [c]) = if c = s then l.length + 1 else lastIx s l := by
  by_cases h : c = s
  · subst h
    rw [if_pos rfl]
    exact lastIx_at c l (by simp)
  · rw [if_neg h]
    rcases cut_cases s l with hl | ⟨a, b, rfl, hb⟩
    · rw [lastIx_none s hl, lastIx_none s (by simp [hl]; exact fun e => h e.symm)]
    · rw [lastIx_at s a hb, show a ++ s :: b ++ [c] = a ++ s :: (b ++ [c]) by simp, lastIx_at s a (by simp [hb]; exact fun e => h e.symm)]
theorem find_congr {α : Type} {p q : α → Bool} : ∀ (l : List α), (∀ x ∈ l, p x = q x) → l.find? p = l.find? q
  | [], _ => rfl
  | a :: r, h => by
    rw [List.find?_cons, List.find?_cons, h a (List.mem_cons_self ..), find_congr r fun x hx => h x (List.mem_cons_of_mem _ hx)]
theorem list_snoc {α : Type} {P : List α → Prop} (h0 : P []) (h1 : ∀ l c, P l → P (l ++ [c])) (l : List α) : P l := by
  have : ∀ m : List α, P m.reverse := by
    intro m
    induction m with
    | nil => exact h0
    | cons c r ih => rw [List.reverse_cons]; exact h1 _ _ ih
  have := this l.reverse
  rwa [List.reverse_reverse] at this
theorem ext_one (l : List UInt8) (i : Nat) : (l.toArray.extract i (i + 1) == #[47]) = decide (l[i]? = some 47) := by
  have e : l.toArray.extract i (i + 1) = ((l.drop i).take 1).toArray := by simp
  rw [e]
  by_cases h : i < l.length
  · rw [List.getElem?_eq_getElem h, List.drop_eq_getElem_cons h]
    by_cases h2 : l[i] = 47
    · rw [h2]; simp
    · have : ([l[i]].toArray == #[47]) = false := by
        refine beq_eq_false_iff_ne.mpr fun e => h2 ?_
        simpa using e
      simp only [List.take_succ_cons, List.take_zero]
      rw [this]
      simp [h2]
  · rw [List.drop_eq_nil_of_le (by omega), List.getElem?_eq_none (by omega)]
    rfl
theorem find_last (l : List UInt8) : ((List.range l.length).reverse.find? fun i => decide (l[i]? = some 47)) = if lastIx 47 l = 0 then none else some (lastIx 47 l - 1) := by
  induction l using list_snoc with
  | h0 => rfl
  | h1 l c ih =>
    rw [List.length_append, List.length_singleton, List.range_succ, List.reverse_append, List.reverse_singleton, List.singleton_append, List.find?_cons, lastIx_snoc]
    have h1 : (l ++ [c])[l.length]? = some c := by simp
    rw [h1]
    by_cases h : c = 47
    · simp [h]
    · rw [if_neg h, ← ih]
      have : decide (some c = some 47) = false := decide_eq_false fun e => h (Option.some.inj e)
      rw [this]
      refine find_congr _ fun i hi => ?_
      have : i < l.length := by simpa using hi
      rw [List.getElem?_append_left this]
theorem rfindB (l : List UInt8) : Bytes.rfind? l.toArray #[47] 0 l.length = if lastIx 47 l = 0 then none else some (lastIx 47 l - 1) := by
  unfold Bytes.rfind?
  have e1 : (List.range (l.length + 1 - (0 + (#[47] : Array UInt8).size))).map (· + 0) = List.range l.length := by
    show (List.range (l.length + 1 - (0 + 1))).map (· + 0) = _
    simp
  rw [e1, ← find_last]
  refine find_congr _ fun i _ => ?_
  exact ext_one l i
section
variable {prog : Program} {w : World} {A : Around} {E : Value → Shared → Prop} {s : Shared} {t u : Tok} {l : List UInt8} {Q : Value → Shared → Prop}
theorem gives_rfind (l : List UInt8) (t u : Tok) : Gives (Builtin.«bytes.rfind» ⟨[.bytes l.toArray t, .bytes #[47] u], []⟩) (.int ((lastIx 47 l : Int) - 1)) := by
  refine .of_wp fun M A E s Q hq => ?_
  show wpAny M A (Bytes.searchArgs .bytes "rfind" ⟨[.bytes l.toArray t, .bytes #[47] u], []⟩ >>= fun r => _) _ E s
  refine wpAny_bind (wpAny_of_eq searchArgs_eq ?_)
  rw [window_none]
  have hsz : l.toArray.size = l.length := by simp
  simp only [hsz]
  have hres : ((if ((l.length : Nat) : Int) - 0 < ((#[47] : Array UInt8).size : Int) then none else some (Int.toNat 0, Int.toNat (l.length : Int))).bind fun (x : Nat × Nat) => if true = true then Bytes.rfind? l.toArray #[47] x.1 x.2 else Bytes.find? l.toArray #[47] x.1 x.2) = if lastIx 47 l = 0 then none else some (lastIx 47 l - 1) := by
    by_cases h0 : l.length = 0
    · have : l = [] := List.length_eq_zero_iff.mp h0
      subst this
      rfl
    · rw [if_neg (by show ¬ (l.length : Int) - 0 < 1; omega)]
      exact rfindB l
  show wpAny M A (match ((if ((l.length : Nat) : Int) - 0 < ((#[47] : Array UInt8).size : Int) then none else some (Int.toNat 0, Int.toNat (l.length : Int))).bind fun (x : Nat × Nat) => if true = true then Bytes.rfind? l.toArray #[47] x.1 x.2 else Bytes.find? l.toArray #[47] x.1 x.2) with | some i => retInt i | none => _) _ E s
  rw [hres]
  by_cases h : lastIx 47 l = 0
  · rw [if_pos h]
    rw [h] at hq
    exact wpAny_bind (wpAny_rule (wpAny_bind (wpAny_mkInt (wpAny_pure ⟨_, rfl, hq⟩))))
  · rw [if_neg h]
    have : ((lastIx 47 l - 1 : Nat) : Int) = (lastIx 47 l : Int) - 1 := by omega
    refine wpAny_bind (wpAny_mkInt (wpAny_pure ⟨_, rfl, ?_⟩))
    rw [this]
    exact hq
theorem rfind_bytes (h : ∀ t' k, Q (.int ((lastIx 47 l : Int) - 1) t') { s with toks := k }) : wpAny (model prog w) A (call (.builtin "bytes.rfind") [.bytes l.toArray t, .bytes #[47] u]) Q E s :=
  call_gives slot_bytes_rfind (typeIs_bytes s _ t) entry_bytes_rfind (args_bytes_rfind_2 _ _) (gives_rfind l t u) (h _ _)

theorem gives_rstrip (l : List UInt8) (t u : Tok) : Gives (Builtin.«bytes.rstrip» ⟨[.bytes l.toArray t, .bytes #[47] u], []⟩) (if (rsL 47 l).length = l.length then .val (.bytes (rsL 47 l).toArray t) else .bytes (rsL 47 l).toArray) := by
  refine .of_wp fun M A E s Q hq => ?_
  show wpAny M A (Bytes.bytesLike _ (.bytes #[47] u) >>= fun set => _) _ E s
  refine wpAny_bind (wpAny_of_eq KBd.like_eq ?_)
  refine wpAny_bind (wpAny_pure ?_)
  refine wpAny_bind (wpAny_of_eq (a := l.toArray) rfl ?_)
  have hc : (#[47] : Array UInt8).contains = fun c => decide (c = 47) := by
    funext c
    simp [eq_comm]
  have hk : (l.toArray.toList.reverse.dropWhile (#[47] : Array UInt8).contains).reverse = rsL 47 l := by
    rw [hc]
    rfl
  show wpAny M A (if ((l.toArray.toList.reverse.dropWhile (#[47] : Array UInt8).contains).reverse.length == l.toArray.size) = true then _ else (Bytes.Kind.new .bytes (l.toArray.toList.reverse.dropWhile (#[47] : Array UInt8).contains).reverse.toArray >>= fun v => ret v)) _ E s
  rw [hk]
  have hsz : l.toArray.size = l.length := by simp
  by_cases h : (rsL 47 l).length = l.length
  · rw [if_pos (by rw [hsz, h]; exact beq_self_eq_true _)]
    rw [if_pos h] at hq
    have hl : rsL 47 l = l := by
      obtain ⟨x, n, rfl, hx⟩ := rs_cases 47 l
      rw [rsL_off 47 n hx] at h ⊢
      have : n = 0 := by simp at h; omega
      subst this; simp
    rw [hl] at hq
    refine wpAny_bind (wpAny_rule ?_)
    refine wpAny_bind ?_
    show wpAny M A (typeOf (.bytes l.toArray t) >>= fun r => _) _ E s
    refine wpAny_bind (wpAny_typeOf (typeIs_bytes s _ t) ?_)
    exact wpAny_pure (wpAny_pure ⟨_, rfl, hq⟩)
  · rw [if_neg (by rw [hsz]; simpa using h)]
    rw [if_neg h] at hq
    exact wpAny_bind (wpAny_mkBytes (wpAny_pure ⟨_, rfl, hq.2⟩) hq.1)
theorem rsL_len {α : Type} [DecidableEq α] (s : α) (l : List α) : (rsL s l).length ≤ l.length := by
  obtain ⟨x, n, rfl, hx⟩ := rs_cases s l
  rw [rsL_off s n hx]; simp
theorem rstrip_bytes (hz : l.length ≤ 16777216) (h : ∀ t' k, Q (.bytes (rsL 47 l).toArray t') { s with toks := k }) : wpAny (model prog w) A (call (.builtin "bytes.rstrip") [.bytes l.toArray t, .bytes #[47] u]) Q E s := by
  refine call_gives slot_bytes_rstrip (typeIs_bytes s _ t) entry_bytes_rstrip (args_bytes_rstrip_2 _ _) (gives_rstrip l t u) ?_
  split
  · exact h _ _
  · refine ⟨?_, h _ _⟩
    have := rsL_len 47 l
    rw [sizeLine_eq]
    simp
    omega
end
end Mine
end

section
open PySem PySem.W PySem.Spec PySem.Calls PyProof.Rows PyProof Builtin
set_option Elab.async false
set_option maxRecDepth 100000
set_option linter.unusedSectionVars false
set_option linter.unusedSimpArgs false
namespace Mine
theorem isi_bytes_tuple {c : Array UInt8} {u : Tok} : isInstance (.bytes c u) (.type "tuple") = pure false := by
  have e : isInstance (.bytes c u) (.type "tuple") = isSubtype (.type "bytes") (.type "tuple") := rfl
  rw [e, PySem.F.sub_bytes_tuple]
section
variable {prog : Program} {w : World} {A : Around} {E : Value → Shared → Prop} {s : Shared} {t u : Tok} {l r : List UInt8} {Q : Value → Shared → Prop}
theorem gives_startswith (l : List UInt8) (t u : Tok) : Gives (Builtin.«bytes.startswith» ⟨[.bytes l.toArray t, .bytes #[47] u], []⟩) (.val (.bool (decide (l.take 1 = [47])))) := by
  refine .of_wp fun M A E s Q hq => ?_
  unfold Builtin.«bytes.startswith» Bytes.tailMatchM
  show wpAny M A (isInstance (.bytes #[47] u) (.type "tuple") >>= fun r => _) _ E s
  refine wpAny_bind (wpAny_of_eq isi_bytes_tuple ?_)
  show wpAny M A (Bytes.buffer? _ (.bytes #[47] u) >>= fun r => _) _ E s
  refine wpAny_bind (wpAny_of_eq KBy.buffer_eq ?_)
  refine wpAny_pure ⟨_, rfl, ?_⟩
  have e : (if (Bytes.window l.toArray.size none none).2 - (Bytes.window l.toArray.size none none).1 < ((#[47] : Array UInt8).size : Int) then false else if false = true then l.toArray.extract ((Bytes.window l.toArray.size none none).2.toNat - (#[47] : Array UInt8).size) (Bytes.window l.toArray.size none none).2.toNat == #[47] else l.toArray.extract (Bytes.window l.toArray.size none none).1.toNat ((Bytes.window l.toArray.size none none).1.toNat + (#[47] : Array UInt8).size) == #[47]) = decide (l.take 1 = [47]) := by
    rw [window_none]
    dsimp only
    cases l with
    | nil => rfl
    | cons c r =>
      rw [if_neg (by show ¬ (((c :: r).toArray.size : Nat) : Int) - 0 < 1; simp; omega)]
      simp only [Bool.false_eq_true, if_false]
      have := ext_one (c :: r) 0
      refine this.trans ?_
      simp
  rw [← e] at hq
  exact hq
theorem gives_endswith (l : List UInt8) (t u : Tok) : Gives (Builtin.«bytes.endswith» ⟨[.bytes l.toArray t, .bytes #[47] u], []⟩) (.val (.bool (decide (endsL 47 l)))) := by
  refine .of_wp fun M A E s Q hq => ?_
  unfold Builtin.«bytes.endswith» Bytes.tailMatchM
  show wpAny M A (isInstance (.bytes #[47] u) (.type "tuple") >>= fun r => _) _ E s
  refine wpAny_bind (wpAny_of_eq isi_bytes_tuple ?_)
  show wpAny M A (Bytes.buffer? _ (.bytes #[47] u) >>= fun r => _) _ E s
  refine wpAny_bind (wpAny_of_eq KBy.buffer_eq ?_)
  refine wpAny_pure ⟨_, rfl, ?_⟩
  have e : (if (Bytes.window l.toArray.size none none).2 - (Bytes.window l.toArray.size none none).1 < ((#[47] : Array UInt8).size : Int) then false else if true = true then l.toArray.extract ((Bytes.window l.toArray.size none none).2.toNat - (#[47] : Array UInt8).size) (Bytes.window l.toArray.size none none).2.toNat == #[47] else l.toArray.extract (Bytes.window l.toArray.size none none).1.toNat ((Bytes.window l.toArray.size none none).1.toNat + (#[47] : Array UInt8).size) == #[47]) = decide (endsL 47 l) := by
    rw [window_none]
    dsimp only
    rcases List.eq_nil_or_concat l with rfl | ⟨v, c, rfl⟩
    · rfl
    · rw [List.concat_eq_append]
      rw [if_neg (by show ¬ (((v ++ [c]).toArray.size : Nat) : Int) - 0 < 1; simp; omega)]
      simp only [if_true]
      have h1 : ((v ++ [c]).toArray.size : Int).toNat = v.length + 1 := by simp
      have h2 : (#[47] : Array UInt8).size = 1 := rfl
      rw [h1, h2, Nat.add_sub_cancel, ext_one]
      unfold endsL
      simp
  rw [← e] at hq
  exact hq
theorem startswith_bytes (h : ∀ k, Q (.bool (decide (l.take 1 = [47]))) { s with toks := k }) : wpAny (model prog w) A (call (.builtin "bytes.startswith") [.bytes l.toArray t, .bytes #[47] u]) Q E s :=
  call_gives FB.slot_bytes_startswith (typeIs_bytes s _ t) FB.entry_bytes_startswith (FB.args_bytes_startswith_2 _ _) (gives_startswith l t u) (h _)
theorem endswith_bytes (h : ∀ k, Q (.bool (decide (endsL 47 l))) { s with toks := k }) : wpAny (model prog w) A (call (.builtin "bytes.endswith") [.bytes l.toArray t, .bytes #[47] u]) Q E s :=
  call_gives FB.slot_bytes_endswith (typeIs_bytes s _ t) FB.entry_bytes_endswith (FB.args_bytes_endswith_2 _ _) (gives_endswith l t u) (h _)

theorem mul_bytes {n : Nat} (hn : 1 ≤ n) (hz : n ≤ 4096) (h : ∀ t' k, Q (.bytes (List.replicate n (47 : UInt8)).toArray t') { s with toks := k }) :
    wpAny (model prog w) A (binaryOp .Mult (.bytes #[47] t) (.int (n : Int) u)) Q E s := by
  refine bytes_mul_any (b := [47]) (by simp) (by omega) (by omega) (by simp) fun t' k => ?_
  have e : (List.replicate ((n : Int)).toNat [(47 : UInt8)]).flatten = List.replicate n 47 := by simp
  rw [e]
  exact h t' k
theorem slice_bytes {value slice : PySem.Expr} {h₀ : Heap} {L : Addr} {m : PySem.Str → Option Value} {news : List (Addr × Obj)} {a b : Value} {lo hi : Option Int} (hF : Fr h₀ L s.heap m) (hN : News h₀ L s.heap news) (hl : IsPart a lo) (hu : IsPart b hi) (hz : l.length ≤ 16777216) (e : cutL l lo hi = r)
    (h : ∀ h' t' k, Fr h₀ L h' m → News h₀ L h' news → Q (.bytes r.toArray t') { s with heap := h', toks := k })
    (hs : subscripted slice false (.bytes l.toArray t) (.ref s.heap.objs.size) = operate [.ref s.heap.objs.size, .bytes l.toArray t] (getItem (.bytes l.toArray t) (.ref s.heap.objs.size)) := by with_unfolding_all rfl)
    (ht : ∀ r, letTemporaryGo value (.bytes l.toArray t) r = pure () := by intro _; with_unfolding_all rfl) :
    wpAny (model prog w) A (subscriptTail value slice (.bytes l.toArray t) (.ref s.heap.objs.size)) Q E { s with heap := s.heap.push { cls := .type "slice", data := .fields #[a, b, .none] } } := by
  refine KBc.slice_K hF hN rfl hl hu (by rw [KBw.ints_length]; simpa using hz) (fun h' t' k F' N' _ => ?_) hs ht
  have e2 : KBy.picked l.toArray lo hi = r.toArray := by
    rw [KBc.picked_eq, ← e]
    simp [cutL]
  rw [e2]
  exact h h' t' k F' N'

/- split -/
def posL (k : Nat) : List UInt8 → List Nat
  | [] => []
  | c :: r => if c = 47 then k :: posL (k + 1) r else posL (k + 1) r
theorem occ_fold (L : List UInt8) : ∀ (rest pre : List UInt8) (acc : List Nat × Nat), L = pre ++ rest → acc.2 ≤ pre.length →
    ((List.range' pre.length rest.length).foldl (fun (acc : List Nat × Nat) i => if i ≥ acc.2 && L.toArray.extract i (i + (#[47] : Array UInt8).size) == #[47] then (i :: acc.1, i + (#[47] : Array UInt8).size) else acc) acc).1.reverse = acc.1.reverse ++ posL pre.length rest
  | [], pre, acc, _, _ => by simp [posL]
  | c :: r, pre, acc, h, ha => by
    rw [List.length_cons, List.range'_succ, List.foldl_cons]
    have hx : (L.toArray.extract pre.length (pre.length + (#[47] : Array UInt8).size) == #[47]) = decide (c = 47) := by
      have e1 := ext_one L pre.length
      have e2 : L[pre.length]? = some c := by rw [h]; simp
      rw [e2] at e1
      refine e1.trans ?_
      by_cases hc : c = 47 <;> simp [hc]
    have hg : decide (pre.length ≥ acc.2) = true := decide_eq_true ha
    rw [hx, hg, Bool.true_and]
    have hL : L = (pre ++ [c]) ++ r := by rw [h]; simp
    have hlen : pre.length + 1 = (pre ++ [c]).length := by simp
    by_cases hc : c = 47
    · rw [if_pos (by simp [hc])]
      have ih := occ_fold L r (pre ++ [c]) (pre.length :: acc.1, pre.length + (#[47] : Array UInt8).size) hL (by simp)
      rw [← hlen] at ih
      rw [ih]
      simp [posL, hc]
    · rw [if_neg (by simp [hc])]
      have ih := occ_fold L r (pre ++ [c]) acc hL (by omega)
      rw [← hlen] at ih
      rw [ih]
      simp [posL, hc]
theorem occ_pos (l : List UInt8) : Bytes.occurrences l.toArray #[47] 0 l.toArray.size = posL 0 l := by
  unfold Bytes.occurrences
  have e1 : (List.range (l.toArray.size + 1 - (0 + (#[47] : Array UInt8).size))).map (· + 0) = List.range' 0 l.length := by
    show (List.range (l.toArray.size + 1 - (0 + 1))).map (· + 0) = _
    simp [List.range_eq_range']
  rw [e1]
  have := occ_fold l l [] ([], 0) rfl (Nat.le_refl _)
  simpa using this
theorem between_fold (L : List UInt8) : ∀ (rest pre cur : List UInt8) (parts : Array (Array UInt8)), L = pre ++ cur ++ rest →
    (((posL (pre.length + cur.length) rest).foldl (fun (x : Array (Array UInt8) × Nat) p => (x.1.push (L.toArray.extract x.2 p), p + 1)) (parts, pre.length)).1.push
      (L.toArray.extract ((posL (pre.length + cur.length) rest).foldl (fun (x : Array (Array UInt8) × Nat) p => (x.1.push (L.toArray.extract x.2 p), p + 1)) (parts, pre.length)).2 L.toArray.size)).toList
    = parts.toList ++ ((cur ++ (splitL 47 rest).headD []) :: (splitL 47 rest).tail).map List.toArray
  | [], pre, cur, parts, h => by
    simp only [posL, List.foldl_nil, splitL]
    have : L.toArray.extract pre.length L.toArray.size = cur.toArray := by
      rw [h]; simp
    rw [this]
    simp
  | c :: r, pre, cur, parts, h => by
    by_cases hc : c = 47
    · have hp : posL (pre.length + cur.length) (c :: r) = (pre.length + cur.length) :: posL (pre.length + cur.length + 1) r := by simp [posL, hc]
      rw [hp, List.foldl_cons]
      have hx : L.toArray.extract pre.length (pre.length + cur.length) = cur.toArray := by rw [h]; simp
      dsimp only
      rw [hx]
      have ih := between_fold L r (pre ++ cur ++ [c]) [] (parts.push cur.toArray) (by rw [h]; simp)
      have hl : (pre ++ cur ++ [c]).length = pre.length + cur.length + 1 := by simp; omega
      rw [hl] at ih
      simp only [List.length_nil, Nat.add_zero] at ih
      rw [ih]
      obtain ⟨p, q, e⟩ := List.exists_cons_of_ne_nil (splitL_ne (s := (47 : UInt8)) r)
      simp [splitL, hc, e]
    · have hp : posL (pre.length + cur.length) (c :: r) = posL (pre.length + cur.length + 1) r := by simp [posL, hc]
      rw [hp]
      have ih := between_fold L r pre (cur ++ [c]) parts (by rw [h]; simp)
      have hl : pre.length + (cur ++ [c]).length = pre.length + cur.length + 1 := by simp; omega
      rw [hl] at ih
      rw [ih]
      simp [splitL, hc]
theorem between_split (l : List UInt8) : Bytes.between l.toArray 1 (posL 0 l) = (splitL 47 l).map List.toArray := by
  have := between_fold l l [] [] #[] rfl
  simp only [List.length_nil, Nat.add_zero, List.nil_append] at this
  unfold Bytes.between
  refine Eq.trans ?_ (this.trans ?_)
  · rfl
  · obtain ⟨p, q, e⟩ := List.exists_cons_of_ne_nil (splitL_ne (s := (47 : UInt8)) l)
    rw [e]; simp
theorem pos_nil : ∀ (l : List UInt8) (k : Nat), posL k l = [] → 47 ∉ l
  | [], _, _ => by simp
  | c :: r, k, h => by
    by_cases hc : c = 47
    · simp [posL, hc] at h
    · simp [posL, hc] at h
      have := pos_nil r _ h
      simp [this]; exact fun e => hc e.symm
theorem posL_len : ∀ (l : List UInt8) (k : Nat), (posL k l).length ≤ l.length
  | [], _ => Nat.le_refl _
  | c :: r, k => by
    have := posL_len r (k + 1)
    unfold posL
    split <;> simp <;> omega
end
end Mine
end

section
open PySem PySem.W PySem.Spec PySem.Calls PyProof.Rows PyProof Builtin
set_option Elab.async false
set_option maxRecDepth 100000
set_option linter.unusedSectionVars false
set_option linter.unusedSimpArgs false
set_option linter.unusedVariables false
namespace Mine
def mkS (l : List Nat) (t : Tok) : Value := .str (S l) t
def mkB (l : List UInt8) (t : Tok) : Value := .bytes l.toArray t
def VAre {α : Type} (mk : List α → Tok → Value) : List Value → List (List α) → Prop
  | [], [] => True
  | v :: vs, x :: xs => (∃ t, v = mk x t) ∧ VAre mk vs xs
  | _, _ => False
theorem VAre.length {α : Type} {mk : List α → Tok → Value} : ∀ {vs : List Value} {xs : List (List α)}, VAre mk vs xs → vs.length = xs.length
  | [], [], _ => rfl
  | v :: vs, x :: xs, h => by rw [List.length_cons, List.length_cons, VAre.length h.2]
  | [], _ :: _, h => h.elim
  | _ :: _, [], h => h.elim
theorem VAre.get {α : Type} {mk : List α → Tok → Value} : ∀ {vs : List Value} {xs : List (List α)}, VAre mk vs xs → ∀ (i : Nat) (x : List α), xs[i]? = some x → ∃ t, vs[i]? = some (mk x t)
  | [], [], _, i, x, e => by simp at e
  | v :: vs, x :: xs, h, 0, y, e => by
    obtain ⟨t, rfl⟩ := h.1
    have : x = y := by simpa using e
    exact ⟨t, by simp [this]⟩
  | v :: vs, x :: xs, h, i + 1, y, e => by
    obtain ⟨t, ht⟩ := h.2.get i y (by simpa using e)
    exact ⟨t, by simpa using ht⟩
  | [], _ :: _, h, _, _, _ => h.elim
  | _ :: _, [], h, _, _, _ => h.elim
theorem VAre.app {α : Type} {mk : List α → Tok → Value} {x : List α} {t : Tok} : ∀ {vs : List Value} {xs : List (List α)}, VAre mk vs xs → VAre mk (vs ++ [mk x t]) (xs ++ [x])
  | [], [], _ => ⟨⟨t, rfl⟩, trivial⟩
  | v :: vs, y :: xs, h => ⟨h.1, h.2.app⟩
  | [], _ :: _, h => h.elim
  | _ :: _, [], h => h.elim
theorem VAre.dropLast {α : Type} {mk : List α → Tok → Value} : ∀ {vs : List Value} {xs : List (List α)}, VAre mk vs xs → VAre mk vs.dropLast xs.dropLast
  | [], [], _ => trivial
  | [v], [y], h => trivial
  | v :: v' :: vs, y :: y' :: xs, h => ⟨h.1, VAre.dropLast h.2⟩
  | [], _ :: _, h => h.elim
  | _ :: _, [], h => h.elim
  | [_], _ :: _ :: _, h => h.2.elim
  | _ :: _ :: _, [_], h => h.2.elim
theorem VAre.strs : ∀ {l : List (PySem.Str × Tok)} {xs : List (List Nat)}, l.map (·.1) = xs.map S → VAre mkS (strValues l) xs
  | [], [], _ => trivial
  | (a, t) :: l, x :: xs, h => by
    simp only [List.map_cons, List.cons.injEq] at h
    exact ⟨⟨t, by show Value.str a t = Value.str (S x) t; rw [h.1]⟩, VAre.strs h.2⟩
  | [], _ :: _, h => by simp at h
  | _ :: _, [], h => by simp at h

section
variable {prog : Program} {w : World} {A : Around} {E : Value → Shared → Prop} {s : Shared} {t u : Tok} {l r : List UInt8} {Q : Value → Shared → Prop}
theorem mapM_new {M : Model} : ∀ (xs : List (List UInt8)) (s : Shared) (Q : List Value → Shared → Prop), (∀ x ∈ xs, x.length ≤ 16777216) → (∀ vs k, VAre mkB vs xs → Q vs { s with toks := k }) →
    wpAny M A ((xs.map List.toArray).mapM (Bytes.Kind.new .bytes)) Q E s
  | [], s, Q, _, h => by rw [List.map_nil, List.mapM_nil]; exact wpAny_pure (h [] s.toks trivial)
  | x :: r, s, Q, hx, h => by
    rw [List.map_cons, List.mapM_cons]
    refine wpAny_bind ?_
    show wpAny M A (mkBytes x.toArray) _ E s
    refine wpAny_mkBytes (wpAny_bind (mapM_new r _ _ (fun y hy => hx y (List.mem_cons_of_mem _ hy)) fun vs k hv => wpAny_pure (h _ k ⟨⟨_, rfl⟩, hv⟩))) ?_
    have := hx x (List.mem_cons_self ..)
    rw [sizeLine_eq]; simpa using this
theorem bindOpt (t u : Tok) (b : Array UInt8) : Bytes.bindOptional "bytes.split" "split" ["sep", "maxsplit"] [.bytes b u] [] = pure [some (.bytes b u), none] := by kernel_rfl
theorem splitL_le (l : List UInt8) : ∀ p ∈ splitL 47 l, p.length ≤ l.length := by
  induction l with
  | nil => simp [splitL]
  | cons c r ih =>
    obtain ⟨p, q, e⟩ := List.exists_cons_of_ne_nil (splitL_ne (s := (47 : UInt8)) r)
    rw [e] at ih
    intro x hx
    by_cases hc : c = 47
    · rw [splitL, if_pos hc, e] at hx
      rcases List.mem_cons.mp hx with rfl | hx
      · simp
      · have := ih x hx; simp; omega
    · rw [splitL, if_neg hc, e] at hx
      rcases List.mem_cons.mp hx with rfl | hx
      · have := ih p (List.mem_cons_self ..); simp; omega
      · have := ih x (List.mem_cons_of_mem _ hx); simp; omega
theorem splitL_count {α : Type} [DecidableEq α] (s : α) (l : List α) : (splitL s l).length ≤ l.length + 1 := by
  induction l with
  | nil => simp [splitL]
  | cons c r ih =>
    obtain ⟨p, q, e⟩ := List.exists_cons_of_ne_nil (splitL_ne (s := s) r)
    rw [e] at ih
    unfold splitL
    split
    · rw [e]; simp at ih ⊢; omega
    · rw [e]; simp at ih ⊢; omega
theorem meets_bsplit (l : List UInt8) (hz : l.length ≤ 4096) (t u : Tok) : Meets (Builtin.«bytes.split» ⟨[.bytes l.toArray t, .bytes #[47] u], []⟩)
    (fun _ R s => ∀ vs k, VAre mkB vs (splitL 47 l) → R (.ok (.ret (.ref s.heap.objs.size))) { s with heap := s.heap.push { cls := .type "list", data := .seq vs.toArray }, toks := k }) := by
  refine .of_wp fun prog w A R s hS => ?_
  show wpAny _ _ (Bytes.bindOptional "bytes.split" "split" ["sep", "maxsplit"] [.bytes #[47] u] [] >>= fun r => _) _ _ s
  refine wpAny_bind (wpAny_of_eq (bindOpt t u #[47]) ?_)
  refine wpAny_bind (wpAny_pure ?_)
  refine wpAny_bind (wpAny_of_eq (a := l.toArray) rfl ?_)
  show wpAny _ _ (Bytes.bytesLike _ (.bytes #[47] u) >>= fun r => _) _ _ s
  refine wpAny_bind (wpAny_of_eq KBd.like_eq ?_)
  have hpl : ((Bytes.occurrences l.toArray #[47] 0 l.toArray.size).take (l.toArray.size + 1)) = posL 0 l := by
    rw [occ_pos]
    refine List.take_of_length_le ?_
    have := posL_len l 0
    simp
    omega
  refine wpAny_ite (KBy.ite_no (by decide) ?_)
  show wpAny _ _ (if ((Bytes.occurrences l.toArray #[47] 0 l.toArray.size).take (l.toArray.size + 1)).isEmpty = true then _ else (Bytes.between l.toArray 1 ((Bytes.occurrences l.toArray #[47] 0 l.toArray.size).take (l.toArray.size + 1))).mapM (Bytes.Kind.new .bytes) >>= fun vs => newList vs >>= fun v => ret v) _ _ s
  rw [hpl]
  by_cases he : posL 0 l = []
  · have hf := pos_nil l 0 he
    rw [he]
    refine wpAny_ite (KBc.ite_yes rfl ?_)
    refine wpAny_bind (wpAny_rule ?_)
    refine wpAny_bind ?_
    show wpAny _ _ (typeOf (.bytes l.toArray t) >>= fun r => _) _ _ s
    refine wpAny_bind (wpAny_typeOf (typeIs_bytes s _ t) ?_)
    refine wpAny_pure ?_
    refine wpAny_bind (wpAny_newList ?_ (by rw [sizeLine_eq]; simp))
    refine wpAny_pure ⟨_, rfl, ?_⟩
    exact hS [.bytes l.toArray t] s.toks (by rw [splitL_free hf]; exact ⟨⟨t, rfl⟩, trivial⟩)
  · refine wpAny_ite (KBy.ite_no (by simpa using he) ?_)
    rw [between_split]
    refine wpAny_bind (mapM_new _ _ _ (fun x hx => by have := splitL_le l x hx; omega) fun vs k hv => ?_)
    refine wpAny_bind (wpAny_newList ?_ ?_)
    · exact wpAny_pure ⟨_, rfl, hS vs k hv⟩
    · rw [hv.length, sizeLine_eq]
      have := splitL_count (47 : UInt8) l
      omega
theorem split_bytes {h₀ : Heap} {L : Addr} {m : PySem.Str → Option Value} {news : List (Addr × Obj)} (F : Fr h₀ L s.heap m) (N : News h₀ L s.heap news) (hz : l.length ≤ 4096)
    (h : ∀ vs h' k, VAre mkB vs (splitL 47 l) → Fr h₀ L h' m → News h₀ L h' ((s.heap.objs.size, { cls := .type "list", data := .seq vs.toArray }) :: news) → Q (.ref s.heap.objs.size) { s with heap := h', toks := k }) :
    wpAny (model prog w) A (call (.builtin "bytes.split") [.bytes l.toArray t, .bytes #[47] u]) Q E s :=
  call_meets slot_bytes_split (typeIs_bytes s _ t) entry_bytes_split (args_bytes_split_2 _ _) (meets_bsplit l hz t u) fun vs k hv => h vs _ k hv (F.push _) (N.push F _)
theorem split_str {x : List Nat} {h₀ : Heap} {L : Addr} {m : PySem.Str → Option Value} {news : List (Addr × Obj)} (F : Fr h₀ L s.heap m) (N : News h₀ L s.heap news) (hz : x.length ≤ 4096)
    (h : ∀ vs h' k, VAre mkS vs (splitL 47 x) → Fr h₀ L h' m → News h₀ L h' ((s.heap.objs.size, { cls := .type "list", data := .seq vs.toArray }) :: news) → Q (.ref s.heap.objs.size) { s with heap := h', toks := k }) :
    wpAny (model prog w) A (call (.builtin "str.split") [.str (S x) t, .str (S [47]) u]) Q E s :=
  splitN1 F N rfl (fun l h' k hl F' N' => h _ h' k (VAre.strs (hl.trans (split_S x))) F' N') (by rw [S_len, sizeLine_eq]; omega)
end
end Mine
end

section
open PySem PySem.W PySem.Spec PySem.Calls PyProof.Rows PyProof Builtin
set_option Elab.async false
set_option maxRecDepth 100000
set_option linter.unusedSectionVars false
set_option linter.unusedSimpArgs false
set_option linter.unusedVariables false
namespace Mine
theorem jm_not {β : Type} (items : Array Value) (f : Value → β) (g : Array Value → β) (h : items.size ≠ 1) : Bytes.joinM.match_1 (fun _ => β) items f g = g items := by
  unfold Bytes.joinM.match_1
  first
  | (simp [h]; done)
  | (split <;> simp_all)
theorem jm_other {M : Model} {A : Around} {E : Value → Shared → Prop} {s : Shared} {Q : PySem.Fin → Shared → Prop} (items : Array Value) (f : Value → Sem PySem.Fin) (g : Array Value → Sem PySem.Fin) (h : items.size ≠ 1) (hg : wpAny M A (g items) Q E s) :
    wpAny M A (Bytes.joinM.match_1 (fun _ => Sem PySem.Fin) items f g) Q E s := by
  rw [jm_not items f g h]; exact hg
theorem takeQuiet_eq {id : String} {b : Array UInt8} {t : Tok} : Bytes.takeBufferQuiet? id (.bytes b t) 0 = pure (some (b, none)) := by
  have h : Bytes.takeBuffer? id (.bytes b t) 0 = pure (some (b, none)) := by
    unfold Bytes.takeBuffer?
    rw [KBy.special_eq KBy.look_buffer, KBy.own_buffer]
    show (Bytes.buffer? id (.bytes b t) false >>= _) = _
    rw [KBy.buffer_eq]
    rfl
  unfold Bytes.takeBufferQuiet?
  rw [h]
  rfl
theorem for_range {β : Type} {M : Model} {A : Around} {E : Value → Shared → Prop} {s : Shared} {n : Nat} {f : Nat → β → Sem (ForInStep β)} {b : β} {Q : β → Shared → Prop} (I : Nat → β → Prop) (h0 : I 0 b)
    (step : ∀ i b, i < n → I i b → wpAny M A (f i b) (fun r s' => s' = s ∧ ∃ b', r = .yield b' ∧ I (i + 1) b') E s) (done : ∀ b, I n b → Q b s) : wpAny M A (forIn [:n] b f) Q E s := by
  rw [Std.Legacy.Range.forIn_eq_forIn_range']
  have key : ∀ (m k : Nat) (b : β), k + m = n → I k b → wpAny M A (forIn (List.range' k m) b f) Q E s := by
    intro m
    induction m with
    | zero =>
      intro k b hk hb
      have : k = n := by omega
      subst this
      exact wpAny_pure (done b hb)
    | succ m ih =>
      intro k b hk hb
      rw [List.range'_succ, List.forIn_cons]
      refine wpAny_bind (wpAny_mono (step k b (by omega) hb) (fun r s' h => ?_) fun _ _ e => e)
      obtain ⟨rfl, b', rfl, hb'⟩ := h
      exact ih (k + 1) b' (by omega) hb'
  have e : ([:n] : Std.Legacy.Range).size = n := by simp [Std.Legacy.Range.size]
  rw [e]
  exact key n 0 b (by simp) h0
theorem joinLetGo_ok {M : Model} {A : Around} {E : Value → Shared → Prop} {s : Shared} {Q : Unit → Shared → Prop} {keep : List Value} : ∀ (vs : List Value), Q () s → wpAny M A (Bytes.joinLetGo (vs.map fun v => (v, none)) keep) Q E s
  | [], h => wpAny_pure h
  | v :: r, h => by
    rw [List.map_cons]
    unfold Bytes.joinLetGo
    exact wpAny_bind (wpAny_letGo (joinLetGo_ok r h))
theorem glue_cons {α : Type} [DecidableEq α] (s : α) : ∀ (p : List α) (q : List (List α)), glueL s (p :: q) = p ++ (q.map (s :: ·)).flatten
  | p, [] => by simp [glueL]
  | p, p' :: q => by
    have e : glueL s (p :: p' :: q) = p ++ s :: glueL s (p' :: q) := by simp [glueL]
    rw [e, glue_cons s p' q]
    simp
theorem joined_eq (xs : List (List UInt8)) : Bytes.joined #[47] (xs.map List.toArray) = (glueL 47 xs).toArray := by
  unfold Bytes.joined
  cases xs with
  | nil => rfl
  | cons p q =>
    have key : ∀ (q : List (List UInt8)) (k : Nat) (acc : List UInt8), 1 ≤ k → (((q.map List.toArray).zipIdx k).foldl (fun (out : Array UInt8) (x : Array UInt8 × Nat) => (if x.2 > 0 then out ++ (#[47] : Array UInt8) else out) ++ x.1) acc.toArray) = (acc ++ (q.map ((47 : UInt8) :: ·)).flatten).toArray := by
      intro q
      induction q with
      | nil => intro k acc _; simp
      | cons p r ih =>
        intro k acc hk
        rw [List.map_cons, List.zipIdx_cons, List.foldl_cons]
        dsimp only
        rw [if_pos (show k > 0 from hk)]
        have : acc.toArray ++ (#[47] : Array UInt8) ++ p.toArray = (acc ++ (47 :: p)).toArray := by simp
        rw [this, ih (k + 1) _ (by omega)]
        simp
    rw [List.map_cons, List.zipIdx_cons, List.foldl_cons]
    dsimp only
    rw [if_neg (by omega)]
    have : (#[] : Array UInt8) ++ p.toArray = p.toArray := by simp
    rw [this, key q 1 p (Nat.le_refl _), glue_cons]
theorem total_eq (xs : List (List UInt8)) (h : xs ≠ []) : ((xs.map List.toArray).toArray.foldl (fun a (x : Array UInt8) => a + x.size) ((#[47] : Array UInt8).size * (((xs.map List.toArray).toArray).size - 1))) = (glueL 47 xs).length := by
  cases xs with
  | nil => exact absurd rfl h
  | cons p q =>
    rw [glue_cons]
    have key : ∀ (r : List (List UInt8)) (a : Nat), (r.map List.toArray).toArray.foldl (fun a (x : Array UInt8) => a + x.size) a = a + (r.map List.length).sum := by
      intro r a
      rw [List.foldl_toArray]
      induction r generalizing a with
      | nil => simp
      | cons p r ih => rw [List.map_cons, List.foldl_cons, ih]; simp; omega
    rw [key]
    have hs : ((q.map ((47 : UInt8) :: ·)).flatten).length = (q.map List.length).sum + q.length := by
      induction q with
      | nil => rfl
      | cons p r ih => rw [List.map_cons, List.flatten_cons, List.length_append, ih (by simp)]; simp; omega
    rw [List.length_append, hs]
    simp
    omega
section
variable {prog : Program} {w : World} {A : Around} {E : Value → Shared → Prop} {s : Shared} {t u : Tok} {l r : List UInt8} {Q : Value → Shared → Prop}
theorem VAre.not_heap : ∀ {vs : List Value} {xs : List (List UInt8)}, VAre mkB vs xs → (vs.map fun v => ((v, none) : Value × Option Value)).any (fun x => x.1.onHeap) = false
  | [], [], _ => rfl
  | v :: vs, x :: xs, h => by
    obtain ⟨t, rfl⟩ := h.1
    rw [List.map_cons, List.any_cons, VAre.not_heap h.2]
    rfl
  | [], _ :: _, h => h.elim
  | _ :: _, [], h => h.elim
theorem VAre.take {α : Type} {mk : List α → Tok → Value} : ∀ {vs : List Value} {xs : List (List α)} (i : Nat), VAre mk vs xs → VAre mk (vs.take i) (xs.take i)
  | _, _, 0, _ => by simp [VAre]
  | [], [], i + 1, _ => trivial
  | v :: vs, x :: xs, i + 1, h => ⟨h.1, h.2.take i⟩
  | [], _ :: _, _ + 1, h => h.elim
  | _ :: _, [], _ + 1, h => h.elim
theorem meets_bjoin {D : Addr} {vs : List Value} {xs : List (List UInt8)} (hv : VAre mkB vs xs) (hz : (glueL 47 xs).length ≤ 16777216) (t : Tok) : Meets (Builtin.«bytes.join» ⟨[.bytes #[47] t, .ref D], []⟩)
    (fun _ R s => s.heap.IsList D vs.toArray ∧ ∀ t' k, R (.ok (.ret (.bytes (glueL 47 xs).toArray t'))) { s with toks := k }) := by
  refine .of_wp fun prog w A R s hS => ?_
  obtain ⟨hl, hS⟩ := hS
  have hT : s.TypeIs (.ref D) "list" := hl.typeIs
  obtain ⟨o, ho, hc, n, hd⟩ := hl
  unfold Builtin.«bytes.join» Bytes.joinM
  show wpAny _ _ (Bytes.joinItems (.ref D) >>= fun seq => _) _ _ s
  have hji : wpAny (model prog w) A.in1 (Bytes.joinItems (.ref D)) (fun v s' => v = .ref D ∧ s' = s) (fun _ _ => False) s := by
    unfold Bytes.joinItems
    refine wpAny_bind (wpAny_typeOf hT ?_)
    refine wpAny_ite (KBc.ite_yes rfl ?_)
    exact wpAny_pure ⟨rfl, rfl⟩
  refine wpAny_bind (wpAny_mono hji (fun v s' h => ?_) fun _ _ e => e.elim)
  obtain ⟨rfl, rfl⟩ := h
  refine wpAny_bind (wpAny_seqItems ho hd ?_)
  refine wpAny_ite (KBc.ite_yes rfl ?_)
  by_cases hone : vs.length = 1
  · obtain ⟨x, hvs⟩ := List.length_eq_one_iff.mp hone
    subst hvs
    match xs, hv with
    | [y], hv =>
      obtain ⟨⟨ty, rfl⟩, _⟩ := hv
      show wpAny _ _ (typeOf (mkB y ty) >>= fun r => _) _ _ s'
      refine wpAny_bind (wpAny_typeOf (typeIs_bytes s' y.toArray ty) ?_)
      refine wpAny_ite (KBc.ite_yes rfl ?_)
      refine wpAny_bind (wpAny_rule (wpAny_pure ⟨_, rfl, ?_⟩))
      exact hS ty s'.toks
    | _ :: _ :: _, hv => exact hv.2.elim
  · refine jm_other _ _ _ (by simpa using hone) ?_
    dsimp only
    refine wpAny_bind (for_range (I := fun i st => st = (((xs.take i).map List.toArray).toArray, (vs.take i).map fun v => (v, none))) (by simp) ?_ ?_)
    · intro i b hi hb
      subst hb
      dsimp only
      have hi' : i < xs.length := by rw [← hv.length]; simpa using hi
      obtain ⟨ti, hti⟩ := hv.get i xs[i] (by simp)
      have hvi : i < vs.length := by simpa using hi
      have hget : vs.toArray.getD i .none = .bytes xs[i].toArray ti := by
        have : vs[i] = mkB xs[i] ti := by
          rw [List.getElem?_eq_getElem hvi] at hti
          exact Option.some.inj hti
        simp [hvi, this]
        rfl
      refine wpAny_bind (wpAny_seqItems ho hd ?_)
      dsimp only
      rw [hget]
      refine wpAny_ite (KBy.ite_no ?_ ?_)
      · rw [(hv.take i).not_heap]; decide
      refine wpAny_bind (wpAny_holding (wpAny_of_eq takeQuiet_eq ?_))
      dsimp only
      refine wpAny_bind (wpAny_seqItems ho hd ?_)
      dsimp only
      refine wpAny_ite (KBy.ite_no (by simp) ?_)
      refine wpAny_pure ⟨rfl, _, rfl, ?_⟩
      refine Prod.ext ?_ ?_
      · show (((xs.take i).map List.toArray).toArray).push xs[i].toArray = _
        rw [List.take_succ_eq_append_getElem hi', List.push_toArray, List.map_append]
        rfl
      · show ((vs.take i).map fun v => ((v, none) : Value × Option Value)) ++ [(.bytes xs[i].toArray ti, none)] = _
        have : vs[i] = mkB xs[i] ti := by
          rw [List.getElem?_eq_getElem hvi] at hti
          exact Option.some.inj hti
        rw [List.take_succ_eq_append_getElem hvi, this]
        simp [mkB]
    · intro b hb
      subst hb
      dsimp only
      have hn : vs.toArray.size = xs.length := by simp [hv.length]
      have e1 : (xs.take vs.toArray.size) = xs := by rw [hn]; exact List.take_length
      have e2 : (vs.take vs.toArray.size) = vs := by simp
      rw [e1, e2]
      refine wpAny_bind (wpAny_of_eq (a := #[47]) rfl ?_)
      refine wpAny_ite (KBy.ite_no ?_ ?_)
      · cases hx : xs with
        | nil => decide
        | cons p q =>
          rw [← hx]
          have := total_eq xs (by rw [hx]; simp)
          rw [this]
          rw [KBy.tooLong_not hz]
          decide
      refine wpAny_bind ?_
      show wpAny _ _ (mkBytes (Bytes.joined #[47] (xs.map List.toArray).toArray.toList)) _ _ s'
      rw [List.toList_toArray, joined_eq]
      refine wpAny_mkBytes ?_ (by rw [sizeLine_eq]; simpa using hz)
      refine wpAny_bind (wpAny_holding (wpAny_point ?_))
      refine wpAny_bind (joinLetGo_ok vs ?_)
      exact wpAny_pure ⟨_, rfl, hS _ _⟩
theorem join_bytes {D : Addr} {vs : List Value} {xs : List (List UInt8)} (hl : s.heap.IsList D vs.toArray) (hv : VAre mkB vs xs) (hz : (glueL 47 xs).length ≤ 16777216) (h : ∀ t' k, Q (.bytes (glueL 47 xs).toArray t') { s with toks := k }) :
    wpAny (model prog w) A (call (.builtin "bytes.join") [.bytes #[47] t, .ref D]) Q E s :=
  call_meets slot_bytes_join (typeIs_bytes s _ t) entry_bytes_join (args_bytes_join_2 _ _) (meets_bjoin hv hz t) ⟨hl, h⟩
end
end Mine
end

section
open PySem PySem.W PySem.Spec PySem.Calls PyProof.Rows PyProof Builtin
set_option Elab.async false
set_option maxRecDepth 100000
set_option linter.unusedSectionVars false
set_option linter.unusedSimpArgs false
set_option linter.unusedVariables false
namespace Mine
theorem lit_slash : PySem.Str.ofString "/" = S [47] := by decide +kernel
theorem lit_dot : PySem.Str.ofString "." = S [46] := by decide +kernel
theorem lit_dots : PySem.Str.ofString ".." = S [46, 46] := by decide +kernel
theorem lit_two : PySem.Str.ofString "//" = S [47, 47] := by decide +kernel
theorem lit_nil : PySem.Str.ofString "" = S [] := by decide +kernel
theorem lit_u1 : PySem.Str.ofString "/usr/lib" = S [47, 117, 115, 114, 47, 108, 105, 98] := by decide +kernel
theorem lit_u2 : PySem.Str.ofString "/usr" = S [47, 117, 115, 114] := by decide +kernel
theorem lit_u3 : PySem.Str.ofString "lib" = S [108, 105, 98] := by decide +kernel
theorem lit_u4 : PySem.Str.ofString "/usr/" = S [47, 117, 115, 114, 47] := by decide +kernel
theorem lit_u5 : PySem.Str.ofString "usr" = S [117, 115, 114] := by decide +kernel
theorem S_beq (a b : List Nat) : (S a == S b) = decide (a = b) := by
  by_cases h : a = b
  · subst h; simp
  · rw [decide_eq_false h]
    exact beq_eq_false_iff_ne.mpr fun e => h (S_inj e)
theorem cut_drop_at {α : Type} [DecidableEq α] (l : List α) (n : Nat) : cutL l (some ((n : Int) - 1 + 1)) none = l.drop n := cut_drop l n (by omega)
theorem cut_take_at {α : Type} [DecidableEq α] (l : List α) (n : Nat) : cutL l none (some ((n : Int) - 1 + 1)) = l.take n := cut_take l n (by omega)
theorem cut_take_1 {α : Type} [DecidableEq α] (l : List α) : cutL l none (some 1) = l.take 1 := cut_take l 1 rfl
theorem cut_take_2 {α : Type} [DecidableEq α] (l : List α) : cutL l none (some 2) = l.take 2 := cut_take l 2 rfl
theorem cut_drop_1 {α : Type} [DecidableEq α] (l : List α) : cutL l (some 1) none = l.drop 1 := cut_drop l 1 rfl
theorem cut_drop_2 {α : Type} [DecidableEq α] (l : List α) : cutL l (some 2) none = l.drop 2 := cut_drop l 2 rfl
theorem cut_mid_12 {α : Type} [DecidableEq α] (l : List α) : cutL l (some 1) (some 2) = (l.drop 1).take 1 := cut_mid l 1 2 rfl rfl (by decide)
theorem cut_mid_23 {α : Type} [DecidableEq α] (l : List α) : cutL l (some 2) (some 3) = (l.drop 2).take 1 := cut_mid l 2 3 rfl rfl (by decide)
theorem str_end {a b : List Nat} {t : Tok} (h : a = b) : ∃ t', Value.str (S a) t = Value.str (S b) t' := ⟨t, by rw [h]⟩
theorem bytes_end {a b : List UInt8} {t : Tok} (h : a = b) : ∃ t', Value.bytes a.toArray t = Value.bytes b.toArray t' := ⟨t, by rw [h]⟩
theorem len_bne {α : Type} (a : List α) : (((a.length : Nat) : Int) != 0) = decide (a ≠ []) := by
  cases a with
  | nil => rfl
  | cons c r =>
    have : ((((c :: r).length : Nat) : Int) != 0) = true := by simp; omega
    rw [this]; simp
section
variable {prog : Program} {w : World} {A : Around} {E : Value → Shared → Prop} {s : Shared} {t u : Tok} {a b r : List Nat} {x y : PySem.Str} {Q : Value → Shared → Prop} {value slice : PySem.Expr} {h₀ : Heap} {L : Addr} {m : PySem.Str → Option Value} {news : List (Addr × Obj)}
theorem r_rfind (hx : x = S a) (hy : y = S [47]) (h : ∀ t' k, Q (.int ((lastIx 47 a : Int) - 1) t') { s with toks := k }) : wpAny (model prog w) A (call (.builtin "str.rfind") [.str x t, .str y u]) Q E s := by
  subst hx hy
  refine SC.rfind ?_
  rw [rfind_last]
  exact h _ _
theorem r_rstrip (hx : x = S a) (hy : y = S [47]) (hz : a.length ≤ 4096) (h : ∀ t' k, Q (.str (S (rsL 47 a)) t') { s with toks := k }) : wpAny (model prog w) A (call (.builtin "str.rstrip") [.str x t, .str y u]) Q E s := by
  subst hx hy
  refine SC.rstripChars ?_ (by rw [S_len, sizeLine_eq]; omega)
  rw [rstrip_S]
  exact h
theorem r_lstrip (hx : x = S a) (hy : y = S [47]) (hz : a.length ≤ 4096) (h : ∀ t' k, Q (.str (S (a.drop (leadL 47 a))) t') { s with toks := k }) : wpAny (model prog w) A (call (.builtin "str.lstrip") [.str x t, .str y u]) Q E s := by
  subst hx hy
  refine SC.lstripChars ?_ (by rw [S_len, sizeLine_eq]; omega)
  rw [lstrip_S]
  exact h
def stripL (a : List Nat) : List Nat := (Txt.stripChars (S a) (S [47])).cps.toList
theorem stripL_S (a : List Nat) : Txt.stripChars (S a) (S [47]) = S (stripL a) := S_eta _
theorem stripL_nil (a : List Nat) : stripL a = [] ↔ ∀ c ∈ a, c = 47 := by
  have h := strip_S a
  rw [stripL_S, S_beq] at h
  simpa using h
theorem r_strip (hx : x = S a) (hy : y = S [47]) (hz : a.length ≤ 4096) (h : ∀ t' k, Q (.str (S (stripL a)) t') { s with toks := k }) : wpAny (model prog w) A (call (.builtin "str.strip") [.str x t, .str y u]) Q E s := by
  subst hx hy
  refine SC.stripChars ?_ (by rw [S_len, sizeLine_eq]; omega)
  rw [stripL_S]
  exact h
theorem r_starts (hx : x = S a) (hy : y = S [47]) (h : Q (.bool (decide (a.take 1 = [47]))) s) : wpAny (model prog w) A (call (.builtin "str.startswith") [.str x t, .str y u]) Q E s := by
  subst hx hy
  refine SC.startswith ?_
  rw [starts_S]
  exact h
theorem r_ends (hx : x = S a) (hy : y = S [47]) (h : Q (.bool (decide (endsL 47 a))) s) : wpAny (model prog w) A (call (.builtin "str.endswith") [.str x t, .str y u]) Q E s := by
  subst hx hy
  refine SC.endswith ?_
  rw [ends_S]
  exact h
theorem r_mul {n : Nat} (hx : x = S [47]) (hz : n ≤ 4096) (h : ∀ t' k, Q (.str (S (List.replicate n 47)) t') { s with toks := k }) : wpAny (model prog w) A (binaryOp .Mult (.str x t) (.int (n : Int) u)) Q E s := by
  subst hx
  refine SB.mul (mulOk n hz) ?_
  rw [mul_S]
  exact h
theorem r_eq (hx : x = S a) (hy : y = S b) (h : Q (.bool (decide (a = b))) s) : wpAny (model prog w) A (compareOp .Eq (.str x t) (.str y u)) Q E s := by
  subst hx hy
  refine eq_str ?_
  rw [S_beq]
  exact h
theorem r_ne (hx : x = S a) (hy : y = S b) (h : Q (.bool (decide (a ≠ b))) s) : wpAny (model prog w) A (compareOp .NotEq (.str x t) (.str y u)) Q E s := by
  subst hx hy
  refine ne_str ?_
  rw [bne, S_beq]
  have : (!decide (a = b)) = decide (a ≠ b) := by by_cases h : a = b <;> simp [h]
  rw [this]
  exact h
theorem r_notin (hx : x = S a) (hy : y = S [47]) (h : Q (.bool (decide (47 ∉ a))) s) : wpAny (model prog w) A (compareOp .NotIn (.str y u) (.str x t)) Q E s := by
  subst hx hy
  refine notIn_str ?_
  rw [notIn_S]
  exact h
theorem r_truthy {Q : Bool → Shared → Prop} (hx : x = S a) (hz : a.length ≤ 4096) (h : ∀ k, Q (decide (a ≠ [])) { s with toks := k }) : wpAny (model prog w) A (truthy (.str x t)) Q E s := by
  subst hx
  refine SBL.truthy (by rw [S_len]; omega) ?_
  rw [S_len, len_bne]
  exact h _
theorem r_len (hx : x = S a) (hz : a.length ≤ 4096) (h : ∀ t' k, Q (.int (a.length : Nat) t') { s with toks := k }) : wpAny (model prog w) A (call (.builtin "len") [.str x t]) Q E s := by
  subst hx
  refine SBL.len (by rw [S_len]; omega) ?_
  rw [S_len]
  exact h _ _
theorem r_add (hx : x = S a) (hy : y = S b) (hz : a.length + b.length ≤ 16384) (h : ∀ t' k, Q (.str (S (a ++ b)) t') { s with toks := k }) : wpAny (model prog w) A (binaryOp .Add (.str x t) (.str y u)) Q E s := by
  subst hx hy
  refine add_str ?_ (by rw [S_len, S_len, sizeLine_eq]; omega)
  rw [append_S]
  exact h
theorem r_iadd (hx : x = S a) (hy : y = S b) (hz : a.length + b.length ≤ 16384) (h : ∀ t' k, Q (.str (S (a ++ b)) t') { s with toks := k }) : wpAny (model prog w) A (inplaceOp .Add (.str x t) (.str y u)) Q E s := by
  subst hx hy
  refine iadd_str ?_ (by rw [S_len, S_len, sizeLine_eq]; omega)
  rw [append_S]
  exact h
theorem r_split (F : Fr h₀ L s.heap m) (N : News h₀ L s.heap news) (hx : x = S a) (hy : y = S [47]) (hz : a.length ≤ 4096)
    (h : ∀ vs h' k, VAre mkS vs (splitL 47 a) → Fr h₀ L h' m → News h₀ L h' ((s.heap.objs.size, { cls := .type "list", data := .seq vs.toArray }) :: news) → Q (.ref s.heap.objs.size) { s with heap := h', toks := k }) :
    wpAny (model prog w) A (call (.builtin "str.split") [.str x t, .str y u]) Q E s := by
  subst hx hy
  exact split_str F N hz h
theorem VAre.strsAre : ∀ {vs : List Value} {xs : List (List Nat)}, VAre mkS vs xs → StrsAre vs (xs.map S)
  | [], [], _ => .nil
  | v :: vs, x :: xs, h => by
    obtain ⟨t, rfl⟩ := h.1
    exact .cons _ _ (VAre.strsAre h.2)
  | [], _ :: _, h => h.elim
  | _ :: _, [], h => h.elim
theorem glue_len : ∀ (ps : List (List Nat)), ((ps.map S).map (·.length)).sum + ps.length ≤ (glueL 47 ps).length + 1
  | [] => by simp
  | p :: q => by
    rw [glue_cons]
    have hs : ((q.map ((47 : Nat) :: ·)).flatten).length = ((q.map S).map (·.length)).sum + q.length := by
      induction q with
      | nil => rfl
      | cons p r ih => rw [List.map_cons, List.flatten_cons, List.length_append, ih]; simp [S_len]; omega
    rw [List.length_append, hs]
    simp [S_len]
    omega
theorem r_join {D : Addr} {vs : List Value} {xs : List (List Nat)} (hy : y = S [47]) (hl : s.heap.IsList D vs.toArray) (hv : VAre mkS vs xs) (hz : (glueL 47 xs).length ≤ 16384) (h : ∀ t' k, Q (.str (S (glueL 47 xs)) t') { s with toks := k }) :
    wpAny (model prog w) A (call (.builtin "str.join") [.str y t, .ref D]) Q E s := by
  subst hy
  refine join_listW (ys := xs.map S) hl (by simpa using hv.strsAre) (by rw [S_len]; decide) (by have := glue_len xs; rw [List.length_map]; omega) ?_
  have : Txt.join (S [47]) (xs.map S) = S (glueL 47 xs) := by
    show Builtin.Str.glued _ _ = _
    rw [StrLaws.glued_eq_join, join_S]
  rw [this]
  exact h
theorem r_slice_ns {j : Int} {uj : Tok} (hF : Fr h₀ L s.heap m) (hN : News h₀ L s.heap news) (hx : x = S a) (e : cutL a none (some j) = r) (hz : a.length ≤ 4096) (h : ∀ h' t' k, Fr h₀ L h' m → News h₀ L h' news → Q (.str (S r) t') { s with heap := h', toks := k })
    (hs : subscripted slice false (.str x t) (.ref s.heap.objs.size) = operate [.ref s.heap.objs.size, .str x t] (getItem (.str x t) (.ref s.heap.objs.size)) := by with_unfolding_all rfl)
    (ht : ∀ r, letTemporaryGo value (.str x t) r = pure () := by intro _; with_unfolding_all rfl) :
    wpAny (model prog w) A (subscriptTail value slice (.str x t) (.ref s.heap.objs.size)) Q E { s with heap := s.heap.push { cls := .type "slice", data := .fields #[.none, .int j uj, .none] } } := by
  refine slice_strN_ns hF hN (fun h' t' k F' N' => ?_) hs ht (by rw [hx, S_len, sizeLine_eq]; omega)
  rw [hx, slice_cut, e]
  exact h h' t' k F' N'
theorem r_slice_sn {j : Int} {uj : Tok} (hF : Fr h₀ L s.heap m) (hN : News h₀ L s.heap news) (hx : x = S a) (e : cutL a (some j) none = r) (hz : a.length ≤ 4096) (h : ∀ h' t' k, Fr h₀ L h' m → News h₀ L h' news → Q (.str (S r) t') { s with heap := h', toks := k })
    (hs : subscripted slice false (.str x t) (.ref s.heap.objs.size) = operate [.ref s.heap.objs.size, .str x t] (getItem (.str x t) (.ref s.heap.objs.size)) := by with_unfolding_all rfl)
    (ht : ∀ r, letTemporaryGo value (.str x t) r = pure () := by intro _; with_unfolding_all rfl) :
    wpAny (model prog w) A (subscriptTail value slice (.str x t) (.ref s.heap.objs.size)) Q E { s with heap := s.heap.push { cls := .type "slice", data := .fields #[.int j uj, .none, .none] } } := by
  refine slice_strN_sn hF hN (fun h' t' k F' N' => ?_) hs ht (by rw [hx, S_len, sizeLine_eq]; omega)
  rw [hx, slice_cut, e]
  exact h h' t' k F' N'
theorem r_slice_ss {i j : Int} {ui uj : Tok} (hF : Fr h₀ L s.heap m) (hN : News h₀ L s.heap news) (hx : x = S a) (e : cutL a (some i) (some j) = r) (hz : a.length ≤ 4096) (h : ∀ h' t' k, Fr h₀ L h' m → News h₀ L h' news → Q (.str (S r) t') { s with heap := h', toks := k })
    (hs : subscripted slice false (.str x t) (.ref s.heap.objs.size) = operate [.ref s.heap.objs.size, .str x t] (getItem (.str x t) (.ref s.heap.objs.size)) := by with_unfolding_all rfl)
    (ht : ∀ r, letTemporaryGo value (.str x t) r = pure () := by intro _; with_unfolding_all rfl) :
    wpAny (model prog w) A (subscriptTail value slice (.str x t) (.ref s.heap.objs.size)) Q E { s with heap := s.heap.push { cls := .type "slice", data := .fields #[.int i ui, .int j uj, .none] } } := by
  refine slice_strN_ss hF hN (fun h' t' k F' N' => ?_) hs ht (by rw [hx, S_len, sizeLine_eq]; omega)
  rw [hx, slice_cut, e]
  exact h h' t' k F' N'
end
section
variable {prog : Program} {w : World} {A : Around} {E : Value → Shared → Prop} {s : Shared} {t u : Tok} {a b : List UInt8} {Q : Value → Shared → Prop}
theorem b_eq (h : Q (.bool (decide (a = b))) s) : wpAny (model prog w) A (compareOp .Eq (.bytes a.toArray t) (.bytes b.toArray u)) Q E s := by
  refine eq_bytes ?_
  have : (a.toArray.toList == b.toArray.toList) = decide (a = b) := by by_cases h : a = b <;> simp [h]
  rw [this]
  exact h
theorem b_ne (h : Q (.bool (decide (a ≠ b))) s) : wpAny (model prog w) A (compareOp .NotEq (.bytes a.toArray t) (.bytes b.toArray u)) Q E s := by
  refine ne_bytes ?_
  have : (a.toArray.toList != b.toArray.toList) = decide (a ≠ b) := by by_cases h : a = b <;> simp [h]
  rw [this]
  exact h
theorem b_truthy {Q : Bool → Shared → Prop} (hz : a.length ≤ 4096) (h : ∀ k, Q (decide (a ≠ [])) { s with toks := k }) : wpAny (model prog w) A (truthy (.bytes a.toArray t)) Q E s := by
  refine truthy_bytes (by simp; omega) ?_
  have e : a.toArray.size = a.length := by simp
  rw [e, len_bne]
  exact h _
theorem b_len (hz : a.length ≤ 4096) (h : ∀ t' k, Q (.int (a.length : Nat) t') { s with toks := k }) : wpAny (model prog w) A (call (.builtin "len") [.bytes a.toArray t]) Q E s := by
  refine len_bytes (by simp; omega) ?_
  have e : a.toArray.size = a.length := by simp
  rw [e]
  exact h _ _
theorem b_add (hz : a.length + b.length ≤ 16384) (h : ∀ t' k, Q (.bytes (a ++ b).toArray t') { s with toks := k }) : wpAny (model prog w) A (binaryOp .Add (.bytes a.toArray t) (.bytes b.toArray u)) Q E s := by
  refine KBy.add_bytes (by simp; omega) ?_
  rw [show a.toArray ++ b.toArray = (a ++ b).toArray by simp]
  exact h
end
theorem noI_bytes_add : typeLookup (.type "bytes") (dunderI "add") = pure none := by rw [typeLookup_type, builtinLookup_eq_fast]; kernel_rfl
theorem b_iadd {prog : Program} {w : World} {A : Around} {E : Value → Shared → Prop} {s : Shared} {t u : Tok} {a b : List UInt8} {Q : Value → Shared → Prop} (hz : a.length + b.length ≤ 16384) (h : ∀ t' k, Q (.bytes (a ++ b).toArray t') { s with toks := k }) : wpAny (model prog w) A (inplaceOp .Add (.bytes a.toArray t) (.bytes b.toArray u)) Q E s := by
  refine iconcat_gives (typeIs_bytes s _ t) (typeIs_bytes s _ u) noI_bytes_add KBy.noFill_bytes_add KBy.seq_bytes_add FB.slot_bytes_add FB.entry_bytes_add (FB.args_bytes_add_2 _ _) (KBy.gives_bytes_add (KBy.tooLong_not (by simp; omega))) ?_
  have e0 : a.toArray ++ b.toArray = (a ++ b).toArray := by simp
  rw [e0]
  by_cases hb : a.toArray.isEmpty = true
  · rw [if_pos hb]
    have e : a = [] := by simpa using hb
    have h' := h u s.toks
    rw [e, List.nil_append] at h'
    exact h'
  · rw [if_neg hb]
    by_cases hc : b.toArray.isEmpty = true
    · rw [if_pos hc]
      have e : b = [] := by simpa using hc
      have h' := h t s.toks
      rw [e, List.append_nil] at h'
      exact h'
    · rw [if_neg hc]
      exact ⟨by rw [sizeLine_eq]; simp; omega, h s.toks (s.toks + 1)⟩
@[irreducible] def CtT (w : World) (D : Nat) (f : Addr) (vs : List Value) (R : Tok → Tok → Tok → List Value) : Prop :=
  ∀ (mean : ExcName → Option Value) (mg mb : Str → Option Value) (dp un : Nat) (gd : Option (List Code)) (cn : Str) (cs : Scope) (a : Addr) (ccd : Value) (cl : List (Str × Addr)) (outer : List Env) (A₀ : Around) (base h₀ : Heap) (L : Addr) (m : Str → Option Value) (news : List (Addr × Obj)) (s : Shared) (Q E : Value → Shared → Prop),
    Below A₀ base outer h₀ → Fr h₀ L s.heap m → (Mine.hd.heap_39 w.params).In h₀ → News h₀ L s.heap news → Top Mine.hd.view_39 (looseW Mine.hd.view_39 []) mean mg mb h₀ → cs.kind = .function →
    dp + D < recursionLimit → un + 8 * D < cLine →
    (∀ (q : Addr) (t1 t2 t3 : Tok) (h' : Heap) (tk' : Nat), Fr h₀ L h' m → News h₀ L h' ((q, { cls := .type "tuple", data := .seq (R t1 t2 t3).toArray }) :: news) → Q (.ref q) { s with heap := h', toks := tk' }) →
    wpAny (model PySem.Challenge.rw_ab6017_01.row.prog w) (ktrTop dp un gd cn cs L a ccd cl outer) (call (.ref f) vs) Q E s

theorem ctT_use {w : World} {D : Nat} {f : Addr} {vs : List Value} {R : Tok → Tok → Tok → List Value} {mean : ExcName → Option Value} {mg mb : Str → Option Value} {dp un : Nat} {gd : Option (List Code)} {cn : Str} {cs : Scope} {a : Addr} {ccd : Value} {cl : List (Str × Addr)} {outer : List Env} {A₀ : Around} {base h₀ : Heap} {L : Addr} {m : Str → Option Value} {news : List (Addr × Obj)} {s : Shared} {Q E : Value → Shared → Prop}
    (C : CtT w D f vs R) (B : Below A₀ base outer h₀) (F : Fr h₀ L s.heap m) (X : (Mine.hd.heap_39 w.params).In h₀) (N : News h₀ L s.heap news) (T : Top Mine.hd.view_39 (looseW Mine.hd.view_39 []) mean mg mb h₀) (hk : cs.kind = .function)
    (hd : dp + D < recursionLimit) (hu : un + 8 * D < cLine)
    (ret : ∀ (q : Addr) (t1 t2 t3 : Tok) (h' : Heap) (tk' : Nat), Fr h₀ L h' m → News h₀ L h' ((q, { cls := .type "tuple", data := .seq (R t1 t2 t3).toArray }) :: news) → Q (.ref q) { s with heap := h', toks := tk' }) :
    wpAny (model PySem.Challenge.rw_ab6017_01.row.prog w) (ktrTop dp un gd cn cs L a ccd cl outer) (call (.ref f) vs) Q E s := by
  unfold CtT at C
  exact C _ _ _ _ _ _ _ _ _ _ _ _ _ _ _ _ _ _ _ _ _ B F X N T hk hd hu ret

theorem ctT_ret {h₀ h' : Heap} {L : Addr} {m : Str → Option Value} {news news' : List (Addr × Obj)} {s : Shared} {Q : Value → Shared → Prop} {R : Tok → Tok → Tok → List Value} {q : Addr} {items : List Value} {tk' : Nat}
    (hret : ∀ (q : Addr) (t1 t2 t3 : Tok) (h' : Heap) (tk' : Nat), Fr h₀ L h' m → News h₀ L h' ((q, { cls := .type "tuple", data := .seq (R t1 t2 t3).toArray }) :: news) → Q (.ref q) { s with heap := h', toks := tk' })
    (F : Fr h₀ L h' m) (N : News h₀ L h' news') (hq : (q, ({ cls := .type "tuple", data := .seq items.toArray } : Obj)) ∈ news') (hs : ∀ p ∈ news, p ∈ news') (e : ∃ t1 t2 t3, items = R t1 t2 t3) : Q (.ref q) { s with heap := h', toks := tk' } := by
  obtain ⟨t1, t2, t3, rfl⟩ := e
  exact hret q t1 t2 t3 h' tk' F fun p hp => (List.mem_cons.mp hp).elim (fun e => e ▸ N _ hq) fun hp => N p (hs p hp)

theorem three_str {x y z : Str} {a' b' c' : List Nat} {t1 t2 t3 : Tok} (h1 : x = S a') (h2 : y = S b') (h3 : z = S c') : ∃ u1 u2 u3, [Value.str x t1, Value.str y t2, Value.str z t3] = [Value.str (S a') u1, Value.str (S b') u2, Value.str (S c') u3] := ⟨t1, t2, t3, by rw [h1, h2, h3]⟩
theorem three_bytes {a b c a' b' c' : List UInt8} {t1 t2 t3 : Tok} (h1 : a = a') (h2 : b = b') (h3 : c = c') : ∃ u1 u2 u3, [Value.bytes a.toArray t1, Value.bytes b.toArray t2, Value.bytes c.toArray t3] = [Value.bytes a'.toArray u1, Value.bytes b'.toArray u2, Value.bytes c'.toArray u3] := ⟨t1, t2, t3, by rw [h1, h2, h3]⟩

end Mine
end

section
open PySem PySem.W PySem.Spec PySem.Calls PyProof.Rows PyProof PyProof.V
set_option Elab.async false
set_option maxRecDepth 100000
set_option linter.unusedSectionVars false
set_option linter.unusedSimpArgs false
set_option linter.unusedVariables false
namespace Mine
section
variable {prog : Program} {w : World} {A : Around} {E : Value → Shared → Prop} {s : Shared} {env : Env} {h₀ : Heap} {x : PySem.Str} {body : List Stmt} {Q : Flow → Shared → Prop}
theorem seq_core {σ : Type} {I : Addr} {fp wr : List Addr} {n : Nat} {Pv : Nat → Value → Prop} {St : Nat → Heap → Prop} {m₀ : PySem.Str → Option Value} (mp : σ → PySem.Str → Option Value) (Led : σ → List (Addr × Obj)) (P : Nat → σ → Prop) (c₀ : σ)
    (W : Walks prog w A I fp wr n Pv St) (hLf : env.locals ∉ fp) (hwr : ∀ b ∈ wr, h₀.get? b = none) (hnw : ∀ p ∈ Led c₀, p.1 ∉ wr) (hfp : ∀ q ∈ Led c₀, q.1 ∉ fp) (hst : St 0 s.heap) (F : Fr h₀ env.locals s.heap m₀) (N : News h₀ env.locals s.heap (Led c₀)) (hm : ∀ z, z ≠ x → m₀ z = mp c₀ z) (hp : P 0 c₀)
    (turn : ∀ i v c h tk own, i < n → Pv i v → (Led c).map (·.1) = (Led c₀).map (·.1) → OwnOff own ((Led c₀).map (·.1)) → P i c → Fr h₀ env.locals h (fun y => if y = x then some v else mp c y) → News h₀ env.locals h (Led c ++ own) →
      wpAny (model prog w) A (execs body env) (InvPostN h₀ env.locals (fun m' nx => ∃ c', nx = Led c' ∧ P (i + 1) c' ∧ ∀ z, z ≠ x → m' z = mp c' z) own ((Led c₀).map (·.1)) { s with heap := h, toks := tk } Q) E { s with heap := h, toks := tk })
    (done : ∀ c u h tk, P n c → Fr h₀ env.locals h (fun y => if y = x then u else mp c y) → News h₀ env.locals h (Led c) → Q .next { s with heap := h, toks := tk }) :
    LoopAtV prog w A h₀ env x body Q E (.ref I) s := by
  refine loop_invN (fun i m nx => ∃ c, nx = Led c ∧ P i c ∧ ∀ z, z ≠ x → m z = mp c z) W hLf hwr hnw hfp hst F N ⟨c₀, rfl, hp, hm⟩ ?_ ?_
  · rintro i v m₁ news₁ h tk own hi hv hadr hoff ⟨c, rfl, hP, hm₁⟩ F₁ N₁
    have e : (fun y => if y = x then some v else m₁ y) = fun y => if y = x then some v else mp c y := by
      funext y
      by_cases h1 : y = x
      · simp [h1]
      · simp only [if_neg h1]; exact hm₁ y h1
    rw [e] at F₁
    exact turn i v c h tk own hi hv hadr hoff hP F₁ N₁
  · rintro m₁ news₁ h tk ⟨c, rfl, hP, hm₁⟩ F₁ N₁
    have e : m₁ = fun y => if y = x then m₁ x else mp c y := by
      funext y
      by_cases h1 : y = x
      · simp [h1]
      · simp only [if_neg h1]; exact hm₁ y h1
    rw [e] at F₁
    exact done c (m₁ x) h tk hP F₁ N₁
theorem seqAt_ne {h : Heap} {L D : Addr} {m : PySem.Str → Option Value} {o : Obj} {its : Array Value} {n : Nat} (F : Fr h₀ L h m) (ho : h.get? D = some o) (hd : o.data = .seq its n) : D ≠ L := by
  rintro rfl
  obtain ⟨o', es, ep, ho', hd', _⟩ := F.ns
  rw [ho] at ho'
  cases ho'
  rw [hd] at hd'
  cases hd'
theorem tup_loop {σ : Type} {D : Addr} {vs : List Value} {m₀ : PySem.Str → Option Value} (mp : σ → PySem.Str → Option Value) (Led : σ → List (Addr × Obj)) (P : Nat → σ → Prop) (c₀ : σ)
    (hh : A.handled = none) (ht : s.heap.IsTuple D vs.toArray) (hD : ∀ p ∈ Led c₀, p.1 ≠ D) (F : Fr h₀ env.locals s.heap m₀) (N : News h₀ env.locals s.heap (Led c₀)) (hm : ∀ z, z ≠ x → m₀ z = mp c₀ z) (hp : P 0 c₀)
    (turn : ∀ i v c h tk own, vs[i]? = some v → (Led c).map (·.1) = (Led c₀).map (·.1) → OwnOff own ((Led c₀).map (·.1)) → P i c → Fr h₀ env.locals h (fun y => if y = x then some v else mp c y) → News h₀ env.locals h (Led c ++ own) →
      wpAny (model prog w) A (execs body env) (InvPostN h₀ env.locals (fun m' nx => ∃ c', nx = Led c' ∧ P (i + 1) c' ∧ ∀ z, z ≠ x → m' z = mp c' z) own ((Led c₀).map (·.1)) { s with heap := h, toks := tk } Q) E { s with heap := h, toks := tk })
    (done : ∀ c u h tk, P vs.length c → Fr h₀ env.locals h (fun y => if y = x then u else mp c y) → News h₀ env.locals h (Led c) → Q .next { s with heap := h, toks := tk }) :
    wpAny (model prog w) A (pyIter (.ref D)) (fun it s₂ => LoopAtV prog w A h₀ env x body Q E it s₂) E s := by
  obtain ⟨o, ho, hc, n, hd⟩ := id ht
  have hlt : D < s.heap.objs.size := Heap.lt_size ho
  refine wpAny_pyIter_tuple ht ?_
  have W := Walks.tuple (prog := prog) (w := w) hh s.heap.objs.size D (Nat.ne_of_lt hlt) vs.toArray
  have hsz : vs.toArray.size = vs.length := by simp
  rw [hsz] at W
  have hnL : D ≠ env.locals := seqAt_ne F ho hd
  refine seq_core mp Led P c₀ W ?_ ?_ ?_ ?_ ⟨⟨_, Heap.get?_push_size _ rfl, rfl, rfl⟩, ht.at fun o e => Heap.get?_push_of_some _ e⟩ (F.push _) (fun p hp => ⟨Heap.get?_push_of_some _ (N p hp).1, (N p hp).2⟩) hm hp ?_ ?_
  · intro hmem
    rcases List.mem_cons.mp hmem with e | hmem
    · exact absurd F.ns.lt (e ▸ Nat.lt_irrefl _)
    · exact hnL (List.mem_singleton.mp hmem).symm
  · intro b hb
    rw [List.mem_singleton.mp hb]
    exact next_is_new F
  · intro p hp hI
    exact absurd (Heap.lt_size (N p hp).1) ((List.mem_singleton.mp hI) ▸ Nat.lt_irrefl _)
  · intro p hp hI
    rcases List.mem_cons.mp hI with e | hmem
    · exact absurd (Heap.lt_size (N p hp).1) (e ▸ Nat.lt_irrefl _)
    · exact hD p hp (List.mem_singleton.mp hmem)
  · intro i v c h tk own hi hv hadr hoff hP F₁ N₁
    exact turn i v c h tk own (by simpa using hv) hadr hoff hP F₁ N₁
  · exact done
theorem list_loop {σ : Type} {D : Addr} {vs : List Value} {m₀ : PySem.Str → Option Value} (mp : σ → PySem.Str → Option Value) (Led : σ → List (Addr × Obj)) (P : Nat → σ → Prop) (c₀ : σ)
    (hh : A.handled = none) (ht : s.heap.IsList D vs.toArray) (hD : ∀ p ∈ Led c₀, p.1 ≠ D) (F : Fr h₀ env.locals s.heap m₀) (N : News h₀ env.locals s.heap (Led c₀)) (hm : ∀ z, z ≠ x → m₀ z = mp c₀ z) (hp : P 0 c₀)
    (turn : ∀ i v c h tk own, vs[i]? = some v → (Led c).map (·.1) = (Led c₀).map (·.1) → OwnOff own ((Led c₀).map (·.1)) → P i c → Fr h₀ env.locals h (fun y => if y = x then some v else mp c y) → News h₀ env.locals h (Led c ++ own) →
      wpAny (model prog w) A (execs body env) (InvPostN h₀ env.locals (fun m' nx => ∃ c', nx = Led c' ∧ P (i + 1) c' ∧ ∀ z, z ≠ x → m' z = mp c' z) own ((Led c₀).map (·.1)) { s with heap := h, toks := tk } Q) E { s with heap := h, toks := tk })
    (done : ∀ c u h tk, P vs.length c → Fr h₀ env.locals h (fun y => if y = x then u else mp c y) → News h₀ env.locals h (Led c) → Q .next { s with heap := h, toks := tk }) :
    wpAny (model prog w) A (pyIter (.ref D)) (fun it s₂ => LoopAtV prog w A h₀ env x body Q E it s₂) E s := by
  obtain ⟨o, ho, hc, n, hd⟩ := id ht
  have hlt : D < s.heap.objs.size := Heap.lt_size ho
  refine wpAny_pyIter_list ht ?_
  have W := Walks.list (prog := prog) (w := w) hh s.heap.objs.size D (Nat.ne_of_lt hlt) vs.toArray
  have hsz : vs.toArray.size = vs.length := by simp
  rw [hsz] at W
  have hnL : D ≠ env.locals := seqAt_ne F ho hd
  refine seq_core mp Led P c₀ W ?_ ?_ ?_ ?_ ⟨⟨_, Heap.get?_push_size _ rfl, rfl, rfl⟩, ht.at fun o e => Heap.get?_push_of_some _ e⟩ (F.push _) (fun p hp => ⟨Heap.get?_push_of_some _ (N p hp).1, (N p hp).2⟩) hm hp ?_ ?_
  · intro hmem
    rcases List.mem_cons.mp hmem with e | hmem
    · exact absurd F.ns.lt (e ▸ Nat.lt_irrefl _)
    · exact hnL (List.mem_singleton.mp hmem).symm
  · intro b hb
    rw [List.mem_singleton.mp hb]
    exact next_is_new F
  · intro p hp hI
    exact absurd (Heap.lt_size (N p hp).1) ((List.mem_singleton.mp hI) ▸ Nat.lt_irrefl _)
  · intro p hp hI
    rcases List.mem_cons.mp hI with e | hmem
    · exact absurd (Heap.lt_size (N p hp).1) (e ▸ Nat.lt_irrefl _)
    · exact hD p hp (List.mem_singleton.mp hmem)
  · intro i v c h tk own hi hv hadr hoff hP F₁ N₁
    exact turn i v c h tk own (by simpa using hv) hadr hoff hP F₁ N₁
  · exact done
theorem turn_end {σ : Type} {L : Addr} {own news' : List (Addr × Obj)} {adr : List Addr} {s₁ : Shared} {h' : Heap} {tk i : Nat} {m' : PySem.Str → Option Value} {mp : σ → PySem.Str → Option Value} {Led : σ → List (Addr × Obj)} {P : Nat → σ → Prop} (c' : σ)
    (F : Fr h₀ L h' m') (N : News h₀ L h' news') (ha : (Led c').map (·.1) = adr) (hn : ∀ p ∈ Led c', p ∈ news') (ho : ∀ p ∈ own, p ∈ news') (hp : P (i + 1) c') (hm : ∀ z, z ≠ x → m' z = mp c' z) :
    InvEndN h₀ L (fun m' nx => ∃ c', nx = Led c' ∧ P (i + 1) c' ∧ ∀ z, z ≠ x → m' z = mp c' z) own adr s₁ { s₁ with heap := h', toks := tk } :=
  InvEndN.intro F N ⟨c', rfl, hp, hm⟩ ha hn ho

theorem tup_loop1 {y : PySem.Str} {D : Addr} {vs : List Value} {v₀ : Value} {m₀ : PySem.Str → Option Value} {news : List (Addr × Obj)} (P : Nat → Value → Prop)
    (hh : A.handled = none) (ht : s.heap.IsTuple D vs.toArray) (hD : ∀ p ∈ news, p.1 ≠ D) (F : Fr h₀ env.locals s.heap m₀) (N : News h₀ env.locals s.heap news) (hy : m₀ y = some v₀) (hyx : y ≠ x) (hp : P 0 v₀)
    (turn : ∀ i v c h tk own, vs[i]? = some v → OwnOff own (news.map (·.1)) → P i c → Fr h₀ env.locals h (fun z => if z = x then some v else if z = y then some c else m₀ z) → News h₀ env.locals h (news ++ own) →
      wpAny (model prog w) A (execs body env) (InvPostN h₀ env.locals (fun m' nx => nx = news ∧ ∃ c', P (i + 1) c' ∧ m' y = some c' ∧ ∀ z, z ≠ x → z ≠ y → m' z = m₀ z) own (news.map (·.1)) { s with heap := h, toks := tk } Q) E { s with heap := h, toks := tk })
    (done : ∀ c u h tk, P vs.length c → Fr h₀ env.locals h (fun z => if z = x then u else if z = y then some c else m₀ z) → News h₀ env.locals h news → Q .next { s with heap := h, toks := tk }) :
    wpAny (model prog w) A (pyIter (.ref D)) (fun it s₂ => LoopAtV prog w A h₀ env x body Q E it s₂) E s := by
  refine tup_loop (fun c z => if z = y then some c else m₀ z) (fun _ => news) P v₀ hh ht hD F N (fun z hz => ?_) hp ?_ done
  · by_cases h : z = y
    · rw [if_pos h, h, hy]
    · rw [if_neg h]
  · intro i v c h tk own hi _ hoff hP F₁ N₁
    refine wpAny_mono (turn i v c h tk own hi hoff hP F₁ N₁) (fun f s₂ hq => ?_) fun _ _ e => e
    have key : ∀ (m' : PySem.Str → Option Value) (nx : List (Addr × Obj)), (nx = news ∧ ∃ c', P (i + 1) c' ∧ m' y = some c' ∧ ∀ z, z ≠ x → z ≠ y → m' z = m₀ z) → ∃ c', nx = news ∧ P (i + 1) c' ∧ ∀ z, z ≠ x → m' z = if z = y then some c' else m₀ z := by
      rintro m' nx ⟨rfl, c', h1, h2, h3⟩
      refine ⟨c', rfl, h1, fun z hz => ?_⟩
      by_cases h : z = y
      · rw [if_pos h, h, h2]
      · rw [if_neg h]; exact h3 z hz h
    have key2 : ∀ {s₁ s₂ : Shared}, InvEndN h₀ env.locals (fun m' nx => nx = news ∧ ∃ c', P (i + 1) c' ∧ m' y = some c' ∧ ∀ z, z ≠ x → z ≠ y → m' z = m₀ z) own (news.map (·.1)) s₁ s₂ → InvEndN h₀ env.locals (fun m' nx => ∃ c', nx = news ∧ P (i + 1) c' ∧ ∀ z, z ≠ x → m' z = if z = y then some c' else m₀ z) own (news.map (·.1)) s₁ s₂ := by
      rintro s₁ s₂ ⟨h', tk', m', news', nx, e, a1, a2, a3, a4, a5, a6⟩
      exact ⟨h', tk', m', news', nx, e, a1, a2, a3, a4, a5, key _ _ a6⟩
    cases f with
    | ret v => exact hq
    | brk => exact hq
    | next => exact key2 hq
    | cont => exact key2 hq
end
end Mine
end

section
open PySem PySem.W PySem.Spec PySem.Calls PyProof.Rows
set_option Elab.async false
set_option maxRecDepth 100000
set_option maxHeartbeats 4000000
set_option linter.unusedVariables false
namespace Mine
local macro_rules | `(tactic| walk_at "my lit") => `(tactic| first | with_reducible exact lit_slash | with_reducible exact lit_dot | with_reducible exact lit_dots | with_reducible exact lit_nil | with_reducible exact lit_two | with_reducible exact lit_u1 | with_reducible exact lit_u2 | with_reducible exact lit_u3 | with_reducible exact lit_u4 | with_reducible exact lit_u5 | with_reducible rfl)
local macro_rules | `(tactic| walk_at "my len") => `(tactic| first | assumption | ((try simp only [List.length_take, List.length_drop, List.length_replicate, List.length_cons, List.length_nil, List.length_append]); omega) | (refine Nat.le_trans (rsL_len _ _) ?_; first | assumption | ((try simp only [List.length_take, List.length_drop, List.length_replicate, List.length_cons, List.length_nil, List.length_append]); omega)))
local macro_rules | `(tactic| walk_at "my cut") => `(tactic| with_reducible first | exact cut_drop_at _ _ | exact cut_take_at _ _ | exact cut_take_1 _ | exact cut_take_2 _ | exact cut_drop_1 _ | exact cut_drop_2 _ | exact cut_mid_12 _ | exact cut_mid_23 _ | exact cut_init _ | exact cut_final _)
local macro_rules | `(tactic| walk_at "call builtin:issubclass") => `(tactic| (k_here; k_dflt (first
  | (refine' call_iss iss_str (kitTp_N ?k1 ?k2) ?_; (case k1 => k_asm); (case k2 => k_mem); k_whole)
  | (refine' call_iss iss_bytes (kitTp_N ?k1 ?k2) ?_; (case k1 => k_asm); (case k2 => k_mem); k_whole)); intro _; (try dsimp only)))
local macro_rules | `(tactic| walk_at "call type:type") => `(tactic| ((with_reducible show wpAny _ _ (call _ [Value.bytes _ _]) _ _ _); refine call_type_of (Tx := "bytes") rfl (by decide +kernel) ?_))
local macro_rules | `(tactic| walk_at "call builtin:str.rfind") => `(tactic| (k_here; k_dflt (refine' r_rfind ?k1 ?k2 ?_; (case k1 => walk_at "my lit"); (case k2 => walk_at "my lit"); k_whole); intro _ _))
local macro_rules | `(tactic| walk_at "call builtin:str.rstrip") => `(tactic| (k_here; k_dflt (refine' r_rstrip ?k1 ?k2 ?k3 ?_; (case k1 => walk_at "my lit"); (case k2 => walk_at "my lit"); (case k3 => walk_at "my len"); k_whole); intro _ _))
local macro_rules | `(tactic| walk_at "call builtin:str.lstrip") => `(tactic| (k_here; k_dflt (refine' r_lstrip ?k1 ?k2 ?k3 ?_; (case k1 => walk_at "my lit"); (case k2 => walk_at "my lit"); (case k3 => walk_at "my len"); k_whole); intro _ _))
local macro_rules | `(tactic| walk_at "call builtin:str.strip") => `(tactic| (k_here; k_dflt (refine' r_strip ?k1 ?k2 ?k3 ?_; (case k1 => walk_at "my lit"); (case k2 => walk_at "my lit"); (case k3 => walk_at "my len"); k_whole); intro _ _))
local macro_rules | `(tactic| walk_at "call builtin:str.startswith") => `(tactic| (k_here; k_dflt (refine' r_starts ?k1 ?k2 ?_; (case k1 => walk_at "my lit"); (case k2 => walk_at "my lit"); k_whole)))
local macro_rules | `(tactic| walk_at "call builtin:str.endswith") => `(tactic| (k_here; k_dflt (refine' r_ends ?k1 ?k2 ?_; (case k1 => walk_at "my lit"); (case k2 => walk_at "my lit"); k_whole)))
local macro_rules | `(tactic| walk_at "binaryOp Mult str int") => `(tactic| (k_here; k_dflt (refine' r_mul ?k1 ?k3 ?_; (case k1 => walk_at "my lit"); (case k3 => walk_at "my len"); k_whole); intro _ _))
local macro_rules | `(tactic| walk_at "compareOp Eq str str") => `(tactic| (k_here; k_dflt (refine' r_eq ?k1 ?k2 ?_; (case k1 => walk_at "my lit"); (case k2 => walk_at "my lit"); k_whole)))
local macro_rules | `(tactic| walk_at "compareOp NotEq str str") => `(tactic| (k_here; k_dflt (refine' r_ne ?k1 ?k2 ?_; (case k1 => walk_at "my lit"); (case k2 => walk_at "my lit"); k_whole)))
local macro_rules | `(tactic| walk_at "compareOp NotIn str str") => `(tactic| (k_here; k_dflt (refine' r_notin ?k1 ?k2 ?_; (case k1 => walk_at "my lit"); (case k2 => walk_at "my lit"); k_whole)))
local macro_rules | `(tactic| walk_at "truthy str") => `(tactic| (k_here; k_dflt (refine' r_truthy ?k1 ?k3 ?_; (case k1 => walk_at "my lit"); (case k3 => walk_at "my len"); k_whole); intro _))
local macro_rules | `(tactic| walk_at "call builtin:len") => `(tactic| (k_here; (with_reducible show wpAny _ _ (call _ [Value.str _ _]) _ _ _); k_dflt (refine' r_len ?k1 ?k3 ?_; (case k1 => walk_at "my lit"); (case k3 => walk_at "my len"); k_whole); intro _ _))
local macro_rules | `(tactic| walk_at "binaryOp Add str str") => `(tactic| (k_here; k_dflt (refine' r_add ?k1 ?k2 ?k3 ?_; (case k1 => walk_at "my lit"); (case k2 => walk_at "my lit"); (case k3 => walk_at "my len"); k_whole); intro _ _))
local macro_rules | `(tactic| walk_at "inplaceOp Add str str") => `(tactic| (k_here; k_dflt (refine' r_iadd ?k1 ?k2 ?k3 ?_; (case k1 => walk_at "my lit"); (case k2 => walk_at "my lit"); (case k3 => walk_at "my len"); k_whole); intro _ _))
local macro_rules | `(tactic| walk_at "subscriptTail Name Slice str ref") => `(tactic| (k_here; (with_reducible show wpAny _ _ (subscriptTail _ (Expr.Slice none (some _) none _) (Value.str _ _) (Value.ref _)) _ _ _); (with_reducible rename Fr _ _ _ _ => F'); (with_reducible rename News _ _ _ _ => N'); k_dflt (refine' r_slice_ns (s := ⟨_, _, _, _, _⟩) F' N' ?k1 ?k2 ?k3 ?_; (case k1 => walk_at "my lit"); (case k2 => walk_at "my cut"); (case k3 => walk_at "my len"); k_whole); intro _ _ _ F9 N9))
local macro_rules | `(tactic| walk_at "subscriptTail Name Slice str ref") => `(tactic| (k_here; (with_reducible show wpAny _ _ (subscriptTail _ (Expr.Slice (some _) none none _) (Value.str _ _) (Value.ref _)) _ _ _); (with_reducible rename Fr _ _ _ _ => F'); (with_reducible rename News _ _ _ _ => N'); k_dflt (refine' r_slice_sn (s := ⟨_, _, _, _, _⟩) F' N' ?k1 ?k2 ?k3 ?_; (case k1 => walk_at "my lit"); (case k2 => walk_at "my cut"); (case k3 => walk_at "my len"); k_whole); intro _ _ _ F9 N9))
local macro_rules | `(tactic| walk_at "subscriptTail Name Slice str ref") => `(tactic| (k_here; (with_reducible show wpAny _ _ (subscriptTail _ (Expr.Slice (some _) (some _) none _) (Value.str _ _) (Value.ref _)) _ _ _); (with_reducible rename Fr _ _ _ _ => F'); (with_reducible rename News _ _ _ _ => N'); k_dflt (refine' r_slice_ss (s := ⟨_, _, _, _, _⟩) F' N' ?k1 ?k2 ?k3 ?_; (case k1 => walk_at "my lit"); (case k2 => walk_at "my cut"); (case k3 => walk_at "my len"); k_whole); intro _ _ _ F9 N9))
local macro_rules | `(tactic| walk_at "subscriptTail") => `(tactic| (k_here; (with_reducible show wpAny _ _ (subscriptTail _ (Expr.Slice _ _ none _) (Value.bytes _ _) (Value.ref _)) _ _ _); (with_reducible rename Fr _ _ _ _ => F'); (with_reducible rename News _ _ _ _ => N'); k_dflt (refine' slice_bytes (s := ⟨_, _, _, _, _⟩) F' N' ?k4 ?k5 ?k3 ?k2 ?_; (case k4 => first | exact IsPart.none | exact IsPart.int _ _); (case k5 => first | exact IsPart.none | exact IsPart.int _ _); (case k3 => first | (walk_at "my len") | (refine Nat.le_trans (m := 4096) ?_ (by decide); walk_at "my len")); (case k2 => walk_at "my cut"); k_whole); intro _ _ _ F9 N9))
local macro_rules | `(tactic| walk_at "getMethod bytes") => `(tactic| (k_here; (with_reducible first | refine meth_bytes_rfind ?_ | refine meth_bytes_rstrip ?_ | refine meth_bytes_split ?_ | refine meth_bytes_join ?_ | refine meth_bytes_startswith ?_ | refine meth_bytes_endswith ?_)))
local macro_rules | `(tactic| walk_at "call builtin:bytes.rfind") => `(tactic| (k_here; k_dflt (refine rfind_bytes ?_); intro _ _))
local macro_rules | `(tactic| walk_at "call builtin:bytes.rstrip") => `(tactic| (k_here; k_dflt (refine' rstrip_bytes ?k3 ?_; (case k3 => (refine Nat.le_trans (m := 4096) ?_ (by decide); walk_at "my len")); k_whole); intro _ _))
local macro_rules | `(tactic| walk_at "call builtin:bytes.startswith") => `(tactic| (k_here; k_dflt (refine startswith_bytes ?_); intro _))
local macro_rules | `(tactic| walk_at "call builtin:bytes.endswith") => `(tactic| (k_here; k_dflt (refine endswith_bytes ?_); intro _))
local macro_rules | `(tactic| walk_at "compareOp Eq bytes bytes") => `(tactic| (k_here; k_dflt (refine b_eq ?_)))
local macro_rules | `(tactic| walk_at "compareOp NotEq bytes bytes") => `(tactic| (k_here; k_dflt (refine b_ne ?_)))
local macro_rules | `(tactic| walk_at "truthy bytes") => `(tactic| (k_here; k_dflt (refine' b_truthy ?k3 ?_; (case k3 => walk_at "my len"); k_whole); intro _))
local macro_rules | `(tactic| walk_at "call builtin:len") => `(tactic| (k_here; (with_reducible show wpAny _ _ (call _ [Value.bytes _ _]) _ _ _); k_dflt (refine' b_len ?k3 ?_; (case k3 => walk_at "my len"); k_whole); intro _ _))
local macro_rules | `(tactic| walk_at "binaryOp Add bytes bytes") => `(tactic| (k_here; k_dflt (refine' b_add ?k3 ?_; (case k3 => walk_at "my len"); k_whole); intro _ _))
local macro_rules | `(tactic| walk_at "binaryOp Mult bytes int") => `(tactic| (k_here; k_dflt (refine' mul_bytes ?k4 ?k3 ?_; (case k4 => walk_at "my pos"); (case k3 => walk_at "my len"); k_whole); intro _ _))
local macro_rules | `(tactic| walk_at "my pos") => `(tactic| exact List.length_pos_iff.mpr (by assumption))
local macro_rules | `(tactic| walk_at "my ct") => `(tactic| exact ct_fspath_str _ _ _)
local macro_rules | `(tactic| walk_at "my ct") => `(tactic| exact ct_fspath_bytes _ _ _)
local macro_rules | `(tactic| walk_at "my ct") => `(tactic| exact ct_get_sep_str _ _ _)
local macro_rules | `(tactic| walk_at "my ct") => `(tactic| exact ct_get_sep_bytes _ _ _)
local macro_rules | `(tactic| walk_at "call ref") => `(tactic| (k_here; k_dflt (refine' ct_use ?C ?k1 ?k2 ?k3 ?k4 ?k5 ?kK ?kd ?ku ?_; (case C => walk_at "my ct"); (case k1 => k_asm); (case k2 => k_asm); (case k3 => k_asm); (case k4 => k_asm); (case k5 => k_asm); (case kK => first | exact rfl | assumption); (case kd => ktr_room); (case ku => ktr_units); k_whole); intro t9 h9 tk9 F9 N9; (try dsimp only); (try k_fold)))
local macro_rules | `(tactic| walk_at "my end") => `(tactic| (refine' ct_ret ?e0 ?e1 ?e2 ?e3 ?_; (case e0 => assumption); (case e1 => k_asm); (case e2 => k_asm); (case e3 => kcj_all)))
local macro_rules | `(tactic| walk_at "my endT") => `(tactic| (refine' ctT_ret ?e0 ?e1 ?e2 ?e3 ?e4 ?_; (case e0 => assumption); (case e1 => k_asm); (case e2 => k_asm); (case e3 => k_mem); (case e4 => kcj_all)))
local macro_rules | `(tactic| walk_at "my turn1") => `(tactic| (refine' InvEndN.intro ?F ?N ⟨rfl, _, ?_, ?rf, ?same⟩ rfl ?hn ?ho; (case F => k_asm); (case N => k_asm); (case rf => with_unfolding_all rfl); (case same => intro z h1 h2; simp [h1, h2]); (case hn => intro p hp; simp [hp]); (case ho => intro p hp; simp [hp])))
local macro_rules | `(tactic| walk_at "inplaceOp Add bytes bytes") => `(tactic| (k_here; k_dflt (refine' b_iadd ?k3 ?_; (case k3 => walk_at "my len"); k_whole); intro _ _))
theorem ct_basename_str (w : World) (x : List Nat) (hx : x.length ≤ 4096) (t : Tok) : Ct w 3 129 [.str (S x) t] (fun t' => .str (S (baseL 47 x)) t') := by
  unfold Ct
  k_fill
  intro mean mg mb dp un gd cn cs a ccd cl outer A₀ base h₀ L m news s Q E B F X N T hk hd hu hret
  refine wpAny_call ?_
  k_dflt cell_enter
  k_steps
  all_goals walk_at "my end"
  all_goals exact ⟨_, rfl⟩
theorem ct_basename_bytes (w : World) (x : List UInt8) (hx : x.length ≤ 4096) (t : Tok) : Ct w 3 129 [.bytes x.toArray t] (fun t' => .bytes (baseL 47 x).toArray t') := by
  unfold Ct
  k_fill
  intro mean mg mb dp un gd cn cs a ccd cl outer A₀ base h₀ L m news s Q E B F X N T hk hd hu hret
  refine wpAny_call ?_
  k_dflt cell_enter
  k_steps
  all_goals walk_at "my end"
  all_goals exact ⟨_, rfl⟩
theorem ct_dirname_str (w : World) (x : List Nat) (hx : x.length ≤ 4096) (t : Tok) : Ct w 3 136 [.str (S x) t] (fun t' => .str (S (dirL 47 x)) t') := by
  unfold Ct
  k_fill
  intro mean mg mb dp un gd cn cs a ccd cl outer A₀ base h₀ L m news s Q E B F X N T hk hd hu hret
  refine wpAny_call ?_
  k_dflt cell_enter
  k_steps
  all_goals walk_at "my end"
  all_goals (first | refine str_end ?_ | refine bytes_end ?_)
  all_goals unfold dirL headL
  all_goals (first | rw [if_pos ⟨by assumption, by assumption⟩] | rw [if_neg (fun h => absurd h.2 (by assumption))] | rw [if_neg (fun h => absurd h.1 (by assumption))])
theorem ct_dirname_bytes (w : World) (x : List UInt8) (hx : x.length ≤ 4096) (t : Tok) : Ct w 3 136 [.bytes x.toArray t] (fun t' => .bytes (dirL 47 x).toArray t') := by
  unfold Ct
  k_fill
  intro mean mg mb dp un gd cn cs a ccd cl outer A₀ base h₀ L m news s Q E B F X N T hk hd hu hret
  refine wpAny_call ?_
  k_dflt cell_enter
  k_steps
  all_goals walk_at "my end"
  all_goals (first | refine str_end ?_ | refine bytes_end ?_)
  all_goals unfold dirL headL
  all_goals (first | rw [if_pos ⟨by assumption, by assumption⟩] | rw [if_neg (fun h => absurd h.2 (by assumption))] | rw [if_neg (fun h => absurd h.1 (by assumption))])

end Mine
end

section
open PySem PySem.W PySem.Spec PySem.Calls PyProof.Rows
set_option Elab.async false
set_option maxRecDepth 100000
set_option maxHeartbeats 4000000
set_option linter.unusedVariables false
namespace Mine
local macro_rules | `(tactic| walk_at "my lit") => `(tactic| first | with_reducible exact lit_slash | with_reducible exact lit_dot | with_reducible exact lit_dots | with_reducible exact lit_nil | with_reducible exact lit_two | with_reducible exact lit_u1 | with_reducible exact lit_u2 | with_reducible exact lit_u3 | with_reducible exact lit_u4 | with_reducible exact lit_u5 | with_reducible rfl)
local macro_rules | `(tactic| walk_at "my len") => `(tactic| first | assumption | ((try simp only [List.length_take, List.length_drop, List.length_replicate, List.length_cons, List.length_nil, List.length_append]); omega) | (refine Nat.le_trans (rsL_len _ _) ?_; first | assumption | ((try simp only [List.length_take, List.length_drop, List.length_replicate, List.length_cons, List.length_nil, List.length_append]); omega)))
local macro_rules | `(tactic| walk_at "my cut") => `(tactic| with_reducible first | exact cut_drop_at _ _ | exact cut_take_at _ _ | exact cut_take_1 _ | exact cut_take_2 _ | exact cut_drop_1 _ | exact cut_drop_2 _ | exact cut_mid_12 _ | exact cut_mid_23 _ | exact cut_init _ | exact cut_final _)
local macro_rules | `(tactic| walk_at "call builtin:issubclass") => `(tactic| (k_here; k_dflt (first
  | (refine' call_iss iss_str (kitTp_N ?k1 ?k2) ?_; (case k1 => k_asm); (case k2 => k_mem); k_whole)
  | (refine' call_iss iss_bytes (kitTp_N ?k1 ?k2) ?_; (case k1 => k_asm); (case k2 => k_mem); k_whole)); intro _; (try dsimp only)))
local macro_rules | `(tactic| walk_at "call type:type") => `(tactic| ((with_reducible show wpAny _ _ (call _ [Value.bytes _ _]) _ _ _); refine call_type_of (Tx := "bytes") rfl (by decide +kernel) ?_))
local macro_rules | `(tactic| walk_at "call builtin:str.rfind") => `(tactic| (k_here; k_dflt (refine' r_rfind ?k1 ?k2 ?_; (case k1 => walk_at "my lit"); (case k2 => walk_at "my lit"); k_whole); intro _ _))
local macro_rules | `(tactic| walk_at "call builtin:str.rstrip") => `(tactic| (k_here; k_dflt (refine' r_rstrip ?k1 ?k2 ?k3 ?_; (case k1 => walk_at "my lit"); (case k2 => walk_at "my lit"); (case k3 => walk_at "my len"); k_whole); intro _ _))
local macro_rules | `(tactic| walk_at "call builtin:str.lstrip") => `(tactic| (k_here; k_dflt (refine' r_lstrip ?k1 ?k2 ?k3 ?_; (case k1 => walk_at "my lit"); (case k2 => walk_at "my lit"); (case k3 => walk_at "my len"); k_whole); intro _ _))
local macro_rules | `(tactic| walk_at "call builtin:str.strip") => `(tactic| (k_here; k_dflt (refine' r_strip ?k1 ?k2 ?k3 ?_; (case k1 => walk_at "my lit"); (case k2 => walk_at "my lit"); (case k3 => walk_at "my len"); k_whole); intro _ _))
local macro_rules | `(tactic| walk_at "call builtin:str.startswith") => `(tactic| (k_here; k_dflt (refine' r_starts ?k1 ?k2 ?_; (case k1 => walk_at "my lit"); (case k2 => walk_at "my lit"); k_whole)))
local macro_rules | `(tactic| walk_at "call builtin:str.endswith") => `(tactic| (k_here; k_dflt (refine' r_ends ?k1 ?k2 ?_; (case k1 => walk_at "my lit"); (case k2 => walk_at "my lit"); k_whole)))
local macro_rules | `(tactic| walk_at "binaryOp Mult str int") => `(tactic| (k_here; k_dflt (refine' r_mul ?k1 ?k3 ?_; (case k1 => walk_at "my lit"); (case k3 => walk_at "my len"); k_whole); intro _ _))
local macro_rules | `(tactic| walk_at "compareOp Eq str str") => `(tactic| (k_here; k_dflt (refine' r_eq ?k1 ?k2 ?_; (case k1 => walk_at "my lit"); (case k2 => walk_at "my lit"); k_whole)))
local macro_rules | `(tactic| walk_at "compareOp NotEq str str") => `(tactic| (k_here; k_dflt (refine' r_ne ?k1 ?k2 ?_; (case k1 => walk_at "my lit"); (case k2 => walk_at "my lit"); k_whole)))
local macro_rules | `(tactic| walk_at "compareOp NotIn str str") => `(tactic| (k_here; k_dflt (refine' r_notin ?k1 ?k2 ?_; (case k1 => walk_at "my lit"); (case k2 => walk_at "my lit"); k_whole)))
local macro_rules | `(tactic| walk_at "truthy str") => `(tactic| (k_here; k_dflt (refine' r_truthy ?k1 ?k3 ?_; (case k1 => walk_at "my lit"); (case k3 => walk_at "my len"); k_whole); intro _))
local macro_rules | `(tactic| walk_at "call builtin:len") => `(tactic| (k_here; (with_reducible show wpAny _ _ (call _ [Value.str _ _]) _ _ _); k_dflt (refine' r_len ?k1 ?k3 ?_; (case k1 => walk_at "my lit"); (case k3 => walk_at "my len"); k_whole); intro _ _))
local macro_rules | `(tactic| walk_at "binaryOp Add str str") => `(tactic| (k_here; k_dflt (refine' r_add ?k1 ?k2 ?k3 ?_; (case k1 => walk_at "my lit"); (case k2 => walk_at "my lit"); (case k3 => walk_at "my len"); k_whole); intro _ _))
local macro_rules | `(tactic| walk_at "inplaceOp Add str str") => `(tactic| (k_here; k_dflt (refine' r_iadd ?k1 ?k2 ?k3 ?_; (case k1 => walk_at "my lit"); (case k2 => walk_at "my lit"); (case k3 => walk_at "my len"); k_whole); intro _ _))
local macro_rules | `(tactic| walk_at "subscriptTail Name Slice str ref") => `(tactic| (k_here; (with_reducible show wpAny _ _ (subscriptTail _ (Expr.Slice none (some _) none _) (Value.str _ _) (Value.ref _)) _ _ _); (with_reducible rename Fr _ _ _ _ => F'); (with_reducible rename News _ _ _ _ => N'); k_dflt (refine' r_slice_ns (s := ⟨_, _, _, _, _⟩) F' N' ?k1 ?k2 ?k3 ?_; (case k1 => walk_at "my lit"); (case k2 => walk_at "my cut"); (case k3 => walk_at "my len"); k_whole); intro _ _ _ F9 N9))
local macro_rules | `(tactic| walk_at "subscriptTail Name Slice str ref") => `(tactic| (k_here; (with_reducible show wpAny _ _ (subscriptTail _ (Expr.Slice (some _) none none _) (Value.str _ _) (Value.ref _)) _ _ _); (with_reducible rename Fr _ _ _ _ => F'); (with_reducible rename News _ _ _ _ => N'); k_dflt (refine' r_slice_sn (s := ⟨_, _, _, _, _⟩) F' N' ?k1 ?k2 ?k3 ?_; (case k1 => walk_at "my lit"); (case k2 => walk_at "my cut"); (case k3 => walk_at "my len"); k_whole); intro _ _ _ F9 N9))
local macro_rules | `(tactic| walk_at "subscriptTail Name Slice str ref") => `(tactic| (k_here; (with_reducible show wpAny _ _ (subscriptTail _ (Expr.Slice (some _) (some _) none _) (Value.str _ _) (Value.ref _)) _ _ _); (with_reducible rename Fr _ _ _ _ => F'); (with_reducible rename News _ _ _ _ => N'); k_dflt (refine' r_slice_ss (s := ⟨_, _, _, _, _⟩) F' N' ?k1 ?k2 ?k3 ?_; (case k1 => walk_at "my lit"); (case k2 => walk_at "my cut"); (case k3 => walk_at "my len"); k_whole); intro _ _ _ F9 N9))
local macro_rules | `(tactic| walk_at "subscriptTail") => `(tactic| (k_here; (with_reducible show wpAny _ _ (subscriptTail _ (Expr.Slice _ _ none _) (Value.bytes _ _) (Value.ref _)) _ _ _); (with_reducible rename Fr _ _ _ _ => F'); (with_reducible rename News _ _ _ _ => N'); k_dflt (refine' slice_bytes (s := ⟨_, _, _, _, _⟩) F' N' ?k4 ?k5 ?k3 ?k2 ?_; (case k4 => first | exact IsPart.none | exact IsPart.int _ _); (case k5 => first | exact IsPart.none | exact IsPart.int _ _); (case k3 => first | (walk_at "my len") | (refine Nat.le_trans (m := 4096) ?_ (by decide); walk_at "my len")); (case k2 => walk_at "my cut"); k_whole); intro _ _ _ F9 N9))
local macro_rules | `(tactic| walk_at "getMethod bytes") => `(tactic| (k_here; (with_reducible first | refine meth_bytes_rfind ?_ | refine meth_bytes_rstrip ?_ | refine meth_bytes_split ?_ | refine meth_bytes_join ?_ | refine meth_bytes_startswith ?_ | refine meth_bytes_endswith ?_)))
local macro_rules | `(tactic| walk_at "call builtin:bytes.rfind") => `(tactic| (k_here; k_dflt (refine rfind_bytes ?_); intro _ _))
local macro_rules | `(tactic| walk_at "call builtin:bytes.rstrip") => `(tactic| (k_here; k_dflt (refine' rstrip_bytes ?k3 ?_; (case k3 => (refine Nat.le_trans (m := 4096) ?_ (by decide); walk_at "my len")); k_whole); intro _ _))
local macro_rules | `(tactic| walk_at "call builtin:bytes.startswith") => `(tactic| (k_here; k_dflt (refine startswith_bytes ?_); intro _))
local macro_rules | `(tactic| walk_at "call builtin:bytes.endswith") => `(tactic| (k_here; k_dflt (refine endswith_bytes ?_); intro _))
local macro_rules | `(tactic| walk_at "compareOp Eq bytes bytes") => `(tactic| (k_here; k_dflt (refine b_eq ?_)))
local macro_rules | `(tactic| walk_at "compareOp NotEq bytes bytes") => `(tactic| (k_here; k_dflt (refine b_ne ?_)))
local macro_rules | `(tactic| walk_at "truthy bytes") => `(tactic| (k_here; k_dflt (refine' b_truthy ?k3 ?_; (case k3 => walk_at "my len"); k_whole); intro _))
local macro_rules | `(tactic| walk_at "call builtin:len") => `(tactic| (k_here; (with_reducible show wpAny _ _ (call _ [Value.bytes _ _]) _ _ _); k_dflt (refine' b_len ?k3 ?_; (case k3 => walk_at "my len"); k_whole); intro _ _))
local macro_rules | `(tactic| walk_at "binaryOp Add bytes bytes") => `(tactic| (k_here; k_dflt (refine' b_add ?k3 ?_; (case k3 => walk_at "my len"); k_whole); intro _ _))
local macro_rules | `(tactic| walk_at "binaryOp Mult bytes int") => `(tactic| (k_here; k_dflt (refine' mul_bytes ?k4 ?k3 ?_; (case k4 => walk_at "my pos"); (case k3 => walk_at "my len"); k_whole); intro _ _))
local macro_rules | `(tactic| walk_at "my pos") => `(tactic| exact List.length_pos_iff.mpr (by assumption))
local macro_rules | `(tactic| walk_at "my ct") => `(tactic| exact ct_fspath_str _ _ _)
local macro_rules | `(tactic| walk_at "my ct") => `(tactic| exact ct_fspath_bytes _ _ _)
local macro_rules | `(tactic| walk_at "my ct") => `(tactic| exact ct_get_sep_str _ _ _)
local macro_rules | `(tactic| walk_at "my ct") => `(tactic| exact ct_get_sep_bytes _ _ _)
local macro_rules | `(tactic| walk_at "call ref") => `(tactic| (k_here; k_dflt (refine' ct_use ?C ?k1 ?k2 ?k3 ?k4 ?k5 ?kK ?kd ?ku ?_; (case C => walk_at "my ct"); (case k1 => k_asm); (case k2 => k_asm); (case k3 => k_asm); (case k4 => k_asm); (case k5 => k_asm); (case kK => first | exact rfl | assumption); (case kd => ktr_room); (case ku => ktr_units); k_whole); intro t9 h9 tk9 F9 N9; (try dsimp only); (try k_fold)))
local macro_rules | `(tactic| walk_at "my end") => `(tactic| (refine' ct_ret ?e0 ?e1 ?e2 ?e3 ?_; (case e0 => assumption); (case e1 => k_asm); (case e2 => k_asm); (case e3 => kcj_all)))
local macro_rules | `(tactic| walk_at "my endT") => `(tactic| (refine' ctT_ret ?e0 ?e1 ?e2 ?e3 ?e4 ?_; (case e0 => assumption); (case e1 => k_asm); (case e2 => k_asm); (case e3 => k_mem); (case e4 => kcj_all)))
local macro_rules | `(tactic| walk_at "my turn1") => `(tactic| (refine' InvEndN.intro ?F ?N ⟨rfl, _, ?_, ?rf, ?same⟩ rfl ?hn ?ho; (case F => k_asm); (case N => k_asm); (case rf => with_unfolding_all rfl); (case same => intro z h1 h2; simp [h1, h2]); (case hn => intro p hp; simp [hp]); (case ho => intro p hp; simp [hp])))
local macro_rules | `(tactic| walk_at "inplaceOp Add bytes bytes") => `(tactic| (k_here; k_dflt (refine' b_iadd ?k3 ?_; (case k3 => walk_at "my len"); k_whole); intro _ _))
theorem ct_splitroot_str (w : World) (x : List Nat) (hx : x.length ≤ 4096) (t : Tok) : CtT w 3 122 [.str (S x) t] (fun t1 t2 t3 => [.str (S []) t1, .str (S (rootL 47 x)) t2, .str (S (restL 47 x)) t3]) := by
  unfold CtT
  k_fill
  intro mean mg mb dp un gd cn cs a ccd cl outer A₀ base h₀ L m news s Q E B F X N T hk hd hu hret
  refine wpAny_call ?_
  k_dflt cell_enter
  k_steps
  all_goals walk_at "my endT"
  all_goals refine three_str ?_ ?_ ?_
  all_goals (try rw [lit_nil])
  all_goals (try rw [lit_slash])
  all_goals refine congrArg S ?_
  all_goals first | rfl | unfold rootL | unfold restL
  all_goals simp_all
theorem ct_splitroot_bytes (w : World) (x : List UInt8) (hx : x.length ≤ 4096) (t : Tok) : CtT w 3 122 [.bytes x.toArray t] (fun t1 t2 t3 => [.bytes ([] : List UInt8).toArray t1, .bytes (rootL 47 x).toArray t2, .bytes (restL 47 x).toArray t3]) := by
  unfold CtT
  k_fill
  intro mean mg mb dp un gd cn cs a ccd cl outer A₀ base h₀ L m news s Q E B F X N T hk hd hu hret
  refine wpAny_call ?_
  k_dflt cell_enter
  k_steps
  all_goals walk_at "my endT"
  all_goals refine three_bytes rfl ?_ ?_
  all_goals first | unfold rootL | unfold restL
  all_goals simp_all

end Mine
end

section
open PySem PySem.W PySem.Spec PySem.Calls PyProof.Rows
set_option Elab.async false
set_option maxRecDepth 100000
set_option maxHeartbeats 4000000
set_option linter.unusedVariables false
namespace Mine
local macro_rules | `(tactic| walk_at "my lit") => `(tactic| first | with_reducible exact lit_slash | with_reducible exact lit_dot | with_reducible exact lit_dots | with_reducible exact lit_nil | with_reducible exact lit_two | with_reducible exact lit_u1 | with_reducible exact lit_u2 | with_reducible exact lit_u3 | with_reducible exact lit_u4 | with_reducible exact lit_u5 | with_reducible rfl)
local macro_rules | `(tactic| walk_at "my len") => `(tactic| first | assumption | ((try simp only [List.length_take, List.length_drop, List.length_replicate, List.length_cons, List.length_nil, List.length_append]); omega) | (refine Nat.le_trans (rsL_len _ _) ?_; first | assumption | ((try simp only [List.length_take, List.length_drop, List.length_replicate, List.length_cons, List.length_nil, List.length_append]); omega)))
local macro_rules | `(tactic| walk_at "my cut") => `(tactic| with_reducible first | exact cut_drop_at _ _ | exact cut_take_at _ _ | exact cut_take_1 _ | exact cut_take_2 _ | exact cut_drop_1 _ | exact cut_drop_2 _ | exact cut_mid_12 _ | exact cut_mid_23 _ | exact cut_init _ | exact cut_final _)
local macro_rules | `(tactic| walk_at "call builtin:issubclass") => `(tactic| (k_here; k_dflt (first
  | (refine' call_iss iss_str (kitTp_N ?k1 ?k2) ?_; (case k1 => k_asm); (case k2 => k_mem); k_whole)
  | (refine' call_iss iss_bytes (kitTp_N ?k1 ?k2) ?_; (case k1 => k_asm); (case k2 => k_mem); k_whole)); intro _; (try dsimp only)))
local macro_rules | `(tactic| walk_at "call type:type") => `(tactic| ((with_reducible show wpAny _ _ (call _ [Value.bytes _ _]) _ _ _); refine call_type_of (Tx := "bytes") rfl (by decide +kernel) ?_))
local macro_rules | `(tactic| walk_at "call builtin:str.rfind") => `(tactic| (k_here; k_dflt (refine' r_rfind ?k1 ?k2 ?_; (case k1 => walk_at "my lit"); (case k2 => walk_at "my lit"); k_whole); intro _ _))
local macro_rules | `(tactic| walk_at "call builtin:str.rstrip") => `(tactic| (k_here; k_dflt (refine' r_rstrip ?k1 ?k2 ?k3 ?_; (case k1 => walk_at "my lit"); (case k2 => walk_at "my lit"); (case k3 => walk_at "my len"); k_whole); intro _ _))
local macro_rules | `(tactic| walk_at "call builtin:str.lstrip") => `(tactic| (k_here; k_dflt (refine' r_lstrip ?k1 ?k2 ?k3 ?_; (case k1 => walk_at "my lit"); (case k2 => walk_at "my lit"); (case k3 => walk_at "my len"); k_whole); intro _ _))
local macro_rules | `(tactic| walk_at "call builtin:str.strip") => `(tactic| (k_here; k_dflt (refine' r_strip ?k1 ?k2 ?k3 ?_; (case k1 => walk_at "my lit"); (case k2 => walk_at "my lit"); (case k3 => walk_at "my len"); k_whole); intro _ _))
local macro_rules | `(tactic| walk_at "call builtin:str.startswith") => `(tactic| (k_here; k_dflt (refine' r_starts ?k1 ?k2 ?_; (case k1 => walk_at "my lit"); (case k2 => walk_at "my lit"); k_whole)))
local macro_rules | `(tactic| walk_at "call builtin:str.endswith") => `(tactic| (k_here; k_dflt (refine' r_ends ?k1 ?k2 ?_; (case k1 => walk_at "my lit"); (case k2 => walk_at "my lit"); k_whole)))
local macro_rules | `(tactic| walk_at "binaryOp Mult str int") => `(tactic| (k_here; k_dflt (refine' r_mul ?k1 ?k3 ?_; (case k1 => walk_at "my lit"); (case k3 => walk_at "my len"); k_whole); intro _ _))
local macro_rules | `(tactic| walk_at "compareOp Eq str str") => `(tactic| (k_here; k_dflt (refine' r_eq ?k1 ?k2 ?_; (case k1 => walk_at "my lit"); (case k2 => walk_at "my lit"); k_whole)))
local macro_rules | `(tactic| walk_at "compareOp NotEq str str") => `(tactic| (k_here; k_dflt (refine' r_ne ?k1 ?k2 ?_; (case k1 => walk_at "my lit"); (case k2 => walk_at "my lit"); k_whole)))
local macro_rules | `(tactic| walk_at "compareOp NotIn str str") => `(tactic| (k_here; k_dflt (refine' r_notin ?k1 ?k2 ?_; (case k1 => walk_at "my lit"); (case k2 => walk_at "my lit"); k_whole)))
local macro_rules | `(tactic| walk_at "truthy str") => `(tactic| (k_here; k_dflt (refine' r_truthy ?k1 ?k3 ?_; (case k1 => walk_at "my lit"); (case k3 => walk_at "my len"); k_whole); intro _))
local macro_rules | `(tactic| walk_at "call builtin:len") => `(tactic| (k_here; (with_reducible show wpAny _ _ (call _ [Value.str _ _]) _ _ _); k_dflt (refine' r_len ?k1 ?k3 ?_; (case k1 => walk_at "my lit"); (case k3 => walk_at "my len"); k_whole); intro _ _))
local macro_rules | `(tactic| walk_at "binaryOp Add str str") => `(tactic| (k_here; k_dflt (refine' r_add ?k1 ?k2 ?k3 ?_; (case k1 => walk_at "my lit"); (case k2 => walk_at "my lit"); (case k3 => walk_at "my len"); k_whole); intro _ _))
local macro_rules | `(tactic| walk_at "inplaceOp Add str str") => `(tactic| (k_here; k_dflt (refine' r_iadd ?k1 ?k2 ?k3 ?_; (case k1 => walk_at "my lit"); (case k2 => walk_at "my lit"); (case k3 => walk_at "my len"); k_whole); intro _ _))
local macro_rules | `(tactic| walk_at "subscriptTail Name Slice str ref") => `(tactic| (k_here; (with_reducible show wpAny _ _ (subscriptTail _ (Expr.Slice none (some _) none _) (Value.str _ _) (Value.ref _)) _ _ _); (with_reducible rename Fr _ _ _ _ => F'); (with_reducible rename News _ _ _ _ => N'); k_dflt (refine' r_slice_ns (s := ⟨_, _, _, _, _⟩) F' N' ?k1 ?k2 ?k3 ?_; (case k1 => walk_at "my lit"); (case k2 => walk_at "my cut"); (case k3 => walk_at "my len"); k_whole); intro _ _ _ F9 N9))
local macro_rules | `(tactic| walk_at "subscriptTail Name Slice str ref") => `(tactic| (k_here; (with_reducible show wpAny _ _ (subscriptTail _ (Expr.Slice (some _) none none _) (Value.str _ _) (Value.ref _)) _ _ _); (with_reducible rename Fr _ _ _ _ => F'); (with_reducible rename News _ _ _ _ => N'); k_dflt (refine' r_slice_sn (s := ⟨_, _, _, _, _⟩) F' N' ?k1 ?k2 ?k3 ?_; (case k1 => walk_at "my lit"); (case k2 => walk_at "my cut"); (case k3 => walk_at "my len"); k_whole); intro _ _ _ F9 N9))
local macro_rules | `(tactic| walk_at "subscriptTail Name Slice str ref") => `(tactic| (k_here; (with_reducible show wpAny _ _ (subscriptTail _ (Expr.Slice (some _) (some _) none _) (Value.str _ _) (Value.ref _)) _ _ _); (with_reducible rename Fr _ _ _ _ => F'); (with_reducible rename News _ _ _ _ => N'); k_dflt (refine' r_slice_ss (s := ⟨_, _, _, _, _⟩) F' N' ?k1 ?k2 ?k3 ?_; (case k1 => walk_at "my lit"); (case k2 => walk_at "my cut"); (case k3 => walk_at "my len"); k_whole); intro _ _ _ F9 N9))
local macro_rules | `(tactic| walk_at "subscriptTail") => `(tactic| (k_here; (with_reducible show wpAny _ _ (subscriptTail _ (Expr.Slice _ _ none _) (Value.bytes _ _) (Value.ref _)) _ _ _); (with_reducible rename Fr _ _ _ _ => F'); (with_reducible rename News _ _ _ _ => N'); k_dflt (refine' slice_bytes (s := ⟨_, _, _, _, _⟩) F' N' ?k4 ?k5 ?k3 ?k2 ?_; (case k4 => first | exact IsPart.none | exact IsPart.int _ _); (case k5 => first | exact IsPart.none | exact IsPart.int _ _); (case k3 => first | (walk_at "my len") | (refine Nat.le_trans (m := 4096) ?_ (by decide); walk_at "my len")); (case k2 => walk_at "my cut"); k_whole); intro _ _ _ F9 N9))
local macro_rules | `(tactic| walk_at "getMethod bytes") => `(tactic| (k_here; (with_reducible first | refine meth_bytes_rfind ?_ | refine meth_bytes_rstrip ?_ | refine meth_bytes_split ?_ | refine meth_bytes_join ?_ | refine meth_bytes_startswith ?_ | refine meth_bytes_endswith ?_)))
local macro_rules | `(tactic| walk_at "call builtin:bytes.rfind") => `(tactic| (k_here; k_dflt (refine rfind_bytes ?_); intro _ _))
local macro_rules | `(tactic| walk_at "call builtin:bytes.rstrip") => `(tactic| (k_here; k_dflt (refine' rstrip_bytes ?k3 ?_; (case k3 => (refine Nat.le_trans (m := 4096) ?_ (by decide); walk_at "my len")); k_whole); intro _ _))
local macro_rules | `(tactic| walk_at "call builtin:bytes.startswith") => `(tactic| (k_here; k_dflt (refine startswith_bytes ?_); intro _))
local macro_rules | `(tactic| walk_at "call builtin:bytes.endswith") => `(tactic| (k_here; k_dflt (refine endswith_bytes ?_); intro _))
local macro_rules | `(tactic| walk_at "compareOp Eq bytes bytes") => `(tactic| (k_here; k_dflt (refine b_eq ?_)))
local macro_rules | `(tactic| walk_at "compareOp NotEq bytes bytes") => `(tactic| (k_here; k_dflt (refine b_ne ?_)))
local macro_rules | `(tactic| walk_at "truthy bytes") => `(tactic| (k_here; k_dflt (refine' b_truthy ?k3 ?_; (case k3 => walk_at "my len"); k_whole); intro _))
local macro_rules | `(tactic| walk_at "call builtin:len") => `(tactic| (k_here; (with_reducible show wpAny _ _ (call _ [Value.bytes _ _]) _ _ _); k_dflt (refine' b_len ?k3 ?_; (case k3 => walk_at "my len"); k_whole); intro _ _))
local macro_rules | `(tactic| walk_at "binaryOp Add bytes bytes") => `(tactic| (k_here; k_dflt (refine' b_add ?k3 ?_; (case k3 => walk_at "my len"); k_whole); intro _ _))
local macro_rules | `(tactic| walk_at "binaryOp Mult bytes int") => `(tactic| (k_here; k_dflt (refine' mul_bytes ?k4 ?k3 ?_; (case k4 => walk_at "my pos"); (case k3 => walk_at "my len"); k_whole); intro _ _))
local macro_rules | `(tactic| walk_at "my pos") => `(tactic| exact List.length_pos_iff.mpr (by assumption))
local macro_rules | `(tactic| walk_at "my ct") => `(tactic| exact ct_fspath_str _ _ _)
local macro_rules | `(tactic| walk_at "my ct") => `(tactic| exact ct_fspath_bytes _ _ _)
local macro_rules | `(tactic| walk_at "my ct") => `(tactic| exact ct_get_sep_str _ _ _)
local macro_rules | `(tactic| walk_at "my ct") => `(tactic| exact ct_get_sep_bytes _ _ _)
local macro_rules | `(tactic| walk_at "call ref") => `(tactic| (k_here; k_dflt (refine' ct_use ?C ?k1 ?k2 ?k3 ?k4 ?k5 ?kK ?kd ?ku ?_; (case C => walk_at "my ct"); (case k1 => k_asm); (case k2 => k_asm); (case k3 => k_asm); (case k4 => k_asm); (case k5 => k_asm); (case kK => first | exact rfl | assumption); (case kd => ktr_room); (case ku => ktr_units); k_whole); intro t9 h9 tk9 F9 N9; (try dsimp only); (try k_fold)))
local macro_rules | `(tactic| walk_at "my end") => `(tactic| (refine' ct_ret ?e0 ?e1 ?e2 ?e3 ?_; (case e0 => assumption); (case e1 => k_asm); (case e2 => k_asm); (case e3 => kcj_all)))
local macro_rules | `(tactic| walk_at "my endT") => `(tactic| (refine' ctT_ret ?e0 ?e1 ?e2 ?e3 ?e4 ?_; (case e0 => assumption); (case e1 => k_asm); (case e2 => k_asm); (case e3 => k_mem); (case e4 => kcj_all)))
local macro_rules | `(tactic| walk_at "my turn1") => `(tactic| (refine' InvEndN.intro ?F ?N ⟨rfl, _, ?_, ?rf, ?same⟩ rfl ?hn ?ho; (case F => k_asm); (case N => k_asm); (case rf => with_unfolding_all rfl); (case same => intro z h1 h2; simp [h1, h2]); (case hn => intro p hp; simp [hp]); (case ho => intro p hp; simp [hp])))
local macro_rules | `(tactic| walk_at "inplaceOp Add bytes bytes") => `(tactic| (k_here; k_dflt (refine' b_iadd ?k3 ?_; (case k3 => walk_at "my len"); k_whole); intro _ _))
theorem ct_join_str (w : World) (x y : List Nat) (hx : x.length ≤ 4096) (hy : y.length ≤ 4096) (t u : Tok) : Ct w 3 115 [.str (S x) t, .str (S y) u] (fun t' => .str (S (joinL 47 x y)) t') := by
  unfold Ct
  k_fill
  intro mean mg mb dp un gd cn cs a ccd cl outer A₀ base h₀ L m news s Q E B F X N T hk hd hu hret
  refine wpAny_call ?_
  k_dflt (refine' kp_rest ?k1 ?k2 ?k3 ?k4 ?k5 ?kA ?kF ?kK ?k6 ?k7 ?k8 ?kV ?kP ?kG ?kB ?_ ?c2 ?c3 ?c4 ?c5; (case kA => exact rfl); (case kF => exact rfl); (case kK => assumption); (case k1 => k_asm); (case k2 => k_asm); (case k3 => k_asm); (case k4 => k_asm); (case k5 => k_asm); (case k6 => k_is); (case k7 => k_is); (case k8 => ktr_room); (case kV => kl_lit); (case kP => exact rfl); (case kG => exact fun _ => rfl); (case kB => exact fun _ => locs rfl); (case c5 => decide); (case c2 => exact rfl); (case c3 => exact rfl); (case c4 => exact rfl); k_whole; intro D' g' L' h' l1 FG' F' N' B' X' T'; (try dsimp only); (try k_lift B'); (try k_fold))
  k_steps
  case' _ => skip
  rename Fr _ _ _ _ => lF
  rename News _ _ _ _ => lN
  with_unfolding_all refine' For_invVF lF ?k1 ?k2 ?_
  case k1 => exact rfl
  case k2 => exact rfl
  k_whole
  k_dflt (refine' ld lF ?k2 ?_; (case k2 => exact rfl); k_whole)
  refine tup_loop1 (y := Str.ofString "path") (vs := [.str (S y) u]) (news := news) (fun i c => (i = 0 → c = .str (S x) t) ∧ (i = 1 → ∃ t', c = .str (S (joinL 47 x y)) t')) rfl (News.isTup lN (.head _)) ?hD lF (news_sub lN (fun p hp => .tail _ hp)) rfl (by decide) ⟨fun _ => rfl, fun h => absurd h (by decide)⟩ ?turn ?done
  case hD => exact fun p hp => Nat.ne_of_lt (l1 p hp)
  case turn =>
    intro i v c h tk own hi hoff hP F₁ N₁
    match i, hi, hP with
    | 0, hi, hP =>
      obtain rfl := hP.1 rfl
      obtain rfl : .str (S y) u = v := by simpa using hi
      clear lF lN
      try k_fold
      k_steps
      all_goals walk_at "my turn1"
      all_goals refine ⟨fun h => absurd h (by decide), fun _ => str_end ?_⟩
      all_goals unfold joinL
      all_goals simp_all
    | i + 1, hi, hP => simp at hi
  case done =>
  intro c u h tk hP F₁ N₁
  obtain ⟨t', rfl⟩ := hP.2 rfl
  clear lF lN
  try k_fold
  k_steps
  all_goals walk_at "my end"
  all_goals exact ⟨_, rfl⟩
theorem ct_join_bytes (w : World) (x y : List UInt8) (hx : x.length ≤ 4096) (hy : y.length ≤ 4096) (t u : Tok) : Ct w 3 115 [.bytes x.toArray t, .bytes y.toArray u] (fun t' => .bytes (joinL 47 x y).toArray t') := by
  unfold Ct
  k_fill
  intro mean mg mb dp un gd cn cs a ccd cl outer A₀ base h₀ L m news s Q E B F X N T hk hd hu hret
  refine wpAny_call ?_
  k_dflt (refine' kp_rest ?k1 ?k2 ?k3 ?k4 ?k5 ?kA ?kF ?kK ?k6 ?k7 ?k8 ?kV ?kP ?kG ?kB ?_ ?c2 ?c3 ?c4 ?c5; (case kA => exact rfl); (case kF => exact rfl); (case kK => assumption); (case k1 => k_asm); (case k2 => k_asm); (case k3 => k_asm); (case k4 => k_asm); (case k5 => k_asm); (case k6 => k_is); (case k7 => k_is); (case k8 => ktr_room); (case kV => kl_lit); (case kP => exact rfl); (case kG => exact fun _ => rfl); (case kB => exact fun _ => locs rfl); (case c5 => decide); (case c2 => exact rfl); (case c3 => exact rfl); (case c4 => exact rfl); k_whole; intro D' g' L' h' l1 FG' F' N' B' X' T'; (try dsimp only); (try k_lift B'); (try k_fold))
  k_steps
  case' _ => skip
  rename Fr _ _ _ _ => lF
  rename News _ _ _ _ => lN
  with_unfolding_all refine' For_invVF lF ?k1 ?k2 ?_
  case k1 => exact rfl
  case k2 => exact rfl
  k_whole
  k_dflt (refine' ld lF ?k2 ?_; (case k2 => exact rfl); k_whole)
  refine tup_loop1 (y := Str.ofString "path") (vs := [.bytes y.toArray u]) (news := news) (fun i c => (i = 0 → c = .bytes x.toArray t) ∧ (i = 1 → ∃ t', c = .bytes (joinL 47 x y).toArray t')) rfl (News.isTup lN (.head _)) ?hD lF (news_sub lN (fun p hp => .tail _ hp)) rfl (by decide) ⟨fun _ => rfl, fun h => absurd h (by decide)⟩ ?turn ?done
  case hD => exact fun p hp => Nat.ne_of_lt (l1 p hp)
  case turn =>
    intro i v c h tk own hi hoff hP F₁ N₁
    match i, hi, hP with
    | 0, hi, hP =>
      obtain rfl := hP.1 rfl
      obtain rfl : .bytes y.toArray u = v := by simpa using hi
      clear lF lN
      try k_fold
      k_steps
      all_goals walk_at "my turn1"
      all_goals refine ⟨fun h => absurd h (by decide), fun _ => bytes_end ?_⟩
      all_goals unfold joinL
      all_goals simp_all
    | i + 1, hi, hP => simp at hi
  case done =>
  intro c u h tk hP F₁ N₁
  obtain ⟨t', rfl⟩ := hP.2 rfl
  clear lF lN
  try k_fold
  k_steps
  all_goals walk_at "my end"
  all_goals exact ⟨_, rfl⟩

end Mine
end

section
open PySem PySem.W PySem.Spec PySem.Calls PyProof.Rows PyProof PyProof.V
set_option Elab.async false
set_option maxRecDepth 100000
set_option linter.unusedSectionVars false
set_option linter.unusedSimpArgs false
set_option linter.unusedVariables false
namespace Mine
def wt {α : Type} (ps : List (List α)) : Nat := (ps.map fun p => p.length + 1).sum
theorem splitL_mem {α : Type} [DecidableEq α] {s : α} {l p : List α} (h : p ∈ splitL s l) : p.length ≤ l.length := by
  induction l generalizing p with
  | nil => simp [splitL] at h; subst h; simp
  | cons c r ih =>
    obtain ⟨p', q, e⟩ := List.exists_cons_of_ne_nil (splitL_ne (s := s) r)
    rw [e] at ih
    by_cases hc : c = s
    · rw [splitL, if_pos hc, e] at h
      rcases List.mem_cons.mp h with rfl | h
      · simp
      · have := ih h; simp; omega
    · rw [splitL, if_neg hc, e] at h
      rcases List.mem_cons.mp h with rfl | h
      · have := ih (List.mem_cons_self ..); simp; omega
      · have := ih (List.mem_cons_of_mem _ h); simp; omega
theorem wt_app {α : Type} (a b : List (List α)) : wt (a ++ b) = wt a + wt b := by simp [wt]
theorem glue_wt {α : Type} [DecidableEq α] (s : α) : ∀ ps : List (List α), (glueL s ps).length ≤ wt ps
  | [] => Nat.le_refl _
  | [p] => by simp [glueL, wt]
  | p :: p' :: q => by
    have e : glueL s (p :: p' :: q) = p ++ s :: glueL s (p' :: q) := by simp [glueL]
    have ih := glue_wt s (p' :: q)
    rw [e]
    simp only [List.length_append, List.length_cons]
    have : wt (p :: p' :: q) = p.length + 1 + wt (p' :: q) := by simp [wt]
    omega
theorem wt_dropLast {α : Type} (ps : List (List α)) : wt ps.dropLast ≤ wt ps := by
  rcases List.eq_nil_or_concat ps with rfl | ⟨v, c, rfl⟩
  · exact Nat.le_refl _
  · rw [List.concat_eq_append, List.dropLast_concat, wt_app]; omega
theorem step_wt {α : Type} [DecidableEq α] (d : α) (root : List α) (acc : List (List α)) (c : List α) : wt (stepN d root acc c) ≤ wt acc + (c.length + 1) := by
  unfold stepN
  split
  · omega
  · split
    · rw [wt_app]; simp [wt]
    · have := wt_dropLast acc; omega
theorem fold_wt {α : Type} [DecidableEq α] (d : α) (root : List α) : ∀ (cs acc : List (List α)), wt (cs.foldl (stepN d root) acc) ≤ wt acc + wt cs
  | [], acc => by simp [wt]
  | c :: r, acc => by
    rw [List.foldl_cons]
    have h1 := fold_wt d root r (stepN d root acc c)
    have h2 := step_wt d root acc c
    have : wt (c :: r) = c.length + 1 + wt r := by simp [wt]
    omega
theorem split_wt {α : Type} [DecidableEq α] (s : α) (l : List α) : wt (splitL s l) = l.length + 1 := by
  induction l with
  | nil => rfl
  | cons c r ih =>
    obtain ⟨p, q, e⟩ := List.exists_cons_of_ne_nil (splitL_ne (s := s) r)
    rw [e] at ih
    have h : wt (p :: q) = p.length + 1 + wt q := by simp [wt]
    unfold splitL
    split
    · rw [e]
      have : wt ([] :: p :: q) = 1 + wt (p :: q) := by simp [wt]
      rw [this, ih]; simp; omega
    · rw [e]
      simp only [List.headD_cons, List.tail_cons]
      have : wt ((c :: p) :: q) = p.length + 1 + 1 + wt q := by simp [wt]
      rw [this]; simp; omega
theorem restL_len {α : Type} [DecidableEq α] (s : α) (l : List α) : (restL s l).length ≤ l.length := by
  unfold restL
  repeat' split
  all_goals simp
theorem rootL_len {α : Type} [DecidableEq α] (s : α) (l : List α) : (rootL s l).length ≤ 2 := by
  rw [rootL_lead]
  unfold rtL
  repeat' split
  all_goals simp
theorem norm_len {α : Type} [DecidableEq α] (s d : α) (l : List α) {k : Nat} : (glueL s ((splitL s (restL s l)).foldl (stepN d (rootL s l)) [])).length ≤ l.length + 1 := by
  have h1 := glue_wt s ((splitL s (restL s l)).foldl (stepN d (rootL s l)) [])
  have h2 := fold_wt d (rootL s l) (splitL s (restL s l)) []
  have h3 := split_wt s (restL s l)
  have h4 := restL_len s l
  have : wt ([] : List (List α)) = 0 := rfl
  omega
theorem VAre.last {α : Type} {mk : List α → Tok → Value} : ∀ {vs : List Value} {xs : List (List α)}, VAre mk vs xs → xs ≠ [] → ∃ t, vs[vs.length - 1]? = some (mk (xs.getLastD []) t) := by
  intro vs xs h hne
  have hl := h.length
  have hx : 0 < xs.length := List.length_pos_iff.mpr hne
  have e : xs[xs.length - 1]? = some (xs.getLastD []) := by
    rw [List.getLastD_eq_getLast?, List.getLast?_eq_getElem?]
    rw [List.getElem?_eq_getElem (by omega)]
    rfl
  obtain ⟨t, ht⟩ := h.get _ _ e
  exact ⟨t, by rw [hl]; exact ht⟩
theorem VAre.pop {α : Type} {mk : List α → Tok → Value} : ∀ {vs : List Value} {xs : List (List α)}, VAre mk vs xs → xs ≠ [] → ∃ y, vs = vs.dropLast ++ [y] := by
  intro vs xs h hne
  have hl := h.length
  have hx : 0 < xs.length := List.length_pos_iff.mpr hne
  have hv : vs ≠ [] := List.length_pos_iff.mp (by omega)
  exact ⟨vs.getLast hv, (List.dropLast_concat_getLast hv).symm⟩
section
variable {prog : Program} {w : World} {A : Around} {E : Value → Shared → Prop} {s : Shared} {h₀ : Heap} {L D : Addr} {m : PySem.Str → Option Value} {news r : List (Addr × Obj)} {n : Nat} {vs : List Value} {α : Type} {mk : List α → Tok → Value} {xs : List (List α)}
theorem l_truthy {Q : Bool → Shared → Prop} (N : News h₀ L s.heap news) (hm : (D, listOf vs.toArray n) ∈ news) (hV : VAre mk vs xs) (hz : vs.length ≤ 8192) (h : ∀ k, Q (decide (xs ≠ [])) { s with toks := k }) :
    wpAny (model prog w) A (truthy (.ref D)) Q E s := by
  refine wpAny_truthy_list (News.isList N hm) (by simp; omega) ?_
  have e : (!vs.toArray.isEmpty) = decide (xs ≠ []) := by
    have := hV.length
    cases vs <;> cases xs <;> simp_all
  rw [e]
  exact h _
theorem l_last {value slice : PySem.Expr} {u : Tok} {Q : Value → Shared → Prop} (N : News h₀ L s.heap news) (hm : (D, listOf vs.toArray n) ∈ news) (hV : VAre mk vs xs) (hne : xs ≠ []) (h : ∀ t, Q (mk (xs.getLastD []) t) s)
    (hs : subscripted slice false (.ref D) (.int (-1) u) = operate [.ref D, .int (-1) u] (getItem (.ref D) (.int (-1) u)) := by with_unfolding_all rfl) (hg : ∀ r, letTemporaryGo value (.ref D) r = pure () := by intro _; with_unfolding_all rfl) :
    wpAny (model prog w) A (subscriptTail value slice (.ref D) (.int (-1) u)) Q E s := by
  have hl := News.isList N hm
  obtain ⟨t, ht⟩ := hV.last hne
  have hlen := hV.length
  have hx : 0 < xs.length := List.length_pos_iff.mpr hne
  refine subscriptTail_builtin hl.typeIs slot_list_getitem.lookup (wpAny_getItem_list_neg hl (by decide) (by simp; omega) (by decide) ?_ (h t)) hs hg
  have : ((-1 : Int) + (vs.toArray.size : Nat)).toNat = vs.length - 1 := by simp; omega
  rw [this]
  simpa using ht
theorem l_append {x : List α} {t : Tok} {Q : Value → Shared → Prop} (F : Fr h₀ L s.heap m) (N : News h₀ L s.heap ((D, listOf vs.toArray n) :: r)) (hu : ∀ p ∈ r, p.1 ≠ D) (hV : VAre mk vs xs) (hz : vs.length ≤ 8192)
    (h : ∀ h', Fr h₀ L h' m → News h₀ L h' ((D, listOf (vs ++ [mk x t]).toArray (n + 1)) :: r) → VAre mk (vs ++ [mk x t]) (xs ++ [x]) → Q .none { s with heap := h' }) :
    wpAny (model prog w) A (call (.builtin "list.append") [.ref D, mk x t]) Q E s := by
  refine append_K F N (Upd.head hu) (fun h' F' N' => ?_) (by rw [sizeLine_eq]; simp; omega)
  refine h h' F' ?_ hV.app
  have e : vs.toArray.push (mk x t) = (vs ++ [mk x t]).toArray := by simp
  rw [e] at N'
  exact N'
theorem l_pop {Q : Value → Shared → Prop} (F : Fr h₀ L s.heap m) (N : News h₀ L s.heap ((D, listOf vs.toArray n) :: r)) (hu : ∀ p ∈ r, p.1 ≠ D) (hV : VAre mk vs xs) (hne : xs ≠ []) (hz : vs.length ≤ 8192)
    (h : ∀ v h', Fr h₀ L h' m → News h₀ L h' ((D, listOf vs.dropLast.toArray (n + 1)) :: r) → VAre mk vs.dropLast xs.dropLast → Q v { s with heap := h' }) :
    wpAny (model prog w) A (call (.builtin "list.pop") [.ref D]) Q E s := by
  obtain ⟨y, hy⟩ := hV.pop hne
  refine kl_pop F N (p := vs.dropLast) (y := y) ?_ (Upd.head hu) (by rw [sizeLine_eq]; simp; omega) fun h' F' N' => h y h' F' N' hV.dropLast
  have e := kpa_last y vs.dropLast
  rw [← hy] at e
  simpa using e
end
theorem foldl_len {α : Type} {f : List (List α) → List α → List (List α)} (hf : ∀ acc c, (f acc c).length ≤ acc.length + 1) : ∀ (cs acc : List (List α)), (cs.foldl f acc).length ≤ acc.length + cs.length
  | [], acc => by simp
  | c :: r, acc => by
    rw [List.foldl_cons]
    have h1 := foldl_len hf r (f acc c)
    have h2 := hf acc c
    simp only [List.length_cons]
    omega
theorem step_len {α : Type} [DecidableEq α] (d : α) (root : List α) (acc : List (List α)) (c : List α) : (stepN d root acc c).length ≤ acc.length + 1 := by
  unfold stepN
  repeat' split
  all_goals simp
  omega
section
variable {prog : Program} {w : World} {A : Around} {E : Value → Shared → Prop} {s : Shared} {env : Env} {h₀ : Heap} {x : PySem.Str} {body : List Stmt} {Q : Flow → Shared → Prop}
theorem norm_loop {α : Type} {mk : List α → Tok → Value} {a D : Addr} {q : Addr × Obj} {vs : List Value} {cs : List (List α)} {m₀ : PySem.Str → Option Value} {news : List (Addr × Obj)} (f : List (List α) → List α → List (List α)) (hf : ∀ acc c, (f acc c).length ≤ acc.length + 1)
    (hh : A.handled = none) (F : Fr h₀ env.locals s.heap m₀) (N : News h₀ env.locals s.heap ((a, listOf #[] 0) :: (D, { cls := .type "list", data := .seq vs.toArray }) :: q :: news)) (l1 : D < a ∧ q.1 < a ∧ AllLt a news) (hV : VAre mk vs cs) (hz : cs.length ≤ 8192)
    (hDn : ∀ p ∈ news, p.1 ≠ D)
    (turn : ∀ i c t us xs n h tk own, cs[i]? = some c → xs = (cs.take i).foldl f [] → VAre mk us xs → us.length ≤ 8192 → (∀ p ∈ news ++ own, p.1 ≠ a) → Fr h₀ env.locals h (fun y => if y = x then some (mk c t) else m₀ y) → News h₀ env.locals h ((a, listOf us.toArray n) :: (news ++ own)) →
      wpAny (model prog w) A (execs body env) (InvPostN h₀ env.locals (fun m' nx => ∃ us' n', nx = (a, listOf us'.toArray n') :: news ∧ VAre mk us' (f xs c) ∧ ∀ z, z ≠ x → m' z = m₀ z) own (a :: news.map (·.1)) { s with heap := h, toks := tk } Q) E { s with heap := h, toks := tk })
    (done : ∀ us n u h tk, VAre mk us (cs.foldl f []) → us.length ≤ 8192 → Fr h₀ env.locals h (fun y => if y = x then u else m₀ y) → News h₀ env.locals h ((a, listOf us.toArray n) :: news) → Q .next { s with heap := h, toks := tk }) :
    wpAny (model prog w) A (pyIter (.ref D)) (fun it s₂ => LoopAtV prog w A h₀ env x body Q E it s₂) E s := by
  have hna : ∀ p ∈ news, p.1 ≠ a := fun p hp => Nat.ne_of_lt (ktn_ltOf l1.2.2 p hp)
  have hlen := hV.length
  have hus : ∀ (i : Nat) (us : List Value), i ≤ cs.length → VAre mk us ((cs.take i).foldl f []) → us.length ≤ 8192 := by
    intro i us hi hv
    have h1 := foldl_len hf (cs.take i) []
    rw [hv.length]
    rw [List.length_take] at h1
    simp only [List.length_nil] at h1
    omega
  refine list_loop (σ := List Value × Nat) (fun _ => m₀) (fun c => (a, listOf c.1.toArray c.2) :: news) (fun i c => i ≤ cs.length ∧ VAre mk c.1 ((cs.take i).foldl f [])) ([], 0) hh (News.isList N (.tail _ (.head _))) ?_ F (fun p hp => ?_) (fun _ _ => rfl) ⟨Nat.zero_le _, by simp [VAre]⟩ ?_ ?_
  · intro p hp
    rcases List.mem_cons.mp hp with rfl | hp
    · exact Nat.ne_of_gt l1.1
    · exact hDn p hp
  · rcases List.mem_cons.mp hp with rfl | hp
    · exact N _ (.head _)
    · exact N p (.tail _ (.tail _ (.tail _ hp)))
  · rintro i v ⟨us, n⟩ h tk own hi hadr hoff ⟨hle, hP⟩ F₁ N₁
    have hilt : i < cs.length := by
      rcases List.getElem?_eq_some_iff.mp hi with ⟨h, _⟩
      omega
    obtain ⟨t, ht⟩ := hV.get i cs[i] (by simp)
    have hv : v = mk cs[i] t := by rw [hi] at ht; exact Option.some.inj ht
    subst hv
    have hstep : (cs.take (i + 1)).foldl f [] = f ((cs.take i).foldl f []) cs[i] := by
      rw [List.take_succ_eq_append_getElem hilt, List.foldl_append]; rfl
    have hU : ∀ p ∈ news ++ own, p.1 ≠ a := by
      intro p hp
      rcases List.mem_append.mp hp with hp | hp
      · exact hna p hp
      · exact hoff p hp a (.head _)
    refine wpAny_mono (turn i cs[i] t us _ n h tk own (by simp) rfl hP (hus i us (by omega) hP) hU F₁ N₁) (fun fl s₂ hq => ?_) fun _ _ e => e
    have key : ∀ {s₁ s₂ : Shared}, InvEndN h₀ env.locals (fun m' nx => ∃ us' n', nx = (a, listOf us'.toArray n') :: news ∧ VAre mk us' (f ((cs.take i).foldl f []) cs[i]) ∧ ∀ z, z ≠ x → m' z = m₀ z) own (a :: news.map (·.1)) s₁ s₂ →
        InvEndN h₀ env.locals (fun m' nx => ∃ c' : List Value × Nat, nx = (a, listOf c'.1.toArray c'.2) :: news ∧ (i + 1 ≤ cs.length ∧ VAre mk c'.1 ((cs.take (i + 1)).foldl f [])) ∧ ∀ z, z ≠ x → m' z = m₀ z) own (a :: news.map (·.1)) s₁ s₂ := by
      rintro s₁ s₂ ⟨h', tk', m', news', nx, e, a1, a2, a3, a4, a5, us', n', b1, b2, b3⟩
      exact ⟨h', tk', m', news', nx, e, a1, a2, a3, a4, a5, (us', n'), b1, ⟨hilt, by rw [hstep]; exact b2⟩, b3⟩
    cases fl with
    | ret v => exact hq
    | brk => exact hq
    | next => exact key hq
    | cont => exact key hq
  · rintro ⟨us, n⟩ u h tk ⟨_, hP⟩ F₁ N₁
    have e1 : cs.take vs.length = cs := by rw [hlen]; exact List.take_length
    rw [e1] at hP
    exact done us n u h tk hP (hus cs.length us (Nat.le_refl _) (by rw [List.take_length]; exact hP)) F₁ N₁
end
section
variable {prog : Program} {w : World} {A : Around} {E : Value → Shared → Prop} {s : Shared} {t u : Tok} {Q : Value → Shared → Prop} {h₀ : Heap} {L : Addr} {m : PySem.Str → Option Value} {news : List (Addr × Obj)}
theorem r_split2 {x y : PySem.Str} {a : List Nat} (F : Fr h₀ L s.heap m) (N : News h₀ L s.heap news) (hx : x = S a) (hy : y = S [47]) (hz : a.length ≤ 4096)
    (h : ∀ vs h' k, VAre mkS vs (splitL 47 a) → (∀ p ∈ news, p.1 ≠ s.heap.objs.size) → Fr h₀ L h' m → News h₀ L h' ((s.heap.objs.size, { cls := .type "list", data := .seq vs.toArray }) :: news) → Q (.ref s.heap.objs.size) { s with heap := h', toks := k }) :
    wpAny (model prog w) A (call (.builtin "str.split") [.str x t, .str y u]) Q E s :=
  r_split F N hx hy hz fun vs h' k hv F' N' => h vs h' k hv (fun p hp => Nat.ne_of_lt (Heap.lt_size (N p hp).1)) F' N'
theorem b_split2 {l : List UInt8} (F : Fr h₀ L s.heap m) (N : News h₀ L s.heap news) (hz : l.length ≤ 4096)
    (h : ∀ vs h' k, VAre mkB vs (splitL 47 l) → (∀ p ∈ news, p.1 ≠ s.heap.objs.size) → Fr h₀ L h' m → News h₀ L h' ((s.heap.objs.size, { cls := .type "list", data := .seq vs.toArray }) :: news) → Q (.ref s.heap.objs.size) { s with heap := h', toks := k }) :
    wpAny (model prog w) A (call (.builtin "bytes.split") [.bytes l.toArray t, .bytes #[47] u]) Q E s :=
  split_bytes F N hz fun vs h' k hv F' N' => h vs h' k hv (fun p hp => Nat.ne_of_lt (Heap.lt_size (N p hp).1)) F' N'
end
section
variable {α : Type} [DecidableEq α] {d : α} {root c : List α} {acc : List (List α)}
theorem step_skip1 (h : ¬ c ≠ []) : stepN d root acc c = acc := by
  unfold stepN
  rw [if_pos (.inl (Decidable.not_not.mp h))]
theorem step_skip2 (h : c = [d]) : stepN d root acc c = acc := by
  unfold stepN
  rw [if_pos (.inr h)]
theorem step_push (h1 : c ≠ []) (h2 : ¬ c = [d]) (h3 : c ≠ [d, d] ∨ (root = [] ∧ acc = []) ∨ (acc ≠ [] ∧ acc.getLastD [] = [d, d])) : stepN d root acc c = acc ++ [c] := by
  unfold stepN
  rw [if_neg (by rintro (h | h); exact h1 h; exact h2 h), if_pos h3]
theorem step_pop (h1 : c ≠ []) (h2 : ¬ c = [d]) (h3 : ¬ c ≠ [d, d]) (h4 : acc ≠ []) (h5 : ¬ acc.getLastD [] = [d, d]) : stepN d root acc c = acc.dropLast := by
  unfold stepN
  rw [if_neg (by rintro (h | h); exact h1 h; exact h2 h), if_neg (by rintro (h | h | h); exact h3 h; exact h4 h.2; exact h5 h.2)]
theorem step_none (h1 : c ≠ []) (h2 : ¬ c = [d]) (h3 : ¬ c ≠ [d, d]) (h4 : root ≠ []) (h5 : ¬ acc ≠ []) : stepN d root acc c = acc := by
  unfold stepN
  have h6 := Decidable.not_not.mp h5
  subst h6
  rw [if_neg (by rintro (h | h); exact h1 h; exact h2 h), if_neg (by rintro (h | h | h); exact h3 h; exact h4 h.1; exact h.1 rfl)]
  rfl
theorem norm_done {s : α} {l : List α} (h : l ≠ []) : normL s d l = if rootL s l ++ glueL s ((splitL s (restL s l)).foldl (stepN d (rootL s l)) []) = [] then [d] else rootL s l ++ glueL s ((splitL s (restL s l)).foldl (stepN d (rootL s l)) []) := by
  unfold normL endN
  rw [if_neg h]
end
theorem turn2_hn {q : Addr × Obj} {news own : List (Addr × Obj)} : ∀ p ∈ q :: news, p ∈ q :: (news ++ own) :=
  fun p hp => (List.mem_cons.mp hp).elim (fun e => List.mem_cons.mpr (.inl e)) fun h => .tail _ (List.mem_append_left _ h)
theorem turn2_ho {q : Addr × Obj} {news own : List (Addr × Obj)} : ∀ p ∈ own, p ∈ q :: (news ++ own) :=
  fun p hp => .tail _ (List.mem_append_right _ hp)
end Mine
end

section
open PySem PySem.W PySem.Spec PySem.Calls PyProof.Rows
set_option Elab.async false
set_option maxRecDepth 100000
set_option maxHeartbeats 4000000
set_option linter.unusedVariables false
namespace Mine
local macro_rules | `(tactic| walk_at "my lit") => `(tactic| first | with_reducible exact lit_slash | with_reducible exact lit_dot | with_reducible exact lit_dots | with_reducible exact lit_nil | with_reducible exact lit_two | with_reducible exact lit_u1 | with_reducible exact lit_u2 | with_reducible exact lit_u3 | with_reducible exact lit_u4 | with_reducible exact lit_u5 | with_reducible rfl)
local macro_rules | `(tactic| walk_at "my len") => `(tactic| first | assumption | ((try simp only [List.length_take, List.length_drop, List.length_replicate, List.length_cons, List.length_nil, List.length_append]); omega) | (refine Nat.le_trans (rsL_len _ _) ?_; first | assumption | ((try simp only [List.length_take, List.length_drop, List.length_replicate, List.length_cons, List.length_nil, List.length_append]); omega)))
local macro_rules | `(tactic| walk_at "my cut") => `(tactic| with_reducible first | exact cut_drop_at _ _ | exact cut_take_at _ _ | exact cut_take_1 _ | exact cut_take_2 _ | exact cut_drop_1 _ | exact cut_drop_2 _ | exact cut_mid_12 _ | exact cut_mid_23 _ | exact cut_init _ | exact cut_final _)
local macro_rules | `(tactic| walk_at "call builtin:issubclass") => `(tactic| (k_here; k_dflt (first
  | (refine' call_iss iss_str (kitTp_N ?k1 ?k2) ?_; (case k1 => k_asm); (case k2 => k_mem); k_whole)
  | (refine' call_iss iss_bytes (kitTp_N ?k1 ?k2) ?_; (case k1 => k_asm); (case k2 => k_mem); k_whole)); intro _; (try dsimp only)))
local macro_rules | `(tactic| walk_at "call type:type") => `(tactic| ((with_reducible show wpAny _ _ (call _ [Value.bytes _ _]) _ _ _); refine call_type_of (Tx := "bytes") rfl (by decide +kernel) ?_))
local macro_rules | `(tactic| walk_at "call builtin:str.rfind") => `(tactic| (k_here; k_dflt (refine' r_rfind ?k1 ?k2 ?_; (case k1 => walk_at "my lit"); (case k2 => walk_at "my lit"); k_whole); intro _ _))
local macro_rules | `(tactic| walk_at "call builtin:str.rstrip") => `(tactic| (k_here; k_dflt (refine' r_rstrip ?k1 ?k2 ?k3 ?_; (case k1 => walk_at "my lit"); (case k2 => walk_at "my lit"); (case k3 => walk_at "my len"); k_whole); intro _ _))
local macro_rules | `(tactic| walk_at "call builtin:str.lstrip") => `(tactic| (k_here; k_dflt (refine' r_lstrip ?k1 ?k2 ?k3 ?_; (case k1 => walk_at "my lit"); (case k2 => walk_at "my lit"); (case k3 => walk_at "my len"); k_whole); intro _ _))
local macro_rules | `(tactic| walk_at "call builtin:str.strip") => `(tactic| (k_here; k_dflt (refine' r_strip ?k1 ?k2 ?k3 ?_; (case k1 => walk_at "my lit"); (case k2 => walk_at "my lit"); (case k3 => walk_at "my len"); k_whole); intro _ _))
local macro_rules | `(tactic| walk_at "call builtin:str.startswith") => `(tactic| (k_here; k_dflt (refine' r_starts ?k1 ?k2 ?_; (case k1 => walk_at "my lit"); (case k2 => walk_at "my lit"); k_whole)))
local macro_rules | `(tactic| walk_at "call builtin:str.endswith") => `(tactic| (k_here; k_dflt (refine' r_ends ?k1 ?k2 ?_; (case k1 => walk_at "my lit"); (case k2 => walk_at "my lit"); k_whole)))
local macro_rules | `(tactic| walk_at "binaryOp Mult str int") => `(tactic| (k_here; k_dflt (refine' r_mul ?k1 ?k3 ?_; (case k1 => walk_at "my lit"); (case k3 => walk_at "my len"); k_whole); intro _ _))
local macro_rules | `(tactic| walk_at "compareOp Eq str str") => `(tactic| (k_here; k_dflt (refine' r_eq ?k1 ?k2 ?_; (case k1 => walk_at "my lit"); (case k2 => walk_at "my lit"); k_whole)))
local macro_rules | `(tactic| walk_at "compareOp NotEq str str") => `(tactic| (k_here; k_dflt (refine' r_ne ?k1 ?k2 ?_; (case k1 => walk_at "my lit"); (case k2 => walk_at "my lit"); k_whole)))
local macro_rules | `(tactic| walk_at "compareOp NotIn str str") => `(tactic| (k_here; k_dflt (refine' r_notin ?k1 ?k2 ?_; (case k1 => walk_at "my lit"); (case k2 => walk_at "my lit"); k_whole)))
local macro_rules | `(tactic| walk_at "truthy str") => `(tactic| (k_here; k_dflt (refine' r_truthy ?k1 ?k3 ?_; (case k1 => walk_at "my lit"); (case k3 => walk_at "my len"); k_whole); intro _))
local macro_rules | `(tactic| walk_at "call builtin:len") => `(tactic| (k_here; (with_reducible show wpAny _ _ (call _ [Value.str _ _]) _ _ _); k_dflt (refine' r_len ?k1 ?k3 ?_; (case k1 => walk_at "my lit"); (case k3 => walk_at "my len"); k_whole); intro _ _))
local macro_rules | `(tactic| walk_at "binaryOp Add str str") => `(tactic| (k_here; k_dflt (refine' r_add ?k1 ?k2 ?k3 ?_; (case k1 => walk_at "my lit"); (case k2 => walk_at "my lit"); (case k3 => walk_at "my len"); k_whole); intro _ _))
local macro_rules | `(tactic| walk_at "inplaceOp Add str str") => `(tactic| (k_here; k_dflt (refine' r_iadd ?k1 ?k2 ?k3 ?_; (case k1 => walk_at "my lit"); (case k2 => walk_at "my lit"); (case k3 => walk_at "my len"); k_whole); intro _ _))
local macro_rules | `(tactic| walk_at "subscriptTail Name Slice str ref") => `(tactic| (k_here; (with_reducible show wpAny _ _ (subscriptTail _ (Expr.Slice none (some _) none _) (Value.str _ _) (Value.ref _)) _ _ _); (with_reducible rename Fr _ _ _ _ => F'); (with_reducible rename News _ _ _ _ => N'); k_dflt (refine' r_slice_ns (s := ⟨_, _, _, _, _⟩) F' N' ?k1 ?k2 ?k3 ?_; (case k1 => walk_at "my lit"); (case k2 => walk_at "my cut"); (case k3 => walk_at "my len"); k_whole); intro _ _ _ F9 N9))
local macro_rules | `(tactic| walk_at "subscriptTail Name Slice str ref") => `(tactic| (k_here; (with_reducible show wpAny _ _ (subscriptTail _ (Expr.Slice (some _) none none _) (Value.str _ _) (Value.ref _)) _ _ _); (with_reducible rename Fr _ _ _ _ => F'); (with_reducible rename News _ _ _ _ => N'); k_dflt (refine' r_slice_sn (s := ⟨_, _, _, _, _⟩) F' N' ?k1 ?k2 ?k3 ?_; (case k1 => walk_at "my lit"); (case k2 => walk_at "my cut"); (case k3 => walk_at "my len"); k_whole); intro _ _ _ F9 N9))
local macro_rules | `(tactic| walk_at "subscriptTail Name Slice str ref") => `(tactic| (k_here; (with_reducible show wpAny _ _ (subscriptTail _ (Expr.Slice (some _) (some _) none _) (Value.str _ _) (Value.ref _)) _ _ _); (with_reducible rename Fr _ _ _ _ => F'); (with_reducible rename News _ _ _ _ => N'); k_dflt (refine' r_slice_ss (s := ⟨_, _, _, _, _⟩) F' N' ?k1 ?k2 ?k3 ?_; (case k1 => walk_at "my lit"); (case k2 => walk_at "my cut"); (case k3 => walk_at "my len"); k_whole); intro _ _ _ F9 N9))
local macro_rules | `(tactic| walk_at "subscriptTail") => `(tactic| (k_here; (with_reducible show wpAny _ _ (subscriptTail _ (Expr.Slice _ _ none _) (Value.bytes _ _) (Value.ref _)) _ _ _); (with_reducible rename Fr _ _ _ _ => F'); (with_reducible rename News _ _ _ _ => N'); k_dflt (refine' slice_bytes (s := ⟨_, _, _, _, _⟩) F' N' ?k4 ?k5 ?k3 ?k2 ?_; (case k4 => first | exact IsPart.none | exact IsPart.int _ _); (case k5 => first | exact IsPart.none | exact IsPart.int _ _); (case k3 => first | (walk_at "my len") | (refine Nat.le_trans (m := 4096) ?_ (by decide); walk_at "my len")); (case k2 => walk_at "my cut"); k_whole); intro _ _ _ F9 N9))
local macro_rules | `(tactic| walk_at "getMethod bytes") => `(tactic| (k_here; (with_reducible first | refine meth_bytes_rfind ?_ | refine meth_bytes_rstrip ?_ | refine meth_bytes_split ?_ | refine meth_bytes_join ?_ | refine meth_bytes_startswith ?_ | refine meth_bytes_endswith ?_)))
local macro_rules | `(tactic| walk_at "call builtin:bytes.rfind") => `(tactic| (k_here; k_dflt (refine rfind_bytes ?_); intro _ _))
local macro_rules | `(tactic| walk_at "call builtin:bytes.rstrip") => `(tactic| (k_here; k_dflt (refine' rstrip_bytes ?k3 ?_; (case k3 => (refine Nat.le_trans (m := 4096) ?_ (by decide); walk_at "my len")); k_whole); intro _ _))
local macro_rules | `(tactic| walk_at "call builtin:bytes.startswith") => `(tactic| (k_here; k_dflt (refine startswith_bytes ?_); intro _))
local macro_rules | `(tactic| walk_at "call builtin:bytes.endswith") => `(tactic| (k_here; k_dflt (refine endswith_bytes ?_); intro _))
local macro_rules | `(tactic| walk_at "compareOp Eq bytes bytes") => `(tactic| (k_here; k_dflt (refine b_eq ?_)))
local macro_rules | `(tactic| walk_at "compareOp NotEq bytes bytes") => `(tactic| (k_here; k_dflt (refine b_ne ?_)))
local macro_rules | `(tactic| walk_at "truthy bytes") => `(tactic| (k_here; k_dflt (refine' b_truthy ?k3 ?_; (case k3 => walk_at "my len"); k_whole); intro _))
local macro_rules | `(tactic| walk_at "call builtin:len") => `(tactic| (k_here; (with_reducible show wpAny _ _ (call _ [Value.bytes _ _]) _ _ _); k_dflt (refine' b_len ?k3 ?_; (case k3 => walk_at "my len"); k_whole); intro _ _))
local macro_rules | `(tactic| walk_at "binaryOp Add bytes bytes") => `(tactic| (k_here; k_dflt (refine' b_add ?k3 ?_; (case k3 => walk_at "my len"); k_whole); intro _ _))
local macro_rules | `(tactic| walk_at "binaryOp Mult bytes int") => `(tactic| (k_here; k_dflt (refine' mul_bytes ?k4 ?k3 ?_; (case k4 => walk_at "my pos"); (case k3 => walk_at "my len"); k_whole); intro _ _))
local macro_rules | `(tactic| walk_at "my pos") => `(tactic| exact List.length_pos_iff.mpr (by assumption))
local macro_rules | `(tactic| walk_at "my ct") => `(tactic| exact ct_fspath_str _ _ _)
local macro_rules | `(tactic| walk_at "my ct") => `(tactic| exact ct_fspath_bytes _ _ _)
local macro_rules | `(tactic| walk_at "my ct") => `(tactic| exact ct_get_sep_str _ _ _)
local macro_rules | `(tactic| walk_at "my ct") => `(tactic| exact ct_get_sep_bytes _ _ _)
local macro_rules | `(tactic| walk_at "call ref") => `(tactic| (k_here; k_dflt (refine' ct_use ?C ?k1 ?k2 ?k3 ?k4 ?k5 ?kK ?kd ?ku ?_; (case C => walk_at "my ct"); (case k1 => k_asm); (case k2 => k_asm); (case k3 => k_asm); (case k4 => k_asm); (case k5 => k_asm); (case kK => first | exact rfl | assumption); (case kd => ktr_room); (case ku => ktr_units); k_whole); intro t9 h9 tk9 F9 N9; (try dsimp only); (try k_fold)))
local macro_rules | `(tactic| walk_at "my end") => `(tactic| (refine' ct_ret ?e0 ?e1 ?e2 ?e3 ?_; (case e0 => assumption); (case e1 => k_asm); (case e2 => k_asm); (case e3 => kcj_all)))
local macro_rules | `(tactic| walk_at "my endT") => `(tactic| (refine' ctT_ret ?e0 ?e1 ?e2 ?e3 ?e4 ?_; (case e0 => assumption); (case e1 => k_asm); (case e2 => k_asm); (case e3 => k_mem); (case e4 => kcj_all)))
local macro_rules | `(tactic| walk_at "my turn1") => `(tactic| (refine' InvEndN.intro ?F ?N ⟨rfl, _, ?_, ?rf, ?same⟩ rfl ?hn ?ho; (case F => k_asm); (case N => k_asm); (case rf => with_unfolding_all rfl); (case same => intro z h1 h2; simp [h1, h2]); (case hn => intro p hp; simp [hp]); (case ho => intro p hp; simp [hp])))
local macro_rules | `(tactic| walk_at "inplaceOp Add bytes bytes") => `(tactic| (k_here; k_dflt (refine' b_iadd ?k3 ?_; (case k3 => walk_at "my len"); k_whole); intro _ _))
local macro_rules | `(tactic| walk_at "call ref") => `(tactic| (k_here; k_dflt (refine' ctT_use ?C ?k1 ?k2 ?k3 ?k4 ?k5 ?kK ?kd ?ku ?_; (case C => walk_at "my ctT"); (case k1 => k_asm); (case k2 => k_asm); (case k3 => k_asm); (case k4 => k_asm); (case k5 => k_asm); (case kK => first | exact rfl | assumption); (case kd => ktr_room); (case ku => ktr_units); k_whole); intro q9 t7 t8 t9 h9 tk9 F9 N9; (try dsimp only); (try k_fold)))
local macro_rules | `(tactic| walk_at "my len") => `(tactic| exact Nat.le_trans (restL_len _ _) (by assumption))
local macro_rules | `(tactic| walk_at "call builtin:str.split") => `(tactic| (k_here; (with_reducible rename Fr _ _ _ _ => F'); (with_reducible rename News _ _ _ _ => N'); k_dflt (refine' r_split2 F' N' ?k1 ?k2 ?k3 ?_; (case k1 => walk_at "my lit"); (case k2 => walk_at "my lit"); (case k3 => walk_at "my len"); k_whole); intro _ _ _ hV9 hD9 F9 N9))
local macro_rules | `(tactic| walk_at "call builtin:bytes.split") => `(tactic| (k_here; (with_reducible rename Fr _ _ _ _ => F'); (with_reducible rename News _ _ _ _ => N'); k_dflt (refine' b_split2 F' N' ?k3 ?_; (case k3 => walk_at "my len"); k_whole); intro _ _ _ hV9 hD9 F9 N9))
local macro_rules | `(tactic| walk_at "truthy ref") => `(tactic| (k_here; k_dflt (refine' l_truthy ?N ?hm ?hV ?hz ?_; (case N => k_asm); (case hm => k_mem); (case hV => assumption); (case hz => assumption); k_whole); intro _))
local macro_rules | `(tactic| walk_at "subscriptTail Name UnaryOp ref int") => `(tactic| (k_here; k_dflt (refine' l_last (mk := mkS) ?N ?hm ?hV ?hz ?_; (case N => k_asm); (case hm => k_mem); (case hV => assumption); (case hz => assumption); k_whole); intro _; (try dsimp only [mkS])))
local macro_rules | `(tactic| walk_at "subscriptTail Name UnaryOp ref int") => `(tactic| (k_here; k_dflt (refine' l_last (mk := mkB) ?N ?hm ?hV ?hz ?_; (case N => k_asm); (case hm => k_mem); (case hV => assumption); (case hz => assumption); k_whole); intro _; (try dsimp only [mkB])))
local macro_rules | `(tactic| walk_at "call builtin:list.append") => `(tactic| (k_here; k_dflt (refine' l_append (mk := mkS) ?F ?N ?hu ?hV ?hz ?_; (case F => k_asm); (case N => k_asm); (case hu => assumption); (case hV => assumption); (case hz => assumption); k_whole); intro _ F9 N9 hV9))
local macro_rules | `(tactic| walk_at "call builtin:list.append") => `(tactic| (k_here; k_dflt (refine' l_append (mk := mkB) ?F ?N ?hu ?hV ?hz ?_; (case F => k_asm); (case N => k_asm); (case hu => assumption); (case hV => assumption); (case hz => assumption); k_whole); intro _ F9 N9 hV9))
local macro_rules | `(tactic| walk_at "call builtin:list.pop") => `(tactic| (k_here; k_dflt (refine' l_pop ?F ?N ?hu ?hV ?hne ?hz ?_; (case F => k_asm); (case N => k_asm); (case hu => assumption); (case hV => assumption); (case hne => assumption); (case hz => assumption); k_whole); intro _ _ F9 N9 hV9))
local macro_rules | `(tactic| walk_at "call builtin:str.join") => `(tactic| (k_here; k_dflt (refine' r_join ?k1 ?hl ?hV ?hz ?_; (case k1 => walk_at "my lit"); (case hl => exact News.isList (by k_asm) (by k_mem)); (case hV => assumption); (case hz => assumption); k_whole); intro _ _))
local macro_rules | `(tactic| walk_at "call builtin:bytes.join") => `(tactic| (k_here; k_dflt (refine' join_bytes ?hl ?hV ?hz ?_; (case hl => exact News.isList (by k_asm) (by k_mem)); (case hV => assumption); (case hz => exact Nat.le_trans (m := 16384) (by assumption) (by decide)); k_whole); intro _ _))
local macro_rules | `(tactic| walk_at "my step") => `(tactic| first | rw [step_skip1 (by assumption)] | rw [step_skip2 (by assumption)] | rw [step_none (by assumption) (by assumption) (by assumption) (by assumption) (by assumption)] | rw [step_pop (by assumption) (by assumption) (by assumption) (by assumption) (by assumption)] | rw [step_push (by assumption) (by assumption) (by first | exact .inl (by assumption) | exact .inr (.inl ⟨Decidable.not_not.mp (by assumption), Decidable.not_not.mp (by assumption)⟩) | exact .inr (.inr ⟨by assumption, by assumption⟩))])
local macro_rules | `(tactic| walk_at "my turn2") => `(tactic| (refine' InvEndN.intro ?F ?N ⟨_, _, rfl, ?V, ?same⟩ rfl ?hn ?ho; (case F => k_asm); (case N => k_asm); (case V => assumption); (case same => intro z h1; simp [h1]); (case hn => exact turn2_hn); (case ho => exact turn2_ho)))
local macro_rules | `(tactic| walk_at "my ctT") => `(tactic| exact ct_splitroot_str _ _ (by walk_at "my len") _)
local macro_rules | `(tactic| walk_at "my ctT") => `(tactic| exact ct_splitroot_bytes _ _ (by walk_at "my len") _)
local macro_rules | `(tactic| walk_at "my ct") => `(tactic| exact ct_basename_str _ _ (by walk_at "my len") _)
local macro_rules | `(tactic| walk_at "my ct") => `(tactic| exact ct_basename_bytes _ _ (by walk_at "my len") _)
local macro_rules | `(tactic| walk_at "my ct") => `(tactic| exact ct_dirname_str _ _ (by walk_at "my len") _)
local macro_rules | `(tactic| walk_at "my ct") => `(tactic| exact ct_dirname_bytes _ _ (by walk_at "my len") _)
local macro_rules | `(tactic| walk_at "my ct") => `(tactic| exact ct_join_str _ _ _ (by walk_at "my len") (by walk_at "my len") _ _)
local macro_rules | `(tactic| walk_at "my ct") => `(tactic| exact ct_join_bytes _ _ _ (by walk_at "my len") (by walk_at "my len") _ _)
theorem ct_normpath_str (w : World) (x : List Nat) (hx : x.length ≤ 4000) (t : Tok) : Ct w 4 143 [.str (S x) t] (fun t' => .str (S (normL 47 46 x)) t') := by
  unfold Ct
  k_fill
  intro mean mg mb dp un gd cn cs a ccd cl outer A₀ base h₀ L m news s Q E B F X N T hk hd hu hret
  refine wpAny_call ?_
  k_dflt cell_enter
  have hx' : x.length ≤ 4096 := by omega
  k_steps
  any_goals (walk_at "my end"; (have hx0 : x = [] := by simp_all); subst hx0; (try rw [lit_dot]); exact ⟨_, rfl⟩)
  have hr : (rootL 47 x).length ≤ 4096 := Nat.le_trans (rootL_len 47 x) (by decide)
  rename Fr _ _ _ _ => lF
  rename News _ _ _ _ => lN
  with_unfolding_all refine' For_invVF lF ?k1 ?k2 ?_
  case k1 => exact rfl
  case k2 => exact rfl
  k_whole
  k_dflt (refine' ld lF ?k2 ?_; (case k2 => exact rfl); k_whole)
  refine norm_loop (mk := mkS) (stepN 46 (rootL 47 x)) (step_len _ _) rfl lF lN (by assumption) (by assumption) ?hz ?hD ?turn ?done
  case hz => have h1 := splitL_count 47 (restL 47 x); have h2 := restL_len 47 x; omega
  case hD => exact fun p hp => (by assumption : ∀ p ∈ _ :: news, p.1 ≠ _) p (.tail _ hp)
  case turn =>
    intro i c tc us xs n h tk own hc hxs hV hz hU F₁ N₁
    have hcl : c.length ≤ 4096 := by have h1 := splitL_mem (List.mem_of_getElem? hc); have h2 := restL_len 47 x; omega
    clear lF lN
    dsimp only [mkS] at F₁
    try k_fold
    k_steps
    all_goals walk_at "my step"
    all_goals walk_at "my turn2"
  case done =>
  intro us n u h tk hV hz F₁ N₁
  have hg := norm_len 47 46 x (k := 0)
  have hr2 := rootL_len 47 x
  have hg2 : (glueL 47 ((splitL 47 (restL 47 x)).foldl (stepN 46 (rootL 47 x)) [])).length ≤ 16384 := by omega
  clear lF lN
  try k_fold
  k_steps
  all_goals walk_at "my end"
  all_goals rw [norm_done (by assumption)]
  all_goals first | (rw [if_neg (by assumption)]; exact ⟨_, rfl⟩) | (rw [if_pos (Decidable.not_not.mp (by assumption))]; (try rw [lit_dot]); exact ⟨_, rfl⟩)
theorem ct_normpath_bytes (w : World) (x : List UInt8) (hx : x.length ≤ 4000) (t : Tok) : Ct w 4 143 [.bytes x.toArray t] (fun t' => .bytes (normL 47 46 x).toArray t') := by
  unfold Ct
  k_fill
  intro mean mg mb dp un gd cn cs a ccd cl outer A₀ base h₀ L m news s Q E B F X N T hk hd hu hret
  refine wpAny_call ?_
  k_dflt cell_enter
  have hx' : x.length ≤ 4096 := by omega
  k_steps
  any_goals (walk_at "my end"; (have hx0 : x = [] := by simp_all); subst hx0; (try rw [lit_dot]); exact ⟨_, rfl⟩)
  have hr : (rootL 47 x).length ≤ 4096 := Nat.le_trans (rootL_len 47 x) (by decide)
  rename Fr _ _ _ _ => lF
  rename News _ _ _ _ => lN
  with_unfolding_all refine' For_invVF lF ?k1 ?k2 ?_
  case k1 => exact rfl
  case k2 => exact rfl
  k_whole
  k_dflt (refine' ld lF ?k2 ?_; (case k2 => exact rfl); k_whole)
  refine norm_loop (mk := mkB) (stepN 46 (rootL 47 x)) (step_len _ _) rfl lF lN (by assumption) (by assumption) ?hz ?hD ?turn ?done
  case hz => have h1 := splitL_count 47 (restL 47 x); have h2 := restL_len 47 x; omega
  case hD => exact fun p hp => (by assumption : ∀ p ∈ _ :: news, p.1 ≠ _) p (.tail _ hp)
  case turn =>
    intro i c tc us xs n h tk own hc hxs hV hz hU F₁ N₁
    have hcl : c.length ≤ 4096 := by have h1 := splitL_mem (List.mem_of_getElem? hc); have h2 := restL_len 47 x; omega
    clear lF lN
    dsimp only [mkB] at F₁
    try k_fold
    k_steps
    all_goals walk_at "my step"
    all_goals walk_at "my turn2"
  case done =>
  intro us n u h tk hV hz F₁ N₁
  have hg := norm_len 47 46 x (k := 0)
  have hr2 := rootL_len 47 x
  have hg2 : (glueL 47 ((splitL 47 (restL 47 x)).foldl (stepN 46 (rootL 47 x)) [])).length ≤ 16384 := by omega
  clear lF lN
  try k_fold
  k_steps
  all_goals walk_at "my end"
  all_goals rw [norm_done (by assumption)]
  all_goals first | (rw [if_neg (by assumption)]; exact ⟨_, rfl⟩) | (rw [if_pos (Decidable.not_not.mp (by assumption))]; (try rw [lit_dot]); exact ⟨_, rfl⟩)

end Mine
end

section
open PySem PySem.W PySem.Spec PySem.Calls PyProof.Rows PyProof PyProof.V
set_option Elab.async false
set_option maxRecDepth 100000
set_option linter.unusedSectionVars false
set_option linter.unusedSimpArgs false
set_option linter.unusedVariables false
namespace Mine
@[irreducible] def Stop (P : Prop) : Prop := P
theorem stop_of {P : Prop} (h : Stop P) : P := by unfold Stop at h; exact h
theorem stop_in {P : Prop} (h : P) : Stop P := by unfold Stop; exact h
def W1End {σ : Type} (h₀ : Heap) (L : Addr) (s : Shared) (y : PySem.Str) (val : σ → Value) (m₀ : PySem.Str → Option Value) (news : List (Addr × Obj)) (P : σ → Prop) (μ : σ → Nat) (c : σ) (s₂ : Shared) : Prop :=
  ∃ (c' : σ) (h' : Heap) (tk : Nat) (m' : PySem.Str → Option Value) (news' : List (Addr × Obj)), s₂ = { s with heap := h', toks := tk } ∧ Fr h₀ L h' m' ∧ News h₀ L h' news' ∧ (∀ p ∈ news, p ∈ news') ∧ m' y = some (val c') ∧ (∀ z, z ≠ y → m' z = m₀ z) ∧ P c' ∧ μ c' < μ c
def W1Post {σ : Type} (h₀ : Heap) (L : Addr) (s : Shared) (y : PySem.Str) (val : σ → Value) (m₀ : PySem.Str → Option Value) (news : List (Addr × Obj)) (P : σ → Prop) (μ : σ → Nat) (Q : Flow → Shared → Prop) (c : σ) (f : Flow) (s₂ : Shared) : Prop :=
  match f with
  | .ret v => Q (.ret v) s₂
  | .brk => Q .next s₂
  | _ => W1End h₀ L s y val m₀ news P μ c s₂
section
variable {prog : Program} {w : World} {A : Around} {E : Value → Shared → Prop} {Q : Flow → Shared → Prop} {s : Shared} {env : Env} {h₀ : Heap} {L : Addr}
theorem w1_end {σ : Type} {y : PySem.Str} {val : σ → Value} {m₀ m' : PySem.Str → Option Value} {news news' : List (Addr × Obj)} {P : σ → Prop} {μ : σ → Nat} {c : σ} {h' : Heap} {tk : Nat} (c' : σ)
    (F : Fr h₀ L h' m') (N : News h₀ L h' news') (hn : ∀ p ∈ news, p ∈ news') (hk : m' y = some (val c')) (hr : ∀ z, z ≠ y → m' z = m₀ z) (hp : P c') (hm : μ c' < μ c) :
    W1End h₀ L s y val m₀ news P μ c { s with heap := h', toks := tk } := ⟨c', h', tk, m', news', rfl, F, N, hn, hk, hr, hp, hm⟩
theorem while1 {σ : Type} {test : PySem.Expr} {body : List Stmt} {pos : Pos} {m₀ : PySem.Str → Option Value} {news : List (Addr × Obj)} (y : PySem.Str) (val : σ → Value) (P : σ → Prop) (μ : σ → Nat) (c₀ : σ)
    (F : Fr h₀ L s.heap m₀) (N : News h₀ L s.heap news) (hk : m₀ y = some (val c₀)) (hp : P c₀)
    (turn : ∀ (c : σ) h tk, P c → Fr h₀ L h (fun z => if z = y then some (val c) else m₀ z) → News h₀ L h news →
      wpAny (model prog w) A (isTrue test env (eval test env)) (fun b s₂ =>
        if b = true then wpAny (model prog w) A (execs body env) (W1Post h₀ L s y val m₀ news P μ Q c) E s₂ else Q .next s₂) E { s with heap := h, toks := tk })
    (hE : PassesOwn (model prog w) A env E := by passes_own) :
    wpAny (model prog w) A (exec (.While test body [] pos) env) Q E s := by
  refine While_inv2 (fun n m nx => ∃ c : σ, nx = news ∧ μ c = n ∧ m y = some (val c) ∧ (∀ z, z ≠ y → m z = m₀ z) ∧ P c) F N ⟨c₀, rfl, rfl, hk, fun _ _ => rfl, hp⟩ ?_ hE
  rintro n m₁ nx h tk F₁ N₁ ⟨c, hnx, hsz, h1, h2, hp'⟩
  rw [hnx] at N₁
  rw [← hsz]
  have e : m₁ = fun z => if z = y then some (val c) else m₀ z := by
    funext z
    by_cases hz : z = y
    · rw [if_pos hz, hz, h1]
    · rw [if_neg hz]; exact h2 z hz
  rw [e] at F₁
  refine wpAny_mono (turn c h tk hp' F₁ N₁) (fun b s₂ p => ?_) fun _ _ x => x
  cases b with
  | false => simpa using p
  | true =>
    simp only [if_true] at p ⊢
    refine wpAny_mono p (fun f s₃ q => ?_) fun _ _ x => x
    cases f with
    | ret v => exact q
    | brk => exact q
    | next =>
      obtain ⟨c', h', tk', m', news', rfl, F', N', hn, hk9, hr9, hp9, hm9⟩ := q
      exact ⟨h', tk', m', news, μ c', rfl, F', fun p hp => N' p (hn p hp), hm9, c', rfl, rfl, hk9, hr9, hp9⟩
    | cont =>
      obtain ⟨c', h', tk', m', news', rfl, F', N', hn, hk9, hr9, hp9, hm9⟩ := q
      exact ⟨h', tk', m', news, μ c', rfl, F', fun p hp => N' p (hn p hp), hm9, c', rfl, rfl, hk9, hr9, hp9⟩
end
section
variable {α : Type} [DecidableEq α] {s d : α}
theorem dir_len (s : α) (l : List α) : (dirL s l).length ≤ l.length := by
  have h1 : (headL s l).length ≤ l.length := by unfold headL; simp; omega
  unfold dirL
  split
  · exact Nat.le_trans (rsL_len s _) h1
  · exact h1
theorem clear_len (s : α) (l : List α) : (clearL s l).length ≤ l.length := by
  unfold clearL
  split
  · exact dir_len s l
  · exact Nat.le_refl _
theorem base_len (s : α) (l : List α) : (baseL s l).length ≤ l.length := by unfold baseL; simp
theorem ends_split {l : List α} (h : endsL s l) : l = l.take (l.length - 1) ++ [s] := by
  unfold endsL at h
  conv => lhs; rw [← List.take_append_drop (l.length - 1) l]
  rw [h]
theorem rs_take {l : List α} (h : endsL s l) : rsL s (l.take (l.length - 1)) = rsL s l := by
  obtain ⟨u, n, e, hu⟩ := rs_cases s (l.take (l.length - 1))
  have e2 := ends_split h
  rw [e, List.append_assoc, ← List.replicate_succ'] at e2
  rw [e, rsL_off s n hu, e2, rsL_off s (n + 1) hu]
theorem rs_stop {l : List α} (h : ¬ endsL s l) : rsL s l = l := by
  obtain ⟨u, n, rfl, hu⟩ := rs_cases s l
  cases n with
  | zero => simpa using rsL_off s 0 hu
  | succ n =>
    exfalso
    apply h
    unfold endsL
    rw [List.replicate_succ', ← List.append_assoc]
    simp
theorem base_steps {l : List α} {k : Nat} (hk : k ≤ l.length) (hf : s ∉ l.drop k) (hx : k = 0 ∨ l[k - 1]? = some s) : l.drop k = baseL s l := by
  rcases Nat.eq_zero_or_pos k with h0 | h0
  · subst h0
    rw [List.drop_zero] at hf ⊢
    exact (baseL_none s hf).symm
  · have hx' : l[k - 1]? = some s := hx.resolve_left (by omega)
    rcases List.getElem?_eq_some_iff.mp hx' with ⟨h1, h2⟩
    have e : l = l.take (k - 1) ++ s :: l.drop k := by
      have h3 := List.getElem_cons_drop h1
      rw [h2, show k - 1 + 1 = k by omega] at h3
      rw [h3, List.take_append_drop]
    conv => rhs; rw [e]
    rw [baseL_at s _ hf]
theorem head_steps {l : List α} {k : Nat} (hk : k ≤ l.length) (hf : s ∉ l.drop k) (hx : k = 0 ∨ l[k - 1]? = some s) : l.take k = headL s l := by
  have h1 := base_steps hk hf hx
  have h2 : l.take k ++ l.drop k = headL s l ++ baseL s l := by
    unfold headL baseL
    rw [List.take_append_drop, List.take_append_drop]
  rw [h1] at h2
  exact List.append_cancel_right h2
theorem last_steps (x : List α) : lastL s x = if x = [] ∨ x = [s, s] then x else if ∀ c ∈ x, c = s then [s] else baseL s (rsL s x) := by
  rcases canon_cases s x with ⟨n, rfl⟩ | ⟨f, m, p, n, rfl, C⟩
  · rw [lastL_rep]
    match n with
    | 0 => simp [rtL]
    | 1 => simp [rtL]
    | 2 => simp [rtL, List.replicate_succ]
    | n + 3 =>
      rw [if_neg (by simp [List.replicate_succ]), if_pos (fun c hc => List.eq_of_mem_replicate hc)]
      simp [rtL]
  · have E := core_ends C
    rw [shape_last C]
    have hne : ¬ (shape s f m p n = [] ∨ shape s f m p n = [s, s]) := by
      have h1 := not_rep E (g := List.replicate n s)
      rintro (h | h)
      · exact h1 0 h
      · exact h1 2 h
    rw [if_neg hne, if_neg, rsL_off s n (.inr E), core_base C]
    intro h
    obtain ⟨c, hc, hc2⟩ := ends_mem E
    exact hc2 (h c (List.mem_append_left _ hc))
theorem folder_steps (hsd : d ≠ s) (x : List α) : folderL s d x = if x = [s, s] then x else if x ≠ [] ∧ (∀ c ∈ x, c = s) then [s] else if s ∉ rsL s x then [d] else if headL s (rsL s x) = [s, s] then headL s (rsL s x) else if rsL s (headL s (rsL s x)) ≠ [] then rsL s (headL s (rsL s x)) else [s] := by
  rcases canon_cases s x with ⟨n, rfl⟩ | ⟨f, m, p, n, rfl, C⟩
  · rw [folderL_rep]
    match n with
    | 0 => simp [dueL, rsL]
    | 1 => simp [dueL]
    | 2 => simp [dueL, List.replicate_succ]
    | n + 3 =>
      rw [if_neg (by simp [List.replicate_succ]), if_pos ⟨by simp, fun c hc => List.eq_of_mem_replicate hc⟩]
      simp [dueL]
  · have E := core_ends C
    have h1 := not_rep E (g := List.replicate n s)
    have hne2 : shape s f m p n ≠ [s, s] := h1 2
    have hall : ¬ (shape s f m p n ≠ [] ∧ ∀ c ∈ shape s f m p n, c = s) := by
      rintro ⟨_, h⟩
      obtain ⟨c, hc, hc2⟩ := ends_mem E
      exact hc2 (h c (List.mem_append_left _ hc))
    rw [shape_folder C, if_neg hne2, if_neg hall, rsL_off s n (.inr E), core_head C]
    · rcases C.fol with rfl | ⟨hm, h⟩
      · rw [if_pos rfl]
        cases m with
        | zero => simp [dueL, C.free]
        | succ k =>
          rw [if_neg (by simp [List.replicate_succ])]
          have hr : rsL s ([] ++ List.replicate (k + 1) s) = [] := rsL_off s (k + 1) (.inl rfl)
          rw [hr]
          match k with
          | 0 => simp [dueL]
          | 1 => simp [dueL, List.replicate_succ]
          | k + 2 => simp [dueL, List.replicate_succ]
      · have hf := ends_ne h
        have hne3 : f ++ List.replicate m s ≠ [s, s] := not_rep h 2
        have hin : ¬ s ∉ f ++ List.replicate m s ++ p := by
          intro hs
          apply hs
          cases m with
          | zero => omega
          | succ k => simp [List.replicate_succ]
        rw [if_neg hf, if_neg hin, if_neg hne3, rsL_off s m (.inr h), if_pos hf]
theorem clear_next {c x : List α} (hP : c = x ∨ c = clearL s x) (h1 : ((baseL s c).length : Int) = 0) (h2 : dirL s c ≠ c) : dirL s c = clearL s x ∧ c ≠ clearL s x := by
  have h3 : baseL s c = [] := List.length_eq_zero_iff.mp (by omega)
  rcases hP with rfl | rfl
  · have e : clearL s c = dirL s c := by unfold clearL; rw [if_pos ⟨h3, h2⟩]
    exact ⟨e.symm, by rw [e]; exact fun h => h2 h.symm⟩
  · exact absurd ⟨h3, h2⟩ (clear_stops x)
theorem clear_less {c x : List α} (hP : c = x ∨ c = clearL s x) (h1 : ((baseL s c).length : Int) = 0) (h2 : dirL s c ≠ c) : (if dirL s c = clearL s x then 0 else 1) < (if c = clearL s x then 0 else 1) := by
  obtain ⟨h3, h4⟩ := clear_next hP h1 h2
  rw [if_pos h3, if_neg h4]
  decide
theorem clear_exit1 {c x : List α} (hP : c = x ∨ c = clearL s x) (h2 : ¬ dirL s c ≠ c) : c = clearL s x := by
  rcases hP with rfl | rfl
  · unfold clearL; rw [if_neg (fun h => h2 h.2)]
  · rfl
theorem clear_exit2 {c x : List α} (hP : c = x ∨ c = clearL s x) (h2 : ((baseL s c).length : Int) ≠ 0) : c = clearL s x := by
  rcases hP with rfl | rfl
  · unfold clearL; rw [if_neg (fun h => h2 (by rw [h.1]; rfl))]
  · rfl
end
end Mine
end

section
open PySem PySem.W PySem.Spec PySem.Calls PyProof.Rows
set_option Elab.async false
set_option maxRecDepth 100000
set_option maxHeartbeats 4000000
set_option linter.unusedVariables false
namespace Mine
local macro_rules | `(tactic| walk_at "my lit") => `(tactic| first | with_reducible exact lit_slash | with_reducible exact lit_dot | with_reducible exact lit_dots | with_reducible exact lit_nil | with_reducible exact lit_two | with_reducible exact lit_u1 | with_reducible exact lit_u2 | with_reducible exact lit_u3 | with_reducible exact lit_u4 | with_reducible exact lit_u5 | with_reducible rfl)
local macro_rules | `(tactic| walk_at "my len") => `(tactic| first | assumption | ((try simp only [List.length_take, List.length_drop, List.length_replicate, List.length_cons, List.length_nil, List.length_append]); omega) | (refine Nat.le_trans (rsL_len _ _) ?_; first | assumption | ((try simp only [List.length_take, List.length_drop, List.length_replicate, List.length_cons, List.length_nil, List.length_append]); omega)))
local macro_rules | `(tactic| walk_at "my cut") => `(tactic| with_reducible first | exact cut_drop_at _ _ | exact cut_take_at _ _ | exact cut_take_1 _ | exact cut_take_2 _ | exact cut_drop_1 _ | exact cut_drop_2 _ | exact cut_mid_12 _ | exact cut_mid_23 _ | exact cut_init _ | exact cut_final _)
local macro_rules | `(tactic| walk_at "call builtin:issubclass") => `(tactic| (k_here; k_dflt (first
  | (refine' call_iss iss_str (kitTp_N ?k1 ?k2) ?_; (case k1 => k_asm); (case k2 => k_mem); k_whole)
  | (refine' call_iss iss_bytes (kitTp_N ?k1 ?k2) ?_; (case k1 => k_asm); (case k2 => k_mem); k_whole)); intro _; (try dsimp only)))
local macro_rules | `(tactic| walk_at "call type:type") => `(tactic| ((with_reducible show wpAny _ _ (call _ [Value.bytes _ _]) _ _ _); refine call_type_of (Tx := "bytes") rfl (by decide +kernel) ?_))
local macro_rules | `(tactic| walk_at "call builtin:str.rfind") => `(tactic| (k_here; k_dflt (refine' r_rfind ?k1 ?k2 ?_; (case k1 => walk_at "my lit"); (case k2 => walk_at "my lit"); k_whole); intro _ _))
local macro_rules | `(tactic| walk_at "call builtin:str.rstrip") => `(tactic| (k_here; k_dflt (refine' r_rstrip ?k1 ?k2 ?k3 ?_; (case k1 => walk_at "my lit"); (case k2 => walk_at "my lit"); (case k3 => walk_at "my len"); k_whole); intro _ _))
local macro_rules | `(tactic| walk_at "call builtin:str.lstrip") => `(tactic| (k_here; k_dflt (refine' r_lstrip ?k1 ?k2 ?k3 ?_; (case k1 => walk_at "my lit"); (case k2 => walk_at "my lit"); (case k3 => walk_at "my len"); k_whole); intro _ _))
local macro_rules | `(tactic| walk_at "call builtin:str.strip") => `(tactic| (k_here; k_dflt (refine' r_strip ?k1 ?k2 ?k3 ?_; (case k1 => walk_at "my lit"); (case k2 => walk_at "my lit"); (case k3 => walk_at "my len"); k_whole); intro _ _))
local macro_rules | `(tactic| walk_at "call builtin:str.startswith") => `(tactic| (k_here; k_dflt (refine' r_starts ?k1 ?k2 ?_; (case k1 => walk_at "my lit"); (case k2 => walk_at "my lit"); k_whole)))
local macro_rules | `(tactic| walk_at "call builtin:str.endswith") => `(tactic| (k_here; k_dflt (refine' r_ends ?k1 ?k2 ?_; (case k1 => walk_at "my lit"); (case k2 => walk_at "my lit"); k_whole)))
local macro_rules | `(tactic| walk_at "binaryOp Mult str int") => `(tactic| (k_here; k_dflt (refine' r_mul ?k1 ?k3 ?_; (case k1 => walk_at "my lit"); (case k3 => walk_at "my len"); k_whole); intro _ _))
local macro_rules | `(tactic| walk_at "compareOp Eq str str") => `(tactic| (k_here; k_dflt (refine' r_eq ?k1 ?k2 ?_; (case k1 => walk_at "my lit"); (case k2 => walk_at "my lit"); k_whole)))
local macro_rules | `(tactic| walk_at "compareOp NotEq str str") => `(tactic| (k_here; k_dflt (refine' r_ne ?k1 ?k2 ?_; (case k1 => walk_at "my lit"); (case k2 => walk_at "my lit"); k_whole)))
local macro_rules | `(tactic| walk_at "compareOp NotIn str str") => `(tactic| (k_here; k_dflt (refine' r_notin ?k1 ?k2 ?_; (case k1 => walk_at "my lit"); (case k2 => walk_at "my lit"); k_whole)))
local macro_rules | `(tactic| walk_at "truthy str") => `(tactic| (k_here; k_dflt (refine' r_truthy ?k1 ?k3 ?_; (case k1 => walk_at "my lit"); (case k3 => walk_at "my len"); k_whole); intro _))
local macro_rules | `(tactic| walk_at "call builtin:len") => `(tactic| (k_here; (with_reducible show wpAny _ _ (call _ [Value.str _ _]) _ _ _); k_dflt (refine' r_len ?k1 ?k3 ?_; (case k1 => walk_at "my lit"); (case k3 => walk_at "my len"); k_whole); intro _ _))
local macro_rules | `(tactic| walk_at "binaryOp Add str str") => `(tactic| (k_here; k_dflt (refine' r_add ?k1 ?k2 ?k3 ?_; (case k1 => walk_at "my lit"); (case k2 => walk_at "my lit"); (case k3 => walk_at "my len"); k_whole); intro _ _))
local macro_rules | `(tactic| walk_at "inplaceOp Add str str") => `(tactic| (k_here; k_dflt (refine' r_iadd ?k1 ?k2 ?k3 ?_; (case k1 => walk_at "my lit"); (case k2 => walk_at "my lit"); (case k3 => walk_at "my len"); k_whole); intro _ _))
local macro_rules | `(tactic| walk_at "subscriptTail Name Slice str ref") => `(tactic| (k_here; (with_reducible show wpAny _ _ (subscriptTail _ (Expr.Slice none (some _) none _) (Value.str _ _) (Value.ref _)) _ _ _); (with_reducible rename Fr _ _ _ _ => F'); (with_reducible rename News _ _ _ _ => N'); k_dflt (refine' r_slice_ns (s := ⟨_, _, _, _, _⟩) F' N' ?k1 ?k2 ?k3 ?_; (case k1 => walk_at "my lit"); (case k2 => walk_at "my cut"); (case k3 => walk_at "my len"); k_whole); intro _ _ _ F9 N9))
local macro_rules | `(tactic| walk_at "subscriptTail Name Slice str ref") => `(tactic| (k_here; (with_reducible show wpAny _ _ (subscriptTail _ (Expr.Slice (some _) none none _) (Value.str _ _) (Value.ref _)) _ _ _); (with_reducible rename Fr _ _ _ _ => F'); (with_reducible rename News _ _ _ _ => N'); k_dflt (refine' r_slice_sn (s := ⟨_, _, _, _, _⟩) F' N' ?k1 ?k2 ?k3 ?_; (case k1 => walk_at "my lit"); (case k2 => walk_at "my cut"); (case k3 => walk_at "my len"); k_whole); intro _ _ _ F9 N9))
local macro_rules | `(tactic| walk_at "subscriptTail Name Slice str ref") => `(tactic| (k_here; (with_reducible show wpAny _ _ (subscriptTail _ (Expr.Slice (some _) (some _) none _) (Value.str _ _) (Value.ref _)) _ _ _); (with_reducible rename Fr _ _ _ _ => F'); (with_reducible rename News _ _ _ _ => N'); k_dflt (refine' r_slice_ss (s := ⟨_, _, _, _, _⟩) F' N' ?k1 ?k2 ?k3 ?_; (case k1 => walk_at "my lit"); (case k2 => walk_at "my cut"); (case k3 => walk_at "my len"); k_whole); intro _ _ _ F9 N9))
local macro_rules | `(tactic| walk_at "subscriptTail") => `(tactic| (k_here; (with_reducible show wpAny _ _ (subscriptTail _ (Expr.Slice _ _ none _) (Value.bytes _ _) (Value.ref _)) _ _ _); (with_reducible rename Fr _ _ _ _ => F'); (with_reducible rename News _ _ _ _ => N'); k_dflt (refine' slice_bytes (s := ⟨_, _, _, _, _⟩) F' N' ?k4 ?k5 ?k3 ?k2 ?_; (case k4 => first | exact IsPart.none | exact IsPart.int _ _); (case k5 => first | exact IsPart.none | exact IsPart.int _ _); (case k3 => first | (walk_at "my len") | (refine Nat.le_trans (m := 4096) ?_ (by decide); walk_at "my len")); (case k2 => walk_at "my cut"); k_whole); intro _ _ _ F9 N9))
local macro_rules | `(tactic| walk_at "getMethod bytes") => `(tactic| (k_here; (with_reducible first | refine meth_bytes_rfind ?_ | refine meth_bytes_rstrip ?_ | refine meth_bytes_split ?_ | refine meth_bytes_join ?_ | refine meth_bytes_startswith ?_ | refine meth_bytes_endswith ?_)))
local macro_rules | `(tactic| walk_at "call builtin:bytes.rfind") => `(tactic| (k_here; k_dflt (refine rfind_bytes ?_); intro _ _))
local macro_rules | `(tactic| walk_at "call builtin:bytes.rstrip") => `(tactic| (k_here; k_dflt (refine' rstrip_bytes ?k3 ?_; (case k3 => (refine Nat.le_trans (m := 4096) ?_ (by decide); walk_at "my len")); k_whole); intro _ _))
local macro_rules | `(tactic| walk_at "call builtin:bytes.startswith") => `(tactic| (k_here; k_dflt (refine startswith_bytes ?_); intro _))
local macro_rules | `(tactic| walk_at "call builtin:bytes.endswith") => `(tactic| (k_here; k_dflt (refine endswith_bytes ?_); intro _))
local macro_rules | `(tactic| walk_at "compareOp Eq bytes bytes") => `(tactic| (k_here; k_dflt (refine b_eq ?_)))
local macro_rules | `(tactic| walk_at "compareOp NotEq bytes bytes") => `(tactic| (k_here; k_dflt (refine b_ne ?_)))
local macro_rules | `(tactic| walk_at "truthy bytes") => `(tactic| (k_here; k_dflt (refine' b_truthy ?k3 ?_; (case k3 => walk_at "my len"); k_whole); intro _))
local macro_rules | `(tactic| walk_at "call builtin:len") => `(tactic| (k_here; (with_reducible show wpAny _ _ (call _ [Value.bytes _ _]) _ _ _); k_dflt (refine' b_len ?k3 ?_; (case k3 => walk_at "my len"); k_whole); intro _ _))
local macro_rules | `(tactic| walk_at "binaryOp Add bytes bytes") => `(tactic| (k_here; k_dflt (refine' b_add ?k3 ?_; (case k3 => walk_at "my len"); k_whole); intro _ _))
local macro_rules | `(tactic| walk_at "binaryOp Mult bytes int") => `(tactic| (k_here; k_dflt (refine' mul_bytes ?k4 ?k3 ?_; (case k4 => walk_at "my pos"); (case k3 => walk_at "my len"); k_whole); intro _ _))
local macro_rules | `(tactic| walk_at "my pos") => `(tactic| exact List.length_pos_iff.mpr (by assumption))
local macro_rules | `(tactic| walk_at "my ct") => `(tactic| exact ct_fspath_str _ _ _)
local macro_rules | `(tactic| walk_at "my ct") => `(tactic| exact ct_fspath_bytes _ _ _)
local macro_rules | `(tactic| walk_at "my ct") => `(tactic| exact ct_get_sep_str _ _ _)
local macro_rules | `(tactic| walk_at "my ct") => `(tactic| exact ct_get_sep_bytes _ _ _)
local macro_rules | `(tactic| walk_at "call ref") => `(tactic| (k_here; k_dflt (refine' ct_use ?C ?k1 ?k2 ?k3 ?k4 ?k5 ?kK ?kd ?ku ?_; (case C => walk_at "my ct"); (case k1 => k_asm); (case k2 => k_asm); (case k3 => k_asm); (case k4 => k_asm); (case k5 => k_asm); (case kK => first | exact rfl | assumption); (case kd => ktr_room); (case ku => ktr_units); k_whole); intro t9 h9 tk9 F9 N9; (try dsimp only); (try k_fold)))
local macro_rules | `(tactic| walk_at "my end") => `(tactic| (refine' ct_ret ?e0 ?e1 ?e2 ?e3 ?_; (case e0 => assumption); (case e1 => k_asm); (case e2 => k_asm); (case e3 => kcj_all)))
local macro_rules | `(tactic| walk_at "my endT") => `(tactic| (refine' ctT_ret ?e0 ?e1 ?e2 ?e3 ?e4 ?_; (case e0 => assumption); (case e1 => k_asm); (case e2 => k_asm); (case e3 => k_mem); (case e4 => kcj_all)))
local macro_rules | `(tactic| walk_at "my turn1") => `(tactic| (refine' InvEndN.intro ?F ?N ⟨rfl, _, ?_, ?rf, ?same⟩ rfl ?hn ?ho; (case F => k_asm); (case N => k_asm); (case rf => with_unfolding_all rfl); (case same => intro z h1 h2; simp [h1, h2]); (case hn => intro p hp; simp [hp]); (case ho => intro p hp; simp [hp])))
local macro_rules | `(tactic| walk_at "inplaceOp Add bytes bytes") => `(tactic| (k_here; k_dflt (refine' b_iadd ?k3 ?_; (case k3 => walk_at "my len"); k_whole); intro _ _))
local macro_rules | `(tactic| walk_at "call ref") => `(tactic| (k_here; k_dflt (refine' ctT_use ?C ?k1 ?k2 ?k3 ?k4 ?k5 ?kK ?kd ?ku ?_; (case C => walk_at "my ctT"); (case k1 => k_asm); (case k2 => k_asm); (case k3 => k_asm); (case k4 => k_asm); (case k5 => k_asm); (case kK => first | exact rfl | assumption); (case kd => ktr_room); (case ku => ktr_units); k_whole); intro q9 t7 t8 t9 h9 tk9 F9 N9; (try dsimp only); (try k_fold)))
local macro_rules | `(tactic| walk_at "my len") => `(tactic| exact Nat.le_trans (restL_len _ _) (by assumption))
local macro_rules | `(tactic| walk_at "call builtin:str.split") => `(tactic| (k_here; (with_reducible rename Fr _ _ _ _ => F'); (with_reducible rename News _ _ _ _ => N'); k_dflt (refine' r_split2 F' N' ?k1 ?k2 ?k3 ?_; (case k1 => walk_at "my lit"); (case k2 => walk_at "my lit"); (case k3 => walk_at "my len"); k_whole); intro _ _ _ hV9 hD9 F9 N9))
local macro_rules | `(tactic| walk_at "call builtin:bytes.split") => `(tactic| (k_here; (with_reducible rename Fr _ _ _ _ => F'); (with_reducible rename News _ _ _ _ => N'); k_dflt (refine' b_split2 F' N' ?k3 ?_; (case k3 => walk_at "my len"); k_whole); intro _ _ _ hV9 hD9 F9 N9))
local macro_rules | `(tactic| walk_at "truthy ref") => `(tactic| (k_here; k_dflt (refine' l_truthy ?N ?hm ?hV ?hz ?_; (case N => k_asm); (case hm => k_mem); (case hV => assumption); (case hz => assumption); k_whole); intro _))
local macro_rules | `(tactic| walk_at "subscriptTail Name UnaryOp ref int") => `(tactic| (k_here; k_dflt (refine' l_last (mk := mkS) ?N ?hm ?hV ?hz ?_; (case N => k_asm); (case hm => k_mem); (case hV => assumption); (case hz => assumption); k_whole); intro _; (try dsimp only [mkS])))
local macro_rules | `(tactic| walk_at "subscriptTail Name UnaryOp ref int") => `(tactic| (k_here; k_dflt (refine' l_last (mk := mkB) ?N ?hm ?hV ?hz ?_; (case N => k_asm); (case hm => k_mem); (case hV => assumption); (case hz => assumption); k_whole); intro _; (try dsimp only [mkB])))
local macro_rules | `(tactic| walk_at "call builtin:list.append") => `(tactic| (k_here; k_dflt (refine' l_append (mk := mkS) ?F ?N ?hu ?hV ?hz ?_; (case F => k_asm); (case N => k_asm); (case hu => assumption); (case hV => assumption); (case hz => assumption); k_whole); intro _ F9 N9 hV9))
local macro_rules | `(tactic| walk_at "call builtin:list.append") => `(tactic| (k_here; k_dflt (refine' l_append (mk := mkB) ?F ?N ?hu ?hV ?hz ?_; (case F => k_asm); (case N => k_asm); (case hu => assumption); (case hV => assumption); (case hz => assumption); k_whole); intro _ F9 N9 hV9))
local macro_rules | `(tactic| walk_at "call builtin:list.pop") => `(tactic| (k_here; k_dflt (refine' l_pop ?F ?N ?hu ?hV ?hne ?hz ?_; (case F => k_asm); (case N => k_asm); (case hu => assumption); (case hV => assumption); (case hne => assumption); (case hz => assumption); k_whole); intro _ _ F9 N9 hV9))
local macro_rules | `(tactic| walk_at "call builtin:str.join") => `(tactic| (k_here; k_dflt (refine' r_join ?k1 ?hl ?hV ?hz ?_; (case k1 => walk_at "my lit"); (case hl => exact News.isList (by k_asm) (by k_mem)); (case hV => assumption); (case hz => assumption); k_whole); intro _ _))
local macro_rules | `(tactic| walk_at "call builtin:bytes.join") => `(tactic| (k_here; k_dflt (refine' join_bytes ?hl ?hV ?hz ?_; (case hl => exact News.isList (by k_asm) (by k_mem)); (case hV => assumption); (case hz => exact Nat.le_trans (m := 16384) (by assumption) (by decide)); k_whole); intro _ _))
local macro_rules | `(tactic| walk_at "my step") => `(tactic| first | rw [step_skip1 (by assumption)] | rw [step_skip2 (by assumption)] | rw [step_none (by assumption) (by assumption) (by assumption) (by assumption) (by assumption)] | rw [step_pop (by assumption) (by assumption) (by assumption) (by assumption) (by assumption)] | rw [step_push (by assumption) (by assumption) (by first | exact .inl (by assumption) | exact .inr (.inl ⟨Decidable.not_not.mp (by assumption), Decidable.not_not.mp (by assumption)⟩) | exact .inr (.inr ⟨by assumption, by assumption⟩))])
local macro_rules | `(tactic| walk_at "my turn2") => `(tactic| (refine' InvEndN.intro ?F ?N ⟨_, _, rfl, ?V, ?same⟩ rfl ?hn ?ho; (case F => k_asm); (case N => k_asm); (case V => assumption); (case same => intro z h1; simp [h1]); (case hn => exact turn2_hn); (case ho => exact turn2_ho)))
local macro_rules | `(tactic| walk_at "my w1") => `(tactic| ((with_reducible show W1Post _ _ _ _ _ _ _ _ _ _ _ _ _); (dsimp only [W1Post]); (refine' w1_end (_, _) ?F ?N ?hn ?hk ?hr ?_ ?_); (case F => k_asm); (case N => k_asm); (case hn => kcj_all); (case hk => with_unfolding_all rfl); (case hr => intro z h1; simp [h1])))
local macro_rules | `(tactic| walk_at "my len") => `(tactic| first | assumption | exact Nat.le_trans (base_len _ _) (by walk_at "my len") | exact Nat.le_trans (dir_len _ _) (by walk_at "my len") | exact Nat.le_trans (clear_len _ _) (by walk_at "my len") | exact Nat.le_trans (rootL_len _ _) (by decide))
local macro_rules | `(tactic| walk_at "my ctT") => `(tactic| (refine' ct_splitroot_str _ _ ?z1 _; (case z1 => walk_at "my len")))
local macro_rules | `(tactic| walk_at "my ctT") => `(tactic| (refine' ct_splitroot_bytes _ _ ?z1 _; (case z1 => walk_at "my len")))
local macro_rules | `(tactic| walk_at "my ct") => `(tactic| (refine' ct_basename_str _ _ ?z1 _; (case z1 => walk_at "my len")))
local macro_rules | `(tactic| walk_at "my ct") => `(tactic| (refine' ct_basename_bytes _ _ ?z1 _; (case z1 => walk_at "my len")))
local macro_rules | `(tactic| walk_at "my ct") => `(tactic| (refine' ct_dirname_str _ _ ?z1 _; (case z1 => walk_at "my len")))
local macro_rules | `(tactic| walk_at "my ct") => `(tactic| (refine' ct_dirname_bytes _ _ ?z1 _; (case z1 => walk_at "my len")))
local macro_rules | `(tactic| walk_at "my ct") => `(tactic| (refine' ct_join_str _ _ _ ?z1 ?z2 _ _; (case z1 => walk_at "my len"); (case z2 => walk_at "my len")))
local macro_rules | `(tactic| walk_at "my ct") => `(tactic| (refine' ct_join_bytes _ _ _ ?z1 ?z2 _ _; (case z1 => walk_at "my len"); (case z2 => walk_at "my len")))
local macro_rules | `(tactic| walk_at "exec While Compare cons nil") => `(tactic| refine stop_of ?_)
local macro_rules | `(tactic| walk_at "exec While BoolOp cons nil") => `(tactic| refine stop_of ?_)
theorem ct_clear_str (w : World) (x : List Nat) (hx : x.length ≤ 4096) (t : Tok) : Ct w 5 191 [.str (S x) t] (fun t' => .str (S (clearL 47 x)) t') := by
  unfold Ct
  k_fill
  intro mean mg mb dp un gd cn cs a ccd cl outer A₀ base h₀ L m news s Q E B F X N T hk hd hu hret
  refine wpAny_call ?_
  k_dflt cell_enter
  k_steps
  refine stop_in ?_
  rename Fr _ _ _ _ => lF
  rename News _ _ _ _ => lN
  with_unfolding_all refine while1 (y := Str.ofString "thing") (news := news) (fun c : List Nat × Tok => .str (S c.1) c.2) (fun c => c.1 = x ∨ c.1 = clearL 47 x) (fun c => if c.1 = clearL 47 x then 0 else 1) (x, t) lF lN rfl (.inl rfl) ?turn
  rintro ⟨c, tc⟩ h tk hP F₁ N₁
  have hcl : c.length ≤ 4096 := by rcases hP with h | h; (dsimp only at h; rw [h]; exact hx); (dsimp only at h; rw [h]; exact Nat.le_trans (clear_len 47 x) hx)
  clear lF lN
  dsimp only at F₁
  try k_fold
  k_steps
  any_goals (walk_at "my w1"; (exact .inr (clear_next hP (by assumption) (by assumption)).1); (exact clear_less hP (by assumption) (by assumption)))
  all_goals walk_at "my end"
  all_goals first | exact str_end (clear_exit1 hP (by assumption)) | exact str_end (clear_exit2 hP (by assumption))
theorem ct_clear_bytes (w : World) (x : List UInt8) (hx : x.length ≤ 4096) (t : Tok) : Ct w 5 191 [.bytes x.toArray t] (fun t' => .bytes (clearL 47 x).toArray t') := by
  unfold Ct
  k_fill
  intro mean mg mb dp un gd cn cs a ccd cl outer A₀ base h₀ L m news s Q E B F X N T hk hd hu hret
  refine wpAny_call ?_
  k_dflt cell_enter
  k_steps
  refine stop_in ?_
  rename Fr _ _ _ _ => lF
  rename News _ _ _ _ => lN
  with_unfolding_all refine while1 (y := Str.ofString "thing") (news := news) (fun c : List UInt8 × Tok => .bytes c.1.toArray c.2) (fun c => c.1 = x ∨ c.1 = clearL 47 x) (fun c => if c.1 = clearL 47 x then 0 else 1) (x, t) lF lN rfl (.inl rfl) ?turn
  rintro ⟨c, tc⟩ h tk hP F₁ N₁
  have hcl : c.length ≤ 4096 := by rcases hP with h | h; (dsimp only at h; rw [h]; exact hx); (dsimp only at h; rw [h]; exact Nat.le_trans (clear_len 47 x) hx)
  clear lF lN
  dsimp only at F₁
  try k_fold
  k_steps
  any_goals (walk_at "my w1"; (exact .inr (clear_next hP (by assumption) (by assumption)).1); (exact clear_less hP (by assumption) (by assumption)))
  all_goals walk_at "my end"
  all_goals first | exact bytes_end (clear_exit1 hP (by assumption)) | exact bytes_end (clear_exit2 hP (by assumption))

end Mine
end

section
open PySem PySem.W PySem.Spec PySem.Calls PyProof.Rows
set_option Elab.async false
set_option maxRecDepth 100000
set_option maxHeartbeats 4000000
set_option linter.unusedVariables false
namespace Mine
local macro_rules | `(tactic| walk_at "my lit") => `(tactic| first | with_reducible exact lit_slash | with_reducible exact lit_dot | with_reducible exact lit_dots | with_reducible exact lit_nil | with_reducible exact lit_two | with_reducible exact lit_u1 | with_reducible exact lit_u2 | with_reducible exact lit_u3 | with_reducible exact lit_u4 | with_reducible exact lit_u5 | with_reducible rfl)
local macro_rules | `(tactic| walk_at "my len") => `(tactic| first | assumption | ((try simp only [List.length_take, List.length_drop, List.length_replicate, List.length_cons, List.length_nil, List.length_append]); omega) | (refine Nat.le_trans (rsL_len _ _) ?_; first | assumption | ((try simp only [List.length_take, List.length_drop, List.length_replicate, List.length_cons, List.length_nil, List.length_append]); omega)))
local macro_rules | `(tactic| walk_at "my cut") => `(tactic| with_reducible first | exact cut_drop_at _ _ | exact cut_take_at _ _ | exact cut_take_1 _ | exact cut_take_2 _ | exact cut_drop_1 _ | exact cut_drop_2 _ | exact cut_mid_12 _ | exact cut_mid_23 _ | exact cut_init _ | exact cut_final _)
local macro_rules | `(tactic| walk_at "call builtin:issubclass") => `(tactic| (k_here; k_dflt (first
  | (refine' call_iss iss_str (kitTp_N ?k1 ?k2) ?_; (case k1 => k_asm); (case k2 => k_mem); k_whole)
  | (refine' call_iss iss_bytes (kitTp_N ?k1 ?k2) ?_; (case k1 => k_asm); (case k2 => k_mem); k_whole)); intro _; (try dsimp only)))
local macro_rules | `(tactic| walk_at "call type:type") => `(tactic| ((with_reducible show wpAny _ _ (call _ [Value.bytes _ _]) _ _ _); refine call_type_of (Tx := "bytes") rfl (by decide +kernel) ?_))
local macro_rules | `(tactic| walk_at "call builtin:str.rfind") => `(tactic| (k_here; k_dflt (refine' r_rfind ?k1 ?k2 ?_; (case k1 => walk_at "my lit"); (case k2 => walk_at "my lit"); k_whole); intro _ _))
local macro_rules | `(tactic| walk_at "call builtin:str.rstrip") => `(tactic| (k_here; k_dflt (refine' r_rstrip ?k1 ?k2 ?k3 ?_; (case k1 => walk_at "my lit"); (case k2 => walk_at "my lit"); (case k3 => walk_at "my len"); k_whole); intro _ _))
local macro_rules | `(tactic| walk_at "call builtin:str.lstrip") => `(tactic| (k_here; k_dflt (refine' r_lstrip ?k1 ?k2 ?k3 ?_; (case k1 => walk_at "my lit"); (case k2 => walk_at "my lit"); (case k3 => walk_at "my len"); k_whole); intro _ _))
local macro_rules | `(tactic| walk_at "call builtin:str.strip") => `(tactic| (k_here; k_dflt (refine' r_strip ?k1 ?k2 ?k3 ?_; (case k1 => walk_at "my lit"); (case k2 => walk_at "my lit"); (case k3 => walk_at "my len"); k_whole); intro _ _))
local macro_rules | `(tactic| walk_at "call builtin:str.startswith") => `(tactic| (k_here; k_dflt (refine' r_starts ?k1 ?k2 ?_; (case k1 => walk_at "my lit"); (case k2 => walk_at "my lit"); k_whole)))
local macro_rules | `(tactic| walk_at "call builtin:str.endswith") => `(tactic| (k_here; k_dflt (refine' r_ends ?k1 ?k2 ?_; (case k1 => walk_at "my lit"); (case k2 => walk_at "my lit"); k_whole)))
local macro_rules | `(tactic| walk_at "binaryOp Mult str int") => `(tactic| (k_here; k_dflt (refine' r_mul ?k1 ?k3 ?_; (case k1 => walk_at "my lit"); (case k3 => walk_at "my len"); k_whole); intro _ _))
local macro_rules | `(tactic| walk_at "compareOp Eq str str") => `(tactic| (k_here; k_dflt (refine' r_eq ?k1 ?k2 ?_; (case k1 => walk_at "my lit"); (case k2 => walk_at "my lit"); k_whole)))
local macro_rules | `(tactic| walk_at "compareOp NotEq str str") => `(tactic| (k_here; k_dflt (refine' r_ne ?k1 ?k2 ?_; (case k1 => walk_at "my lit"); (case k2 => walk_at "my lit"); k_whole)))
local macro_rules | `(tactic| walk_at "compareOp NotIn str str") => `(tactic| (k_here; k_dflt (refine' r_notin ?k1 ?k2 ?_; (case k1 => walk_at "my lit"); (case k2 => walk_at "my lit"); k_whole)))
local macro_rules | `(tactic| walk_at "truthy str") => `(tactic| (k_here; k_dflt (refine' r_truthy ?k1 ?k3 ?_; (case k1 => walk_at "my lit"); (case k3 => walk_at "my len"); k_whole); intro _))
local macro_rules | `(tactic| walk_at "call builtin:len") => `(tactic| (k_here; (with_reducible show wpAny _ _ (call _ [Value.str _ _]) _ _ _); k_dflt (refine' r_len ?k1 ?k3 ?_; (case k1 => walk_at "my lit"); (case k3 => walk_at "my len"); k_whole); intro _ _))
local macro_rules | `(tactic| walk_at "binaryOp Add str str") => `(tactic| (k_here; k_dflt (refine' r_add ?k1 ?k2 ?k3 ?_; (case k1 => walk_at "my lit"); (case k2 => walk_at "my lit"); (case k3 => walk_at "my len"); k_whole); intro _ _))
local macro_rules | `(tactic| walk_at "inplaceOp Add str str") => `(tactic| (k_here; k_dflt (refine' r_iadd ?k1 ?k2 ?k3 ?_; (case k1 => walk_at "my lit"); (case k2 => walk_at "my lit"); (case k3 => walk_at "my len"); k_whole); intro _ _))
local macro_rules | `(tactic| walk_at "subscriptTail Name Slice str ref") => `(tactic| (k_here; (with_reducible show wpAny _ _ (subscriptTail _ (Expr.Slice none (some _) none _) (Value.str _ _) (Value.ref _)) _ _ _); (with_reducible rename Fr _ _ _ _ => F'); (with_reducible rename News _ _ _ _ => N'); k_dflt (refine' r_slice_ns (s := ⟨_, _, _, _, _⟩) F' N' ?k1 ?k2 ?k3 ?_; (case k1 => walk_at "my lit"); (case k2 => walk_at "my cut"); (case k3 => walk_at "my len"); k_whole); intro _ _ _ F9 N9))
local macro_rules | `(tactic| walk_at "subscriptTail Name Slice str ref") => `(tactic| (k_here; (with_reducible show wpAny _ _ (subscriptTail _ (Expr.Slice (some _) none none _) (Value.str _ _) (Value.ref _)) _ _ _); (with_reducible rename Fr _ _ _ _ => F'); (with_reducible rename News _ _ _ _ => N'); k_dflt (refine' r_slice_sn (s := ⟨_, _, _, _, _⟩) F' N' ?k1 ?k2 ?k3 ?_; (case k1 => walk_at "my lit"); (case k2 => walk_at "my cut"); (case k3 => walk_at "my len"); k_whole); intro _ _ _ F9 N9))
local macro_rules | `(tactic| walk_at "subscriptTail Name Slice str ref") => `(tactic| (k_here; (with_reducible show wpAny _ _ (subscriptTail _ (Expr.Slice (some _) (some _) none _) (Value.str _ _) (Value.ref _)) _ _ _); (with_reducible rename Fr _ _ _ _ => F'); (with_reducible rename News _ _ _ _ => N'); k_dflt (refine' r_slice_ss (s := ⟨_, _, _, _, _⟩) F' N' ?k1 ?k2 ?k3 ?_; (case k1 => walk_at "my lit"); (case k2 => walk_at "my cut"); (case k3 => walk_at "my len"); k_whole); intro _ _ _ F9 N9))
local macro_rules | `(tactic| walk_at "subscriptTail") => `(tactic| (k_here; (with_reducible show wpAny _ _ (subscriptTail _ (Expr.Slice _ _ none _) (Value.bytes _ _) (Value.ref _)) _ _ _); (with_reducible rename Fr _ _ _ _ => F'); (with_reducible rename News _ _ _ _ => N'); k_dflt (refine' slice_bytes (s := ⟨_, _, _, _, _⟩) F' N' ?k4 ?k5 ?k3 ?k2 ?_; (case k4 => first | exact IsPart.none | exact IsPart.int _ _); (case k5 => first | exact IsPart.none | exact IsPart.int _ _); (case k3 => first | (walk_at "my len") | (refine Nat.le_trans (m := 4096) ?_ (by decide); walk_at "my len")); (case k2 => walk_at "my cut"); k_whole); intro _ _ _ F9 N9))
local macro_rules | `(tactic| walk_at "getMethod bytes") => `(tactic| (k_here; (with_reducible first | refine meth_bytes_rfind ?_ | refine meth_bytes_rstrip ?_ | refine meth_bytes_split ?_ | refine meth_bytes_join ?_ | refine meth_bytes_startswith ?_ | refine meth_bytes_endswith ?_)))
local macro_rules | `(tactic| walk_at "call builtin:bytes.rfind") => `(tactic| (k_here; k_dflt (refine rfind_bytes ?_); intro _ _))
local macro_rules | `(tactic| walk_at "call builtin:bytes.rstrip") => `(tactic| (k_here; k_dflt (refine' rstrip_bytes ?k3 ?_; (case k3 => (refine Nat.le_trans (m := 4096) ?_ (by decide); walk_at "my len")); k_whole); intro _ _))
local macro_rules | `(tactic| walk_at "call builtin:bytes.startswith") => `(tactic| (k_here; k_dflt (refine startswith_bytes ?_); intro _))
local macro_rules | `(tactic| walk_at "call builtin:bytes.endswith") => `(tactic| (k_here; k_dflt (refine endswith_bytes ?_); intro _))
local macro_rules | `(tactic| walk_at "compareOp Eq bytes bytes") => `(tactic| (k_here; k_dflt (refine b_eq ?_)))
local macro_rules | `(tactic| walk_at "compareOp NotEq bytes bytes") => `(tactic| (k_here; k_dflt (refine b_ne ?_)))
local macro_rules | `(tactic| walk_at "truthy bytes") => `(tactic| (k_here; k_dflt (refine' b_truthy ?k3 ?_; (case k3 => walk_at "my len"); k_whole); intro _))
local macro_rules | `(tactic| walk_at "call builtin:len") => `(tactic| (k_here; (with_reducible show wpAny _ _ (call _ [Value.bytes _ _]) _ _ _); k_dflt (refine' b_len ?k3 ?_; (case k3 => walk_at "my len"); k_whole); intro _ _))
local macro_rules | `(tactic| walk_at "binaryOp Add bytes bytes") => `(tactic| (k_here; k_dflt (refine' b_add ?k3 ?_; (case k3 => walk_at "my len"); k_whole); intro _ _))
local macro_rules | `(tactic| walk_at "binaryOp Mult bytes int") => `(tactic| (k_here; k_dflt (refine' mul_bytes ?k4 ?k3 ?_; (case k4 => walk_at "my pos"); (case k3 => walk_at "my len"); k_whole); intro _ _))
local macro_rules | `(tactic| walk_at "my pos") => `(tactic| exact List.length_pos_iff.mpr (by assumption))
local macro_rules | `(tactic| walk_at "my ct") => `(tactic| exact ct_fspath_str _ _ _)
local macro_rules | `(tactic| walk_at "my ct") => `(tactic| exact ct_fspath_bytes _ _ _)
local macro_rules | `(tactic| walk_at "my ct") => `(tactic| exact ct_get_sep_str _ _ _)
local macro_rules | `(tactic| walk_at "my ct") => `(tactic| exact ct_get_sep_bytes _ _ _)
local macro_rules | `(tactic| walk_at "call ref") => `(tactic| (k_here; k_dflt (refine' ct_use ?C ?k1 ?k2 ?k3 ?k4 ?k5 ?kK ?kd ?ku ?_; (case C => walk_at "my ct"); (case k1 => k_asm); (case k2 => k_asm); (case k3 => k_asm); (case k4 => k_asm); (case k5 => k_asm); (case kK => first | exact rfl | assumption); (case kd => ktr_room); (case ku => ktr_units); k_whole); intro t9 h9 tk9 F9 N9; (try dsimp only); (try k_fold)))
local macro_rules | `(tactic| walk_at "my end") => `(tactic| (refine' ct_ret ?e0 ?e1 ?e2 ?e3 ?_; (case e0 => assumption); (case e1 => k_asm); (case e2 => k_asm); (case e3 => kcj_all)))
local macro_rules | `(tactic| walk_at "my endT") => `(tactic| (refine' ctT_ret ?e0 ?e1 ?e2 ?e3 ?e4 ?_; (case e0 => assumption); (case e1 => k_asm); (case e2 => k_asm); (case e3 => k_mem); (case e4 => kcj_all)))
local macro_rules | `(tactic| walk_at "my turn1") => `(tactic| (refine' InvEndN.intro ?F ?N ⟨rfl, _, ?_, ?rf, ?same⟩ rfl ?hn ?ho; (case F => k_asm); (case N => k_asm); (case rf => with_unfolding_all rfl); (case same => intro z h1 h2; simp [h1, h2]); (case hn => intro p hp; simp [hp]); (case ho => intro p hp; simp [hp])))
local macro_rules | `(tactic| walk_at "inplaceOp Add bytes bytes") => `(tactic| (k_here; k_dflt (refine' b_iadd ?k3 ?_; (case k3 => walk_at "my len"); k_whole); intro _ _))
local macro_rules | `(tactic| walk_at "call ref") => `(tactic| (k_here; k_dflt (refine' ctT_use ?C ?k1 ?k2 ?k3 ?k4 ?k5 ?kK ?kd ?ku ?_; (case C => walk_at "my ctT"); (case k1 => k_asm); (case k2 => k_asm); (case k3 => k_asm); (case k4 => k_asm); (case k5 => k_asm); (case kK => first | exact rfl | assumption); (case kd => ktr_room); (case ku => ktr_units); k_whole); intro q9 t7 t8 t9 h9 tk9 F9 N9; (try dsimp only); (try k_fold)))
local macro_rules | `(tactic| walk_at "my len") => `(tactic| exact Nat.le_trans (restL_len _ _) (by assumption))
local macro_rules | `(tactic| walk_at "call builtin:str.split") => `(tactic| (k_here; (with_reducible rename Fr _ _ _ _ => F'); (with_reducible rename News _ _ _ _ => N'); k_dflt (refine' r_split2 F' N' ?k1 ?k2 ?k3 ?_; (case k1 => walk_at "my lit"); (case k2 => walk_at "my lit"); (case k3 => walk_at "my len"); k_whole); intro _ _ _ hV9 hD9 F9 N9))
local macro_rules | `(tactic| walk_at "call builtin:bytes.split") => `(tactic| (k_here; (with_reducible rename Fr _ _ _ _ => F'); (with_reducible rename News _ _ _ _ => N'); k_dflt (refine' b_split2 F' N' ?k3 ?_; (case k3 => walk_at "my len"); k_whole); intro _ _ _ hV9 hD9 F9 N9))
local macro_rules | `(tactic| walk_at "truthy ref") => `(tactic| (k_here; k_dflt (refine' l_truthy ?N ?hm ?hV ?hz ?_; (case N => k_asm); (case hm => k_mem); (case hV => assumption); (case hz => assumption); k_whole); intro _))
local macro_rules | `(tactic| walk_at "subscriptTail Name UnaryOp ref int") => `(tactic| (k_here; k_dflt (refine' l_last (mk := mkS) ?N ?hm ?hV ?hz ?_; (case N => k_asm); (case hm => k_mem); (case hV => assumption); (case hz => assumption); k_whole); intro _; (try dsimp only [mkS])))
local macro_rules | `(tactic| walk_at "subscriptTail Name UnaryOp ref int") => `(tactic| (k_here; k_dflt (refine' l_last (mk := mkB) ?N ?hm ?hV ?hz ?_; (case N => k_asm); (case hm => k_mem); (case hV => assumption); (case hz => assumption); k_whole); intro _; (try dsimp only [mkB])))
local macro_rules | `(tactic| walk_at "call builtin:list.append") => `(tactic| (k_here; k_dflt (refine' l_append (mk := mkS) ?F ?N ?hu ?hV ?hz ?_; (case F => k_asm); (case N => k_asm); (case hu => assumption); (case hV => assumption); (case hz => assumption); k_whole); intro _ F9 N9 hV9))
local macro_rules | `(tactic| walk_at "call builtin:list.append") => `(tactic| (k_here; k_dflt (refine' l_append (mk := mkB) ?F ?N ?hu ?hV ?hz ?_; (case F => k_asm); (case N => k_asm); (case hu => assumption); (case hV => assumption); (case hz => assumption); k_whole); intro _ F9 N9 hV9))
local macro_rules | `(tactic| walk_at "call builtin:list.pop") => `(tactic| (k_here; k_dflt (refine' l_pop ?F ?N ?hu ?hV ?hne ?hz ?_; (case F => k_asm); (case N => k_asm); (case hu => assumption); (case hV => assumption); (case hne => assumption); (case hz => assumption); k_whole); intro _ _ F9 N9 hV9))
local macro_rules | `(tactic| walk_at "call builtin:str.join") => `(tactic| (k_here; k_dflt (refine' r_join ?k1 ?hl ?hV ?hz ?_; (case k1 => walk_at "my lit"); (case hl => exact News.isList (by k_asm) (by k_mem)); (case hV => assumption); (case hz => assumption); k_whole); intro _ _))
local macro_rules | `(tactic| walk_at "call builtin:bytes.join") => `(tactic| (k_here; k_dflt (refine' join_bytes ?hl ?hV ?hz ?_; (case hl => exact News.isList (by k_asm) (by k_mem)); (case hV => assumption); (case hz => exact Nat.le_trans (m := 16384) (by assumption) (by decide)); k_whole); intro _ _))
local macro_rules | `(tactic| walk_at "my step") => `(tactic| first | rw [step_skip1 (by assumption)] | rw [step_skip2 (by assumption)] | rw [step_none (by assumption) (by assumption) (by assumption) (by assumption) (by assumption)] | rw [step_pop (by assumption) (by assumption) (by assumption) (by assumption) (by assumption)] | rw [step_push (by assumption) (by assumption) (by first | exact .inl (by assumption) | exact .inr (.inl ⟨Decidable.not_not.mp (by assumption), Decidable.not_not.mp (by assumption)⟩) | exact .inr (.inr ⟨by assumption, by assumption⟩))])
local macro_rules | `(tactic| walk_at "my turn2") => `(tactic| (refine' InvEndN.intro ?F ?N ⟨_, _, rfl, ?V, ?same⟩ rfl ?hn ?ho; (case F => k_asm); (case N => k_asm); (case V => assumption); (case same => intro z h1; simp [h1]); (case hn => exact turn2_hn); (case ho => exact turn2_ho)))
local macro_rules | `(tactic| walk_at "my len") => `(tactic| first | assumption | exact Nat.le_trans (base_len _ _) (by walk_at "my len") | exact Nat.le_trans (dir_len _ _) (by walk_at "my len") | exact Nat.le_trans (clear_len _ _) (by walk_at "my len") | exact Nat.le_trans (rootL_len _ _) (by decide))
local macro_rules | `(tactic| walk_at "my ctT") => `(tactic| (refine' ct_splitroot_str _ _ ?z1 _; (case z1 => walk_at "my len")))
local macro_rules | `(tactic| walk_at "my ctT") => `(tactic| (refine' ct_splitroot_bytes _ _ ?z1 _; (case z1 => walk_at "my len")))
local macro_rules | `(tactic| walk_at "my ct") => `(tactic| (refine' ct_basename_str _ _ ?z1 _; (case z1 => walk_at "my len")))
local macro_rules | `(tactic| walk_at "my ct") => `(tactic| (refine' ct_basename_bytes _ _ ?z1 _; (case z1 => walk_at "my len")))
local macro_rules | `(tactic| walk_at "my ct") => `(tactic| (refine' ct_dirname_str _ _ ?z1 _; (case z1 => walk_at "my len")))
local macro_rules | `(tactic| walk_at "my ct") => `(tactic| (refine' ct_dirname_bytes _ _ ?z1 _; (case z1 => walk_at "my len")))
local macro_rules | `(tactic| walk_at "my ct") => `(tactic| (refine' ct_join_str _ _ _ ?z1 ?z2 _ _; (case z1 => walk_at "my len"); (case z2 => walk_at "my len")))
local macro_rules | `(tactic| walk_at "my ct") => `(tactic| (refine' ct_join_bytes _ _ _ ?z1 ?z2 _ _; (case z1 => walk_at "my len"); (case z2 => walk_at "my len")))
theorem last_yes {α : Type} [DecidableEq α] {s : α} {x : List α} (h : ((baseL s (clearL s x)).length : Int) > 0) : baseL s (clearL s x) = lastL s x := by
  unfold lastL; rw [if_pos (by omega)]
theorem last_no {α : Type} [DecidableEq α] {s : α} {x : List α} (h : ¬ ((baseL s (clearL s x)).length : Int) > 0) : rootL s (clearL s x) = lastL s x := by
  unfold lastL; rw [if_neg (by omega)]
theorem folder_1 {α : Type} [DecidableEq α] {s d : α} {x : List α} (h : ((baseL s (dirL s (clearL s x))).length : Int) > 0) : dirL s (clearL s x) = folderL s d x := by
  unfold folderL; rw [if_pos (by omega)]
theorem folder_2 {α : Type} [DecidableEq α] {s d : α} {x : List α} (h : ¬ ((baseL s (dirL s (clearL s x))).length : Int) > 0) (h2 : ((rootL s (dirL s (clearL s x))).length : Int) > 0) : rootL s (dirL s (clearL s x)) = folderL s d x := by
  unfold folderL; rw [if_neg (by omega), if_pos (by omega)]
theorem folder_3 {α : Type} [DecidableEq α] {s d : α} {x : List α} (h : ¬ ((baseL s (dirL s (clearL s x))).length : Int) > 0) (h2 : ¬ ((rootL s (dirL s (clearL s x))).length : Int) > 0) : [d] = folderL s d x := by
  unfold folderL; rw [if_neg (by omega), if_neg (by omega)]
local macro_rules | `(tactic| walk_at "my ct") => `(tactic| (refine' ct_clear_str _ _ ?z1 _; (case z1 => walk_at "my len")))
local macro_rules | `(tactic| walk_at "my ct") => `(tactic| (refine' ct_clear_bytes _ _ ?z1 _; (case z1 => walk_at "my len")))
theorem ct_kind_str (w : World) (x : List Nat) (t : Tok) : Ct w 2 184 [.str (S x) t, .bool false] (fun t' => .str (S x) t') := by
  unfold Ct
  k_fill
  intro mean mg mb dp un gd cn cs a ccd cl outer A₀ base h₀ L m news s Q E B F X N T hk hd hu hret
  refine wpAny_call ?_
  k_dflt cell_enter
  k_steps
  all_goals walk_at "my end"
  exact str_end rfl
local macro_rules | `(tactic| walk_at "my ct") => `(tactic| (refine' ct_kind_str _ _ _))
theorem ct_last_str (w : World) (x : List Nat) (hx : x.length ≤ 4096) (t : Tok) : Ct w 6 198 [.str (S x) t] (fun t' => .str (S (lastL 47 x)) t') := by
  unfold Ct
  k_fill
  intro mean mg mb dp un gd cn cs a ccd cl outer A₀ base h₀ L m news s Q E B F X N T hk hd hu hret
  refine wpAny_call ?_
  k_dflt cell_enter
  k_steps
  all_goals walk_at "my end"
  all_goals first | exact str_end (last_yes (by assumption)) | exact str_end (last_no (by assumption))
theorem ct_last_bytes (w : World) (x : List UInt8) (hx : x.length ≤ 4096) (t : Tok) : Ct w 6 198 [.bytes x.toArray t] (fun t' => .bytes (lastL 47 x).toArray t') := by
  unfold Ct
  k_fill
  intro mean mg mb dp un gd cn cs a ccd cl outer A₀ base h₀ L m news s Q E B F X N T hk hd hu hret
  refine wpAny_call ?_
  k_dflt cell_enter
  k_steps
  all_goals walk_at "my end"
  all_goals first | exact bytes_end (last_yes (by assumption)) | exact bytes_end (last_no (by assumption))
theorem ct_folder_str (w : World) (x : List Nat) (hx : x.length ≤ 4096) (t : Tok) : Ct w 6 205 [.str (S x) t, .bool false] (fun t' => .str (S (folderL 47 46 x)) t') := by
  unfold Ct
  k_fill
  intro mean mg mb dp un gd cn cs a ccd cl outer A₀ base h₀ L m news s Q E B F X N T hk hd hu hret
  refine wpAny_call ?_
  k_dflt cell_enter
  k_steps
  all_goals walk_at "my end"
  all_goals first | exact str_end (folder_1 (by assumption)) | exact str_end (folder_2 (by assumption) (by assumption)) | exact str_end (folder_3 (by assumption) (by assumption))

end Mine
end

section
open PySem PySem.W PySem.Spec PySem.Calls PyProof.Rows PyProof PyProof.V
set_option Elab.async false
set_option maxRecDepth 100000
set_option linter.unusedSectionVars false
set_option linter.unusedSimpArgs false
set_option linter.unusedVariables false
namespace Mine
section
variable {prog : Program} {w : World} {A : Around} {E : Value → Shared → Prop} {s : Shared} {h₀ : Heap} {L : Addr} {m : PySem.Str → Option Value} {env : Env}
def CompSrcS (prog : Program) (w : World) (A : Around) (h₀ : Heap) (L : Addr) (m : PySem.Str → Option Value) (env : Env) (elt : PySem.Expr) (x : PySem.Str) (scope : Scope) (cl : List (PySem.Str × Addr)) (Fin : Shared → List Value → List (Addr × Obj) → Prop) (xv : Value) (s₁ : Shared) : Prop :=
  ∃ y t news, xv = .str y t ∧ A.handled = none ∧ Fr h₀ L s₁.heap m ∧ News h₀ L s₁.heap news ∧ y.cps.size ≤ sizeLine ∧
    ∀ s₂ : Shared, (∃ h, s₂ = { s₁ with heap := h }) → LCg.CompRest prog w A h₀ L m env elt x scope cl s₂ (fun _ => True) (SignAt y) (Fin s₂) y.cps.size 0 [] news
theorem strit_st {I : Addr} {ty : String} {x : PySem.Str} {t : Tok} : ∀ i (h h' : Heap) (o : Obj) (nw : List (Addr × Obj)), h.IsStrIter I ty x t i → h.get? I = some o → h'.get? I = some o → (∀ b o, h₀.get? b = some o → h'.get? b = some o) → News h₀ L h' nw → True → h'.IsStrIter I ty x t i :=
  fun i h h' o nw st e e' _ _ _ => by
    obtain ⟨o', q, r⟩ := st
    rw [e] at q
    cases q
    exact ⟨o, e', r⟩
theorem ListComp_S {elt iter : PySem.Expr} {x : PySem.Str} {px : Pos} {scope : Scope} {cl : List (PySem.Str × Addr)} {pos : Pos} {Q : Value → Shared → Prop} (F₀ : Fr h₀ L s.heap m)
    (hclos : closureFor scope env = pure cl) (hcell : ∀ y ∈ scope.names, y.2 ≠ .cell) (hkind : scope.kind = .function)
    (hnames : ∀ y ∈ scope.names, y.2 = .local → scope.names.lookup y.1 = some .local) (hx : scope.names.lookup x = some .local)
    (h : wpAny (model prog w) A (eval iter env) (CompSrcS prog w A h₀ L m env elt x scope cl (fun s₂ => LCg.FinE h₀ L m s₂ Q)) E s)
    (hs : ∀ x, foldedSetIterable iter env x = pure x := by intro _; rfl) :
    wpAny (model prog w) A (eval (.ListComp elt [⟨.Name x px, iter, [], 0⟩] scope pos) env) Q E s := by
  rw [eval_ListComp]
  refine wpAny_comprehension_free (use := none) rfl hs hclos hkind hnames (wpAny_mono h (fun xv s₁ h₁ => ?_) fun _ _ e => e)
  obtain ⟨y, t, news, rfl, hh, F, N, hsz, R⟩ := h₁
  cases ha : y.cps.all (· < 128)
  · refine wpAny_pyIter_wide ha ?_
    refine LCg.block_U (Walks.strWide hh _ y t) hsz (fun i h st => by obtain ⟨o, e, _⟩ := st; exact ⟨o, e⟩) strit_st hcell hkind hx ⟨_, Heap.get?_push_size _ rfl, rfl, rfl⟩ (fun b hb => by
          rw [List.mem_singleton.mp hb]
          show s₁.heap.objs.size < (s₁.heap.push _).objs.size
          rw [Heap.size_push]; exact Nat.lt_succ_self _)
        (F.keeps fun _ _ e => Heap.get?_push_of_some _ e) (N.grown fun _ _ e => Heap.get?_push_of_some _ e) (Nat.ne_of_lt F.ns.lt) (next_is_new F) (fun p hp => Nat.ne_of_lt (Heap.lt_size (N p hp).1)) trivial (R _ ⟨_, rfl⟩) ?_
    intro D C h tk m' ys news' F' N' o1 hn hC₀ hD₀ hCL hDL hCD offC fin
    refine ⟨m', hn, fun h'' hs'' => fin D h'' tk (F'.change hs'' hCL hC₀) (fun p hp => ?_) o1⟩
    refine ⟨hs''.extBut _ _ ?_ (N' p hp).1, (N' p hp).2⟩
    rcases List.mem_cons.mp hp with rfl | hp
    · exact Ne.symm hCD
    · exact offC p hp
  · refine wpAny_pyIter_ascii ha ?_
    refine LCg.block_U (Walks.strAscii hh _ y t) hsz (fun i h st => by obtain ⟨o, e, _⟩ := st; exact ⟨o, e⟩) strit_st hcell hkind hx ⟨_, Heap.get?_push_size _ rfl, rfl, rfl⟩ (fun b hb => by
          rw [List.mem_singleton.mp hb]
          show s₁.heap.objs.size < (s₁.heap.push _).objs.size
          rw [Heap.size_push]; exact Nat.lt_succ_self _)
        (F.keeps fun _ _ e => Heap.get?_push_of_some _ e) (N.grown fun _ _ e => Heap.get?_push_of_some _ e) (Nat.ne_of_lt F.ns.lt) (next_is_new F) (fun p hp => Nat.ne_of_lt (Heap.lt_size (N p hp).1)) trivial (R _ ⟨_, rfl⟩) ?_
    intro D C h tk m' ys news' F' N' o1 hn hC₀ hD₀ hCL hDL hCD offC fin
    refine ⟨m', hn, fun h'' hs'' => fin D h'' tk (F'.change hs'' hCL hC₀) (fun p hp => ?_) o1⟩
    refine ⟨hs''.extBut _ _ ?_ (N' p hp).1, (N' p hp).2⟩
    rcases List.mem_cons.mp hp with rfl | hp
    · exact Ne.symm hCD
    · exact offC p hp
def TurnP (h₀ : Heap) (L : Addr) (m : PySem.Str → Option Value) (s : Shared) (nl : List (Addr × Obj)) (R : Value → Prop) (y : Value) (s₂ : Shared) : Prop := ∃ h' tk', s₂ = { s with heap := h', toks := tk' } ∧ Fr h₀ L h' m ∧ News h₀ L h' nl ∧ R y
theorem turnP {m : PySem.Str → Option Value} {s : Shared} {nl : List (Addr × Obj)} {R : Value → Prop} {y : Value} {h' : Heap} {tk' : Nat} (F : Fr h₀ L h' m) (N : News h₀ L h' nl) (r : R y) : TurnP h₀ L m s nl R y { s with heap := h', toks := tk' } := ⟨h', tk', rfl, F, N, r⟩
theorem comp_rest {elt : PySem.Expr} {x : PySem.Str} {scope : Scope} {cl : List (PySem.Str × Addr)} {S : List (Addr × Obj) → Prop} {P : Nat → Value → Prop} {Fin : List Value → List (Addr × Obj) → Prop} {news : List (Addr × Obj)} {n : Nat} (R : Nat → Value → Prop)
    (turn : ∀ i v I oI C oC D m₂ ys h tk (E' : Value → Shared → Prop), i < n → P i v → LCg.NsObj oC m₂ → m₂ x = some v → Fr h₀ L h m → News h₀ L h ((I, oI) :: (C, oC) :: (D, LCg.lst ys) :: news) → LCg.Off3 I C D news →
      wpAny (model prog w) A (eval elt (compEnvC scope cl C env)) (TurnP h₀ L m s ((I, oI) :: (C, oC) :: (D, LCg.lst ys) :: news) (R i)) E' { s with heap := h, toks := tk })
    (hS : S news) (fin : ∀ ys, ys.length = n → (∀ i y, ys[i]? = some y → R i y) → Fin ys news) : LCg.CompRest prog w A h₀ L m env elt x scope cl s S P Fin n 0 [] news := by
  have key : ∀ (j i : Nat) (ys : List Value), i + j = n → ys.length = i → (∀ k y, ys[k]? = some y → R k y) → LCg.CompRest prog w A h₀ L m env elt x scope cl s S P Fin j i ys news := by
    intro j
    induction j with
    | zero => intro i ys hi hl hr; exact LCg.CompRest.zero (fin ys (by omega) hr)
    | succ j ih =>
      intro i ys hi hl hr
      refine LCg.CompRest.succ ?_
      intro v I oI C oC D m₂ h tk E' hv hC hx F N off ne
      refine wpAny_mono (turn i v I oI C oC D m₂ ys h tk E' (by omega) hv hC hx F N off) (fun y s₂ hq => ?_) fun _ _ e => e
      obtain ⟨h', tk', e, F', N', hy⟩ := hq
      refine ⟨h', tk', news, e, F', N', off, hS, ih (i + 1) _ (by omega) (by simp [hl]) ?_⟩
      intro k z hz
      rw [List.getElem?_append] at hz
      split at hz
      · exact hr k z hz
      · have hk : k - ys.length = 0 := by
          rcases Nat.eq_zero_or_pos (k - ys.length) with h | h
          · exact h
          · rw [List.getElem?_eq_none (by simp only [List.length_singleton]; exact h)] at hz; cases hz
        rw [hk] at hz
        have : z = y := by simpa using hz.symm
        rw [this, show k = i by omega]
        exact hy
  exact key n 0 [] (by omega) rfl (by intro k y h; simp at h)
theorem ords_are {x : List Nat} {ys : List Value} (hl : ys.length = x.length) (hr : ∀ i y, ys[i]? = some y → ∃ u, y = Value.int ((x.getD i 0 : Nat) : Int) u) : IntsAre ys (x.map Int.ofNat) := by
  induction x generalizing ys with
  | nil =>
    have : ys = [] := List.length_eq_zero_iff.mp hl
    subst this
    exact .nil
  | cons c r ih =>
    cases ys with
    | nil => simp at hl
    | cons y z =>
      obtain ⟨u, hu⟩ := hr 0 y rfl
      rw [hu]
      exact .cons _ u (ih (by simpa using hl) fun i q hq => by simpa using hr (i + 1) q (by simpa using hq))
theorem byteArr_map {x : List Nat} : byteArr (x.map Int.ofNat) = (x.map UInt8.ofNat).toArray := by
  unfold byteArr
  simp [Function.comp_def]
theorem bytes_of_ords {Q : Value → Shared → Prop} {D : Addr} {ys : List Value} {x : List Nat} {news : List (Addr × Obj)} (F : Fr h₀ L s.heap m) (N : News h₀ L s.heap ((D, LCg.lst ys) :: news)) (hh : A.handled = none) (hl : ys.length = x.length) (hr : ∀ i y, ys[i]? = some y → ∃ u, y = Value.int ((x.getD i 0 : Nat) : Int) u) (hc : ∀ c ∈ x, c < 256) (hz : x.length ≤ 4096)
    (h : ∀ h' t' k, Fr h₀ L h' m → News h₀ L h' news → Q (.bytes (x.map UInt8.ofNat).toArray t') { s with heap := h', toks := k }) : wpAny (model prog w) A (call (.type "bytes") [.ref D]) Q E s := by
  refine call_bytes_ints (News.isList N (List.mem_cons_self ..)) (ords_are hl hr) ?_ (by rw [hl, sizeLine_eq]; omega) hh fun h' t k hk => ?_
  · intro n hn
    obtain ⟨c, hc1, rfl⟩ := List.mem_map.mp hn
    have := hc c hc1
    constructor
    · exact Int.natCast_nonneg _
    · show (c : Int) < 256
      omega
  · rw [byteArr_map]
    exact h h' t k (F.keptAll hk) (News.grown (show News h₀ L s.heap news from fun p hp => N p (List.mem_cons_of_mem _ hp)) hk)
end
end Mine
end

section
open PySem PySem.W PySem.Spec PySem.Calls PyProof.Rows
set_option Elab.async false
set_option maxRecDepth 100000
set_option maxHeartbeats 4000000
set_option linter.unusedVariables false
namespace Mine
local macro_rules | `(tactic| walk_at "my lit") => `(tactic| first | with_reducible exact lit_slash | with_reducible exact lit_dot | with_reducible exact lit_dots | with_reducible exact lit_nil | with_reducible exact lit_two | with_reducible exact lit_u1 | with_reducible exact lit_u2 | with_reducible exact lit_u3 | with_reducible exact lit_u4 | with_reducible exact lit_u5 | with_reducible rfl)
local macro_rules | `(tactic| walk_at "my len") => `(tactic| first | assumption | ((try simp only [List.length_take, List.length_drop, List.length_replicate, List.length_cons, List.length_nil, List.length_append]); omega) | (refine Nat.le_trans (rsL_len _ _) ?_; first | assumption | ((try simp only [List.length_take, List.length_drop, List.length_replicate, List.length_cons, List.length_nil, List.length_append]); omega)))
local macro_rules | `(tactic| walk_at "my cut") => `(tactic| with_reducible first | exact cut_drop_at _ _ | exact cut_take_at _ _ | exact cut_take_1 _ | exact cut_take_2 _ | exact cut_drop_1 _ | exact cut_drop_2 _ | exact cut_mid_12 _ | exact cut_mid_23 _ | exact cut_init _ | exact cut_final _)
local macro_rules | `(tactic| walk_at "call builtin:issubclass") => `(tactic| (k_here; k_dflt (first
  | (refine' call_iss iss_str (kitTp_N ?k1 ?k2) ?_; (case k1 => k_asm); (case k2 => k_mem); k_whole)
  | (refine' call_iss iss_bytes (kitTp_N ?k1 ?k2) ?_; (case k1 => k_asm); (case k2 => k_mem); k_whole)); intro _; (try dsimp only)))
local macro_rules | `(tactic| walk_at "call type:type") => `(tactic| ((with_reducible show wpAny _ _ (call _ [Value.bytes _ _]) _ _ _); refine call_type_of (Tx := "bytes") rfl (by decide +kernel) ?_))
local macro_rules | `(tactic| walk_at "call builtin:str.rfind") => `(tactic| (k_here; k_dflt (refine' r_rfind ?k1 ?k2 ?_; (case k1 => walk_at "my lit"); (case k2 => walk_at "my lit"); k_whole); intro _ _))
local macro_rules | `(tactic| walk_at "call builtin:str.rstrip") => `(tactic| (k_here; k_dflt (refine' r_rstrip ?k1 ?k2 ?k3 ?_; (case k1 => walk_at "my lit"); (case k2 => walk_at "my lit"); (case k3 => walk_at "my len"); k_whole); intro _ _))
local macro_rules | `(tactic| walk_at "call builtin:str.lstrip") => `(tactic| (k_here; k_dflt (refine' r_lstrip ?k1 ?k2 ?k3 ?_; (case k1 => walk_at "my lit"); (case k2 => walk_at "my lit"); (case k3 => walk_at "my len"); k_whole); intro _ _))
local macro_rules | `(tactic| walk_at "call builtin:str.strip") => `(tactic| (k_here; k_dflt (refine' r_strip ?k1 ?k2 ?k3 ?_; (case k1 => walk_at "my lit"); (case k2 => walk_at "my lit"); (case k3 => walk_at "my len"); k_whole); intro _ _))
local macro_rules | `(tactic| walk_at "call builtin:str.startswith") => `(tactic| (k_here; k_dflt (refine' r_starts ?k1 ?k2 ?_; (case k1 => walk_at "my lit"); (case k2 => walk_at "my lit"); k_whole)))
local macro_rules | `(tactic| walk_at "call builtin:str.endswith") => `(tactic| (k_here; k_dflt (refine' r_ends ?k1 ?k2 ?_; (case k1 => walk_at "my lit"); (case k2 => walk_at "my lit"); k_whole)))
local macro_rules | `(tactic| walk_at "binaryOp Mult str int") => `(tactic| (k_here; k_dflt (refine' r_mul ?k1 ?k3 ?_; (case k1 => walk_at "my lit"); (case k3 => walk_at "my len"); k_whole); intro _ _))
local macro_rules | `(tactic| walk_at "compareOp Eq str str") => `(tactic| (k_here; k_dflt (refine' r_eq ?k1 ?k2 ?_; (case k1 => walk_at "my lit"); (case k2 => walk_at "my lit"); k_whole)))
local macro_rules | `(tactic| walk_at "compareOp NotEq str str") => `(tactic| (k_here; k_dflt (refine' r_ne ?k1 ?k2 ?_; (case k1 => walk_at "my lit"); (case k2 => walk_at "my lit"); k_whole)))
local macro_rules | `(tactic| walk_at "compareOp NotIn str str") => `(tactic| (k_here; k_dflt (refine' r_notin ?k1 ?k2 ?_; (case k1 => walk_at "my lit"); (case k2 => walk_at "my lit"); k_whole)))
local macro_rules | `(tactic| walk_at "truthy str") => `(tactic| (k_here; k_dflt (refine' r_truthy ?k1 ?k3 ?_; (case k1 => walk_at "my lit"); (case k3 => walk_at "my len"); k_whole); intro _))
local macro_rules | `(tactic| walk_at "call builtin:len") => `(tactic| (k_here; (with_reducible show wpAny _ _ (call _ [Value.str _ _]) _ _ _); k_dflt (refine' r_len ?k1 ?k3 ?_; (case k1 => walk_at "my lit"); (case k3 => walk_at "my len"); k_whole); intro _ _))
local macro_rules | `(tactic| walk_at "binaryOp Add str str") => `(tactic| (k_here; k_dflt (refine' r_add ?k1 ?k2 ?k3 ?_; (case k1 => walk_at "my lit"); (case k2 => walk_at "my lit"); (case k3 => walk_at "my len"); k_whole); intro _ _))
local macro_rules | `(tactic| walk_at "inplaceOp Add str str") => `(tactic| (k_here; k_dflt (refine' r_iadd ?k1 ?k2 ?k3 ?_; (case k1 => walk_at "my lit"); (case k2 => walk_at "my lit"); (case k3 => walk_at "my len"); k_whole); intro _ _))
local macro_rules | `(tactic| walk_at "subscriptTail Name Slice str ref") => `(tactic| (k_here; (with_reducible show wpAny _ _ (subscriptTail _ (Expr.Slice none (some _) none _) (Value.str _ _) (Value.ref _)) _ _ _); (with_reducible rename Fr _ _ _ _ => F'); (with_reducible rename News _ _ _ _ => N'); k_dflt (refine' r_slice_ns (s := ⟨_, _, _, _, _⟩) F' N' ?k1 ?k2 ?k3 ?_; (case k1 => walk_at "my lit"); (case k2 => walk_at "my cut"); (case k3 => walk_at "my len"); k_whole); intro _ _ _ F9 N9))
local macro_rules | `(tactic| walk_at "subscriptTail Name Slice str ref") => `(tactic| (k_here; (with_reducible show wpAny _ _ (subscriptTail _ (Expr.Slice (some _) none none _) (Value.str _ _) (Value.ref _)) _ _ _); (with_reducible rename Fr _ _ _ _ => F'); (with_reducible rename News _ _ _ _ => N'); k_dflt (refine' r_slice_sn (s := ⟨_, _, _, _, _⟩) F' N' ?k1 ?k2 ?k3 ?_; (case k1 => walk_at "my lit"); (case k2 => walk_at "my cut"); (case k3 => walk_at "my len"); k_whole); intro _ _ _ F9 N9))
local macro_rules | `(tactic| walk_at "subscriptTail Name Slice str ref") => `(tactic| (k_here; (with_reducible show wpAny _ _ (subscriptTail _ (Expr.Slice (some _) (some _) none _) (Value.str _ _) (Value.ref _)) _ _ _); (with_reducible rename Fr _ _ _ _ => F'); (with_reducible rename News _ _ _ _ => N'); k_dflt (refine' r_slice_ss (s := ⟨_, _, _, _, _⟩) F' N' ?k1 ?k2 ?k3 ?_; (case k1 => walk_at "my lit"); (case k2 => walk_at "my cut"); (case k3 => walk_at "my len"); k_whole); intro _ _ _ F9 N9))
local macro_rules | `(tactic| walk_at "subscriptTail") => `(tactic| (k_here; (with_reducible show wpAny _ _ (subscriptTail _ (Expr.Slice _ _ none _) (Value.bytes _ _) (Value.ref _)) _ _ _); (with_reducible rename Fr _ _ _ _ => F'); (with_reducible rename News _ _ _ _ => N'); k_dflt (refine' slice_bytes (s := ⟨_, _, _, _, _⟩) F' N' ?k4 ?k5 ?k3 ?k2 ?_; (case k4 => first | exact IsPart.none | exact IsPart.int _ _); (case k5 => first | exact IsPart.none | exact IsPart.int _ _); (case k3 => first | (walk_at "my len") | (refine Nat.le_trans (m := 4096) ?_ (by decide); walk_at "my len")); (case k2 => walk_at "my cut"); k_whole); intro _ _ _ F9 N9))
local macro_rules | `(tactic| walk_at "getMethod bytes") => `(tactic| (k_here; (with_reducible first | refine meth_bytes_rfind ?_ | refine meth_bytes_rstrip ?_ | refine meth_bytes_split ?_ | refine meth_bytes_join ?_ | refine meth_bytes_startswith ?_ | refine meth_bytes_endswith ?_)))
local macro_rules | `(tactic| walk_at "call builtin:bytes.rfind") => `(tactic| (k_here; k_dflt (refine rfind_bytes ?_); intro _ _))
local macro_rules | `(tactic| walk_at "call builtin:bytes.rstrip") => `(tactic| (k_here; k_dflt (refine' rstrip_bytes ?k3 ?_; (case k3 => (refine Nat.le_trans (m := 4096) ?_ (by decide); walk_at "my len")); k_whole); intro _ _))
local macro_rules | `(tactic| walk_at "call builtin:bytes.startswith") => `(tactic| (k_here; k_dflt (refine startswith_bytes ?_); intro _))
local macro_rules | `(tactic| walk_at "call builtin:bytes.endswith") => `(tactic| (k_here; k_dflt (refine endswith_bytes ?_); intro _))
local macro_rules | `(tactic| walk_at "compareOp Eq bytes bytes") => `(tactic| (k_here; k_dflt (refine b_eq ?_)))
local macro_rules | `(tactic| walk_at "compareOp NotEq bytes bytes") => `(tactic| (k_here; k_dflt (refine b_ne ?_)))
local macro_rules | `(tactic| walk_at "truthy bytes") => `(tactic| (k_here; k_dflt (refine' b_truthy ?k3 ?_; (case k3 => walk_at "my len"); k_whole); intro _))
local macro_rules | `(tactic| walk_at "call builtin:len") => `(tactic| (k_here; (with_reducible show wpAny _ _ (call _ [Value.bytes _ _]) _ _ _); k_dflt (refine' b_len ?k3 ?_; (case k3 => walk_at "my len"); k_whole); intro _ _))
local macro_rules | `(tactic| walk_at "binaryOp Add bytes bytes") => `(tactic| (k_here; k_dflt (refine' b_add ?k3 ?_; (case k3 => walk_at "my len"); k_whole); intro _ _))
local macro_rules | `(tactic| walk_at "binaryOp Mult bytes int") => `(tactic| (k_here; k_dflt (refine' mul_bytes ?k4 ?k3 ?_; (case k4 => walk_at "my pos"); (case k3 => walk_at "my len"); k_whole); intro _ _))
local macro_rules | `(tactic| walk_at "my pos") => `(tactic| exact List.length_pos_iff.mpr (by assumption))
local macro_rules | `(tactic| walk_at "my ct") => `(tactic| exact ct_fspath_str _ _ _)
local macro_rules | `(tactic| walk_at "my ct") => `(tactic| exact ct_fspath_bytes _ _ _)
local macro_rules | `(tactic| walk_at "my ct") => `(tactic| exact ct_get_sep_str _ _ _)
local macro_rules | `(tactic| walk_at "my ct") => `(tactic| exact ct_get_sep_bytes _ _ _)
local macro_rules | `(tactic| walk_at "call ref") => `(tactic| (k_here; k_dflt (refine' ct_use ?C ?k1 ?k2 ?k3 ?k4 ?k5 ?kK ?kd ?ku ?_; (case C => walk_at "my ct"); (case k1 => k_asm); (case k2 => k_asm); (case k3 => k_asm); (case k4 => k_asm); (case k5 => k_asm); (case kK => first | exact rfl | assumption); (case kd => ktr_room); (case ku => ktr_units); k_whole); intro t9 h9 tk9 F9 N9; (try dsimp only); (try k_fold)))
local macro_rules | `(tactic| walk_at "my end") => `(tactic| (refine' ct_ret ?e0 ?e1 ?e2 ?e3 ?_; (case e0 => assumption); (case e1 => k_asm); (case e2 => k_asm); (case e3 => kcj_all)))
local macro_rules | `(tactic| walk_at "my endT") => `(tactic| (refine' ctT_ret ?e0 ?e1 ?e2 ?e3 ?e4 ?_; (case e0 => assumption); (case e1 => k_asm); (case e2 => k_asm); (case e3 => k_mem); (case e4 => kcj_all)))
local macro_rules | `(tactic| walk_at "my turn1") => `(tactic| (refine' InvEndN.intro ?F ?N ⟨rfl, _, ?_, ?rf, ?same⟩ rfl ?hn ?ho; (case F => k_asm); (case N => k_asm); (case rf => with_unfolding_all rfl); (case same => intro z h1 h2; simp [h1, h2]); (case hn => intro p hp; simp [hp]); (case ho => intro p hp; simp [hp])))
local macro_rules | `(tactic| walk_at "inplaceOp Add bytes bytes") => `(tactic| (k_here; k_dflt (refine' b_iadd ?k3 ?_; (case k3 => walk_at "my len"); k_whole); intro _ _))
local macro_rules | `(tactic| walk_at "call ref") => `(tactic| (k_here; k_dflt (refine' ctT_use ?C ?k1 ?k2 ?k3 ?k4 ?k5 ?kK ?kd ?ku ?_; (case C => walk_at "my ctT"); (case k1 => k_asm); (case k2 => k_asm); (case k3 => k_asm); (case k4 => k_asm); (case k5 => k_asm); (case kK => first | exact rfl | assumption); (case kd => ktr_room); (case ku => ktr_units); k_whole); intro q9 t7 t8 t9 h9 tk9 F9 N9; (try dsimp only); (try k_fold)))
local macro_rules | `(tactic| walk_at "my len") => `(tactic| exact Nat.le_trans (restL_len _ _) (by assumption))
local macro_rules | `(tactic| walk_at "call builtin:str.split") => `(tactic| (k_here; (with_reducible rename Fr _ _ _ _ => F'); (with_reducible rename News _ _ _ _ => N'); k_dflt (refine' r_split2 F' N' ?k1 ?k2 ?k3 ?_; (case k1 => walk_at "my lit"); (case k2 => walk_at "my lit"); (case k3 => walk_at "my len"); k_whole); intro _ _ _ hV9 hD9 F9 N9))
local macro_rules | `(tactic| walk_at "call builtin:bytes.split") => `(tactic| (k_here; (with_reducible rename Fr _ _ _ _ => F'); (with_reducible rename News _ _ _ _ => N'); k_dflt (refine' b_split2 F' N' ?k3 ?_; (case k3 => walk_at "my len"); k_whole); intro _ _ _ hV9 hD9 F9 N9))
local macro_rules | `(tactic| walk_at "truthy ref") => `(tactic| (k_here; k_dflt (refine' l_truthy ?N ?hm ?hV ?hz ?_; (case N => k_asm); (case hm => k_mem); (case hV => assumption); (case hz => assumption); k_whole); intro _))
local macro_rules | `(tactic| walk_at "subscriptTail Name UnaryOp ref int") => `(tactic| (k_here; k_dflt (refine' l_last (mk := mkS) ?N ?hm ?hV ?hz ?_; (case N => k_asm); (case hm => k_mem); (case hV => assumption); (case hz => assumption); k_whole); intro _; (try dsimp only [mkS])))
local macro_rules | `(tactic| walk_at "subscriptTail Name UnaryOp ref int") => `(tactic| (k_here; k_dflt (refine' l_last (mk := mkB) ?N ?hm ?hV ?hz ?_; (case N => k_asm); (case hm => k_mem); (case hV => assumption); (case hz => assumption); k_whole); intro _; (try dsimp only [mkB])))
local macro_rules | `(tactic| walk_at "call builtin:list.append") => `(tactic| (k_here; k_dflt (refine' l_append (mk := mkS) ?F ?N ?hu ?hV ?hz ?_; (case F => k_asm); (case N => k_asm); (case hu => assumption); (case hV => assumption); (case hz => assumption); k_whole); intro _ F9 N9 hV9))
local macro_rules | `(tactic| walk_at "call builtin:list.append") => `(tactic| (k_here; k_dflt (refine' l_append (mk := mkB) ?F ?N ?hu ?hV ?hz ?_; (case F => k_asm); (case N => k_asm); (case hu => assumption); (case hV => assumption); (case hz => assumption); k_whole); intro _ F9 N9 hV9))
local macro_rules | `(tactic| walk_at "call builtin:list.pop") => `(tactic| (k_here; k_dflt (refine' l_pop ?F ?N ?hu ?hV ?hne ?hz ?_; (case F => k_asm); (case N => k_asm); (case hu => assumption); (case hV => assumption); (case hne => assumption); (case hz => assumption); k_whole); intro _ _ F9 N9 hV9))
local macro_rules | `(tactic| walk_at "call builtin:str.join") => `(tactic| (k_here; k_dflt (refine' r_join ?k1 ?hl ?hV ?hz ?_; (case k1 => walk_at "my lit"); (case hl => exact News.isList (by k_asm) (by k_mem)); (case hV => assumption); (case hz => assumption); k_whole); intro _ _))
local macro_rules | `(tactic| walk_at "call builtin:bytes.join") => `(tactic| (k_here; k_dflt (refine' join_bytes ?hl ?hV ?hz ?_; (case hl => exact News.isList (by k_asm) (by k_mem)); (case hV => assumption); (case hz => exact Nat.le_trans (m := 16384) (by assumption) (by decide)); k_whole); intro _ _))
local macro_rules | `(tactic| walk_at "my step") => `(tactic| first | rw [step_skip1 (by assumption)] | rw [step_skip2 (by assumption)] | rw [step_none (by assumption) (by assumption) (by assumption) (by assumption) (by assumption)] | rw [step_pop (by assumption) (by assumption) (by assumption) (by assumption) (by assumption)] | rw [step_push (by assumption) (by assumption) (by first | exact .inl (by assumption) | exact .inr (.inl ⟨Decidable.not_not.mp (by assumption), Decidable.not_not.mp (by assumption)⟩) | exact .inr (.inr ⟨by assumption, by assumption⟩))])
local macro_rules | `(tactic| walk_at "my turn2") => `(tactic| (refine' InvEndN.intro ?F ?N ⟨_, _, rfl, ?V, ?same⟩ rfl ?hn ?ho; (case F => k_asm); (case N => k_asm); (case V => assumption); (case same => intro z h1; simp [h1]); (case hn => exact turn2_hn); (case ho => exact turn2_ho)))
local macro_rules | `(tactic| walk_at "my len") => `(tactic| first | assumption | exact Nat.le_trans (base_len _ _) (by walk_at "my len") | exact Nat.le_trans (dir_len _ _) (by walk_at "my len") | exact Nat.le_trans (clear_len _ _) (by walk_at "my len") | exact Nat.le_trans (rootL_len _ _) (by decide))
local macro_rules | `(tactic| walk_at "my ctT") => `(tactic| (refine' ct_splitroot_str _ _ ?z1 _; (case z1 => walk_at "my len")))
local macro_rules | `(tactic| walk_at "my ctT") => `(tactic| (refine' ct_splitroot_bytes _ _ ?z1 _; (case z1 => walk_at "my len")))
local macro_rules | `(tactic| walk_at "my ct") => `(tactic| (refine' ct_basename_str _ _ ?z1 _; (case z1 => walk_at "my len")))
local macro_rules | `(tactic| walk_at "my ct") => `(tactic| (refine' ct_basename_bytes _ _ ?z1 _; (case z1 => walk_at "my len")))
local macro_rules | `(tactic| walk_at "my ct") => `(tactic| (refine' ct_dirname_str _ _ ?z1 _; (case z1 => walk_at "my len")))
local macro_rules | `(tactic| walk_at "my ct") => `(tactic| (refine' ct_dirname_bytes _ _ ?z1 _; (case z1 => walk_at "my len")))
local macro_rules | `(tactic| walk_at "my ct") => `(tactic| (refine' ct_join_str _ _ _ ?z1 ?z2 _ _; (case z1 => walk_at "my len"); (case z2 => walk_at "my len")))
local macro_rules | `(tactic| walk_at "my ct") => `(tactic| (refine' ct_join_bytes _ _ _ ?z1 ?z2 _ _; (case z1 => walk_at "my len"); (case z2 => walk_at "my len")))
local macro_rules | `(tactic| walk_at "my ct") => `(tactic| (refine' ct_clear_str _ _ ?z1 _; (case z1 => walk_at "my len")))
local macro_rules | `(tactic| walk_at "my ct") => `(tactic| (refine' ct_clear_bytes _ _ ?z1 _; (case z1 => walk_at "my len")))
local macro_rules | `(tactic| walk_at "eval ListComp") => `(tactic| (k_here; k_dflt (refine ListComp_S (F₀ := by k_asm) (by with_unfolding_all rfl) (by decide) (by rfl) (by decide) (by rfl) ?_)))
local macro_rules | `(tactic| walk_at "call type:bytes") => `(tactic| (k_here; (refine' bytes_of_ords ?F ?N rfl ?l ?r ?c ?z ?_; (case F => k_asm); (case N => k_asm); (case l => assumption); (case r => assumption); (case c => assumption); (case z => assumption)); intro _ _ _ _ _))
local macro_rules | `(tactic| walk_at "my comp") => `(tactic| (refine turnP ?cF ?cN ?_; (case cF => k_asm); (case cN => k_asm)))
theorem ord_get {x : List Nat} {i c : Nat} (h : (S x).cps[i]? = some c) : x.getD i 0 = c := by
  have h2 : x[i]? = some c := by simpa [S] using h
  rw [List.getD_eq_getElem?_getD, h2]; rfl
theorem ct_kind_bytes (w : World) (x : List Nat) (hx : x.length ≤ 4096) (hc : ∀ c ∈ x, c < 256) (t : Tok) : Ct w 2 184 [.str (S x) t, .bool true] (fun t' => .bytes (x.map UInt8.ofNat).toArray t') := by
  unfold Ct
  k_fill
  intro mean mg mb dp un gd cn cs a ccd cl outer A₀ base h₀ L m news s Q E B F X N T hk hd hu hret
  refine wpAny_call ?_
  k_dflt cell_enter
  k_steps
  rename Fr _ _ _ _ => lF
  rename News _ _ _ _ => lN
  refine ⟨_, _, _, rfl, rfl, lF, lN, ?_, ?_⟩
  · rw [sizeLine_eq]; show x.length ≤ _; omega
  rintro s₂ ⟨g, rfl⟩
  refine comp_rest (fun i y => ∃ u, y = Value.int ((x.getD i 0 : Nat) : Int) u) ?turn trivial ?fin
  case turn =>
    intro i v I oI C oC D m₂ ys h tk E' hi hv hC hx9 F9 N9 off
    obtain ⟨c, u, hc9, rfl⟩ := hv
    clear lF lN
    k_steps
    all_goals walk_at "my comp"
    exact ⟨_, by rw [ord_get hc9]⟩
  intro ys hl hr D' h' tk' F9 N9 o1
  clear lF lN
  k_steps

  all_goals walk_at "my end"
  exact bytes_end rfl
theorem ct_kind_slit (w : World) (x : List Nat) (q : PySem.Str) (e : q = S x) (t : Tok) : Ct w 2 184 [.str q t, .bool false] (fun t' => .str (S x) t') := by
  subst e
  exact ct_kind_str w x t
theorem ct_kind_blit (w : World) (x : List Nat) (q : PySem.Str) (e : q = S x) (hx : x.length ≤ 4096) (hc : ∀ c ∈ x, c < 256) (t : Tok) : Ct w 2 184 [.str q t, .bool true] (fun t' => .bytes (x.map UInt8.ofNat).toArray t') := by
  subst e
  exact ct_kind_bytes w x hx hc t
local macro_rules | `(tactic| walk_at "my ct") => `(tactic| (refine' ct_kind_slit _ _ _ ?e _; (case e => walk_at "my lit")))
local macro_rules | `(tactic| walk_at "my ct") => `(tactic| (refine' ct_kind_blit _ _ _ ?e ?z1 ?z2 _; (case e => walk_at "my lit"); (case z1 => first | assumption | decide); (case z2 => first | assumption | decide)))
theorem dot_map : ([46] : List Nat).map UInt8.ofNat = [46] := by decide
theorem ct_folder_bytes (w : World) (x : List UInt8) (hx : x.length ≤ 4096) (t : Tok) : Ct w 6 205 [.bytes x.toArray t, .bool true] (fun t' => .bytes (folderL 47 46 x).toArray t') := by
  unfold Ct
  k_fill
  intro mean mg mb dp un gd cn cs a ccd cl outer A₀ base h₀ L m news s Q E B F X N T hk hd hu hret
  refine wpAny_call ?_
  k_dflt cell_enter
  k_steps
  all_goals walk_at "my end"
  all_goals first | exact bytes_end (folder_1 (by assumption)) | exact bytes_end (folder_2 (by assumption) (by assumption)) | (rw [dot_map]; exact bytes_end (folder_3 (by assumption) (by assumption)))

end Mine
end

section
open PySem PySem.W PySem.Spec PySem.Calls PyProof.Rows PyProof PyProof.V
set_option Elab.async false
set_option maxRecDepth 100000
set_option linter.unusedSectionVars false
set_option linter.unusedSimpArgs false
set_option linter.unusedVariables false
namespace Mine
section
variable {prog : Program} {w : World} {A : Around} {E : Value → Shared → Prop} {s : Shared}
theorem r_item {value slice : PySem.Expr} {x : PySem.Str} {t u : Tok} {Q : Value → Shared → Prop} {a : List Nat} {i : Int} (hx : x = S a) (h0 : 0 ≤ i) (h1 : i < (a.length : Int)) (hz : a.length ≤ 4096)
    (h : ∀ c t' k, a[i.toNat]? = some c → Q (.str (S [c]) t') { s with toks := k })
    (hs : subscripted slice false (.str x t) (.int i u) = operate [.str x t, .int i u] (getItem (.str x t) (.int i u)) := by with_unfolding_all rfl)
    (ht : ∀ r, letTemporaryGo value (.str x t) r = pure () := by intro _; with_unfolding_all rfl) :
    wpAny (model prog w) A (subscriptTail value slice (.str x t) (.int i u)) Q E s := by
  subst hx
  have hl : i.toNat < a.length := by omega
  have hn : (S a).cps[i.toNat]? = some a[i.toNat] := by simp [S, hl]
  refine item_str (fitsSsize_of (N := 9223372036854775808) (by omega) (by omega) (Int.le_refl _)) (by show -((a.length : Nat) : Int) ≤ i; omega) (by show i < ((a.length : Nat) : Int); omega) (fun _ => ?_) hs ht
  rw [item_meets h0 hn]
  exact h _ _ _ (by simp [hl])
end
section
variable {α : Type} [DecidableEq α] {s : α}
theorem back_free {l : List α} {i : Int} {c : α} (h0 : 0 < i) (h1 : i ≤ (l.length : Int)) (hf : s ∉ l.drop i.toNat) (hc : l[(i - 1).toNat]? = some c) (hne : c ≠ s) : s ∉ l.drop (i - 1).toNat := by
  obtain ⟨h2, h3⟩ := List.getElem?_eq_some_iff.mp hc
  have e := List.getElem_cons_drop h2
  rw [h3, show (i - 1).toNat + 1 = i.toNat by omega] at e
  rw [← e]
  simp only [List.mem_cons, not_or]
  exact ⟨fun h => hne h.symm, hf⟩
theorem back_pos {l : List α} {i : Int} (h0 : 0 ≤ i) (hin : s ∈ l) (hf : s ∉ l.drop i.toNat) : 0 < i := by
  rcases Int.lt_or_le 0 i with h | h
  · exact h
  · have : i.toNat = 0 := by omega
    rw [this] at hf
    exact absurd hin hf
theorem cut_drop_int (l : List α) {i : Int} (h : 0 ≤ i) : cutL l (some i) none = l.drop i.toNat := cut_drop l i.toNat (by omega)
theorem cut_take_int (l : List α) {i : Int} (h : 0 ≤ i) : cutL l none (some i) = l.take i.toNat := cut_take l i.toNat (by omega)
theorem base_at0 {l : List α} {i : Int} (h0 : 0 ≤ i) (h1 : i ≤ (l.length : Int)) (hf : s ∉ l.drop i.toNat) (h : ¬ i > 0) : l.drop i.toNat = baseL s l := base_steps (by omega) hf (.inl (by omega))
theorem base_at1 {l : List α} {i : Int} {c : α} (h0 : 0 ≤ i) (h1 : i ≤ (l.length : Int)) (hf : s ∉ l.drop i.toNat) (h : i > 0) (hc : l[(i - 1).toNat]? = some c) (he : c = s) : l.drop i.toNat = baseL s l := base_steps (by omega) hf (.inr (by rw [← he, ← hc]; congr 1; omega))
theorem head_at1 {l : List α} {i : Int} {c : α} (h1 : i ≤ (l.length : Int)) (hf : s ∉ l.drop i.toNat) (h : 0 < i) (hc : l[(i - 1).toNat]? = some c) (he : c = s) : l.take i.toNat = headL s l := head_steps (by omega) hf (.inr (by rw [← he, ← hc]; congr 1; omega))
theorem clean_next {c x : List α} (h1 : rsL s c = rsL s x) (h2 : c.length ≤ 4096) (h : c.drop (c.length - 1) = [s]) : rsL s (c.take (c.length - 1)) = rsL s x ∧ (c.take (c.length - 1)).length ≤ 4096 :=
  ⟨by rw [rs_take (show endsL s c from h)]; exact h1, by simp only [List.length_take]; omega⟩
theorem clean_less {c : List α} (h : c.drop (c.length - 1) = [s]) : (c.take (c.length - 1)).length < c.length := by
  have : c.length ≠ 0 := by
    intro e
    rw [List.length_eq_zero_iff.mp e] at h
    simp at h
  simp only [List.length_take]
  omega
theorem clean_end {c x : List α} (h1 : rsL s c = rsL s x) (h : ¬ c.drop (c.length - 1) = [s]) : c = rsL s x := (rs_stop (show ¬ endsL s c from h)).symm.trans h1
end
section
variable {x : List Nat}
theorem bs1 (h : x = []) : x = lastL 47 x := by rw [last_steps, if_pos (.inl h)]
theorem bs2 (h : x = [47, 47]) : x = lastL 47 x := by rw [last_steps, if_pos (.inr h)]
theorem bs3 (h1 : ¬ x = []) (h2 : ¬ x = [47, 47]) (h3 : stripL x = []) : [47] = lastL 47 x := by
  rw [last_steps, if_neg (by rintro (h | h); exact h1 h; exact h2 h), if_pos ((stripL_nil x).mp h3)]
theorem bs4 {y : List Nat} (e : y = baseL 47 (rsL 47 x)) (h1 : ¬ x = []) (h2 : ¬ x = [47, 47]) (h3 : ¬ stripL x = []) : y = lastL 47 x := by
  rw [last_steps, if_neg (by rintro (h | h); exact h1 h; exact h2 h), if_neg (fun h => h3 ((stripL_nil x).mpr h))]
  exact e
theorem fs1 (h : x = [47, 47]) : x = folderL 47 46 x := by rw [folder_steps (by decide), if_pos h]
theorem fs2 (h : ¬ x = [47, 47]) (h1 : x ≠ []) (h2 : stripL x = []) : [47] = folderL 47 46 x := by
  rw [folder_steps (by decide), if_neg h, if_pos ⟨h1, (stripL_nil x).mp h2⟩]
theorem fs3 (h : ¬ x = [47, 47]) (h1 : ¬ (x ≠ [] ∧ stripL x = [])) (h2 : 47 ∉ rsL 47 x) : [46] = folderL 47 46 x := by
  rw [folder_steps (by decide), if_neg h, if_neg (fun k => h1 ⟨k.1, (stripL_nil x).mpr k.2⟩), if_pos h2]
theorem fs4 {y : List Nat} (e : y = headL 47 (rsL 47 x)) (h : ¬ x = [47, 47]) (h1 : ¬ (x ≠ [] ∧ stripL x = [])) (h2 : ¬ 47 ∉ rsL 47 x) (h3 : y = [47, 47]) : y = folderL 47 46 x := by
  rw [folder_steps (by decide), if_neg h, if_neg (fun k => h1 ⟨k.1, (stripL_nil x).mpr k.2⟩), if_neg h2, if_pos (by rw [← e]; exact h3)]
  exact e
theorem fs5 {y : List Nat} (e : y = headL 47 (rsL 47 x)) (h : ¬ x = [47, 47]) (h1 : ¬ (x ≠ [] ∧ stripL x = [])) (h2 : ¬ 47 ∉ rsL 47 x) (h3 : ¬ y = [47, 47]) (h4 : rsL 47 y ≠ []) : rsL 47 y = folderL 47 46 x := by
  rw [folder_steps (by decide), if_neg h, if_neg (fun k => h1 ⟨k.1, (stripL_nil x).mpr k.2⟩), if_neg h2, ← e, if_neg h3, if_pos h4]
theorem fs6 {y : List Nat} (e : y = headL 47 (rsL 47 x)) (h : ¬ x = [47, 47]) (h1 : ¬ (x ≠ [] ∧ stripL x = [])) (h2 : ¬ 47 ∉ rsL 47 x) (h3 : ¬ y = [47, 47]) (h4 : ¬ rsL 47 y ≠ []) : [47] = folderL 47 46 x := by
  rw [folder_steps (by decide), if_neg h, if_neg (fun k => h1 ⟨k.1, (stripL_nil x).mpr k.2⟩), if_neg h2, ← e, if_neg h3, if_neg h4]
theorem fsA (h1 : ¬ x ≠ []) (h2 : ¬ 47 ∉ rsL 47 x) : False := by
  have e : x = [] := Decidable.not_not.mp h1
  subst e
  exact h2 (by simp [rsL])
theorem one_eq {c : Nat} (h : ¬ [c] ≠ [47]) : c = 47 := by simpa using h
theorem one_ne {c : Nat} (h : [c] ≠ [47]) : c ≠ 47 := by simpa using h
end
end Mine
end

section
open PySem PySem.W PySem.Spec PySem.Calls PyProof.Rows
set_option Elab.async false
set_option maxRecDepth 100000
set_option maxHeartbeats 4000000
set_option linter.unusedVariables false
namespace Mine
local macro_rules | `(tactic| walk_at "my lit") => `(tactic| first | with_reducible exact lit_slash | with_reducible exact lit_dot | with_reducible exact lit_dots | with_reducible exact lit_nil | with_reducible exact lit_two | with_reducible exact lit_u1 | with_reducible exact lit_u2 | with_reducible exact lit_u3 | with_reducible exact lit_u4 | with_reducible exact lit_u5 | with_reducible rfl)
local macro_rules | `(tactic| walk_at "my len") => `(tactic| first | assumption | ((try simp only [List.length_take, List.length_drop, List.length_replicate, List.length_cons, List.length_nil, List.length_append]); omega) | (refine Nat.le_trans (rsL_len _ _) ?_; first | assumption | ((try simp only [List.length_take, List.length_drop, List.length_replicate, List.length_cons, List.length_nil, List.length_append]); omega)))
local macro_rules | `(tactic| walk_at "my cut") => `(tactic| with_reducible first | exact cut_drop_at _ _ | exact cut_take_at _ _ | exact cut_take_1 _ | exact cut_take_2 _ | exact cut_drop_1 _ | exact cut_drop_2 _ | exact cut_mid_12 _ | exact cut_mid_23 _ | exact cut_init _ | exact cut_final _)
local macro_rules | `(tactic| walk_at "call builtin:issubclass") => `(tactic| (k_here; k_dflt (first
  | (refine' call_iss iss_str (kitTp_N ?k1 ?k2) ?_; (case k1 => k_asm); (case k2 => k_mem); k_whole)
  | (refine' call_iss iss_bytes (kitTp_N ?k1 ?k2) ?_; (case k1 => k_asm); (case k2 => k_mem); k_whole)); intro _; (try dsimp only)))
local macro_rules | `(tactic| walk_at "call type:type") => `(tactic| ((with_reducible show wpAny _ _ (call _ [Value.bytes _ _]) _ _ _); refine call_type_of (Tx := "bytes") rfl (by decide +kernel) ?_))
local macro_rules | `(tactic| walk_at "call builtin:str.rfind") => `(tactic| (k_here; k_dflt (refine' r_rfind ?k1 ?k2 ?_; (case k1 => walk_at "my lit"); (case k2 => walk_at "my lit"); k_whole); intro _ _))
local macro_rules | `(tactic| walk_at "call builtin:str.rstrip") => `(tactic| (k_here; k_dflt (refine' r_rstrip ?k1 ?k2 ?k3 ?_; (case k1 => walk_at "my lit"); (case k2 => walk_at "my lit"); (case k3 => walk_at "my len"); k_whole); intro _ _))
local macro_rules | `(tactic| walk_at "call builtin:str.lstrip") => `(tactic| (k_here; k_dflt (refine' r_lstrip ?k1 ?k2 ?k3 ?_; (case k1 => walk_at "my lit"); (case k2 => walk_at "my lit"); (case k3 => walk_at "my len"); k_whole); intro _ _))
local macro_rules | `(tactic| walk_at "call builtin:str.strip") => `(tactic| (k_here; k_dflt (refine' r_strip ?k1 ?k2 ?k3 ?_; (case k1 => walk_at "my lit"); (case k2 => walk_at "my lit"); (case k3 => walk_at "my len"); k_whole); intro _ _))
local macro_rules | `(tactic| walk_at "call builtin:str.startswith") => `(tactic| (k_here; k_dflt (refine' r_starts ?k1 ?k2 ?_; (case k1 => walk_at "my lit"); (case k2 => walk_at "my lit"); k_whole)))
local macro_rules | `(tactic| walk_at "call builtin:str.endswith") => `(tactic| (k_here; k_dflt (refine' r_ends ?k1 ?k2 ?_; (case k1 => walk_at "my lit"); (case k2 => walk_at "my lit"); k_whole)))
local macro_rules | `(tactic| walk_at "binaryOp Mult str int") => `(tactic| (k_here; k_dflt (refine' r_mul ?k1 ?k3 ?_; (case k1 => walk_at "my lit"); (case k3 => walk_at "my len"); k_whole); intro _ _))
local macro_rules | `(tactic| walk_at "compareOp Eq str str") => `(tactic| (k_here; k_dflt (refine' r_eq ?k1 ?k2 ?_; (case k1 => walk_at "my lit"); (case k2 => walk_at "my lit"); k_whole)))
local macro_rules | `(tactic| walk_at "compareOp NotEq str str") => `(tactic| (k_here; k_dflt (refine' r_ne ?k1 ?k2 ?_; (case k1 => walk_at "my lit"); (case k2 => walk_at "my lit"); k_whole)))
local macro_rules | `(tactic| walk_at "compareOp NotIn str str") => `(tactic| (k_here; k_dflt (refine' r_notin ?k1 ?k2 ?_; (case k1 => walk_at "my lit"); (case k2 => walk_at "my lit"); k_whole)))
local macro_rules | `(tactic| walk_at "truthy str") => `(tactic| (k_here; k_dflt (refine' r_truthy ?k1 ?k3 ?_; (case k1 => walk_at "my lit"); (case k3 => walk_at "my len"); k_whole); intro _))
local macro_rules | `(tactic| walk_at "call builtin:len") => `(tactic| (k_here; (with_reducible show wpAny _ _ (call _ [Value.str _ _]) _ _ _); k_dflt (refine' r_len ?k1 ?k3 ?_; (case k1 => walk_at "my lit"); (case k3 => walk_at "my len"); k_whole); intro _ _))
local macro_rules | `(tactic| walk_at "binaryOp Add str str") => `(tactic| (k_here; k_dflt (refine' r_add ?k1 ?k2 ?k3 ?_; (case k1 => walk_at "my lit"); (case k2 => walk_at "my lit"); (case k3 => walk_at "my len"); k_whole); intro _ _))
local macro_rules | `(tactic| walk_at "inplaceOp Add str str") => `(tactic| (k_here; k_dflt (refine' r_iadd ?k1 ?k2 ?k3 ?_; (case k1 => walk_at "my lit"); (case k2 => walk_at "my lit"); (case k3 => walk_at "my len"); k_whole); intro _ _))
local macro_rules | `(tactic| walk_at "subscriptTail Name Slice str ref") => `(tactic| (k_here; (with_reducible show wpAny _ _ (subscriptTail _ (Expr.Slice none (some _) none _) (Value.str _ _) (Value.ref _)) _ _ _); (with_reducible rename Fr _ _ _ _ => F'); (with_reducible rename News _ _ _ _ => N'); k_dflt (refine' r_slice_ns (s := ⟨_, _, _, _, _⟩) F' N' ?k1 ?k2 ?k3 ?_; (case k1 => walk_at "my lit"); (case k2 => walk_at "my cut"); (case k3 => walk_at "my len"); k_whole); intro _ _ _ F9 N9))
local macro_rules | `(tactic| walk_at "subscriptTail Name Slice str ref") => `(tactic| (k_here; (with_reducible show wpAny _ _ (subscriptTail _ (Expr.Slice (some _) none none _) (Value.str _ _) (Value.ref _)) _ _ _); (with_reducible rename Fr _ _ _ _ => F'); (with_reducible rename News _ _ _ _ => N'); k_dflt (refine' r_slice_sn (s := ⟨_, _, _, _, _⟩) F' N' ?k1 ?k2 ?k3 ?_; (case k1 => walk_at "my lit"); (case k2 => walk_at "my cut"); (case k3 => walk_at "my len"); k_whole); intro _ _ _ F9 N9))
local macro_rules | `(tactic| walk_at "subscriptTail Name Slice str ref") => `(tactic| (k_here; (with_reducible show wpAny _ _ (subscriptTail _ (Expr.Slice (some _) (some _) none _) (Value.str _ _) (Value.ref _)) _ _ _); (with_reducible rename Fr _ _ _ _ => F'); (with_reducible rename News _ _ _ _ => N'); k_dflt (refine' r_slice_ss (s := ⟨_, _, _, _, _⟩) F' N' ?k1 ?k2 ?k3 ?_; (case k1 => walk_at "my lit"); (case k2 => walk_at "my cut"); (case k3 => walk_at "my len"); k_whole); intro _ _ _ F9 N9))
local macro_rules | `(tactic| walk_at "subscriptTail") => `(tactic| (k_here; (with_reducible show wpAny _ _ (subscriptTail _ (Expr.Slice _ _ none _) (Value.bytes _ _) (Value.ref _)) _ _ _); (with_reducible rename Fr _ _ _ _ => F'); (with_reducible rename News _ _ _ _ => N'); k_dflt (refine' slice_bytes (s := ⟨_, _, _, _, _⟩) F' N' ?k4 ?k5 ?k3 ?k2 ?_; (case k4 => first | exact IsPart.none | exact IsPart.int _ _); (case k5 => first | exact IsPart.none | exact IsPart.int _ _); (case k3 => first | (walk_at "my len") | (refine Nat.le_trans (m := 4096) ?_ (by decide); walk_at "my len")); (case k2 => walk_at "my cut"); k_whole); intro _ _ _ F9 N9))
local macro_rules | `(tactic| walk_at "getMethod bytes") => `(tactic| (k_here; (with_reducible first | refine meth_bytes_rfind ?_ | refine meth_bytes_rstrip ?_ | refine meth_bytes_split ?_ | refine meth_bytes_join ?_ | refine meth_bytes_startswith ?_ | refine meth_bytes_endswith ?_)))
local macro_rules | `(tactic| walk_at "call builtin:bytes.rfind") => `(tactic| (k_here; k_dflt (refine rfind_bytes ?_); intro _ _))
local macro_rules | `(tactic| walk_at "call builtin:bytes.rstrip") => `(tactic| (k_here; k_dflt (refine' rstrip_bytes ?k3 ?_; (case k3 => (refine Nat.le_trans (m := 4096) ?_ (by decide); walk_at "my len")); k_whole); intro _ _))
local macro_rules | `(tactic| walk_at "call builtin:bytes.startswith") => `(tactic| (k_here; k_dflt (refine startswith_bytes ?_); intro _))
local macro_rules | `(tactic| walk_at "call builtin:bytes.endswith") => `(tactic| (k_here; k_dflt (refine endswith_bytes ?_); intro _))
local macro_rules | `(tactic| walk_at "compareOp Eq bytes bytes") => `(tactic| (k_here; k_dflt (refine b_eq ?_)))
local macro_rules | `(tactic| walk_at "compareOp NotEq bytes bytes") => `(tactic| (k_here; k_dflt (refine b_ne ?_)))
local macro_rules | `(tactic| walk_at "truthy bytes") => `(tactic| (k_here; k_dflt (refine' b_truthy ?k3 ?_; (case k3 => walk_at "my len"); k_whole); intro _))
local macro_rules | `(tactic| walk_at "call builtin:len") => `(tactic| (k_here; (with_reducible show wpAny _ _ (call _ [Value.bytes _ _]) _ _ _); k_dflt (refine' b_len ?k3 ?_; (case k3 => walk_at "my len"); k_whole); intro _ _))
local macro_rules | `(tactic| walk_at "binaryOp Add bytes bytes") => `(tactic| (k_here; k_dflt (refine' b_add ?k3 ?_; (case k3 => walk_at "my len"); k_whole); intro _ _))
local macro_rules | `(tactic| walk_at "binaryOp Mult bytes int") => `(tactic| (k_here; k_dflt (refine' mul_bytes ?k4 ?k3 ?_; (case k4 => walk_at "my pos"); (case k3 => walk_at "my len"); k_whole); intro _ _))
local macro_rules | `(tactic| walk_at "my pos") => `(tactic| exact List.length_pos_iff.mpr (by assumption))
local macro_rules | `(tactic| walk_at "my ct") => `(tactic| exact ct_fspath_str _ _ _)
local macro_rules | `(tactic| walk_at "my ct") => `(tactic| exact ct_fspath_bytes _ _ _)
local macro_rules | `(tactic| walk_at "my ct") => `(tactic| exact ct_get_sep_str _ _ _)
local macro_rules | `(tactic| walk_at "my ct") => `(tactic| exact ct_get_sep_bytes _ _ _)
local macro_rules | `(tactic| walk_at "call ref") => `(tactic| (k_here; k_dflt (refine' ct_use ?C ?k1 ?k2 ?k3 ?k4 ?k5 ?kK ?kd ?ku ?_; (case C => walk_at "my ct"); (case k1 => k_asm); (case k2 => k_asm); (case k3 => k_asm); (case k4 => k_asm); (case k5 => k_asm); (case kK => first | exact rfl | assumption); (case kd => ktr_room); (case ku => ktr_units); k_whole); intro t9 h9 tk9 F9 N9; (try dsimp only); (try k_fold)))
local macro_rules | `(tactic| walk_at "my end") => `(tactic| (refine' ct_ret ?e0 ?e1 ?e2 ?e3 ?_; (case e0 => assumption); (case e1 => k_asm); (case e2 => k_asm); (case e3 => kcj_all)))
local macro_rules | `(tactic| walk_at "my endT") => `(tactic| (refine' ctT_ret ?e0 ?e1 ?e2 ?e3 ?e4 ?_; (case e0 => assumption); (case e1 => k_asm); (case e2 => k_asm); (case e3 => k_mem); (case e4 => kcj_all)))
local macro_rules | `(tactic| walk_at "my turn1") => `(tactic| (refine' InvEndN.intro ?F ?N ⟨rfl, _, ?_, ?rf, ?same⟩ rfl ?hn ?ho; (case F => k_asm); (case N => k_asm); (case rf => with_unfolding_all rfl); (case same => intro z h1 h2; simp [h1, h2]); (case hn => intro p hp; simp [hp]); (case ho => intro p hp; simp [hp])))
local macro_rules | `(tactic| walk_at "inplaceOp Add bytes bytes") => `(tactic| (k_here; k_dflt (refine' b_iadd ?k3 ?_; (case k3 => walk_at "my len"); k_whole); intro _ _))
local macro_rules | `(tactic| walk_at "call ref") => `(tactic| (k_here; k_dflt (refine' ctT_use ?C ?k1 ?k2 ?k3 ?k4 ?k5 ?kK ?kd ?ku ?_; (case C => walk_at "my ctT"); (case k1 => k_asm); (case k2 => k_asm); (case k3 => k_asm); (case k4 => k_asm); (case k5 => k_asm); (case kK => first | exact rfl | assumption); (case kd => ktr_room); (case ku => ktr_units); k_whole); intro q9 t7 t8 t9 h9 tk9 F9 N9; (try dsimp only); (try k_fold)))
local macro_rules | `(tactic| walk_at "my len") => `(tactic| exact Nat.le_trans (restL_len _ _) (by assumption))
local macro_rules | `(tactic| walk_at "call builtin:str.split") => `(tactic| (k_here; (with_reducible rename Fr _ _ _ _ => F'); (with_reducible rename News _ _ _ _ => N'); k_dflt (refine' r_split2 F' N' ?k1 ?k2 ?k3 ?_; (case k1 => walk_at "my lit"); (case k2 => walk_at "my lit"); (case k3 => walk_at "my len"); k_whole); intro _ _ _ hV9 hD9 F9 N9))
local macro_rules | `(tactic| walk_at "call builtin:bytes.split") => `(tactic| (k_here; (with_reducible rename Fr _ _ _ _ => F'); (with_reducible rename News _ _ _ _ => N'); k_dflt (refine' b_split2 F' N' ?k3 ?_; (case k3 => walk_at "my len"); k_whole); intro _ _ _ hV9 hD9 F9 N9))
local macro_rules | `(tactic| walk_at "truthy ref") => `(tactic| (k_here; k_dflt (refine' l_truthy ?N ?hm ?hV ?hz ?_; (case N => k_asm); (case hm => k_mem); (case hV => assumption); (case hz => assumption); k_whole); intro _))
local macro_rules | `(tactic| walk_at "subscriptTail Name UnaryOp ref int") => `(tactic| (k_here; k_dflt (refine' l_last (mk := mkS) ?N ?hm ?hV ?hz ?_; (case N => k_asm); (case hm => k_mem); (case hV => assumption); (case hz => assumption); k_whole); intro _; (try dsimp only [mkS])))
local macro_rules | `(tactic| walk_at "subscriptTail Name UnaryOp ref int") => `(tactic| (k_here; k_dflt (refine' l_last (mk := mkB) ?N ?hm ?hV ?hz ?_; (case N => k_asm); (case hm => k_mem); (case hV => assumption); (case hz => assumption); k_whole); intro _; (try dsimp only [mkB])))
local macro_rules | `(tactic| walk_at "call builtin:list.append") => `(tactic| (k_here; k_dflt (refine' l_append (mk := mkS) ?F ?N ?hu ?hV ?hz ?_; (case F => k_asm); (case N => k_asm); (case hu => assumption); (case hV => assumption); (case hz => assumption); k_whole); intro _ F9 N9 hV9))
local macro_rules | `(tactic| walk_at "call builtin:list.append") => `(tactic| (k_here; k_dflt (refine' l_append (mk := mkB) ?F ?N ?hu ?hV ?hz ?_; (case F => k_asm); (case N => k_asm); (case hu => assumption); (case hV => assumption); (case hz => assumption); k_whole); intro _ F9 N9 hV9))
local macro_rules | `(tactic| walk_at "call builtin:list.pop") => `(tactic| (k_here; k_dflt (refine' l_pop ?F ?N ?hu ?hV ?hne ?hz ?_; (case F => k_asm); (case N => k_asm); (case hu => assumption); (case hV => assumption); (case hne => assumption); (case hz => assumption); k_whole); intro _ _ F9 N9 hV9))
local macro_rules | `(tactic| walk_at "call builtin:str.join") => `(tactic| (k_here; k_dflt (refine' r_join ?k1 ?hl ?hV ?hz ?_; (case k1 => walk_at "my lit"); (case hl => exact News.isList (by k_asm) (by k_mem)); (case hV => assumption); (case hz => assumption); k_whole); intro _ _))
local macro_rules | `(tactic| walk_at "call builtin:bytes.join") => `(tactic| (k_here; k_dflt (refine' join_bytes ?hl ?hV ?hz ?_; (case hl => exact News.isList (by k_asm) (by k_mem)); (case hV => assumption); (case hz => exact Nat.le_trans (m := 16384) (by assumption) (by decide)); k_whole); intro _ _))
local macro_rules | `(tactic| walk_at "my step") => `(tactic| first | rw [step_skip1 (by assumption)] | rw [step_skip2 (by assumption)] | rw [step_none (by assumption) (by assumption) (by assumption) (by assumption) (by assumption)] | rw [step_pop (by assumption) (by assumption) (by assumption) (by assumption) (by assumption)] | rw [step_push (by assumption) (by assumption) (by first | exact .inl (by assumption) | exact .inr (.inl ⟨Decidable.not_not.mp (by assumption), Decidable.not_not.mp (by assumption)⟩) | exact .inr (.inr ⟨by assumption, by assumption⟩))])
local macro_rules | `(tactic| walk_at "my turn2") => `(tactic| (refine' InvEndN.intro ?F ?N ⟨_, _, rfl, ?V, ?same⟩ rfl ?hn ?ho; (case F => k_asm); (case N => k_asm); (case V => assumption); (case same => intro z h1; simp [h1]); (case hn => exact turn2_hn); (case ho => exact turn2_ho)))
local macro_rules | `(tactic| walk_at "my w1") => `(tactic| ((with_reducible show W1Post _ _ _ _ _ _ _ _ _ _ _ _ _); (dsimp only [W1Post]); (refine' w1_end (_, _) ?F ?N ?hn ?hk ?hr ?_ ?_); (case F => k_asm); (case N => k_asm); (case hn => kcj_all); (case hk => with_unfolding_all rfl); (case hr => intro z h1; simp [h1])))
local macro_rules | `(tactic| walk_at "exec While Compare cons nil") => `(tactic| refine stop_of ?_)
local macro_rules | `(tactic| walk_at "exec While BoolOp cons nil") => `(tactic| refine stop_of ?_)
local macro_rules | `(tactic| walk_at "subscriptTail Name BinOp str int") => `(tactic| (k_here; k_dflt (refine' r_item ?k1 ?k2 ?k3 ?k4 ?_; (case k1 => walk_at "my lit"); (case k2 => omega); (case k3 => omega); (case k4 => assumption); k_whole); intro _ _ _ _))
local macro_rules | `(tactic| walk_at "my cut") => `(tactic| with_reducible first | exact cut_drop_int _ (by assumption) | exact cut_take_int _ (by omega))
theorem ct_clean (w : World) (x : List Nat) (hx : x.length ≤ 4096) (t : Tok) : Ct w 2 165 [.str (S x) t] (fun t' => .str (S (rsL 47 x)) t') := by
  unfold Ct
  k_fill
  intro mean mg mb dp un gd cn cs a ccd cl outer A₀ base h₀ L m news s Q E B F X N T hk hd hu hret
  refine wpAny_call ?_
  k_dflt cell_enter
  k_steps
  refine stop_in ?_
  rename Fr _ _ _ _ => lF
  rename News _ _ _ _ => lN
  with_unfolding_all refine while1 (y := Str.ofString "text") (news := news) (fun c : List Nat × Tok => .str (S c.1) c.2) (fun c => rsL 47 c.1 = rsL 47 x ∧ c.1.length ≤ 4096) (fun c => c.1.length) (x, t) lF lN rfl ⟨rfl, hx⟩ ?turn
  rintro ⟨c, tc⟩ h tk ⟨hP1, hP2⟩ F₁ N₁
  clear lF lN
  dsimp only at F₁
  try k_fold
  k_steps
  any_goals (walk_at "my w1"; (exact clean_next hP1 hP2 (by assumption)); (exact clean_less (by assumption)))

  all_goals walk_at "my end"
  all_goals exact str_end (clean_end hP1 (by assumption))
local macro_rules | `(tactic| walk_at "my ct") => `(tactic| (refine' ct_clean _ _ ?z1 _; (case z1 => walk_at "my len")))
local macro_rules | `(tactic| walk_at "my dec") => `(tactic| first | assumption | exact of_decide_eq_true (by assumption) | exact of_decide_eq_false (by assumption))
theorem ct_base_steps (w : World) (x : List Nat) (hx : x.length ≤ 4096) (t : Tok) : Ct w 3 172 [.str (S x) t] (fun t' => .str (S (lastL 47 x)) t') := by
  unfold Ct
  k_fill
  intro mean mg mb dp un gd cn cs a ccd cl outer A₀ base h₀ L m news s Q E B F X N T hk hd hu hret
  refine wpAny_call ?_
  k_dflt cell_enter
  have hr : (rsL 47 x).length ≤ 4096 := Nat.le_trans (rsL_len 47 x) hx
  k_steps
  skip
  any_goals (refine stop_in ?_; (rename Fr _ _ _ _ => lF); (rename News _ _ _ _ => lN); (with_unfolding_all refine while1 (y := Str.ofString "k") (news := news) (fun c : Int × Tok => .int c.1 c.2) (fun c => 0 ≤ c.1 ∧ c.1 ≤ ((rsL 47 x).length : Int) ∧ 47 ∉ (rsL 47 x).drop c.1.toNat) (fun c => c.1.toNat) (((rsL 47 x).length : Int), _) lF lN rfl ⟨Int.natCast_nonneg _, Int.le_refl _, by simp⟩ ?turn); rintro ⟨c, tc⟩ h tk ⟨hP0, hP1, hP2⟩ F₁ N₁; (clear lF lN); (dsimp only at F₁ hP0 hP1 hP2); (try k_fold); k_steps)
  any_goals (walk_at "my w1"; (exact ⟨by dsimp only; omega, by dsimp only; omega, back_free (by omega) hP1 hP2 (by assumption) (one_ne (by assumption))⟩); (dsimp only; omega))

  all_goals walk_at "my end"
  all_goals first
    | exact str_end (bs1 (by walk_at "my dec"))
    | exact str_end (bs2 (by walk_at "my dec"))
    | (rw [lit_slash]; exact str_end (bs3 (by walk_at "my dec") (by walk_at "my dec") (by walk_at "my dec")))
    | exact str_end (bs4 (base_at1 hP0 hP1 hP2 (by assumption) (by assumption) (one_eq (by assumption))) (by walk_at "my dec") (by walk_at "my dec") (by walk_at "my dec"))
    | exact str_end (bs4 (base_at0 hP0 hP1 hP2 (by assumption)) (by walk_at "my dec") (by walk_at "my dec") (by walk_at "my dec"))
local macro_rules | `(tactic| walk_at "my len") => `(tactic| ((simp only [List.length_take]); omega))
theorem ct_folder_steps (w : World) (x : List Nat) (hx : x.length ≤ 4096) (t : Tok) : Ct w 3 179 [.str (S x) t] (fun t' => .str (S (folderL 47 46 x)) t') := by
  unfold Ct
  k_fill
  intro mean mg mb dp un gd cn cs a ccd cl outer A₀ base h₀ L m news s Q E B F X N T hk hd hu hret
  refine wpAny_call ?_
  k_dflt cell_enter
  have hr : (rsL 47 x).length ≤ 4096 := Nat.le_trans (rsL_len 47 x) hx
  k_steps
  all_goals (try (exfalso; exact fsA (x := x) (by assumption) (by assumption)))
  any_goals (refine stop_in ?_; (rename Fr _ _ _ _ => lF); (rename News _ _ _ _ => lN); (with_unfolding_all refine while1 (y := Str.ofString "k") (news := news) (fun c : Int × Tok => .int c.1 c.2) (fun c => 0 < c.1 ∧ c.1 ≤ ((rsL 47 x).length : Int) ∧ 47 ∉ (rsL 47 x).drop c.1.toNat) (fun c => c.1.toNat) (((rsL 47 x).length : Int), _) lF lN rfl ⟨(by have hin : 47 ∈ rsL 47 x := Decidable.not_not.mp (by assumption); have := List.length_pos_of_mem hin; dsimp only; omega), Int.le_refl _, by simp⟩ ?turn); rintro ⟨c, tc⟩ h tk ⟨hP0, hP1, hP2⟩ F₁ N₁; (clear lF lN); (dsimp only at F₁ hP0 hP1 hP2); (try k_fold); k_steps)
  any_goals (walk_at "my w1"; (have hin : 47 ∈ rsL 47 x := Decidable.not_not.mp (by assumption); have hb := back_free hP0 hP1 hP2 (by assumption) (one_ne (by assumption)); exact ⟨back_pos (by dsimp only; omega) hin hb, by dsimp only; omega, hb⟩); (dsimp only; omega))

  all_goals walk_at "my end"
  all_goals first
    | exact str_end (fs1 (by walk_at "my dec"))
    | (rw [lit_slash]; exact str_end (fs2 (by walk_at "my dec") (by walk_at "my dec") (by walk_at "my dec")))
    | (rw [lit_dot]; exact str_end (fs3 (by walk_at "my dec") (by first | exact fun k9 => absurd k9.1 (by walk_at "my dec") | exact fun k9 => absurd k9.2 (by walk_at "my dec")) (by walk_at "my dec")))
    | exact str_end (fs4 (head_at1 hP1 hP2 hP0 (by assumption) (one_eq (by assumption))) (by walk_at "my dec") (by first | exact fun k9 => absurd k9.1 (by walk_at "my dec") | exact fun k9 => absurd k9.2 (by walk_at "my dec")) (by walk_at "my dec") (by walk_at "my dec"))
    | exact str_end (fs5 (head_at1 hP1 hP2 hP0 (by assumption) (one_eq (by assumption))) (by walk_at "my dec") (by first | exact fun k9 => absurd k9.1 (by walk_at "my dec") | exact fun k9 => absurd k9.2 (by walk_at "my dec")) (by walk_at "my dec") (by walk_at "my dec") (by walk_at "my dec"))
    | (rw [lit_slash]; exact str_end (fs6 (head_at1 hP1 hP2 hP0 (by assumption) (one_eq (by assumption))) (by walk_at "my dec") (by first | exact fun k9 => absurd k9.1 (by walk_at "my dec") | exact fun k9 => absurd k9.2 (by walk_at "my dec")) (by walk_at "my dec") (by walk_at "my dec") (by walk_at "my dec")))

end Mine
end

section
open PySem PySem.W PySem.Spec PySem.Calls PyProof.Rows PyProof PyProof.V
set_option Elab.async false
set_option maxRecDepth 100000
set_option linter.unusedSectionVars false
set_option linter.unusedSimpArgs false
set_option linter.unusedVariables false
namespace Mine
@[irreducible] def CtS (w : World) (D : Nat) (f : Addr) (vs : List Value) (P : List Nat → Prop) : Prop :=
  ∀ (mean : ExcName → Option Value) (mg mb : PySem.Str → Option Value) (dp un : Nat) (gd : Option (List Code)) (cn : PySem.Str) (cs : Scope) (a : Addr) (ccd : Value) (cl : List (PySem.Str × Addr)) (outer : List Env) (A₀ : Around) (base h₀ : Heap) (L : Addr) (m : PySem.Str → Option Value) (news : List (Addr × Obj)) (s : Shared) (Q E : Value → Shared → Prop),
    Below A₀ base outer h₀ → Fr h₀ L s.heap m → (Mine.hd.heap_39 w.params).In h₀ → News h₀ L s.heap news → Top Mine.hd.view_39 (looseW Mine.hd.view_39 []) mean mg mb h₀ → cs.kind = .function →
    dp + D < recursionLimit → un + 8 * D < cLine →
    (∀ (l : List Nat) (t : Tok) (h' : Heap) (tk' : Nat), P l → Fr h₀ L h' m → News h₀ L h' news → Q (.str (S l) t) { s with heap := h', toks := tk' }) →
    wpAny (model PySem.Challenge.rw_ab6017_01.row.prog w) (ktrTop dp un gd cn cs L a ccd cl outer) (call (.ref f) vs) Q E s
theorem ctS_use {w : World} {D : Nat} {f : Addr} {vs : List Value} {P : List Nat → Prop} {mean : ExcName → Option Value} {mg mb : PySem.Str → Option Value} {dp un : Nat} {gd : Option (List Code)} {cn : PySem.Str} {cs : Scope} {a : Addr} {ccd : Value} {cl : List (PySem.Str × Addr)} {outer : List Env} {A₀ : Around} {base h₀ : Heap} {L : Addr} {m : PySem.Str → Option Value} {news : List (Addr × Obj)} {s : Shared} {Q E : Value → Shared → Prop}
    (C : CtS w D f vs P) (B : Below A₀ base outer h₀) (F : Fr h₀ L s.heap m) (X : (Mine.hd.heap_39 w.params).In h₀) (N : News h₀ L s.heap news) (T : Top Mine.hd.view_39 (looseW Mine.hd.view_39 []) mean mg mb h₀) (hk : cs.kind = .function)
    (hd : dp + D < recursionLimit) (hu : un + 8 * D < cLine)
    (ret : ∀ (l : List Nat) (t : Tok) (h' : Heap) (tk' : Nat), P l → Fr h₀ L h' m → News h₀ L h' news → Q (.str (S l) t) { s with heap := h', toks := tk' }) :
    wpAny (model PySem.Challenge.rw_ab6017_01.row.prog w) (ktrTop dp un gd cn cs L a ccd cl outer) (call (.ref f) vs) Q E s := by
  unfold CtS at C
  exact C _ _ _ _ _ _ _ _ _ _ _ _ _ _ _ _ _ _ _ _ _ B F X N T hk hd hu ret
theorem ctS_ret {h₀ h' : Heap} {L : Addr} {m : PySem.Str → Option Value} {news news' : List (Addr × Obj)} {s : Shared} {Q : Value → Shared → Prop} {P : List Nat → Prop} {l : List Nat} {t : Tok} {tk' : Nat}
    (hret : ∀ (l : List Nat) (t : Tok) (h' : Heap) (tk' : Nat), P l → Fr h₀ L h' m → News h₀ L h' news → Q (.str (S l) t) { s with heap := h', toks := tk' })
    (F : Fr h₀ L h' m) (N : News h₀ L h' news') (hs : ∀ p ∈ news, p ∈ news') (p : P l) : Q (.str (S l) t) { s with heap := h', toks := tk' } :=
  hret l t h' tk' p F fun q hq => N q (hs q hq)
section
variable {prog : Program} {w : World} {A : Around} {E : Value → Shared → Prop} {s : Shared} {env : Env} {h₀ : Heap} {x : PySem.Str} {body : List Stmt} {Q : Flow → Shared → Prop}
theorem range_loop {σ : Type} {r : Addr} {a b st : Int} {t u v : Tok} {n : Nat} {m₀ : PySem.Str → Option Value} (mp : σ → PySem.Str → Option Value) (news : List (Addr × Obj)) (P : Nat → σ → Prop) (c₀ : σ)
    (hh : A.handled = none) (hr : IsRange s.heap r a b st t u v) (hsm : Builtin.Range.small a b st = true) (hn : Builtin.Range.rangeSize a b st = ((n : Nat) : Int)) (F : Fr h₀ env.locals s.heap m₀) (N : News h₀ env.locals s.heap news) (hm : ∀ z, z ≠ x → m₀ z = mp c₀ z) (hp : P 0 c₀)
    (turn : ∀ (i : Nat) t c h tk own, i < n → OwnOff own (news.map (·.1)) → P i c → Fr h₀ env.locals h (fun y => if y = x then some (.int (a + (i : Int) * st) t) else mp c y) → News h₀ env.locals h (news ++ own) →
      wpAny (model prog w) A (execs body env) (InvPostN h₀ env.locals (fun m' nx => nx = news ∧ ∃ c', P (i + 1) c' ∧ ∀ z, z ≠ x → m' z = mp c' z) own (news.map (·.1)) { s with heap := h, toks := tk } Q) E { s with heap := h, toks := tk })
    (done : ∀ c u h tk, P n c → Fr h₀ env.locals h (fun y => if y = x then u else mp c y) → News h₀ env.locals h news → Q .next { s with heap := h, toks := tk }) :
    wpAny (model prog w) A (pyIter (.ref r)) (fun it s₂ => LoopAtV prog w A h₀ env x body Q E it s₂) E s := by
  refine wpAny_pyIter_range hr hsm ?_
  refine seq_core mp (fun _ => news) P c₀ (Walks.range hh s.heap.objs.size a st n) ?_ ?_ ?_ ?_ (by show IsRangeIter _ _ _ _ _; rw [hn]; simpa using Heap.get?_push_size _ rfl) (F.push _) (fun p hp => ⟨Heap.get?_push_of_some _ (N p hp).1, (N p hp).2⟩) hm hp ?_ ?_
  · intro hmem
    exact absurd F.ns.lt ((List.mem_singleton.mp hmem) ▸ Nat.lt_irrefl _)
  · intro b hb
    rw [List.mem_singleton.mp hb]
    exact next_is_new F
  · intro p hp hI
    exact absurd (Heap.lt_size (N p hp).1) ((List.mem_singleton.mp hI) ▸ Nat.lt_irrefl _)
  · intro p hp hI
    exact absurd (Heap.lt_size (N p hp).1) ((List.mem_singleton.mp hI) ▸ Nat.lt_irrefl _)
  · intro i v c h tk own hi hv hadr hoff hP F₁ N₁
    obtain ⟨t', rfl⟩ := hv
    refine wpAny_mono (turn i t' c h tk own hi hoff hP F₁ N₁) (fun f s₂ hq => ?_) fun _ _ e => e
    have key2 : ∀ {s₁ s₂ : Shared}, InvEndN h₀ env.locals (fun m' nx => nx = news ∧ ∃ c', P (i + 1) c' ∧ ∀ z, z ≠ x → m' z = mp c' z) own (news.map (·.1)) s₁ s₂ → InvEndN h₀ env.locals (fun m' nx => ∃ c', nx = news ∧ P (i + 1) c' ∧ ∀ z, z ≠ x → m' z = mp c' z) own (news.map (·.1)) s₁ s₂ := by
      rintro s₁ s₂ ⟨h', tk', m', news', nx, e, a1, a2, a3, a4, a5, ⟨a6, c', a7⟩⟩
      exact ⟨h', tk', m', news', nx, e, a1, a2, a3, a4, a5, c', a6, a7⟩
    cases f with
    | ret v => exact hq
    | brk => exact hq
    | next => exact key2 hq
    | cont => exact key2 hq
  · exact done
end
end Mine
end

section
open PySem PySem.W PySem.Spec PySem.Calls PyProof.Rows PyProof PyProof.V
set_option Elab.async false
set_option maxRecDepth 100000
set_option linter.unusedSectionVars false
set_option linter.unusedSimpArgs false
set_option linter.unusedVariables false
namespace Mine
section
variable {prog : Program} {w : World} {A : Around} {E : Value → Shared → Prop} {s : Shared} {env : Env} {h₀ : Heap} {x : PySem.Str} {body : List Stmt}
theorem range_loop2 {y1 y2 : PySem.Str} {v1 v2 : Value} {r : Addr} {a b st : Int} {t u v : Tok} {n : Nat} {m₀ : PySem.Str → Option Value} {news : List (Addr × Obj)} {Q : Flow → Shared → Prop} (P : Nat → Value → Value → Prop)
    (hh : A.handled = none) (hr : IsRange s.heap r a b st t u v) (hsm : Builtin.Range.small a b st = true) (hn : Builtin.Range.rangeSize a b st = ((n : Nat) : Int)) (F : Fr h₀ env.locals s.heap m₀) (N : News h₀ env.locals s.heap news) (hy1 : m₀ y1 = some v1) (hy2 : m₀ y2 = some v2) (h12 : y2 ≠ y1) (hp : P 0 v1 v2)
    (turn : ∀ (i : Nat) t c1 c2 h tk own, i < n → OwnOff own (news.map (·.1)) → P i c1 c2 → Fr h₀ env.locals h (fun y => if y = x then some (.int (a + (i : Int) * st) t) else if y = y1 then some c1 else if y = y2 then some c2 else m₀ y) → News h₀ env.locals h (news ++ own) →
      wpAny (model prog w) A (execs body env) (InvPostN h₀ env.locals (fun m' nx => nx = news ∧ ∃ c1 c2, P (i + 1) c1 c2 ∧ m' y1 = some c1 ∧ m' y2 = some c2 ∧ ∀ z, z ≠ x → z ≠ y1 → z ≠ y2 → m' z = m₀ z) own (news.map (·.1)) { s with heap := h, toks := tk } Q) E { s with heap := h, toks := tk })
    (done : ∀ c1 c2 u h tk, P n c1 c2 → Fr h₀ env.locals h (fun y => if y = x then u else if y = y1 then some c1 else if y = y2 then some c2 else m₀ y) → News h₀ env.locals h news → Q .next { s with heap := h, toks := tk }) :
    wpAny (model prog w) A (pyIter (.ref r)) (fun it s₂ => LoopAtV prog w A h₀ env x body Q E it s₂) E s := by
  refine range_loop (σ := Value × Value) (fun c y => if y = y1 then some c.1 else if y = y2 then some c.2 else m₀ y) news (fun i c => P i c.1 c.2) (v1, v2) hh hr hsm hn F N (fun z hz => ?_) hp ?_ ?_
  · dsimp only
    split
    · next h => rw [h, hy1]
    · split
      · next h => rw [h, hy2]
      · rfl
  · intro i t c h tk own hi hoff hP F₁ N₁
    refine wpAny_mono (turn i t c.1 c.2 h tk own hi hoff hP F₁ N₁) (fun f s₂ hq => ?_) fun _ _ e => e
    have key : ∀ (m' : PySem.Str → Option Value) (nx : List (Addr × Obj)), (nx = news ∧ ∃ c1 c2, P (i + 1) c1 c2 ∧ m' y1 = some c1 ∧ m' y2 = some c2 ∧ ∀ z, z ≠ x → z ≠ y1 → z ≠ y2 → m' z = m₀ z) → (nx = news ∧ ∃ c' : Value × Value, P (i + 1) c'.1 c'.2 ∧ ∀ z, z ≠ x → m' z = if z = y1 then some c'.1 else if z = y2 then some c'.2 else m₀ z) := by
      rintro m' nx ⟨h1, c1, c2, h2, h3, h4, h5⟩
      refine ⟨h1, (c1, c2), h2, fun z hz => ?_⟩
      by_cases e1 : z = y1
      · rw [if_pos e1, e1, h3]
      · rw [if_neg e1]
        by_cases e2 : z = y2
        · rw [if_pos e2, e2, h4]
        · rw [if_neg e2]; exact h5 z hz e1 e2
    have key2 : ∀ {s₁ s₂ : Shared}, InvEndN h₀ env.locals (fun m' nx => nx = news ∧ ∃ c1 c2, P (i + 1) c1 c2 ∧ m' y1 = some c1 ∧ m' y2 = some c2 ∧ ∀ z, z ≠ x → z ≠ y1 → z ≠ y2 → m' z = m₀ z) own (news.map (·.1)) s₁ s₂ → InvEndN h₀ env.locals (fun m' nx => nx = news ∧ ∃ c' : Value × Value, P (i + 1) c'.1 c'.2 ∧ ∀ z, z ≠ x → m' z = if z = y1 then some c'.1 else if z = y2 then some c'.2 else m₀ z) own (news.map (·.1)) s₁ s₂ := by
      rintro s₁ s₂ ⟨h', tk', m', news', nx, e, a1, a2, a3, a4, a5, a6⟩
      exact ⟨h', tk', m', news', nx, e, a1, a2, a3, a4, a5, key _ _ a6⟩
    cases f with
    | ret v => exact hq
    | brk => exact hq
    | next => exact key2 hq
    | cont => exact key2 hq
  · intro c u h tk hP F₁ N₁
    exact done c.1 c.2 u h tk hP F₁ N₁
theorem tab_ok : ∀ q ∈ [PySem.Str.ofString "/", PySem.Str.ofString "/", PySem.Str.ofString "a", PySem.Str.ofString "b", PySem.Str.ofString ".", PySem.Str.ofString ".."], ∃ l, q = S l ∧ (∀ c ∈ l, c < 256) ∧ l.length ≤ 2 := by
  intro q hq
  simp only [List.mem_cons, List.not_mem_nil, or_false] at hq
  rcases hq with h | h | h | h | h | h
  · exact ⟨[47], h.trans lit_slash, by decide, by decide⟩
  · exact ⟨[47], h.trans lit_slash, by decide, by decide⟩
  · exact ⟨[97], h.trans (by decide +kernel), by decide, by decide⟩
  · exact ⟨[98], h.trans (by decide +kernel), by decide, by decide⟩
  · exact ⟨[46], h.trans lit_dot, by decide, by decide⟩
  · exact ⟨[46, 46], h.trans lit_dots, by decide, by decide⟩
theorem tab_item {value slice : PySem.Expr} {l : Addr} {vs : List Value} {ws : List PySem.Str} {i : Int} {u : Tok} {Q : Value → Shared → Prop} (ht : PyProof.Rows.IsTup s.heap l vs.toArray) (hw : StrsAre vs ws) (h0 : 0 ≤ i) (h1 : i < 6) (h6 : ws.length = 6) (hg : ∀ q ∈ ws, ∃ l, q = S l ∧ (∀ c ∈ l, c < 256) ∧ l.length ≤ 2) (h : ∀ l t', (∀ c ∈ l, c < 256) → l.length ≤ 2 → Q (.str (S l) t') s)
    (hs : subscripted slice false (.ref l) (.int i u) = operate [.ref l, .int i u] (getItem (.ref l) (.int i u)) := by with_unfolding_all rfl) :
    wpAny (model prog w) A (subscriptTail value slice (.ref l) (.int i u)) Q E s := by
  refine KTb.item_tup ht hw h0 (by omega) (by omega) (fun t' hlt => ?_) hs
  obtain ⟨l, e, h2, h3⟩ := hg (ws.getD i.toNat PySem.Str.empty) (by
    rw [List.getD_eq_getElem?_getD, List.getElem?_eq_getElem hlt]
    exact List.getElem_mem hlt)
  rw [e]
  exact h l t' h2 h3
theorem my_chr {i : Int} {t : Tok} {Q : Value → Shared → Prop} (h0 : 0 ≤ i) (h1 : i < 256) (h : ∀ (l : List Nat) t' k, (∀ c ∈ l, c < 256) → l.length ≤ 2 → Q (.str (S l) t') { s with toks := k }) : wpAny (model prog w) A (call (.builtin "chr") [.int i t]) Q E s :=
  chr_of_range h0 (by omega) (h [i.toNat] _ _ (by intro c hc; rw [List.mem_singleton.mp hc]; omega) (by simp))
end
theorem good_app {a b : List Nat} (h1 : ∀ c ∈ a, c < 256) (h2 : ∀ c ∈ b, c < 256) : ∀ c ∈ a ++ b, c < 256 := by
  intro c hc
  rcases List.mem_append.mp hc with h | h
  · exact h1 c h
  · exact h2 c h
end Mine
end

section
open PySem PySem.W PySem.Spec PySem.Calls PyProof.Rows
set_option Elab.async false
set_option maxRecDepth 100000
set_option maxHeartbeats 4000000
set_option linter.unusedVariables false
namespace Mine
local macro_rules | `(tactic| walk_at "my lit") => `(tactic| first | with_reducible exact lit_slash | with_reducible exact lit_dot | with_reducible exact lit_dots | with_reducible exact lit_nil | with_reducible exact lit_two | with_reducible exact lit_u1 | with_reducible exact lit_u2 | with_reducible exact lit_u3 | with_reducible exact lit_u4 | with_reducible exact lit_u5 | with_reducible rfl)
local macro_rules | `(tactic| walk_at "my len") => `(tactic| first | assumption | ((try simp only [List.length_take, List.length_drop, List.length_replicate, List.length_cons, List.length_nil, List.length_append]); omega) | (refine Nat.le_trans (rsL_len _ _) ?_; first | assumption | ((try simp only [List.length_take, List.length_drop, List.length_replicate, List.length_cons, List.length_nil, List.length_append]); omega)))
local macro_rules | `(tactic| walk_at "my cut") => `(tactic| with_reducible first | exact cut_drop_at _ _ | exact cut_take_at _ _ | exact cut_take_1 _ | exact cut_take_2 _ | exact cut_drop_1 _ | exact cut_drop_2 _ | exact cut_mid_12 _ | exact cut_mid_23 _ | exact cut_init _ | exact cut_final _)
local macro_rules | `(tactic| walk_at "call builtin:issubclass") => `(tactic| (k_here; k_dflt (first
  | (refine' call_iss iss_str (kitTp_N ?k1 ?k2) ?_; (case k1 => k_asm); (case k2 => k_mem); k_whole)
  | (refine' call_iss iss_bytes (kitTp_N ?k1 ?k2) ?_; (case k1 => k_asm); (case k2 => k_mem); k_whole)); intro _; (try dsimp only)))
local macro_rules | `(tactic| walk_at "call type:type") => `(tactic| ((with_reducible show wpAny _ _ (call _ [Value.bytes _ _]) _ _ _); refine call_type_of (Tx := "bytes") rfl (by decide +kernel) ?_))
local macro_rules | `(tactic| walk_at "call builtin:str.rfind") => `(tactic| (k_here; k_dflt (refine' r_rfind ?k1 ?k2 ?_; (case k1 => walk_at "my lit"); (case k2 => walk_at "my lit"); k_whole); intro _ _))
local macro_rules | `(tactic| walk_at "call builtin:str.rstrip") => `(tactic| (k_here; k_dflt (refine' r_rstrip ?k1 ?k2 ?k3 ?_; (case k1 => walk_at "my lit"); (case k2 => walk_at "my lit"); (case k3 => walk_at "my len"); k_whole); intro _ _))
local macro_rules | `(tactic| walk_at "call builtin:str.lstrip") => `(tactic| (k_here; k_dflt (refine' r_lstrip ?k1 ?k2 ?k3 ?_; (case k1 => walk_at "my lit"); (case k2 => walk_at "my lit"); (case k3 => walk_at "my len"); k_whole); intro _ _))
local macro_rules | `(tactic| walk_at "call builtin:str.strip") => `(tactic| (k_here; k_dflt (refine' r_strip ?k1 ?k2 ?k3 ?_; (case k1 => walk_at "my lit"); (case k2 => walk_at "my lit"); (case k3 => walk_at "my len"); k_whole); intro _ _))
local macro_rules | `(tactic| walk_at "call builtin:str.startswith") => `(tactic| (k_here; k_dflt (refine' r_starts ?k1 ?k2 ?_; (case k1 => walk_at "my lit"); (case k2 => walk_at "my lit"); k_whole)))
local macro_rules | `(tactic| walk_at "call builtin:str.endswith") => `(tactic| (k_here; k_dflt (refine' r_ends ?k1 ?k2 ?_; (case k1 => walk_at "my lit"); (case k2 => walk_at "my lit"); k_whole)))
local macro_rules | `(tactic| walk_at "binaryOp Mult str int") => `(tactic| (k_here; k_dflt (refine' r_mul ?k1 ?k3 ?_; (case k1 => walk_at "my lit"); (case k3 => walk_at "my len"); k_whole); intro _ _))
local macro_rules | `(tactic| walk_at "compareOp Eq str str") => `(tactic| (k_here; k_dflt (refine' r_eq ?k1 ?k2 ?_; (case k1 => walk_at "my lit"); (case k2 => walk_at "my lit"); k_whole)))
local macro_rules | `(tactic| walk_at "compareOp NotEq str str") => `(tactic| (k_here; k_dflt (refine' r_ne ?k1 ?k2 ?_; (case k1 => walk_at "my lit"); (case k2 => walk_at "my lit"); k_whole)))
local macro_rules | `(tactic| walk_at "compareOp NotIn str str") => `(tactic| (k_here; k_dflt (refine' r_notin ?k1 ?k2 ?_; (case k1 => walk_at "my lit"); (case k2 => walk_at "my lit"); k_whole)))
local macro_rules | `(tactic| walk_at "truthy str") => `(tactic| (k_here; k_dflt (refine' r_truthy ?k1 ?k3 ?_; (case k1 => walk_at "my lit"); (case k3 => walk_at "my len"); k_whole); intro _))
local macro_rules | `(tactic| walk_at "call builtin:len") => `(tactic| (k_here; (with_reducible show wpAny _ _ (call _ [Value.str _ _]) _ _ _); k_dflt (refine' r_len ?k1 ?k3 ?_; (case k1 => walk_at "my lit"); (case k3 => walk_at "my len"); k_whole); intro _ _))
local macro_rules | `(tactic| walk_at "binaryOp Add str str") => `(tactic| (k_here; k_dflt (refine' r_add ?k1 ?k2 ?k3 ?_; (case k1 => walk_at "my lit"); (case k2 => walk_at "my lit"); (case k3 => walk_at "my len"); k_whole); intro _ _))
local macro_rules | `(tactic| walk_at "inplaceOp Add str str") => `(tactic| (k_here; k_dflt (refine' r_iadd ?k1 ?k2 ?k3 ?_; (case k1 => walk_at "my lit"); (case k2 => walk_at "my lit"); (case k3 => walk_at "my len"); k_whole); intro _ _))
local macro_rules | `(tactic| walk_at "subscriptTail Name Slice str ref") => `(tactic| (k_here; (with_reducible show wpAny _ _ (subscriptTail _ (Expr.Slice none (some _) none _) (Value.str _ _) (Value.ref _)) _ _ _); (with_reducible rename Fr _ _ _ _ => F'); (with_reducible rename News _ _ _ _ => N'); k_dflt (refine' r_slice_ns (s := ⟨_, _, _, _, _⟩) F' N' ?k1 ?k2 ?k3 ?_; (case k1 => walk_at "my lit"); (case k2 => walk_at "my cut"); (case k3 => walk_at "my len"); k_whole); intro _ _ _ F9 N9))
local macro_rules | `(tactic| walk_at "subscriptTail Name Slice str ref") => `(tactic| (k_here; (with_reducible show wpAny _ _ (subscriptTail _ (Expr.Slice (some _) none none _) (Value.str _ _) (Value.ref _)) _ _ _); (with_reducible rename Fr _ _ _ _ => F'); (with_reducible rename News _ _ _ _ => N'); k_dflt (refine' r_slice_sn (s := ⟨_, _, _, _, _⟩) F' N' ?k1 ?k2 ?k3 ?_; (case k1 => walk_at "my lit"); (case k2 => walk_at "my cut"); (case k3 => walk_at "my len"); k_whole); intro _ _ _ F9 N9))
local macro_rules | `(tactic| walk_at "subscriptTail Name Slice str ref") => `(tactic| (k_here; (with_reducible show wpAny _ _ (subscriptTail _ (Expr.Slice (some _) (some _) none _) (Value.str _ _) (Value.ref _)) _ _ _); (with_reducible rename Fr _ _ _ _ => F'); (with_reducible rename News _ _ _ _ => N'); k_dflt (refine' r_slice_ss (s := ⟨_, _, _, _, _⟩) F' N' ?k1 ?k2 ?k3 ?_; (case k1 => walk_at "my lit"); (case k2 => walk_at "my cut"); (case k3 => walk_at "my len"); k_whole); intro _ _ _ F9 N9))
local macro_rules | `(tactic| walk_at "subscriptTail") => `(tactic| (k_here; (with_reducible show wpAny _ _ (subscriptTail _ (Expr.Slice _ _ none _) (Value.bytes _ _) (Value.ref _)) _ _ _); (with_reducible rename Fr _ _ _ _ => F'); (with_reducible rename News _ _ _ _ => N'); k_dflt (refine' slice_bytes (s := ⟨_, _, _, _, _⟩) F' N' ?k4 ?k5 ?k3 ?k2 ?_; (case k4 => first | exact IsPart.none | exact IsPart.int _ _); (case k5 => first | exact IsPart.none | exact IsPart.int _ _); (case k3 => first | (walk_at "my len") | (refine Nat.le_trans (m := 4096) ?_ (by decide); walk_at "my len")); (case k2 => walk_at "my cut"); k_whole); intro _ _ _ F9 N9))
local macro_rules | `(tactic| walk_at "getMethod bytes") => `(tactic| (k_here; (with_reducible first | refine meth_bytes_rfind ?_ | refine meth_bytes_rstrip ?_ | refine meth_bytes_split ?_ | refine meth_bytes_join ?_ | refine meth_bytes_startswith ?_ | refine meth_bytes_endswith ?_)))
local macro_rules | `(tactic| walk_at "call builtin:bytes.rfind") => `(tactic| (k_here; k_dflt (refine rfind_bytes ?_); intro _ _))
local macro_rules | `(tactic| walk_at "call builtin:bytes.rstrip") => `(tactic| (k_here; k_dflt (refine' rstrip_bytes ?k3 ?_; (case k3 => (refine Nat.le_trans (m := 4096) ?_ (by decide); walk_at "my len")); k_whole); intro _ _))
local macro_rules | `(tactic| walk_at "call builtin:bytes.startswith") => `(tactic| (k_here; k_dflt (refine startswith_bytes ?_); intro _))
local macro_rules | `(tactic| walk_at "call builtin:bytes.endswith") => `(tactic| (k_here; k_dflt (refine endswith_bytes ?_); intro _))
local macro_rules | `(tactic| walk_at "compareOp Eq bytes bytes") => `(tactic| (k_here; k_dflt (refine b_eq ?_)))
local macro_rules | `(tactic| walk_at "compareOp NotEq bytes bytes") => `(tactic| (k_here; k_dflt (refine b_ne ?_)))
local macro_rules | `(tactic| walk_at "truthy bytes") => `(tactic| (k_here; k_dflt (refine' b_truthy ?k3 ?_; (case k3 => walk_at "my len"); k_whole); intro _))
local macro_rules | `(tactic| walk_at "call builtin:len") => `(tactic| (k_here; (with_reducible show wpAny _ _ (call _ [Value.bytes _ _]) _ _ _); k_dflt (refine' b_len ?k3 ?_; (case k3 => walk_at "my len"); k_whole); intro _ _))
local macro_rules | `(tactic| walk_at "binaryOp Add bytes bytes") => `(tactic| (k_here; k_dflt (refine' b_add ?k3 ?_; (case k3 => walk_at "my len"); k_whole); intro _ _))
local macro_rules | `(tactic| walk_at "binaryOp Mult bytes int") => `(tactic| (k_here; k_dflt (refine' mul_bytes ?k4 ?k3 ?_; (case k4 => walk_at "my pos"); (case k3 => walk_at "my len"); k_whole); intro _ _))
local macro_rules | `(tactic| walk_at "my pos") => `(tactic| exact List.length_pos_iff.mpr (by assumption))
local macro_rules | `(tactic| walk_at "my ct") => `(tactic| exact ct_fspath_str _ _ _)
local macro_rules | `(tactic| walk_at "my ct") => `(tactic| exact ct_fspath_bytes _ _ _)
local macro_rules | `(tactic| walk_at "my ct") => `(tactic| exact ct_get_sep_str _ _ _)
local macro_rules | `(tactic| walk_at "my ct") => `(tactic| exact ct_get_sep_bytes _ _ _)
local macro_rules | `(tactic| walk_at "call ref") => `(tactic| (k_here; k_dflt (refine' ct_use ?C ?k1 ?k2 ?k3 ?k4 ?k5 ?kK ?kd ?ku ?_; (case C => walk_at "my ct"); (case k1 => k_asm); (case k2 => k_asm); (case k3 => k_asm); (case k4 => k_asm); (case k5 => k_asm); (case kK => first | exact rfl | assumption); (case kd => ktr_room); (case ku => ktr_units); k_whole); intro t9 h9 tk9 F9 N9; (try dsimp only); (try k_fold)))
local macro_rules | `(tactic| walk_at "my end") => `(tactic| (refine' ct_ret ?e0 ?e1 ?e2 ?e3 ?_; (case e0 => assumption); (case e1 => k_asm); (case e2 => k_asm); (case e3 => kcj_all)))
local macro_rules | `(tactic| walk_at "my endT") => `(tactic| (refine' ctT_ret ?e0 ?e1 ?e2 ?e3 ?e4 ?_; (case e0 => assumption); (case e1 => k_asm); (case e2 => k_asm); (case e3 => k_mem); (case e4 => kcj_all)))
local macro_rules | `(tactic| walk_at "my turn1") => `(tactic| (refine' InvEndN.intro ?F ?N ⟨rfl, _, ?_, ?rf, ?same⟩ rfl ?hn ?ho; (case F => k_asm); (case N => k_asm); (case rf => with_unfolding_all rfl); (case same => intro z h1 h2; simp [h1, h2]); (case hn => intro p hp; simp [hp]); (case ho => intro p hp; simp [hp])))
local macro_rules | `(tactic| walk_at "inplaceOp Add bytes bytes") => `(tactic| (k_here; k_dflt (refine' b_iadd ?k3 ?_; (case k3 => walk_at "my len"); k_whole); intro _ _))
local macro_rules | `(tactic| walk_at "call ref") => `(tactic| (k_here; k_dflt (refine' ctT_use ?C ?k1 ?k2 ?k3 ?k4 ?k5 ?kK ?kd ?ku ?_; (case C => walk_at "my ctT"); (case k1 => k_asm); (case k2 => k_asm); (case k3 => k_asm); (case k4 => k_asm); (case k5 => k_asm); (case kK => first | exact rfl | assumption); (case kd => ktr_room); (case ku => ktr_units); k_whole); intro q9 t7 t8 t9 h9 tk9 F9 N9; (try dsimp only); (try k_fold)))
local macro_rules | `(tactic| walk_at "my len") => `(tactic| exact Nat.le_trans (restL_len _ _) (by assumption))
local macro_rules | `(tactic| walk_at "call builtin:str.split") => `(tactic| (k_here; (with_reducible rename Fr _ _ _ _ => F'); (with_reducible rename News _ _ _ _ => N'); k_dflt (refine' r_split2 F' N' ?k1 ?k2 ?k3 ?_; (case k1 => walk_at "my lit"); (case k2 => walk_at "my lit"); (case k3 => walk_at "my len"); k_whole); intro _ _ _ hV9 hD9 F9 N9))
local macro_rules | `(tactic| walk_at "call builtin:bytes.split") => `(tactic| (k_here; (with_reducible rename Fr _ _ _ _ => F'); (with_reducible rename News _ _ _ _ => N'); k_dflt (refine' b_split2 F' N' ?k3 ?_; (case k3 => walk_at "my len"); k_whole); intro _ _ _ hV9 hD9 F9 N9))
local macro_rules | `(tactic| walk_at "truthy ref") => `(tactic| (k_here; k_dflt (refine' l_truthy ?N ?hm ?hV ?hz ?_; (case N => k_asm); (case hm => k_mem); (case hV => assumption); (case hz => assumption); k_whole); intro _))
local macro_rules | `(tactic| walk_at "subscriptTail Name UnaryOp ref int") => `(tactic| (k_here; k_dflt (refine' l_last (mk := mkS) ?N ?hm ?hV ?hz ?_; (case N => k_asm); (case hm => k_mem); (case hV => assumption); (case hz => assumption); k_whole); intro _; (try dsimp only [mkS])))
local macro_rules | `(tactic| walk_at "subscriptTail Name UnaryOp ref int") => `(tactic| (k_here; k_dflt (refine' l_last (mk := mkB) ?N ?hm ?hV ?hz ?_; (case N => k_asm); (case hm => k_mem); (case hV => assumption); (case hz => assumption); k_whole); intro _; (try dsimp only [mkB])))
local macro_rules | `(tactic| walk_at "call builtin:list.append") => `(tactic| (k_here; k_dflt (refine' l_append (mk := mkS) ?F ?N ?hu ?hV ?hz ?_; (case F => k_asm); (case N => k_asm); (case hu => assumption); (case hV => assumption); (case hz => assumption); k_whole); intro _ F9 N9 hV9))
local macro_rules | `(tactic| walk_at "call builtin:list.append") => `(tactic| (k_here; k_dflt (refine' l_append (mk := mkB) ?F ?N ?hu ?hV ?hz ?_; (case F => k_asm); (case N => k_asm); (case hu => assumption); (case hV => assumption); (case hz => assumption); k_whole); intro _ F9 N9 hV9))
local macro_rules | `(tactic| walk_at "call builtin:list.pop") => `(tactic| (k_here; k_dflt (refine' l_pop ?F ?N ?hu ?hV ?hne ?hz ?_; (case F => k_asm); (case N => k_asm); (case hu => assumption); (case hV => assumption); (case hne => assumption); (case hz => assumption); k_whole); intro _ _ F9 N9 hV9))
local macro_rules | `(tactic| walk_at "call builtin:str.join") => `(tactic| (k_here; k_dflt (refine' r_join ?k1 ?hl ?hV ?hz ?_; (case k1 => walk_at "my lit"); (case hl => exact News.isList (by k_asm) (by k_mem)); (case hV => assumption); (case hz => assumption); k_whole); intro _ _))
local macro_rules | `(tactic| walk_at "call builtin:bytes.join") => `(tactic| (k_here; k_dflt (refine' join_bytes ?hl ?hV ?hz ?_; (case hl => exact News.isList (by k_asm) (by k_mem)); (case hV => assumption); (case hz => exact Nat.le_trans (m := 16384) (by assumption) (by decide)); k_whole); intro _ _))
local macro_rules | `(tactic| walk_at "my step") => `(tactic| first | rw [step_skip1 (by assumption)] | rw [step_skip2 (by assumption)] | rw [step_none (by assumption) (by assumption) (by assumption) (by assumption) (by assumption)] | rw [step_pop (by assumption) (by assumption) (by assumption) (by assumption) (by assumption)] | rw [step_push (by assumption) (by assumption) (by first | exact .inl (by assumption) | exact .inr (.inl ⟨Decidable.not_not.mp (by assumption), Decidable.not_not.mp (by assumption)⟩) | exact .inr (.inr ⟨by assumption, by assumption⟩))])
local macro_rules | `(tactic| walk_at "my turn2") => `(tactic| (refine' InvEndN.intro ?F ?N ⟨_, _, rfl, ?V, ?same⟩ rfl ?hn ?ho; (case F => k_asm); (case N => k_asm); (case V => assumption); (case same => intro z h1; simp [h1]); (case hn => exact turn2_hn); (case ho => exact turn2_ho)))
local macro_rules | `(tactic| walk_at "exec For Name Call cons nil") => `(tactic| refine stop_of ?_)
local macro_rules | `(tactic| walk_at "pyIter ref") => `(tactic| refine stop_of ?_)
local macro_rules | `(tactic| walk_at "my endS") => `(tactic| (refine' ctS_ret ?e0 ?e1 ?e2 ?e3 ?_; (case e0 => assumption); (case e1 => k_asm); (case e2 => k_asm); (case e3 => kcj_all)))
local macro_rules | `(tactic| walk_at "call builtin:chr") => `(tactic| (k_here; (refine' my_chr ?c0 ?c1 ?_; (case c0 => exact fmod_lo _ (by decide)); (case c1 => exact fmod_hi _ (by decide))); intro l9 _ _ hg9 hl9))
local macro_rules | `(tactic| walk_at "subscriptTail Name BinOp ref int") => `(tactic| (k_here; k_dflt (refine' tab_item ?l ?w ?h0 ?h1 ?h6 ?g ?_; (case l => ktb_isTup); (case w => repeat constructor); (case h0 => exact fmod_lo _ (by decide)); (case h1 => assumption); (case h6 => rfl); (case g => exact tab_ok)); intro l9 _ hg9 hl9))
local macro_rules | `(tactic| walk_at "my turn3") => `(tactic| (refine' InvEndN.intro ?F ?N ⟨rfl, _, _, ?_, ?r1, ?r2, ?same⟩ rfl ?hn ?ho; (case F => k_asm); (case N => k_asm); (case r1 => with_unfolding_all rfl); (case r2 => with_unfolding_all rfl); (case same => intro z h1 h2 h3; simp [h1, h2, h3]); (case hn => intro p hp; simp [hp]); (case ho => intro p hp; simp [hp])))
theorem ct_signs (w : World) (n : Int) (t : Tok) : CtS w 2 158 [.int n t] (fun l => (∀ c ∈ l, c < 256) ∧ l.length ≤ 6) := by
  unfold CtS
  k_fill
  intro mean mg mb dp un gd cn cs a ccd cl outer A₀ base h₀ L m news s Q E B F X N T hk hd hu hret
  refine wpAny_call ?_
  k_dflt cell_enter
  k_steps
  refine stop_in ?_
  rename Fr _ _ _ _ => lF
  with_unfolding_all refine' For_invVF lF ?k1 ?k2 ?_
  case k1 => exact rfl
  case k2 => exact rfl
  k_whole
  k_steps
  refine stop_in ?_
  rename Fr _ _ _ _ => lF2
  rename News _ _ _ _ => lN
  rename IsRange _ _ _ _ _ _ _ _ => lR
  have hf0 := fmod_lo (if n < 0 then -n else n) (show (0 : Int) < 3 by decide)
  have hf1 := fmod_hi (if n < 0 then -n else n) (show (0 : Int) < 3 by decide)
  refine range_loop2 (y1 := Str.ofString "signs") (y2 := Str.ofString "y") (news := news) (fun i c1 c2 => ∃ l t y u, c1 = .str (S l) t ∧ c2 = .int y u ∧ (∀ c ∈ l, c < 256) ∧ l.length ≤ 2 * i) rfl lR (small_one (by decide) (by decide) (by omega) (by omega)) (rangeSize_nat _ _) lF2 lN rfl rfl (by decide) ⟨[], _, _, _, by rw [lit_nil], rfl, by simp, by simp⟩ ?turn ?done
  case turn =>
    rintro i t c1 c2 h tk own hi hoff ⟨l, t1, y, u1, rfl, rfl, hg, hl⟩ F₁ N₁
    have hl4 : l.length ≤ 6 := by omega
    clear lF2 lN lR
    try k_fold
    k_steps
    all_goals walk_at "my turn3"
    all_goals exact ⟨_, _, _, _, rfl, rfl, good_app hg (by assumption), by rw [List.length_append]; omega⟩
  rintro c1 c2 u h tk ⟨l, t1, y, u1, rfl, rfl, hg, hl⟩ F₁ N₁
  clear lF2 lN lR
  try k_fold
  k_steps
  all_goals walk_at "my endS"
  all_goals exact ⟨hg, by omega⟩

end Mine
end

section
open PySem PySem.W PySem.Spec PySem.Calls PyProof.Rows PyProof PyProof.V
set_option Elab.async false
set_option maxRecDepth 100000
set_option linter.unusedSectionVars false
set_option linter.unusedSimpArgs false
set_option linter.unusedVariables false
namespace Mine
section
variable {α : Type} [DecidableEq α] {s d : α}
theorem last_len (l : List α) : (lastL s l).length ≤ l.length + 2 := by
  unfold lastL
  have h1 := base_len s (clearL s l)
  have h2 := clear_len s l
  have h3 := rootL_len s (clearL s l)
  split <;> omega
theorem folder_len (l : List α) : (folderL s d l).length ≤ l.length + 2 := by
  unfold folderL
  have h1 := dir_len s (clearL s l)
  have h2 := clear_len s l
  have h3 := rootL_len s (dirL s (clearL s l))
  split
  · omega
  · split
    · omega
    · simp
theorem joinL_len (a b : List α) : (joinL s a b).length ≤ a.length + b.length + 1 := by
  unfold joinL
  split
  · omega
  · split <;> simp <;> omega
end
section
theorem toNat_inj : ∀ a b : UInt8, a.toNat = b.toNat → a = b := fun a b h => UInt8.toNat_inj.mp h
theorem oct_back {x : List Nat} (h : ∀ c ∈ x, c < 256) : (x.map UInt8.ofNat).map UInt8.toNat = x := by
  rw [List.map_map]
  conv => rhs; rw [← List.map_id x]
  apply List.map_congr_left
  intro c hc
  have := h c hc
  show (UInt8.ofNat c).toNat = c
  simp only [UInt8.toNat_ofNat']
  omega
theorem nat_back (x : List UInt8) : (x.map UInt8.toNat).map UInt8.ofNat = x := by
  rw [List.map_map]
  conv => rhs; rw [← List.map_id x]
  apply List.map_congr_left
  intro c _
  show UInt8.ofNat c.toNat = c
  simp
theorem nat_small (x : List UInt8) : ∀ c ∈ x.map UInt8.toNat, c < 256 := by
  intro c hc
  obtain ⟨b, _, rfl⟩ := List.mem_map.mp hc
  exact b.toNat_lt
theorem last_back {x : List Nat} (h : ∀ c ∈ x, c < 256) : lastL 47 x = (lastL 47 (x.map UInt8.ofNat)).map UInt8.toNat := by
  have e := lastL_map (s := (47 : UInt8)) toNat_inj (x.map UInt8.ofNat)
  rw [oct_back h] at e
  exact e
theorem folder_back {x : List Nat} (h : ∀ c ∈ x, c < 256) : folderL 47 46 x = (folderL 47 46 (x.map UInt8.ofNat)).map UInt8.toNat := by
  have e := folderL_map (s := (47 : UInt8)) (d := (46 : UInt8)) toNat_inj (x.map UInt8.ofNat)
  rw [oct_back h] at e
  exact e
theorem last_oct {x : List Nat} (h : ∀ c ∈ x, c < 256) : lastL 47 (x.map UInt8.ofNat) = (lastL 47 x).map UInt8.ofNat := by
  rw [last_back h, nat_back]
theorem folder_oct {x : List Nat} (h : ∀ c ∈ x, c < 256) : folderL 47 46 (x.map UInt8.ofNat) = (folderL 47 46 x).map UInt8.ofNat := by
  rw [folder_back h, nat_back]
theorem last_small {x : List Nat} (h : ∀ c ∈ x, c < 256) : ∀ c ∈ lastL 47 x, c < 256 := by
  rw [last_back h]; exact nat_small _
theorem folder_small {x : List Nat} (h : ∀ c ∈ x, c < 256) : ∀ c ∈ folderL 47 46 x, c < 256 := by
  rw [folder_back h]; exact nat_small _
theorem pieces_back {x : List Nat} (h : ∀ c ∈ x, c < 256) : piecesL 47 x = (piecesL 47 (x.map UInt8.ofNat)).map (List.map UInt8.toNat) := by
  have e := piecesL_map (s := (47 : UInt8)) toNat_inj (x.map UInt8.ofNat)
  rw [oct_back h] at e
  exact e
theorem pieces_small {x : List Nat} (h : ∀ c ∈ x, c < 256) {p : List Nat} (hp : p ∈ piecesL 47 x) : ∀ c ∈ p, c < 256 := by
  rw [pieces_back h] at hp
  obtain ⟨q, _, rfl⟩ := List.mem_map.mp hp
  exact nat_small _
theorem pieces_len {x p : List Nat} (hp : p ∈ piecesL 47 x) : p.length ≤ x.length := splitL_mem (List.mem_filter.mp hp).1
theorem pieces_count (x : List Nat) : (piecesL 47 x).length ≤ x.length + 1 := by
  have h1 := splitL_count 47 x
  have h2 := List.length_filter_le (fun p => decide (p ≠ [])) (splitL 47 x)
  unfold piecesL
  omega
theorem pieces_oct {x : List Nat} (h : ∀ c ∈ x, c < 256) {j : Nat} {p : List Nat} (hp : (piecesL 47 x)[j]? = some p) : (piecesL 47 (x.map UInt8.ofNat))[j]? = some (p.map UInt8.ofNat) := by
  rw [pieces_back h, List.getElem?_map] at hp
  cases e : (piecesL 47 (x.map UInt8.ofNat))[j]? with
  | none => rw [e] at hp; cases hp
  | some q =>
    rw [e] at hp
    have : q.map UInt8.toNat = p := by simpa using hp
    rw [← this, nat_back]
theorem pieces_oct_len {x : List Nat} (h : ∀ c ∈ x, c < 256) : (piecesL 47 (x.map UInt8.ofNat)).length = (piecesL 47 x).length := by
  rw [pieces_back h, List.length_map]
theorem lead_oct {x : List Nat} (h : ∀ c ∈ x, c < 256) : leadL 47 (x.map UInt8.ofNat) = leadL 47 x := by
  have e := leadL_map (s := (47 : UInt8)) toNat_inj (x.map UInt8.ofNat)
  rw [oct_back h] at e
  exact e.symm
theorem due_oct (n : Nat) : dueL (47 : UInt8) 46 n = (dueL 47 46 n : List Nat).map UInt8.ofNat := by
  unfold dueL
  split
  · rfl
  · split <;> rfl
theorem due_small (n : Nat) : ∀ c ∈ (dueL 47 46 n : List Nat), c < 256 := by
  unfold dueL
  split
  · decide
  · split <;> decide
theorem due_len (n : Nat) : (dueL 47 46 n : List Nat).length ≤ 2 := by
  unfold dueL
  split
  · decide
  · split <;> decide
theorem lead_len (x : List Nat) : ((x.length : Nat) : Int) - ((x.drop (leadL 47 x)).length : Nat) = (leadL 47 x : Nat) := by
  have : leadL 47 x ≤ x.length := by
    unfold leadL
    exact (List.takeWhile_sublist _).length_le
  rw [List.length_drop]
  omega
end
section
variable {prog : Program} {w : World} {A : Around} {E : Value → Shared → Prop} {s : Shared} {h₀ : Heap} {L D : Addr} {m : PySem.Str → Option Value} {news : List (Addr × Obj)}
theorem join_E (ps : List (List Nat)) : PySem.Str.join (S []) (ps.map S) = S ps.flatten := by
  induction ps with
  | nil => rfl
  | cons p q ih =>
    cases q with
    | nil => show S p = _; simp
    | cons p' q' =>
      have e : PySem.Str.join (S []) ((p :: p' :: q').map S) = S p ++ S [] ++ PySem.Str.join (S []) ((p' :: q').map S) := rfl
      rw [e, ih, append_S, append_S]
      simp
def Good6 (y : Value) : Prop := ∃ l t, y = .str (S l) t ∧ (∀ c ∈ l, c < 256) ∧ l.length ≤ 6
theorem good_all : ∀ {ys : List Value}, (∀ (i : Nat) (y : Value), ys[i]? = some y → Good6 y) → ∃ xs, VAre mkS ys xs ∧ (∀ l ∈ xs, (∀ c ∈ l, c < 256) ∧ l.length ≤ 6)
  | [], _ => ⟨[], trivial, by simp⟩
  | y :: r, h => by
    obtain ⟨l, t, e, h1, h2⟩ := h 0 y rfl
    obtain ⟨xs, h3, h4⟩ := good_all (ys := r) fun i q hq => h (i + 1) q (by simpa using hq)
    refine ⟨l :: xs, ⟨⟨t, e⟩, h3⟩, ?_⟩
    intro p hp
    rcases List.mem_cons.mp hp with rfl | hp
    · exact ⟨h1, h2⟩
    · exact h4 p hp
theorem flat_len : ∀ {xs : List (List Nat)}, (∀ l ∈ xs, l.length ≤ 6) → xs.flatten.length ≤ 6 * xs.length
  | [], _ => by simp
  | p :: q, h => by
    have h1 := h p (List.mem_cons_self ..)
    have h2 := flat_len (xs := q) fun l hl => h l (List.mem_cons_of_mem _ hl)
    simp only [List.flatten_cons, List.length_append, List.length_cons]
    omega
theorem sum_len : ∀ (ps : List (List Nat)), ((ps.map S).map (·.length)).sum = ps.flatten.length
  | [] => rfl
  | p :: q => by
    have := sum_len q
    simp only [List.map_cons, List.sum_cons, List.flatten_cons, List.length_append]
    rw [this, S_len]
theorem text_join {y : PySem.Str} {t : Tok} {ys : List Value} {Q : Value → Shared → Prop} (hy : y = S []) (hl : s.heap.IsList D ys.toArray) (hg : ∀ (i : Nat) (y : Value), ys[i]? = some y → Good6 y) (h8 : ys.length ≤ 8) (h : ∀ (x : List Nat) t' k, (∀ c ∈ x, c < 256) → x.length ≤ 48 → Q (.str (S x) t') { s with toks := k }) :
    wpAny (model prog w) A (call (.builtin "str.join") [.str y t, .ref D]) Q E s := by
  subst hy
  obtain ⟨xs, hv, hx⟩ := good_all hg
  have h1 := flat_len fun l hl => (hx l hl).2
  have h2 := hv.length
  refine join_listW (ys := xs.map S) hl (by simpa using hv.strsAre) (by rw [S_len]; decide) (by rw [sum_len, List.length_map]; omega) ?_
  have : Txt.join (S []) (xs.map S) = S xs.flatten := by
    show Builtin.Str.glued _ _ = _
    rw [StrLaws.glued_eq_join, join_E]
  rw [this]
  intro t' k
  refine h _ t' k ?_ (by omega)
  intro c hc
  obtain ⟨l, hl, hc⟩ := List.mem_flatten.mp hc
  exact (hx l hl).1 c hc
theorem len_led {vs : List Value} {n : Nat} {Q : Value → Shared → Prop} (N : News h₀ L s.heap news) (hm : (D, listOf vs.toArray n) ∈ news) (hz : vs.length ≤ 4096) (h : ∀ t' k, Q (.int ((vs.length : Nat) : Int) t') { s with toks := k }) : wpAny (model prog w) A (call (.builtin "len") [.ref D]) Q E s :=
  PyProof.Rows.len_list (News.isList N hm) (by simp; omega) (by simpa using h _ _)
theorem name_at {value slice : PySem.Expr} {u : Tok} {i : Int} {n : Nat} {vs : List Value} {xs : List (List Nat)} {Q : Value → Shared → Prop} (N : News h₀ L s.heap news) (hm : (D, listOf vs.toArray n) ∈ news) (hV : VAre mkS vs xs) (h0 : 0 ≤ i) (h1 : i < 4096) {p : List Nat} (hp : xs[i.toNat]? = some p) (h : ∀ t, Q (.str (S p) t) s)
    (hs : subscripted slice false (.ref D) (.int i u) = operate [.ref D, .int i u] (getItem (.ref D) (.int i u)) := by with_unfolding_all rfl) (hg : ∀ r, letTemporaryGo value (.ref D) r = pure () := by intro _; with_unfolding_all rfl) :
    wpAny (model prog w) A (subscriptTail value slice (.ref D) (.int i u)) Q E s := by
  obtain ⟨t, ht⟩ := hV.get i.toNat p hp
  exact PyProof.Rows.item_list (News.isList N hm) h0 (by omega) (by simpa using (show vs[i.toNat]? = some (Value.str (S p) t) from ht)) (h t) hs hg
theorem row_at {value slice : PySem.Expr} {u : Tok} {i : Int} {vs : List Value} {l : List Nat} {t : Tok} {Q : Value → Shared → Prop} (F : Fr h₀ L s.heap m) (hT : PyProof.Rows.IsTup h₀ D vs.toArray) (h0 : 0 ≤ i) (h1 : i < 4096) (hp : vs[i.toNat]? = some (.str (S l) t)) (h : Q (.str (S l) t) s)
    (hs : subscripted slice false (.ref D) (.int i u) = operate [.ref D, .int i u] (getItem (.ref D) (.int i u)) := by with_unfolding_all rfl) (hg : ∀ r, letTemporaryGo value (.ref D) r = pure () := by intro _; with_unfolding_all rfl) :
    wpAny (model prog w) A (subscriptTail value slice (.ref D) (.int i u)) Q E s := by
  have hlt : i.toNat < vs.length := (List.getElem?_eq_some_iff.mp hp).1
  refine item_tupleL (Fr.tup F hT) (by omega) (by omega) (j := i.toNat) ?_ hp h hs hg
  exact seqIndex_of h0 (by omega)
theorem eq_any {a b : Int} {t u : Tok} {Q : Value → Shared → Prop} (h : ∀ c : Bool, Q (.bool c) s) : wpAny (model prog w) A (compareOp .Eq (.int a t) (.int b u)) Q E s := PyProof.Rows.eq_int (h _)
theorem r_ne_eq {x y : PySem.Str} {t u : Tok} {a b : List Nat} {Q : Value → Shared → Prop} (hx : x = S a) (hy : y = S b) (e : a = b) (h : Q (.bool false) s) : wpAny (model prog w) A (compareOp .NotEq (.str x t) (.str y u)) Q E s :=
  r_ne hx hy (by simpa [e] using h)
theorem b_ne_eq {t u : Tok} {a b : List UInt8} {Q : Value → Shared → Prop} (e : a = b) (h : Q (.bool false) s) : wpAny (model prog w) A (compareOp .NotEq (.bytes a.toArray t) (.bytes b.toArray u)) Q E s :=
  b_ne (by simpa [e] using h)
theorem r_eq_eq {x y : PySem.Str} {t u : Tok} {a b : List Nat} {Q : Value → Shared → Prop} (hx : x = S a) (hy : y = S b) (e : a = b) (h : Q (.bool true) s) : wpAny (model prog w) A (compareOp .Eq (.str x t) (.str y u)) Q E s :=
  r_eq hx hy (by simpa [e] using h)
theorem b_eq_eq {t u : Tok} {a b : List UInt8} {Q : Value → Shared → Prop} (e : a = b) (h : Q (.bool true) s) : wpAny (model prog w) A (compareOp .Eq (.bytes a.toArray t) (.bytes b.toArray u)) Q E s :=
  b_eq (by simpa [e] using h)
end
end Mine
end

section
open PySem PySem.W PySem.Spec PySem.Calls PyProof.Rows PyProof PyProof.V
set_option Elab.async false
set_option maxRecDepth 100000
set_option linter.unusedSectionVars false
set_option linter.unusedSimpArgs false
set_option linter.unusedVariables false
namespace Mine
section
variable {prog : Program} {w : World} {A : Around} {E : Value → Shared → Prop} {s : Shared} {env : Env} {h₀ : Heap} {x : PySem.Str} {body : List Stmt} {Q : Flow → Shared → Prop}
theorem page_loop {y : PySem.Str} {D : Addr} {vs : List Value} {m₀ : PySem.Str → Option Value} {news : List (Addr × Obj)}
    (hh : A.handled = none) (ht : s.heap.IsTuple D vs.toArray) (hD : ∀ p ∈ news, p.1 ≠ D) (F : Fr h₀ env.locals s.heap m₀) (N : News h₀ env.locals s.heap news) (hyx : y ≠ x)
    (turn : ∀ (i : Nat) v c h tk own, vs[i]? = some v → OwnOff own (news.map (·.1)) → Fr h₀ env.locals h (fun z => if z = x then some v else if z = y then c else m₀ z) → News h₀ env.locals h (news ++ own) →
      wpAny (model prog w) A (execs body env) (InvPostN h₀ env.locals (fun m' nx => nx = news ∧ ∀ z, z ≠ x → z ≠ y → m' z = m₀ z) own (news.map (·.1)) { s with heap := h, toks := tk } Q) E { s with heap := h, toks := tk })
    (done : ∀ c u h tk, Fr h₀ env.locals h (fun z => if z = x then u else if z = y then c else m₀ z) → News h₀ env.locals h news → Q .next { s with heap := h, toks := tk }) :
    wpAny (model prog w) A (pyIter (.ref D)) (fun it s₂ => LoopAtV prog w A h₀ env x body Q E it s₂) E s := by
  refine tup_loop (σ := Option Value) (fun c z => if z = y then c else m₀ z) (fun _ => news) (fun _ _ => True) (m₀ y) hh ht hD F N (fun z hz => ?_) trivial ?_ (fun c u h tk _ => done c u h tk)
  · split
    · next h => rw [h]
    · rfl
  · intro i v c h tk own hi _ hoff _ F₁ N₁
    refine wpAny_mono (turn i v c h tk own hi hoff F₁ N₁) (fun f s₂ hq => ?_) fun _ _ e => e
    have key : ∀ (m' : PySem.Str → Option Value) (nx : List (Addr × Obj)), (nx = news ∧ ∀ z, z ≠ x → z ≠ y → m' z = m₀ z) → ∃ c' : Option Value, nx = news ∧ True ∧ ∀ z, z ≠ x → m' z = if z = y then c' else m₀ z := by
      rintro m' nx ⟨h1, h2⟩
      refine ⟨m' y, h1, trivial, fun z hz => ?_⟩
      by_cases h : z = y
      · rw [if_pos h, h]
      · rw [if_neg h]; exact h2 z hz h
    have key2 : ∀ {s₁ s₂ : Shared}, InvEndN h₀ env.locals (fun m' nx => nx = news ∧ ∀ z, z ≠ x → z ≠ y → m' z = m₀ z) own (news.map (·.1)) s₁ s₂ → InvEndN h₀ env.locals (fun m' nx => ∃ c' : Option Value, nx = news ∧ True ∧ ∀ z, z ≠ x → m' z = if z = y then c' else m₀ z) own (news.map (·.1)) s₁ s₂ := by
      rintro s₁ s₂ ⟨h', tk', m', news', nx, e, a1, a2, a3, a4, a5, a6⟩
      exact ⟨h', tk', m', news', nx, e, a1, a2, a3, a4, a5, key _ _ a6⟩
    cases f with
    | ret v => exact hq
    | brk => exact hq
    | next => exact key2 hq
    | cont => exact key2 hq
theorem range_loop1 {y : PySem.Str} {v1 : Value} {r : Addr} {a b st : Int} {t u v : Tok} {n : Nat} {m₀ : PySem.Str → Option Value} {news : List (Addr × Obj)} (P : Nat → Value → Prop)
    (hh : A.handled = none) (hr : IsRange s.heap r a b st t u v) (hsm : Builtin.Range.small a b st = true) (hn : Builtin.Range.rangeSize a b st = ((n : Nat) : Int)) (F : Fr h₀ env.locals s.heap m₀) (N : News h₀ env.locals s.heap news) (hy : m₀ y = some v1) (hp : P 0 v1)
    (turn : ∀ (i : Nat) t c h tk own, i < n → OwnOff own (news.map (·.1)) → P i c → Fr h₀ env.locals h (fun z => if z = x then some (.int (a + (i : Int) * st) t) else if z = y then some c else m₀ z) → News h₀ env.locals h (news ++ own) →
      wpAny (model prog w) A (execs body env) (InvPostN h₀ env.locals (fun m' nx => nx = news ∧ ∃ c', P (i + 1) c' ∧ m' y = some c' ∧ ∀ z, z ≠ x → z ≠ y → m' z = m₀ z) own (news.map (·.1)) { s with heap := h, toks := tk } Q) E { s with heap := h, toks := tk })
    (done : ∀ c u h tk, P n c → Fr h₀ env.locals h (fun z => if z = x then u else if z = y then some c else m₀ z) → News h₀ env.locals h news → Q .next { s with heap := h, toks := tk }) :
    wpAny (model prog w) A (pyIter (.ref r)) (fun it s₂ => LoopAtV prog w A h₀ env x body Q E it s₂) E s := by
  refine range_loop (σ := Value) (fun c z => if z = y then some c else m₀ z) news P v1 hh hr hsm hn F N (fun z hz => ?_) hp ?_ done
  · split
    · next h => rw [h, hy]
    · rfl
  · intro i t c h tk own hi hoff hP F₁ N₁
    refine wpAny_mono (turn i t c h tk own hi hoff hP F₁ N₁) (fun f s₂ hq => ?_) fun _ _ e => e
    have key : ∀ (m' : PySem.Str → Option Value) (nx : List (Addr × Obj)), (nx = news ∧ ∃ c', P (i + 1) c' ∧ m' y = some c' ∧ ∀ z, z ≠ x → z ≠ y → m' z = m₀ z) → (nx = news ∧ ∃ c', P (i + 1) c' ∧ ∀ z, z ≠ x → m' z = if z = y then some c' else m₀ z) := by
      rintro m' nx ⟨h1, c', h2, h3, h4⟩
      refine ⟨h1, c', h2, fun z hz => ?_⟩
      by_cases h : z = y
      · rw [if_pos h, h, h3]
      · rw [if_neg h]; exact h4 z hz h
    have key2 : ∀ {s₁ s₂ : Shared}, InvEndN h₀ env.locals (fun m' nx => nx = news ∧ ∃ c', P (i + 1) c' ∧ m' y = some c' ∧ ∀ z, z ≠ x → z ≠ y → m' z = m₀ z) own (news.map (·.1)) s₁ s₂ → InvEndN h₀ env.locals (fun m' nx => nx = news ∧ ∃ c', P (i + 1) c' ∧ ∀ z, z ≠ x → m' z = if z = y then some c' else m₀ z) own (news.map (·.1)) s₁ s₂ := by
      rintro s₁ s₂ ⟨h', tk', m', news', nx, e, a1, a2, a3, a4, a5, a6⟩
      exact ⟨h', tk', m', news', nx, e, a1, a2, a3, a4, a5, key _ _ a6⟩
    cases f with
    | ret v => exact hq
    | brk => exact hq
    | next => exact key2 hq
    | cont => exact key2 hq
end
section
variable {prog : Program} {w : World} {A : Around} {E : Value → Shared → Prop} {s : Shared} {h₀ : Heap} {L : Addr} {m : PySem.Str → Option Value} {env : Env}
theorem compT_rest {ct elt : PySem.Expr} {x : PySem.Str} {scope : Scope} {cl : List (PySem.Str × Addr)} {St : List (Addr × Obj) → Prop} {Fin : List Value → List (Addr × Obj) → Prop} {news : List (Addr × Obj)} {vs : List Value} {xs : List (List Nat)} (hV : VAre mkS vs xs)
    (turn : ∀ (a : List Nat) t I oI C oC D m₂ ys h tk (E' : Value → Shared → Prop), a ∈ xs → LCg.NsObj oC m₂ → m₂ x = some (.str (S a) t) → Fr h₀ L h m → News h₀ L h ((I, oI) :: (C, oC) :: (D, LCg.lst ys) :: news) → LCg.Off3 I C D news →
      wpAny (model prog w) A (isTrue ct (compEnvC scope cl C env) (eval ct (compEnvC scope cl C env))) (fun ok s' => if ok = true then
        wpAny (model prog w) A (eval elt (compEnvC scope cl C env)) (TurnP h₀ L m s ((I, oI) :: (C, oC) :: (D, LCg.lst ys) :: news) (fun y => a ≠ [] ∧ ∃ t', y = .str (S a) t')) E' s'
        else TurnP h₀ L m s ((I, oI) :: (C, oC) :: (D, LCg.lst ys) :: news) (fun _ => a = []) Value.none s') E' { s with heap := h, toks := tk })
    (hS : St news) (fin : ∀ ys, VAre mkS ys (xs.filter fun p => decide (p ≠ [])) → Fin ys news) : LCt.CompRestT prog w A h₀ L m env ct elt x scope cl s St (fun i v => vs.toArray[i]? = some v) Fin vs.toArray.size 0 [] news := by
  have hl := hV.length
  have key : ∀ (j i : Nat) (ys : List Value), i + j = xs.length → VAre mkS ys ((xs.take i).filter fun p => decide (p ≠ [])) → LCt.CompRestT prog w A h₀ L m env ct elt x scope cl s St (fun i v => vs.toArray[i]? = some v) Fin j i ys news := by
    intro j
    induction j with
    | zero =>
      intro i ys hi hv
      rw [List.take_of_length_le (by omega)] at hv
      exact LCt.CompRestT.zero (fin ys hv)
    | succ j ih =>
      intro i ys hi hv
      refine LCt.CompRestT.succ ?_
      intro v I oI C oC D m₂ h tk E' hv1 hC hx F N off ne
      have hlt : i < xs.length := by omega
      have ha : xs[i]? = some xs[i] := List.getElem?_eq_getElem hlt
      obtain ⟨t, ht⟩ := hV.get i _ ha
      have e : v = .str (S xs[i]) t := by
        have h2 : vs[i]? = some v := by simpa using hv1
        rw [ht] at h2
        exact (Option.some.inj h2).symm
      subst e
      have ht1 : xs.take (i + 1) = xs.take i ++ [xs[i]] := by rw [List.take_succ_eq_append_getElem hlt]
      refine wpAny_mono (turn _ t I oI C oC D m₂ ys h tk E' (List.getElem_mem hlt) hC hx F N off) (fun ok s₂ hq => ?_) fun _ _ e => e
      by_cases hok : ok = true
      · rw [if_pos hok] at hq ⊢
        refine wpAny_mono hq (fun y s₃ hr => ?_) fun _ _ e => e
        obtain ⟨h', tk', e, F', N', hne, t', hy⟩ := hr
        refine ⟨h', tk', news, e, F', N', off, hS, ih (i + 1) _ (by omega) ?_⟩
        rw [ht1, List.filter_append, hy]
        rw [show [xs[i]].filter (fun p => decide (p ≠ [])) = [xs[i]] by simp [hne]]
        exact VAre.app (mk := mkS) hv
      · rw [if_neg hok] at hq ⊢
        obtain ⟨h', tk', e, F', N', hne⟩ := hq
        refine ⟨h', tk', news, e, F', N', off, hS, ih (i + 1) _ (by omega) ?_⟩
        rw [ht1, List.filter_append]
        rw [show [xs[i]].filter (fun p => decide (p ≠ [])) = [] by simp [hne], List.append_nil]
        exact hv
  have h0 := key xs.length 0 [] (by omega) trivial
  have e : vs.toArray.size = xs.length := by simp [hl]
  rw [e]
  exact h0
end
end Mine
end

section
open PySem PySem.W PySem.Spec PySem.Calls PyProof.Rows
set_option Elab.async false
set_option maxRecDepth 100000
set_option maxHeartbeats 4000000
set_option linter.unusedVariables false
namespace Mine
local macro_rules | `(tactic| walk_at "my lit") => `(tactic| first | with_reducible exact lit_slash | with_reducible exact lit_dot | with_reducible exact lit_dots | with_reducible exact lit_nil | with_reducible exact lit_two | with_reducible exact lit_u1 | with_reducible exact lit_u2 | with_reducible exact lit_u3 | with_reducible exact lit_u4 | with_reducible exact lit_u5 | with_reducible rfl)
local macro_rules | `(tactic| walk_at "my len") => `(tactic| first | assumption | ((try simp only [List.length_take, List.length_drop, List.length_replicate, List.length_cons, List.length_nil, List.length_append]); omega) | (refine Nat.le_trans (rsL_len _ _) ?_; first | assumption | ((try simp only [List.length_take, List.length_drop, List.length_replicate, List.length_cons, List.length_nil, List.length_append]); omega)))
local macro_rules | `(tactic| walk_at "my cut") => `(tactic| with_reducible first | exact cut_drop_at _ _ | exact cut_take_at _ _ | exact cut_take_1 _ | exact cut_take_2 _ | exact cut_drop_1 _ | exact cut_drop_2 _ | exact cut_mid_12 _ | exact cut_mid_23 _ | exact cut_init _ | exact cut_final _)
local macro_rules | `(tactic| walk_at "call builtin:issubclass") => `(tactic| (k_here; k_dflt (first
  | (refine' call_iss iss_str (kitTp_N ?k1 ?k2) ?_; (case k1 => k_asm); (case k2 => k_mem); k_whole)
  | (refine' call_iss iss_bytes (kitTp_N ?k1 ?k2) ?_; (case k1 => k_asm); (case k2 => k_mem); k_whole)); intro _; (try dsimp only)))
local macro_rules | `(tactic| walk_at "call type:type") => `(tactic| ((with_reducible show wpAny _ _ (call _ [Value.bytes _ _]) _ _ _); refine call_type_of (Tx := "bytes") rfl (by decide +kernel) ?_))
local macro_rules | `(tactic| walk_at "call builtin:str.rfind") => `(tactic| (k_here; k_dflt (refine' r_rfind ?k1 ?k2 ?_; (case k1 => walk_at "my lit"); (case k2 => walk_at "my lit"); k_whole); intro _ _))
local macro_rules | `(tactic| walk_at "call builtin:str.rstrip") => `(tactic| (k_here; k_dflt (refine' r_rstrip ?k1 ?k2 ?k3 ?_; (case k1 => walk_at "my lit"); (case k2 => walk_at "my lit"); (case k3 => walk_at "my len"); k_whole); intro _ _))
local macro_rules | `(tactic| walk_at "call builtin:str.lstrip") => `(tactic| (k_here; k_dflt (refine' r_lstrip ?k1 ?k2 ?k3 ?_; (case k1 => walk_at "my lit"); (case k2 => walk_at "my lit"); (case k3 => walk_at "my len"); k_whole); intro _ _))
local macro_rules | `(tactic| walk_at "call builtin:str.strip") => `(tactic| (k_here; k_dflt (refine' r_strip ?k1 ?k2 ?k3 ?_; (case k1 => walk_at "my lit"); (case k2 => walk_at "my lit"); (case k3 => walk_at "my len"); k_whole); intro _ _))
local macro_rules | `(tactic| walk_at "call builtin:str.startswith") => `(tactic| (k_here; k_dflt (refine' r_starts ?k1 ?k2 ?_; (case k1 => walk_at "my lit"); (case k2 => walk_at "my lit"); k_whole)))
local macro_rules | `(tactic| walk_at "call builtin:str.endswith") => `(tactic| (k_here; k_dflt (refine' r_ends ?k1 ?k2 ?_; (case k1 => walk_at "my lit"); (case k2 => walk_at "my lit"); k_whole)))
local macro_rules | `(tactic| walk_at "binaryOp Mult str int") => `(tactic| (k_here; k_dflt (refine' r_mul ?k1 ?k3 ?_; (case k1 => walk_at "my lit"); (case k3 => walk_at "my len"); k_whole); intro _ _))
local macro_rules | `(tactic| walk_at "compareOp Eq str str") => `(tactic| (k_here; k_dflt (refine' r_eq ?k1 ?k2 ?_; (case k1 => walk_at "my lit"); (case k2 => walk_at "my lit"); k_whole)))
local macro_rules | `(tactic| walk_at "compareOp NotEq str str") => `(tactic| (k_here; k_dflt (refine' r_ne ?k1 ?k2 ?_; (case k1 => walk_at "my lit"); (case k2 => walk_at "my lit"); k_whole)))
local macro_rules | `(tactic| walk_at "compareOp NotIn str str") => `(tactic| (k_here; k_dflt (refine' r_notin ?k1 ?k2 ?_; (case k1 => walk_at "my lit"); (case k2 => walk_at "my lit"); k_whole)))
local macro_rules | `(tactic| walk_at "truthy str") => `(tactic| (k_here; k_dflt (refine' r_truthy ?k1 ?k3 ?_; (case k1 => walk_at "my lit"); (case k3 => walk_at "my len"); k_whole); intro _))
local macro_rules | `(tactic| walk_at "call builtin:len") => `(tactic| (k_here; (with_reducible show wpAny _ _ (call _ [Value.str _ _]) _ _ _); k_dflt (refine' r_len ?k1 ?k3 ?_; (case k1 => walk_at "my lit"); (case k3 => walk_at "my len"); k_whole); intro _ _))
local macro_rules | `(tactic| walk_at "binaryOp Add str str") => `(tactic| (k_here; k_dflt (refine' r_add ?k1 ?k2 ?k3 ?_; (case k1 => walk_at "my lit"); (case k2 => walk_at "my lit"); (case k3 => walk_at "my len"); k_whole); intro _ _))
local macro_rules | `(tactic| walk_at "inplaceOp Add str str") => `(tactic| (k_here; k_dflt (refine' r_iadd ?k1 ?k2 ?k3 ?_; (case k1 => walk_at "my lit"); (case k2 => walk_at "my lit"); (case k3 => walk_at "my len"); k_whole); intro _ _))
local macro_rules | `(tactic| walk_at "subscriptTail Name Slice str ref") => `(tactic| (k_here; (with_reducible show wpAny _ _ (subscriptTail _ (Expr.Slice none (some _) none _) (Value.str _ _) (Value.ref _)) _ _ _); (with_reducible rename Fr _ _ _ _ => F'); (with_reducible rename News _ _ _ _ => N'); k_dflt (refine' r_slice_ns (s := ⟨_, _, _, _, _⟩) F' N' ?k1 ?k2 ?k3 ?_; (case k1 => walk_at "my lit"); (case k2 => walk_at "my cut"); (case k3 => walk_at "my len"); k_whole); intro _ _ _ F9 N9))
local macro_rules | `(tactic| walk_at "subscriptTail Name Slice str ref") => `(tactic| (k_here; (with_reducible show wpAny _ _ (subscriptTail _ (Expr.Slice (some _) none none _) (Value.str _ _) (Value.ref _)) _ _ _); (with_reducible rename Fr _ _ _ _ => F'); (with_reducible rename News _ _ _ _ => N'); k_dflt (refine' r_slice_sn (s := ⟨_, _, _, _, _⟩) F' N' ?k1 ?k2 ?k3 ?_; (case k1 => walk_at "my lit"); (case k2 => walk_at "my cut"); (case k3 => walk_at "my len"); k_whole); intro _ _ _ F9 N9))
local macro_rules | `(tactic| walk_at "subscriptTail Name Slice str ref") => `(tactic| (k_here; (with_reducible show wpAny _ _ (subscriptTail _ (Expr.Slice (some _) (some _) none _) (Value.str _ _) (Value.ref _)) _ _ _); (with_reducible rename Fr _ _ _ _ => F'); (with_reducible rename News _ _ _ _ => N'); k_dflt (refine' r_slice_ss (s := ⟨_, _, _, _, _⟩) F' N' ?k1 ?k2 ?k3 ?_; (case k1 => walk_at "my lit"); (case k2 => walk_at "my cut"); (case k3 => walk_at "my len"); k_whole); intro _ _ _ F9 N9))
local macro_rules | `(tactic| walk_at "subscriptTail") => `(tactic| (k_here; (with_reducible show wpAny _ _ (subscriptTail _ (Expr.Slice _ _ none _) (Value.bytes _ _) (Value.ref _)) _ _ _); (with_reducible rename Fr _ _ _ _ => F'); (with_reducible rename News _ _ _ _ => N'); k_dflt (refine' slice_bytes (s := ⟨_, _, _, _, _⟩) F' N' ?k4 ?k5 ?k3 ?k2 ?_; (case k4 => first | exact IsPart.none | exact IsPart.int _ _); (case k5 => first | exact IsPart.none | exact IsPart.int _ _); (case k3 => first | (walk_at "my len") | (refine Nat.le_trans (m := 4096) ?_ (by decide); walk_at "my len")); (case k2 => walk_at "my cut"); k_whole); intro _ _ _ F9 N9))
local macro_rules | `(tactic| walk_at "getMethod bytes") => `(tactic| (k_here; (with_reducible first | refine meth_bytes_rfind ?_ | refine meth_bytes_rstrip ?_ | refine meth_bytes_split ?_ | refine meth_bytes_join ?_ | refine meth_bytes_startswith ?_ | refine meth_bytes_endswith ?_)))
local macro_rules | `(tactic| walk_at "call builtin:bytes.rfind") => `(tactic| (k_here; k_dflt (refine rfind_bytes ?_); intro _ _))
local macro_rules | `(tactic| walk_at "call builtin:bytes.rstrip") => `(tactic| (k_here; k_dflt (refine' rstrip_bytes ?k3 ?_; (case k3 => (refine Nat.le_trans (m := 4096) ?_ (by decide); walk_at "my len")); k_whole); intro _ _))
local macro_rules | `(tactic| walk_at "call builtin:bytes.startswith") => `(tactic| (k_here; k_dflt (refine startswith_bytes ?_); intro _))
local macro_rules | `(tactic| walk_at "call builtin:bytes.endswith") => `(tactic| (k_here; k_dflt (refine endswith_bytes ?_); intro _))
local macro_rules | `(tactic| walk_at "compareOp Eq bytes bytes") => `(tactic| (k_here; k_dflt (refine b_eq ?_)))
local macro_rules | `(tactic| walk_at "compareOp NotEq bytes bytes") => `(tactic| (k_here; k_dflt (refine b_ne ?_)))
local macro_rules | `(tactic| walk_at "truthy bytes") => `(tactic| (k_here; k_dflt (refine' b_truthy ?k3 ?_; (case k3 => walk_at "my len"); k_whole); intro _))
local macro_rules | `(tactic| walk_at "call builtin:len") => `(tactic| (k_here; (with_reducible show wpAny _ _ (call _ [Value.bytes _ _]) _ _ _); k_dflt (refine' b_len ?k3 ?_; (case k3 => walk_at "my len"); k_whole); intro _ _))
local macro_rules | `(tactic| walk_at "binaryOp Add bytes bytes") => `(tactic| (k_here; k_dflt (refine' b_add ?k3 ?_; (case k3 => walk_at "my len"); k_whole); intro _ _))
local macro_rules | `(tactic| walk_at "binaryOp Mult bytes int") => `(tactic| (k_here; k_dflt (refine' mul_bytes ?k4 ?k3 ?_; (case k4 => walk_at "my pos"); (case k3 => walk_at "my len"); k_whole); intro _ _))
local macro_rules | `(tactic| walk_at "my pos") => `(tactic| exact List.length_pos_iff.mpr (by assumption))
local macro_rules | `(tactic| walk_at "my ct") => `(tactic| exact ct_fspath_str _ _ _)
local macro_rules | `(tactic| walk_at "my ct") => `(tactic| exact ct_fspath_bytes _ _ _)
local macro_rules | `(tactic| walk_at "my ct") => `(tactic| exact ct_get_sep_str _ _ _)
local macro_rules | `(tactic| walk_at "my ct") => `(tactic| exact ct_get_sep_bytes _ _ _)
local macro_rules | `(tactic| walk_at "call ref") => `(tactic| (k_here; k_dflt (refine' ct_use ?C ?k1 ?k2 ?k3 ?k4 ?k5 ?kK ?kd ?ku ?_; (case C => walk_at "my ct"); (case k1 => k_asm); (case k2 => k_asm); (case k3 => k_asm); (case k4 => k_asm); (case k5 => k_asm); (case kK => first | exact rfl | assumption); (case kd => ktr_room); (case ku => ktr_units); k_whole); intro t9 h9 tk9 F9 N9; (try dsimp only); (try k_fold)))
local macro_rules | `(tactic| walk_at "my end") => `(tactic| (refine' ct_ret ?e0 ?e1 ?e2 ?e3 ?_; (case e0 => assumption); (case e1 => k_asm); (case e2 => k_asm); (case e3 => kcj_all)))
local macro_rules | `(tactic| walk_at "my endT") => `(tactic| (refine' ctT_ret ?e0 ?e1 ?e2 ?e3 ?e4 ?_; (case e0 => assumption); (case e1 => k_asm); (case e2 => k_asm); (case e3 => k_mem); (case e4 => kcj_all)))
local macro_rules | `(tactic| walk_at "my turn1") => `(tactic| (refine' InvEndN.intro ?F ?N ⟨rfl, _, ?_, ?rf, ?same⟩ rfl ?hn ?ho; (case F => k_asm); (case N => k_asm); (case rf => with_unfolding_all rfl); (case same => intro z h1 h2; simp [h1, h2]); (case hn => intro p hp; simp [hp]); (case ho => intro p hp; simp [hp])))
local macro_rules | `(tactic| walk_at "inplaceOp Add bytes bytes") => `(tactic| (k_here; k_dflt (refine' b_iadd ?k3 ?_; (case k3 => walk_at "my len"); k_whole); intro _ _))
local macro_rules | `(tactic| walk_at "call ref") => `(tactic| (k_here; k_dflt (refine' ctT_use ?C ?k1 ?k2 ?k3 ?k4 ?k5 ?kK ?kd ?ku ?_; (case C => walk_at "my ctT"); (case k1 => k_asm); (case k2 => k_asm); (case k3 => k_asm); (case k4 => k_asm); (case k5 => k_asm); (case kK => first | exact rfl | assumption); (case kd => ktr_room); (case ku => ktr_units); k_whole); intro q9 t7 t8 t9 h9 tk9 F9 N9; (try dsimp only); (try k_fold)))
local macro_rules | `(tactic| walk_at "my len") => `(tactic| exact Nat.le_trans (restL_len _ _) (by assumption))
local macro_rules | `(tactic| walk_at "call builtin:str.split") => `(tactic| (k_here; (with_reducible rename Fr _ _ _ _ => F'); (with_reducible rename News _ _ _ _ => N'); k_dflt (refine' r_split2 F' N' ?k1 ?k2 ?k3 ?_; (case k1 => walk_at "my lit"); (case k2 => walk_at "my lit"); (case k3 => walk_at "my len"); k_whole); intro _ _ _ hV9 hD9 F9 N9))
local macro_rules | `(tactic| walk_at "call builtin:bytes.split") => `(tactic| (k_here; (with_reducible rename Fr _ _ _ _ => F'); (with_reducible rename News _ _ _ _ => N'); k_dflt (refine' b_split2 F' N' ?k3 ?_; (case k3 => walk_at "my len"); k_whole); intro _ _ _ hV9 hD9 F9 N9))
local macro_rules | `(tactic| walk_at "truthy ref") => `(tactic| (k_here; k_dflt (refine' l_truthy ?N ?hm ?hV ?hz ?_; (case N => k_asm); (case hm => k_mem); (case hV => assumption); (case hz => assumption); k_whole); intro _))
local macro_rules | `(tactic| walk_at "subscriptTail Name UnaryOp ref int") => `(tactic| (k_here; k_dflt (refine' l_last (mk := mkS) ?N ?hm ?hV ?hz ?_; (case N => k_asm); (case hm => k_mem); (case hV => assumption); (case hz => assumption); k_whole); intro _; (try dsimp only [mkS])))
local macro_rules | `(tactic| walk_at "subscriptTail Name UnaryOp ref int") => `(tactic| (k_here; k_dflt (refine' l_last (mk := mkB) ?N ?hm ?hV ?hz ?_; (case N => k_asm); (case hm => k_mem); (case hV => assumption); (case hz => assumption); k_whole); intro _; (try dsimp only [mkB])))
local macro_rules | `(tactic| walk_at "call builtin:list.append") => `(tactic| (k_here; k_dflt (refine' l_append (mk := mkS) ?F ?N ?hu ?hV ?hz ?_; (case F => k_asm); (case N => k_asm); (case hu => assumption); (case hV => assumption); (case hz => assumption); k_whole); intro _ F9 N9 hV9))
local macro_rules | `(tactic| walk_at "call builtin:list.append") => `(tactic| (k_here; k_dflt (refine' l_append (mk := mkB) ?F ?N ?hu ?hV ?hz ?_; (case F => k_asm); (case N => k_asm); (case hu => assumption); (case hV => assumption); (case hz => assumption); k_whole); intro _ F9 N9 hV9))
local macro_rules | `(tactic| walk_at "call builtin:list.pop") => `(tactic| (k_here; k_dflt (refine' l_pop ?F ?N ?hu ?hV ?hne ?hz ?_; (case F => k_asm); (case N => k_asm); (case hu => assumption); (case hV => assumption); (case hne => assumption); (case hz => assumption); k_whole); intro _ _ F9 N9 hV9))
local macro_rules | `(tactic| walk_at "call builtin:str.join") => `(tactic| (k_here; k_dflt (refine' r_join ?k1 ?hl ?hV ?hz ?_; (case k1 => walk_at "my lit"); (case hl => exact News.isList (by k_asm) (by k_mem)); (case hV => assumption); (case hz => assumption); k_whole); intro _ _))
local macro_rules | `(tactic| walk_at "call builtin:bytes.join") => `(tactic| (k_here; k_dflt (refine' join_bytes ?hl ?hV ?hz ?_; (case hl => exact News.isList (by k_asm) (by k_mem)); (case hV => assumption); (case hz => exact Nat.le_trans (m := 16384) (by assumption) (by decide)); k_whole); intro _ _))
local macro_rules | `(tactic| walk_at "my step") => `(tactic| first | rw [step_skip1 (by assumption)] | rw [step_skip2 (by assumption)] | rw [step_none (by assumption) (by assumption) (by assumption) (by assumption) (by assumption)] | rw [step_pop (by assumption) (by assumption) (by assumption) (by assumption) (by assumption)] | rw [step_push (by assumption) (by assumption) (by first | exact .inl (by assumption) | exact .inr (.inl ⟨Decidable.not_not.mp (by assumption), Decidable.not_not.mp (by assumption)⟩) | exact .inr (.inr ⟨by assumption, by assumption⟩))])
local macro_rules | `(tactic| walk_at "my turn2") => `(tactic| (refine' InvEndN.intro ?F ?N ⟨_, _, rfl, ?V, ?same⟩ rfl ?hn ?ho; (case F => k_asm); (case N => k_asm); (case V => assumption); (case same => intro z h1; simp [h1]); (case hn => exact turn2_hn); (case ho => exact turn2_ho)))
local macro_rules | `(tactic| walk_at "exec For Name Call cons nil") => `(tactic| refine stop_of ?_)
local macro_rules | `(tactic| walk_at "exec For Name Name cons nil") => `(tactic| refine stop_of ?_)
local macro_rules | `(tactic| walk_at "pyIter ref") => `(tactic| refine stop_of ?_)
local macro_rules | `(tactic| walk_at "CompSrc") => `(tactic| refine stop_of ?_)
local macro_rules | `(tactic| walk_at "CompSrcT") => `(tactic| refine stop_of ?_)
def NumP (h₀ : Heap) (L : Addr) (m : PySem.Str → Option Value) (s : Shared) (v : Value) (s₂ : Shared) : Prop :=
  ∃ (D : Addr) (ys : List Value) (n : Nat) (h' : Heap) (tk' : Nat), v = .ref D ∧ s₂ = { s with heap := h', toks := tk' } ∧ Fr h₀ L h' m ∧ News h₀ L h' [(D, W.listOf ys.toArray n)] ∧ (∀ (i : Nat) (y : Value), ys[i]? = some y → ∃ k t, y = .int k t) ∧ ys.length ≤ 8
theorem num_end {h₀ h' : Heap} {L D : Addr} {m : PySem.Str → Option Value} {s : Shared} {ys : List Value} {n tk' : Nat} (F : Fr h₀ L h' m) (N : News h₀ L h' [(D, W.listOf ys.toArray n)]) (hi : ∀ (i : Nat) (y : Value), ys[i]? = some y → ∃ k t, y = .int k t) (h8 : ys.length ≤ 8) : NumP h₀ L m s (.ref D) { s with heap := h', toks := tk' } := ⟨D, ys, n, h', tk', rfl, rfl, F, N, hi, h8⟩
theorem num_cut {M : Model} {A : Around} {t : Sem Value} {h₀ : Heap} {L : Addr} {m : PySem.Str → Option Value} {s : Shared} {Q E : Value → Shared → Prop} (F : Fr h₀ L s.heap m) (h : wpAny M A t (NumP h₀ L m s) E s)
    (k : ∀ (D : Addr) (ys : List Value) (n : Nat) (h' : Heap) (tk' : Nat), Fr h₀ L h' m → News h₀ L h' [(D, W.listOf ys.toArray n)] → (∀ (i : Nat) (y : Value), ys[i]? = some y → ∃ k t, y = .int k t) → ys.length ≤ 8 → Q (.ref D) { s with heap := h', toks := tk' }) : wpAny M A t Q E s :=
  wpAny_mono h (fun v s₂ hq => by obtain ⟨D, ys, n, h', tk', rfl, rfl, F', N', hi, h8⟩ := hq; exact k D ys n h' tk' F' N' hi h8) fun _ _ e => e
theorem ints_get {vs : List Value} {ns : List Int} (h : IntsAre vs ns) : ∀ (i : Nat) (y : Value), vs[i]? = some y → ∃ k t, y = .int k t := by
  induction h with
  | nil => intro i y hy; simp at hy
  | cons n t r ih =>
    intro i y hy
    cases i with
    | zero => exact ⟨n, t, by simpa using hy.symm⟩
    | succ i => exact ih i y (by simpa using hy)
theorem ints_len {vs : List Value} {ns : List Int} (h : IntsAre vs (ns.take 8)) : vs.length ≤ 8 := by
  rw [h.length, List.length_take]
  omega
theorem ints_three (a b c : Int) (t u v : Tok) : IntsAre [.int a t, .int b u, .int c v] [a, b, c] := .cons _ _ (.cons _ _ (.cons _ _ .nil))
local macro_rules | `(tactic| walk_at "eval ListComp") => `(tactic| (k_here; k_dflt (refine LCg.ListComp_U (F₀ := by k_asm) (by with_unfolding_all rfl) (by decide) (by rfl) (by decide) (by rfl) ?_)))
local macro_rules | `(tactic| walk_at "call ref") => `(tactic| (k_here; k_dflt (refine' ctS_use (ct_signs _ _ _) ?k1 ?k2 ?k3 ?k4 ?k5 ?kK ?kd ?ku ?_; (case k1 => k_asm); (case k2 => k_asm); (case k3 => k_asm); (case k4 => k_asm); (case k5 => k_asm); (case kK => first | exact rfl | assumption); (case kd => ktr_room); (case ku => ktr_units); k_whole); intro l9 t9 h9 tk9 hg9 F9 N9; (try dsimp only); (try k_fold)))
local macro_rules | `(tactic| walk_at "my comp") => `(tactic| (refine turnP ?cF ?cN ?_; (case cF => k_asm); (case cN => k_asm)))
local macro_rules | `(tactic| walk_at "call builtin:str.join") => `(tactic| refine stop_of ?_)
local macro_rules | `(tactic| walk_at "compareOp Eq int int") => `(tactic| (k_here; (with_reducible show wpAny _ _ (compareOp CmpOp.Eq (Value.int (Int.fmod _ _) _) (Value.int _ _)) _ _ _); (refine eq_any ?_); intro b9))
local macro_rules | `(tactic| walk_at "my eq") => `(tactic| first | with_reducible rfl | with_reducible assumption)
local macro_rules | `(tactic| walk_at "compareOp NotEq str str") => `(tactic| (k_here; k_dflt (refine' r_ne_eq ?k1 ?k2 ?k3 ?_; (case k1 => walk_at "my lit"); (case k2 => walk_at "my lit"); (case k3 => walk_at "my eq"); k_whole)))
local macro_rules | `(tactic| walk_at "compareOp NotEq bytes bytes") => `(tactic| (k_here; k_dflt (refine' b_ne_eq ?k3 ?_; (case k3 => walk_at "my eq"); k_whole)))
local macro_rules | `(tactic| walk_at "compareOp Eq str str") => `(tactic| (k_here; k_dflt (refine' r_eq_eq ?k1 ?k2 ?k3 ?_; (case k1 => walk_at "my lit"); (case k2 => walk_at "my lit"); (case k3 => walk_at "my eq"); k_whole)))
local macro_rules | `(tactic| walk_at "compareOp Eq bytes bytes") => `(tactic| (k_here; k_dflt (refine' b_eq_eq ?k3 ?_; (case k3 => walk_at "my eq"); k_whole)))
local macro_rules | `(tactic| walk_at "my ct") => `(tactic| (refine' ct_base_steps _ _ ?z1 _; (case z1 => with_reducible assumption)))
local macro_rules | `(tactic| walk_at "my ct") => `(tactic| (refine' ct_folder_steps _ _ ?z1 _; (case z1 => with_reducible assumption)))
local macro_rules | `(tactic| walk_at "my ct") => `(tactic| (refine' ct_last_str _ _ ?z1 _; (case z1 => with_reducible assumption)))
local macro_rules | `(tactic| walk_at "my ct") => `(tactic| (refine' ct_last_bytes _ _ ?z1 _; (case z1 => with_reducible assumption)))
local macro_rules | `(tactic| walk_at "my ct") => `(tactic| (refine' ct_folder_str _ _ ?z1 _; (case z1 => with_reducible assumption)))
local macro_rules | `(tactic| walk_at "my ct") => `(tactic| (refine' ct_folder_bytes _ _ ?z1 _; (case z1 => with_reducible assumption)))
local macro_rules | `(tactic| walk_at "my ct") => `(tactic| (refine' ct_normpath_str _ _ ?z1 _; (case z1 => with_reducible assumption)))
local macro_rules | `(tactic| walk_at "my ct") => `(tactic| (refine' ct_normpath_bytes _ _ ?z1 _; (case z1 => with_reducible assumption)))
local macro_rules | `(tactic| walk_at "my ct") => `(tactic| (refine' ct_join_str _ _ _ ?z1 ?z2 _ _; (case z1 => with_reducible assumption); (case z2 => with_reducible assumption)))
local macro_rules | `(tactic| walk_at "my ct") => `(tactic| (refine' ct_join_bytes _ _ _ ?z1 ?z2 _ _; (case z1 => with_reducible assumption); (case z2 => with_reducible assumption)))
local macro_rules | `(tactic| walk_at "my ct") => `(tactic| (refine' ct_kind_slit _ _ _ ?e _; (case e => walk_at "my lit")))
local macro_rules | `(tactic| walk_at "my ct") => `(tactic| (refine' ct_kind_blit _ _ _ ?e ?z1 ?z2 _; (case e => walk_at "my lit"); (case z1 => with_reducible assumption); (case z2 => with_reducible assumption)))
local macro_rules | `(tactic| walk_at "subscriptTail Name Constant ref int") => `(tactic| (k_here; k_dflt (refine' row_at ?F ?hT ?h0 ?h1 ?hp ?_; (case F => k_asm); (case hT => with_reducible assumption); (case h0 => decide); (case h1 => decide); (case hp => exact rfl); k_whole)))
theorem hn_app {news own : List (Addr × Obj)} : ∀ p ∈ news, p ∈ news ++ own := fun _ hp => List.mem_append_left _ hp
theorem ho_app {news own : List (Addr × Obj)} : ∀ p ∈ own, p ∈ news ++ own := fun _ hp => List.mem_append_right _ hp
theorem ho_refl {own : List (Addr × Obj)} : ∀ p ∈ own, p ∈ own := fun _ hp => hp
theorem ho_cons {q : Addr × Obj} {own l : List (Addr × Obj)} (h : ∀ p ∈ own, p ∈ l) : ∀ p ∈ own, p ∈ q :: l := fun p hp => List.mem_cons_of_mem _ (h p hp)
local macro_rules | `(tactic| walk_at "my turn4") => `(tactic| (refine' InvEndN.intro ?F ?N ⟨rfl, ?same⟩ rfl ?hn ?ho; (case F => k_asm); (case N => k_asm); (case same => intro z h1 h2; simp [h1, h2]); (case hn => exact hn_app); (case ho => repeat (first | with_reducible exact ho_app | with_reducible exact ho_refl | refine ho_cons ?_))))
def RowOk (l0 l1 l2 : List Nat) : Prop := folderL 47 46 l0 = l1 ∧ lastL 47 l0 = l2 ∧ l0.length ≤ 100 ∧ l1.length ≤ 100 ∧ l2.length ≤ 100 ∧ (∀ c ∈ l0, c < 256) ∧ (∀ c ∈ l1, c < 256) ∧ (∀ c ∈ l2, c < 256)
theorem row_ok1 : RowOk [47, 117, 115, 114, 47, 108, 105, 98] [47, 117, 115, 114] [108, 105, 98] := by unfold RowOk; decide +kernel
theorem row_ok2 : RowOk [47, 117, 115, 114, 47] [47] [117, 115, 114] := by unfold RowOk; decide +kernel
theorem row_ok3 : RowOk [117, 115, 114] [46] [117, 115, 114] := by unfold RowOk; decide +kernel
theorem row_ok4 : RowOk [47] [47] [47] := by unfold RowOk; decide +kernel
theorem row_ok5 : RowOk [46] [46] [46] := by unfold RowOk; decide +kernel
theorem row_ok6 : RowOk [46, 46] [46] [46, 46] := by unfold RowOk; decide +kernel
def RowAt (h₀ : Heap) (v : Value) : Prop := ∃ (A : Addr) (q0 q1 q2 : PySem.Str) (t0 t1 t2 : Tok) (l0 l1 l2 : List Nat), v = .ref A ∧ PyProof.Rows.IsTup h₀ A [.str q0 t0, .str q1 t1, .str q2 t2].toArray ∧ q0 = S l0 ∧ q1 = S l1 ∧ q2 = S l2 ∧ RowOk l0 l1 l2
@[reducible] def heapOf {K : Frag} {h : Heap} (X : K.In h) : Heap := h
local macro_rules | `(tactic| walk_at "call builtin:len") => `(tactic| (k_here; (with_reducible show wpAny _ _ (call _ [Value.ref _]) _ _ _); k_dflt (refine' len_led ?N ?hm ?hz ?_; (case N => k_asm); (case hm => k_mem); (case hz => with_reducible assumption); k_whole); intro _ _))
local macro_rules | `(tactic| walk_at "subscriptTail Name Name ref int") => `(tactic| (k_here; k_dflt (refine' name_at ?N ?hm ?hV ?h0 ?h1 ?hp ?_; (case N => k_asm); (case hm => k_mem); (case hV => with_reducible assumption); (case h0 => with_reducible assumption); (case h1 => with_reducible assumption); (case hp => with_reducible assumption); k_whole); intro _))
local macro_rules | `(tactic| walk_at "my turn5") => `(tactic| (refine' InvEndN.intro ?F ?N ⟨rfl, _, ?_, ?r1, ?same⟩ rfl ?hn ?ho; (case F => k_asm); (case N => k_asm); (case r1 => with_unfolding_all rfl); (case same => intro z h1 h2; simp [h1, h2]); (case hn => exact hn_app); (case ho => repeat (first | with_reducible exact ho_app | with_reducible exact ho_refl | refine ho_cons ?_))))
def DueP (s : Shared) (l : List Nat) (v : Value) (s₂ : Shared) : Prop := ∃ (t : Tok) (tk' : Nat), v = .str (S l) t ∧ s₂ = { s with toks := tk' }
theorem due_cut {M : Model} {A : Around} {t : Sem Value} {s : Shared} {l : List Nat} {Q E : Value → Shared → Prop} (h : wpAny M A t (DueP s l) E s) (k : ∀ (t : Tok) (tk' : Nat), Q (.str (S l) t) { s with toks := tk' }) : wpAny M A t Q E s :=
  wpAny_mono h (fun v s₂ hq => by obtain ⟨t, tk', rfl, rfl⟩ := hq; exact k t tk') fun _ _ e => e
theorem due_end {s : Shared} {l : List Nat} {q : PySem.Str} {t : Tok} {tk' : Nat} (e : q = S l) : DueP s l (.str q t) { s with toks := tk' } := ⟨t, tk', by rw [e], rfl⟩
theorem due_0 {x : List Nat} (h : ((x.length : Nat) : Int) - ((x.drop (leadL 47 x)).length : Nat) = 0) : PySem.Str.ofString "." = S (dueL 47 46 (leadL 47 x)) := by
  rw [lead_len] at h
  rw [show leadL 47 x = 0 by omega]
  exact lit_dot
theorem due_2 {x : List Nat} (h0 : ¬ ((x.length : Nat) : Int) - ((x.drop (leadL 47 x)).length : Nat) = 0) (h : ((x.length : Nat) : Int) - ((x.drop (leadL 47 x)).length : Nat) = 2) : PySem.Str.ofString "//" = S (dueL 47 46 (leadL 47 x)) := by
  rw [lead_len] at h
  rw [show leadL 47 x = 2 by omega]
  exact lit_two
theorem due_1 {x : List Nat} (h0 : ¬ ((x.length : Nat) : Int) - ((x.drop (leadL 47 x)).length : Nat) = 0) (h : ¬ ((x.length : Nat) : Int) - ((x.drop (leadL 47 x)).length : Nat) = 2) : PySem.Str.ofString "/" = S (dueL 47 46 (leadL 47 x)) := by
  rw [lead_len] at h0 h
  unfold dueL
  rw [if_neg (by omega), if_neg (by omega)]
  exact lit_slash
local macro_rules | `(tactic| walk_at "eval IfExp") => `(tactic| ((fail_if_success (with_reducible show wpAny _ _ _ (NumP _ _ _ _) _ _)); (fail_if_success (with_reducible show wpAny _ _ _ (DueP _ _) _ _)); refine stop_of ?_))
theorem idx_lo {n i : Nat} (h : i < ((n : Int) - 1 - -1).toNat) : (0 : Int) ≤ (n : Int) - 1 + (i : Int) * -1 := by omega
theorem idx_hi {n i : Nat} (h : n ≤ 4096) : (n : Int) - 1 + (i : Int) * -1 < 4096 := by omega
local macro_rules | `(tactic| walk_at "InvEndN") => `(tactic| refine stop_of ?_)
theorem law_walk : PySem.Challenge.rw_ab6017_01.Holds := Mine.hd (by
  k_go0
  all_goals (try k_fold)
  k_steps
  refine stop_in ?_
  rename Fr _ _ _ _ => lF
  refine num_cut lF ?_ ?_
  · k_steps
    · (refine' num_end ?F ?N ?hi ?h8)
      case F => k_asm
      case N => k_asm
      case hi => exact ints_get (by assumption)
      case h8 => exact ints_len (by assumption)
    · (refine' num_end ?F ?N ?hi ?h8)
      case F => k_asm
      case N => k_asm
      case hi => exact ints_get (ints_three _ _ _ _ _ _)
      case h8 => exact (by decide : 3 ≤ 8)
  intro D ys n h' tk' F' N' hys h8
  clear lF
  try k_fold
  k_steps
  refine stop_in ?_
  rename Fr _ _ _ _ => lF
  rename News _ _ _ _ => lN
  refine LCg.CompSrc.ledger rfl lF lN (.head _) ?hz ?_
  case hz => rw [sizeLine_eq, List.size_toArray]; omega
  intro g
  refine comp_rest (fun _ y => Good6 y) ?turn (.inr ⟨_, .head _, rfl, _, rfl⟩) ?fin
  case turn =>
    intro i v I oI C oC D' m₂ zs h tk E' hi hv hC hx9 F9 N9 off
    obtain ⟨q, t, rfl⟩ := hys i v (by simpa using hv)
    clear lF lN
    k_steps
    all_goals walk_at "my comp"
    all_goals exact ⟨_, _, rfl, (by assumption : _ ∧ _)⟩
  intro zs hzl hgood D' h5 tk5 F9 N9 o1
  clear lF lN
  k_steps
  refine stop_in ?_
  refine text_join lit_nil (News.isList N9 (.head _)) hgood (by rw [hzl, List.size_toArray]; exact h8) ?_
  intro x t' k hx hxl
  have h1 : x.length ≤ 4096 := by omega
  have h1n : x.length ≤ 4000 := by omega
  have h2 : (lastL 47 x).length ≤ 4096 := by have := last_len (s := 47) x; omega
  have h3 : (folderL 47 46 x).length ≤ 4096 := by have := folder_len (s := 47) (d := 46) x; omega
  have h4 : (joinL 47 (folderL 47 46 x) (lastL 47 x)).length ≤ 4000 := by have := joinL_len (s := 47) (folderL 47 46 x) (lastL 47 x); have := last_len (s := 47) x; have := folder_len (s := 47) (d := 46) x; omega
  have e4 : normL 47 46 (joinL 47 (folderL 47 46 x) (lastL 47 x)) = normL 47 46 x := norm_join (by decide) x
  rename Bool => b
  cases b
  · k_steps
    refine stop_in ?_
    rename Fr _ _ _ _ => lF
    rename News _ _ _ _ => lN
    with_unfolding_all refine' For_invVF lF ?k1 ?k2 ?_
    case k1 => exact rfl
    case k2 => exact rfl
    k_whole
    k_steps
    refine stop_in ?_
    rename Fr _ _ _ _ => lF2
    rename News _ _ _ _ => lN2
    have KX := ‹(Mine.hd.heap_39 _).In _›
    have hT := tupK (l := [_, _, _, _, _, _]) KX (a := 151) (by k_is)
    have hrows : ∀ (i : Nat) (v : Value), [Value.ref 145, Value.ref 146, Value.ref 147, Value.ref 148, Value.ref 149, Value.ref 150][i]? = some v → RowAt (heapOf KX) v := by
      intro i v hv
      match i, hv with
      | 0, hv =>
        obtain rfl : Value.ref 145 = v := by simpa using hv
        exact ⟨145, _, _, _, _, _, _, _, _, _, rfl, tupK KX (by k_is), (by walk_at "my lit"), (by walk_at "my lit"), (by walk_at "my lit"), row_ok1⟩
      | 1, hv =>
        obtain rfl : Value.ref 146 = v := by simpa using hv
        exact ⟨146, _, _, _, _, _, _, _, _, _, rfl, tupK KX (by k_is), (by walk_at "my lit"), (by walk_at "my lit"), (by walk_at "my lit"), row_ok2⟩
      | 2, hv =>
        obtain rfl : Value.ref 147 = v := by simpa using hv
        exact ⟨147, _, _, _, _, _, _, _, _, _, rfl, tupK KX (by k_is), (by walk_at "my lit"), (by walk_at "my lit"), (by walk_at "my lit"), row_ok3⟩
      | 3, hv =>
        obtain rfl : Value.ref 148 = v := by simpa using hv
        exact ⟨148, _, _, _, _, _, _, _, _, _, rfl, tupK KX (by k_is), (by walk_at "my lit"), (by walk_at "my lit"), (by walk_at "my lit"), row_ok4⟩
      | 4, hv =>
        obtain rfl : Value.ref 149 = v := by simpa using hv
        exact ⟨149, _, _, _, _, _, _, _, _, _, rfl, tupK KX (by k_is), (by walk_at "my lit"), (by walk_at "my lit"), (by walk_at "my lit"), row_ok5⟩
      | 5, hv =>
        obtain rfl : Value.ref 150 = v := by simpa using hv
        exact ⟨150, _, _, _, _, _, _, _, _, _, rfl, tupK KX (by k_is), (by walk_at "my lit"), (by walk_at "my lit"), (by walk_at "my lit"), row_ok6⟩
      | i + 6, hv => simp at hv
    dsimp only [heapOf] at hrows
    refine page_loop (y := Str.ofString "typed") rfl (Fr.tup lF2 hT) (fun p hp e => ?_) lF2 lN2 (by decide) ?turn ?done
    · have h9 := (lN2 p hp).2.2
      obtain ⟨o, ho, _⟩ := hT
      rw [e, ho] at h9
      cases h9
    case turn =>
      intro i v c h tk own hi hoff F₁ N₁
      obtain ⟨A, q0, q1, q2, t0, t1, t2, l0, l1, l2, rfl, hR, rfl, rfl, rfl, e1, e2, z0, z1, z2, o0, o1, o2⟩ := hrows i v hi
      have y0 : l0.length ≤ 4096 := by omega
      clear lF2 lN2 hrows hT
      try k_fold
      k_steps
      all_goals refine stop_in ?_
      all_goals walk_at "my turn4"
    intro c u h tk F₁ N₁
    clear lF2 lN2 hrows hT
    try k_fold
    k_steps
    refine stop_in ?_
    rename Fr _ _ _ _ => lF3
    rename News _ _ _ _ => lN3
    rename VAre _ _ _ => hV
    refine LCt.CompSrcT.ledger rfl lF3 lN3 (.head _) ?hz2 ?_
    case hz2 => have q1 := hV.length; have q2 := splitL_count 47 x; rw [sizeLine_eq, List.size_toArray]; omega
    intro g2
    refine compT_rest hV ?turn2 (.inr ⟨_, .head _, rfl, _, rfl⟩) ?_
    case turn2 =>
      intro a t I oI C oC D2 m₂ ys2 h tk E' ha hC hx9 F9 N9 off
      have ha1 : a.length ≤ 4096 := by have := splitL_mem ha; omega
      clear lF3 lN3
      k_steps
      all_goals walk_at "my comp"
      all_goals first | exact ⟨by assumption, _, rfl⟩ | exact Decidable.not_not.mp (by assumption)
    intro zs2 hV2 D2 h6 tk6 F9 N9 o2
    have hV3 : VAre mkS zs2 (piecesL 47 x) := hV2
    have hz3 : zs2.length ≤ 4096 := by have q1 := hV3.length; have q2 := pieces_count x; omega
    clear lF3 lN3 hV hV2
    k_steps
    refine stop_in ?_
    rename Fr _ _ _ _ => lF4
    with_unfolding_all refine' For_invVF lF4 ?k1 ?k2 ?_
    case k1 => exact rfl
    case k2 => exact rfl
    k_whole
    k_steps
    refine stop_in ?_
    rename Fr _ _ _ _ => lF5
    rename News _ _ _ _ => lN5
    rename IsRange _ _ _ _ _ _ _ _ => lR
    have q1 := hV3.length
    have q2 := pieces_count x
    refine range_loop1 (y := Str.ofString "thing") (fun i c => ∃ l t, c = .str (S l) t ∧ Climb 47 46 (piecesL 47 x) (leadL 47 x) ((piecesL 47 x).length - i) l ∧ l.length ≤ 60 + 2 * i) rfl lR (small_down (by omega) (by omega) (by decide) (by decide)) (rangeSize_downNat _ _) lF5 lN5 rfl ⟨x, _, rfl, climb_start x, by omega⟩ ?turn3 ?done3
    case turn3 =>
      rintro i t c h tk own hi hoff ⟨l, t1, rfl, hcl, hll⟩ F₁ N₁
      have hj : (piecesL 47 x).length - i = (piecesL 47 x).length - (i + 1) + 1 := by omega
      rw [hj] at hcl
      obtain ⟨hp1, hcl2⟩ := climb_step (by omega) hcl
      have hp : (piecesL 47 x)[((zs2.length : Int) - 1 + (i : Int) * -1).toNat]? = some (lastL 47 l) := by
        rw [show ((zs2.length : Int) - 1 + (i : Int) * -1).toNat = (piecesL 47 x).length - (i + 1) by omega]
        exact hp1
      have y1 : l.length ≤ 4096 := by omega
      have y2 : (lastL 47 l).length ≤ 4096 := by have := last_len (s := 47) l; omega
      have y3 : (folderL 47 46 l).length ≤ 60 + 2 * (i + 1) := by have := folder_len (s := 47) (d := 46) l; omega
      have w0 := idx_lo hi
      have w1 := idx_hi (i := i) hz3
      clear lF5 lN5 lR
      simp only [List.cons_append, List.nil_append] at N₁
      try k_fold
      k_steps
      all_goals refine stop_in ?_
      all_goals walk_at "my turn5"
      all_goals exact ⟨_, _, rfl, hcl2, y3⟩
    rintro c u h tk ⟨l, t1, rfl, hcl, hll⟩ F₁ N₁
    have e9 : folderL 47 46 l = dueL 47 46 (leadL 47 x) := climb_end (by decide) (by rw [show (piecesL 47 x).length - ((zs2.length : Int) - 1 - -1).toNat = 0 by omega] at hcl; exact hcl)
    have y1 : l.length ≤ 4096 := by omega
    clear lF5 lN5 lR
    try k_fold
    k_steps
    refine stop_in ?_
    refine due_cut (l := dueL 47 46 (leadL 47 x)) ?_ ?_
    · k_steps
      all_goals (refine due_end ?_)
      all_goals first | exact due_0 (by assumption) | exact due_2 (by assumption) (by assumption) | exact due_1 (by assumption) (by assumption)
    intro t7 tk7
    have y4 : (dueL 47 46 (leadL 47 x) : List Nat).length ≤ 4096 := Nat.le_trans (due_len _) (by decide)
    try k_fold
    k_steps
  · have s2 := last_small hx
    have s3 := folder_small hx
    have o2 := last_oct hx
    have o3 := folder_oct hx
    have lm : (x.map UInt8.ofNat).length = x.length := List.length_map _
    have z1 : (x.map UInt8.ofNat).length ≤ 4096 := by omega
    have z1n : (x.map UInt8.ofNat).length ≤ 4000 := by omega
    have z2 : (lastL 47 (x.map UInt8.ofNat)).length ≤ 4096 := by have := last_len (s := 47) (x.map UInt8.ofNat); omega
    have z3 : (folderL 47 46 (x.map UInt8.ofNat)).length ≤ 4096 := by have := folder_len (s := 47) (d := 46) (x.map UInt8.ofNat); omega
    have z4 : (joinL 47 (folderL 47 46 (x.map UInt8.ofNat)) (lastL 47 (x.map UInt8.ofNat))).length ≤ 4000 := by have := joinL_len (s := 47) (folderL 47 46 (x.map UInt8.ofNat)) (lastL 47 (x.map UInt8.ofNat)); have := last_len (s := 47) (x.map UInt8.ofNat); have := folder_len (s := 47) (d := 46) (x.map UInt8.ofNat); omega
    have k4 : normL 47 46 (joinL 47 (folderL 47 46 (x.map UInt8.ofNat)) (lastL 47 (x.map UInt8.ofNat))) = normL 47 46 (x.map UInt8.ofNat) := norm_join (by decide) _
    k_steps
    refine stop_in ?_
    rename Fr _ _ _ _ => lF
    rename News _ _ _ _ => lN
    with_unfolding_all refine' For_invVF lF ?k1 ?k2 ?_
    case k1 => exact rfl
    case k2 => exact rfl
    k_whole
    k_steps
    refine stop_in ?_
    rename Fr _ _ _ _ => lF2
    rename News _ _ _ _ => lN2
    have KX := ‹(Mine.hd.heap_39 _).In _›
    have hT := tupK (l := [_, _, _, _, _, _]) KX (a := 151) (by k_is)
    have hrows : ∀ (i : Nat) (v : Value), [Value.ref 145, Value.ref 146, Value.ref 147, Value.ref 148, Value.ref 149, Value.ref 150][i]? = some v → RowAt (heapOf KX) v := by
      intro i v hv
      match i, hv with
      | 0, hv =>
        obtain rfl : Value.ref 145 = v := by simpa using hv
        exact ⟨145, _, _, _, _, _, _, _, _, _, rfl, tupK KX (by k_is), (by walk_at "my lit"), (by walk_at "my lit"), (by walk_at "my lit"), row_ok1⟩
      | 1, hv =>
        obtain rfl : Value.ref 146 = v := by simpa using hv
        exact ⟨146, _, _, _, _, _, _, _, _, _, rfl, tupK KX (by k_is), (by walk_at "my lit"), (by walk_at "my lit"), (by walk_at "my lit"), row_ok2⟩
      | 2, hv =>
        obtain rfl : Value.ref 147 = v := by simpa using hv
        exact ⟨147, _, _, _, _, _, _, _, _, _, rfl, tupK KX (by k_is), (by walk_at "my lit"), (by walk_at "my lit"), (by walk_at "my lit"), row_ok3⟩
      | 3, hv =>
        obtain rfl : Value.ref 148 = v := by simpa using hv
        exact ⟨148, _, _, _, _, _, _, _, _, _, rfl, tupK KX (by k_is), (by walk_at "my lit"), (by walk_at "my lit"), (by walk_at "my lit"), row_ok4⟩
      | 4, hv =>
        obtain rfl : Value.ref 149 = v := by simpa using hv
        exact ⟨149, _, _, _, _, _, _, _, _, _, rfl, tupK KX (by k_is), (by walk_at "my lit"), (by walk_at "my lit"), (by walk_at "my lit"), row_ok5⟩
      | 5, hv =>
        obtain rfl : Value.ref 150 = v := by simpa using hv
        exact ⟨150, _, _, _, _, _, _, _, _, _, rfl, tupK KX (by k_is), (by walk_at "my lit"), (by walk_at "my lit"), (by walk_at "my lit"), row_ok6⟩
      | i + 6, hv => simp at hv
    dsimp only [heapOf] at hrows
    refine page_loop (y := Str.ofString "typed") rfl (Fr.tup lF2 hT) (fun p hp e => ?_) lF2 lN2 (by decide) ?turnB ?doneB
    · have h9 := (lN2 p hp).2.2
      obtain ⟨o, ho, _⟩ := hT
      rw [e, ho] at h9
      cases h9
    case turnB =>
      intro i v c h tk own hi hoff F₁ N₁
      obtain ⟨A, q0, q1, q2, t0, t1, t2, l0, l1, l2, rfl, hR, rfl, rfl, rfl, e1, e2, z0, z1, z2, o0, o1, o2⟩ := hrows i v hi
      have y0 : l0.length ≤ 4096 := by omega
      have y1 : l1.length ≤ 4096 := by omega
      have y2 : l2.length ≤ 4096 := by omega
      have y3 : (l0.map UInt8.ofNat).length ≤ 4096 := by rw [List.length_map]; omega
      have y4 : folderL 47 46 (l0.map UInt8.ofNat) = l1.map UInt8.ofNat := by rw [folder_oct o0, e1]
      have y5 : lastL 47 (l0.map UInt8.ofNat) = l2.map UInt8.ofNat := by rw [last_oct o0, e2]
      clear lF2 lN2 hrows hT
      try k_fold
      k_steps
      all_goals refine stop_in ?_
      all_goals walk_at "my turn4"
    intro c u h tk F₁ N₁
    clear lF2 lN2 hrows hT
    try k_fold
    k_steps
    refine stop_in ?_
    rename Fr _ _ _ _ => lF3
    rename News _ _ _ _ => lN3
    rename VAre _ _ _ => hV
    refine LCt.CompSrcT.ledger rfl lF3 lN3 (.head _) ?hzB2 ?_
    case hzB2 => have q1 := hV.length; have q2 := splitL_count 47 x; rw [sizeLine_eq, List.size_toArray]; omega
    intro g2
    refine compT_rest hV ?turnB2 (.inr ⟨_, .head _, rfl, _, rfl⟩) ?_
    case turnB2 =>
      intro a t I oI C oC D2 m₂ ys2 h tk E' ha hC hx9 F9 N9 off
      have ha1 : a.length ≤ 4096 := by have := splitL_mem ha; omega
      clear lF3 lN3
      k_steps
      all_goals walk_at "my comp"
      all_goals first | exact ⟨by assumption, _, rfl⟩ | exact Decidable.not_not.mp (by assumption)
    intro zs2 hV2 D2 h6 tk6 F9 N9 o2
    have hV3 : VAre mkS zs2 (piecesL 47 x) := hV2
    have hz3 : zs2.length ≤ 4096 := by have q1 := hV3.length; have q2 := pieces_count x; omega
    clear lF3 lN3 hV hV2
    k_steps
    refine stop_in ?_
    rename Fr _ _ _ _ => lF4
    with_unfolding_all refine' For_invVF lF4 ?k1 ?k2 ?_
    case k1 => exact rfl
    case k2 => exact rfl
    k_whole
    k_steps
    refine stop_in ?_
    rename Fr _ _ _ _ => lF5
    rename News _ _ _ _ => lN5
    rename IsRange _ _ _ _ _ _ _ _ => lR
    have q1 := hV3.length
    have q2 := pieces_count x
    have q3 := pieces_oct_len hx
    refine range_loop1 (y := Str.ofString "thing") (fun i c => ∃ (l : List UInt8) (t : Tok), c = .bytes l.toArray t ∧ Climb 47 46 (piecesL 47 (x.map UInt8.ofNat)) (leadL 47 (x.map UInt8.ofNat)) ((piecesL 47 x).length - i) l ∧ l.length ≤ 60 + 2 * i) rfl lR (small_down (by omega) (by omega) (by decide) (by decide)) (rangeSize_downNat _ _) lF5 lN5 rfl ⟨x.map UInt8.ofNat, _, rfl, by have h := climb_start (s := (47 : UInt8)) (d := 46) (x.map UInt8.ofNat); rw [q3] at h; exact h, by omega⟩ ?turnB3 ?doneB3
    case turnB3 =>
      rintro i t c h tk own hi hoff ⟨l, t1, rfl, hcl, hll⟩ F₁ N₁
      have hj : (piecesL 47 x).length - i = (piecesL 47 x).length - (i + 1) + 1 := by omega
      rw [hj] at hcl
      obtain ⟨hp1, hcl2⟩ := climb_step (by rw [q3]; omega) hcl
      obtain ⟨p, hpp⟩ : ∃ p, (piecesL 47 x)[(piecesL 47 x).length - (i + 1)]? = some p := ⟨_, List.getElem?_eq_getElem (by omega)⟩
      have p3 : lastL 47 l = p.map UInt8.ofNat := by have h := pieces_oct hx hpp; rw [hp1] at h; exact Option.some.inj h
      have p4 : p ∈ piecesL 47 x := List.mem_of_getElem? hpp
      have p5 := pieces_small hx p4
      have p6 : p.length ≤ 4096 := by have := pieces_len p4; omega
      have hp : (piecesL 47 x)[((zs2.length : Int) - 1 + (i : Int) * -1).toNat]? = some p := by
        rw [show ((zs2.length : Int) - 1 + (i : Int) * -1).toNat = (piecesL 47 x).length - (i + 1) by omega]
        exact hpp
      have y1 : l.length ≤ 4096 := by omega
      have y2 : (lastL 47 l).length ≤ 4096 := by have := last_len (s := 47) l; omega
      have y3 : (folderL 47 46 l).length ≤ 60 + 2 * (i + 1) := by have := folder_len (s := 47) (d := 46) l; omega
      have w0 := idx_lo hi
      have w1 := idx_hi (i := i) hz3
      clear lF5 lN5 lR
      simp only [List.cons_append, List.nil_append] at N₁
      try k_fold
      k_steps
      all_goals refine stop_in ?_
      all_goals walk_at "my turn5"
      all_goals exact ⟨_, _, rfl, hcl2, y3⟩
    rintro c u h tk ⟨l, t1, rfl, hcl, hll⟩ F₁ N₁
    have e9 : folderL 47 46 l = (dueL 47 46 (leadL 47 x)).map UInt8.ofNat := by
      rw [← due_oct, ← lead_oct hx]
      exact climb_end (by decide) (by rw [show (piecesL 47 x).length - ((zs2.length : Int) - 1 - -1).toNat = 0 by omega] at hcl; exact hcl)
    have y5 := due_small (leadL 47 x)
    have y1 : l.length ≤ 4096 := by omega
    clear lF5 lN5 lR
    try k_fold
    k_steps
    refine stop_in ?_
    refine due_cut (l := dueL 47 46 (leadL 47 x)) ?_ ?_
    · k_steps
      all_goals (refine due_end ?_)
      all_goals first | exact due_0 (by assumption) | exact due_2 (by assumption) (by assumption) | exact due_1 (by assumption) (by assumption)
    intro t7 tk7
    have y4 : (dueL 47 46 (leadL 47 x) : List Nat).length ≤ 4096 := Nat.le_trans (due_len _) (by decide)
    try k_fold
    k_steps)

end Mine
end

theorem PySem.Challenge.cw_ab6017_01_holds : PySem.Challenge.rw_ab6017_01.Holds :=
  Mine.law_walk
