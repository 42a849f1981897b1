import PyProof.Rows.All
import Wide.All
import OpenK.AllK
import Wide.FinOn
import PySem.Challenge.RW_pg0064_01
open PySem PySem.W PyProof.Rows PySem.Calls
set_option Elab.async false
set_option maxRecDepth 100000
set_option maxHeartbeats 8000000
set_option linter.all false
namespace Mine
open_top hd for PySem.Challenge.rw_pg0064_01
namespace Pl
variable {α : Type} [DecidableEq α]
def lsp (P : List α) : List α → List α
  | [] => []
  | x :: q => if (x :: q) <+: P then x :: q else lsp P q
theorem lsp_suf (P q : List α) : lsp P q <:+ q := by
  induction q with
  | nil => exact List.suffix_refl _
  | cons x q ih =>
    unfold lsp; split
    · exact List.suffix_refl _
    · exact ih.trans (List.suffix_cons _ _)
theorem lsp_pre (P q : List α) : lsp P q <+: P := by
  induction q with
  | nil => exact List.nil_prefix
  | cons x q ih =>
    unfold lsp; split
    · assumption
    · exact ih
theorem lsp_max (P : List α) {q r : List α} (hs : r <:+ q) (hp : r <+: P) : r <:+ lsp P q := by
  induction q with
  | nil => exact hs
  | cons x q ih =>
    unfold lsp; split
    · exact hs
    · rename_i h
      rcases List.suffix_cons_iff.mp hs with rfl | hs
      · exact absurd hp h
      · exact ih hs
theorem lsp_self {P q : List α} (h : q <+: P) : lsp P q = q := by
  cases q with
  | nil => rfl
  | cons x q => unfold lsp; rw [if_pos h]
inductive St (α : Type) where
  | lost | fr (p : List α) | mi (p : List α) | en (p : List α)
variable (F M E : List α)
def toM (p : List α) : St α := if p = M then .en [] else .mi p
def toF (p : List α) : St α := if p = F then .mi [] else .fr p
def step : St α → α → St α
  | .lost, _ => .lost
  | .fr p, c => if (p ++ [c]) <+: F then toF F (p ++ [c]) else .lost
  | .mi p, c => toM M (lsp M (p ++ [c]))
  | .en p, c => .en (lsp E (p ++ [c]))
theorem step_fr (p : List α) (c : α) : step F M E (.fr p) c = if (p ++ [c]) <+: F then toF F (p ++ [c]) else .lost := rfl
def start : St α := toF F []
def left : St α → Nat
  | .lost => F.length + M.length + E.length + 1
  | .fr p => F.length + M.length + E.length - p.length
  | .mi p => M.length + E.length - p.length
  | .en p => E.length - p.length
def Ok : St α → Prop
  | .lost => True
  | .fr p => p <+: F ∧ p.length < F.length
  | .mi p => p <+: M ∧ p.length < M.length
  | .en p => p <+: E
def Acc : St α → List α → Prop
  | .lost, _ => False
  | .fr p, w => ∃ a b, p ++ w = F ++ a ++ M ++ b ++ E
  | .mi p, w => ∃ a b, p ++ w = a ++ M ++ b ++ E
  | .en p, w => ∃ b, p ++ w = b ++ E
theorem lt_of_pre {p P : List α} (h : p <+: P) (hne : p ≠ P) : p.length < P.length := by
  rcases Nat.lt_or_ge p.length P.length with h' | h'
  · exact h'
  · exact absurd (h.eq_of_length_le h') hne
theorem ok_toM {p : List α} (h : p <+: M) : Ok F M E (toM M p) := by
  unfold toM; split
  · exact List.nil_prefix
  · exact ⟨h, lt_of_pre h ‹_›⟩
theorem ok_toF (hM : M ≠ []) {p : List α} (h : p <+: F) : Ok F M E (toF F p) := by
  unfold toF; split
  · exact ⟨List.nil_prefix, by have := List.length_pos_iff.mpr hM; simpa using this⟩
  · exact ⟨h, lt_of_pre h ‹_›⟩
theorem ok_step (hM : M ≠ []) {st : St α} (h : Ok F M E st) (c : α) : Ok F M E (step F M E st c) := by
  cases st with
  | lost => trivial
  | fr p =>
    rw [step_fr]; split
    · exact ok_toF F M E hM ‹_›
    · trivial
  | mi p => exact ok_toM F M E (lsp_pre _ _)
  | en p => exact lsp_pre _ _
theorem acc_toM {p w : List α} (h : p <+: M) : Acc F M E (toM M p) w ↔ ∃ a b, p ++ w = a ++ M ++ b ++ E := by
  unfold toM; split
  · rename_i e
    subst e
    constructor
    · rintro ⟨b, hb⟩
      exact ⟨[], b, by simpa using hb⟩
    · rintro ⟨a, b, hb⟩
      refine ⟨(a ++ p ++ b).drop p.length, ?_⟩
      have := congrArg (List.drop p.length) hb
      rw [List.drop_left, List.drop_append_of_le_length (by simp; omega)] at this
      simpa using this
  · rfl
theorem acc_toF {p w : List α} : Acc F M E (toF F p) w ↔ ∃ a b, p ++ w = F ++ a ++ M ++ b ++ E := by
  unfold toF; split
  · rename_i e
    subst e
    constructor
    · rintro ⟨a, b, hb⟩
      exact ⟨a, b, by simp at hb ⊢; exact hb⟩
    · rintro ⟨a, b, hb⟩
      exact ⟨a, b, by simp at hb ⊢; exact hb⟩
  · rfl
theorem acc_step {st : St α} (h : Ok F M E st) (c : α) (w : List α) : Acc F M E st (c :: w) ↔ Acc F M E (step F M E st c) w := by
  cases st with
  | lost => exact Iff.rfl
  | fr p =>
    obtain ⟨h1, h2⟩ := h
    rw [step_fr]; split
    · rw [acc_toF]
      simp [Acc]
    · rename_i hn
      refine ⟨?_, fun x => False.elim x⟩
      rintro ⟨a, b, hb⟩
      refine hn ?_
      have e : (p ++ [c]) ++ w = F ++ (a ++ M ++ b ++ E) := by simpa using hb
      exact List.prefix_of_prefix_length_le (List.prefix_append _ w) (by rw [e]; exact List.prefix_append _ _) (by simp; omega)
  | mi p =>
    obtain ⟨h1, h2⟩ := h
    show _ ↔ Acc F M E (toM M (lsp M (p ++ [c]))) w
    rw [acc_toM F M E (lsp_pre _ _)]
    obtain ⟨x, hx⟩ := lsp_suf M (p ++ [c])
    constructor
    · rintro ⟨a, b, hb⟩
      have e : (p ++ [c]) ++ w = a ++ (M ++ b ++ E) := by simpa using hb
      by_cases hl : x.length ≤ a.length
      · rw [← hx, List.append_assoc] at e
        have := congrArg (List.drop x.length) e
        rw [List.drop_left, List.drop_append_of_le_length hl] at this
        exact ⟨a.drop x.length, b, by simpa using this⟩
      · exfalso
        have hla : a.length ≤ (p ++ [c]).length := by rw [← hx]; simp; omega
        have e2 := congrArg (List.drop a.length) e
        rw [List.drop_left, List.drop_append_of_le_length hla] at e2
        have hr : (p ++ [c]).drop a.length <+: M :=
          List.prefix_of_prefix_length_le (List.prefix_append _ w) (e2 ▸ by rw [List.append_assoc]; exact List.prefix_append _ _) (by simp; omega)
        have hs := (lsp_max M (List.drop_suffix a.length (p ++ [c])) hr).length_le
        have hl2 := congrArg List.length hx
        simp at hl2 hs
        omega
    · rintro ⟨a, b, hb⟩
      refine ⟨x ++ a, b, ?_⟩
      have : p ++ c :: w = (p ++ [c]) ++ w := by simp
      rw [this, ← hx, List.append_assoc, hb]
      simp
  | en p =>
    show _ ↔ ∃ b, lsp E (p ++ [c]) ++ w = b ++ E
    obtain ⟨x, hx⟩ := lsp_suf E (p ++ [c])
    constructor
    · rintro ⟨b, hb⟩
      have e : (p ++ [c]) ++ w = b ++ E := by simpa using hb
      by_cases hl : x.length ≤ b.length
      · rw [← hx, List.append_assoc] at e
        have := congrArg (List.drop x.length) e
        rw [List.drop_left, List.drop_append_of_le_length hl] at this
        exact ⟨_, this⟩
      · exfalso
        have hla : b.length ≤ (p ++ [c]).length := by rw [← hx]; simp; omega
        have e2 := congrArg (List.drop b.length) e
        rw [List.drop_left, List.drop_append_of_le_length hla] at e2
        have hr : (p ++ [c]).drop b.length <+: E := e2 ▸ List.prefix_append _ w
        have hs := (lsp_max E (List.drop_suffix b.length (p ++ [c])) hr).length_le
        have hl2 := congrArg List.length hx
        simp at hl2 hs
        omega
    · rintro ⟨b, hb⟩
      refine ⟨x ++ b, ?_⟩
      have : p ++ c :: w = (p ++ [c]) ++ w := by simp
      rw [this, ← hx, List.append_assoc, hb]
      simp
def run (u : List α) : St α := u.foldl (step F M E) (start F)
theorem run_snoc (u : List α) (c : α) : run F M E (u ++ [c]) = step F M E (run F M E u) c := by simp [run]
theorem ok_run (hM : M ≠ []) (u : List α) : Ok F M E (run F M E u) := by
  have : ∀ (u : List α) st, Ok F M E st → Ok F M E (u.foldl (step F M E) st) := by
    intro u
    induction u with
    | nil => exact fun _ h => h
    | cons c u ih => exact fun st h => ih _ (ok_step F M E hM h c)
  exact this u _ (ok_toF F M E hM List.nil_prefix)
theorem acc_foldl (hM : M ≠ []) (u w : List α) : ∀ st, Ok F M E st → (Acc F M E st (u ++ w) ↔ Acc F M E (u.foldl (step F M E) st) w) := by
  induction u with
  | nil => exact fun _ _ => Iff.rfl
  | cons c u ih => exact fun st h => (acc_step F M E h c (u ++ w)).trans (ih _ (ok_step F M E hM h c))
def Takes (u : List α) : Prop := ∃ a b, u = F ++ a ++ M ++ b ++ E
theorem takes_run (hM : M ≠ []) (u w : List α) : Takes F M E (u ++ w) ↔ Acc F M E (run F M E u) w := by
  refine Iff.trans ?_ (acc_foldl F M E hM u w (start F) (ok_toF F M E hM List.nil_prefix))
  rw [start, acc_toF]; rfl
theorem acc_len {st : St α} {w : List α} (h : Acc F M E st w) : left F M E st ≤ w.length := by
  cases st with
  | lost => exact h.elim
  | fr p => obtain ⟨a, b, hb⟩ := h; have := congrArg List.length hb; simp [left] at this ⊢; omega
  | mi p => obtain ⟨a, b, hb⟩ := h; have := congrArg List.length hb; simp [left] at this ⊢; omega
  | en p => obtain ⟨b, hb⟩ := h; have := congrArg List.length hb; simp [left] at this ⊢; omega
def row : List α := F ++ M ++ E
theorem acc_row {st : St α} (h : Ok F M E st) (hl : st ≠ .lost) : Acc F M E st ((row F M E).drop ((row F M E).length - left F M E st)) := by
  cases st with
  | lost => exact absurd rfl hl
  | fr p =>
    obtain ⟨⟨q, hq⟩, h2⟩ := h
    refine ⟨[], [], ?_⟩
    have e : (row F M E).length - left F M E (.fr p) = p.length := by simp [row, left]; omega
    rw [e]
    subst hq
    simp [row]
  | mi p =>
    obtain ⟨⟨q, hq⟩, h2⟩ := h
    refine ⟨[], [], ?_⟩
    have e : (row F M E).length - left F M E (.mi p) = F.length + p.length := by simp [row, left]; omega
    rw [e]
    subst hq
    simp only [row, List.append_assoc]
    rw [List.drop_append, List.drop_of_length_le (by omega)]
    simp
  | en p =>
    obtain ⟨q, hq⟩ := id h
    refine ⟨[], ?_⟩
    have e : (row F M E).length - left F M E (.en p) = F.length + M.length + p.length := by simp [row, left]; have := h.length_le; omega
    rw [e]
    subst hq
    simp only [row]
    rw [List.drop_append, List.drop_of_length_le (by simp)]
    simp
theorem left_le {st : St α} (hl : st ≠ .lost) : left F M E st ≤ (row F M E).length := by
  cases st with
  | lost => exact absurd rfl hl
  | _ => simp [left, row]; try omega
theorem run_F {p : List α} (h : p <+: F) : run F M E p = toF F p := by
  have key : ∀ n, n ≤ F.length → run F M E (F.take n) = toF F (F.take n) := by
    intro n
    induction n with
    | zero => intro _; simp [run, start]
    | succ n ih =>
      intro hn
      have e : F.take (n + 1) = F.take n ++ [F[n]] := by simp
      rw [e, run_snoc, ih (by omega)]
      unfold toF
      rw [if_neg (by intro q; have := congrArg List.length q; simp at this; omega)]
      show (if _ then _ else _) = _
      rw [if_pos (by rw [← e]; exact List.take_prefix _ _)]
      rfl
  have := key p.length h.length_le
  rwa [← List.prefix_iff_eq_take.mp h] at this
theorem run_M {p : List α} (h : p <+: M) (hM : M ≠ []) : run F M E (F ++ p) = toM M p := by
  have key : ∀ n, n ≤ M.length → run F M E (F ++ M.take n) = toM M (M.take n) := by
    intro n
    induction n with
    | zero =>
      intro _
      rw [List.take_zero, List.append_nil, run_F F M E (List.prefix_refl _)]
      unfold toF toM
      rw [if_pos rfl, if_neg (Ne.symm hM)]
    | succ n ih =>
      intro hn
      have e : M.take (n + 1) = M.take n ++ [M[n]] := by simp
      rw [e, ← List.append_assoc, run_snoc, ih (by omega)]
      conv => lhs; unfold toM
      rw [if_neg (by intro q; have := congrArg List.length q; simp at this; omega)]
      show toM M (lsp M _) = _
      rw [lsp_self (by rw [← e]; exact List.take_prefix _ _)]
  have := key p.length h.length_le
  rwa [← List.prefix_iff_eq_take.mp h] at this
theorem run_E {p : List α} (h : p <+: E) (hM : M ≠ []) : run F M E (F ++ M ++ p) = .en p := by
  have key : ∀ n, n ≤ E.length → run F M E (F ++ M ++ E.take n) = .en (E.take n) := by
    intro n
    induction n with
    | zero =>
      intro _
      rw [List.take_zero, List.append_nil, run_M F M E (List.prefix_refl _) hM]
      unfold toM
      rw [if_pos rfl]
    | succ n ih =>
      intro hn
      have e : E.take (n + 1) = E.take n ++ [E[n]] := by simp
      rw [e, ← List.append_assoc, run_snoc, ih (by omega)]
      show St.en (lsp E _) = _
      rw [lsp_self (by rw [← e]; exact List.take_prefix _ _)]
  have := key p.length h.length_le
  rwa [← List.prefix_iff_eq_take.mp h] at this
theorem run_row (hM : M ≠ []) {st : St α} (h : Ok F M E st) (hl : st ≠ .lost) : run F M E ((row F M E).take ((row F M E).length - left F M E st)) = st := by
  cases st with
  | lost => exact absurd rfl hl
  | fr p =>
    obtain ⟨h1, h2⟩ := h
    have e : (row F M E).length - left F M E (.fr p) = p.length := by simp [row, left]; omega
    rw [e]
    have e2 : (row F M E).take p.length = p := by
      obtain ⟨q, hq⟩ := h1
      subst hq
      simp [row]
    rw [e2, run_F F M E h1]
    unfold toF
    rw [if_neg (by intro q; rw [q] at h2; omega)]
  | mi p =>
    obtain ⟨h1, h2⟩ := h
    have e : (row F M E).length - left F M E (.mi p) = F.length + p.length := by simp [row, left]; omega
    rw [e]
    have e2 : (row F M E).take (F.length + p.length) = F ++ p := by
      obtain ⟨q, hq⟩ := h1
      subst hq
      simp only [row, List.append_assoc]
      rw [List.take_append, List.take_of_length_le (by omega)]
      simp
    rw [e2, run_M F M E h1 hM]
    unfold toM
    rw [if_neg (by intro q; rw [q] at h2; omega)]
  | en p =>
    have h1 : p <+: E := h
    have e : (row F M E).length - left F M E (.en p) = F.length + M.length + p.length := by simp [row, left]; have := h1.length_le; omega
    rw [e]
    have e2 : (row F M E).take (F.length + M.length + p.length) = F ++ M ++ p := by
      obtain ⟨q, hq⟩ := h1
      subst hq
      simp only [row]
      rw [List.take_append, List.take_of_length_le (by simp)]
      simp
    rw [e2, run_E F M E h1 hM]
theorem takes_left (hM : M ≠ []) (u : List α) : Takes F M E u ↔ left F M E (run F M E u) = 0 := by
  have := takes_run F M E hM u []
  rw [List.append_nil] at this
  rw [this]
  constructor
  · intro h; have := acc_len F M E h; simpa using this
  · intro h
    have hl : run F M E u ≠ .lost := by intro e; rw [e] at h; simp [left] at h
    have := acc_row F M E (ok_run F M E hM u) hl
    rw [h] at this
    simpa using this
end Pl
namespace Pl
def fst1 : List Bool → Nat
  | [] => 0
  | true :: _ => 0
  | false :: r => fst1 r + 1
theorem fst1_at {bs : List Bool} {k : Nat} (h : bs[k]? = some true) (h' : ∀ j, j < k → bs[j]? ≠ some true) : fst1 bs = k := by
  induction bs generalizing k with
  | nil => simp at h
  | cons b r ih =>
    cases b with
    | true =>
      cases k with
      | zero => rfl
      | succ k => exact absurd rfl (h' 0 (Nat.succ_pos k))
    | false =>
      cases k with
      | zero => simp at h
      | succ k =>
        simp only [fst1]
        rw [ih (by simpa using h) fun j hj => by simpa using h' (j + 1) (Nat.succ_lt_succ hj)]
theorem fst1_none {bs : List Bool} (h : ∀ j : Nat, bs[j]? ≠ some true) : fst1 bs = bs.length := by
  induction bs with
  | nil => rfl
  | cons b r ih =>
    cases b with
    | true => exact absurd rfl (h 0)
    | false =>
      simp only [fst1, List.length_cons]
      rw [ih fun j => by simpa using h (j + 1)]
variable {α : Type} [DecidableEq α] (F M E : List α)
theorem need_run (hM : M ≠ []) {mt : List α → Bool} (hmt : ∀ u, mt u = true ↔ Takes F M E u) {tails : List (List α)} (hl : tails.length = (row F M E).length + 1)
    (ht : ∀ k, k ≤ (row F M E).length → tails[k]? = some ((row F M E).drop ((row F M E).length - k))) (t : List α) :
    fst1 (tails.map fun tl => mt (t ++ tl)) = left F M E (run F M E t) := by
  have hacc : ∀ w, mt (t ++ w) = true ↔ Acc F M E (run F M E t) w := fun w => (hmt _).trans (takes_run F M E hM t w)
  by_cases hlost : run F M E t = .lost
  · rw [fst1_none, List.length_map, hl, hlost]
    · simp [left, row, Nat.add_assoc]
    · intro j h
      rw [List.getElem?_map] at h
      cases e : tails[j]? with
      | none => rw [e] at h; cases h
      | some w =>
        rw [e] at h
        have := (hacc w).mp (by simpa using h)
        rw [hlost] at this
        exact this
  · have hle := left_le F M E hlost
    refine fst1_at ?_ ?_
    · rw [List.getElem?_map, ht _ hle]
      simpa using (hacc _).mpr (acc_row F M E (ok_run F M E hM t) hlost)
    · intro j hj h
      rw [List.getElem?_map, ht j (by omega)] at h
      have := acc_len F M E ((hacc _).mp (by simpa using h))
      simp at this
      omega
theorem lost_F {u : List α} (hM : M ≠ []) (h : run F M E u = .lost) : F ≠ [] := by
  intro hF
  have key : ∀ (u : List α) (st : St α), (∃ p, st = .mi p) ∨ (∃ p, st = .en p) → u.foldl (step F M E) st ≠ .lost := by
    intro u
    induction u with
    | nil => rintro st (⟨p, rfl⟩ | ⟨p, rfl⟩) <;> exact fun q => by cases q
    | cons c u ih =>
      rintro st (⟨p, rfl⟩ | ⟨p, rfl⟩)
      · refine ih _ ?_
        show (∃ q, toM M _ = _) ∨ (∃ q, toM M _ = _)
        unfold toM
        split
        · exact .inr ⟨_, rfl⟩
        · exact .inl ⟨_, rfl⟩
      · exact ih _ (.inr ⟨_, rfl⟩)
  refine key u (start F) (.inl ⟨[], ?_⟩) h
  unfold start toF
  rw [if_pos hF.symm]
theorem table_run (hM : M ≠ []) {mt : List α → Bool} (hmt : ∀ u, mt u = true ↔ Takes F M E u) {tails : List (List α)} (hl : tails.length = (row F M E).length + 1)
    (ht : ∀ k, k ≤ (row F M E).length → tails[k]? = some ((row F M E).drop ((row F M E).length - k))) {starts : List (List α)}
    (hs : ∀ k, k ≤ (row F M E).length → starts[k]? = some ((row F M E).take ((row F M E).length - k)))
    (hw : F ≠ [] → ∃ x, starts[(row F M E).length + 1]? = some [x] ∧ ¬ [x] <+: F) (u : List α) (c : α) :
    (starts.map fun s => fst1 (tails.map fun tl => mt ((s ++ [c]) ++ tl)))[left F M E (run F M E u)]? = some (left F M E (run F M E (u ++ [c]))) := by
  rw [List.getElem?_map, run_snoc]
  by_cases hlost : run F M E u = .lost
  · obtain ⟨x, hx, hn⟩ := hw (lost_F F M E hM hlost)
    have e : left F M E (run F M E u) = (row F M E).length + 1 := by rw [hlost]; simp [left, row, Nat.add_assoc]
    have hr : run F M E [x] = .lost := by
      have hF := lost_F F M E hM hlost
      show step F M E (start F) x = .lost
      unfold start toF
      rw [if_neg (Ne.symm hF)]
      show (if [] ++ [x] <+: F then _ else _) = _
      rw [if_neg (by simpa using hn)]
    rw [e, hx]
    simp only [Option.map_some]
    rw [need_run F M E hM hmt hl ht, run_snoc, hr, hlost]
  · rw [hs _ (left_le F M E hlost)]
    simp only [Option.map_some]
    rw [need_run F M E hM hmt hl ht, run_snoc, run_row F M E hM (ok_run F M E hM u) hlost]
end Pl
section
variable {prog : Program} {w : World} {A : Around} {E : Value → Shared → Prop} {h : Heap} {g : Array GenState} {d : Drawn} {t : Nat} {os : OsState} {x : Str} {u : Tok}
theorem lk_str_getitem : typeLookup (.type "str") "__getitem__" = pure (some (.builtin "str.__getitem__")) := by rw [typeLookup_type, builtinLookup_eq_fast]; kernel_rfl
theorem typeOf_str_getitem : typeOf (.builtin "str.__getitem__") = pure (.type "wrapper_descriptor") := by kernel_rfl
theorem slot_wd_get : Slot "wrapper_descriptor" "__get__" "wrapper_descriptor.__get__" :=
  .of (owner := "wrapper_descriptor") (n := "__get__") (by rw [typeLookup_type, builtinLookup_eq_fast]; kernel_rfl) (by decide +kernel) (by decide +kernel) (by decide +kernel)
    (by first | exact .inl (by decide +kernel) | exact .inr (by decide +kernel)) (by rw [isSubtype_type]; kernel_rfl)
theorem no_wd_set : typeLookup (.type "wrapper_descriptor") "__set__" = pure none := by rw [typeLookup_type, builtinLookup_eq_fast]; kernel_rfl
theorem no_wd_delete : typeLookup (.type "wrapper_descriptor") "__delete__" = pure none := by rw [typeLookup_type, builtinLookup_eq_fast]; kernel_rfl
theorem entry_wd_get : entryFor table "wrapper_descriptor.__get__" = some Builtin.«wrapper_descriptor.__get__» := entryFor_of_tree (by kernel_rfl)
theorem args_wd_get (a b c : Value) : argsOk "wrapper_descriptor.__get__" ⟨[a, b, c], []⟩ := by unfold argsOk; kernel_rfl
theorem owner_str_getitem : (".".intercalate ("str.__getitem__".cutAt '.').dropLast) = "str" := by
  have e0 : "str.__getitem__".cutAt '.' = ["str", "__getitem__"] := by first | rfl | decide +kernel
  rw [e0]; decide +kernel
theorem sub_str_owner : isSubtype (.type "str") (.type (".".intercalate ("str.__getitem__".cutAt '.').dropLast)) = pure true := by
  rw [owner_str_getitem, isSubtype_type]; kernel_rfl

theorem wd_get_str {R : Result → Shared → Prop} (hq : ∀ a h', h.StaysIn h' → R (.ok (.ret (.ref a))) ⟨h', g, d, t, os⟩) :
    codeAny (model prog w) A (.call (.builtin "wrapper_descriptor.__get__") ⟨[.builtin "str.__getitem__", .str x u, .type "str"], []⟩) R ⟨h, g, d, t, os⟩ := by
  have hT : (⟨h, g, d, t, os⟩ : Shared).TypeIs (.str x u) "str" := rfl
  have hT5 : (⟨h, g, d, t, os⟩ : Shared).TypeIs (.builtin "str.__getitem__") "wrapper_descriptor" := typeOf_str_getitem
  have f8 := sub_str_owner
  refine codeAny_call_builtin slot_wd_get.plain entry_wd_get (slot_wd_get.check _ _ _ _ _ _ _ _ hT5 (args_wd_get _ _ _) ?_)
  repeat (any_goals (first | assumption | wp_step))
  exact hq _ _ (fun b o e => Heap.get?_push_of_some _ e)

theorem getitem_entry_str {tk : Tok} {Q : Fin → Shared → Prop} (hq : ∀ a h', h.StaysIn h' → Q (.done (.ret (.ref a))) ⟨h', g, d, t, os⟩) :
    wpAny (model prog w) A (Builtin.«object.__getattribute__» ⟨[.str x u, .str "__getitem__" tk], []⟩) Q E ⟨h, g, d, t, os⟩ := by
  have hT : (⟨h, g, d, t, os⟩ : Shared).TypeIs (.str x u) "str" := rfl
  have hT5 : (⟨h, g, d, t, os⟩ : Shared).TypeIs (.builtin "str.__getitem__") "wrapper_descriptor" := typeOf_str_getitem
  have f4 := lk_str_getitem
  have f5 := typeOf_str_getitem
  have f6 := slot_wd_get.lookup
  have f7 := no_wd_set
  have f8 := no_wd_delete
  repeat (any_goals (first | assumption | wp_step))
  refine wd_get_str fun a h' st => ?_
  have hq' := hq a h' st
  repeat (any_goals (first | assumption | wp_step))

theorem getitem_call_str {tk : Tok} {R : Result → Shared → Prop} (hq : ∀ a h', h.StaysIn h' → R (.ok (.ret (.ref a))) ⟨h', g, d, t, os⟩) :
    codeAny (model prog w) A (.call (.builtin "object.__getattribute__") ⟨[.str x u, .str "__getitem__" tk], []⟩) R ⟨h, g, d, t, os⟩ :=
  codeAny_call_builtin F.slot_str_getattribute.plain F.entry_object_getattribute (F.slot_str_getattribute.check _ _ _ _ _ _ _ _ (show (⟨h, g, d, t, os⟩ : Shared).TypeIs (.str x u) "str" from rfl) (F.args_object_getattribute_2 _ _) (getitem_entry_str hq))

theorem getitem_by_str {tk : Tok} {Q : Value → Shared → Prop} (hq : ∀ a h', h.StaysIn h' → Q (.ref a) ⟨h', g, d, t, os⟩) : wpAny (model prog w) A (getAttrBy (.str x u) (.str "__getitem__" tk) false) Q E ⟨h, g, d, t, os⟩ := by
  have hT : (⟨h, g, d, t, os⟩ : Shared).TypeIs (.str x u) "str" := rfl
  have f2 := F.slot_str_getattribute.lookup
  have f3 := F.slot_str_getattribute.bind (.str x u)
  repeat (any_goals (first | assumption | wp_step))
  refine getitem_call_str fun a h' st => ?_
  have hq' := hq a h' st
  repeat (any_goals (first | assumption | wp_step))
  
theorem getitem_by_str? {tk : Tok} {Q : Option Value → Shared → Prop} (hq : ∀ a h', h.StaysIn h' → Q (some (.ref a)) ⟨h', g, d, t, os⟩) : wpAny (model prog w) A (getAttrBy? (.str x u) (.str "__getitem__" tk)) Q E ⟨h, g, d, t, os⟩ := by
  unfold getAttrBy?
  refine wpAny_bind (wpAny_attempt (getitem_by_str fun a h' st => ?_))
  have hq' := hq a h' st
  repeat (any_goals (first | assumption | wp_step))

theorem entry_hasattr : entryFor table "hasattr" = some Builtin.«hasattr» := entryFor_of_tree (by kernel_rfl)

theorem hasattr_str {tk : Tok} {Q : Value → Shared → Prop} (hq : ∀ h', h.StaysIn h' → Q (.bool true) ⟨h', g, d, t, os⟩) :
    wpAny (model prog w) A (call (.builtin "hasattr") [.str x u, .str "__getitem__" tk]) Q E ⟨h, g, d, t, os⟩ := by
  refine call_function_entry (by decide +kernel) (by decide +kernel) entry_hasattr (by unfold argsOk; kernel_rfl) ?_
  have hT : (⟨h, g, d, t, os⟩ : Shared).TypeIs (.str x u) "str" := rfl
  have f1 := lk_str_getitem
  have f2 := F.slot_str_getattribute.lookup
  unfold Builtin.«hasattr»
  repeat (any_goals (first | assumption | (with_reducible refine getitem_by_str? fun a h' st => ?_) | wp_step))
  exact ⟨_, rfl, hq _ st⟩
end
section
variable {prog : Program} {w : World} {A : Around} {E : Value → Shared → Prop} {s : Shared} {h₀ : Heap} {L : Addr} {m : Str → Option Value} {news : List (Addr × Obj)}
theorem hasattr_K {x : Str} {u tk : Tok} {Q : Value → Shared → Prop} (F : Fr h₀ L s.heap m) (N : News h₀ L s.heap news)
    (h : ∀ h', Fr h₀ L h' m → News h₀ L h' news → Q (.bool true) { s with heap := h' }) :
    wpAny (model prog w) A (call (.builtin "hasattr") [.str x u, .str "__getitem__" tk]) Q E s :=
  hasattr_str fun h' st => h h' (F.keeps st) (N.grown st)
end
local macro_rules | `(tactic| walk_at "call builtin:hasattr") => `(tactic| (k_here; k_dflt (refine' hasattr_K ?k1 ?k2 ?_; (case k1 => k_asm); (case k2 => k_asm); k_whole); intro h' F' N'; (try k_sweep)))
local macro_rules | `(tactic| walk_at "binaryOp Add str str") => `(tactic| ((with_reducible show wpAny _ _ (binaryOp Operator.Add (Value.str _ _) (Value.str _ _)) _ _ _); refine PyProof.Rows.add_str ?_ (by assumption); intro _ _))
section
variable {prog : Program} {w : World} {A : Around} {E : Value → Shared → Prop} {s : Shared} {h₀ : Heap} {L : Addr} {m : Str → Option Value} {news : List (Addr × Obj)}
theorem split3_K {x y a b c : Str} {t u : Tok} {Q : Value → Shared → Prop} (F : Fr h₀ L s.heap m) (N : News h₀ L s.heap news) (hsp : Txt.split x y = [a, b, c])
    (hy : (y.length == 0) = false) (hsz : x.length + 2 ≤ sizeLine)
    (h : ∀ D t1 t2 t3 h' k, Fr h₀ L h' m → News h₀ L h' ((D, listOf [Value.str a t1, Value.str b t2, Value.str c t3].toArray 0) :: news) → (∀ p ∈ news, p.1 < D) → Q (.ref D) { s with heap := h', toks := k }) :
    wpAny (model prog w) A (call (.builtin "str.split") [.str x t, .str y u]) Q E s := by
  refine KSpl.split1 F N hy (fun D l h' k e _ F' N' lt => ?_) hsz
  rw [hsp] at e
  obtain ⟨t1, l1, rfl, e1⟩ := KSpl.cons_of e
  obtain ⟨t2, l2, rfl, e2⟩ := KSpl.cons_of e1
  obtain ⟨t3, l3, rfl, e3⟩ := KSpl.cons_of e2
  obtain rfl := KSpl.nil_of e3
  exact h D t1 t2 t3 h' k F' N' lt
end
local macro_rules | `(tactic| walk_at "call builtin:str.split") => `(tactic| (k_here; (with_reducible show wpAny _ _ (call (Value.builtin "str.split") _) _ _ _); (refine' split3_K ?k1 ?k2 ?k3 ?k4 ?k5 ?_; (case k1 => k_asm); (case k2 => k_asm); (case k3 => assumption); (case k4 => decide); (case k5 => assumption)); (intro D' t1' t2' t3' h' k' F' N' l1); (try k_lt l1)))
section
open PySem.Builtin PySem.Builtin.Str
def findIn (x y : Str) (i j : Int) : Int := match occurrences x y (fromIndex x.length i) (min (fromIndex x.length j) x.length) 1 with | k :: _ => (k : Int) | [] => -1
theorem gives_find4 (x y : Str) (i j : Int) (t u v v' : Tok) : Gives («str.find» ⟨[.str x t, .str y u, .int i v, .int j v'], []⟩) (.int (findIn x y i j)) := by
  unfold findIn
  show Gives (match occurrences x y (fromIndex x.length i) (min (fromIndex x.length j) x.length) 1 with | k :: _ => retInt k | [] => (do rule "str.find.not-found"; retInt (-1))) _
  cases occurrences x y (fromIndex x.length i) (min (fromIndex x.length j) x.length) 1 with
  | nil => exact .rule (.of_eq rfl)
  | cons k _ => exact .of_eq rfl
theorem find4 {prog : Program} {w : World} {A : Around} {E : Value → Shared → Prop} {s : Shared} {x y : Str} {t u v v' : Tok} {i j : Int} {Q : Value → Shared → Prop}
   (hq : Q (.int (findIn x y i j) s.toks) { s with toks := s.toks + 1 }) : wpAny (model prog w) A (call (.builtin "str.find") [.str x t, .str y u, .int i v, .int j v']) Q E s :=
  call_gives F.slot_str_find (typeIs_str _ _ _) F.entry_str_find (F.args_str_find_4 _ _ _ _) (gives_find4 x y i j t u v v') hq
end
local macro_rules | `(tactic| walk_at "call builtin:str.find") => `(tactic| ((with_reducible show wpAny _ _ (call (Value.builtin "str.find") [_, _, _, _]) _ _ _); (refine find4 ?_)))
section
variable {prog : Program} {w : World} {A : Around} {s : Shared} {K : Frag} {p : Program} {loose : List Str} {mean : ExcName → Option Value} {mg mb : Str → Option Value}
  {R : Result → Shared → Prop} {name qual : Str} {params : Arguments} {body : List Stmt} {scope : Scope} {dV kV doc pm cdv ct oc : Value} {an od : Option Addr} {osl : Array (Option Value)} {f : Addr} {args : Args} {binds : List (Str × Value)}
theorem nilNews {h₀ h : Heap} {L : Addr} : News h₀ L h [] := fun _ hp => nomatch hp
def noHeap : Heap := { objs := #[] }
theorem leave_top {g : Heap} {v : Value} {s' : Shared} (T : Top p loose mean mg mb g) (hl : LeaveK noHeap mainGlobals mg g R v s') : R (.ok (.ret v)) s' := by
  obtain ⟨L', m', news', F', N', k⟩ := hl
  refine k ⟨T.g.keeps F'.keep, fun b o e => ?_, Nat.zero_le _⟩ fun p hp => ?_
  · exfalso
    unfold noHeap Heap.get? at e
    simp at e
  · refine ⟨(N' p hp).1, fun q => ?_, ?_⟩
    · obtain ⟨o, es, ep, ho, _⟩ := T.g
      have := (N' p hp).2.2
      rw [q, ho] at this; cases this
    · unfold noHeap Heap.get?; simp
theorem enterS
    (X : K.In s.heap) (T : Top p loose mean mg mb s.heap)
    (ho : K.lookup f = some ⟨oc, od, .func (fnOf name qual params body scope dV kV doc pm an cdv ct), osl⟩) (hcd : codeIn K cdv qual = true) (hroom : A.depth < recursionLimit)
    (hbind : BindsTo s (fnOf name qual params body scope dV kV doc pm an cdv ct) args binds) (hloc : ∀ y ∈ binds, scope.names.lookup y.1 = some .local)
    (h : ∀ L' h₁, Fr s.heap L' h₁ (fun y => binds.reverse.lookup y) → News s.heap L' h₁ [] →
      wpAny (model prog w) (A.deeper (envOf qual scope L' f cdv)) (execs body (envOf qual scope L' f cdv))
        (fun fl s' => LeaveK noHeap mainGlobals mg s.heap R (match fl with | .ret v => v | _ => .none) s')
        (fun e s' => wpAny (model prog w) (A.deeper (envOf qual scope L' f cdv)) (leaving (envOf qual scope L' f cdv) e) (fun _ s'' => R (.error e) s'') (fun e' s'' => R (.error e') s'') s')
        { s with heap := h₁, toks := s.toks + binds.length })
    (hco : scope.isCoroutine = false) (hgen : scope.isGenerator = false) (hk : scope.kind = .function)
    (hcell : ∀ x ∈ scope.names, x.2 ≠ .cell) : codeAny (model prog w) A (.call (.ref f) args) R s := by
  refine codeAny_call_def (fd := fnX name qual params body scope [] dV kV doc pm an cdv ct) (body := body) (binds := binds) hroom (X _ _ ho) rfl T.nolimit (codeRec_of X hcd) rfl hbind hcell hloc (fun h₁ hns hk₁ => ?_) hco hgen hk
  exact wpAny_mono (h s.heap.objs.size h₁ ⟨hns, hk₁, Nat.le_refl _⟩ nilNews) (fun fl s' hl => leave_top T hl) fun _ _ y => y
theorem enterSC
    (X : K.In s.heap) (T : Top p loose mean mg mb s.heap)
    (ho : K.lookup f = some ⟨oc, od, .func (fnOf name qual params body scope dV kV doc pm an cdv ct), osl⟩) (hcd : codeIn K cdv qual = true) (hroom : A.depth < recursionLimit)
    (hbind : BindsTo s (fnOf name qual params body scope dV kV doc pm an cdv ct) args binds) (hkind : (binds.all fun y => scope.names.lookup y.1 == some .local || scope.names.lookup y.1 == some .cell) = true)
    (hnd : ((cellsFrom 0 scope.names []).map (·.1)).Nodup)
    (h : ∀ L' h₁ tk cells, L' = s.heap.objs.size → Fr s.heap L' h₁ (bindL (envOfC qual scope L' f cdv).kindOf binds fun _ => none) → News s.heap L' h₁ cells →
      CellsAre (bindC (envOfC qual scope L' f cdv).kindOf binds fun _ => none) (cellsFrom (L' + 1) scope.names []) cells →
      wpAny (model prog w) (A.deeper (envOfC qual scope L' f cdv)) (execs body (envOfC qual scope L' f cdv))
        (fun fl s' => R (.ok (.ret (match fl with | .ret v => v | _ => .none))) s')
        (fun e s' => wpAny (model prog w) (A.deeper (envOfC qual scope L' f cdv)) (leaving (envOfC qual scope L' f cdv) e) (fun _ s'' => R (.error e) s'') (fun e' s'' => R (.error e') s'') s')
        { s with heap := h₁, toks := tk })
    (hco : scope.isCoroutine = false) (hgen : scope.isGenerator = false) (hk : scope.kind = .function) : codeAny (model prog w) A (.call (.ref f) args) R s := by
  refine codeAny_call_function hroom (X _ _ ho) rfl hco hgen rfl (codeRec_of X hcd) (hbind _ _ _ _ ?_)
  refine wpAny_newFunctionEnv_cells hk (kindsX hkind _) fun env' he s' x => ?_
  subst he
  refine ⟨T.nolimit.keeps x.toInCall.keep, codeAny_func ?_⟩
  obtain ⟨h₁, tk, rfl, _⟩ := x.done
  have hk₁ := x.toInCall.keep
  obtain ⟨cells, NC, Y⟩ := Cl.news (h₀ := s.heap) (Nat.le_refl _) fun n c hm => ⟨x.cell n c (lookup_of_mem_nodup (cellsFrom_names scope.names 0 (s.heap.objs.size + 1) [] [] rfl ▸ hnd) hm), x.above n c hm⟩
  exact h s.heap.objs.size h₁ tk cells rfl ⟨x.toInCall.ns, hk₁, Nat.le_refl _⟩ NC Y
end
def Ctr (rd ru : Nat) (w : World) (mean : ExcName → Option Value) (mg mb : Str → Option Value) (f : Addr) (s : Shared) (vs : List Value) (Ret : (Value → Shared → Prop) → Prop) : Prop :=
  ∀ (dp un : Nat) (gd : Option (List Code)) (cn : Str) (cs : Scope) (L a : Addr) (ccd : Value) (cl : List (Str × Addr)) (outer : List Env) (Q E : Value → Shared → Prop),
    (hd.heap_39 w.params).In s.heap → Top hd.view_39 (looseW hd.view_39 []) mean mg mb s.heap →
    dp + rd < recursionLimit → un + ru < cLine → Ret Q →
      wpAny (model PySem.Challenge.rw_pg0064_01.row.prog w) (ktrTop dp un gd cn cs L a ccd cl outer) (call (.ref f) vs) Q E s
local macro_rules | `(tactic| walk_at "LeaveK") => `(tactic| ((with_reducible show LeaveK noHeap _ _ _ _ _ _); k_dflt (refine' leaveK_ ?k1 ?k2 ?_; (case k1 => k_asm); (case k2 => k_asm); k_whole); intro kF kN; clear kF kN; (try dsimp only)))
local macro_rules | `(tactic| walk_at "m enter_S") => `(tactic| (refine' enterS ?k3 ?k5 ?k6 ?k7 ?k8 ?k9 ?kB ?_ ?c2 ?c3 ?c4 ?c5; (case k3 => k_asm); (case k5 => k_asm); (case k6 => k_is); (case k7 => k_is); (case k8 => ktr_room); (case k9 => exact BindsTo.of_eq rfl); (case c5 => decide); (case kB => exact locs rfl); (case c2 => exact rfl); (case c3 => exact rfl); (case c4 => exact rfl); k_whole; intro L' h' F' N'; (try dsimp only); (try k_fold)))
section
variable {s : Shared} {h' : Heap} {tk' : Nat} {L' : Addr} {m' : Str → Option Value} {Q : Value → Shared → Prop}
theorem retS {x y : Str} {t : Tok} (hret : ∀ t h' tk', s.heap.StaysIn h' → Q (.str x t) {s with heap := h', toks := tk'}) (F : Fr s.heap L' h' m') (e : y = x) : Q (.str y t) {s with heap := h', toks := tk'} := e ▸ hret t h' tk' F.keep
end
theorem concat_ok (w : World) (mean : ExcName → Option Value) (mg mb : Str → Option Value) (s : Shared) (x y : Str) (t u : Tok)
   (hx : x.length + y.length ≤ sizeLine) :
  Ctr 2 20 w mean mg mb 21 s [.str x t, .str y u] (fun Q => ∀ t h' tk', s.heap.StaysIn h' → Q (.str (x ++ y) t) {s with heap := h', toks := tk'}) := by
  unfold Ctr; k_fill; w_top off; intros; rename_i hret
  refine wpAny_call ?_
  k_dflt walk_at "m enter_S"
  k_steps
  all_goals (refine retS hret (by k_asm) rfl)
section
variable {w : World} {mean : ExcName → Option Value} {mg mb : Str → Option Value} {s : Shared} {dp un : Nat} {gd : Option (List Code)} {cn : Str} {cs : Scope} {a L₀ : Addr} {ccd : Value} {cl : List (Str × Addr)} {outer : List Env} {h₀ : Heap} {L : Addr} {m : Str → Option Value} {news : List (Addr × Obj)} {Q E : Value → Shared → Prop}
theorem use_concat {x y : Str} {t u : Tok} (F : Fr h₀ L s.heap m) (X : (hd.heap_39 w.params).In h₀) (T : Top hd.view_39 (looseW hd.view_39 []) mean mg mb h₀) (N : News h₀ L s.heap news)
   (hd : dp + 2 < recursionLimit) (hu : un + 20 < cLine) (hx : x.length + y.length ≤ sizeLine)
   (h : ∀ t h' tk', Fr h₀ L h' m → News h₀ L h' news → Q (.str (x ++ y) t) {s with heap := h', toks := tk'}) :
   wpAny (model PySem.Challenge.rw_pg0064_01.row.prog w) (ktrTop dp un gd cn cs L₀ a ccd cl outer) (call (.ref 21) [.str x t, .str y u]) Q E s :=
  concat_ok w mean mg mb s x y t u hx dp un gd cn cs L₀ a ccd cl outer Q E (X.keeps F.keep) (T.keeps F.keep) hd hu fun t h' tk' st => h t h' tk' (F.keeps st) (N.grown st)
end
theorem len_emptyS : (Str.ofString "").length = 0 := by decide
local macro_rules | `(tactic| walk_at "m my_len") => `(tactic| ((try simp only [Str.length_append, len_emptyS, sizeLine_eq]); omega))
local macro_rules | `(tactic| walk_at "call ref") => `(tactic| ((with_reducible show wpAny _ _ (call (Value.ref 21) [Value.str _ _, Value.str _ _]) _ _ _); k_dflt (refine' use_concat ?k2 ?k3 ?k4 ?k5 ?k7 ?k8 ?k9 ?_; (case k2 => k_asm); (case k3 => k_asm); (case k4 => k_asm); (case k5 => k_asm); (case k7 => ktr_room); (case k8 => ktr_units); (case k9 => first | assumption | walk_at "m my_len")); intro t' h' tk' F' N'; (try dsimp only); (try k_sweep)))
def lt2 (la lb : Nat) (r : Int) : Str := ⟨#[if r.fmod 2 = 0 then la else lb]⟩
def pick4 (a0 a1 a2 a3 k : Int) : Int := if k = 0 then a0 else if k = 1 then a1 else if k = 2 then a2 else a3
theorem fmod_cases2 (r : Int) : r.fmod 2 = 0 ∨ r.fmod 2 = 1 := by
  have h1 := Int.fmod_nonneg_of_pos r (b := 2) (by omega)
  have h2 := Int.fmod_lt_of_pos r (b := 2) (by omega)
  omega
theorem fmod_cases4 (r : Int) : r.fmod 4 = 0 ∨ r.fmod 4 = 1 ∨ r.fmod 4 = 2 ∨ r.fmod 4 = 3 := by
  have h1 := Int.fmod_nonneg_of_pos r (b := 4) (by omega)
  have h2 := Int.fmod_lt_of_pos r (b := 4) (by omega)
  omega
section
variable {prog : Program} {w : World} {A : Around} {E : Value → Shared → Prop} {s : Shared} {h₀ : Heap} {L : Addr} {m : Str → Option Value} {news : List (Addr × Obj)} {Q : Value → Shared → Prop} {value slice : PySem.Expr} {u v : Tok}
theorem letItem_K {la lb : Nat} {r : Int} (h : ∀ t tk, Q (.str (lt2 la lb r) t) {s with toks := tk})
    (hs : subscripted slice false (.str ⟨#[la, lb]⟩ u) (.int (r.fmod 2) v) = operate [.str ⟨#[la, lb]⟩ u, .int (r.fmod 2) v] (getItem (.str ⟨#[la, lb]⟩ u) (.int (r.fmod 2) v)) := by with_unfolding_all rfl) :
    wpAny (model prog w) A (subscriptTail value slice (.str ⟨#[la, lb]⟩ u) (.int (r.fmod 2) v)) Q E s := by
  refine tail_any (typeIs_str _ _ _) F.slot_str_getitem.lookup ?_ hs
  have h' := h
  unfold lt2 at h'
  rcases fmod_cases2 r with e | e <;> rw [e] at h' ⊢ <;> exact P.getItem_str (by decide) rfl (h' _ _)
theorem tup4_K {sz : Addr} {a0 a1 a2 a3 r : Int} {t0 t1 t2 t3 : Tok} (F : Fr h₀ L s.heap m) (hT : IsTup h₀ sz [Value.int a0 t0, Value.int a1 t1, Value.int a2 t2, Value.int a3 t3].toArray)
    (h : ∀ t j, j = pick4 a0 a1 a2 a3 (r.fmod 4) → Q (.int j t) s)
    (hs : subscripted slice false (.ref sz) (.int (r.fmod 4) v) = operate [.ref sz, .int (r.fmod 4) v] (getItem (.ref sz) (.int (r.fmod 4) v)) := by with_unfolding_all rfl) :
    wpAny (model prog w) A (subscriptTail value slice (.ref sz) (.int (r.fmod 4) v)) Q E s := by
  have hT' := hT.keeps F.keep
  rcases fmod_cases4 r with e | e | e | e <;> rw [e] at h hs ⊢
  · exact item_tupleT hT' (by decide) (by decide) (j := 0) rfl rfl (h _ _ rfl) hs
  · exact item_tupleT hT' (by decide) (by decide) (j := 1) rfl rfl (h _ _ rfl) hs
  · exact item_tupleT hT' (by decide) (by decide) (j := 2) rfl rfl (h _ _ rfl) hs
  · exact item_tupleT hT' (by decide) (by decide) (j := 3) rfl rfl (h _ _ rfl) hs
end
theorem len_lt2 (la lb : Nat) (r : Int) : (lt2 la lb r).length = 1 := rfl
local macro_rules | `(tactic| walk_at "m my_len") => `(tactic| ((try simp only [Str.length_append, len_emptyS, len_lt2, sizeLine_eq]); omega))
local macro_rules | `(tactic| walk_at "subscriptTail Name BinOp str int") => `(tactic| ((with_reducible show wpAny _ _ (subscriptTail _ _ (Value.str _ _) (Value.int (Int.fmod _ 2) _)) _ _ _); (refine letItem_K ?_); intro t' tk'; (try dsimp only)))
def pieceF (la lb : Nat) : Nat → Int → Str → Str
  | 0, _, acc => acc
  | k + 1, r, acc => pieceF la lb k (r.fdiv 2) (acc ++ lt2 la lb r)
theorem piece_ok (w : World) (mean : ExcName → Option Value) (mg mb : Str → Option Value) (s : Shared) (n : Int) (sz : Addr) (la lb : Nat) (t u t0 t1 t2 t3 : Tok) (a0 a1 a2 a3 : Int) (k : Nat)
   (hk : pick4 a0 a1 a2 a3 (n.fmod 4) = k) (hk3 : k ≤ 3) (hsz : IsTup s.heap sz [Value.int a0 t0, Value.int a1 t1, Value.int a2 t2, Value.int a3 t3].toArray) :
  Ctr 4 40 w mean mg mb 49 s [.int n t, .ref sz, .str ⟨#[la, lb]⟩ u] (fun Q => ∀ t h' tk', s.heap.StaysIn h' → Q (.str (pieceF la lb k (n.fdiv 4) (Str.ofString "")) t) {s with heap := h', toks := tk'}) := by
  unfold Ctr; k_fill; w_top off; intros; rename_i hret
  refine wpAny_call ?_
  k_dflt walk_at "m enter_S"
  k_steps
  refine tup4_K (by k_asm) hsz ?_
  intro t' j' hj'
  rw [hk] at hj'
  obtain rfl | rfl | rfl | rfl : k = 0 ∨ k = 1 ∨ k = 2 ∨ k = 3 := by omega
  · obtain rfl : j' = 0 := hj'
    k_steps
    all_goals (refine retS hret (by k_asm) rfl)
  · obtain rfl : j' = 1 := hj'
    k_steps
    all_goals (refine retS hret (by k_asm) rfl)
  · obtain rfl : j' = 2 := hj'
    k_steps
    all_goals (refine retS hret (by k_asm) rfl)
  · obtain rfl : j' = 3 := hj'
    k_steps
    all_goals (refine retS hret (by k_asm) rfl)
def Held (P : Prop) : Prop := P
theorem Held.out {P : Prop} (h : Held P) : P := h
theorem Held.mk {P : Prop} (h : P) : Held P := h
section
variable {prog : Program} {w : World} {A : Around} {E : Value → Shared → Prop} {s : Shared} {env : Env} {h₀ : Heap} {x : Str} {px : Pos} {body orelse : List Stmt} {m : Str → Option Value} {news : List (Addr × Obj)}
def StepEnd (h₀ : Heap) (L : Addr) (s : Shared) (I : Addr) (oI : Obj) (news : List (Addr × Obj)) (J : (Str → Option Value) → Prop) (s₃ : Shared) : Prop :=
  ∃ h₃ tk₃ m₃ all, s₃ = { s with heap := h₃, toks := tk₃ } ∧ Fr h₀ L h₃ m₃ ∧ News h₀ L h₃ all ∧ (∀ p ∈ (I, oI) :: news, p ∈ all) ∧ J m₃
def StepPost (h₀ : Heap) (L : Addr) (s : Shared) (I : Addr) (oI : Obj) (news : List (Addr × Obj)) (J : (Str → Option Value) → Prop) (R : Result → Shared → Prop) (f : Flow) (s₃ : Shared) : Prop :=
  match f with
  | .ret v => R (.ok (.ret v)) s₃
  | .brk => R (.ok .next) s₃
  | _ => StepEnd h₀ L s I oI news J s₃
theorem forI {R : Result → Shared → Prop} {I : Addr} {n : Nat} {P : Nat → Value → Prop} {St : Nat → Heap → Prop}
    (W : Walks prog w A I [I] [I] n P St) (hIo : ∀ i h, St i h → ∃ o, h.get? I = some o)
    (hx : env.kindOf x = some .local) (hp : (env.scope.kind == .class || (env.scope.kind == .module && env.locals != env.globals)) = false)
    (hL : env.locals ≠ I) (hI₀ : h₀.get? I = none) (hnw : ∀ p ∈ news, p.1 ≠ I) (hst : St 0 s.heap) (F : Fr h₀ env.locals s.heap m) (N : News h₀ env.locals s.heap news)
    (J : Nat → (Str → Option Value) → Prop) (h0 : J 0 m)
    (step : ∀ i v m₁ h₁ tk₁ oI, i < n → P i v → J i m₁ → Fr h₀ env.locals h₁ (fun y => if y = x then some v else m₁ y) → News h₀ env.locals h₁ ((I, oI) :: news) →
      wpAny (model prog w) A (execs body env) (StepPost h₀ env.locals s I oI news (J (i + 1)) R) (fun _ _ => False) { s with heap := h₁, toks := tk₁ })
    (done : ∀ m₁ h₁ tk₁, J n m₁ → Fr h₀ env.locals h₁ m₁ → News h₀ env.locals h₁ news →
      wpAny (model prog w) A (execs orelse env) (fun f s₃ => R (.ok f) s₃) (notedBy (model prog w) A env fun e s' => R (.error e) s') { s with heap := h₁, toks := tk₁ }) :
    codeAny (model prog w) A (.forLoop (.Name x px) (.ref I) body orelse env) R s := by
  refine codeAny_forLoop_any
    (fun k s' => ∃ h' tk m' i, s' = { s with heap := h', toks := tk } ∧ St i h' ∧ Fr h₀ env.locals h' m' ∧ News h₀ env.locals h' news ∧ J i m' ∧ i ≤ n ∧ k = n + 1 - i) ?_ (n + 1)
    ⟨s.heap, s.toks, m, 0, rfl, hst, F, N, h0, Nat.zero_le _, rfl⟩
  rintro k s' ⟨h', tk, m', i, rfl, hst', F', N', hJ, hi, rfl⟩
  have keep : ∀ h₁ : Heap, (∀ b o, b ∉ [I] → h'.get? b = some o → h₁.get? b = some o) → Fr h₀ env.locals h₁ m' ∧ News h₀ env.locals h₁ news := fun h₁ hk =>
    ⟨LCg.fr_but F' hk hL hI₀, LCg.news_but N' hk hnw⟩
  by_cases hlt : i < n
  · refine W.item i _ _ _ hlt hst' fun v h₁ tk₁ hPv hst₁ hk₁ => ?_
    obtain ⟨F₁, N₁⟩ := keep h₁ hk₁
    show wpAny _ A (letOwnedTupleGo (.Name x px) (.ref I) v) _ _ _
    refine wpAny_pure ?_
    refine wpAny_assign_Name (wpAny_storeName_local hx F₁.ns (fun h₂ hn₂ hs₂ => ?_) hp)
    have F₂ := F₁.set hn₂ hs₂
    have N₂ := N₁.set hs₂
    obtain ⟨oI, heI⟩ := hIo _ _ hst₁
    have heI₂ : h₂.get? I = some oI := hs₂.extBut _ _ (Ne.symm hL) heI
    have N₃ : News h₀ env.locals h₂ ((I, oI) :: news) := fun p hp => by
      rcases List.mem_cons.mp hp with rfl | hp
      · exact ⟨heI₂, Ne.symm hL, hI₀⟩
      · exact N₂ p hp
    refine wpAny_mono (step i v m' h₂ (tk₁ + 1) oI hlt hPv hJ F₂ N₃) (fun f s₃ h₃ => ?_) fun _ _ e => e.elim
    have fin : StepEnd h₀ env.locals s I oI news (J (i + 1)) s₃ → ∃ m_1, m_1 < n + 1 - i ∧ ∃ h' tk m' i, s₃ = { s with heap := h', toks := tk } ∧ St i h' ∧ Fr h₀ env.locals h' m' ∧ News h₀ env.locals h' news ∧ J i m' ∧ i ≤ n ∧ m_1 = n + 1 - i := by
      rintro ⟨h₅, tk₃, m₃, all, rfl, F₃, N₃', sub, hJ₃⟩
      refine ⟨n + 1 - (i + 1), by omega, h₅, tk₃, m₃, i + 1, rfl, ?_, F₃, fun p hp => N₃' p (sub p (List.mem_cons_of_mem _ hp)), hJ₃, hlt, rfl⟩
      refine W.frame _ _ _ hst₁ fun b hb o e => ?_
      rw [List.mem_singleton.mp hb] at e ⊢
      rw [heI] at e
      rw [← e]
      exact (N₃' _ (sub _ List.mem_cons_self)).1
    cases f with
    | ret v => exact h₃
    | brk => exact h₃
    | next => exact fin h₃
    | cont => exact fin h₃
  · obtain rfl : i = n := Nat.le_antisymm hi (Nat.not_lt.mp hlt)
    refine W.done _ _ _ hst' fun h₁ tk₁ hk₁ => ?_
    obtain ⟨F₁, N₁⟩ := keep h₁ hk₁
    exact done m' h₁ tk₁ hJ F₁ N₁
end
section
variable {prog : Program} {w : World} {A : Around} {E : Value → Shared → Prop} {s : Shared} {env : Env} {h₀ : Heap} {x : Str} {px pos : Pos} {iter : PySem.Expr} {body : List Stmt} {m : Str → Option Value} {news : List (Addr × Obj)} {Q : Flow → Shared → Prop}
def QR (M : Model) (A : Around) (env : Env) (Q : Flow → Shared → Prop) (E : Value → Shared → Prop) : Result → Shared → Prop := fun r s' => match r with | .ok f => Q f s' | .error e => cameBackBy M A env E e s'
theorem for_text {text : Str} {tok : Tok} (J : Nat → (Str → Option Value) → Prop) (hh : A.handled = none)
    (hi : ∀ Q' : Value → Shared → Prop, Q' (.str text tok) s → wpAny (model prog w) A (eval iter env) Q' E s)
    (hx : env.kindOf x = some .local) (hp : (env.scope.kind == .class || (env.scope.kind == .module && env.locals != env.globals)) = false)
    (F : Fr h₀ env.locals s.heap m) (N : News h₀ env.locals s.heap news) (h0 : J 0 m)
    (step : ∀ i c t m₁ h₁ tk₁ I oI, text.cps[i]? = some c → J i m₁ → Fr h₀ env.locals h₁ (fun y => if y = x then some (.str ⟨#[c]⟩ t) else m₁ y) → News h₀ env.locals h₁ ((I, oI) :: news) → (∀ p ∈ news, p.1 < I) →
      wpAny (model prog w) A (execs body env) (StepPost h₀ env.locals s I oI news (J (i + 1)) (QR (model prog w) A env Q E)) (fun _ _ => False) { s with heap := h₁, toks := tk₁ })
    (done : ∀ m₁ h₁ tk₁, J text.cps.size m₁ → Fr h₀ env.locals h₁ m₁ → News h₀ env.locals h₁ news → Q .next { s with heap := h₁, toks := tk₁ })
    (hs : ∀ x, foldedSetIterable iter env x = pure x := by intro _; rfl) :
    wpAny (model prog w) A (exec (.For (.Name x px) iter body [] pos) env) Q E s := by
  refine wpAny_For (hi _ ?_) hs
  have hlt : ∀ p ∈ news, p.1 < s.heap.objs.size := fun p hp => Heap.lt_size (N p hp).1
  have go : ∀ o (St : Nat → Heap → Prop), Walks prog w A s.heap.objs.size [s.heap.objs.size] [s.heap.objs.size] text.cps.size (SignAt text) St → (∀ i h, St i h → ∃ o, h.get? s.heap.objs.size = some o) → St 0 (s.heap.push o) →
      codeAny (model prog w) A (.forLoop (.Name x px) (.ref s.heap.objs.size) body [] env) (fun r s' => match r with | .ok f => Q f s' | .error e => cameBackBy (model prog w) A env E e s') { s with heap := s.heap.push o } := by
    intro o St W hSt hst
    refine forI (R := QR (model prog w) A env Q E) W hSt hx hp (Nat.ne_of_lt F.ns.lt) (next_is_new F) (fun p hp => Nat.ne_of_lt (hlt p hp)) hst (F.push _) (fun p hp => ⟨Heap.get?_push_of_some _ (N p hp).1, (N p hp).2⟩) J h0 ?_ ?_
    · rintro i v m₁ h₁ tk₁ oI hi ⟨c, u, hc, rfl⟩ hJ F₁ N₁
      exact step i c u m₁ h₁ tk₁ _ oI hc hJ F₁ N₁ hlt
    · intro m₁ h₁ tk₁ hJ F₁ N₁
      exact wpAny_execs_nil (done m₁ h₁ tk₁ hJ F₁ N₁)
  cases ha : text.cps.all (· < 128)
  · exact wpAny_pyIter_wide ha (go _ _ (Walks.strWide hh _ text tok) (fun _ _ ⟨o, ho, _⟩ => ⟨o, ho⟩) ⟨_, Heap.get?_push_size _ rfl, rfl, rfl⟩)
  · exact wpAny_pyIter_ascii ha (go _ _ (Walks.strAscii hh _ text tok) (fun _ _ ⟨o, ho, _⟩ => ⟨o, ho⟩) ⟨_, Heap.get?_push_size _ rfl, rfl, rfl⟩)
theorem for_range {a b : Int} {n : Nat} (J : Nat → (Str → Option Value) → Prop) (hh : A.handled = none)
    (hi : wpAny (model prog w) A (eval iter env) (fun xv s₁ => ∃ r t u v h₁ tk₁, xv = .ref r ∧ s₁ = { s with heap := h₁, toks := tk₁ } ∧ IsRange h₁ r a b 1 t u v ∧ Fr h₀ env.locals h₁ m ∧ News h₀ env.locals h₁ news) E s)
    (hsm : Builtin.Range.small a b 1 = true) (hn : Builtin.Range.rangeSize a b 1 = (n : Int))
    (hx : env.kindOf x = some .local) (hp : (env.scope.kind == .class || (env.scope.kind == .module && env.locals != env.globals)) = false)
    (h0 : J 0 m)
    (step : ∀ i t m₁ h₁ tk₁ I oI, i < n → J i m₁ → Fr h₀ env.locals h₁ (fun y => if y = x then some (.int (a + (i : Nat)) t) else m₁ y) → News h₀ env.locals h₁ ((I, oI) :: news) → (∀ p ∈ news, p.1 < I) →
      wpAny (model prog w) A (execs body env) (StepPost h₀ env.locals s I oI news (J (i + 1)) (QR (model prog w) A env Q E)) (fun _ _ => False) { s with heap := h₁, toks := tk₁ })
    (done : ∀ m₁ h₁ tk₁, J n m₁ → Fr h₀ env.locals h₁ m₁ → News h₀ env.locals h₁ news → Q .next { s with heap := h₁, toks := tk₁ })
    (hs : ∀ x, foldedSetIterable iter env x = pure x := by intro _; rfl) :
    wpAny (model prog w) A (exec (.For (.Name x px) iter body [] pos) env) Q E s := by
  refine wpAny_For (wpAny_mono hi (fun xv s₁ h₁ => ?_) fun _ _ e => e) hs
  obtain ⟨r, t, u, v, h₁, tk₁, rfl, rfl, hr, F, N⟩ := h₁
  refine wpAny_pyIter_range hr hsm ?_
  have hlt : ∀ p ∈ news, p.1 < h₁.objs.size := fun p hp => Heap.lt_size (N p hp).1
  refine forI (R := QR (model prog w) A env Q E) (LCg.range_walks hh a n) (fun i h st => ⟨_, st⟩) hx hp (Nat.ne_of_lt F.ns.lt) (next_is_new F) (fun p hp => Nat.ne_of_lt (hlt p hp))
    (by show IsRangeIter _ _ _ _ _; rw [hn]; simpa using Heap.get?_push_size _ rfl) (F.push _) (fun p hp => ⟨Heap.get?_push_of_some _ (N p hp).1, (N p hp).2⟩) J h0 ?_ ?_
  · rintro i v m₁ h₁ tk₁ oI hi ⟨t, rfl⟩ hJ F₁ N₁
    exact step i t m₁ h₁ tk₁ _ oI hi hJ F₁ N₁ hlt
  · intro m₁ h₁ tk₁ hJ F₁ N₁
    exact wpAny_execs_nil (done m₁ h₁ tk₁ hJ F₁ N₁)
end
section
variable {prog : Program} {w : World} {A : Around} {E : Value → Shared → Prop} {s : Shared} {env : Env} {h₀ : Heap} {pos : Pos} {test : PySem.Expr} {body : List Stmt} {m : Str → Option Value} {news : List (Addr × Obj)} {Q : Flow → Shared → Prop}
def WEnd (h₀ : Heap) (L : Addr) (s : Shared) (news : List (Addr × Obj)) (k : Nat) (J : Nat → (Str → Option Value) → Prop) (s₃ : Shared) : Prop :=
  ∃ h₃ tk₃ m₃ all k', s₃ = { s with heap := h₃, toks := tk₃ } ∧ Fr h₀ L h₃ m₃ ∧ News h₀ L h₃ all ∧ (∀ p ∈ news, p ∈ all) ∧ k' < k ∧ J k' m₃
def WPost (h₀ : Heap) (L : Addr) (s : Shared) (news : List (Addr × Obj)) (k : Nat) (J : Nat → (Str → Option Value) → Prop) (Q : Flow → Shared → Prop) (f : Flow) (s₃ : Shared) : Prop :=
  match f with
  | .ret v => Q (.ret v) s₃
  | .brk => Q .next s₃
  | _ => WEnd h₀ L s news k J s₃
theorem while_I (J : Nat → (Str → Option Value) → Prop) (n : Nat) (F : Fr h₀ env.locals s.heap m) (N : News h₀ env.locals s.heap news) (h0 : J n m)
    (turn : ∀ k m₁ h₁ tk₁, J k m₁ → Fr h₀ env.locals h₁ m₁ → News h₀ env.locals h₁ news →
      wpAny (model prog w) A (isTrue test env (eval test env)) (fun b s₂ => if b = true then wpAny (model prog w) A (execs body env) (WPost h₀ env.locals s news k J Q) (fun _ _ => False) s₂ else Q .next s₂) (fun _ _ => False) { s with heap := h₁, toks := tk₁ }) :
    wpAny (model prog w) A (exec (.While test body [] pos) env) Q E s := by
  rw [exec_While]
  refine wpAny_bind (wpAny_standAt (wpAny_runOwn ?_))
  refine codeAny_whileLoop (fun k s' => ∃ h' tk m', s' = { s with heap := h', toks := tk } ∧ Fr h₀ env.locals h' m' ∧ News h₀ env.locals h' news ∧ J k m') ?_ n ⟨s.heap, s.toks, m, rfl, F, N, h0⟩
  rintro k s' ⟨h', tk, m', rfl, F', N', hJ⟩
  refine wpAny_mono (turn k m' h' tk hJ F' N') (fun b s₂ h₂ => ?_) fun _ _ e => e.elim
  cases b with
  | false =>
    simp only [Bool.false_eq_true, if_false] at h₂ ⊢
    exact wpAny_execs_nil h₂
  | true =>
    simp only [if_true] at h₂ ⊢
    refine wpAny_mono h₂ (fun f s₃ h₃ => ?_) fun _ _ e => e.elim
    have fin : WEnd h₀ env.locals s news k J s₃ → ∃ m_1, m_1 < k ∧ ∃ h' tk m', s₃ = { s with heap := h', toks := tk } ∧ Fr h₀ env.locals h' m' ∧ News h₀ env.locals h' news ∧ J m_1 m' := by
      rintro ⟨h₅, tk₃, m₃, all, k', rfl, F₃, N₃, sub, hk, hJ₃⟩
      exact ⟨k', hk, h₅, tk₃, m₃, rfl, F₃, fun p hp => N₃ p (sub p hp), hJ₃⟩
    cases f with
    | ret v => exact h₃
    | brk => exact h₃
    | next => exact fin h₃
    | cont => exact fin h₃
end
section
variable {prog : Program} {w : World} {A : Around} {E : Value → Shared → Prop} {s : Shared} {h₀ : Heap} {L : Addr} {m : Str → Option Value} {news : List (Addr × Obj)} {Q : Value → Shared → Prop} {value slice : PySem.Expr} {u v : Tok}
theorem baseItem_K {pa : Addr} {vs : List Value} {i : Int} {x : Value} (F : Fr h₀ L s.heap m) (hl : h₀.IsList pa vs.toArray) (h0 : 0 ≤ i) (hhi : i < 2 ^ 63) (hx : vs[i.toNat]? = some x) (h : Q x s)
    (hs : subscripted slice false (.ref pa) (.int i v) = operate [.ref pa, .int i v] (getItem (.ref pa) (.int i v)) := by with_unfolding_all rfl) :
    wpAny (model prog w) A (subscriptTail value slice (.ref pa) (.int i v)) Q E s :=
  have hL := hl.at fun o e => F.keep pa o e
  tail_any hL.typeIs slot_list_getitem.lookup (wpAny_getItem_list hL h0 hhi (by simpa using hx) h) hs
end
section
variable {prog : Program} {w : World} {A : Around} {E : Value → Shared → Prop} {s : Shared} {env : Env} {h₀ : Heap} {x : Str} {px pos : Pos} {iter : PySem.Expr} {body : List Stmt} {m : Str → Option Value} {news : List (Addr × Obj)} {Q : Flow → Shared → Prop}
theorem for_textM {text : Str} {tok : Tok} (J : (Str → Option Value) → Nat → (Str → Option Value) → Prop) (hh : A.handled = none)
    (hi : ∀ Q' : Value → Shared → Prop, Q' (.str text tok) s → wpAny (model prog w) A (eval iter env) Q' E s)
    (hx : env.kindOf x = some .local) (hp : (env.scope.kind == .class || (env.scope.kind == .module && env.locals != env.globals)) = false)
    (F : Fr h₀ env.locals s.heap m) (N : News h₀ env.locals s.heap news) (h0 : J m 0 m)
    (step : ∀ i c t m₁ h₁ tk₁ I oI, text.cps[i]? = some c → J m i m₁ → Fr h₀ env.locals h₁ (fun y => if y = x then some (.str ⟨#[c]⟩ t) else m₁ y) → News h₀ env.locals h₁ ((I, oI) :: news) → (∀ p ∈ news, p.1 < I) →
      wpAny (model prog w) A (execs body env) (StepPost h₀ env.locals s I oI news (J m (i + 1)) (QR (model prog w) A env Q E)) (fun _ _ => False) { s with heap := h₁, toks := tk₁ })
    (done : ∀ m₁ h₁ tk₁, J m text.cps.size m₁ → Fr h₀ env.locals h₁ m₁ → News h₀ env.locals h₁ news → Q .next { s with heap := h₁, toks := tk₁ })
    (hs : ∀ x, foldedSetIterable iter env x = pure x := by intro _; rfl) :
    wpAny (model prog w) A (exec (.For (.Name x px) iter body [] pos) env) Q E s := for_text (J m) hh hi hx hp F N h0 step done hs
end
section
variable {prog : Program} {w : World} {A : Around} {E : Value → Shared → Prop} {s : Shared} {env : Env} {h₀ : Heap} {pos : Pos} {test : PySem.Expr} {body : List Stmt} {m : Str → Option Value} {news : List (Addr × Obj)} {Q : Flow → Shared → Prop}
theorem while_M (J : (Str → Option Value) → Nat → (Str → Option Value) → Prop) (n : Nat) (F : Fr h₀ env.locals s.heap m) (N : News h₀ env.locals s.heap news) (h0 : J m n m)
    (turn : ∀ k m₁ h₁ tk₁, J m k m₁ → Fr h₀ env.locals h₁ m₁ → News h₀ env.locals h₁ news →
      wpAny (model prog w) A (isTrue test env (eval test env)) (fun b s₂ => if b = true then wpAny (model prog w) A (execs body env) (WPost h₀ env.locals s news k (J m) Q) (fun _ _ => False) s₂ else Q .next s₂) (fun _ _ => False) { s with heap := h₁, toks := tk₁ }) :
    wpAny (model prog w) A (exec (.While test body [] pos) env) Q E s := while_I (J m) n F N h0 turn
end
def tail1 (q : Str) : Str := Txt.slice q (some 1) none
def shrS (p : Str) : Nat → Str → Str
  | 0, q => q
  | k + 1, q => if Txt.startswith p q = true then q else shrS p k (tail1 q)
def adv (n : Nat) (en p : Str) (k : Nat) (q : Str) : Nat × Str := if q = p ∧ (k + 1 < n ∨ en = Str.ofString "") then (k + 1, Str.ofString "") else (k, q)
def rstep (ps : List Str) (front en : Str) (k : Nat) (q : Str) (c : Nat) : Option (Nat × Str) :=
  match ps[k]? with
  | none => some (k, q)
  | some p =>
    if k = 0 ∧ front ≠ Str.ofString "" then (if Txt.startswith p (q ++ ⟨#[c]⟩) = true then some (adv ps.length en p k (q ++ ⟨#[c]⟩)) else none)
    else some (adv ps.length en p k (shrS p (q.length + 1) (q ++ ⟨#[c]⟩)))
def readT (ps : List Str) (front en : Str) : List Nat → Nat → Str → Option (Nat × Str)
  | [], k, q => some (k, q)
  | c :: r, k, q => match rstep ps front en k q c with
    | none => none
    | some st => readT ps front en r st.1 st.2
def stMap (m : Str → Option Value) (u : Option Value) (k : Nat) (tk : Tok) (q : Str) (tq : Tok) : Str → Option Value :=
  fun z => if z = Str.ofString "sign" then u else if z = Str.ofString "part" then some (.str q tq) else if z = Str.ofString "spot" then some (.int k tk) else m z
def LeftJ (ps : List Str) (front en text : Str) (m : Str → Option Value) (i : Nat) (m₁ : Str → Option Value) : Prop :=
  ∃ u k tk q tq, m₁ = stMap m u k tk q tq ∧ readT ps front en (text.cps.toList.drop i) k q = readT ps front en text.cps.toList 0 (Str.ofString "") ∧ k ≤ ps.length ∧ q.length ≤ i
theorem strValues_length (l : List (Str × Tok)) : (strValues l).length = l.length := by simp [strValues]
theorem joinOk_of {sep : Str} {texts : List Str} (h : (texts.map (·.length)).sum + texts.length * sep.length ≤ 10000) : JoinOk sep texts = true := by
  have key : ∀ (l : List Str) (a : Nat), l.foldl (fun a x => a + x.length + sep.length) a = a + (l.map (·.length)).sum + l.length * sep.length := by
    intro l
    induction l with
    | nil => intro a; simp
    | cons x r ih => intro a; simp only [List.foldl_cons, ih, List.map_cons, List.sum_cons, List.length_cons, Nat.succ_mul]; omega
  unfold JoinOk PySem.Builtin.Str.tooLong
  rw [List.foldl_toArray, key]
  simp only [Nat.zero_add]
  have : ¬ ((texts.map (·.length)).sum + texts.length * sep.length > 16777216) := by omega
  simp [sizeLine_eq]
  omega
section
variable {prog : Program} {w : World} {A : Around} {E : Value → Shared → Prop} {s : Shared} {h₀ : Heap} {L : Addr} {m : Str → Option Value} {news : List (Addr × Obj)} {Q : Value → Shared → Prop} {value slice : PySem.Expr} {u v t : Tok} {pa : Addr} {l : List (Str × Tok)}
theorem lenStrs_K (F : Fr h₀ L s.heap m) (hl : h₀.IsList pa (strValues l).toArray) (hb : l.length ≤ 1000) (h : ∀ t tk, Q (.int (l.length : Int) t) { s with toks := tk }) :
    wpAny (model prog w) A (call (.builtin "len") [.ref pa]) Q E s := by
  have hL := hl.at fun o e => F.keep pa o e
  have e : (strValues l).toArray.size = l.length := by simp [strValues]
  refine call_len_list hL (by rw [e]; omega) ?_
  rw [e]; exact h _ _
theorem sliceStrs_K {k : Nat} (F : Fr h₀ L s.heap m) (N : News h₀ L s.heap news) (hl : h₀.IsList pa (strValues l).toArray) (hk : k ≤ l.length) (hb : l.length ≤ 1000)
    (h : ∀ D h', Fr h₀ L h' m → News h₀ L h' ((D, listOf (strValues (l.drop k)).toArray 0) :: news) → (∀ p ∈ news, p.1 < D) → Q (.ref D) { s with heap := h' })
    (hs : subscripted slice false (.ref pa) (.ref s.heap.objs.size) = operate [.ref s.heap.objs.size, .ref pa] (getItem (.ref pa) (.ref s.heap.objs.size)) := by with_unfolding_all rfl) (ht : ∀ r, letTemporaryGo value (.ref pa) r = pure () := by intro _; with_unfolding_all rfl) :
    wpAny (model prog w) A (subscriptTail value slice (.ref pa) (.ref s.heap.objs.size)) Q E { s with heap := s.heap.push { cls := .type "slice", data := .fields #[.int (k : Int) t, .none, .none] } } := by
  have hL := hl.at fun o e => F.keep pa o e
  have e : (strValues l).toArray.size = l.length := by simp [strValues]
  refine kmk_slice F N hL (.int (k : Int) t) .none (fun D h' F' N' lt => h D h' F' ?_ lt) hs ht (by rw [e, sizeLine_eq]; omega)
  have e2 : slicePick (strValues l).toArray (some (k : Int)) none none = (strValues (l.drop k)).toArray := by
    rw [slicePick_from _ _ (by rw [e]; exact hk)]; simp [strValues]
  rw [e2] at N'; exact N'
theorem joinNews_K {x : Str} {D : Addr} {n : Nat} (N : News h₀ L s.heap news) (hm : (D, listOf (strValues l).toArray n) ∈ news) (hok : JoinOk x (l.map (·.1)) = true)
    (h : ∀ t tk, Q (.str (Txt.join x (l.map (·.1))) t) { s with toks := tk }) : wpAny (model prog w) A (call (.builtin "str.join") [.str x t, .ref D]) Q E s :=
  SC.join ⟨_, (N _ hm).1, rfl, _, rfl⟩ rfl hok h
theorem joinBase_K {x : Str} (F : Fr h₀ L s.heap m) (hl : h₀.IsList pa (strValues l).toArray) (hok : JoinOk x (l.map (·.1)) = true)
    (h : ∀ t tk, Q (.str (Txt.join x (l.map (·.1))) t) { s with toks := tk }) : wpAny (model prog w) A (call (.builtin "str.join") [.str x t, .ref pa]) Q E s :=
  SC.join (hl.at fun o e => F.keep pa o e) rfl hok h
end
local macro_rules | `(tactic| walk_at "subscriptTail Name Slice str ref") => `(tactic| ((with_reducible show wpAny _ _ (subscriptTail _ (Expr.Slice (some _) none none _) (Value.str _ _) _) _ _ _); (refine' slice_strN_sn (s := ⟨_, _, _, _, _⟩) ?k1 ?k2 ?_ ?k3 ?k4 ?k5; (case k1 => k_asm); (case k2 => k_asm); (case k3 => with_unfolding_all rfl); (case k4 => (intro _; with_unfolding_all rfl)); (case k5 => walk_at "m my_len")); intro h' t' k' F' N'; (try dsimp only); (try k_sweep)))
local macro_rules | `(tactic| walk_at "subscriptTail Name Slice str ref") => `(tactic| ((with_reducible show wpAny _ _ (subscriptTail _ (Expr.Slice none (some _) none _) (Value.str _ _) _) _ _ _); (refine' slice_strN_ns (s := ⟨_, _, _, _, _⟩) ?k1 ?k2 ?_ ?k3 ?k4 ?k5; (case k1 => k_asm); (case k2 => k_asm); (case k3 => with_unfolding_all rfl); (case k4 => (intro _; with_unfolding_all rfl)); (case k5 => walk_at "m my_len")); intro h' t' k' F' N'; (try dsimp only); (try k_sweep)))
local macro_rules | `(tactic| walk_at "subscriptTail Name Slice str ref") => `(tactic| ((with_reducible show wpAny _ _ (subscriptTail _ (Expr.Slice (some _) (some _) none _) (Value.str _ _) _) _ _ _); (refine' slice_strN_ss (s := ⟨_, _, _, _, _⟩) ?k1 ?k2 ?_ ?k3 ?k4 ?k5; (case k1 => k_asm); (case k2 => k_asm); (case k3 => with_unfolding_all rfl); (case k4 => (intro _; with_unfolding_all rfl)); (case k5 => walk_at "m my_len")); intro h' t' k' F' N'; (try dsimp only); (try k_sweep)))
theorem startswith_nil {p q : Str} (h : q.length = 0) : Txt.startswith p q = true := by
  unfold Txt.startswith
  rw [StrLaws.subAt_eq, h]
  have : q.cps.toList = [] := by
    have : q.cps.size = 0 := h
    simpa using this
  simp [this]
theorem tail1_eq (q : Str) : tail1 q = ⟨(q.cps.toList.drop 1).toArray⟩ := by
  unfold tail1
  by_cases h : 1 ≤ q.length
  · rw [slice_from_eq (b := q.length) (by omega) (by omega) rfl]
    congr 1
    rw [List.take_of_length_le]
    · rfl
    · simp only [List.length_drop, Array.length_toList]
      have : q.cps.size = q.length := rfl
      omega
  · have h0 : q.length = 0 := by omega
    have hq : q.cps.toList = [] := by
      have : q.cps.size = 0 := h0
      simpa using this
    rw [slice_beyond (by omega), hq]
    rfl
theorem tail1_length (q : Str) : (tail1 q).length = q.length - 1 := by
  rw [tail1_eq]; simp [Str.length]
theorem rstep_some {ps : List Str} {front en p q q' : Str} {k n c : Nat} (hp : ps[k]? = some p) (hs : Txt.startswith p q' = true)
    (h2 : shrS p n q' = shrS p (q ++ ⟨#[c]⟩).length (q ++ ⟨#[c]⟩)) (h3 : k = 0 ∧ front ≠ Str.ofString "" → q' = q ++ ⟨#[c]⟩) :
    rstep ps front en k q c = some (adv ps.length en p k q') := by
  have e : shrS p n q' = q' := by
    cases n with
    | zero => rfl
    | succ n => simp [shrS, hs]
  unfold rstep
  rw [hp]
  dsimp only
  split
  · rename_i hh
    rw [← h3 hh, if_pos hs]
  · have hl : (q ++ (⟨#[c]⟩ : Str)).length = q.length + 1 := by rw [Str.length_append]; rfl
    rw [← hl, ← h2, e]
theorem rstep_none {ps : List Str} {front en p q : Str} {k c : Nat} (hp : ps[k]? = some p) (hk : k = 0) (hf : front ≠ Str.ofString "") (hs : Txt.startswith p (q ++ ⟨#[c]⟩) = false) :
    rstep ps front en k q c = none := by
  unfold rstep
  rw [hp]
  dsimp only
  rw [if_pos ⟨hk, hf⟩, if_neg (by rw [hs]; exact Bool.false_ne_true)]
theorem readT_cons {ps : List Str} {front en q : Str} {k i c : Nat} {text : Str} {st : Nat × Str} (hc : text.cps[i]? = some c) (hr : rstep ps front en k q c = some st) :
    readT ps front en (text.cps.toList.drop i) k q = readT ps front en (text.cps.toList.drop (i + 1)) st.1 st.2 := by
  have : text.cps.toList.drop i = c :: text.cps.toList.drop (i + 1) := by
    have h1 : i < text.cps.toList.length := by simpa using (Array.getElem?_eq_some_iff.mp hc).1
    rw [List.drop_eq_getElem_cons h1]
    congr 1
    have := (Array.getElem?_eq_some_iff.mp hc).2
    simpa using this
  rw [this]
  simp only [readT, hr]
theorem readT_lost {ps : List Str} {front en q : Str} {k i c : Nat} {text : Str} (hc : text.cps[i]? = some c) (hr : rstep ps front en k q c = none) :
    readT ps front en (text.cps.toList.drop i) k q = none := by
  have : text.cps.toList.drop i = c :: text.cps.toList.drop (i + 1) := by
    have h1 : i < text.cps.toList.length := by simpa using (Array.getElem?_eq_some_iff.mp hc).1
    rw [List.drop_eq_getElem_cons h1]
    congr 1
    have := (Array.getElem?_eq_some_iff.mp hc).2
    simpa using this
  rw [this]
  simp only [readT, hr]
def leftW (ps : List Str) (front en text : Str) : Int := match readT ps front en text.cps.toList 0 (Str.ofString "") with
  | none => ((Txt.join (Str.ofString "") ps).length : Int) + 1
  | some (k, q) => ((Txt.join (Str.ofString "") (ps.drop k)).length : Int) - (q.length : Int)
section
variable {h₀ : Heap} {L : Addr} {s : Shared} {I : Addr} {oI : Obj} {news all : List (Addr × Obj)} {h₃ : Heap} {tk₃ : Nat} {m₃ : Str → Option Value}
theorem stepPost_next {J : (Str → Option Value) → Prop} {R : Result → Shared → Prop} (F : Fr h₀ L h₃ m₃) (N : News h₀ L h₃ all) (sub : ∀ p ∈ (I, oI) :: news, p ∈ all) (hJ : J m₃) : StepPost h₀ L s I oI news J R .next { s with heap := h₃, toks := tk₃ } :=
  ⟨h₃, tk₃, m₃, all, rfl, F, N, sub, hJ⟩
theorem wPost_next {J : Nat → (Str → Option Value) → Prop} {Q : Flow → Shared → Prop} {k k' : Nat} (F : Fr h₀ L h₃ m₃) (N : News h₀ L h₃ all) (sub : ∀ p ∈ news, p ∈ all) (hk : k' < k) (hJ : J k' m₃) : WPost h₀ L s news k J Q .next { s with heap := h₃, toks := tk₃ } :=
  ⟨h₃, tk₃, m₃, all, k', rfl, F, N, sub, hk, hJ⟩
theorem retI {Q : Value → Shared → Prop} {x y : Int} {t : Tok} {L' : Addr} {m' : Str → Option Value} {h' : Heap} {tk' : Nat} (hret : ∀ t h' tk', s.heap.StaysIn h' → Q (.int x t) {s with heap := h', toks := tk'}) (F : Fr s.heap L' h' m') (e : y = x) : Q (.int y t) {s with heap := h', toks := tk'} := e ▸ hret t h' tk' F.keep
end
section
variable {prog : Program} {w : World} {A : Around} {E : Value → Shared → Prop} {s : Shared} {env : Env} {h₀ : Heap} {xi xv : Str} {pi pv pt : Pos} {x1 : Nat} {body orelse : List Stmt} {m : Str → Option Value}
def PairPost (s : Shared) (h₁ : Heap) (J : Prop) (R : Result → Shared → Prop) (f : Flow) (s₃ : Shared) : Prop :=
  match f with
  | .ret v => R (.ok (.ret v)) s₃
  | .brk => R (.ok .next) s₃
  | _ => J ∧ ∃ h₃ tk₃, s₃ = { s with heap := h₃, toks := tk₃ } ∧ h₁.StaysIn h₃
def pairMap (m : Str → Option Value) (xi xv : Str) (u1 u2 : Option Value) : Str → Option Value := fun y => if y = xv then u2 else if y = xi then u1 else m y
theorem forPair {R : Result → Shared → Prop} {I : Addr} {fp wr : List Addr} {n : Nat} {Pt : Nat → Array Value → Prop} {St : Nat → Heap → Prop} {Mid : Nat → Addr → Heap → Prop} {It : Nat → Value → Prop}
    (W : WalksU prog w A I fp wr n Pt St Mid) (hPt : ∀ i vals, Pt i vals → ∃ t v, vals = #[.int i t, v] ∧ It i v) (hh : A.handled = none)
    (hxi : env.kindOf xi = some .local) (hxv : env.kindOf xv = some .local)
    (hp : (env.scope.kind == .class || (env.scope.kind == .module && env.locals != env.globals)) = false)
    (hLf : env.locals ∉ fp) (hwr : ∀ b ∈ wr, h₀.get? b = none) (hst : St 0 s.heap) (F : Fr h₀ env.locals s.heap m)
    (J : Nat → Prop) (h0 : J 0)
    (step : ∀ i v t h₁ tk₁, i < n → It i v → J i → Fr h₀ env.locals h₁ (pairMap m xi xv (some (.int i t)) (some v)) →
      wpAny (model prog w) A (execs body env) (PairPost s h₁ (J (i + 1)) R) (fun _ _ => False) { s with heap := h₁, toks := tk₁ })
    (done : ∀ u1 u2 h₁ tk₁, J n → Fr h₀ env.locals h₁ (pairMap m xi xv u1 u2) →
      wpAny (model prog w) A (execs orelse env) (fun f s₃ => R (.ok f) s₃) (notedBy (model prog w) A env fun e s' => R (.error e) s') { s with heap := h₁, toks := tk₁ }) :
    codeAny (model prog w) A (.forLoop (.Tuple [.Name xi pi, .Name xv pv] x1 pt) (.ref I) body orelse env) R s := by
  have hLw : env.locals ∉ wr := fun h => hLf (W.sub _ h)
  have ext : ∀ (u1 u2 : Option Value) (a b : Value), (fun y => if y = xv then some b else if y = xi then some a else pairMap m xi xv u1 u2 y) = pairMap m xi xv (some a) (some b) := fun u1 u2 a b => by
    funext y; unfold pairMap
    by_cases h1 : y = xv
    · simp [h1]
    · by_cases h2 : y = xi <;> simp [h1, h2]
  refine codeAny_forLoop_any
    (fun k s' => ∃ h' tk u1 u2 i, s' = { s with heap := h', toks := tk } ∧ St i h' ∧ Fr h₀ env.locals h' (pairMap m xi xv u1 u2) ∧ J i ∧ i ≤ n ∧ k = n + 1 - i) ?_ (n + 1)
    ⟨s.heap, s.toks, m xi, m xv, 0, rfl, hst, ?_, h0, Nat.zero_le _, rfl⟩
  · rintro k s' ⟨h', tk, u1, u2, i, rfl, hst', F', hJ, hi, rfl⟩
    have keep : ∀ h₁ : Heap, (∀ b o, b ∉ wr → h'.get? b = some o → h₁.get? b = some o) → Fr h₀ env.locals h₁ (pairMap m xi xv u1 u2) := fun h₁ hk =>
      ⟨F'.ns.at' fun o e => hk _ o hLw e, fun b o e => hk b o (fun hb => by rw [hwr b hb] at e; cases e) (F'.keep b o e), F'.above⟩
    by_cases hlt : i < n
    · refine W.item i _ _ _ hlt hst' fun T vals h₁ tk₁ hP hT hM hk₁ => ?_
      refine W.go _ _ _ i T _ _ _ hM fun h₂ hst₂ hk₂ => ?_
      have F₂ := keep h₂ fun b o hb x => hk₂ b o hb (hk₁ b o hb x)
      obtain ⟨t, v, rfl, hIt⟩ := hPt i vals hP
      have hT₂ : h₂.IsTuple T #[.int i t, v] := hT.at fun o e => hk₂ T o (W.apart i T _ hM) e
      refine wpAny_assign_Tuple hh hT₂ rfl rfl fun h₃ hx₃ => ?_
      replace hx₃ : Heap.ExtBut h₂.objs.size h₂ h₃ := hx₃
      have up₃ : ∀ b o, h₂.get? b = some o → h₃.get? b = some o := fun b o x => hx₃ b o (Nat.ne_of_lt (Heap.lt_size x)) x
      have F₃ := F₂.keeps up₃
      show wpAny _ A (do holding [v] (assign (.Name xi pi) env (.int i t)); do holding [] (assign (.Name xv pv) env v); pure ()) _ _ _
      refine wpAny_bind (wpAny_holding (wpAny_assign_Name (wpAny_storeName_local hxi F₃.ns (fun h₄ hn₄ hs₄ => ?_) hp)))
      have F₄ := F₃.set hn₄ hs₄
      refine wpAny_bind (wpAny_holding (wpAny_assign_Name (wpAny_storeName_local hxv F₄.ns (fun h₅ hn₅ hs₅ => wpAny_pure ?_) hp)))
      have F₅ := F₄.set hn₅ hs₅
      rw [ext] at F₅
      have hst₅ : St (i + 1) h₅ := W.frame _ _ _ hst₂ fun b hb o e => hs₅.extBut b o (fun q => hLf (by rw [← q]; exact hb)) (hs₄.extBut b o (fun q => hLf (by rw [← q]; exact hb)) (up₃ b o e))
      refine wpAny_mono (step i v t h₅ _ hlt hIt hJ F₅) (fun f s₃ h₃' => ?_) fun _ _ e => e.elim
      have fin : (J (i + 1) ∧ ∃ h₃ tk₃, s₃ = { s with heap := h₃, toks := tk₃ } ∧ h₅.StaysIn h₃) → ∃ m_1, m_1 < n + 1 - i ∧ ∃ h' tk u1 u2 i, s₃ = { s with heap := h', toks := tk } ∧ St i h' ∧ Fr h₀ env.locals h' (pairMap m xi xv u1 u2) ∧ J i ∧ i ≤ n ∧ m_1 = n + 1 - i := by
        rintro ⟨hJ', h₆, tk₆, rfl, hs₆⟩
        exact ⟨n + 1 - (i + 1), by omega, h₆, tk₆, _, _, i + 1, rfl, W.frame _ _ _ hst₅ fun b _ o e => hs₆ b o e, F₅.keeps hs₆, hJ', hlt, rfl⟩
      cases f with
      | ret v => exact h₃'
      | brk => exact h₃'
      | next => exact fin h₃'
      | cont => exact fin h₃'
    · obtain rfl : i = n := Nat.le_antisymm hi (Nat.not_lt.mp hlt)
      refine W.done _ _ _ hst' fun h₁ tk₁ hk₁ => ?_
      exact done u1 u2 h₁ tk₁ hJ (keep h₁ hk₁)
  · have e : pairMap m xi xv (m xi) (m xv) = m := by
      funext y; unfold pairMap
      by_cases h1 : y = xv
      · simp [h1]
      · by_cases h2 : y = xi
        · rw [if_neg h1, if_pos h2, h2]
        · rw [if_neg h1, if_neg h2]
    rw [e]; exact F
theorem enumStr {R : Result → Shared → Prop} {text : Str} {tok : Tok} (hh : A.handled = none)
    (hxi : env.kindOf xi = some .local) (hxv : env.kindOf xv = some .local)
    (hp : (env.scope.kind == .class || (env.scope.kind == .module && env.locals != env.globals)) = false) (F : Fr h₀ env.locals s.heap m)
    (J : Nat → Prop) (h0 : J 0)
    (step : ∀ i c u t h₁ tk₁, text.cps[i]? = some c → J i → Fr h₀ env.locals h₁ (pairMap m xi xv (some (.int (i : Nat) t)) (some (.str ⟨#[c]⟩ u))) →
      wpAny (model prog w) A (execs body env) (PairPost s h₁ (J (i + 1)) R) (fun _ _ => False) { s with heap := h₁, toks := tk₁ })
    (done : ∀ u1 u2 h₁ tk₁, J text.cps.size → Fr h₀ env.locals h₁ (pairMap m xi xv u1 u2) →
      wpAny (model prog w) A (execs orelse env) (fun f s₃ => R (.ok f) s₃) (notedBy (model prog w) A env fun e s' => R (.error e) s') { s with heap := h₁, toks := tk₁ }) :
    wpAny (model prog w) A (call (.type "enumerate") [.str text tok]) (fun xv' s₁ => wpAny (model prog w) A (pyIter xv') (fun it s₂ => codeAny (model prog w) A (.forLoop (.Tuple [.Name xi pi, .Name xv pv] x1 pt) it body orelse env) R s₂) E s₁) E s := by
  refine call_enumerate_str fun h1 he hit hsz hkeep => ?_
  refine wpAny_pyIter_enum he ?_
  have hL : env.locals < s.heap.objs.size := F.ns.lt
  have hn : ∀ b, s.heap.objs.size ≤ b → h₀.get? b = none := fun b hb => by
    cases e : h₀.get? b with
    | none => rfl
    | some o => exact absurd (Heap.lt_size (F.keep b o e)) (Nat.not_lt.mpr hb)
  have go : ∀ St, Draws prog w A.in1 s.heap.objs.size [s.heap.objs.size] text.cps.size (fun i v => ∃ c u, text.cps[i]? = some c ∧ v = .str ⟨#[c]⟩ u) St → St 0 h1 →
      codeAny (model prog w) A (.forLoop (.Tuple [.Name xi pi, .Name xv pv] x1 pt) (.ref (s.heap.objs.size + 1)) body orelse env) R { s with heap := h1 } := by
    intro St D hst
    have W := (WalksT.enumerateD D (s.heap.objs.size + 1) (Nat.succ_ne_self _) (fun hm => Nat.succ_ne_self _ (List.mem_singleton.mp hm)) (by simp)).toU
    refine forPair (It := fun i v => ∃ c u, text.cps[i]? = some c ∧ v = .str ⟨#[c]⟩ u) W (fun i vals ⟨t, x, hx, e⟩ => ⟨t, x, e, hx⟩) hh hxi hxv hp (fun hm => by
      rcases List.mem_cons.mp hm with q | hm
      · exact absurd (q ▸ hL : s.heap.objs.size + 1 < s.heap.objs.size) (by omega)
      · exact absurd ((List.mem_singleton.mp hm) ▸ hL : s.heap.objs.size < s.heap.objs.size) (Nat.lt_irrefl _)) (fun b hb => hn b (by
        rcases List.mem_cons.mp hb with rfl | hb
        · exact Nat.le_succ _
        · rw [List.mem_singleton.mp hb]; exact Nat.le_refl _)) ⟨⟨_, he⟩, hst⟩ (F.keeps hkeep) J h0 ?_ ?_
    · rintro i v t h₁ tk₁ hi ⟨c, u, hc, rfl⟩ hJ F₁
      exact step i c u t h₁ tk₁ hc hJ F₁
    · intro u1 u2 h₁ tk₁ hJ F₁
      exact done u1 u2 h₁ tk₁ hJ F₁
  unfold strIterType at hit
  cases ha : text.cps.all (· < 128)
  · rw [ha] at hit
    exact go _ (Draws.strWide (A := A.in1) hh _ text tok) hit
  · rw [ha] at hit
    exact go _ (Draws.strAscii (A := A.in1) hh _ text tok) hit
theorem enumList {R : Result → Shared → Prop} {l : Addr} {items : Array Value} (hh : A.handled = none)
    (hxi : env.kindOf xi = some .local) (hxv : env.kindOf xv = some .local)
    (hp : (env.scope.kind == .class || (env.scope.kind == .module && env.locals != env.globals)) = false) (F : Fr h₀ env.locals s.heap m) (hl : h₀.IsList l items)
    (J : Nat → Prop) (h0 : J 0)
    (step : ∀ i v t h₁ tk₁, items[i]? = some v → J i → Fr h₀ env.locals h₁ (pairMap m xi xv (some (.int (i : Nat) t)) (some v)) →
      wpAny (model prog w) A (execs body env) (PairPost s h₁ (J (i + 1)) R) (fun _ _ => False) { s with heap := h₁, toks := tk₁ })
    (done : ∀ u1 u2 h₁ tk₁, J items.size → Fr h₀ env.locals h₁ (pairMap m xi xv u1 u2) →
      wpAny (model prog w) A (execs orelse env) (fun f s₃ => R (.ok f) s₃) (notedBy (model prog w) A env fun e s' => R (.error e) s') { s with heap := h₁, toks := tk₁ }) :
    wpAny (model prog w) A (call (.type "enumerate") [.ref l]) (fun xv' s₁ => wpAny (model prog w) A (pyIter xv') (fun it s₂ => codeAny (model prog w) A (.forLoop (.Tuple [.Name xi pi, .Name xv pv] x1 pt) it body orelse env) R s₂) E s₁) E s := by
  have hl₁ := hl.at fun o e => F.keep l o e
  refine call_enumerate_list hl₁ fun h1 he hit hsz hkeep => ?_
  refine wpAny_pyIter_enum he ?_
  have hL : env.locals < s.heap.objs.size := F.ns.lt
  obtain ⟨ol, hol, _⟩ := id hl
  have hll : l < h₀.objs.size := Heap.lt_size hol
  have hlL : l < env.locals := Nat.lt_of_lt_of_le hll F.above
  have hn : ∀ b, s.heap.objs.size ≤ b → h₀.get? b = none := fun b hb => by
    cases e : h₀.get? b with
    | none => rfl
    | some o => exact absurd (Heap.lt_size (F.keep b o e)) (Nat.not_lt.mpr hb)
  have hlt : l < s.heap.objs.size := Nat.lt_trans hlL hL
  have hne : l ≠ s.heap.objs.size := Nat.ne_of_lt hlt
  have W := (WalksT.enumerateD (Draws.list (prog := prog) (w := w) (A := A.in1) hh s.heap.objs.size l hne items) (s.heap.objs.size + 1) (Nat.succ_ne_self _) (fun hm => by
    rcases List.mem_cons.mp hm with q | hm
    · exact Nat.succ_ne_self _ q
    · exact absurd ((List.mem_singleton.mp hm).symm ▸ hlt : s.heap.objs.size + 1 < s.heap.objs.size) (by omega)) (by simp)).toU
  refine forPair (It := fun i v => items[i]? = some v) W (fun i vals ⟨t, x, hx, e⟩ => ⟨t, x, e, hx⟩) hh hxi hxv hp (fun hm => by
    rcases List.mem_cons.mp hm with q | hm
    · exact absurd (q ▸ hL : s.heap.objs.size + 1 < s.heap.objs.size) (by omega)
    · rcases List.mem_cons.mp hm with q | hm
      · exact absurd (q ▸ hL : s.heap.objs.size < s.heap.objs.size) (Nat.lt_irrefl _)
      · exact absurd ((List.mem_singleton.mp hm) ▸ hlL : env.locals < env.locals) (Nat.lt_irrefl _)) (fun b hb => hn b (by
      rcases List.mem_cons.mp hb with rfl | hb
      · exact Nat.le_succ _
      · rw [List.mem_singleton.mp hb]; exact Nat.le_refl _)) ⟨⟨_, he⟩, hit, hl₁.at fun o e => hkeep l o e⟩ (F.keeps hkeep) J h0 ?_ ?_
  · intro i v t h₁ tk₁ hi hv hJ F₁
    exact step i v t h₁ tk₁ hv hJ F₁
  · intro u1 u2 h₁ tk₁ hJ F₁
    exact done u1 u2 h₁ tk₁ hJ F₁
end
section
open Sem (wp)
structure NextX (prog : Program) (w : World) (A : Around) (it : Addr) (text : Str) (St : Nat → Heap → Prop) : Prop where
  frame : ∀ i h h', St i h → (∀ o, h.get? it = some o → h'.get? it = some o) → St i h'
  live : ∀ i h, St i h → ∃ o, h.get? it = some o
  item : ∀ i c (s : Shared) (Q : Value → Shared → Prop) (E : Value → Shared → Prop), text.cps[i]? = some c → St i s.heap →
    (∀ h', St (i + 1) h' → Heap.SameBut it s.heap h' → Q (.str ⟨#[c]⟩ s.toks) { s with heap := h', toks := s.toks + 1 }) → wpAny (model prog w) A (Builtin.SmallTypes.nextOf (.ref it)) Q E s
theorem nextX_ascii {prog : Program} {w : World} {A : Around} (it : Addr) (x : Str) (t : Tok) : NextX prog w A it x (fun i h => h.IsStrIter it "str_ascii_iterator" x t i) where
  frame := fun _ _ _ st hk => let ⟨o, ho, r⟩ := st; ⟨o, hk o ho, r⟩
  live := fun _ _ st => let ⟨o, ho, _⟩ := st; ⟨o, ho⟩
  item := fun i c s Q E hc st hQ => wpAny_nextOf_ascii_item st hc hQ
theorem nextX_wide {prog : Program} {w : World} {A : Around} (it : Addr) (x : Str) (t : Tok) : NextX prog w A it x (fun i h => h.IsStrIter it "str_iterator" x t i) where
  frame := fun _ _ _ st hk => let ⟨o, ho, r⟩ := st; ⟨o, hk o ho, r⟩
  live := fun _ _ st => let ⟨o, ho, _⟩ := st; ⟨o, ho⟩
  item := fun i c s Q E hc st hQ => wpAny_nextOf_wide_item st hc hQ
section
variable {prog : Program} {w : World} {A : Around} {E : Value → Shared → Prop} {s : Shared}
theorem enum_next_X {e it : Addr} {i c : Nat} {text : Str} {St : Nat → Heap → Prop} {old : Value} {Q : Value → Shared → Prop}
    (D : NextX prog w A it text St) (he : IsEnum s.heap e it i old) (hst : St i s.heap) (hc : text.cps[i]? = some c) (hne : e ≠ it)
    (hQ : ∀ h', IsEnumOut h' e it ((i : Int) + 1) (.str ⟨#[c]⟩ s.toks) s.heap.objs.size → St (i + 1) h' →
      h'.get? s.heap.objs.size = some { cls := .type "tuple", data := .seq #[.int i (s.toks + 1), .str ⟨#[c]⟩ s.toks] } → h'.objs.size = s.heap.objs.size + 1 →
      (∀ b o, b ≠ e → b ≠ it → s.heap.get? b = some o → h'.get? b = some o) → Q (.ref s.heap.objs.size) { s with heap := h', toks := s.toks + 1 + 1 }) :
    wpAny (model prog w) A (Builtin.«enumerate.__next__» ⟨[.ref e], []⟩) (fun fin s' => ∃ v, fin = .done (.ret v) ∧ Q v s') E s := by
  obtain ⟨hp, g, d, tk₀, os⟩ := s
  show wpAny _ _ (field (.ref e) 2 >>= _) _ _ _
  refine wpAny_bind (wpAny_field he rfl (x := .ref it) rfl ?_)
  refine wpAny_bind (D.item i c _ _ _ hc hst fun h₁ hit₁ hs₁ => ?_)
  replace hs₁ : Heap.SameBut it hp h₁ := hs₁
  have he₁ : IsEnum h₁ e it i old := (hs₁.2 e hne).trans he
  show wpAny _ _ (field (.ref e) 3 >>= _) _ _ ⟨h₁, g, d, tk₀ + 1, os⟩
  refine wpAny_bind (wpAny_field he₁ rfl (x := rawInt i) rfl ?_)
  show wpAny _ _ (field (.ref e) 4 >>= _) _ _ ⟨h₁, g, d, tk₀ + 1, os⟩
  refine wpAny_bind (wpAny_field he₁ rfl (x := .none) rfl ?_)
  show wpAny _ _ (mkInt i >>= _) _ _ ⟨h₁, g, d, tk₀ + 1, os⟩
  refine wpAny_bind (wpAny_mkInt ?_)
  show wpAny _ _ (setField (.ref e) 3 (rawInt ((i : Int) + 1)) >>= _) _ _ ⟨h₁, g, d, tk₀ + 1 + 1, os⟩
  refine wpAny_bind (wpAny_setField_rec he₁ (by simp) fun h₂ he₂ hs₂ => ?_)
  replace hs₂ : Heap.SameBut e h₁ h₂ := hs₂
  replace he₂ : IsEnum h₂ e it ((i : Int) + 1) old := he₂
  show wpAny _ _ (setField (.ref e) 4 .none >>= _) _ _ ⟨h₂, g, d, tk₀ + 1 + 1, os⟩
  refine wpAny_bind (wpAny_setField_rec he₂ (by simp) fun h₃ he₃ hs₃ => ?_)
  replace hs₃ : Heap.SameBut e h₂ h₃ := hs₃
  replace he₃ : IsEnum h₃ e it ((i : Int) + 1) old := he₃
  show wpAny _ _ (newTuple [.int i (tk₀ + 1), .str ⟨#[c]⟩ tk₀] >>= _) _ _ ⟨h₃, g, d, tk₀ + 1 + 1, os⟩
  refine wpAny_bind (wpAny_newTuple ?_)
  have he₄ : IsEnum (h₃.push { cls := .type "tuple", data := .seq #[.int i (tk₀ + 1), .str ⟨#[c]⟩ tk₀] }) e it ((i : Int) + 1) old := Heap.get?_push_of_some _ he₃
  generalize hh₄ : h₃.push { cls := .type "tuple", data := .seq #[.int i (tk₀ + 1), .str ⟨#[c]⟩ tk₀] } = h₄ at he₄
  have hsz : h₃.objs.size = hp.objs.size := by rw [hs₃.1, hs₂.1, hs₁.1]
  have hel : e < hp.objs.size := Heap.lt_size he
  have ht₄ : h₄.get? hp.objs.size = some { cls := .type "tuple", data := .seq #[.int i (tk₀ + 1), .str ⟨#[c]⟩ tk₀] } := by rw [← hh₄, ← hsz]; exact Heap.get?_push_size _ rfl
  have hz₄ : h₄.objs.size = hp.objs.size + 1 := by rw [← hh₄, Heap.size_push, hsz]
  have hk₄ : ∀ b o, b ≠ e → b ≠ it → hp.get? b = some o → h₄.get? b = some o := fun b o hbe hbi hb => by
    rw [← hh₄]; exact Heap.get?_push_of_some _ (hs₃.extBut b o hbe (hs₂.extBut b o hbe (hs₁.extBut b o hbi hb)))
  have hit₄ : St (i + 1) h₄ := D.frame _ _ _ hit₁ fun o y => by
    rw [← hh₄]; exact Heap.get?_push_of_some _ (hs₃.extBut it o (Ne.symm hne) (hs₂.extBut it o (Ne.symm hne) y))
  show wpAny _ _ (Builtin.SmallTypes.ownedTupleIsFree (.ref e) >>= _) _ _ ⟨h₄, g, d, tk₀ + 1 + 1, os⟩
  rw [hsz]
  clear hh₄ he₃ hs₃ he₂ hs₂ he₁ hs₁ hit₁ hsz h₃ h₂ h₁
  refine wpAny_bind ?_
  unfold Builtin.SmallTypes.ownedTupleIsFree
  refine wpAny_bind (wpAny_field he₄ rfl (x := .none) rfl (wpAny_pure ?_))
  simp only [if_true]
  refine wpAny_bind (wpAny_rule ?_)
  refine wpAny_bind (wpAny_field he₄ rfl (x := old) rfl ?_)
  refine wpAny_bind (wpAny_setField_rec he₄ (by simp) fun h₅ he₅ hs₅ => ?_)
  replace hs₅ : Heap.SameBut e h₄ h₅ := hs₅
  replace he₅ : IsEnum h₅ e it ((i : Int) + 1) (.str ⟨#[c]⟩ tk₀) := he₅
  show wpAny _ _ (Builtin.SmallTypes.ownedTupleHandOut (.ref e) (.ref hp.objs.size) >>= _) _ _ ⟨h₅, g, d, tk₀ + 1 + 1, os⟩
  refine wpAny_bind ?_
  unfold Builtin.SmallTypes.ownedTupleHandOut
  refine wpAny_bind (wpAny_setField_rec he₅ (by simp) fun h₆ he₆ hs₆ => ?_)
  replace hs₆ : Heap.SameBut e h₅ h₆ := hs₆
  replace he₆ : IsEnumOut h₆ e it ((i : Int) + 1) (.str ⟨#[c]⟩ tk₀) hp.objs.size := he₆
  refine wpAny_setField_rec he₆ (by simp) fun h₇ he₇ hs₇ => ?_
  replace hs₇ : Heap.SameBut e h₆ h₇ := hs₇
  replace he₇ : IsEnumOut h₇ e it ((i : Int) + 1) (.str ⟨#[c]⟩ tk₀) hp.objs.size := he₇
  refine wpAny_bind (wpAny_letGo (wpAny_pure ⟨_, rfl, hQ h₇ he₇ ?_ ?_ ?_ ?_⟩))
  · exact D.frame _ _ _ hit₄ fun o y => hs₇.extBut it o (Ne.symm hne) (hs₆.extBut it o (Ne.symm hne) (hs₅.extBut it o (Ne.symm hne) y))
  · exact hs₇.extBut _ _ (Nat.ne_of_gt hel) (hs₆.extBut _ _ (Nat.ne_of_gt hel) (hs₅.extBut _ _ (Nat.ne_of_gt hel) ht₄))
  · rw [hs₇.1, hs₆.1, hs₅.1, hz₄]
  · exact fun b o hbe hbi hb => hs₇.extBut b o hbe (hs₆.extBut b o hbe (hs₅.extBut b o hbe (hk₄ b o hbe hbi hb)))
theorem pyNext_enum_X {e it : Addr} {i c : Nat} {text : Str} {St : Nat → Heap → Prop} {old : Value} {Q : Option Value → Shared → Prop}
    (D : NextX prog w A.in1 it text St) (he : IsEnum s.heap e it i old) (hst : St i s.heap) (hc : text.cps[i]? = some c) (hne : e ≠ it)
    (hQ : ∀ h', IsEnumOut h' e it ((i : Int) + 1) (.str ⟨#[c]⟩ s.toks) s.heap.objs.size → St (i + 1) h' →
      h'.get? s.heap.objs.size = some { cls := .type "tuple", data := .seq #[.int i (s.toks + 1), .str ⟨#[c]⟩ s.toks] } → h'.objs.size = s.heap.objs.size + 1 →
      (∀ b o, b ≠ e → b ≠ it → s.heap.get? b = some o → h'.get? b = some o) → Q (some (.ref s.heap.objs.size)) { s with heap := h', toks := s.toks + 1 + 1 }) :
    wpAny (model prog w) A (pyNext (.ref e)) Q E s := by
  have hT : s.TypeIs (.ref e) "enumerate" := ⟨_, he, rfl⟩
  unfold pyNext
  exact wpAny_bind (wpAny_attempt (wpAny_callSpecial?_slot (name := Str.ofString "__next__") hT F.slot_enumerate_next
    (wpAny_call_entry F.slot_enumerate_next hT F.entry_enumerate_next
      (enum_next_X D he hst hc hne fun h' a b c d k => wpAny_pure (hQ h' a b c d k)) (F.args_enumerate_next_1 _))))
end
end
section
variable {prog : Program} {w : World} {A : Around} {E : Value → Shared → Prop} {s : Shared} {env : Env} {h₀ : Heap} {xi xv : Str} {pi pv pt : Pos} {x1 : Nat} {body orelse : List Stmt} {m : Str → Option Value}
theorem forPairX {R : Result → Shared → Prop} {e it : Addr} {text : Str} {St : Nat → Heap → Prop} {n₀ : Nat} {old : Value}
    (D : NextX prog w A.in1 it text St) (W : WalksU prog w A e [e, it] [e, it] text.cps.size (fun i vals => ∃ t x, (∃ c u, text.cps[i]? = some c ∧ x = .str ⟨#[c]⟩ u) ∧ vals = #[.int i t, x])
      (fun i h => (∃ old, IsEnum h e it i old) ∧ St i h) (fun i T h => (∃ x, IsEnumOut h e it ((i : Int) + 1) x T) ∧ St (i + 1) h ∧ T ≠ e ∧ T ≠ it)) (hei : e ≠ it) (hh : A.handled = none)
    (hxi : env.kindOf xi = some .local) (hxv : env.kindOf xv = some .local)
    (hp : (env.scope.kind == .class || (env.scope.kind == .module && env.locals != env.globals)) = false)
    (hLf : env.locals ∉ [e, it]) (hwr : ∀ b ∈ [e, it], h₀.get? b = none) (he : IsEnum s.heap e it 0 old) (hst : St 0 s.heap) (F : Fr h₀ env.locals s.heap m)
    (J : Nat → Prop) (h0 : J 0) (hn : n₀ ≤ s.toks)
    (step : ∀ i c u t h₁ tk₁, text.cps[i]? = some c → n₀ ≤ u → J i → Fr h₀ env.locals h₁ (pairMap m xi xv (some (.int (i : Nat) t)) (some (.str ⟨#[c]⟩ u))) →
      wpAny (model prog w) A (execs body env) (PairPost s h₁ (J (i + 1)) R) (fun _ _ => False) { s with heap := h₁, toks := tk₁ })
    (done : ∀ u1 u2 h₁ tk₁, J text.cps.size → Fr h₀ env.locals h₁ (pairMap m xi xv u1 u2) →
      wpAny (model prog w) A (execs orelse env) (fun f s₃ => R (.ok f) s₃) (notedBy (model prog w) A env fun e s' => R (.error e) s') { s with heap := h₁, toks := tk₁ }) :
    codeAny (model prog w) A (.forLoop (.Tuple [.Name xi pi, .Name xv pv] x1 pt) (.ref e) body orelse env) R s := by
  have ext : ∀ (u1 u2 : Option Value) (a b : Value), (fun y => if y = xv then some b else if y = xi then some a else pairMap m xi xv u1 u2 y) = pairMap m xi xv (some a) (some b) := fun u1 u2 a b => by
    funext y; unfold pairMap
    by_cases h1 : y = xv
    · simp [h1]
    · by_cases h2 : y = xi <;> simp [h1, h2]
  refine codeAny_forLoop_any
    (fun k s' => ∃ h' tk u1 u2 i old, s' = { s with heap := h', toks := tk } ∧ n₀ ≤ tk ∧ IsEnum h' e it ((i : Nat) : Int) old ∧ St i h' ∧ Fr h₀ env.locals h' (pairMap m xi xv u1 u2) ∧ J i ∧ i ≤ text.cps.size ∧ k = text.cps.size + 1 - i) ?_ (text.cps.size + 1)
    ⟨s.heap, s.toks, m xi, m xv, 0, old, rfl, hn, he, hst, ?_, h0, Nat.zero_le _, rfl⟩
  · rintro k s' ⟨h', tk, u1, u2, i, old', rfl, htk, he', hst', F', hJ, hi, rfl⟩
    have keep : ∀ h₁ : Heap, (∀ b o, b ∉ [e, it] → h'.get? b = some o → h₁.get? b = some o) → Fr h₀ env.locals h₁ (pairMap m xi xv u1 u2) := fun h₁ hk =>
      ⟨F'.ns.at' fun o x => hk _ o hLf x, fun b o x => hk b o (fun hb => by rw [hwr b hb] at x; cases x) (F'.keep b o x), F'.above⟩
    by_cases hlt : i < text.cps.size
    · have hc : text.cps[i]? = some text.cps[i] := Array.getElem?_eq_getElem hlt
      refine pyNext_enum_X D he' hst' hc hei fun h₁ heo hst₁ hT hsz hk₁ => ?_
      refine wpAny_letOwnedTupleGo_enum heo fun h₂ he₂ hs₂ => ?_
      replace hs₂ : Heap.SameBut e h₁ h₂ := hs₂
      have heH : e < h'.objs.size := Heap.lt_size he'
      have hk₂ : ∀ b o, b ∉ [e, it] → h'.get? b = some o → h₂.get? b = some o := fun b o hb x => by
        have h1 : b ≠ e := fun q => hb (by simp [q])
        have h2 : b ≠ it := fun q => hb (by simp [q])
        exact hs₂.extBut b o h1 (hk₁ b o h1 h2 x)
      have F₂ := keep h₂ hk₂
      have hT₂ : h₂.IsTuple h'.objs.size #[.int i (tk + 1), .str ⟨#[text.cps[i]]⟩ tk] := ⟨_, (hs₂.2 _ (Nat.ne_of_gt heH)).trans hT, rfl, _, rfl⟩
      have hst₂ : St (i + 1) h₂ := D.frame _ _ _ hst₁ fun o y => hs₂.extBut it o (Ne.symm hei) y
      refine wpAny_assign_Tuple hh hT₂ rfl rfl fun h₃ hx₃ => ?_
      replace hx₃ : Heap.ExtBut h₂.objs.size h₂ h₃ := hx₃
      have up₃ : ∀ b o, h₂.get? b = some o → h₃.get? b = some o := fun b o x => hx₃ b o (Nat.ne_of_lt (Heap.lt_size x)) x
      have F₃ := F₂.keeps up₃
      show wpAny _ A (do holding [.str ⟨#[text.cps[i]]⟩ tk] (assign (.Name xi pi) env (.int i (tk + 1))); do holding [] (assign (.Name xv pv) env (.str ⟨#[text.cps[i]]⟩ tk)); pure ()) _ _ _
      refine wpAny_bind (wpAny_holding (wpAny_assign_Name (wpAny_storeName_local hxi F₃.ns (fun h₄ hn₄ hs₄ => ?_) hp)))
      have F₄ := F₃.set hn₄ hs₄
      refine wpAny_bind (wpAny_holding (wpAny_assign_Name (wpAny_storeName_local hxv F₄.ns (fun h₅ hn₅ hs₅ => wpAny_pure ?_) hp)))
      have F₅ := F₄.set hn₅ hs₅
      rw [ext] at F₅
      have hLe : e ≠ env.locals := fun q => hLf (by simp [q])
      have hLi : it ≠ env.locals := fun q => hLf (by simp [q])
      have up₅ : ∀ b o, b ≠ env.locals → h₂.get? b = some o → h₅.get? b = some o := fun b o hb x => hs₅.extBut b o hb (hs₄.extBut b o hb (up₃ b o x))
      have hst₅ : St (i + 1) h₅ := D.frame _ _ _ hst₂ fun o y => up₅ it o hLi y
      have he₅ : IsEnum h₅ e it ((i + 1 : Nat) : Int) (.str ⟨#[text.cps[i]]⟩ tk) := by
        have : ((i + 1 : Nat) : Int) = (i : Int) + 1 := by push_cast; rfl
        rw [this]; exact up₅ e _ hLe he₂
      refine wpAny_mono (wpAny_toks_of (n := n₀) (by show n₀ ≤ _ ; simp only []; omega) (step i text.cps[i] tk (tk + 1) h₅ _ hc htk hJ F₅)) (fun f s₃ h₃' => ?_) fun _ _ e => e.2.elim
      obtain ⟨htk₃, h₃'⟩ := h₃'
      have fin : (J (i + 1) ∧ ∃ h₃ tk₃, s₃ = { s with heap := h₃, toks := tk₃ } ∧ h₅.StaysIn h₃) → ∃ m_1, m_1 < text.cps.size + 1 - i ∧ ∃ h' tk u1 u2 i old, s₃ = { s with heap := h', toks := tk } ∧ n₀ ≤ tk ∧ IsEnum h' e it ((i : Nat) : Int) old ∧ St i h' ∧ Fr h₀ env.locals h' (pairMap m xi xv u1 u2) ∧ J i ∧ i ≤ text.cps.size ∧ m_1 = text.cps.size + 1 - i := by
        rintro ⟨hJ', h₆, tk₆, rfl, hs₆⟩
        exact ⟨text.cps.size + 1 - (i + 1), by omega, h₆, tk₆, _, _, i + 1, _, rfl, htk₃, hs₆ _ _ he₅, D.frame _ _ _ hst₅ fun o y => hs₆ it o y, F₅.keeps hs₆, hJ', hlt, rfl⟩
      cases f with
      | ret v => exact h₃'
      | brk => exact h₃'
      | next => exact fin h₃'
      | cont => exact fin h₃'
    · obtain rfl : i = text.cps.size := Nat.le_antisymm hi (Nat.not_lt.mp hlt)
      refine W.done _ _ _ ⟨⟨_, he'⟩, hst'⟩ fun h₁ tk₁ hk₁ => ?_
      exact done u1 u2 h₁ tk₁ hJ (keep h₁ hk₁)
  · have e : pairMap m xi xv (m xi) (m xv) = m := by
      funext y; unfold pairMap
      by_cases h1 : y = xv
      · simp [h1]
      · by_cases h2 : y = xi
        · rw [if_neg h1, if_pos h2, h2]
        · rw [if_neg h1, if_neg h2]
    rw [e]; exact F
theorem enumStrX {R : Result → Shared → Prop} {text : Str} {tok : Tok} {n₀ : Nat} (hh : A.handled = none)
    (hxi : env.kindOf xi = some .local) (hxv : env.kindOf xv = some .local)
    (hp : (env.scope.kind == .class || (env.scope.kind == .module && env.locals != env.globals)) = false) (F : Fr h₀ env.locals s.heap m)
    (J : Nat → Prop) (h0 : J 0) (hn : n₀ ≤ s.toks)
    (step : ∀ i c u t h₁ tk₁, text.cps[i]? = some c → n₀ ≤ u → J i → Fr h₀ env.locals h₁ (pairMap m xi xv (some (.int (i : Nat) t)) (some (.str ⟨#[c]⟩ u))) →
      wpAny (model prog w) A (execs body env) (PairPost s h₁ (J (i + 1)) R) (fun _ _ => False) { s with heap := h₁, toks := tk₁ })
    (done : ∀ u1 u2 h₁ tk₁, J text.cps.size → Fr h₀ env.locals h₁ (pairMap m xi xv u1 u2) →
      wpAny (model prog w) A (execs orelse env) (fun f s₃ => R (.ok f) s₃) (notedBy (model prog w) A env fun e s' => R (.error e) s') { s with heap := h₁, toks := tk₁ }) :
    wpAny (model prog w) A (call (.type "enumerate") [.str text tok]) (fun xv' s₁ => wpAny (model prog w) A (pyIter xv') (fun it s₂ => codeAny (model prog w) A (.forLoop (.Tuple [.Name xi pi, .Name xv pv] x1 pt) it body orelse env) R s₂) E s₁) E s := by
  refine call_enumerate_str fun h1 he hit hsz hkeep => ?_
  refine wpAny_pyIter_enum he ?_
  have hL : env.locals < s.heap.objs.size := F.ns.lt
  have hnone : ∀ b, s.heap.objs.size ≤ b → h₀.get? b = none := fun b hb => by
    cases e : h₀.get? b with
    | none => rfl
    | some o => exact absurd (Heap.lt_size (F.keep b o e)) (Nat.not_lt.mpr hb)
  have go : ∀ St, NextX prog w A.in1 s.heap.objs.size text St → Draws prog w A.in1 s.heap.objs.size [s.heap.objs.size] text.cps.size (fun i v => ∃ c u, text.cps[i]? = some c ∧ v = .str ⟨#[c]⟩ u) St → St 0 h1 →
      codeAny (model prog w) A (.forLoop (.Tuple [.Name xi pi, .Name xv pv] x1 pt) (.ref (s.heap.objs.size + 1)) body orelse env) R { s with heap := h1 } := by
    intro St D D' hst
    have W := (WalksT.enumerateD D' (s.heap.objs.size + 1) (Nat.succ_ne_self _) (fun hm => Nat.succ_ne_self _ (List.mem_singleton.mp hm)) (by simp)).toU
    refine forPairX D W (Nat.succ_ne_self _) hh hxi hxv hp (fun hm => by
      rcases List.mem_cons.mp hm with q | hm
      · exact absurd (q ▸ hL : s.heap.objs.size + 1 < s.heap.objs.size) (by omega)
      · exact absurd ((List.mem_singleton.mp hm) ▸ hL : s.heap.objs.size < s.heap.objs.size) (Nat.lt_irrefl _)) (fun b hb => hnone b (by
        rcases List.mem_cons.mp hb with rfl | hb
        · exact Nat.le_succ _
        · rw [List.mem_singleton.mp hb]; exact Nat.le_refl _)) he hst (F.keeps hkeep) J h0 hn ?_ ?_
    · intro i c u t h₁ tk₁ hc hu hJ F₁
      exact step i c u t h₁ tk₁ hc hu hJ F₁
    · intro u1 u2 h₁ tk₁ hJ F₁
      exact done u1 u2 h₁ tk₁ hJ F₁
  unfold strIterType at hit
  cases ha : text.cps.all (· < 128)
  · rw [ha] at hit
    exact go _ (nextX_wide _ text tok) (Draws.strWide (A := A.in1) hh _ text tok) hit
  · rw [ha] at hit
    exact go _ (nextX_ascii _ text tok) (Draws.strAscii (A := A.in1) hh _ text tok) hit
end
section
variable {prog : Program} {w : World} {A : Around} {E : Value → Shared → Prop} {s : Shared} {h₀ : Heap} {L : Addr} {m : Str → Option Value} {p : Program} {loose : List Str} {mean : ExcName → Option Value} {mg mb : Str → Option Value}
theorem isStr_K {x y : Str} {u t : Tok} {Q : Value → Shared → Prop} (hb : NoneBooked s.heap) (hu : u ≠ 0) (ht : t ≠ 0) (hne : u ≠ t) (h : ∀ b : Bool, (b = true → x = y) → Q (.bool b) s) :
    wpAny (model prog w) A (compareOp .Is (.str x u) (.str y t)) Q E s := by
  show wpAny _ A (do return .bool (← isSame (.str x u) (.str y t))) Q E s
  refine wpAny_bind ?_
  show wpAny _ A (isSame.created (x == y) u t) _ E s
  unfold isSame.created
  rw [if_neg (by simp [hu, ht])]
  rw [if_neg (by simp [hne])]
  refine wpAny_ite ?_
  split
  · exact wpAny_pure (wpAny_pure (h false (fun q => by cases q)))
  · rename_i hxy
    have hxy' : x = y := by simpa using hxy
    refine wpAny_bind (wpAny_sharingNotTold_none hb ?_)
    rw [if_neg Bool.false_ne_true]
    refine wpAny_bind (wpAny_sharingNotTold_none hb ?_)
    rw [if_neg Bool.false_ne_true]
    exact wpAny_bind (wpAny_rule (wpAny_bind (wpAny_askSetting (wpAny_pure (wpAny_pure (h _ fun _ => hxy'))))))
end
theorem nilOf {h₀ h : Heap} {L : Addr} {m : Str → Option Value} (_ : Fr h₀ L h m) : News h₀ L h [] := nilNews
theorem noneBooked_of {w : World} {h : Heap} (X : (hd.heap_39 w.params).In h) : NoneBooked h := by
  have h2 := X 2 _ rfl
  exact ⟨fun _ => none, ⟨_, _, _, h2, rfl, by intro e he; simp at he, fun n => rfl⟩, rfl⟩
theorem sign_inj {d c : Nat} (h : (⟨#[d]⟩ : Str) = ⟨#[c]⟩) : d = c := by
  have := congrArg Str.cps h
  simpa using this
theorem idx_val {la lb c i : Nat} (h : (⟨#[la, lb]⟩ : Str).cps[i]? = some c) (hne : la ≠ lb) : ((i : Nat) : Int) = if c = la then 0 else 1 := by
  match i, h with
  | 0, h => 
    have : la = c := by simpa using h
    simp [this]
  | 1, h =>
    have : lb = c := by simpa using h
    rw [if_neg (by omega)]; rfl
  | i + 2, h => simp at h
section
local macro_rules | `(tactic| walk_at "exec For Tuple Call cons cons") => `(tactic| ((with_reducible show wpAny _ _ (exec (Stmt.For _ _ _ _ _) _) _ _ _); refine Held.out ?_))
local macro_rules | `(tactic| walk_at "call type:enumerate") => `(tactic| (refine Held.out ?_))
local macro_rules | `(tactic| walk_at "compareOp Is str str") => `(tactic| (refine' isStr_K ?k1 ?k2 ?k3 ?k4 ?_; (case k1 => exact noneBooked_of (Frag.In.keeps (by k_asm) (Fr.keep (by k_asm)))); (case k2 => assumption); (case k3 => assumption); (case k4 => assumption); intro b' hb'; (try dsimp only)))
theorem index_str_ok (w : World) (mean : ExcName → Option Value) (mg mb : Str → Option Value) (s : Shared) (la lb c : Nat) (t u : Tok) (hc : c = la ∨ c = lb) (hne : la ≠ lb) (ht0 : t ≠ 0) (ht : t < s.toks) :
  Ctr 2 20 w mean mg mb 35 s [.str ⟨#[la, lb]⟩ u, .str ⟨#[c]⟩ t] (fun Q => ∀ t h' tk', s.heap.StaysIn h' → Q (.int (if c = la then 0 else 1) t) {s with heap := h', toks := tk'}) := by
  unfold Ctr; k_fill; w_top off; intros; rename_i hret
  refine wpAny_call ?_
  k_dflt walk_at "m enter_S"
  refine (?_ : ∀ tk, s.toks ≤ tk → wpAny _ _ _ _ _ { heap := _, gens := _, drawn := _, toks := tk, os := _ }) _ (Nat.le_add_right _ _)
  intro tk htk
  k_steps
  refine Held.mk ?_
  refine wpAny_For ?_
  k_steps
  refine Held.mk ?_
  refine enumStrX (n₀ := s.toks) rfl rfl rfl rfl (by k_asm) (fun i => ∀ j, j < i → (⟨#[la, lb]⟩ : Str).cps[j]? ≠ some c) (by intro j hj; omega) (by exact htk) ?_ ?_
  · intro i d u' t' h₁ tk₁ hd hu' hJ F₁
    have h1 : t < u' := Nat.lt_of_lt_of_le ht hu'
    have hu0 : u' ≠ 0 := fun q => Nat.not_lt_zero t (q ▸ h1)
    have hut : u' ≠ t := Nat.ne_of_gt h1
    have N₁ := nilOf F₁
    k_steps
    all_goals (dsimp only [PairPost])
    · k_steps
      refine retI hret (by k_asm) ?_
      have e := ‹_ = true → (⟨#[d]⟩ : Str) = ⟨#[c]⟩› ‹_›
      exact idx_val (sign_inj e ▸ hd) hne
    · k_steps
      refine retI hret (by k_asm) ?_
      have e : (⟨#[d]⟩ : Str) = ⟨#[c]⟩ := beq_iff_eq.mp ‹((⟨#[d]⟩ : Str) == ⟨#[c]⟩) = true›
      exact idx_val (sign_inj e ▸ hd) hne
    · refine ⟨fun j hj => ?_, h₁, tk₁, rfl, fun _ _ e => e⟩
      by_cases hji : j = i
      · subst hji
        intro q
        have q' : some d = some c := hd.symm.trans q
        have h' := ‹((⟨#[d]⟩ : Str) == ⟨#[c]⟩) = false›
        rw [Option.some.inj q'] at h'
        simp at h'
      · exact hJ j (by omega)
  · intro u1 u2 h₁ tk₁ hJ F₁
    exfalso
    rcases hc with rfl | rfl
    · exact hJ 0 (by show 0 < 2; omega) rfl
    · exact hJ 1 (by show 1 < 2; omega) rfl
end
abbrev frs (l : List Env) : List Addr := l.filterMap (·.frame)
def Up (fs : List Addr) (h h' : Heap) : Prop :=
  (∀ b o, b ∉ fs → h.get? b = some o → h'.get? b = some o) ∧ (∀ b o, h.get? b = some o → (∀ vs, o.data ≠ .fields vs) → ∃ sl, h'.get? b = some { o with slots := sl })
theorem Up.of_stays {fs : List Addr} {h h' : Heap} (st : h.StaysIn h') : Up fs h h' := ⟨fun b o _ e => st b o e, fun b o e _ => ⟨o.slots, st b o e⟩⟩
theorem Up.trans {fs : List Addr} {h h₁ h₂ : Heap} (x : Up fs h h₁) (y : Up fs h₁ h₂) : Up fs h h₂ :=
  ⟨fun b o n e => y.1 b o n (x.1 b o n e), fun b o e hd => by
    obtain ⟨s1, e1⟩ := x.2 b o e hd
    exact y.2 b { o with slots := s1 } e1 hd⟩
theorem Up.of_flying {l : List Env} {h h' : Heap} {e : Addr} {cls a0 : Value} (x : Heap.FlyingW (hideAll h (frs l)) l e cls a0 h') (sm : h.UpToSlots h') : Up (frs l) h h' :=
  ⟨fun b o n e => x.1 b o (hideAll_get _ e n), sm⟩
theorem Up.frames {fs : List Addr} {h h' base : Heap} {l : List Env} (x : Up fs h h') : h.FunFrames base l → h'.FunFrames base l := by
  induction l with
  | nil => exact fun _ => trivial
  | cons env l ih =>
    rintro ⟨hk, ⟨L, o, hf, hn, ho, hd⟩, hr⟩
    obtain ⟨sl, e⟩ := x.2 L o ho hd
    exact ⟨hk, ⟨L, _, hf, hn, e, hd⟩, ih hr⟩
theorem frs_none {base h : Heap} {l : List Env} (FF : h.FunFrames base l) : ∀ b ∈ frs l, base.get? b = none := by
  induction l with
  | nil => intro b hb; simp [frs] at hb
  | cons env l ih =>
    obtain ⟨hk, ⟨L, o, hf, hn, ho, hd⟩, hr⟩ := FF
    intro b hb
    simp only [frs, List.filterMap_cons, hf] at hb
    rcases List.mem_cons.mp hb with rfl | hb
    · exact hn
    · exact ih hr b hb
theorem Up.base {h h' base : Heap} {l : List Env} (x : Up (frs l) h h') (FF : h.FunFrames base l) (st : base.StaysIn h) : base.StaysIn h' := fun b o e =>
  x.1 b o (fun hb => by rw [frs_none FF b hb] at e; cases e) (st b o e)
theorem base_hidden {h base : Heap} {l : List Env} (FF : h.FunFrames base l) (st : base.StaysIn h) : base.StaysIn (hideAll h (frs l)) := fun b o e =>
  hideAll_get _ (st b o e) fun hb => by rw [frs_none FF b hb] at e; cases e
section
variable {M : Model} {A : Around} {E : Value → Shared → Prop} {s' : Shared} {G h base : Heap} {env : Env} {l : List Env} {L e : Addr} {m : Str → Option Value} {X : String} {Q : Unit → Shared → Prop}
theorem leave_none (hA : A.frames = some (env :: l)) (hk : env.scope.kind = .function) (hf : env.frame = some L) (FF : G.FunFrames base l) (F : Fr G L h m) (hx : Heap.NewExc h s'.heap e X)
    (hQ : ∀ a0 h', Heap.FlyingW (hideAll G (frs l)) l e (.type X) a0 h' → G.UpToSlots h' → Q () { s' with heap := h' }) :
    wpAny M A (leaving env (.ref e)) Q E s' := by
  have hGL : G.get? L = none := Heap.get?_none_of_le F.above
  have hb0 : (hideAll G (frs l)).get? L = none := by
    cases q : (hideAll G (frs l)).get? L with
    | none => rfl
    | some o => have := of_hideAll _ q; rw [hGL] at this; cases this
  have FF₁ : G.FunFrames (hideAll G (frs l)) l := funFrames_hide FF fun en he a ha => List.mem_filterMap.mpr ⟨en, he, ha⟩
  have FF₂ : h.FunFrames (hideAll G (frs l)) (env :: l) := .cons (by rw [hk]; decide) hf F.ns hb0 (FF₁.of_keeps fun b o hb _ => ⟨o, F.keep b o hb, rfl⟩)
  have hin : ∀ en ∈ (env :: l), ∀ b, en.frame = some b → b ∈ frs (env :: l) := fun en he b hb => List.mem_filterMap.mpr ⟨en, he, hb⟩
  have FF₃ := funFrames_hide FF₂ hin
  obtain ⟨ob, tp, he, hcls, hd⟩ := hx.there
  have hen : (hideAll h (frs (env :: l))).get? e = none := by
    cases q : (hideAll h (frs (env :: l))).get? e with
    | none => rfl
    | some o => have := of_hideAll _ q; rw [hx.new] at this; cases this
  have sub : (hideAll G (frs l)).StaysIn (hideAll h (frs (env :: l))) := fun b o q => by
    have hb := of_hideAll _ q
    refine hideAll_get _ (F.keep b o hb) fun hm => ?_
    simp only [frs, List.filterMap_cons, hf] at hm
    rcases List.mem_cons.mp hm with rfl | hm
    · rw [hGL] at hb; cases hb
    · rw [hideAll_none _ hm] at q; cases q
  refine wpAny_leaving_firstW (base := hideAll h (frs (env :: l))) (a0 := tp) hA (FF₃.of_keeps fun b o hb _ => ⟨o, hx.keeps b o hb, rfl⟩) hf he (fun b o hb => hx.keeps b o (of_hideAll _ hb)) hen hd rfl rfl fun h' hL => ?_
  obtain ⟨k1, ⟨_, _, k2⟩, k3, k4⟩ := hL
  refine hQ tp h' (flyingW_base sub ⟨k1, hen, k2, by rw [← hcls]; exact k3⟩) (((Heap.UpToSlots.of_keeps F.keep).trans (Heap.UpToSlots.of_keeps hx.keeps)).trans k4)
end
section
variable {prog : Program} {w : World} {A : Around} {E : Value → Shared → Prop} {s' : Shared} {base : Heap} {env : Env} {l : List Env} {L e : Addr} {Q : Flow → Shared → Prop} {X T : String} {a0 : Value} {t : PySem.Expr} {b₀ : Stmt} {suite : List Stmt} {pos : Pos} {rest : List ExceptHandler}
theorem caught_none (hA : A.frames = some (env :: l)) (hf : env.frame = some L) (hfl : Heap.FlyingW base (env :: l) e (.type X) a0 s'.heap)
    (hexc : isSubtype (.type T) (.type "BaseException") = pure true) (hnt : isSubtype (.type ((Manifest.find? T).elim "type" fun y => y.metatype)) (.type "tuple") = pure false) (hsub : isSubtype (.type X) (.type T) = pure true)
    (hname : ∀ (h' : Heap) (Q' : Value → Shared → Prop) (E' : Value → Shared → Prop), base.StaysIn h' → s'.heap.UpToSlots h' → Q' (.type T) { s' with heap := h' } → wpAny (model prog w) (A.mark (some (.ref e))) (eval t env) Q' E' { s' with heap := h' })
    (k : ∀ h', base.StaysIn h' → s'.heap.UpToSlots h' → wpAny (model prog w) (A.mark (some (.ref e))) (execs (b₀ :: suite) env) Q (fun _ _ => False) { s' with heap := h' }) :
    wpAny (model prog w) A (noteFrame (.ref e) env) (fun _ s₂ => wpAny (model prog w) A (setFlight (.ref e) none) (fun _ s₃ =>
      wpAny (model prog w) A (handleBy (.ref e) env (.ExceptHandler (some t) none (b₀ :: suite) pos :: rest)) Q E s₃) E s₂) E s' := by
  refine wpAny_looks_onW hA hf hfl fun h₄ hheld₄ hsm₄ => ?_
  refine wpAny_landsW hheld₄ fun h₅ hheld hsm₅' => ?_
  have hsm₅ := hsm₄.trans hsm₅'
  obtain ⟨ob, hob, hobc⟩ := hheld.there
  refine wpAny_handleBy_builtin (X := X) (T := T) (b := true) hexc hnt hsub (hname h₅ _ _ hheld.1 hsm₅ ⟨rfl, ⟨ob, hob, hobc⟩, ?_⟩)
  refine lands_againW hheld fun h₆ hfl₆ hsm₆ => ?_
  exact wpAny_mono (k h₆ hfl₆.1 (hsm₅.trans hsm₆)) (fun _ _ x => x) fun _ _ x => x.elim
end
section
local macro_rules | `(tactic| walk_at "exec For Tuple Call cons cons") => `(tactic| ((with_reducible show wpAny _ _ (exec (Stmt.For _ _ _ _ _) _) _ _ _); refine Held.out ?_))
local macro_rules | `(tactic| walk_at "call type:enumerate") => `(tactic| (refine Held.out ?_))
def boolVals (bs : List Bool) : List Value := bs.map Value.bool
theorem index_bool_ok (w : World) (mean : ExcName → Option Value) (mg mb : Str → Option Value) (s : Shared) (pa : Addr) (bs : List Bool) (n : Nat) (hn : bs[n]? = some true) (hn' : ∀ j, j < n → bs[j]? ≠ some true)
   (hl : s.heap.IsList pa (boolVals bs).toArray) :
  Ctr 2 20 w mean mg mb 35 s [.ref pa, .bool true] (fun Q => ∀ t h' tk', s.heap.StaysIn h' → Q (.int (n : Int) t) {s with heap := h', toks := tk'}) := by
  unfold Ctr; k_fill; w_top off; intros; rename_i hret
  refine wpAny_call ?_
  k_dflt walk_at "m enter_S"
  k_steps
  refine Held.mk ?_
  refine wpAny_For ?_
  k_steps
  refine Held.mk ?_
  refine enumList rfl rfl rfl rfl (by k_asm) hl (fun i => i ≤ n) (Nat.zero_le _) ?_ ?_
  · intro i v t' h₁ tk₁ hv hJ F₁
    have N₁ := nilOf F₁
    obtain ⟨b, hb, rfl⟩ : ∃ b, bs[i]? = some b ∧ v = .bool b := by
      simp only [boolVals, List.getElem?_toArray, List.getElem?_map] at hv
      cases e : bs[i]? with
      | none => rw [e] at hv; cases hv
      | some b => rw [e] at hv; exact ⟨b, rfl, (Option.some.inj hv).symm⟩
    k_steps
    all_goals (dsimp only [PairPost])
    · k_steps
      refine retI hret (by k_asm) ?_
      have hbt : b = true := by simpa using ‹(b == true) = true›
      rw [hbt] at hb
      by_cases h : i < n
      · exact absurd hb (hn' i h)
      · have : i = n := by omega
        rw [this]
    · have hbt : b = false := by simpa using ‹(b == true) = false›
      refine ⟨?_, h₁, tk₁, rfl, fun _ _ e => e⟩
      by_cases h : i = n
      · rw [h, hn] at hb; cases hb; cases hbt
      · omega
  · intro u1 u2 h₁ tk₁ hJ F₁
    exfalso
    have := (List.getElem?_eq_some_iff.mp hn).1
    simp [boolVals] at hJ
    omega
theorem index_none (w : World) (mean : ExcName → Option Value) (mg mb : Str → Option Value) (s : Shared) (pa : Addr) (bs : List Bool) (hn' : ∀ j : Nat, bs[j]? ≠ some true)
   (hl : s.heap.IsList pa (boolVals bs).toArray) (dp un : Nat) (gd : Option (List Code)) (cn : Str) (cs : Scope) (L a : Addr) (ccd : Value) (cl : List (Str × Addr)) (outer : List Env) (Q E : Value → Shared → Prop) (base : Heap)
   (X : (hd.heap_39 w.params).In s.heap) (T : Top hd.view_39 (looseW hd.view_39 []) mean mg mb s.heap) (hdp : dp + 2 < recursionLimit) (hun : un + 20 < cLine)
   (FF : s.heap.FunFrames base (envX cn cs L a ccd cl :: outer))
   (hE : ∀ e a0 h' tk', Heap.FlyingW (hideAll s.heap (frs (envX cn cs L a ccd cl :: outer))) (envX cn cs L a ccd cl :: outer) e (.type "ValueError") a0 h' → s.heap.UpToSlots h' → E (.ref e) { s with heap := h', toks := tk' }) :
   wpAny (model PySem.Challenge.rw_pg0064_01.row.prog w) (ktrTop dp un gd cn cs L a ccd cl outer) (call (.ref 35) [.ref pa, .bool true]) Q E s := by
  w_top off
  refine wpAny_call ?_
  k_dflt walk_at "m enter_S"
  k_steps
  refine Held.mk ?_
  refine wpAny_For ?_
  k_steps
  refine Held.mk ?_
  refine enumList rfl rfl rfl rfl (by k_asm) hl (fun i => True) trivial ?_ ?_
  · intro i v t' h₁ tk₁ hv hJ F₁
    have N₁ := nilOf F₁
    obtain ⟨b, hb, rfl⟩ : ∃ b, bs[i]? = some b ∧ v = .bool b := by
      simp only [boolVals, List.getElem?_toArray, List.getElem?_map] at hv
      cases e : bs[i]? with
      | none => rw [e] at hv; cases hv
      | some b => rw [e] at hv; exact ⟨b, rfl, (Option.some.inj hv).symm⟩
    have hbf : b = false := by
      cases b with
      | false => rfl
      | true => exact absurd hb (hn' i)
    subst hbf
    k_steps
    exact ⟨trivial, h₁, tk₁, rfl, fun _ _ e => e⟩
  · intro u1 u2 h₁ tk₁ hJ F₁
    have N₁ := nilOf F₁
    k_steps
    rename_i hx
    refine (?_ : PassesOwn _ _ _ _) _ _ ?_
    · passes_own
    · k_unfold
      refine leave_none rfl rfl rfl FF F₁ hx fun a0 h' hfl hsm => ?_
      exact hE _ a0 h' _ hfl hsm
end
def loopF (got : Str) (ep : Int) : List Str → Int → Bool
  | [], _ => true
  | w :: r, st => if findIn got w st ep < 0 then false else loopF got ep r (findIn got w st ep + (w.length : Int))
def matchW (fr mi en got : Str) : Bool :=
  if (fr.length : Int) = 0 then
    if (en.length : Int) = 0 then (if (got.length : Int) < 0 then false else loopF got got.length [fr, mi, en] 0)
    else if Txt.endswith got en = true then (if (got.length : Int) - en.length < 0 then false else loopF got (got.length - en.length) [fr, mi] 0) else false
  else if Txt.startswith got fr = true then
    if (en.length : Int) = 0 then (if (got.length : Int) < fr.length then false else loopF got got.length [mi, en] fr.length)
    else if Txt.endswith got en = true then (if (got.length : Int) - en.length < fr.length then false else loopF got (got.length - en.length) [mi] fr.length) else false
  else false
section
variable {s : Shared} {h' : Heap} {tk' : Nat} {L' : Addr} {m' : Str → Option Value} {Q : Value → Shared → Prop}
theorem retB {x y : Bool} (hret : ∀ h' tk', s.heap.StaysIn h' → Q (.bool x) {s with heap := h', toks := tk'}) (F : Fr s.heap L' h' m') (e : y = x) : Q (.bool y) {s with heap := h', toks := tk'} := e ▸ hret h' tk' F.keep
end
theorem match_ok (w : World) (mean : ExcName → Option Value) (mg mb : Str → Option Value) (s : Shared) (want got fr mi en : Str) (t u : Tok)
   (hsp : Txt.split want (Str.ofString "...") = [fr, mi, en]) (hin : (Builtin.Str.occurrences want (Str.ofString "...") 0 want.length 1).isEmpty = false)
   (hsz : want.length + 2 ≤ sizeLine) (hsz2 : got.length ≤ 100) (hf1 : fr.length ≤ 100) (hm1 : mi.length ≤ 100) (he1 : en.length ≤ 100) :
  Ctr 2 20 w mean mg mb 42 s [.str want t, .str got u] (fun Q => ∀ h' tk', s.heap.StaysIn h' → Q (.bool (matchW fr mi en got)) {s with heap := h', toks := tk'}) := by
  unfold Ctr; k_fill; w_top off; intros; rename_i hret
  refine wpAny_call ?_
  k_dflt walk_at "m enter_S"
  k_steps
  all_goals (refine retB hret (by k_asm) ?_; clear hret)
  all_goals (law_clear; clear hsp hin; first | (simp only [matchW, loopF, *]; done) | (simp only [matchW, loopF, *]; simp; done) | (simp_all [matchW, loopF]; done) | (simp_all [matchW, loopF]; omega))
def Told (n : Nat) (Rel : Nat → Value → Prop) (ys : List Value) : Prop := ys.length = n ∧ ∀ i y, ys[i]? = some y → Rel i y
theorem Told.snoc {n : Nat} {Rel : Nat → Value → Prop} {ys : List Value} {y : Value} (x : Told n Rel ys) (h : Rel n y) : Told (n + 1) Rel (ys ++ [y]) := by
  refine ⟨by simp [x.1], fun i z hz => ?_⟩
  by_cases hi : i < ys.length
  · rw [List.getElem?_append_left hi] at hz
    exact x.2 i z hz
  · have hlt := (List.getElem?_eq_some_iff.mp hz).1
    simp at hlt
    have : i = ys.length := by omega
    subst this
    rw [List.getElem?_append_right (Nat.le_refl _)] at hz
    simp at hz
    subst hz
    rw [x.1]
    exact h
section
variable {prog : Program} {w : World} {A : Around} {s : Shared} {h₀ : Heap} {L : Addr} {m : Str → Option Value} {env : Env} {elt : Expr} {x : Str} {scope : Scope} {cl : List (Str × Addr)}
  {S : List (Addr × Obj) → Prop} {P : Nat → Value → Prop} {Fin : List Value → List (Addr × Obj) → Prop} {news : List (Addr × Obj)} {n : Nat}
theorem comp_rel (Rel : Nat → Value → Prop) (hS : S news)
    (step : ∀ i ys v I oI C oC D m₂ h tk (Q' E' : Value → Shared → Prop), i < n → P i v → LCg.NsObj oC m₂ → m₂ x = some v → Fr h₀ L h m → News h₀ L h ((I, oI) :: (C, oC) :: (D, LCg.lst ys) :: news) →
      (∀ y h' tk', Rel i y → Fr h₀ L h' m → News h₀ L h' ((I, oI) :: (C, oC) :: (D, LCg.lst ys) :: news) → Q' y { s with heap := h', toks := tk' }) →
      wpAny (model prog w) A (eval elt (compEnvC scope cl C env)) Q' E' { s with heap := h, toks := tk })
    (fin : ∀ ys, Told n Rel ys → Fin ys news) : LCg.CompRest prog w A h₀ L m env elt x scope cl s S P Fin n 0 [] news := by
  have key : ∀ (j i : Nat) (ys : List Value), i + j = n → Told i Rel ys → LCg.CompRest prog w A h₀ L m env elt x scope cl s S P Fin j i ys news := by
    intro j
    induction j with
    | zero =>
      intro i ys hi hy
      obtain rfl : i = n := by omega
      exact LCg.CompRest.zero (fin ys hy)
    | succ j ih =>
      intro i ys hi hy
      refine LCg.CompRest.succ ?_
      intro v I oI C oC D m₂ h tk E' hv hC hx F N off ne
      refine step i ys v I oI C oC D m₂ h tk _ E' (by omega) hv hC hx F N fun y h' tk' hR F' N' => ?_
      exact ⟨h', tk', news, rfl, F', N', off, hS, ih (i + 1) _ (by omega) (hy.snoc hR)⟩
  exact key n 0 [] (by omega) ⟨rfl, fun i y h => by simp at h⟩
end
section
variable {g h h₂ base : Heap} {L : Addr} {m : Str → Option Value} {news : List (Addr × Obj)} {l : List Env} {env : Env}
theorem frs_cons (hf : env.frame = some L) : frs (env :: l) = L :: frs l := by simp only [frs, List.filterMap_cons, hf]
theorem frames_here (F : Fr g L h m) (FF : g.FunFrames base l) (SB : base.StaysIn g) (hk : env.scope.kind = .function) (hf : env.frame = some L) : h.FunFrames base (env :: l) :=
  .cons (by rw [hk]; decide) hf F.ns (by
    cases q : base.get? L with
    | none => rfl
    | some o => exact absurd (Heap.lt_size (SB _ _ q)) (Nat.not_lt.mpr F.above)) (FF.of_keeps fun b o hb _ => ⟨o, F.keep b o hb, rfl⟩)
theorem new_off (N : News g L h news) (FF : g.FunFrames base l) : ∀ p ∈ news, p.1 ∉ frs l := fun p hp hm => by
  obtain ⟨_, o, ho, _⟩ := FF.mem hm
  rw [(N p hp).2.2] at ho; cases ho
theorem fr_hide (F : Fr g L h m) : Fr (hideAll g (frs l)) L h m := ⟨F.ns, fun b o e => F.keep b o (of_hideAll _ e), by rw [hideAll_size]; exact F.above⟩
theorem news_hide (N : News g L h news) : News (hideAll g (frs l)) L h news := fun p hp => ⟨(N p hp).1, (N p hp).2.1, by
  cases q : (hideAll g (frs l)).get? p.1 with
  | none => rfl
  | some o => have := of_hideAll _ q; rw [(N p hp).2.2] at this; cases this⟩
theorem fr_up (F : Fr g L h m) (FF : g.FunFrames base l) (U : Up (L :: frs l) h h₂) : Fr (hideAll g (frs l)) L h₂ m := by
  refine ⟨?_, fun b o e => ?_, by rw [hideAll_size]; exact F.above⟩
  · exact Heap.UpToSlots.ns (fun b o e hd => U.2 b o e hd) F.ns
  · have hb := of_hideAll _ e
    refine U.1 b o (fun hm => ?_) (F.keep b o hb)
    rcases List.mem_cons.mp hm with rfl | hm
    · exact absurd (Heap.lt_size hb) (Nat.not_lt.mpr F.above)
    · rw [hideAll_none _ hm] at e; cases e
theorem news_up (N : News g L h news) (FF : g.FunFrames base l) (U : Up (L :: frs l) h h₂) : News (hideAll g (frs l)) L h₂ news := fun p hp =>
  ⟨U.1 _ _ (fun hm => by
    rcases List.mem_cons.mp hm with e | hm
    · exact (N p hp).2.1 e
    · exact new_off N FF p hp hm) (N p hp).1, (N p hp).2.1, (news_hide N p hp).2.2⟩
theorem up_of_hidden {fs : List Addr} (st : (hideAll h fs).StaysIn h₂) (sm : h.UpToSlots h₂) : Up fs h h₂ := ⟨fun b o n e => st b o (hideAll_get _ e n), sm⟩
theorem up_end (F : Fr g L h m) (FF : g.FunFrames base l) (U : Up (L :: frs l) h h₂) : Up (frs l) g h₂ :=
  ⟨fun b o n e => U.1 b o (fun hm => by
    rcases List.mem_cons.mp hm with rfl | hm
    · exact absurd (Heap.lt_size e) (Nat.not_lt.mpr F.above)
    · exact n hm) (F.keep b o e), fun b o e hd => U.2 b o (F.keep b o e) hd⟩
end
section
variable {w : World} {mean : ExcName → Option Value} {mg mb : Str → Option Value} {s : Shared} {dp un : Nat} {gd : Option (List Code)} {cn : Str} {cs : Scope} {a L₀ : Addr} {ccd : Value} {cl : List (Str × Addr)} {outer : List Env} {h₀ : Heap} {L : Addr} {m : Str → Option Value} {news : List (Addr × Obj)} {Q E : Value → Shared → Prop}
theorem use_match {want got fr mi en : Str} {t u : Tok} (F : Fr h₀ L s.heap m) (X : (hd.heap_39 w.params).In h₀) (T : Top hd.view_39 (looseW hd.view_39 []) mean mg mb h₀) (N : News h₀ L s.heap news)
   (hd : dp + 2 < recursionLimit) (hu : un + 20 < cLine) (hsp : Txt.split want (Str.ofString "...") = [fr, mi, en]) (hin : (Builtin.Str.occurrences want (Str.ofString "...") 0 want.length 1).isEmpty = false)
   (hsz : want.length + 2 ≤ sizeLine) (hf1 : fr.length ≤ 100) (hm1 : mi.length ≤ 100) (he1 : en.length ≤ 100) (hsz2 : got.length ≤ 100)
   (h : ∀ h' tk', Fr h₀ L h' m → News h₀ L h' news → Q (.bool (matchW fr mi en got)) {s with heap := h', toks := tk'}) :
   wpAny (model PySem.Challenge.rw_pg0064_01.row.prog w) (ktrTop dp un gd cn cs L₀ a ccd cl outer) (call (.ref 42) [.str want t, .str got u]) Q E s :=
  match_ok w mean mg mb s want got fr mi en t u hsp hin hsz hsz2 hf1 hm1 he1 dp un gd cn cs L₀ a ccd cl outer Q E (X.keeps F.keep) (T.keeps F.keep) hd hu fun h' tk' st => h h' tk' (F.keeps st) (N.grown st)
end
local macro_rules | `(tactic| walk_at "call ref") => `(tactic| ((with_reducible show wpAny _ _ (call (Value.ref 42) [Value.str _ _, Value.str _ _]) _ _ _); k_dflt (refine' use_match ?k2 ?k3 ?k4 ?k5 ?k7 ?k8 ?ka ?kb ?kc ?kd ?ke ?kf ?kg ?_; (case k2 => k_asm); (case k3 => k_asm); (case k4 => k_asm); (case k5 => k_asm); (case k7 => ktr_room); (case k8 => ktr_units); (case ka => assumption); (case kb => assumption); (case kc => assumption); (case kd => assumption); (case ke => assumption); (case kf => assumption); (case kg => first | assumption | walk_at "m my_len")); intro h' tk' F' N'; (try dsimp only); (try k_sweep)))
def CtrX (rd ru : Nat) (w : World) (mean : ExcName → Option Value) (mg mb : Str → Option Value) (f : Addr) (s : Shared) (vs : List Value) (v : Tok → Value) : Prop :=
  ∀ (dp un : Nat) (gd : Option (List Code)) (cn : Str) (cs : Scope) (L a : Addr) (ccd : Value) (cl : List (Str × Addr)) (outer : List Env) (Q E : Value → Shared → Prop) (base : Heap),
    (hd.heap_39 w.params).In base → Top hd.view_39 (looseW hd.view_39 []) mean mg mb base → base.StaysIn s.heap → s.heap.FunFrames base (envX cn cs L a ccd cl :: outer) →
    dp + rd < recursionLimit → un + ru < cLine → (∀ t h' tk', Up (frs (envX cn cs L a ccd cl :: outer)) s.heap h' → Q (v t) { s with heap := h', toks := tk' }) →
      wpAny (model PySem.Challenge.rw_pg0064_01.row.prog w) (ktrTop dp un gd cn cs L a ccd cl outer) (call (.ref f) vs) Q E s
def firstT : List Bool → Nat
  | [] => 0
  | true :: _ => 0
  | false :: r => firstT r + 1
def needF (fr mi en : Str) (tails : List Str) (text : Str) : Nat := firstT (tails.map fun tl => matchW fr mi en (text ++ tl))
theorem told_bools {tl : List (Str × Tok)} {ys : List Value} {f : Str × Tok → Bool} (h : Told (strValues tl).toArray.size (fun i y => ∃ p, tl[i]? = some p ∧ y = Value.bool (f p)) ys) : ys = boolVals (tl.map f) := by
  have hl : ys.length = tl.length := by rw [h.1]; simp [strValues]
  refine List.ext_getElem? fun i => ?_
  simp only [boolVals, List.getElem?_map]
  cases e : ys[i]? with
  | none => rw [List.getElem?_eq_none_iff] at e; rw [List.getElem?_eq_none_iff.mpr (by omega)]; rfl
  | some y =>
    obtain ⟨p, hp, rfl⟩ := h.2 i y e
    rw [hp]; rfl
theorem firstT_spec (bs : List Bool) : (bs[firstT bs]? = some true ∧ ∀ j, j < firstT bs → bs[j]? ≠ some true) ∨ (firstT bs = bs.length ∧ ∀ j : Nat, bs[j]? ≠ some true) := by
  induction bs with
  | nil => right; exact ⟨rfl, fun j => by simp⟩
  | cons b r ih =>
    cases b with
    | true => left; exact ⟨rfl, fun j h => absurd h (Nat.not_lt_zero _)⟩
    | false =>
      rcases ih with ⟨a, b⟩ | ⟨a, b⟩
      · left
        refine ⟨by simpa [firstT] using a, fun j h => ?_⟩
        cases j with
        | zero => simp
        | succ j => simpa using b j (by simp [firstT] at h; omega)
      · right
        refine ⟨by simp [firstT, a], fun j => ?_⟩
        cases j with
        | zero => simp
        | succ j => simpa using b j
section
local macro_rules | `(tactic| walk_at "call ref") => `(tactic| ((with_reducible show wpAny _ _ (call (Value.ref 35) _) _ _ _); refine Held.out ?_))
local macro_rules | `(tactic| walk_at "exec Assign cons ListComp") => `(tactic| (refine Held.out ?_))
local macro_rules | `(tactic| walk_at "CompSrc") => `(tactic| (refine Held.out ?_))
theorem need_ok (w : World) (mean : ExcName → Option Value) (mg mb : Str → Option Value) (s : Shared) (want text fr mi en : Str) (ta : Addr) (tl : List (Str × Tok)) (t1 t2 : Tok)
   (hsp : Txt.split want (Str.ofString "...") = [fr, mi, en]) (hin : (Builtin.Str.occurrences want (Str.ofString "...") 0 want.length 1).isEmpty = false)
   (hsz : want.length + 2 ≤ sizeLine) (hf1 : fr.length ≤ 100) (hm1 : mi.length ≤ 100) (he1 : en.length ≤ 100) (htext : text.length ≤ 20)
   (hl : s.heap.IsList ta (strValues tl).toArray) (htl : ∀ p ∈ tl, p.1.length ≤ 20) (htn : tl.length ≤ 20) :
  CtrX 4 40 w mean mg mb 54 s [.str want t1, .ref ta, .str text t2] (fun t => .int (needF fr mi en (tl.map (·.1)) text : Int) t) := by
  unfold CtrX
  k_fill
  w_top off
  intro dp un gd cn cs L a ccd cl outer Q E base XB TB SB FF hdp hun hret
  have X := XB.keeps SB
  have T := TB.keeps SB
  refine wpAny_call ?_
  k_dflt (refine' enterSC ?k3 ?k5 ?k6 ?k7 ?k8 ?k9 ?kB ?kD ?_ ?c2 ?c3 ?c4; (case k3 => k_asm); (case k5 => k_asm); (case k6 => k_is); (case k7 => k_is); (case k8 => ktr_room); (case k9 => exact BindsTo.of_eq rfl); (case kB => exact rfl); (case kD => decide +kernel); (case c2 => exact rfl); (case c3 => exact rfl); (case c4 => exact rfl); k_whole)
  intro L' h' tk' cells' hL' F' N' Y'
  k_cells Y'
  try dsimp only
  k_steps
  refine Held.mk ?_
  refine LCg.Assign_ListComp_U (F₀ := by k_asm) (by rfl) (by with_unfolding_all rfl) (by rfl) (by decide) (by rfl) (by decide) (by rfl) (by rfl) (by rfl) ?_
  k_steps
  refine Held.mk ?_
  refine LCg.CompSrc.base (by rfl) (by k_asm) (by k_asm) hl (by simp [strValues]; exact Nat.le_trans htn (by decide)) fun g' => ?_
  refine comp_rel (fun i y => ∃ p, tl[i]? = some p ∧ y = .bool (matchW fr mi en (text ++ p.1))) (Or.inl hl) ?_ ?_
  · intro i ys v I oI C oC D m₂ h₁ tk₁ Q' E' hi hv hC hx F₁ N₁ hQ
    obtain ⟨p, hp, rfl⟩ : ∃ p, tl[i]? = some p ∧ v = .str p.1 p.2 := by
      simp only [strValues, List.getElem?_toArray, List.getElem?_map] at hv
      cases e : tl[i]? with
      | none => rw [e] at hv; cases hv
      | some b => rw [e] at hv; exact ⟨b, rfl, (Option.some.inj hv).symm⟩
    have hpl := htl p (List.mem_of_getElem? hp)
    k_steps
    exact hQ _ _ _ ⟨p, hp, rfl⟩ (by k_asm) (by k_asm)
  · intro ys hys
    have hyb : ys = boolVals (tl.map fun p => matchW fr mi en (text ++ p.1)) := told_bools hys
    subst hyb
    k_steps
    refine wpAny_Try_except ?_
    k_steps
    refine Held.mk ?_
    rename_i D h1 tk1 F1 N1 o1
    have hL1 : h1.IsList D (boolVals (tl.map fun p => matchW fr mi en (text ++ p.1))).toArray := ⟨_, (N1 _ List.mem_cons_self).1, rfl, _, rfl⟩
    have hneed : needF fr mi en (tl.map (·.1)) text = firstT (tl.map fun p => matchW fr mi en (text ++ p.1)) := by simp [needF, List.map_map, Function.comp_def]
    rw [hneed] at hret
    rcases firstT_spec (tl.map fun p => matchW fr mi en (text ++ p.1)) with ⟨hn, hn'⟩ | ⟨hn, hn'⟩
    · k_dflt (refine' index_bool_ok w mean mg mb { s with heap := h1, toks := tk1 } D _ _ hn hn' hL1 _ _ _ _ _ _ _ _ _ _ _ _ (X.keeps F1.keep) (T.keeps F1.keep) ?r ?u ?_; (case r => ktr_room); (case u => ktr_units))
      intro t h2 tk2 st
      exact hret t h2 tk2 (up_end F1 FF (.of_stays st))
    · k_dflt (refine' index_none w mean mg mb { s with heap := h1, toks := tk1 } D _ hn' hL1 _ _ _ _ _ _ _ _ _ _ _ _ base (X.keeps F1.keep) (T.keeps F1.keep) ?r ?u ?ff ?_; (case r => ktr_room); (case u => ktr_units); (case ff => exact frames_here F1 FF SB rfl rfl))
      intro e a0 h2 tk2 hfl hsm
      dsimp only at hfl hsm
      refine caught_none (T := "ValueError") rfl rfl hfl rfl rfl rfl ?_ ?_
      · intro h3 Q' E' st3 sm3 hq
        have U := up_of_hidden st3 (hsm.trans sm3)
        have F3 := fr_up F1 FF U
        have X3 := XB.keeps (base_hidden FF SB)
        have T3 := TB.keeps (base_hidden FF SB)
        k_steps
        exact hq
      · intro h3 st3 sm3
        have U := up_of_hidden st3 (hsm.trans sm3)
        have F3 := fr_up F1 FF U
        have N3 := news_up N1 FF U
        have X3 := XB.keeps (base_hidden FF SB)
        have T3 := TB.keeps (base_hidden FF SB)
        k_steps
        obtain ⟨ol, hol, c1, n1, d1⟩ := hl
        obtain ⟨sl, h3l⟩ := U.2 ta ol (F1.keep _ _ hol) (fun vs q => by rw [d1] at q; cases q)
        have hsz : (strValues tl).toArray.size = tl.length := by simp [strValues]
        have hl3 : h3.IsList ta (strValues tl).toArray := ⟨{ ol with slots := sl }, h3l, c1, n1, d1⟩
        refine call_len_list hl3 (by rw [hsz]; omega) ?_
        rw [hsz]
        have hn2 : firstT (tl.map fun p => matchW fr mi en (text ++ p.1)) = tl.length := by rw [hn]; simp
        rw [hn2] at hret
        exact hret _ _ _ (up_end F1 FF U)
end
section
variable {prog : Program} {w : World} {A : Around} {E : Value → Shared → Prop} {s : Shared} {Q : Value → Shared → Prop} {value slice : PySem.Expr} {u : Tok} {l : Addr} {its : Array Value} {i : Int} {v : Value}
theorem itemList_K (hl : s.heap.IsList l its) (h0 : 0 ≤ i) (hfit : i < 2 ^ 63) (hv : its[i.toNat]? = some v) (h : Q v s)
    (hs : subscripted slice false (.ref l) (.int i u) = operate [.ref l, .int i u] (getItem (.ref l) (.int i u)) := by with_unfolding_all rfl) :
    wpAny (model prog w) A (subscriptTail value slice (.ref l) (.int i u)) Q E s :=
  tail_any hl.typeIs F.slot_list_getitem.lookup (wpAny_getItem_list hl h0 hfit (x := v) hv h) hs
end
theorem getitem_ok (w : World) (mean : ExcName → Option Value) (mg mb : Str → Option Value) (s : Shared) (pa : Addr) (its : Array Value) (i : Nat) (v : Value) (t : Tok) (hv : its[i]? = some v) (hsz : its.size ≤ 100)
   (hl : s.heap.IsList pa its) :
  Ctr 2 20 w mean mg mb 28 s [.ref pa, .int (i : Int) t] (fun Q => ∀ h' tk', s.heap.StaysIn h' → Q v {s with heap := h', toks := tk'}) := by
  unfold Ctr; k_fill; w_top off; intros; rename_i hret
  refine wpAny_call ?_
  k_dflt walk_at "m enter_S"
  k_steps
  rename_i h1 F1 N1
  have hi := (Array.getElem?_eq_some_iff.mp hv).1
  refine itemList_K (hl.at fun o e => F1.keep pa o e) (by omega) (by omega) (by simpa using hv) ?_
  k_steps
  exact hret _ _ F1.keep
def Blk (prog : Program) (w : World) (A : Around) (env : Env) (elt : PySem.Expr) (x : Str) (scope : Scope) (cl : List (Str × Addr)) (Fin : Addr → List Value → Shared → Prop) (it : Value) (s₂ : Shared) : Prop :=
  ∃ (I : Addr) (fp : List Addr) (n : Nat) (P : Nat → Value → Prop) (St : Nat → Heap → Prop) (J : Heap → Prop) (Rel : Nat → Value → Prop),
    it = .ref I ∧ Walks prog w A I fp [I] n P St ∧ n ≤ sizeLine ∧ St 0 s₂.heap ∧ (∀ b ∈ fp, b < s₂.heap.objs.size) ∧ J s₂.heap ∧
    (∀ h h', J h → (∀ b o, b ≠ I → b < s₂.heap.objs.size → h.get? b = some o → h'.get? b = some o) → J h') ∧
    (∀ i ys v h tk m₂ (Q' E' : Value → Shared → Prop), i < n → Told i Rel ys → P i v → St (i + 1) h → J h → h.get? s₂.heap.objs.size = some (LCg.lst ys) → h.Ns (s₂.heap.objs.size + 1) m₂ → m₂ x = some v → s₂.heap.objs.size + 1 < h.objs.size →
      (∀ y h' tk', Rel i y → J h' → (∀ b o, (b ∈ fp ∨ b = s₂.heap.objs.size ∨ b = s₂.heap.objs.size + 1) → h.get? b = some o → h'.get? b = some o) → Q' y { s₂ with heap := h', toks := tk' }) →
      wpAny (model prog w) A (eval elt (compEnvC scope cl (s₂.heap.objs.size + 1) env)) Q' E' { s₂ with heap := h, toks := tk }) ∧
    (∀ ys h tk, Told n Rel ys → J h → h.get? s₂.heap.objs.size = some (LCg.lst ys) → Fin s₂.heap.objs.size ys { s₂ with heap := h, toks := tk })
section
variable {prog : Program} {w : World} {A : Around} {E : Value → Shared → Prop} {s : Shared} {env : Env}
theorem ListComp_B {elt iter : PySem.Expr} {x : Str} {px : Pos} {scope : Scope} {cl : List (Str × Addr)} {pos : Pos} {Q : Value → Shared → Prop}
    (hclos : closureFor scope env = pure cl) (hcell : ∀ y ∈ scope.names, y.2 ≠ .cell) (hkind : scope.kind = .function)
    (hnames : ∀ y ∈ scope.names, y.2 = .local → scope.names.lookup y.1 = some .local) (hx : scope.names.lookup x = some .local)
    (h : wpAny (model prog w) A (eval iter env) (fun xv s₁ => wpAny (model prog w) A (pyIter xv) (Blk prog w A env elt x scope cl (fun D _ s' => Q (.ref D) s')) E s₁) E s)
    (hs : ∀ x, foldedSetIterable iter env x = pure x := by intro _; rfl) :
    wpAny (model prog w) A (eval (.ListComp elt [⟨.Name x px, iter, [], 0⟩] scope pos) env) Q E s := by
  rw [eval_ListComp]
  refine wpAny_comprehension_free (use := none) rfl hs hclos hkind hnames (wpAny_mono h (fun xv s₁ h₁ => wpAny_mono h₁ (fun it s₂ h₂ => ?_) fun _ _ e => e) fun _ _ e => e)
  obtain ⟨I, fp, n, P, St, J, Rel, rfl, W, hsz, hst, hfp, hJ, hJs, turn, fin⟩ := h₂
  refine wpAny_newObj_type (wpAny_newFunctionEnv hcell (by intro y hy; simp at hy) (fun h₁ hns₁ hsb₁ => ?_) hkind)
  dsimp only at hns₁ hsb₁ ⊢
  have hsize : (s₂.heap.push { cls := .type "list", dict := none, data := .seq ([] : List Value).toArray }).objs.size = s₂.heap.objs.size + 1 := Heap.size_push ..
  rw [hsize] at hns₁ hsb₁ ⊢
  have hIf : I ∈ fp := W.sub I (List.mem_singleton.mpr rfl)
  have below : ∀ b, b < s₂.heap.objs.size → b ≠ s₂.heap.objs.size + 1 ∧ b ≠ s₂.heap.objs.size := fun b hb => ⟨Nat.ne_of_lt (Nat.lt_succ_of_lt hb), Nat.ne_of_lt hb⟩
  have old : ∀ b o, s₂.heap.get? b = some o → h₁.get? b = some o := fun b o e => hsb₁.extBut b o (below b (Heap.lt_size e)).1 (Heap.get?_push_of_some _ (Heap.get?_push_of_some _ e))
  have hacc : h₁.get? s₂.heap.objs.size = some (LCg.lst []) := hsb₁.extBut _ _ (Nat.ne_of_lt (Nat.lt_succ_self _)) (Heap.get?_push_of_some _ (Heap.get?_push_size _ rfl))
  have hst₁ : St 0 h₁ := W.frame _ _ _ hst fun b _ o e => old b o e
  have hJ₁ : J h₁ := hJs _ _ hJ fun b o _ _ e => old b o e
  have loop : codeAny (model prog w) A (.compLoop (.ListComp elt [⟨.Name x px, iter, [], 0⟩] scope pos) 0 (.ref I) (.ref s₂.heap.objs.size) (compEnvC scope cl (s₂.heap.objs.size + 1) env))
        (compPost (model prog w) A E none Q (.ref s₂.heap.objs.size) (s₂.heap.objs.size + 1)) { s₂ with heap := h₁, toks := s₂.toks + ([] : List (Str × Value)).length } := by
    refine codeAny_compLoop_tests
      (fun k s' => ∃ h' tk i ys m', s' = { s₂ with heap := h', toks := tk } ∧ i ≤ n ∧ k = n + 1 - i ∧ Told i Rel ys ∧ St i h' ∧ J h' ∧ h'.Ns (s₂.heap.objs.size + 1) m' ∧ h'.get? s₂.heap.objs.size = some (LCg.lst ys)) ?_ (n + 1)
      ⟨h₁, _, 0, [], _, rfl, Nat.zero_le _, rfl, ⟨rfl, fun i y h => by simp at h⟩, hst₁, hJ₁, hns₁, hacc⟩
    rintro k s' ⟨h', tk, i, ys, m', rfl, hi, rfl, hys, hst', hJ', hn', hD'⟩
    have hIlt := hfp I hIf
    have hCI : s₂.heap.objs.size + 1 ≠ I := Ne.symm (below I hIlt).1
    have hDI : s₂.heap.objs.size ≠ I := Ne.symm (below I hIlt).2
    by_cases hlt : i < n
    · refine W.item i _ _ _ hlt hst' fun v h₂ tk₂ hPv hst₂ hk₂ => ?_
      have hk₂' : ∀ b o, b ≠ I → h'.get? b = some o → h₂.get? b = some o := fun b o hb e => hk₂ b o (by simpa using hb) e
      refine wpAny_assign_Name (wpAny_storeName_local (lookup_relabel_local hx) (hn'.at' fun o e => hk₂' _ o hCI e) (fun h₃ hn₃ hs₃ => ?_) (by simp [compEnvC, relabel, hkind]))
      refine wpAny_tests_nil ?_
      simp only [if_true]
      have hst₃ : St (i + 1) h₃ := W.frame _ _ _ hst₂ fun b hb o e => hs₃.extBut b o (below b (hfp b hb)).1 e
      have hJ₃ : J h₃ := hJs _ _ hJ' fun b o hb hlt e => hs₃.extBut b o (below b hlt).1 (hk₂' b o hb e)
      have hD₃ : h₃.get? s₂.heap.objs.size = some (LCg.lst ys) := hs₃.extBut _ _ (Nat.ne_of_lt (Nat.lt_succ_self _)) (hk₂' _ _ hDI hD')
      refine turn i ys v h₃ _ _ _ _ hlt hys hPv hst₃ hJ₃ hD₃ hn₃ (by simp) hn₃.lt fun y h₄ tk₄ hR hJ₄ hk₄ => ?_
      have hD₄ := hk₄ _ _ (.inr (.inl rfl)) hD₃
      refine append_at (hsz := by show ys.toArray.size ≤ sizeLine; rw [List.size_toArray, hys.1]; exact Nat.le_trans hi hsz) hD₄ fun h₅ hs₅ hD₅ => ?_
      refine ⟨n + 1 - (i + 1), by omega, h₅, tk₄, i + 1, ys ++ [y], _, rfl, hlt, rfl, hys.snoc hR, ?_, ?_, (hn₃.at' fun o e => hk₄ _ o (.inr (.inr rfl)) e).sameBut hs₅ (Ne.symm (Nat.ne_of_lt (Nat.lt_succ_self _))), hD₅.trans (congrArg some (LCg.lst_snoc ys y))⟩
      · exact W.frame _ _ _ hst₃ fun b hb o e => hs₅.extBut b o (below b (hfp b hb)).2 (hk₄ b o (.inl hb) e)
      · exact hJs _ _ hJ₄ fun b o _ hlt e => hs₅.extBut b o (below b hlt).2 e
    · obtain rfl : i = n := Nat.le_antisymm hi (Nat.not_lt.mp hlt)
      refine W.done _ _ _ hst' fun h₂ tk₂ hk₂ => ?_
      have hk₂' : ∀ b o, b ≠ I → h'.get? b = some o → h₂.get? b = some o := fun b o hb e => hk₂ b o (by simpa using hb) e
      refine ⟨m', hn'.at' fun o e => hk₂' _ o hCI e, fun h'' hs'' => ?_⟩
      refine fin ys h'' tk₂ hys (hJs _ _ hJ' fun b o hb hlt e => hs''.extBut b o (below b hlt).1 (hk₂' b o hb e)) (hs''.extBut _ _ (Nat.ne_of_lt (Nat.lt_succ_self _)) (hk₂' _ _ hDI hD'))
  exact codeAny_compStart_list loop (W.self 0 _ _ _ hst₁ loop)
end
section
variable {prog : Program} {w : World} {A : Around} {E : Value → Shared → Prop} {env : Env} {elt : PySem.Expr} {x : Str} {scope : Scope} {cl : List (Str × Addr)} {Fin : Addr → List Value → Shared → Prop}
  {s₂ : Shared} {h₀ : Heap} {L I : Addr} {m : Str → Option Value} {news : List (Addr × Obj)} {fp : List Addr} {n : Nat} {P : Nat → Value → Prop} {St : Nat → Heap → Prop}
theorem blk_fr (W : Walks prog w A I fp [I] n P St) (hsz : n ≤ sizeLine) (hst : St 0 s₂.heap) (hI : I < s₂.heap.objs.size) (hIo : ∀ i h, St i h → ∃ o, h.get? I = some o)
    (hfp : ∀ b ∈ fp, b = I ∨ (∃ o, h₀.get? b = some o) ∨ ∃ o, (b, o) ∈ news) (F : Fr h₀ L s₂.heap m) (N : News h₀ L s₂.heap news) (hIL : L < I) (hI₀ : h₀.get? I = none) (off : ∀ p ∈ news, p.1 ≠ I) (Rel : Nat → Value → Prop)
    (turn : ∀ i ys v oI C oC D m₂ h tk (Q' E' : Value → Shared → Prop), i < n → P i v → LCg.NsObj oC m₂ → m₂ x = some v → @LT.lt Nat _ L C → @LT.lt Nat _ L D → Fr h₀ L h m → News h₀ L h ((I, oI) :: (C, oC) :: (D, LCg.lst ys) :: news) →
      (∀ y h' tk', Rel i y → Fr h₀ L h' m → News h₀ L h' ((I, oI) :: (C, oC) :: (D, LCg.lst ys) :: news) → Q' y { s₂ with heap := h', toks := tk' }) →
      wpAny (model prog w) A (eval elt (compEnvC scope cl C env)) Q' E' { s₂ with heap := h, toks := tk })
    (fin : ∀ D ys h tk, Told n Rel ys → @LT.lt Nat _ L D → Fr h₀ L h m → News h₀ L h ((D, LCg.lst ys) :: news) → (∀ p ∈ news, @LT.lt Nat _ p.1 D) → Fin D ys { s₂ with heap := h, toks := tk }) :
    Blk prog w A env elt x scope cl Fin (.ref I) s₂ := by
  have hL : L < s₂.heap.objs.size := F.ns.lt
  have hnl : ∀ p ∈ news, @LT.lt Nat _ p.1 s₂.heap.objs.size := fun p hp => Heap.lt_size (N p hp).1
  have h0l : ∀ b o, h₀.get? b = some o → @LT.lt Nat _ b s₂.heap.objs.size := fun b o e => Heap.lt_size (F.keep b o e)
  have fresh₀ : ∀ b, s₂.heap.objs.size ≤ b → h₀.get? b = none := fun b hb => by
    cases e : h₀.get? b with
    | none => rfl
    | some o => exact absurd (h0l b o e) (Nat.not_lt.mpr hb)
  refine ⟨I, fp, n, P, St, fun h => Fr h₀ L h m ∧ News h₀ L h news, Rel, rfl, W, hsz, hst, ?_, ⟨F, N⟩, ?_, ?_, ?_⟩
  · intro b hb
    rcases hfp b hb with rfl | ⟨o, e⟩ | ⟨o, e⟩
    · exact hI
    · exact h0l b o e
    · exact hnl _ e
  · rintro h h' ⟨F', N'⟩ k
    refine ⟨⟨F'.ns.at' fun o e => k L o (Nat.ne_of_lt hIL) hL e, fun b o e => k b o (fun q => by rw [q, hI₀] at e; cases e) (h0l b o e) (F'.keep b o e), F'.above⟩, fun p hp => ⟨k _ _ (off p hp) (hnl p hp) (N' p hp).1, (N' p hp).2⟩⟩
  · rintro i ys v h tk m₂ Q' E' hi hys hP hst' ⟨F', N'⟩ hD hC hx _ hQ
    obtain ⟨oC, heC, hoC⟩ := LCg.ns_obj hC
    obtain ⟨oI, heI⟩ := hIo _ _ hst'
    have hLC : @LT.lt Nat _ L (s₂.heap.objs.size + 1) := Nat.lt_succ_of_lt hL
    refine turn i ys v oI _ oC _ m₂ h tk Q' E' hi hP hoC hx hLC hL F' (fun p hp => ?_) fun y h' tk' hR F'' N'' => ?_
    · rcases List.mem_cons.mp hp with rfl | hp
      · exact ⟨heI, Ne.symm (Nat.ne_of_lt hIL), hI₀⟩
      rcases List.mem_cons.mp hp with rfl | hp
      · exact ⟨heC, Ne.symm (Nat.ne_of_lt hLC), fresh₀ _ (Nat.le_succ _)⟩
      rcases List.mem_cons.mp hp with rfl | hp
      · exact ⟨hD, Ne.symm (Nat.ne_of_lt hL), fresh₀ _ (Nat.le_refl _)⟩
      · exact N' p hp
    · refine hQ y h' tk' hR ⟨F'', fun p hp => N'' p (List.mem_cons_of_mem _ (List.mem_cons_of_mem _ (List.mem_cons_of_mem _ hp)))⟩ ?_
      have one : ∀ b o o', h.get? b = some o → h.get? b = some o' → h'.get? b = some o' → h'.get? b = some o := fun b o o' e e' e'' => by rw [e] at e'; cases e'; exact e''
      rintro b o (hb | rfl | rfl) e
      · rcases hfp b hb with rfl | ⟨o', e'⟩ | ⟨o', e'⟩
        · exact one _ _ _ e heI (N'' _ List.mem_cons_self).1
        · exact one _ _ _ e (F'.keep _ _ e') (F''.keep _ _ e')
        · exact one _ _ _ e (N' _ e').1 (N'' _ (List.mem_cons_of_mem _ (List.mem_cons_of_mem _ (List.mem_cons_of_mem _ e')))).1
      · exact one _ _ _ e hD (N'' _ (List.mem_cons_of_mem _ (List.mem_cons_of_mem _ List.mem_cons_self))).1
      · exact one _ _ _ e heC (N'' _ (List.mem_cons_of_mem _ List.mem_cons_self)).1
  · rintro ys h tk hys ⟨F', N'⟩ hD
    exact fin _ ys h tk hys hL F' (fun p hp => by
      rcases List.mem_cons.mp hp with rfl | hp
      · exact ⟨hD, Ne.symm (Nat.ne_of_lt hL), fresh₀ _ (Nat.le_refl _)⟩
      · exact N' p hp) hnl
theorem down_src {s₁ : Shared} {r : Addr} {k : Nat} {t u v : Tok} (hh : A.handled = none) (hr : IsRange s₁.heap r (k : Int) (-1) (-1) t u v) (hk : k ≤ 100) (F : Fr h₀ L s₁.heap m) (N : News h₀ L s₁.heap news) (Rel : Nat → Value → Prop)
    (turn : ∀ i ys t oI C oC D m₂ h tk (Q' E' : Value → Shared → Prop), i < k + 1 → LCg.NsObj oC m₂ → m₂ x = some (.int ((k - i : Nat) : Int) t) → @LT.lt Nat _ L C → @LT.lt Nat _ L D → Fr h₀ L h m → News h₀ L h ((s₁.heap.objs.size, oI) :: (C, oC) :: (D, LCg.lst ys) :: news) →
      (∀ y h' tk', Rel i y → Fr h₀ L h' m → News h₀ L h' ((s₁.heap.objs.size, oI) :: (C, oC) :: (D, LCg.lst ys) :: news) → Q' y { s₁ with heap := h', toks := tk' }) →
      wpAny (model prog w) A (eval elt (compEnvC scope cl C env)) Q' E' { s₁ with heap := h, toks := tk })
    (fin : ∀ D ys h tk, Told (k + 1) Rel ys → @LT.lt Nat _ L D → Fr h₀ L h m → News h₀ L h ((D, LCg.lst ys) :: news) → (∀ p ∈ news, @LT.lt Nat _ p.1 D) → Fin D ys { s₁ with heap := h, toks := tk }) :
    wpAny (model prog w) A (pyIter (.ref r)) (Blk prog w A env elt x scope cl Fin) E s₁ := by
  have hn : Builtin.Range.rangeSize (k : Int) (-1) (-1) = ((k + 1 : Nat) : Int) := by
    have : ∀ k : Nat, k ≤ 100 → Builtin.Range.rangeSize (k : Int) (-1) (-1) = ((k + 1 : Nat) : Int) := by decide +kernel
    exact this k hk
  have hsm : Builtin.Range.small (k : Int) (-1) (-1) = true := by
    have : ∀ k : Nat, k ≤ 100 → Builtin.Range.small (k : Int) (-1) (-1) = true := by decide +kernel
    exact this k hk
  refine wpAny_pyIter_range hr hsm ?_
  have up : ∀ b o, s₁.heap.get? b = some o → (s₁.heap.push { cls := .type "range_iterator", data := .fields #[rawInt (k : Int), rawInt (Builtin.Range.rangeSize (k : Int) (-1) (-1)), rawInt (-1)] }).get? b = some o := fun b o e => Heap.get?_push_of_some _ e
  refine blk_fr (Walks.range hh s₁.heap.objs.size (k : Int) (-1) (k + 1)) (Nat.le_trans (Nat.succ_le_succ hk) (by rw [sizeLine_eq]; decide)) ?_ ?_ (fun i h st => ⟨_, st⟩) (fun b hb => .inl (List.mem_singleton.mp hb)) (F.keeps up) (N.grown up) F.ns.lt (next_is_new F) (fun p hp => Nat.ne_of_lt (Heap.lt_size (N p hp).1)) Rel ?_ fin
  · show IsRangeIter _ _ _ _ _
    rw [hn]; simpa using Heap.get?_push_size _ rfl
  · show s₁.heap.objs.size < (s₁.heap.push _).objs.size
    rw [Heap.size_push]; exact Nat.lt_succ_self _
  · rintro i ys v oI C oC D m₂ h tk Q' E' hi ⟨t, rfl⟩ hoC hx hLC hLD F' N' hQ
    have e : (k : Int) + (i : Int) * (-1) = ((k - i : Nat) : Int) := by omega
    rw [e] at hx
    exact turn i ys t oI C oC D m₂ h tk Q' E' hi hoC hx hLC hLD F' N' hQ
end
def mask (g h : Heap) : Heap := { objs := Array.ofFn (n := g.objs.size) fun i => match g.get? i.1, h.get? i.1 with
  | some _, some o => o
  | _, _ => { cls := .none, data := .freed }, life := g.life }
theorem mask_size (g h : Heap) : (mask g h).objs.size = g.objs.size := by simp [mask]
theorem get_not_freed {h : Heap} {b : Addr} {o : Obj} (e : h.get? b = some o) : o.data ≠ .freed := by
  intro q
  unfold Heap.get? at e
  split at e
  · cases e
  · rename_i hne
    obtain ⟨c, d, dt, sl⟩ := o
    cases q
    exact hne _ _ _ e
theorem mask_get {g h : Heap} {b : Addr} {o o' : Obj} (e : g.get? b = some o) (e' : h.get? b = some o') : (mask g h).get? b = some o' := by
  have hb : b < g.objs.size := Heap.lt_size e
  have hn := get_not_freed e'
  obtain ⟨c, d, dt, sl⟩ := o'
  have : (mask g h).objs[b]? = some ⟨c, d, dt, sl⟩ := by
    unfold mask
    simp only [Array.getElem?_ofFn, hb, dif_pos, e, e']
  unfold Heap.get?
  rw [this]
  cases dt <;> first | rfl | exact absurd rfl hn
theorem of_mask {g h : Heap} {b : Addr} {o : Obj} (e : (mask g h).get? b = some o) : h.get? b = some o ∧ ∃ o', g.get? b = some o' := by
  have hb : b < g.objs.size := by have := Heap.lt_size e; rwa [mask_size] at this
  have hn := get_not_freed e
  have h1 : (mask g h).objs[b]? = some o := by
    unfold Heap.get? at e
    split at e
    · cases e
    · exact e
  unfold mask at h1
  simp only [Array.getElem?_ofFn, hb, dif_pos, Option.some.injEq] at h1
  split at h1
  · rename_i o1 o2 e1 e2
    subst h1
    exact ⟨e2, _, e1⟩
  · subst h1
    exact absurd rfl hn
structure Gnd (g₀ : Heap) (l : List Env) (g : Heap) : Prop where
  up : Up (frs l) g₀ g
  size : g.objs.size = g₀.objs.size
  dom : ∀ b, g₀.get? b = none → g.get? b = none
theorem Gnd.refl (g : Heap) (l : List Env) : Gnd g l g := ⟨.of_stays fun _ _ e => e, rfl, fun _ e => e⟩
section
variable {base g₀ g h h₂ : Heap} {l : List Env} {L : Addr} {m : Str → Option Value} {news : List (Addr × Obj)}
theorem Gnd.frames (G : Gnd g₀ l g) (FF : g₀.FunFrames base l) : g.FunFrames base l := G.up.frames FF
theorem Gnd.ground (G : Gnd g₀ l g) (FF : g₀.FunFrames base l) (SB : base.StaysIn g₀) : base.StaysIn g := G.up.base FF SB
theorem Gnd.again (G : Gnd g₀ l g) (FF : g₀.FunFrames base l) (F : Fr g L h m) (N : News g L h news) (U : Up (L :: frs l) h h₂) : ∃ g₂, Gnd g₀ l g₂ ∧ Fr g₂ L h₂ m ∧ News g₂ L h₂ news := by
  have FG := G.frames FF
  have there : ∀ b o, g.get? b = some o → (b ∉ frs l → h₂.get? b = some o) ∧ ∃ o', h₂.get? b = some o' := by
    intro b o e
    have hbL : b ≠ L := fun q => absurd (Heap.lt_size e) (Nat.not_lt.mpr (q ▸ F.above))
    refine ⟨fun hb => U.1 b o (fun hm => ?_) (F.keep b o e), ?_⟩
    · rcases List.mem_cons.mp hm with q | hm
      · exact hbL q
      · exact hb hm
    · by_cases hb : b ∈ frs l
      · obtain ⟨_, o', ho', hd⟩ := FG.mem hb
        rw [e] at ho'; cases ho'
        obtain ⟨sl, q⟩ := U.2 b o (F.keep b o e) hd
        exact ⟨_, q⟩
      · exact ⟨o, U.1 b o (fun hm => by
          rcases List.mem_cons.mp hm with q | hm
          · exact hbL q
          · exact hb hm) (F.keep b o e)⟩
  have UG : Up (frs l) g (mask g h₂) := by
    refine ⟨fun b o hb e => mask_get e ((there b o e).1 hb), fun b o e hd => ?_⟩
    obtain ⟨sl, q⟩ := U.2 b o (F.keep b o e) hd
    exact ⟨sl, mask_get e q⟩
  refine ⟨mask g h₂, ⟨G.up.trans UG, by rw [mask_size, G.size], fun b e => ?_⟩, ⟨Heap.UpToSlots.ns (fun b o e hd => U.2 b o e hd) F.ns, fun b o e => (of_mask e).1, by rw [mask_size]; exact F.above⟩, fun p hp => ⟨?_, (N p hp).2.1, ?_⟩⟩
  · cases q : (mask g h₂).get? b with
    | none => rfl
    | some o =>
      obtain ⟨_, o', e'⟩ := of_mask q
      rw [G.dom b e] at e'; cases e'
  · refine U.1 _ _ (fun hm => ?_) (N p hp).1
    rcases List.mem_cons.mp hm with q | hm
    · exact (N p hp).2.1 q
    · exact new_off N FG p hp hm
  · cases q : (mask g h₂).get? p.1 with
    | none => rfl
    | some o =>
      obtain ⟨_, o', e'⟩ := of_mask q
      rw [(N p hp).2.2] at e'; cases e'
theorem Gnd.end (G : Gnd g₀ l g) (F : Fr g L h m) : Up (frs l) g₀ h := G.up.trans (.of_stays F.keep)
end
section
variable {prog : Program} {w : World} {A : Around} {E : Value → Shared → Prop} {env : Env} {elt : PySem.Expr} {x : Str} {scope : Scope} {cl : List (Str × Addr)} {Fin : Addr → List Value → Shared → Prop}
  {s₂ : Shared} {g₀ g : Heap} {l : List Env} {L I : Addr} {m : Str → Option Value} {news : List (Addr × Obj)} {fp : List Addr} {n : Nat} {P : Nat → Value → Prop} {St : Nat → Heap → Prop}
theorem blk_up (W : Walks prog w A I fp [I] n P St) (hsz : n ≤ sizeLine) (hst : St 0 s₂.heap) (hI : I < s₂.heap.objs.size) (hIo : ∀ i h, St i h → ∃ o, h.get? I = some o)
    (hfp : ∀ b ∈ fp, b = I ∨ ∃ o, (b, o) ∈ news) (G : Gnd g₀ l g) (F : Fr g L s₂.heap m) (N : News g L s₂.heap news) (hIL : L < I) (off : ∀ p ∈ news, p.1 ≠ I) (Rel : Nat → Value → Prop)
    (turn : ∀ i ys v oI C oC D m₂ g h tk (Q' E' : Value → Shared → Prop), i < n → P i v → LCg.NsObj oC m₂ → m₂ x = some v → @LT.lt Nat _ L C → @LT.lt Nat _ L D → Gnd g₀ l g → Fr g L h m → News g L h ((I, oI) :: (C, oC) :: (D, LCg.lst ys) :: news) →
      (∀ y g' h' tk', Rel i y → Gnd g₀ l g' → Fr g' L h' m → News g' L h' ((I, oI) :: (C, oC) :: (D, LCg.lst ys) :: news) → Q' y { s₂ with heap := h', toks := tk' }) →
      wpAny (model prog w) A (eval elt (compEnvC scope cl C env)) Q' E' { s₂ with heap := h, toks := tk })
    (fin : ∀ D ys g h tk, Told n Rel ys → @LE.le Nat _ s₂.heap.objs.size D → Gnd g₀ l g → Fr g L h m → News g L h ((D, LCg.lst ys) :: news) → (∀ p ∈ news, @LT.lt Nat _ p.1 D) → Fin D ys { s₂ with heap := h, toks := tk }) :
    Blk prog w A env elt x scope cl Fin (.ref I) s₂ := by
  have hL : L < s₂.heap.objs.size := F.ns.lt
  have hg₀ : g₀.objs.size ≤ L := by rw [← G.size]; exact F.above
  have hnl : ∀ p ∈ news, @LT.lt Nat _ p.1 s₂.heap.objs.size := fun p hp => Heap.lt_size (N p hp).1
  have h0l : ∀ (g : Heap), Gnd g₀ l g → ∀ b o, g.get? b = some o → @LT.lt Nat _ b L := fun g G b o e => Nat.lt_of_lt_of_le (Heap.lt_size e) (by rw [G.size]; exact hg₀)
  have fresh : ∀ (g : Heap), Gnd g₀ l g → ∀ b, @LE.le Nat _ L b → g.get? b = none := fun g G b hb => by
    cases e : g.get? b with
    | none => rfl
    | some o => exact absurd (h0l g G b o e) (Nat.not_lt.mpr hb)
  refine ⟨I, fp, n, P, St, fun h => ∃ g, Gnd g₀ l g ∧ Fr g L h m ∧ News g L h news, Rel, rfl, W, hsz, hst, ?_, ⟨g, G, F, N⟩, ?_, ?_, ?_⟩
  · intro b hb
    rcases hfp b hb with rfl | ⟨o, e⟩
    · exact hI
    · exact hnl _ e
  · rintro h h' ⟨g', G', F', N'⟩ k
    refine ⟨g', G', ⟨F'.ns.at' fun o e => k L o (Nat.ne_of_lt hIL) hL e, fun b o e => k b o (fun q => absurd (h0l g' G' b o e) (by rw [q]; exact Nat.not_lt.mpr (Nat.le_of_lt hIL))) (Nat.lt_trans (h0l g' G' b o e) hL) (F'.keep b o e), F'.above⟩, fun p hp => ⟨k _ _ (off p hp) (hnl p hp) (N' p hp).1, (N' p hp).2⟩⟩
  · rintro i ys v h tk m₂ Q' E' hi hys hP hst' ⟨g', G', F', N'⟩ hD hC hx _ hQ
    obtain ⟨oC, heC, hoC⟩ := LCg.ns_obj hC
    obtain ⟨oI, heI⟩ := hIo _ _ hst'
    have hLC : @LT.lt Nat _ L (s₂.heap.objs.size + 1) := Nat.lt_succ_of_lt hL
    refine turn i ys v oI _ oC _ m₂ g' h tk Q' E' hi hP hoC hx hLC hL G' F' (fun p hp => ?_) fun y g'' h' tk' hR G'' F'' N'' => ?_
    · rcases List.mem_cons.mp hp with rfl | hp
      · exact ⟨heI, Ne.symm (Nat.ne_of_lt hIL), fresh g' G' _ (Nat.le_of_lt hIL)⟩
      rcases List.mem_cons.mp hp with rfl | hp
      · exact ⟨heC, Ne.symm (Nat.ne_of_lt hLC), fresh g' G' _ (Nat.le_of_lt hLC)⟩
      rcases List.mem_cons.mp hp with rfl | hp
      · exact ⟨hD, Ne.symm (Nat.ne_of_lt hL), fresh g' G' _ (Nat.le_of_lt hL)⟩
      · exact N' p hp
    · refine hQ y h' tk' hR ⟨g'', G'', F'', fun p hp => N'' p (List.mem_cons_of_mem _ (List.mem_cons_of_mem _ (List.mem_cons_of_mem _ hp)))⟩ ?_
      have one : ∀ b o o', h.get? b = some o → h.get? b = some o' → h'.get? b = some o' → h'.get? b = some o := fun b o o' e e' e'' => by rw [e] at e'; cases e'; exact e''
      rintro b o (hb | rfl | rfl) e
      · rcases hfp b hb with rfl | ⟨o', e'⟩
        · exact one _ _ _ e heI (N'' _ List.mem_cons_self).1
        · exact one _ _ _ e (N' _ e').1 (N'' _ (List.mem_cons_of_mem _ (List.mem_cons_of_mem _ (List.mem_cons_of_mem _ e')))).1
      · exact one _ _ _ e hD (N'' _ (List.mem_cons_of_mem _ (List.mem_cons_of_mem _ List.mem_cons_self))).1
      · exact one _ _ _ e heC (N'' _ (List.mem_cons_of_mem _ List.mem_cons_self)).1
  · rintro ys h tk hys ⟨g', G', F', N'⟩ hD
    exact fin _ ys g' h tk hys (Nat.le_refl _) G' F' (fun p hp => by
      rcases List.mem_cons.mp hp with rfl | hp
      · exact ⟨hD, Ne.symm (Nat.ne_of_lt hL), fresh g' G' _ (Nat.le_of_lt hL)⟩
      · exact N' p hp) hnl
end
section
variable {M : Model} {A : Around} {E : Value → Shared → Prop} {s : Shared}
theorem newEnv_cells {scope : Scope} {globals : Addr} {cl : List (Str × Addr)} {qual : Str} {func : Option Addr} {code : Value} {env : Env} {builtins : Addr} {Q : Env → Shared → Prop}
    (hQ : Q (newEnv scope s.heap.objs.size globals (cellsFrom (s.heap.objs.size + 1) scope.names cl) qual func code (some env) builtins) { s with heap := pushCells (s.heap.push { cls := .type "dict", data := .dict #[] }) scope.names }) :
    wpAny M A (newFunctionEnv scope globals cl [] qual func code (some env) builtins) Q E s := by
  simp only [newFunctionEnv, Option.isSome_some, if_true]
  refine wpAny_bind (wpAny_alloc ?_)
  refine wpAny_bind (wpAny_layCells _ (fun name kind cells => by cases hkc : kind == NameKind.cell <;> simp [hkc]) _ _ _ _ ?_)
  rw [show ({ s with heap := s.heap.push { cls := .type "dict", data := .dict #[] } } : Shared).heap.objs.size = s.heap.objs.size + 1 from Heap.size_push ..]
  refine wpAny_bind ?_
  rw [List.forIn_nil]
  exact wpAny_pure (wpAny_pure hQ)
end
def BlkC (prog : Program) (w : World) (A : Around) (env : Env) (elt : PySem.Expr) (x : Str) (scope : Scope) (cl : List (Str × Addr)) (Fin : Addr → List Value → Shared → Prop) (it : Value) (s₂ : Shared) : Prop :=
  ∃ (I : Addr) (n : Nat) (P : Nat → Value → Prop) (St : Nat → Heap → Prop) (J : List Value → Heap → Prop),
    it = .ref I ∧ Walks prog w A I [I] [I] n P St ∧ n ≤ sizeLine ∧ St 0 s₂.heap ∧ I < s₂.heap.objs.size ∧ J [] s₂.heap ∧
    (∀ ys h h', J ys h → (∀ b o, b ≠ I → b ≠ s₂.heap.objs.size → b ≠ s₂.heap.objs.size + 1 → b ≠ s₂.heap.objs.size + 1 + 1 → h.get? b = some o → h'.get? b = some o) → J ys h') ∧
    (∀ ys v h tk m₂ (Q' E' : Value → Shared → Prop), ys.length < n → P ys.length v → St (ys.length + 1) h → J ys h → h.get? s₂.heap.objs.size = some (LCg.lst ys) → h.Ns (s₂.heap.objs.size + 1) m₂ → h.IsCell (s₂.heap.objs.size + 1 + 1) (some v) →
      (∀ y h' tk', J (ys ++ [y]) h' → (∀ b o, (b = I ∨ b = s₂.heap.objs.size ∨ b = s₂.heap.objs.size + 1 ∨ b = s₂.heap.objs.size + 1 + 1) → h.get? b = some o → h'.get? b = some o) → Q' y { s₂ with heap := h', toks := tk' }) →
      wpAny (model prog w) A (eval elt (compEnvC scope ((x, s₂.heap.objs.size + 1 + 1) :: cl) (s₂.heap.objs.size + 1) env)) Q' E' { s₂ with heap := h, toks := tk }) ∧
    (∀ ys h tk, ys.length = n → J ys h → h.get? s₂.heap.objs.size = some (LCg.lst ys) → Fin s₂.heap.objs.size ys { s₂ with heap := h, toks := tk })
section
variable {prog : Program} {w : World} {A : Around} {E : Value → Shared → Prop} {s : Shared} {env : Env}
theorem ListComp_C {elt iter : PySem.Expr} {x : Str} {px : Pos} {scope : Scope} {cl : List (Str × Addr)} {pos : Pos} {Q : Value → Shared → Prop}
    (hclos : closureFor scope env = pure cl) (hcs : ∀ n, cellsFrom n scope.names cl = (x, n) :: cl) (hpc : ∀ h, pushCells h scope.names = h.push { cls := .type "cell", data := .cell none }) (hkind : scope.kind = .function)
    (hnames : ∀ y ∈ scope.names, y.2 = .local → scope.names.lookup y.1 = some .local) (hx : (relabel scope env).names.lookup x = some .cell)
    (h : wpAny (model prog w) A (eval iter env) (fun xv s₁ => wpAny (model prog w) A (pyIter xv) (BlkC prog w A env elt x scope cl (fun D _ s' => Q (.ref D) s')) E s₁) E s)
    (hs : ∀ x, foldedSetIterable iter env x = pure x := by intro _; rfl) :
    wpAny (model prog w) A (eval (.ListComp elt [⟨.Name x px, iter, [], 0⟩] scope pos) env) Q E s := by
  rw [eval_ListComp]
  refine wpAny_comprehension_free (use := none) rfl hs hclos hkind hnames (wpAny_mono h (fun xv s₁ h₁ => wpAny_mono h₁ (fun it s₂ h₂ => ?_) fun _ _ e => e) fun _ _ e => e)
  obtain ⟨I, n, P, St, J, rfl, W, hsz, hst, hI, hJ, hJs, turn, fin⟩ := h₂
  refine wpAny_newObj_type (newEnv_cells ?_)
  dsimp only
  have hsize : (s₂.heap.push { cls := .type "list", dict := none, data := .seq ([] : List Value).toArray }).objs.size = s₂.heap.objs.size + 1 := Heap.size_push ..
  rw [hsize, hcs, hpc]
  have hsize2 : ((s₂.heap.push { cls := .type "list", dict := none, data := .seq ([] : List Value).toArray }).push { cls := .type "dict", data := .dict #[] }).objs.size = s₂.heap.objs.size + 1 + 1 := by rw [Heap.size_push, hsize]
  generalize hh₁ : (((s₂.heap.push { cls := .type "list", dict := none, data := .seq ([] : List Value).toArray }).push { cls := .type "dict", data := .dict #[] }).push { cls := .type "cell", data := .cell none }) = h₁
  have n1 : s₂.heap.objs.size ≠ s₂.heap.objs.size + 1 := Nat.ne_of_lt (Nat.lt_succ_self _)
  have n2 : s₂.heap.objs.size ≠ s₂.heap.objs.size + 1 + 1 := Nat.ne_of_lt (Nat.lt_succ_of_lt (Nat.lt_succ_self _))
  have n3 : s₂.heap.objs.size + 1 ≠ s₂.heap.objs.size + 1 + 1 := Nat.ne_of_lt (Nat.lt_succ_self _)
  have i1 : I ≠ s₂.heap.objs.size := Nat.ne_of_lt hI
  have i2 : I ≠ s₂.heap.objs.size + 1 := Nat.ne_of_lt (Nat.lt_succ_of_lt hI)
  have i3 : I ≠ s₂.heap.objs.size + 1 + 1 := Nat.ne_of_lt (Nat.lt_succ_of_lt (Nat.lt_succ_of_lt hI))
  have old : ∀ b o, s₂.heap.get? b = some o → h₁.get? b = some o := fun b o e => by
    rw [← hh₁]; exact Heap.get?_push_of_some _ (Heap.get?_push_of_some _ (Heap.get?_push_of_some _ e))
  have hacc : h₁.get? s₂.heap.objs.size = some (LCg.lst []) := by
    rw [← hh₁]; exact Heap.get?_push_of_some _ (Heap.get?_push_of_some _ (Heap.get?_push_size _ rfl))
  have hns₁ : h₁.Ns (s₂.heap.objs.size + 1) (fun _ => none) := by
    have := Heap.Ns.new (s₂.heap.push { cls := .type "list", dict := none, data := .seq ([] : List Value).toArray }) (.type "dict")
    rw [hsize] at this
    rw [← hh₁]; exact this.at' fun o e => Heap.get?_push_of_some _ e
  have hcl₁ : h₁.IsCell (s₂.heap.objs.size + 1 + 1) none := by
    rw [← hh₁, ← hsize2]; exact ⟨_, Heap.get?_push_size _ rfl, rfl⟩
  have hst₁ : St 0 h₁ := W.frame _ _ _ hst fun b _ o e => old b o e
  have hJ₁ : J [] h₁ := hJs _ _ _ hJ fun b o _ _ _ _ e => old b o e
  show codeAny (model prog w) A (.compStart (.ListComp elt [⟨.Name x px, iter, [], 0⟩] scope pos) 0 (.ref I) (.ref s₂.heap.objs.size) (compEnvC scope ((x, s₂.heap.objs.size + 1 + 1) :: cl) (s₂.heap.objs.size + 1) env))
    (compPost (model prog w) A E none Q (.ref s₂.heap.objs.size) (s₂.heap.objs.size + 1)) { s₂ with heap := h₁ }
  have loop : codeAny (model prog w) A (.compLoop (.ListComp elt [⟨.Name x px, iter, [], 0⟩] scope pos) 0 (.ref I) (.ref s₂.heap.objs.size) (compEnvC scope ((x, s₂.heap.objs.size + 1 + 1) :: cl) (s₂.heap.objs.size + 1) env))
        (compPost (model prog w) A E none Q (.ref s₂.heap.objs.size) (s₂.heap.objs.size + 1)) { s₂ with heap := h₁ } := by
    refine codeAny_compLoop_tests
      (fun k s' => ∃ h' tk ys m' v₀, s' = { s₂ with heap := h', toks := tk } ∧ ys.length ≤ n ∧ k = n + 1 - ys.length ∧ St ys.length h' ∧ J ys h' ∧ h'.Ns (s₂.heap.objs.size + 1) m' ∧ h'.IsCell (s₂.heap.objs.size + 1 + 1) v₀ ∧ h'.get? s₂.heap.objs.size = some (LCg.lst ys)) ?_ (n + 1)
      ⟨h₁, _, [], _, _, rfl, Nat.zero_le _, rfl, hst₁, hJ₁, hns₁, hcl₁, hacc⟩
    rintro k s' ⟨h', tk, ys, m', v₀, rfl, hi, rfl, hst', hJ', hn', hc', hD'⟩
    by_cases hlt : ys.length < n
    · refine W.item ys.length _ _ _ hlt hst' fun v h₂ tk₂ hPv hst₂ hk₂ => ?_
      have hk₂' : ∀ b o, b ≠ I → h'.get? b = some o → h₂.get? b = some o := fun b o hb e => hk₂ b o (by simpa using hb) e
      obtain ⟨oc, hoc, hdc⟩ := hc'
      refine wpAny_assign_Name (wpAny_storeName_cell (env := compEnvC scope ((x, s₂.heap.objs.size + 1 + 1) :: cl) (s₂.heap.objs.size + 1) env) (c := s₂.heap.objs.size + 1 + 1) (v₀ := v₀) hkind hx (by simp [compEnvC]) ⟨oc, hk₂' _ oc (Ne.symm i3) hoc, hdc⟩ fun h₃ hc₃ hs₃ => ?_)
      dsimp only at hc₃ hs₃
      refine wpAny_tests_nil ?_
      simp only [if_true]
      have hn₃ : h₃.Ns (s₂.heap.objs.size + 1) m' := (hn'.at' fun o e => hk₂' _ o (Ne.symm i2) e).sameBut hs₃ n3
      have hst₃ : St (ys.length + 1) h₃ := W.frame _ _ _ hst₂ fun b hb o e => hs₃.extBut b o (by rw [List.mem_singleton.mp hb]; exact i3) e
      have hJ₃ : J ys h₃ := hJs _ _ _ hJ' fun b o b0 b1 b2 b3 e => hs₃.extBut b o b3 (hk₂' b o b0 e)
      have hD₃ : h₃.get? s₂.heap.objs.size = some (LCg.lst ys) := hs₃.extBut _ _ n2 (hk₂' _ _ (Ne.symm i1) hD')
      refine turn ys v h₃ _ _ _ _ hlt hPv hst₃ hJ₃ hD₃ hn₃ hc₃ fun y h₄ tk₄ hJ₄ hk₄ => ?_
      have hD₄ := hk₄ _ _ (.inr (.inl rfl)) hD₃
      refine append_at (hsz := by show ys.toArray.size ≤ sizeLine; rw [List.size_toArray]; exact Nat.le_trans hi hsz) hD₄ fun h₅ hs₅ hD₅ => ?_
      have hlen : (ys ++ [y]).length = ys.length + 1 := by simp
      obtain ⟨oc₃, hoc₃, hdc₃⟩ := hc₃
      refine ⟨n + 1 - (ys.length + 1), by omega, h₅, tk₄, ys ++ [y], _, some v, rfl, by rw [hlen]; exact hlt, by rw [hlen], ?_, ?_, (hn₃.at' fun o e => hk₄ _ o (.inr (.inr (.inl rfl))) e).sameBut hs₅ (Ne.symm n1),
        ⟨oc₃, hs₅.extBut _ _ (Ne.symm n2) (hk₄ _ _ (.inr (.inr (.inr rfl))) hoc₃), hdc₃⟩, hD₅.trans (congrArg some (LCg.lst_snoc ys y))⟩
      · rw [hlen]
        exact W.frame _ _ _ hst₃ fun b hb o e => by
          have := List.mem_singleton.mp hb
          exact hs₅.extBut b o (by rw [this]; exact i1) (hk₄ b o (.inl this) e)
      · exact hJs _ _ _ hJ₄ fun b o b0 b1 _ _ e => hs₅.extBut b o b1 e
    · have hn : ys.length = n := Nat.le_antisymm hi (Nat.not_lt.mp hlt)
      rw [hn] at hst'
      refine W.done _ _ _ hst' fun h₂ tk₂ hk₂ => ?_
      have hk₂' : ∀ b o, b ≠ I → h'.get? b = some o → h₂.get? b = some o := fun b o hb e => hk₂ b o (by simpa using hb) e
      refine ⟨m', hn'.at' fun o e => hk₂' _ o (Ne.symm i2) e, fun h'' hs'' => ?_⟩
      refine fin ys h'' tk₂ hn (hJs _ _ _ hJ' fun b o b0 b1 b2 b3 e => hs''.extBut b o b2 (hk₂' b o b0 e)) (hs''.extBut _ _ n1 (hk₂' _ _ (Ne.symm i1) hD'))
  exact codeAny_compStart_list loop (W.self 0 _ _ _ hst₁ loop)
end
section
variable {prog : Program} {w : World} {A : Around} {E : Value → Shared → Prop} {env : Env} {elt : PySem.Expr} {x : Str} {scope : Scope} {cl : List (Str × Addr)} {Fin : Addr → List Value → Shared → Prop}
  {s₁ : Shared} {g₀ g : Heap} {l : List Env} {L : Addr} {m : Str → Option Value} {news : List (Addr × Obj)}
theorem sign_src {text : Str} {tok : Tok} (hh : A.handled = none) (hsz : text.cps.size ≤ 1000) (G : Gnd g₀ l g) (F : Fr g L s₁.heap m) (N : News g L s₁.heap news) (LsOk : List Value → List (Addr × Obj) → Prop) (h0 : LsOk [] [])
    (turn : ∀ ys ls c t I oI cell oc C oC m₂ D g h tk (Q' E' : Value → Shared → Prop), text.cps[ys.length]? = some c → LsOk ys ls → oc.data = .cell (some (.str ⟨#[c]⟩ t)) → LCg.NsObj oC m₂ → Gnd g₀ l g → Fr g L h m →
      News g L h ((I, oI) :: (cell, oc) :: (C, oC) :: (D, LCg.lst ys) :: (ls ++ news)) →
      (∀ y p g' h' tk', LsOk (ys ++ [y]) (p :: ls) → @LE.le Nat _ h.objs.size p.1 → Gnd g₀ l g' → Fr g' L h' m → News g' L h' (p :: (I, oI) :: (cell, oc) :: (C, oC) :: (D, LCg.lst ys) :: (ls ++ news)) → Q' y { s₁ with heap := h', toks := tk' }) →
      wpAny (model prog w) A (eval elt (compEnvC scope ((x, cell) :: cl) C env)) Q' E' { s₁ with heap := h, toks := tk })
    (fin : ∀ D ys ls g h tk, ys.length = text.cps.size → LsOk ys ls → Gnd g₀ l g → Fr g L h m → News g L h ((D, LCg.lst ys) :: (ls ++ news)) → @LT.lt Nat _ L D → (∀ p ∈ ls, @LT.lt Nat _ L p.1) → Fin D ys { s₁ with heap := h, toks := tk }) :
    wpAny (model prog w) A (pyIter (.str text tok)) (BlkC prog w A env elt x scope cl Fin) E s₁ := by
  have hL : L < s₁.heap.objs.size := F.ns.lt
  have hg₀ : g₀.objs.size ≤ L := by rw [← G.size]; exact F.above
  have hnl : ∀ p ∈ news, @LT.lt Nat _ p.1 s₁.heap.objs.size := fun p hp => Heap.lt_size (N p hp).1
  have h0l : ∀ (g : Heap), Gnd g₀ l g → ∀ b o, g.get? b = some o → @LT.lt Nat _ b L := fun g G b o e => Nat.lt_of_lt_of_le (Heap.lt_size e) (by rw [G.size]; exact hg₀)
  have fresh : ∀ (g : Heap), Gnd g₀ l g → ∀ b, @LT.lt Nat _ L b → g.get? b = none := fun g G b hb => by
    cases e : g.get? b with
    | none => rfl
    | some o => exact absurd (h0l g G b o e) (Nat.not_lt.mpr (Nat.le_of_lt hb))
  have lt1 : ∀ b : Nat, b < s₁.heap.objs.size → b ≠ s₁.heap.objs.size ∧ b ≠ s₁.heap.objs.size + 1 ∧ b ≠ s₁.heap.objs.size + 1 + 1 ∧ b ≠ s₁.heap.objs.size + 1 + 1 + 1 := fun b hb => by
    refine ⟨?_, ?_, ?_, ?_⟩ <;> (intro q; rw [q] at hb; exact absurd hb (by omega))
  have gt1 : ∀ b : Nat, s₁.heap.objs.size + 1 + 1 + 1 < b → b ≠ s₁.heap.objs.size ∧ b ≠ s₁.heap.objs.size + 1 ∧ b ≠ s₁.heap.objs.size + 1 + 1 ∧ b ≠ s₁.heap.objs.size + 1 + 1 + 1 := fun b hb => by
    refine ⟨?_, ?_, ?_, ?_⟩ <;> (intro q; rw [q] at hb; exact absurd hb (by omega))
  have a0 : @LT.lt Nat _ L s₁.heap.objs.size := hL
  have a1 : @LT.lt Nat _ L (s₁.heap.objs.size + 1) := Nat.lt_succ_of_lt a0
  have a2 : @LT.lt Nat _ L (s₁.heap.objs.size + 1 + 1) := Nat.lt_succ_of_lt a1
  have a3 : @LT.lt Nat _ L (s₁.heap.objs.size + 1 + 1 + 1) := Nat.lt_succ_of_lt a2
  have go : ∀ (o : Obj) (St : Nat → Heap → Prop), Walks prog w A s₁.heap.objs.size [s₁.heap.objs.size] [s₁.heap.objs.size] text.cps.size (SignAt text) St → (∀ i h, St i h → ∃ o, h.get? s₁.heap.objs.size = some o) → St 0 (s₁.heap.push o) →
      BlkC prog w A env elt x scope cl Fin (.ref s₁.heap.objs.size) { s₁ with heap := s₁.heap.push o } := by
    intro o St W hIo hst
    have hsize : (s₁.heap.push o).objs.size = s₁.heap.objs.size + 1 := Heap.size_push ..
    have up : ∀ b ob, s₁.heap.get? b = some ob → (s₁.heap.push o).get? b = some ob := fun b ob e => Heap.get?_push_of_some _ e
    refine ⟨s₁.heap.objs.size, text.cps.size, SignAt text, St, fun ys h => ∃ g ls, Gnd g₀ l g ∧ Fr g L h m ∧ News g L h (ls ++ news) ∧ LsOk ys ls ∧ ∀ p ∈ ls, @LT.lt Nat _ (s₁.heap.objs.size + 1 + 1 + 1) p.1, rfl, W, Nat.le_trans hsz (by rw [sizeLine_eq]; decide), hst, ?_, ⟨g, [], G, F.keeps up, N.grown up, h0, fun p hp => nomatch hp⟩, ?_, ?_, ?_⟩
    · show s₁.heap.objs.size < (s₁.heap.push o).objs.size
      rw [hsize]; exact Nat.lt_succ_self _
    · dsimp only
      rw [hsize]
      rintro ys h h' ⟨g', ls, G', F', N', hls, hlt⟩ k
      have kb : ∀ b ob, (b ≠ s₁.heap.objs.size ∧ b ≠ s₁.heap.objs.size + 1 ∧ b ≠ s₁.heap.objs.size + 1 + 1 ∧ b ≠ s₁.heap.objs.size + 1 + 1 + 1) → h.get? b = some ob → h'.get? b = some ob := fun b ob q e => k b ob q.1 q.2.1 q.2.2.1 q.2.2.2 e
      refine ⟨g', ls, G', ⟨F'.ns.at' fun ob e => kb L ob (lt1 L hL) e, fun b ob e => kb b ob (lt1 b (Nat.lt_trans (h0l g' G' b ob e) hL)) (F'.keep b ob e), F'.above⟩, fun p hp => ⟨kb _ _ ?_ (N' p hp).1, (N' p hp).2⟩, hls, hlt⟩
      rcases List.mem_append.mp hp with hp | hp
      · exact gt1 _ (hlt p hp)
      · exact lt1 _ (hnl p hp)
    · dsimp only
      rw [hsize]
      rintro ys v h tk m₂ Q' E' hi ⟨c, t, hc, rfl⟩ hst' ⟨g', ls, G', F', N', hls, hlt⟩ hD hC hcell hQ
      obtain ⟨oC, heC, hoC⟩ := LCg.ns_obj hC
      obtain ⟨oI, heI⟩ := hIo _ _ hst'
      obtain ⟨oc, hoc, hdc⟩ := hcell
      refine turn ys ls c t s₁.heap.objs.size oI (s₁.heap.objs.size + 1 + 1 + 1) oc (s₁.heap.objs.size + 1 + 1) oC m₂ (s₁.heap.objs.size + 1) g' h tk Q' E' hc hls hdc hoC G' F' (fun p hp => ?_) fun y p g'' h' tk' hls' hp G'' F'' N'' => ?_
      · rcases List.mem_cons.mp hp with rfl | hp
        · exact ⟨heI, Ne.symm (Nat.ne_of_lt a0), fresh g' G' _ a0⟩
        rcases List.mem_cons.mp hp with rfl | hp
        · exact ⟨hoc, Ne.symm (Nat.ne_of_lt a3), fresh g' G' _ a3⟩
        rcases List.mem_cons.mp hp with rfl | hp
        · exact ⟨heC, Ne.symm (Nat.ne_of_lt a2), fresh g' G' _ a2⟩
        rcases List.mem_cons.mp hp with rfl | hp
        · exact ⟨hD, Ne.symm (Nat.ne_of_lt a1), fresh g' G' _ a1⟩
        · exact N' p hp
      · refine hQ y h' tk' ⟨g'', p :: ls, G'', F'', fun q hq => ?_, hls', fun q hq => ?_⟩ ?_
        · rcases List.mem_cons.mp hq with rfl | hq
          · exact N'' _ List.mem_cons_self
          · exact N'' _ (List.mem_cons_of_mem _ (List.mem_cons_of_mem _ (List.mem_cons_of_mem _ (List.mem_cons_of_mem _ (List.mem_cons_of_mem _ hq)))))
        · rcases List.mem_cons.mp hq with rfl | hq
          · exact Nat.lt_of_lt_of_le (Heap.lt_size hoc) hp
          · exact hlt q hq
        · have one : ∀ b o o', h.get? b = some o → h.get? b = some o' → h'.get? b = some o' → h'.get? b = some o := fun b o o' e e' e'' => by rw [e] at e'; cases e'; exact e''
          rintro b ob (rfl | rfl | rfl | rfl) e
          · exact one _ _ _ e heI (N'' _ (List.mem_cons_of_mem _ List.mem_cons_self)).1
          · exact one _ _ _ e hD (N'' _ (List.mem_cons_of_mem _ (List.mem_cons_of_mem _ (List.mem_cons_of_mem _ (List.mem_cons_of_mem _ List.mem_cons_self))))).1
          · exact one _ _ _ e heC (N'' _ (List.mem_cons_of_mem _ (List.mem_cons_of_mem _ (List.mem_cons_of_mem _ List.mem_cons_self)))).1
          · exact one _ _ _ e hoc (N'' _ (List.mem_cons_of_mem _ (List.mem_cons_of_mem _ List.mem_cons_self))).1
    · dsimp only
      rw [hsize]
      rintro ys h tk hn ⟨g', ls, G', F', N', hls, hlt⟩ hD
      exact fin _ ys ls g' h tk hn hls G' F' (fun p hp => by
        rcases List.mem_cons.mp hp with rfl | hp
        · exact ⟨hD, Ne.symm (Nat.ne_of_lt a1), fresh g' G' _ a1⟩
        · exact N' p hp) a1 fun p hp => Nat.lt_trans a3 (hlt p hp)
  cases ha : text.cps.all (· < 128)
  · exact wpAny_pyIter_wide ha (go _ _ (Walks.strWide hh _ text tok) (fun _ _ ⟨o, ho, _⟩ => ⟨o, ho⟩) ⟨_, Heap.get?_push_size _ rfl, rfl, rfl⟩)
  · exact wpAny_pyIter_ascii ha (go _ _ (Walks.strAscii hh _ text tok) (fun _ _ ⟨o, ho, _⟩ => ⟨o, ho⟩) ⟨_, Heap.get?_push_size _ rfl, rfl, rfl⟩)
end
theorem told_strs {n : Nat} {f : Nat → Str} {ys : List Value} (h : Told n (fun i y => ∃ t, y = Value.str (f i) t) ys) : ∃ tl : List (Str × Tok), ys = strValues tl ∧ tl.map (·.1) = (List.range n).map f := by
  obtain ⟨hl, hv⟩ := h
  induction n generalizing ys with
  | zero =>
    have : ys = [] := List.length_eq_zero_iff.mp hl
    subst this
    exact ⟨[], rfl, rfl⟩
  | succ n ih =>
    have hne : ys ≠ [] := fun q => by rw [q] at hl; simp at hl
    have e := List.dropLast_concat_getLast hne
    have hl' : ys.dropLast.length = n := by simp [hl]
    obtain ⟨tl, h1, h2⟩ := ih hl' fun i y hy => hv i y (by
      rw [← e, List.getElem?_append_left (List.getElem?_eq_some_iff.mp hy).1]; exact hy)
    obtain ⟨t, ht⟩ := hv n (ys.getLast hne) (by
      conv => lhs; rw [← e]
      rw [List.getElem?_append_right (by omega), hl']; simp)
    refine ⟨tl ++ [(f n, t)], ?_, ?_⟩
    · rw [← e, h1, ht]; simp [strValues]
    · rw [List.map_append, h2, List.range_succ, List.map_append]; rfl
def tailsS (whole : Str) : List Str := (List.range (whole.length + 1)).map fun i => Txt.slice whole (some ((whole.length - i : Nat) : Int)) none
def startsS (whole : Str) : List Str := (List.range (whole.length + 1)).map fun i => Txt.slice whole none (some ((whole.length - i : Nat) : Int))
def wrongS (front : Str) (la lb : Nat) : Str := if (Txt.item front 0 == ⟨#[la]⟩) = true then ⟨#[lb]⟩ else ⟨#[la]⟩
def startsF (whole front : Str) (la lb : Nat) : List Str := if (front != Str.ofString "") = true then startsS whole ++ [wrongS front la lb] else startsS whole
theorem tailsS_length (whole : Str) : (tailsS whole).length = whole.length + 1 := by simp [tailsS]
theorem startsS_length (whole : Str) : (startsS whole).length = whole.length + 1 := by simp [startsS]
theorem tailsS_len {whole : Str} {x : Str} (h : x ∈ tailsS whole) : x.length ≤ whole.length := by
  unfold tailsS at h
  obtain ⟨i, _, rfl⟩ := List.mem_map.mp h
  exact Txt.slice_le ..
theorem startsS_len {whole : Str} {x : Str} (h : x ∈ startsS whole) : x.length ≤ whole.length := by
  unfold startsS at h
  obtain ⟨i, _, rfl⟩ := List.mem_map.mp h
  exact Txt.slice_le ..
theorem lt_map {news : List (Addr × Obj)} {D : Addr} (h : ∀ p ∈ news, @LT.lt Nat _ p.1 D) : ∀ a ∈ news.map (·.1), a ≠ D := fun a ha => by
  obtain ⟨p, hp, rfl⟩ := List.mem_map.mp ha
  exact Nat.ne_of_lt (h p hp)
section
variable {prog : Program} {w : World} {A : Around} {E : Value → Shared → Prop} {s : Shared} {h₀ : Heap} {L : Addr} {m : Str → Option Value} {rest : List (Addr × Obj)} {Q : Value → Shared → Prop} {D : Addr} {ys : List Value} {y : Value}
theorem append_K (F : Fr h₀ L s.heap m) (N : News h₀ L s.heap ((D, LCg.lst ys) :: rest)) (off : ∀ a ∈ rest.map (·.1), a ≠ D) (hsz : ys.length ≤ 1000)
    (h : ∀ h', Fr h₀ L h' m → News h₀ L h' ((D, LCg.lst (ys ++ [y])) :: rest) → Q .none { s with heap := h' }) :
    wpAny (model prog w) A (call (.builtin "list.append") [.ref D, y]) Q E s := by
  obtain ⟨hD, hDL, hD0⟩ := N _ List.mem_cons_self
  refine append_at (hsz := by rw [List.size_toArray, sizeLine_eq]; exact Nat.le_trans hsz (by decide)) hD fun h' hs hD' => ?_
  refine h h' ⟨F.ns.sameBut hs (Ne.symm hDL), fun b o e => hs.extBut b o (fun q => by rw [q] at e; have := hD0.symm.trans e; cases this) (F.keep b o e), F.above⟩ fun p hp => ?_
  rcases List.mem_cons.mp hp with rfl | hp
  · exact ⟨hD'.trans (congrArg some (LCg.lst_snoc ys y)), hDL, hD0⟩
  · obtain ⟨a, b, c⟩ := N p (List.mem_cons_of_mem _ hp)
    exact ⟨hs.extBut _ _ (off _ (List.mem_map_of_mem hp)) a, b, c⟩
end
section
variable {prog : Program} {w : World} {A : Around} {E : Value → Shared → Prop} {env : Env} {elt : PySem.Expr} {x : Str} {scope : Scope} {cl : List (Str × Addr)} {Fin : Addr → List Value → Shared → Prop}
  {s₁ : Shared} {g₀ g : Heap} {l : List Env} {L : Addr} {m : Str → Option Value} {news : List (Addr × Obj)}
theorem list_src {ax : Addr} {its : List Value} (hh : A.handled = none) (hm : (ax, LCg.lst its) ∈ news) (hk : its.length ≤ 100) (G : Gnd g₀ l g) (F : Fr g L s₁.heap m) (N : News g L s₁.heap news) (Rel : Nat → Value → Prop)
    (turn : ∀ i ys v I oI C oC D m₂ g h tk (Q' E' : Value → Shared → Prop), its[i]? = some v → LCg.NsObj oC m₂ → m₂ x = some v → Gnd g₀ l g → Fr g L h m → News g L h ((I, oI) :: (C, oC) :: (D, LCg.lst ys) :: news) →
      (∀ y g' h' tk', Rel i y → Gnd g₀ l g' → Fr g' L h' m → News g' L h' ((I, oI) :: (C, oC) :: (D, LCg.lst ys) :: news) → Q' y { s₁ with heap := h', toks := tk' }) →
      wpAny (model prog w) A (eval elt (compEnvC scope cl C env)) Q' E' { s₁ with heap := h, toks := tk })
    (fin : ∀ D ys g h tk, Told its.length Rel ys → @LE.le Nat _ s₁.heap.objs.size D → Gnd g₀ l g → Fr g L h m → News g L h ((D, LCg.lst ys) :: news) → Fin D ys { s₁ with heap := h, toks := tk }) :
    wpAny (model prog w) A (pyIter (.ref ax)) (Blk prog w A env elt x scope cl Fin) E s₁ := by
  have hax := (N _ hm).1
  have hl : s₁.heap.IsList ax its.toArray := ⟨_, hax, rfl, _, rfl⟩
  refine wpAny_pyIter_list hl ?_
  have up : ∀ b o, s₁.heap.get? b = some o → (s₁.heap.push { cls := .type "list_iterator", data := .fields #[.ref ax, .int 0 0] }).get? b = some o := fun b o e => Heap.get?_push_of_some _ e
  have hne : ax ≠ s₁.heap.objs.size := Nat.ne_of_lt (Heap.lt_size hax)
  have hsz : its.toArray.size = its.length := List.size_toArray ..
  have hsize : (s₁.heap.push { cls := .type "list_iterator", data := .fields #[.ref ax, .int 0 0] }).objs.size = s₁.heap.objs.size + 1 := Heap.size_push ..
  refine blk_up (Walks.list hh s₁.heap.objs.size ax hne its.toArray) (by rw [hsz, sizeLine_eq]; exact Nat.le_trans hk (by decide)) ⟨⟨_, Heap.get?_push_size _ rfl, rfl, rfl⟩, hl.at fun o e => up _ o e⟩ ?_ (fun i h st => let ⟨o, ho, _⟩ := st.1; ⟨o, ho⟩) (fun b hb => ?_) G (F.keeps up) (N.grown up) F.ns.lt (fun p hp => Nat.ne_of_lt (Heap.lt_size (N p hp).1)) Rel ?_ ?_
  · show s₁.heap.objs.size < (s₁.heap.push _).objs.size
    rw [hsize]; exact Nat.lt_succ_self _
  · rcases List.mem_cons.mp hb with rfl | hb
    · exact .inl rfl
    · rw [List.mem_singleton.mp hb]; exact .inr ⟨_, hm⟩
  · rintro i ys v oI C oC D m₂ g' h tk Q' E' hi hP hoC hx hLC hLD G' F' N' hQ
    exact turn i ys v _ oI C oC D m₂ g' h tk Q' E' (by simpa using hP) hoC hx G' F' N' hQ
  · intro D ys g' h tk hys hD G' F' N' _
    rw [hsz] at hys
    refine fin D ys g' h tk hys (Nat.le_trans ?_ hD) G' F' N'
    show s₁.heap.objs.size ≤ (s₁.heap.push _).objs.size
    rw [hsize]; exact Nat.le_succ _
end
def RowT (fr mi en : Str) (tails starts : List Str) (c : Nat) (zs : List Value) : Prop :=
  Told starts.length (fun j z => ∃ st t, starts[j]? = some st ∧ z = .int (needF fr mi en tails (st ++ ⟨#[c]⟩) : Int) t) zs
def Rows (fr mi en : Str) (tails starts : List Str) (lets : Array Nat) (ys : List Value) (ls : List (Addr × Obj)) : Prop :=
  ∀ (i : Nat) (y : Value), ys[i]? = some y → ∃ D zs c, y = .ref D ∧ (D, LCg.lst zs) ∈ ls ∧ lets[i]? = some c ∧ RowT fr mi en tails starts c zs
theorem Rows.nil {fr mi en : Str} {tails starts : List Str} {lets : Array Nat} : Rows fr mi en tails starts lets [] [] := fun i y h => by simp at h
theorem Rows.snoc {fr mi en : Str} {tails starts : List Str} {lets : Array Nat} {ys : List Value} {ls : List (Addr × Obj)} {D : Addr} {zs : List Value} {c : Nat} (x : Rows fr mi en tails starts lets ys ls)
    (hc : lets[ys.length]? = some c) (hz : RowT fr mi en tails starts c zs) : Rows fr mi en tails starts lets (ys ++ [.ref D]) ((D, LCg.lst zs) :: ls) := by
  intro i y h
  by_cases hi : i < ys.length
  · rw [List.getElem?_append_left hi] at h
    obtain ⟨D', zs', c', e, hm, hc', hz'⟩ := x i y h
    exact ⟨D', zs', c', e, List.mem_cons_of_mem _ hm, hc', hz'⟩
  · have hlt := (List.getElem?_eq_some_iff.mp h).1
    simp at hlt
    have : i = ys.length := by omega
    subst this
    rw [List.getElem?_append_right (Nat.le_refl _)] at h
    simp at h
    exact ⟨D, zs, c, h.symm, List.mem_cons_self, hc, hz⟩
section
local macro_rules | `(tactic| walk_at "call ref") => `(tactic| ((with_reducible show wpAny _ _ (call (Value.ref 54) _) _ _ _); refine Held.out ?_))
local macro_rules | `(tactic| walk_at "eval ListComp") => `(tactic| (refine Held.out ?_))
local macro_rules | `(tactic| walk_at "exec Assign cons ListComp") => `(tactic| (refine Held.out ?_))
local macro_rules | `(tactic| walk_at "pyIter str") => `(tactic| (refine Held.out ?_))
local macro_rules | `(tactic| walk_at "pyIter ref") => `(tactic| (refine Held.out ?_))
local macro_rules | `(tactic| walk_at "call builtin:list.append") => `(tactic| (refine Held.out ?_))
theorem news_turn {g h : Heap} {L : Addr} {a b c d : Addr × Obj} {ls rest : List (Addr × Obj)} (N : News g L h (a :: b :: c :: d :: (ls ++ rest))) : News g L h (a :: b :: c :: d :: (rest ++ ls)) := fun p hp => N p (by
  simp only [List.mem_cons, List.mem_append] at hp ⊢
  rcases hp with h | h | h | h | h | h
  · exact .inl h
  · exact .inr (.inl h)
  · exact .inr (.inr (.inl h))
  · exact .inr (.inr (.inr (.inl h)))
  · exact .inr (.inr (.inr (.inr (.inr h))))
  · exact .inr (.inr (.inr (.inr (.inl h)))))
theorem news_turn_back {g h : Heap} {L : Addr} {x a b c d : Addr × Obj} {ls rest : List (Addr × Obj)} (N : News g L h (x :: a :: b :: c :: d :: (rest ++ ls))) : News g L h (x :: a :: b :: c :: d :: (ls ++ rest)) := fun p hp => N p (by
  simp only [List.mem_cons, List.mem_append] at hp ⊢
  rcases hp with h | h | h | h | h | h | h
  · exact .inl h
  · exact .inr (.inl h)
  · exact .inr (.inr (.inl h))
  · exact .inr (.inr (.inr (.inl h)))
  · exact .inr (.inr (.inr (.inr (.inl h))))
  · exact .inr (.inr (.inr (.inr (.inr (.inr h)))))
  · exact .inr (.inr (.inr (.inr (.inr (.inl h))))))
theorem startsF_len {whole front x : Str} {la lb : Nat} (hw : whole.length ≤ 10) (h : x ∈ startsF whole front la lb) : x.length ≤ 10 := by
  unfold startsF at h
  split at h
  · rcases List.mem_append.mp h with h | h
    · exact Nat.le_trans (startsS_len h) hw
    · rw [List.mem_singleton.mp h]
      unfold wrongS
      split <;> exact (by decide : 1 ≤ 10)
  · exact Nat.le_trans (startsS_len h) hw
theorem startsF_num {whole front : Str} {la lb : Nat} (hw : whole.length ≤ 10) : (startsF whole front la lb).length ≤ 100 := by
  unfold startsF
  split
  · rw [List.length_append, startsS_length, List.length_singleton]; omega
  · rw [startsS_length]; omega
theorem mk_starts {P : List Value → Prop} {sl : List (Str × Tok)} {x : Str} {t : Tok} {S : List Str} (h : P (strValues sl ++ [Value.str x t])) (e : sl.map (fun p => p.1) ++ [x] = S) : ∃ sl', P (strValues sl') ∧ List.map (fun p => p.1) sl' = S :=
  ⟨sl ++ [(x, t)], by have : strValues (sl ++ [(x, t)]) = strValues sl ++ [Value.str x t] := by simp [strValues]
                      rw [this]; exact h, by rw [List.map_append]; exact e⟩
theorem item_0 (la lb : Nat) : Txt.item ⟨#[la, lb]⟩ 0 = ⟨#[la]⟩ := rfl
theorem item_1 (la lb : Nat) : Txt.item ⟨#[la, lb]⟩ 1 = ⟨#[lb]⟩ := rfl
theorem starts_wrong1 {whole front : Str} {la lb : Nat} (hf : (front != Str.ofString "") = true) (h : (Txt.item front 0 == Txt.item ⟨#[la, lb]⟩ 0) = true) :
    startsS whole ++ [Txt.item ⟨#[la, lb]⟩ 1] = startsF whole front la lb := by
  rw [item_0] at h
  unfold startsF wrongS
  rw [if_pos hf, if_pos h, item_1]
theorem starts_wrong0 {whole front : Str} {la lb : Nat} (hf : (front != Str.ofString "") = true) (h : (Txt.item front 0 == Txt.item ⟨#[la, lb]⟩ 0) = false) :
    startsS whole ++ [Txt.item ⟨#[la, lb]⟩ 0] = startsF whole front la lb := by
  rw [item_0] at h
  unfold startsF wrongS
  rw [if_pos hf, if_neg (by rw [h]; exact Bool.false_ne_true), item_0]
theorem steps_ok (w : World) (mean : ExcName → Option Value) (mg mb : Str → Option Value) (s : Shared) (want whole front fr mi en : Str) (la lb : Nat) (t1 t2 t3 t4 : Tok) (hwl : whole.length ≤ 10)
   (hsp : Txt.split want (Str.ofString "...") = [fr, mi, en]) (hin : (Builtin.Str.occurrences want (Str.ofString "...") 0 want.length 1).isEmpty = false)
   (hsz : want.length + 2 ≤ sizeLine) (hf1 : fr.length ≤ 100) (hm1 : mi.length ≤ 100) (he1 : en.length ≤ 100)
   (dp un : Nat) (gd : Option (List Code)) (cn : Str) (cs : Scope) (L a : Addr) (ccd : Value) (cl : List (Str × Addr)) (outer : List Env) (Q E : Value → Shared → Prop) (base : Heap)
   (XB : (hd.heap_39 w.params).In base) (TB : Top hd.view_39 (looseW hd.view_39 []) mean mg mb base) (SB : base.StaysIn s.heap) (FF : s.heap.FunFrames base (envX cn cs L a ccd cl :: outer)) (hdp : dp + 6 < recursionLimit) (hun : un + 80 < cLine)
   (hret : ∀ D ys ls h' tk', ys.length = 2 → Rows fr mi en (tailsS whole) (startsF whole front la lb) #[la, lb] ys ls → Up (frs (envX cn cs L a ccd cl :: outer)) s.heap h' →
     (∀ p ∈ (D, LCg.lst ys) :: ls, h'.get? p.1 = some p.2 ∧ @LE.le Nat _ s.heap.objs.size p.1) → Q (.ref D) { s with heap := h', toks := tk' }) :
   wpAny (model PySem.Challenge.rw_pg0064_01.row.prog w) (ktrTop dp un gd cn cs L a ccd cl outer) (call (.ref 59) [.str want t1, .str whole t2, .str ⟨#[la, lb]⟩ t3, .str front t4]) Q E s := by
  w_top off
  have X := XB.keeps SB
  have T := TB.keeps SB
  refine wpAny_call ?_
  k_dflt (refine' enterSC ?k3 ?k5 ?k6 ?k7 ?k8 ?k9 ?kB ?kD ?_ ?c2 ?c3 ?c4; (case k3 => exact X); (case k5 => exact T); (case k6 => k_is); (case k7 => k_is); (case k8 => ktr_room); (case k9 => exact BindsTo.of_eq rfl); (case kB => exact rfl); (case kD => decide +kernel); (case c2 => exact rfl); (case c3 => exact rfl); (case c4 => exact rfl); k_whole)
  intro L' h' tk' cells' hL' F' N' Y'
  k_cells Y'
  try dsimp only
  k_steps
  refine Held.mk ?_
  refine wpAny_Assign_Name ?_ (by with_unfolding_all rfl)
  refine ListComp_B (by with_unfolding_all rfl) (by decide) (by rfl) (by decide) (by rfl) ?_
  k_steps
  refine Held.mk ?_
  refine down_src (k := whole.length) rfl (by assumption) (by omega) (by assumption) (by assumption) (fun i y => ∃ t, y = .str (Txt.slice whole (some ((whole.length - i : Nat) : Int)) none) t) ?turn ?fin
  case turn =>
    intro i ys t oI C oC D m₂ h₁ tk₁ Q' E' hi hoC hx hLC hLD F₁ N₁ hQ
    k_steps
    exact hQ _ _ _ ⟨_, rfl⟩ (by k_asm) (by k_asm)
  intro D1 ys1 h1 tk1 hys1 hLD1 F1 N1 hlt1
  obtain ⟨tl, rfl, htl⟩ := told_strs hys1
  change (List.map (fun x => x.fst) tl) = tailsS whole at htl
  clear hys1
  have htlq : ∀ p ∈ tl, p.1.length ≤ 20 := fun p hp => by
    have : p.1 ∈ tailsS whole := htl ▸ List.mem_map_of_mem hp
    have := tailsS_len this
    omega
  have htln : tl.length ≤ 20 := by
    have := congrArg List.length htl
    rw [List.length_map, tailsS_length] at this
    omega
  k_steps
  refine Held.mk ?_
  refine wpAny_Assign_Name ?_ (by with_unfolding_all rfl)
  refine ListComp_B (by with_unfolding_all rfl) (by decide) (by rfl) (by decide) (by rfl) ?_
  k_steps
  refine Held.mk ?_
  refine down_src (k := whole.length) rfl (by assumption) (by omega) (by assumption) (by assumption) (fun i y => ∃ t, y = .str (Txt.slice whole none (some ((whole.length - i : Nat) : Int))) t) ?turn2 ?fin2
  case turn2 =>
    intro i ys t oI C oC D m₂ h₁ tk₁ Q' E' hi hoC hx hLC hLD F₁ N₁ hQ
    k_steps
    exact hQ _ _ _ ⟨_, rfl⟩ (by k_asm) (by k_asm)
  intro D2 ys2 h2 tk2 hys2 hLD2 F2 N2 hlt2
  obtain ⟨sl, rfl, hsl⟩ := told_strs hys2
  change (List.map (fun x => x.fst) sl) = startsS whole at hsl
  clear hys2
  have hsl1000 : (strValues sl).length ≤ 1000 := by
    have := congrArg List.length hsl
    rw [List.length_map, startsS_length] at this
    rw [strValues_length]; omega
  k_steps
  refine append_K (by k_asm) (by k_asm) (by simpa using lt_map hlt2) hsl1000 ?_
  intro h3 F3 N3
  obtain ⟨sl', N4, hsl'⟩ := mk_starts (P := fun l => News s.heap L' h3 ((D2, LCg.lst l) :: _)) N3 (hsl ▸ starts_wrong1 ‹(front != Str.ofString "") = true› (by assumption))
  clear N3
  k_steps
  rotate_left 1
  refine append_K (by k_asm) (by k_asm) (by simpa using lt_map hlt2) hsl1000 ?_
  intro h3 F3 N3
  obtain ⟨sl', N4, hsl'⟩ := mk_starts (P := fun l => News s.heap L' h3 ((D2, LCg.lst l) :: _)) N3 (hsl ▸ starts_wrong0 ‹(front != Str.ofString "") = true› (by assumption))
  clear N3
  k_steps
  rotate_left 1
  obtain ⟨sl', rfl, hsl'⟩ : ∃ sl', sl' = sl ∧ List.map (fun x => x.fst) sl' = startsF whole front la lb :=
    ⟨sl, rfl, by simp only [hsl, startsF, if_neg (show ¬ (front != Str.ofString "") = true by rw [‹(front != Str.ofString "") = false›]; exact Bool.false_ne_true)]⟩
  rotate_left 1
  all_goals (
    refine Held.mk ?_
    try dsimp only
    refine ListComp_C (by with_unfolding_all rfl) (by intro n; rfl) (by intro h; rfl) (by rfl) (by decide) (by rfl) ?_
    k_steps
    refine Held.mk ?_
    refine sign_src (g₀ := s.heap) (l := envX cn cs L a ccd cl :: outer) rfl (by simp) (Gnd.refl _ _) (by k_asm) (by k_asm) (Rows fr mi en (tailsS whole) (startsF whole front la lb) #[la, lb]) Rows.nil ?t3 ?f3
    case f3 =>
      intro D ys ls g h tk hlen hls G F N hLD hlsL
      refine hret D ys ls h tk hlen hls (G.end F) fun p hp => ?_
      rcases List.mem_cons.mp hp with rfl | hp
      · exact ⟨(N _ List.mem_cons_self).1, hL' ▸ Nat.le_of_lt hLD⟩
      · exact ⟨(N _ (List.mem_cons_of_mem _ (List.mem_append_left _ hp))).1, hL' ▸ Nat.le_of_lt (hlsL p hp)⟩
    case t3 =>
      intro ys ls c t I oI cell oc C oC m₂ D g h tk Q' E' hc hls hdc hoC G F N hQ
      try dsimp only
      have XG := XB.keeps (G.ground FF SB)
      have TG := TB.keeps (G.ground FF SB)
      have N2 := news_turn N
      clear N
      dsimp only [List.cons_append, List.nil_append, List.append_eq] at N2
      refine ListComp_B (by with_unfolding_all rfl) (by decide) (by rfl) (by decide) (by rfl) ?_
      k_steps
      refine Held.mk ?_
      have hsll : sl'.length ≤ 100 := by
        rw [← List.length_map (f := fun x : Str × Tok => x.1) (as := sl'), hsl']
        exact startsF_num hwl
      refine list_src (g₀ := s.heap) (l := envX cn cs L a ccd cl :: outer) (its := strValues sl') rfl (by exact List.mem_cons_of_mem _ (List.mem_cons_of_mem _ (List.mem_cons_of_mem _ (List.mem_cons_of_mem _ List.mem_cons_self)))) (by rw [strValues_length]; exact hsll) G F N2
        (fun j z => ∃ st t, (startsF whole front la lb)[j]? = some st ∧ z = .int (needF fr mi en (tailsS whole) (st ++ ⟨#[c]⟩) : Int) t) ?t4 ?f4
      case t4 =>
        intro i ys v I oI C oC D m₂ g h tk Q' E' hv hoC hx G F N hQ
        try dsimp only
        have XG := XB.keeps (G.ground FF SB)
        have TG := TB.keeps (G.ground FF SB)
        obtain ⟨q, hq, rfl⟩ : ∃ q, sl'[i]? = some q ∧ v = .str q.1 q.2 := by
          simp only [strValues, List.getElem?_map] at hv
          cases e : sl'[i]? with
          | none => rw [e] at hv; cases hv
          | some b => rw [e] at hv; exact ⟨b, rfl, (Option.some.inj hv).symm⟩
        have hqs : (startsF whole front la lb)[i]? = some q.1 := by rw [← hsl', List.getElem?_map, hq]; rfl
        have hql : q.1.length ≤ 10 := startsF_len hwl (List.mem_of_getElem? hqs)
        have hcl : (⟨#[c]⟩ : Str).length = 1 := rfl
        k_steps
        refine Held.mk ?_
        rename_i t5 h1 tk1 F1 N1
        have hL1 : h1.IsList D1 (strValues tl).toArray := ⟨_, (N1 (D1, LCg.lst (strValues tl)) (by k_mem)).1, rfl, _, rfl⟩
        have SBh : base.StaysIn h1 := fun b o e => F1.keep b o (G.ground FF SB b o e)
        k_dflt (refine' need_ok w mean mg mb { s with heap := h1, toks := tk1 } want (q.1 ++ ⟨#[c]⟩) fr mi en D1 tl t1 t5 hsp hin hsz hf1 hm1 he1 (by rw [Str.length_append]; omega) hL1 htlq htln _ _ _ _ _ _ _ _ _ _ _ _ base XB TB SBh ?ff ?r ?u ?_; (case r => ktr_room); (case u => ktr_units); (case ff => exact frames_here F1 (G.frames FF) (G.ground FF SB) rfl rfl))
        intro t6 h6 tk6 U
        obtain ⟨g6, G6, F6, N6⟩ := G.again FF F1 N1 U
        rw [htl]
        exact hQ _ g6 h6 tk6 ⟨q.1, t6, hqs, rfl⟩ G6 F6 N6
      case f4 =>
        intro D' zs g' h' tk' hzs hD' G' F' N'
        refine hQ (.ref D') (D', LCg.lst zs) g' h' tk' (Rows.snoc hls hc ?_) hD' G' F' (news_turn_back N')
        unfold RowT
        rw [← hsl', List.length_map, ← strValues_length, hsl']
        exact hzs)
end
section
local macro_rules | `(tactic| walk_at "exec For Name Name cons nil") => `(tactic| ((with_reducible show wpAny _ _ (exec (Stmt.For _ _ _ _ _) _) _ _ _); refine Held.out ?_))
local macro_rules | `(tactic| walk_at "exec While") => `(tactic| ((with_reducible show wpAny _ _ (exec (Stmt.While _ _ _ _) _) _ _ _); refine Held.out ?_))
local macro_rules | `(tactic| walk_at "subscriptTail Name Name ref int") => `(tactic| ((with_reducible show wpAny _ _ (subscriptTail _ _ (Value.ref _) (Value.int (Nat.cast _) _)) _ _ _); (refine' baseItem_K ?k1 ?k2 ?k3 ?k4 ?k5 ?_; (case k1 => k_asm); (case k2 => assumption); (case k3 => omega); (case k4 => omega); (case k5 => assumption))))
local macro_rules | `(tactic| walk_at "call builtin:len") => `(tactic| ((with_reducible show wpAny _ _ (call (Value.builtin "len") [Value.ref _]) _ _ _); (refine' lenStrs_K ?k1 ?k2 ?k3 ?_; (case k1 => k_asm); (case k2 => assumption); (case k3 => omega)); intro t' tk'; (try dsimp only)))
local macro_rules | `(tactic| walk_at "subscriptTail Name Slice ref ref") => `(tactic| (k_dflt (refine' sliceStrs_K ?k1 ?k2 ?k3 ?k4 ?k5 ?_ ?k6 ?k7; (case k1 => k_asm); (case k2 => k_asm); (case k3 => assumption); (case k4 => assumption); (case k5 => omega); (case k6 => with_unfolding_all rfl); (case k7 => (intro _; with_unfolding_all rfl))); intro D' h' F' N' l1; (try k_lt l1); (try k_sweep)))
local macro_rules | `(tactic| walk_at "call builtin:str.join") => `(tactic| ((first
  | (refine' joinBase_K ?k1 ?k2 ?k3 ?_; (case k1 => k_asm); (case k2 => assumption); (case k3 => assumption))
  | (refine' joinNews_K ?k1 ?k2 ?k3 ?_; (case k1 => k_asm); (case k2 => k_mem); (case k3 => solve_by_elim))); intro t' tk'; (try dsimp only)))
local macro_rules | `(tactic| walk_at "inplaceOp Add str str") => `(tactic| ((with_reducible show wpAny _ _ (inplaceOp Operator.Add (Value.str _ _) (Value.str _ _)) _ _ _); refine PyProof.Rows.iadd_str ?_ (by assumption); intro _ _))
local macro_rules | `(tactic| walk_at "m map_ext") => `(tactic| (funext z; first
  | rfl
  | (by_cases h1 : z = Str.ofString "part"
     · subst h1; rfl
     · by_cases h2 : z = Str.ofString "spot"
       · subst h2; rfl
       · by_cases h3 : z = Str.ofString "sign"
         · subst h3; rfl
         · simp only [stMap, if_neg h1, if_neg h2, if_neg h3])))
local macro_rules | `(tactic| walk_at "m sub_mem") => `(tactic| first | exact fun p hp => hp | exact List.forall_mem_nil _ | (refine List.forall_mem_cons.mpr ⟨?_, ?_⟩ <;> first | k_mem | walk_at "m sub_mem"))
def LeftW (p : Str) (k : Nat) (front Q : Str) (m : Str → Option Value) (n : Nat) (m₁ : Str → Option Value) : Prop :=
  ∃ q' tq', m₁ = (fun z => if z = Str.ofString "part" then some (.str q' tq') else m z) ∧ q'.length = n ∧ n ≤ Q.length ∧ shrS p n q' = shrS p Q.length Q ∧ (k = 0 ∧ front ≠ Str.ofString "" → q' = Q)
theorem left_ok (w : World) (mean : ExcName → Option Value) (mg mb : Str → Option Value) (s : Shared) (front en text : Str) (pa : Addr) (l : List (Str × Tok)) (t1 t2 t3 : Tok)
   (hl : s.heap.IsList pa (strValues l).toArray) (hlen : 1 ≤ l.length) (hlen3 : l.length ≤ 3)
   (htext : text.length ≤ 10) (hjn : ∀ k, JoinOk (Str.ofString "") ((l.drop k).map (·.1)) = true) (hjl : ∀ k, (Txt.join (Str.ofString "") ((l.drop k).map (·.1))).length ≤ 100) (hjl0 : (Txt.join (Str.ofString "") (l.map (·.1))).length ≤ 100) (hj0 : JoinOk (Str.ofString "") (l.map (·.1)) = true) :
  Ctr 2 20 w mean mg mb 66 s [.ref pa, .str front t1, .str en t2, .str text t3] (fun Q => ∀ t h' tk', s.heap.StaysIn h' → Q (.int (leftW (l.map (·.1)) front en text) t) {s with heap := h', toks := tk'}) := by
  unfold Ctr; k_fill; w_top off; intros; rename_i hret
  refine wpAny_call ?_
  k_dflt walk_at "m enter_S"
  k_steps
  refine Held.mk ?_
  refine for_textM (text := text) (tok := t3) (LeftJ (l.map (·.1)) front en text) rfl ?hi rfl rfl (by k_asm) (by k_asm) ?h0 ?step ?done
  case hi => intro Q' hQ'; k_dflt (refine' ld ?k1 ?k2 ?_; (case k1 => k_asm); (case k2 => exact rfl); exact hQ')
  case h0 => exact ⟨_, 0, _, _, _, by walk_at "m map_ext", by simp, Nat.zero_le _, Nat.le_refl _⟩
  case step =>
    rintro i c t m₁ h₁ tk₁ I oI hc ⟨u, k, tk, q, tq, rfl, hrd, hk, hq⟩ F₁ N₁ hlt
    have hi10 : i < text.length := (Array.getElem?_eq_some_iff.mp hc).1
    by_cases hkl : k < l.length
    · have hql : q.length + (⟨#[c]⟩ : Str).length ≤ sizeLine := by
        show q.length + 1 ≤ sizeLine
        rw [sizeLine_eq]; omega
      have hpk : (strValues l)[((k : Int)).toNat]? = some (.str l[k].1 l[k].2) := by simp [strValues, hkl]
      have hps : (l.map (·.1))[k]? = some l[k].1 := by simp [hkl]
      k_steps
      refine Held.mk ?_
      refine while_M (LeftW l[k].1 k front (q ++ ⟨#[c]⟩)) (q ++ ⟨#[c]⟩).length (by k_asm) (by k_asm) ?w0 ?wt
      case w0 => exact ⟨_, _, by walk_at "m map_ext", rfl, Nat.le_refl _, rfl, fun _ => rfl⟩
      case wt =>
        rintro n m₂ h₂ tk₂ ⟨q', tq', rfl, hq1, hqn, hq2, hq3⟩ F₂ N₂
        have hQl : (q ++ (⟨#[c]⟩ : Str)).length = q.length + 1 := by rw [Str.length_append]; rfl
        have hq11 : q'.length ≤ 100 := by omega
        k_steps
        · have hr := rstep_some (en := en) hps ‹Txt.startswith l[k].1 q' = true› hq2 hq3
          have ha : adv (l.map (·.1)).length en l[k].1 k q' = (k + 1, Str.ofString "") := by
            unfold adv; rw [if_pos ⟨beq_iff_eq.mp ‹(q' == l[k].1) = true›, Or.inl (by simp only [List.length_map]; omega)⟩]
          refine stepPost_next (by k_asm) (by k_asm) (by walk_at "m sub_mem") ⟨_, k + 1, _, Str.ofString "", _, by walk_at "m map_ext", ?_, by simp only [List.length_map]; omega, by simp [len_emptyS]⟩
          rw [← hrd, readT_cons hc hr, ha]
        · have hr := rstep_some (en := en) hps ‹Txt.startswith l[k].1 q' = true› hq2 hq3
          have ha : adv (l.map (·.1)).length en l[k].1 k q' = (k + 1, Str.ofString "") := by
            unfold adv; rw [if_pos ⟨beq_iff_eq.mp ‹(q' == l[k].1) = true›, Or.inr (beq_iff_eq.mp ‹(en == Str.ofString "") = true›)⟩]
          refine stepPost_next (by k_asm) (by k_asm) (by walk_at "m sub_mem") ⟨_, k + 1, _, Str.ofString "", _, by walk_at "m map_ext", ?_, by simp only [List.length_map]; omega, by simp [len_emptyS]⟩
          rw [← hrd, readT_cons hc hr, ha]
        · have hr := rstep_some (en := en) hps ‹Txt.startswith l[k].1 q' = true› hq2 hq3
          have ha : adv (l.map (·.1)).length en l[k].1 k q' = (k, q') := by
            unfold adv
            rw [if_neg]
            rintro ⟨_, h | h⟩
            · simp only [List.length_map] at h; omega
            · have h' := ‹(en == Str.ofString "") = false›
              rw [h] at h'; simp at h'
          refine stepPost_next (by k_asm) (by k_asm) (by walk_at "m sub_mem") ⟨_, k, _, q', _, by walk_at "m map_ext", ?_, by simp only [List.length_map]; omega, by omega⟩
          rw [← hrd, readT_cons hc hr, ha]
        · have hr := rstep_some (en := en) hps ‹Txt.startswith l[k].1 q' = true› hq2 hq3
          have ha : adv (l.map (·.1)).length en l[k].1 k q' = (k, q') := by
            unfold adv
            rw [if_neg]
            rintro ⟨h, _⟩
            have h' := ‹(q' == l[k].1) = false›
            rw [h] at h'; simp at h'
          refine stepPost_next (by k_asm) (by k_asm) (by walk_at "m sub_mem") ⟨_, k, _, q', _, by walk_at "m map_ext", ?_, by simp only [List.length_map]; omega, by omega⟩
          rw [← hrd, readT_cons hc hr, ha]
        · dsimp only [WPost, StepPost, QR]
          k_steps
          refine retI hret (by k_asm) ?_
          have hk0 : k = 0 := by omega
          have hf : front ≠ Str.ofString "" := by
            have h' := ‹(front != Str.ofString "") = true›
            intro e; rw [e] at h'; simp at h'
          have e1 := hq3 ⟨hk0, hf⟩
          have hr := rstep_none (en := en) hps hk0 hf (e1 ▸ ‹Txt.startswith l[k].1 q' = false›)
          have : readT (l.map (·.1)) front en text.cps.toList 0 (Str.ofString "") = none := by
            rw [← hrd, readT_lost hc hr]
          simp only [leftW, this]
        · have hnz : q'.length ≠ 0 := fun h => by
            have h' := ‹Txt.startswith l[k].1 q' = false›
            rw [startswith_nil h] at h'; cases h'
          have ht := tail1_length q'
          refine wPost_next (k' := n - 1) (by k_asm) (by k_asm) (by walk_at "m sub_mem") (by omega) ⟨tail1 q', _, by walk_at "m map_ext", by omega, by omega, ?_, fun h => ?_⟩
          · rw [← hq2]
            obtain ⟨j, rfl⟩ : ∃ j, n = j + 1 := ⟨n - 1, by omega⟩
            simp only [shrS, if_neg (show ¬ Txt.startswith l[k].1 q' = true by rw [‹Txt.startswith l[k].1 q' = false›]; exact Bool.false_ne_true)]
            rfl
          · exfalso
            have h' := ‹(front != Str.ofString "") = false›
            exact h.2 (by simpa using h')
        · have hnz : q'.length ≠ 0 := fun h => by
            have h' := ‹Txt.startswith l[k].1 q' = false›
            rw [startswith_nil h] at h'; cases h'
          have ht := tail1_length q'
          refine wPost_next (k' := n - 1) (by k_asm) (by k_asm) (by walk_at "m sub_mem") (by omega) ⟨tail1 q', _, by walk_at "m map_ext", by omega, by omega, ?_, fun h => ?_⟩
          · rw [← hq2]
            obtain ⟨j, rfl⟩ : ∃ j, n = j + 1 := ⟨n - 1, by omega⟩
            simp only [shrS, if_neg (show ¬ Txt.startswith l[k].1 q' = true by rw [‹Txt.startswith l[k].1 q' = false›]; exact Bool.false_ne_true)]
            rfl
          · omega
    · k_steps
      have hr : rstep (l.map (·.1)) front en k q c = some (k, q) := by
        unfold rstep
        rw [List.getElem?_eq_none (by simp only [List.length_map]; omega)]
      refine stepPost_next (by k_asm) (by k_asm) (by walk_at "m sub_mem") ⟨_, k, _, q, _, by walk_at "m map_ext", ?_, hk, by omega⟩
      rw [← hrd, readT_cons hc hr]
  case done =>
    rintro m₁ h₁ tk₁ ⟨u, k, tk, q, tq, rfl, hrd, hk, hq⟩ F₁ N₁
    have hk' : k ≤ l.length := by simpa using hk
    have hjk := hjl k
    have hq10 : q.length ≤ 10 := Nat.le_trans hq htext
    k_steps
    refine retI hret (by k_asm) ?_
    have : readT (l.map (·.1)) front en text.cps.toList 0 (Str.ofString "") = some (k, q) := by
      rw [← hrd, List.drop_eq_nil_of_le (by simp)]; rfl
    simp only [leftW, this, List.map_drop]
end
section
open PySem.Builtin PySem.Builtin.Str
theorem len_toList (x : Str) : x.cps.toList.length = x.length := by simp [Str.length]
theorem at_iff (x y : Str) (hi i : Nat) (hh : hi ≤ x.length) : StrLaws.At x y hi i ↔ ∃ a b c, x.cps.toList = a ++ y.cps.toList ++ b ++ c ∧ a.length = i ∧ c.length = x.length - hi := by
  unfold StrLaws.At
  rw [StrLaws.subAt_eq, beq_iff_eq]
  have hx := len_toList x
  have hy := len_toList y
  constructor
  · rintro ⟨h1, h2⟩
    refine ⟨x.cps.toList.take i, (x.cps.toList.drop (i + y.length)).take (hi - (i + y.length)), x.cps.toList.drop hi, ?_, by rw [List.length_take]; omega, by rw [List.length_drop]; omega⟩
    rw [← h2]
    have e1 : x.cps.toList.drop (i + y.length) = (x.cps.toList.drop i).drop y.length := by rw [List.drop_drop]
    have e2 : x.cps.toList.drop hi = (x.cps.toList.drop (i + y.length)).drop (hi - (i + y.length)) := by rw [List.drop_drop]; congr 1; omega
    rw [List.append_assoc, e2, List.take_append_drop, List.append_assoc, e1, List.take_append_drop, List.take_append_drop]
  · rintro ⟨a, b, c, e, ha, hc⟩
    have hl := congrArg List.length e
    simp only [List.length_append] at hl
    refine ⟨by omega, ?_⟩
    rw [e, ← ha, List.append_assoc, List.append_assoc, List.drop_left, ← hy, List.take_left]
theorem findIn_spec (x y : Str) (lo hi : Nat) (hh : hi ≤ x.length) (hl : lo ≤ hi) :
    (findIn x y (lo : Int) (hi : Int) = -1 ∧ ∀ i, lo ≤ i → ¬ StrLaws.At x y hi i) ∨
    ∃ i : Nat, findIn x y (lo : Int) (hi : Int) = (i : Int) ∧ lo ≤ i ∧ StrLaws.At x y hi i := by
  have e1 : fromIndex x.length (lo : Int) = lo := by unfold fromIndex; rw [if_neg (by omega)]; omega
  have e2 : min (fromIndex x.length (hi : Int)) x.length = hi := by
    have : fromIndex x.length (hi : Int) = hi := by unfold fromIndex; rw [if_neg (by omega)]; omega
    rw [this]; omega
  unfold findIn
  rw [e1, e2, StrLaws.occ_eq]
  rcases StrLaws.occ_first x y hi 1 (Nat.le_refl 1) (List.range' lo (hi + 1 - lo)) lo (fun i hi => by have := List.mem_range'_1.mp hi; omega) with ⟨h0, hn⟩ | ⟨pre, a, post, e, h0, ha, hn⟩
  · refine .inl ⟨by rw [h0], fun i hlo hi' => ?_⟩
    exact hn i (by have := hi'.1; rw [List.mem_range'_1]; omega) hi'
  · have hs := StrLaws.range'_split_from e
    refine .inr ⟨a, ?_, hs.1, ha⟩
    generalize (forIn (List.range' lo (hi + 1 - lo)) ((#[] : Array Nat), lo) (StrLaws.occBody x y hi 1)).run.fst = arr at h0
    have h1 : arr.toList[0]? = some a := by simpa using h0
    cases hL : arr.toList with
    | nil => rw [hL] at h1; cases h1
    | cons b t => rw [hL] at h1; simp at h1; rw [h1]
theorem findIn_empty (x y : Str) (lo hi : Nat) (hh : hi ≤ x.length) (hl : lo ≤ hi) (hy : y.length = 0) : findIn x y (lo : Int) (hi : Int) = lo := by
  have hy' : y.cps.toList = [] := by have := len_toList y; rw [hy] at this; simpa using this
  have hat : ∀ i, i ≤ hi → StrLaws.At x y hi i := fun i hi' => ⟨by omega, by rw [StrLaws.subAt_eq, hy, hy']; simp⟩
  have e1 : fromIndex x.length (lo : Int) = lo := by unfold fromIndex; rw [if_neg (by omega)]; omega
  have e2 : min (fromIndex x.length (hi : Int)) x.length = hi := by
    have : fromIndex x.length (hi : Int) = hi := by unfold fromIndex; rw [if_neg (by omega)]; omega
    rw [this]; omega
  unfold findIn
  rw [e1, e2, StrLaws.occ_eq]
  rcases StrLaws.occ_first x y hi 1 (Nat.le_refl 1) (List.range' lo (hi + 1 - lo)) lo (fun i hi => by have := List.mem_range'_1.mp hi; omega) with ⟨h0, hn⟩ | ⟨pre, a, post, e, h0, ha, hn⟩
  · exact absurd (hat lo hl) (hn lo (by rw [List.mem_range'_1]; omega))
  · have hs := StrLaws.range'_split_from e
    have : a = lo := by
      by_cases h : a = lo
      · exact h
      · exact absurd (hat lo hl) (hn lo (hs.2 lo (Nat.le_refl _) (by omega)))
    subst this
    generalize (forIn (List.range' a (hi + 1 - a)) ((#[] : Array Nat), a) (StrLaws.occBody x y hi 1)).run.fst = arr at h0
    have h1 : arr.toList[0]? = some a := by simpa using h0
    cases hL : arr.toList with
    | nil => rw [hL] at h1; cases h1
    | cons b t => rw [hL] at h1; simp at h1; rw [h1]
theorem loop_nil (got : Str) (ep st : Int) : loopF got ep [] st = true := rfl
theorem loop_cons (got w : Str) (ep st : Int) (r : List Str) : loopF got ep (w :: r) st = if findIn got w st ep < 0 then false else loopF got ep r (findIn got w st ep + (w.length : Int)) := rfl
theorem loop_empty (got w : Str) (lo hi : Nat) (hh : hi ≤ got.length) (hl : lo ≤ hi) (hw : w.length = 0) (r : List Str) : loopF got (hi : Int) (w :: r) (lo : Int) = loopF got (hi : Int) r (lo : Int) := by
  rw [loop_cons, findIn_empty got w lo hi hh hl hw, if_neg (by omega), hw]
  simp
theorem loop_mid (got mi : Str) (r : List Str) (lo hi : Nat) (hh : hi ≤ got.length) (hl : lo ≤ hi) (hr : r = [] ∨ ∃ en : Str, r = [en] ∧ en.length = 0) :
    loopF got (hi : Int) (mi :: r) (lo : Int) = true ↔ ∃ i, lo ≤ i ∧ StrLaws.At got mi hi i := by
  rw [loop_cons]
  rcases findIn_spec got mi lo hi hh hl with ⟨e, hn⟩ | ⟨i, e, hi1, hA⟩
  · rw [e, if_pos (by omega)]
    constructor
    · intro h; cases h
    · rintro ⟨i, h1, h2⟩; exact absurd h2 (hn i h1)
  · rw [e, if_neg (by omega)]
    have : loopF got (hi : Int) r ((i : Int) + (mi.length : Int)) = true := by
      rcases hr with rfl | ⟨en, rfl, hen⟩
      · rfl
      · have := loop_empty got en (i + mi.length) hi hh hA.1 hen []
        rw [Int.natCast_add] at this
        rw [this]; rfl
    rw [this]
    exact ⟨fun _ => ⟨i, hi1, hA⟩, fun _ => rfl⟩
theorem starts_iff (x y : Str) : Txt.startswith x y = true ↔ ∃ r, x.cps.toList = y.cps.toList ++ r := by
  unfold Txt.startswith
  have hx := len_toList x
  have hy := len_toList y
  rw [Bool.and_eq_true, decide_eq_true_eq, StrLaws.subAt_eq, beq_iff_eq]
  constructor
  · rintro ⟨h1, h2⟩
    refine ⟨x.cps.toList.drop y.length, ?_⟩
    rw [← h2, List.drop_zero, List.take_append_drop]
  · rintro ⟨r, e⟩
    have := congrArg List.length e
    simp only [List.length_append] at this
    refine ⟨by omega, ?_⟩
    rw [e, List.drop_zero, ← hy, List.take_left]
theorem ends_iff (x y : Str) : Txt.endswith x y = true ↔ ∃ r, x.cps.toList = r ++ y.cps.toList := by
  unfold Txt.endswith
  have hx := len_toList x
  have hy := len_toList y
  rw [Bool.and_eq_true, decide_eq_true_eq, StrLaws.subAt_eq, beq_iff_eq]
  constructor
  · rintro ⟨h1, h2⟩
    refine ⟨x.cps.toList.take (x.length - y.length), ?_⟩
    rw [← h2, List.take_of_length_le (l := List.drop _ _) (by rw [List.length_drop]; omega), List.take_append_drop]
  · rintro ⟨r, e⟩
    have := congrArg List.length e
    simp only [List.length_append] at this
    refine ⟨by omega, ?_⟩
    have e1 : x.length - y.length = r.length := by omega
    rw [e, e1, List.drop_left, ← hy, List.take_length]
theorem takes_iff (fr mi en got : Str) : Pl.Takes fr.cps.toList mi.cps.toList en.cps.toList got.cps.toList ↔
    Txt.startswith got fr = true ∧ Txt.endswith got en = true ∧ fr.length + en.length ≤ got.length ∧ ∃ i, fr.length ≤ i ∧ StrLaws.At got mi (got.length - en.length) i := by
  have hg := len_toList got
  have hf := len_toList fr
  have he := len_toList en
  have hm := len_toList mi
  rw [starts_iff, ends_iff]
  constructor
  · rintro ⟨a, b, e⟩
    have hl := congrArg List.length e
    simp only [List.length_append] at hl
    refine ⟨⟨a ++ mi.cps.toList ++ b ++ en.cps.toList, by rw [e]; simp⟩, ⟨_, e⟩, by omega, fr.length + a.length, by omega, ?_⟩
    rw [at_iff _ _ _ _ (by omega)]
    exact ⟨fr.cps.toList ++ a, b, en.cps.toList, e, by simp [hf], by omega⟩
  · rintro ⟨⟨r, e1⟩, ⟨r2, e2⟩, hle, i, hi, hA⟩
    rw [at_iff _ _ _ _ (by omega)] at hA
    obtain ⟨a, b, c, e3, ha, hc⟩ := hA
    have hc' : c = en.cps.toList := by
      have h1 := e3.symm.trans e2
      exact (List.append_inj' h1 (by omega)).2
    obtain ⟨a2, ha2⟩ : fr.cps.toList <+: a := List.prefix_of_prefix_length_le (l₃ := got.cps.toList) ⟨r, e1.symm⟩ ⟨mi.cps.toList ++ b ++ c, by rw [e3]; simp⟩ (by omega)
    refine ⟨a2, b, ?_⟩
    rw [e3, ← ha2, hc']
theorem match_takes (fr mi en got : Str) : matchW fr mi en got = true ↔ Pl.Takes fr.cps.toList mi.cps.toList en.cps.toList got.cps.toList := by
  rw [takes_iff]
  have st0 : fr.length = 0 → Txt.startswith got fr = true := fun h => (starts_iff _ _).mpr ⟨got.cps.toList, by
    have : fr.cps.toList = [] := by have := len_toList fr; rw [h] at this; simpa using this
    rw [this]; rfl⟩
  have en0 : en.length = 0 → Txt.endswith got en = true := fun h => (ends_iff _ _).mpr ⟨got.cps.toList, by
    have : en.cps.toList = [] := by have := len_toList en; rw [h] at this; simpa using this
    rw [this, List.append_nil]⟩
  have enl : Txt.endswith got en = true → en.length ≤ got.length := fun h => by
    obtain ⟨r, e⟩ := (ends_iff _ _).mp h
    have := congrArg List.length e
    rw [List.length_append, len_toList, len_toList] at this
    omega
  have stl : Txt.startswith got fr = true → fr.length ≤ got.length := fun h => by
    obtain ⟨r, e⟩ := (starts_iff _ _).mp h
    have := congrArg List.length e
    rw [List.length_append, len_toList, len_toList] at this
    omega
  unfold matchW
  by_cases hf : fr.length = 0
  · rw [if_pos (by omega)]
    by_cases he : en.length = 0
    · rw [if_pos (by omega), if_neg (by omega)]
      have h1 := loop_empty got fr 0 got.length (Nat.le_refl _) (Nat.zero_le _) hf [mi, en]
      have h2 := loop_mid got mi [en] 0 got.length (Nat.le_refl _) (Nat.zero_le _) (.inr ⟨en, rfl, he⟩)
      simp only [Int.natCast_zero] at h1 h2
      rw [h1, h2, he, hf]
      simp only [Nat.sub_zero]
      exact ⟨fun h => ⟨st0 hf, en0 he, by omega, h⟩, fun h => h.2.2.2⟩
    · rw [if_neg (by omega)]
      by_cases hE : Txt.endswith got en = true
      · have hle := enl hE
        rw [if_pos hE, if_neg (by omega)]
        have ec : (got.length : Int) - (en.length : Int) = ((got.length - en.length : Nat) : Int) := by omega
        have h1 := loop_empty got fr 0 (got.length - en.length) (by omega) (Nat.zero_le _) hf [mi]
        have h2 := loop_mid got mi [] 0 (got.length - en.length) (by omega) (Nat.zero_le _) (.inl rfl)
        simp only [Int.natCast_zero] at h1 h2
        rw [ec, h1, h2, hf]
        exact ⟨fun h => ⟨st0 hf, hE, by omega, h⟩, fun h => h.2.2.2⟩
      · rw [if_neg hE]
        exact ⟨fun h => absurd h Bool.false_ne_true, fun h => absurd h.2.1 hE⟩
  · rw [if_neg (by omega)]
    by_cases hS : Txt.startswith got fr = true
    · have hsl := stl hS
      rw [if_pos hS]
      by_cases he : en.length = 0
      · rw [if_pos (by omega), if_neg (by omega)]
        have h2 := loop_mid got mi [en] fr.length got.length (Nat.le_refl _) hsl (.inr ⟨en, rfl, he⟩)
        rw [h2, he]
        simp only [Nat.sub_zero]
        exact ⟨fun h => ⟨hS, en0 he, by omega, h⟩, fun h => h.2.2.2⟩
      · rw [if_neg (by omega)]
        by_cases hE : Txt.endswith got en = true
        · have hle := enl hE
          rw [if_pos hE]
          have ec : (got.length : Int) - (en.length : Int) = ((got.length - en.length : Nat) : Int) := by omega
          by_cases hlt : got.length - en.length < fr.length
          · rw [if_pos (by omega)]
            exact ⟨fun h => absurd h Bool.false_ne_true, fun h => absurd h.2.2.1 (by omega)⟩
          · rw [if_neg (by omega), ec]
            have h2 := loop_mid got mi [] fr.length (got.length - en.length) (by omega) (by omega) (.inl rfl)
            rw [h2]
            exact ⟨fun h => ⟨hS, hE, by omega, h⟩, fun h => h.2.2.2⟩
        · rw [if_neg hE]
          exact ⟨fun h => absurd h Bool.false_ne_true, fun h => absurd h.2.1 hE⟩
    · rw [if_neg hS]
      exact ⟨fun h => absurd h Bool.false_ne_true, fun h => absurd h.1 hS⟩
end
section
open PySem.Builtin PySem.Builtin.Str
def tl (x : Str) : List Nat := x.cps.toList
theorem str_eq {x y : Str} : x = y ↔ x.cps.toList = y.cps.toList := ⟨fun h => by rw [h], fun h => Str.ext' (Array.toList_inj.mp h)⟩
theorem snoc_toList (q : Str) (c : Nat) : (q ++ (⟨#[c]⟩ : Str)).cps.toList = q.cps.toList ++ [c] := by rw [Str.cps_append]; simp
theorem starts_pre (p q : Str) : Txt.startswith p q = true ↔ q.cps.toList <+: p.cps.toList := by
  rw [starts_iff]
  exact ⟨fun ⟨r, e⟩ => ⟨r, e.symm⟩, fun ⟨r, e⟩ => ⟨r, e.symm⟩⟩
theorem emptyS : (Str.ofString "").cps.toList = [] := by decide
theorem shrS_lsp (p : Str) : ∀ (n : Nat) (q : Str), q.length ≤ n → (shrS p n q).cps.toList = Pl.lsp p.cps.toList q.cps.toList := by
  intro n
  induction n with
  | zero =>
    intro q hq
    have : q.cps.toList = [] := by have := len_toList q; have h0 : q.length = 0 := by omega
                                   rw [h0] at this; simpa using this
    simp [shrS, this, Pl.lsp]
  | succ n ih =>
    intro q hq
    unfold shrS
    cases hc : q.cps.toList with
    | nil =>
      rw [if_pos ((starts_pre p q).mpr (by rw [hc]; exact List.nil_prefix)), hc]; rfl
    | cons x r =>
      by_cases h : Txt.startswith p q = true
      · rw [if_pos h]
        have := (starts_pre p q).mp h
        rw [hc] at this ⊢
        unfold Pl.lsp; rw [if_pos this]
      · rw [if_neg h]
        have hn : ¬ (x :: r) <+: p.cps.toList := fun h' => h ((starts_pre p q).mpr (by rw [hc]; exact h'))
        have ht : (tail1 q).cps.toList = r := by rw [tail1_eq, hc]; rfl
        rw [ih (tail1 q) (by rw [tail1_length]; omega), ht]
        conv => rhs; unfold Pl.lsp
        rw [if_neg hn]
def piecesS (fr mi en : Str) : List Str := [fr, mi, en].filter fun x => x != Str.ofString ""
theorem ne_empty {x : Str} : (x != Str.ofString "") = true ↔ x.cps.toList ≠ [] := by
  rw [bne_iff_ne, Ne, str_eq, emptyS]
section
variable {fr mi en : Str}
def iM (fr : Str) : Nat := if fr = Str.ofString "" then 0 else 1
theorem pieces_fr (hf : fr ≠ Str.ofString "") : (piecesS fr mi en)[0]? = some fr := by
  simp [piecesS, List.filter_cons, hf]
theorem pieces_mi (hm : mi ≠ Str.ofString "") : (piecesS fr mi en)[iM fr]? = some mi := by
  unfold iM
  by_cases hf : fr = Str.ofString ""
  · rw [if_pos hf]; simp [piecesS, List.filter_cons, hf, hm]
  · rw [if_neg hf]; simp [piecesS, List.filter_cons, hf, hm]
theorem pieces_len (hm : mi ≠ Str.ofString "") : (piecesS fr mi en).length = iM fr + 1 + (if en = Str.ofString "" then 0 else 1) := by
  unfold iM
  by_cases hf : fr = Str.ofString "" <;> by_cases he : en = Str.ofString "" <;> simp [piecesS, List.filter_cons, hf, hm, he]
theorem pieces_en (hm : mi ≠ Str.ofString "") (he : en ≠ Str.ofString "") : (piecesS fr mi en)[iM fr + 1]? = some en := by
  unfold iM
  by_cases hf : fr = Str.ofString ""
  · rw [if_pos hf]; simp [piecesS, List.filter_cons, hf, hm, he]
  · rw [if_neg hf]; simp [piecesS, List.filter_cons, hf, hm, he]
theorem join_toList (l : List Str) : (Txt.join (Str.ofString "") l).cps.toList = (l.map fun x => x.cps.toList).flatten := by
  unfold Txt.join
  rw [StrLaws.glued_eq_join]
  induction l with
  | nil => exact emptyS
  | cons x r ih =>
    cases r with
    | nil => simp [Str.join]
    | cons y r =>
      have : Str.join (Str.ofString "") (x :: y :: r) = x ++ Str.ofString "" ++ Str.join (Str.ofString "") (y :: r) := rfl
      rw [this, Str.cps_append, Str.cps_append]
      simp only [Array.toList_append, emptyS, List.append_nil, ih, List.map_cons, List.flatten_cons]
theorem pieces_drop (hm : mi ≠ Str.ofString "") (l : Nat) : (((piecesS fr mi en).drop l).map fun x => x.cps.toList).flatten.length =
    (if l = 0 then fr.length + mi.length + en.length else if l < iM fr + 1 then mi.length + en.length else if l < iM fr + 2 then en.length else 0) := by
  have lf : fr.cps.size = fr.length := rfl
  have lm : mi.cps.size = mi.length := rfl
  have le : en.cps.size = en.length := rfl
  by_cases hf : fr = Str.ofString "" <;> by_cases he : en = Str.ofString ""
  · have h1 : fr.length = 0 := by rw [hf]; decide
    have h2 : en.length = 0 := by rw [he]; decide
    have e : piecesS fr mi en = [mi] := by simp [piecesS, List.filter_cons, hf, hm, he]
    have e2 : iM fr = 0 := by unfold iM; rw [if_pos hf]
    rw [e, e2, h1, h2]
    match l with
    | 0 => simp; omega
    | 1 => simp
    | l + 2 => simp
  · have h1 : fr.length = 0 := by rw [hf]; decide
    have e : piecesS fr mi en = [mi, en] := by simp [piecesS, List.filter_cons, hf, hm, he]
    have e2 : iM fr = 0 := by unfold iM; rw [if_pos hf]
    rw [e, e2, h1]
    match l with
    | 0 => simp; omega
    | 1 => simp; omega
    | l + 2 => simp; omega
  · have h2 : en.length = 0 := by rw [he]; decide
    have e : piecesS fr mi en = [fr, mi] := by simp [piecesS, List.filter_cons, hf, hm, he]
    have e2 : iM fr = 1 := by unfold iM; rw [if_neg hf]
    rw [e, e2, h2]
    match l with
    | 0 => simp; omega
    | 1 => simp; omega
    | 2 => simp
    | l + 3 => simp; omega
  · have e : piecesS fr mi en = [fr, mi, en] := by simp [piecesS, List.filter_cons, hf, hm, he]
    have e2 : iM fr = 1 := by unfold iM; rw [if_neg hf]
    rw [e, e2]
    match l with
    | 0 => simp; omega
    | 1 => simp; omega
    | 2 => simp; omega
    | l + 3 => rw [if_neg (by omega), if_neg (by omega), if_neg (by omega)]; simp
def Sim (fr mi en : Str) : Option (Nat × Str) → Pl.St Nat → Prop
  | none, .lost => True
  | some (k, q), .fr p => k = 0 ∧ fr ≠ Str.ofString "" ∧ q.cps.toList = p
  | some (k, q), .mi p => k = iM fr ∧ q.cps.toList = p
  | some (k, q), .en p => k = iM fr + 1 ∧ q.cps.toList = p ∧ p <+: en.cps.toList
  | _, _ => False
theorem sim_start : Sim fr mi en (some (0, Str.ofString "")) (Pl.start fr.cps.toList) := by
  unfold Pl.start Pl.toF
  by_cases hf : fr = Str.ofString ""
  · rw [if_pos (by rw [hf, emptyS])]
    exact ⟨by unfold iM; rw [if_pos hf], emptyS⟩
  · rw [if_neg (fun h => hf (str_eq.mpr (by rw [emptyS]; exact h.symm)))]
    exact ⟨rfl, hf, emptyS⟩
theorem sim_step (hm : mi ≠ Str.ofString "") {k : Nat} {q : Str} {st : Pl.St Nat} (c : Nat) (h : Sim fr mi en (some (k, q)) st) :
    Sim fr mi en (rstep (piecesS fr mi en) fr en k q c) (Pl.step fr.cps.toList mi.cps.toList en.cps.toList st c) := by
  have hqc := snoc_toList q c
  have hql : (q ++ (⟨#[c]⟩ : Str)).length ≤ q.length + 1 := by rw [Str.length_append]; exact Nat.le_refl _
  have hpl := pieces_len (fr := fr) (en := en) hm
  cases st with
  | lost => exact h.elim
  | fr p =>
    obtain ⟨rfl, hf, hq⟩ := h
    have hi : iM fr = 1 := by unfold iM; rw [if_neg hf]
    unfold rstep
    rw [pieces_fr hf]
    dsimp only
    rw [if_pos ⟨rfl, hf⟩, Pl.step_fr, ← hq, ← hqc]
    by_cases hs : Txt.startswith fr (q ++ ⟨#[c]⟩) = true
    · rw [if_pos hs, if_pos ((starts_pre _ _).mp hs)]
      unfold adv Pl.toF
      by_cases e : (q ++ ⟨#[c]⟩ : Str) = fr
      · rw [if_pos ⟨e, .inl (by rw [hpl, hi]; omega)⟩, if_pos (str_eq.mp e)]
        exact ⟨hi.symm, emptyS⟩
      · rw [if_neg (fun h => e h.1), if_neg (fun h => e (str_eq.mpr h))]
        exact ⟨rfl, hf, rfl⟩
    · rw [if_neg hs, if_neg (fun h => hs ((starts_pre _ _).mpr h))]
      trivial
  | mi p =>
    obtain ⟨rfl, hq⟩ := h
    unfold rstep
    rw [pieces_mi hm]
    dsimp only
    have hn : ¬ (iM fr = 0 ∧ fr ≠ Str.ofString "") := by
      rintro ⟨h1, h2⟩; unfold iM at h1; rw [if_neg h2] at h1; cases h1
    rw [if_neg hn]
    have hl := shrS_lsp mi (q.length + 1) _ hql
    show Sim fr mi en (some (adv _ en mi (iM fr) (shrS mi (q.length + 1) (q ++ ⟨#[c]⟩)))) (Pl.toM _ (Pl.lsp _ (p ++ [c])))
    rw [← hq, ← hqc, ← hl]
    generalize shrS mi (q.length + 1) (q ++ ⟨#[c]⟩) = r
    unfold adv Pl.toM
    by_cases e : r = mi
    · have : iM fr + 1 < (piecesS fr mi en).length ∨ en = Str.ofString "" := by
        by_cases he : en = Str.ofString ""
        · exact .inr he
        · rw [if_neg he] at hpl; exact .inl (by omega)
      rw [if_pos ⟨e, this⟩, if_pos (str_eq.mp e)]
      exact ⟨rfl, emptyS, List.nil_prefix⟩
    · rw [if_neg (fun h => e h.1), if_neg (fun h => e (str_eq.mpr h))]
      exact ⟨rfl, rfl⟩
  | en p =>
    obtain ⟨rfl, hq, hp⟩ := h
    unfold rstep
    show Sim fr mi en _ (.en (Pl.lsp en.cps.toList (p ++ [c])))
    by_cases he : en = Str.ofString ""
    · rw [List.getElem?_eq_none (by rw [hpl, if_pos he]; omega)]
      dsimp only
      have e0 : en.cps.toList = [] := by rw [he, emptyS]
      have h1 : Pl.lsp en.cps.toList (p ++ [c]) = [] := by
        have := Pl.lsp_pre en.cps.toList (p ++ [c]); rw [e0] at this ⊢; exact List.prefix_nil.mp this
      have h2 : p = [] := by rw [e0] at hp; exact List.prefix_nil.mp hp
      rw [h1]
      exact ⟨rfl, by rw [hq, h2], List.nil_prefix⟩
    · rw [pieces_en hm he]
      dsimp only
      rw [if_neg (fun h => absurd h.1 (by omega))]
      have hl := shrS_lsp en (q.length + 1) _ hql
      rw [← hq, ← hqc, ← hl]
      generalize shrS en (q.length + 1) (q ++ ⟨#[c]⟩) = r at hl ⊢
      unfold adv
      rw [if_neg]
      · exact ⟨rfl, rfl, by rw [hl]; exact Pl.lsp_pre _ _⟩
      · rintro ⟨_, h | h⟩
        · rw [hpl, if_neg he] at h; omega
        · exact he h
theorem sim_read (hm : mi ≠ Str.ofString "") : ∀ (u : List Nat) (k : Nat) (q : Str) (st : Pl.St Nat), Sim fr mi en (some (k, q)) st →
    Sim fr mi en (readT (piecesS fr mi en) fr en u k q) (u.foldl (Pl.step fr.cps.toList mi.cps.toList en.cps.toList) st) := by
  intro u
  induction u with
  | nil => exact fun k q st h => h
  | cons c u ih =>
    intro k q st h
    have h1 := sim_step hm c h
    unfold readT
    rw [List.foldl_cons]
    cases hr : rstep (piecesS fr mi en) fr en k q c with
    | none =>
      rw [hr] at h1
      dsimp only
      have : ∀ v : List Nat, v.foldl (Pl.step fr.cps.toList mi.cps.toList en.cps.toList) .lost = .lost := by
        intro v
        induction v with
        | nil => rfl
        | cons x v ihv => exact ihv
      cases hs : Pl.step fr.cps.toList mi.cps.toList en.cps.toList st c with
      | lost => rw [this]; trivial
      | fr p => rw [hs] at h1; exact h1.elim
      | mi p => rw [hs] at h1; exact h1.elim
      | en p => rw [hs] at h1; exact h1.elim
    | some x =>
      obtain ⟨k', q'⟩ := x
      rw [hr] at h1
      exact ih k' q' _ h1
theorem left_run (hm : mi ≠ Str.ofString "") (text : Str) : leftW (piecesS fr mi en) fr en text =
    ((Pl.left fr.cps.toList mi.cps.toList en.cps.toList (Pl.run fr.cps.toList mi.cps.toList en.cps.toList text.cps.toList) : Nat) : Int) := by
  have hs := sim_read (fr := fr) (en := en) hm text.cps.toList 0 (Str.ofString "") _ sim_start
  have lf := len_toList fr
  have lm := len_toList mi
  have le := len_toList en
  have hj : ∀ l, (Txt.join (Str.ofString "") ((piecesS fr mi en).drop l)).length = _ := fun l => ((len_toList _).symm.trans (congrArg List.length (join_toList _))).trans (pieces_drop hm l)
  have hj0 := hj 0
  rw [List.drop_zero, if_pos rfl] at hj0
  have hok := Pl.ok_run fr.cps.toList mi.cps.toList en.cps.toList (fun h => hm (str_eq.mpr (by rw [emptyS]; exact h))) text.cps.toList
  unfold leftW
  change Sim fr mi en _ (Pl.run fr.cps.toList mi.cps.toList en.cps.toList text.cps.toList) at hs
  generalize Pl.run fr.cps.toList mi.cps.toList en.cps.toList text.cps.toList = st at hs hok
  cases hr : readT (piecesS fr mi en) fr en text.cps.toList 0 (Str.ofString "") with
  | none =>
    rw [hr] at hs
    cases st with
    | lost => dsimp only [Pl.left]; rw [hj0, lf, lm, le]; omega
    | fr p => exact hs.elim
    | mi p => exact hs.elim
    | en p => exact hs.elim
  | some x =>
    obtain ⟨k, q⟩ := x
    rw [hr] at hs
    have hq := len_toList q
    dsimp only
    have hjk := hj k
    have hiM : iM fr ≤ 1 := by unfold iM; split <;> omega
    cases st with
    | lost => exact hs.elim
    | fr p =>
      obtain ⟨rfl, hf, rfl⟩ := hs
      have := hok.2
      have := hok.1.length_le
      rw [if_pos rfl] at hjk
      rw [hjk]
      dsimp only [Pl.left]
      rw [lf, lm, le, hq]; omega
    | mi p =>
      obtain ⟨rfl, rfl⟩ := hs
      have := hok.1.length_le
      have hz : iM fr = 0 → fr.length = 0 := by
        unfold iM
        split
        · rename_i h; intro _; rw [h]; decide
        · intro h; cases h
      rw [hjk]
      dsimp only [Pl.left]
      rw [lm, le, hq]
      by_cases h0 : iM fr = 0
      · have := hz h0; rw [if_pos h0]; omega
      · rw [if_neg h0, if_pos (by omega)]; omega
    | en p =>
      obtain ⟨rfl, rfl, _⟩ := hs
      have := List.IsPrefix.length_le hok
      rw [hjk, if_neg (by omega), if_neg (by omega), if_pos (by omega)]
      dsimp only [Pl.left]
      rw [le, hq]; omega
end
end
def SmallInt (v : Value) : Prop := ∃ c t, v = .int c t ∧ 0 ≤ c ∧ c < 1000000
theorem nine {l : List Value} (h : l.length = 9) (hs : ∀ v ∈ l, SmallInt v) : ∃ (c : Fin 9 → Int) (t : Fin 9 → Tok), (∀ i, 0 ≤ c i ∧ c i < 1000000) ∧
    l = [.int (c 0) (t 0), .int (c 1) (t 1), .int (c 2) (t 2), .int (c 3) (t 3), .int (c 4) (t 4), .int (c 5) (t 5), .int (c 6) (t 6), .int (c 7) (t 7), .int (c 8) (t 8)] := by
  have hx : ∀ i : Fin 9, ∃ p : Int × Tok, l[i.1]? = some (.int p.1 p.2) ∧ 0 ≤ p.1 ∧ p.1 < 1000000 := fun i => by
    have hi : i.1 < l.length := by omega
    obtain ⟨c, t, e, b⟩ := hs l[i.1] (List.getElem_mem hi)
    exact ⟨(c, t), by rw [List.getElem?_eq_getElem hi, e], b⟩
  refine ⟨fun i => (Classical.choose (hx i)).1, fun i => (Classical.choose (hx i)).2, fun i => (Classical.choose_spec (hx i)).2, ?_⟩
  have key : ∀ (l m : List Value), l.length = m.length → (∀ i, i < m.length → l[i]? = m[i]?) → l = m := fun l m hlm hq => by
    refine List.ext_getElem? fun i => ?_
    by_cases h : i < m.length
    · exact hq i h
    · rw [List.getElem?_eq_none (by omega), List.getElem?_eq_none (by omega)]
  refine key _ _ (by rw [h]; rfl) fun i hi => ?_
  have hi9 : i < 9 := hi
  have := (Classical.choose_spec (hx ⟨i, hi9⟩)).1
  match i, hi9 with
  | 0, _ => exact this
  | 1, _ => exact this
  | 2, _ => exact this
  | 3, _ => exact this
  | 4, _ => exact this
  | 5, _ => exact this
  | 6, _ => exact this
  | 7, _ => exact this
  | 8, _ => exact this
section
variable {prog : Program} {w : World} {A : Around} {E : Value → Shared → Prop} {s : Shared} {h₀ : Heap} {L : Addr} {m : Str → Option Value} {news : List (Addr × Obj)} {Q : Value → Shared → Prop} {value slice : PySem.Expr} {u v t : Tok} {pa : Addr} {vs ys : List Value} {n : Nat}
theorem lenNews_K (N : News h₀ L s.heap news) (hm : (pa, listOf vs.toArray n) ∈ news) (hb : vs.length ≤ 1000) (h : ∀ t tk, Q (.int (vs.length : Int) t) { s with toks := tk }) :
    wpAny (model prog w) A (call (.builtin "len") [.ref pa]) Q E s := by
  have hL : s.heap.IsList pa vs.toArray := ⟨_, (N _ hm).1, rfl, _, rfl⟩
  refine call_len_list hL (by rw [List.size_toArray]; omega) ?_
  rw [List.size_toArray]; exact h _ _
theorem sliceNews_K {k : Nat} (F : Fr h₀ L s.heap m) (N : News h₀ L s.heap news) (hm : (pa, listOf vs.toArray n) ∈ news) (hb : vs.length ≤ 1000)
    (h : ∀ D h', Fr h₀ L h' m → News h₀ L h' ((D, listOf (vs.drop k).toArray 0) :: news) → (∀ p ∈ news, p.1 < D) → Q (.ref D) { s with heap := h' })
    (hs : subscripted slice false (.ref pa) (.ref s.heap.objs.size) = operate [.ref s.heap.objs.size, .ref pa] (getItem (.ref pa) (.ref s.heap.objs.size)) := by with_unfolding_all rfl) :
    wpAny (model prog w) A (subscriptTail value slice (.ref pa) (.ref s.heap.objs.size)) Q E { s with heap := s.heap.push { cls := .type "slice", data := .fields #[.int (k : Int) t, .none, .none] } } := by
  have hL : s.heap.IsList pa vs.toArray := ⟨_, (N _ hm).1, rfl, _, rfl⟩
  refine kba_turn (value' := .Name (Str.ofString "_") ⟨0, 0, 0, 0⟩) (fun _ => rfl) ?_
  refine kmk_slice F N hL (.int (k : Int) t) .none (fun D h' F' N' lt => h D h' F' ?_ lt) hs (fun _ => rfl) (by rw [List.size_toArray, sizeLine_eq]; omega)
  rw [slicePick_from'] at N'
  exact N'
theorem addNine_K {a b : Addr} {n1 n2 : Nat} (F : Fr h₀ L s.heap m) (N : News h₀ L s.heap news) (hm1 : (a, listOf ys.toArray n1) ∈ news) (hm2 : (b, listOf (vs.drop ys.length).toArray n2) ∈ news)
    (hv : vs.length = 9) (hy : ys.length ≤ 9) (hs1 : ∀ v ∈ ys, SmallInt v) (hs2 : ∀ v ∈ vs, SmallInt v)
    (h : ∀ D h' (c : Fin 9 → Int) (t : Fin 9 → Tok), (∀ i, 0 ≤ c i ∧ c i < 1000000) → Fr h₀ L h' m → News h₀ L h' ((D, listOf [Value.int (c 0) (t 0), .int (c 1) (t 1), .int (c 2) (t 2), .int (c 3) (t 3), .int (c 4) (t 4), .int (c 5) (t 5), .int (c 6) (t 6), .int (c 7) (t 7), .int (c 8) (t 8)].toArray 0) :: news) → (∀ p ∈ news, p.1 < D) → Q (.ref D) { s with heap := h' }) :
    wpAny (model prog w) A (binaryOp .Add (.ref a) (.ref b)) Q E s := by
  have hL1 : s.heap.IsList a ys.toArray := ⟨_, (N _ hm1).1, rfl, _, rfl⟩
  have hL2 : s.heap.IsList b (vs.drop ys.length).toArray := ⟨_, (N _ hm2).1, rfl, _, rfl⟩
  refine add_arrays F N hL1 hL2 (fun h' F' N' => ?_) (by rw [List.size_toArray, List.size_toArray, List.length_drop, sizeLine_eq]; omega)
  obtain ⟨c, t, hb, e⟩ := nine (l := ys ++ vs.drop ys.length) (by rw [List.length_append, List.length_drop]; omega) (fun v hv => by
    rcases List.mem_append.mp hv with hv | hv
    · exact hs1 v hv
    · exact hs2 v (List.mem_of_mem_drop hv))
  rw [List.toList_toArray, List.toList_toArray, e] at N'
  exact h _ h' c t hb F' N' fun p hp => Heap.lt_size (N p hp).1
end
def SignsIn (la lb : Nat) (x : Str) : Prop := ∀ c ∈ x.cps.toList, c = la ∨ c = lb
def LetOk (x : Str) : Prop := ∃ la lb, x = ⟨#[la, lb]⟩ ∧ la ≠ lb ∧ la ≠ 46 ∧ lb ≠ 46
theorem letters_ok {x : Str} (h : x = Str.ofString "ab" ∨ x = Str.ofString "a\n" ∨ x = Str.ofString "\n " ∨ x = Str.ofString "*[") : LetOk x := by
  rcases h with rfl | rfl | rfl | rfl
  · exact ⟨97, 98, by decide, by decide, by decide, by decide⟩
  · exact ⟨97, 10, by decide, by decide, by decide, by decide⟩
  · exact ⟨10, 32, by decide, by decide, by decide, by decide⟩
  · exact ⟨42, 91, by decide, by decide, by decide, by decide⟩
theorem pieceF_signs {la lb : Nat} : ∀ (k : Nat) (r : Int) (acc : Str), SignsIn la lb acc → SignsIn la lb (pieceF la lb k r acc) := by
  intro k
  induction k with
  | zero => exact fun _ _ h => h
  | succ k ih =>
    intro r acc h
    refine ih _ _ fun c hc => ?_
    rw [Str.cps_append, Array.toList_append] at hc
    rcases List.mem_append.mp hc with hc | hc
    · exact h c hc
    · unfold lt2 at hc
      have : c = if r.fmod 2 = 0 then la else lb := by simpa using hc
      rw [this]; split
      · exact .inl rfl
      · exact .inr rfl
theorem pieceF_len {la lb : Nat} : ∀ (k : Nat) (r : Int) (acc : Str), (pieceF la lb k r acc).length = acc.length + k := by
  intro k
  induction k with
  | zero => exact fun _ _ => rfl
  | succ k ih =>
    intro r acc
    show (pieceF la lb k _ _).length = _
    rw [ih, Str.length_append, len_lt2]; omega
theorem emptySigns (la lb : Nat) : SignsIn la lb (Str.ofString "") := fun c hc => by
  have : (Str.ofString "").cps.toList = [] := by decide
  rw [this] at hc; cases hc
section
variable {prog : Program} {w : World} {A : Around} {E : Value → Shared → Prop} {s : Shared} {h₀ : Heap} {L : Addr} {m : Str → Option Value} {news : List (Addr × Obj)} {Q : Value → Shared → Prop} {value slice : PySem.Expr} {u v : Tok}
theorem tupStr_K {sz : Addr} {x0 x1 x2 x3 : Str} {t0 t1 t2 t3 : Tok} {r : Int} {k : Nat} (N : News h₀ L s.heap news) (hm : (sz, ({ cls := .type "tuple", data := .seq [Value.str x0 t0, .str x1 t1, .str x2 t2, .str x3 t3].toArray k } : Obj)) ∈ news)
    (h : ∀ x t, x = x0 ∨ x = x1 ∨ x = x2 ∨ x = x3 → Q (.str x t) s)
    (hs : subscripted slice false (.ref sz) (.int (r.fmod 4) v) = operate [.ref sz, .int (r.fmod 4) v] (getItem (.ref sz) (.int (r.fmod 4) v)) := by with_unfolding_all rfl) :
    wpAny (model prog w) A (subscriptTail value slice (.ref sz) (.int (r.fmod 4) v)) Q E s := by
  have hT : IsTup s.heap sz [Value.str x0 t0, .str x1 t1, .str x2 t2, .str x3 t3].toArray := ⟨_, (N _ hm).1, rfl, _, rfl⟩
  rcases fmod_cases4 r with e | e | e | e <;> rw [e] at hs ⊢
  · exact item_tupleT hT (by decide) (by decide) (j := 0) rfl rfl (h _ _ (.inl rfl)) hs
  · exact item_tupleT hT (by decide) (by decide) (j := 1) rfl rfl (h _ _ (.inr (.inl rfl))) hs
  · exact item_tupleT hT (by decide) (by decide) (j := 2) rfl rfl (h _ _ (.inr (.inr (.inl rfl)))) hs
  · exact item_tupleT hT (by decide) (by decide) (j := 3) rfl rfl (h _ _ (.inr (.inr (.inr rfl)))) hs
end
section
variable {w : World} {mean : ExcName → Option Value} {mg mb : Str → Option Value} {s : Shared} {dp un : Nat} {gd : Option (List Code)} {cn : Str} {cs : Scope} {a L₀ : Addr} {ccd : Value} {cl : List (Str × Addr)} {outer : List Env} {h₀ : Heap} {L : Addr} {m : Str → Option Value} {news : List (Addr × Obj)} {Q E : Value → Shared → Prop}
def Pick (lo hi : Nat) (a : Int) : Prop := 0 ≤ a ∧ a ≤ 3 ∧ (lo : Int) ≤ a ∧ a ≤ (hi : Int)
theorem pick4_of {lo hi : Nat} {a0 a1 a2 a3 r : Int} (h0 : Pick lo hi a0) (h1 : Pick lo hi a1) (h2 : Pick lo hi a2) (h3 : Pick lo hi a3) : Pick lo hi (pick4 a0 a1 a2 a3 r) := by
  unfold pick4
  split
  · exact h0
  · split
    · exact h1
    · split
      · exact h2
      · exact h3
theorem use_piece {n : Int} {sz : Addr} {la lb : Nat} {t u t0 t1 t2 t3 : Tok} {a0 a1 a2 a3 : Int} {k : Nat} (lo hi : Nat) (F : Fr h₀ L s.heap m) (X : (hd.heap_39 w.params).In h₀) (T : Top hd.view_39 (looseW hd.view_39 []) mean mg mb h₀) (N : News h₀ L s.heap news)
   (hd : dp + 4 < recursionLimit) (hu : un + 40 < cLine) (hm : (sz, ({ cls := .type "tuple", data := .seq [Value.int a0 t0, .int a1 t1, .int a2 t2, .int a3 t3].toArray k } : Obj)) ∈ news)
   (hp0 : Pick lo hi a0) (hp1 : Pick lo hi a1) (hp2 : Pick lo hi a2) (hp3 : Pick lo hi a3)
   (h : ∀ x t h' tk', lo ≤ x.length → x.length ≤ hi → SignsIn la lb x → Fr h₀ L h' m → News h₀ L h' news → Q (.str x t) {s with heap := h', toks := tk'}) :
   wpAny (model PySem.Challenge.rw_pg0064_01.row.prog w) (ktrTop dp un gd cn cs L₀ a ccd cl outer) (call (.ref 49) [.int n t, .ref sz, .str ⟨#[la, lb]⟩ u]) Q E s := by
  obtain ⟨p1, p2, p3, p4⟩ := pick4_of (r := n.fmod 4) hp0 hp1 hp2 hp3
  have hl := pieceF_len (la := la) (lb := lb) (pick4 a0 a1 a2 a3 (n.fmod 4)).toNat (n.fdiv 4) (Str.ofString "")
  rw [len_emptyS] at hl
  exact piece_ok w mean mg mb s n sz la lb t u t0 t1 t2 t3 a0 a1 a2 a3 (pick4 a0 a1 a2 a3 (n.fmod 4)).toNat (by omega) (by omega) ⟨_, (N _ hm).1, rfl, _, rfl⟩ dp un gd cn cs L₀ a ccd cl outer Q E (X.keeps F.keep) (T.keeps F.keep) hd hu
    fun t h' tk' st => h _ t h' tk' (by omega) (by omega) (pieceF_signs _ _ _ (emptySigns la lb)) (F.keeps st) (N.grown st)
end
abbrev tupO (its : Array Value) (k : Nat) : Obj := { cls := .type "tuple", data := .seq its k }
section
variable {prog : Program} {w : World} {A : Around} {E : Value → Shared → Prop} {s : Shared} {h₀ : Heap} {L : Addr} {m : Str → Option Value} {env : Env}
theorem tup_st {ax I : Addr} {its : Array Value} {k : Nat} : ∀ i (h h' : Heap) (o : Obj) (nw : List (Addr × Obj)), (h.IsTupleIter I ax i ∧ h.IsTuple ax its) → h.get? I = some o → h'.get? I = some o → (∀ b o, h₀.get? b = some o → h'.get? b = some o) → News h₀ L h' nw → (ax, tupO its k) ∈ nw → (h'.IsTupleIter I ax i ∧ h'.IsTuple ax its) :=
  fun i h h' o nw st e e' _ N S => ⟨by obtain ⟨o', q, r⟩ := st.1; rw [e] at q; cases q; exact ⟨o, e', r⟩, ⟨_, (N _ S).1, rfl, _, rfl⟩⟩
def TupSrc (prog : Program) (w : World) (A : Around) (h₀ : Heap) (L : Addr) (m : Str → Option Value) (env : Env) (ct elt : PySem.Expr) (x : Str) (scope : Scope) (cl : List (Str × Addr)) (y : Str) (Q : Flow → Shared → Prop) (xv : Value) (s₁ : Shared) : Prop :=
  ∃ ax its k news, xv = .ref ax ∧ A.handled = none ∧ Fr h₀ L s₁.heap m ∧ News h₀ L s₁.heap news ∧ (ax, tupO its k) ∈ news ∧ its.size ≤ sizeLine ∧
      ∀ s₂ : Shared, (∃ h, s₂ = { s₁ with heap := h }) → LCt.CompRestT prog w A h₀ L m env ct elt x scope cl s₂ (fun nw => (ax, tupO its k) ∈ nw) (fun i v => its[i]? = some v) (LCg.FinA h₀ L m s₂ y Q) its.size 0 [] news
theorem TupSrc.intro {ct elt : PySem.Expr} {x y : Str} {scope : Scope} {cl : List (Str × Addr)} {Q : Flow → Shared → Prop} {ax : Addr} {its : Array Value} {k : Nat} {news : List (Addr × Obj)} {s₁ : Shared}
    (hh : A.handled = none) (F : Fr h₀ L s₁.heap m) (N : News h₀ L s₁.heap news) (hm : (ax, tupO its k) ∈ news) (hsz : its.size ≤ sizeLine)
    (h : ∀ g, LCt.CompRestT prog w A h₀ L m env ct elt x scope cl { s₁ with heap := g } (fun nw => (ax, tupO its k) ∈ nw) (fun i v => its[i]? = some v) (LCg.FinA h₀ L m { s₁ with heap := g } y Q) its.size 0 [] news) :
    TupSrc prog w A h₀ L m env ct elt x scope cl y Q (.ref ax) s₁ := ⟨ax, its, k, news, rfl, hh, F, N, hm, hsz, fun _ ⟨g, e⟩ => e ▸ h g⟩
theorem Assign_ListComp_Tup {ct elt iter : PySem.Expr} {x y : Str} {px py : Pos} {scope : Scope} {cl : List (Str × Addr)} {pos spos : Pos} {Q : Flow → Shared → Prop} (F₀ : Fr h₀ L s.heap m) (hLe : env.locals = L)
    (hsw : swapsWith (.ListComp elt [⟨.Name x px, iter, [ct], 0⟩] scope pos) (some (.Name y py)) spos.line env = pure true)
    (hclos : closureFor scope env = pure cl) (hcell : ∀ z ∈ scope.names, z.2 ≠ .cell) (hkind : scope.kind = .function)
    (hnames : ∀ z ∈ scope.names, z.2 = .local → scope.names.lookup z.1 = some .local) (hx : scope.names.lookup x = some .local)
    (hy : env.kindOf y = some .local) (hp : (env.scope.kind == .class || (env.scope.kind == .module && env.locals != env.globals)) = false)
    (h : wpAny (model prog w) A (eval iter env) (TupSrc prog w A h₀ L m env ct elt x scope cl y Q) E s)
    (hs : ∀ x, foldedSetIterable iter env x = pure x := by intro _; rfl) :
    wpAny (model prog w) A (exec (.Assign [.Name y py] (.ListComp elt [⟨.Name x px, iter, [ct], 0⟩] scope pos) spos) env) Q E s := by
  subst hLe
  rw [exec_Assign_Name_used _ _ _ _ hsw]
  refine wpAny_bind (wpAny_standAt (wpAny_bind ?_))
  show wpAny _ A (do let _ ← comprehension (.ListComp elt [⟨.Name x px, iter, [ct], 0⟩] scope pos) scope env _ (newList []) false (eval iter env) (some (assign (.Name y py) env))) _ _ s
  refine wpAny_bind (wpAny_mono (wpAny_comprehension_free (use := some (assign (.Name y py) env)) (Q := fun _ s' => Q .next s') rfl hs hclos hkind hnames
    (wpAny_mono h (fun xv s₁ h₁ => ?_) fun _ _ e => e)) (fun _ s' hq => wpAny_pure (wpAny_pure hq)) fun _ _ e => e)
  obtain ⟨ax, its, k, news, rfl, hh, F, N, S, hsz, R⟩ := h₁
  have hl : s₁.heap.IsTuple ax its := ⟨_, (N _ S).1, rfl, _, rfl⟩
  have hlt : ax < s₁.heap.objs.size := Heap.lt_size (N _ S).1
  refine wpAny_pyIter_tuple hl ?_
  have up : ∀ b o, s₁.heap.get? b = some o → (s₁.heap.push { cls := .type "tuple_iterator", data := .fields #[.ref ax, .int 0 0] }).get? b = some o := fun b o e => Heap.get?_push_of_some _ e
  refine LCt.block_T (Walks.tuple hh s₁.heap.objs.size ax (Nat.ne_of_lt hlt) its) hsz (fun i h st => by obtain ⟨o, e, _⟩ := st.1; exact ⟨o, e⟩) tup_st hcell hkind hx ⟨⟨_, Heap.get?_push_size _ rfl, rfl, rfl⟩, hl.push _⟩ (fun b hb => ?_)
    (F.keeps up) (N.grown up) (Nat.ne_of_lt F.ns.lt) (next_is_new F) (fun p hp => Nat.ne_of_lt (Heap.lt_size (N p hp).1)) S (R _ ⟨_, rfl⟩) ?_
  · show b < (s₁.heap.push _).objs.size
    rw [Heap.size_push]
    rcases List.mem_cons.mp hb with rfl | hb
    · exact Nat.lt_succ_self _
    · rw [List.mem_singleton.mp hb]; exact Nat.lt_succ_of_lt hlt
  · intro D C h' tk m' ys news' F' N' o1 hn hC₀ hD₀ hCL hDL hCD offC fin
    show wpAny _ A (assign (.Name y py) env (.ref D)) _ _ _
    refine wpAny_assign_Name (wpAny_storeName_local hy F'.ns (fun h₂ hn₂ hs₂ => ?_) hp)
    have hL₀ : h₀.get? env.locals = none := Heap.get?_none_of_le F'.above
    have F₂ : Fr h₀ env.locals h₂ (fun z => if z = y then some (.ref D) else m z) := ⟨hn₂, fun b o e => hs₂.extBut b o (fun q => by rw [q, hL₀] at e; cases e) (F'.keep b o e), F'.above⟩
    refine ⟨m', hn.sameBut hs₂ hCL, fun h'' hs'' => fin D h'' _ (F₂.change hs'' hCL hC₀) (fun p hp => ?_) o1⟩
    have z : h₂.get? p.1 = some p.2 := hs₂.extBut _ _ (N' p hp).2.1 (N' p hp).1
    refine ⟨hs''.extBut _ _ ?_ z, (N' p hp).2⟩
    rcases List.mem_cons.mp hp with rfl | hp
    · exact Ne.symm hCD
    · exact offC p hp
section
variable {elt ct : PySem.Expr} {x : Str} {scope : Scope} {cl : List (Str × Addr)} {S : List (Addr × Obj) → Prop} {P : Nat → Value → Prop} {Fin : List Value → List (Addr × Obj) → Prop} {news : List (Addr × Obj)} {n : Nat}
theorem comp_relT (T : Nat → List Value → Prop) (hS : S news) (h0 : T 0 [])
    (step : ∀ i ys v I oI C oC D m₂ h tk (Q1 : Value → Shared → Prop) (Q2 : Shared → Prop) (E' : Value → Shared → Prop), i < n → P i v → T i ys → LCg.NsObj oC m₂ → m₂ x = some v → Fr h₀ L h m → News h₀ L h ((I, oI) :: (C, oC) :: (D, LCg.lst ys) :: news) →
      (∀ y h' tk', T (i + 1) (ys ++ [y]) → Fr h₀ L h' m → News h₀ L h' ((I, oI) :: (C, oC) :: (D, LCg.lst ys) :: news) → Q1 y { s with heap := h', toks := tk' }) →
      (∀ h' tk', T (i + 1) ys → Fr h₀ L h' m → News h₀ L h' ((I, oI) :: (C, oC) :: (D, LCg.lst ys) :: news) → Q2 { s with heap := h', toks := tk' }) →
      wpAny (model prog w) A (isTrue ct (compEnvC scope cl C env) (eval ct (compEnvC scope cl C env))) (fun ok s' => if ok = true then wpAny (model prog w) A (eval elt (compEnvC scope cl C env)) Q1 E' s' else Q2 s') E' { s with heap := h, toks := tk })
    (fin : ∀ ys, T n ys → Fin ys news) : LCt.CompRestT prog w A h₀ L m env ct elt x scope cl s S P Fin n 0 [] news := by
  have key : ∀ (j i : Nat) (ys : List Value), i + j = n → T i ys → LCt.CompRestT prog w A h₀ L m env ct elt x scope cl s S P Fin j i ys news := by
    intro j
    induction j with
    | zero =>
      intro i ys hi hy
      obtain rfl : i = n := by omega
      exact LCt.CompRestT.zero (fin ys hy)
    | succ j ih =>
      intro i ys hi hy
      refine LCt.CompRestT.succ ?_
      intro v I oI C oC D m₂ h tk E' hv hC hx F N off ne
      refine step i ys v I oI C oC D m₂ h tk _ (fun s' => LCg.CompEnd _ _ _ _ _ _ _ _ _ _ _ _ Value.none s') E' (by omega) hv hy hC hx F N (fun y h' tk' hT F' N' => ?_) (fun h' tk' hT F' N' => ?_)
      · exact ⟨h', tk', news, rfl, F', N', off, hS, ih (i + 1) _ (by omega) hT⟩
      · exact ⟨h', tk', news, rfl, F', N', off, hS, ih (i + 1) _ (by omega) hT⟩
  exact key n 0 [] (by omega) h0
end
end
section
open PySem.Builtin PySem.Builtin.Str
theorem dots_toList : (Str.ofString "...").cps.toList = [46, 46, 46] := by decide
theorem join3_toList (fr mi en : Str) : (Txt.join (Str.ofString "...") [fr, mi, en]).cps.toList = fr.cps.toList ++ [46, 46, 46] ++ (mi.cps.toList ++ [46, 46, 46] ++ en.cps.toList) := by
  unfold Txt.join
  rw [StrLaws.glued_eq_join]
  show (fr ++ Str.ofString "..." ++ (mi ++ Str.ofString "..." ++ en)).cps.toList = _
  simp only [Str.cps_append, Array.toList_append, dots_toList]
section
variable {fr mi en : Str}
theorem at_dot (h1 : 46 ∉ fr.cps.toList) (h2 : 46 ∉ mi.cps.toList) (h3 : 46 ∉ en.cps.toList) (j : Nat)
    (h : (fr.cps.toList ++ [46, 46, 46] ++ (mi.cps.toList ++ [46, 46, 46] ++ en.cps.toList))[j]? = some 46) :
    (fr.length ≤ j ∧ j < fr.length + 3) ∨ (fr.length + 3 + mi.length ≤ j ∧ j < fr.length + 3 + mi.length + 3) := by
  have lf := len_toList fr
  have lm := len_toList mi
  by_cases c1 : j < fr.length
  · rw [List.append_assoc, List.getElem?_append_left (by omega)] at h
    exact absurd (List.mem_of_getElem? h) h1
  · by_cases c2 : j < fr.length + 3
    · exact .inl ⟨by omega, c2⟩
    · rw [List.getElem?_append_right (by simp only [List.length_append, List.length_cons, List.length_nil]; omega)] at h
      have e : j - (fr.cps.toList ++ [46, 46, 46]).length = j - (fr.length + 3) := by rw [List.length_append, lf]; rfl
      rw [e] at h
      by_cases c3 : j < fr.length + 3 + mi.length
      · rw [List.append_assoc, List.getElem?_append_left (by omega)] at h
        exact absurd (List.mem_of_getElem? h) h2
      · by_cases c4 : j < fr.length + 3 + mi.length + 3
        · exact .inr ⟨by omega, c4⟩
        · rw [List.getElem?_append_right (by simp only [List.length_append, List.length_cons, List.length_nil]; omega)] at h
          exact absurd (List.mem_of_getElem? h) h3
theorem at_want (h1 : 46 ∉ fr.cps.toList) (h2 : 46 ∉ mi.cps.toList) (h3 : 46 ∉ en.cps.toList) (hm : 1 ≤ mi.length) (i : Nat) :
    StrLaws.At (Txt.join (Str.ofString "...") [fr, mi, en]) (Str.ofString "...") (Txt.join (Str.ofString "...") [fr, mi, en]).length i ↔ i = fr.length ∨ i = fr.length + 3 + mi.length := by
  have lf := len_toList fr
  have lm := len_toList mi
  rw [at_iff _ _ _ _ (Nat.le_refl _), dots_toList]
  constructor
  · rintro ⟨a, b, c, e, ha, hc⟩
    have hc0 : c = [] := List.length_eq_zero_iff.mp (by omega)
    subst hc0
    rw [List.append_nil] at e
    have hj : ∀ k, k < 3 → (Txt.join (Str.ofString "...") [fr, mi, en]).cps.toList[i + k]? = some 46 := fun k hk => by
      rw [e, List.append_assoc, List.getElem?_append_right (by omega), List.getElem?_append_left (by simp only [List.length_append, List.length_cons, List.length_nil]; omega), ha]
      have : i + k - i = k := by omega
      rw [this]
      match k, hk with
      | 0, _ => rfl
      | 1, _ => rfl
      | 2, _ => rfl
    rw [join3_toList] at hj
    have a0 := at_dot h1 h2 h3 _ (hj 0 (by omega))
    have a1 := at_dot h1 h2 h3 _ (hj 1 (by omega))
    have a2 := at_dot h1 h2 h3 _ (hj 2 (by omega))
    omega
  · rw [join3_toList]
    rintro (rfl | rfl)
    · exact ⟨fr.cps.toList, mi.cps.toList ++ [46, 46, 46] ++ en.cps.toList, [], by simp, lf, by simp⟩
    · exact ⟨fr.cps.toList ++ [46, 46, 46] ++ mi.cps.toList, en.cps.toList, [], by simp, by simp only [List.length_append, List.length_cons, List.length_nil]; omega, by simp⟩
theorem want_len : (Txt.join (Str.ofString "...") [fr, mi, en]).length = fr.length + mi.length + en.length + 6 := by
  have lf := len_toList fr
  have lm := len_toList mi
  have le := len_toList en
  rw [← len_toList, join3_toList]
  simp only [List.length_append, List.length_cons, List.length_nil]
  omega
theorem want_in (h1 : 46 ∉ fr.cps.toList) (h2 : 46 ∉ mi.cps.toList) (h3 : 46 ∉ en.cps.toList) (hm : 1 ≤ mi.length) :
    (occurrences (Txt.join (Str.ofString "...") [fr, mi, en]) (Str.ofString "...") 0 (Txt.join (Str.ofString "...") [fr, mi, en]).length 1).isEmpty = false := by
  have := (StrLaws.found_iff (Txt.join (Str.ofString "...") [fr, mi, en]) (Str.ofString "...")).mpr ⟨fr.length, (at_want h1 h2 h3 hm fr.length).mpr (.inl rfl)⟩
  simpa using this
theorem sub_eq {x y : Str} {a b : Nat} (h : (x.cps.toList.drop a).take (b - a) = y.cps.toList) : strSub x a b = y := str_eq.mpr (by rw [StrLaws.strSub_toList, h])
theorem want_split (h1 : 46 ∉ fr.cps.toList) (h2 : 46 ∉ mi.cps.toList) (h3 : 46 ∉ en.cps.toList) (hm : 1 ≤ mi.length) :
    Txt.split (Txt.join (Str.ofString "...") [fr, mi, en]) (Str.ofString "...") = [fr, mi, en] := by
  have hat := at_want h1 h2 h3 hm
  have hl := want_len (fr := fr) (mi := mi) (en := en)
  have ht := join3_toList fr mi en
  have lf := len_toList fr
  have lm := len_toList mi
  have le := len_toList en
  have hy : (Str.ofString "...").length = 3 := by decide
  generalize Txt.join (Str.ofString "...") [fr, mi, en] = x at hat hl ht
  obtain ⟨f, hc, hn⟩ := StrLaws.occ_tight x (Str.ofString "...") (by decide)
  have hcuts : occurrences x (Str.ofString "...") 0 x.length (x.length + 1) = [fr.length, fr.length + 3 + mi.length] := by
    generalize occurrences x (Str.ofString "...") 0 x.length (x.length + 1) = cuts at hc
    cases cuts with
    | nil =>
      have e : f = 0 := hc
      exact absurd ((hat _).mpr (.inl rfl)) (hn _ (by omega))
    | cons c r =>
      obtain ⟨_, hA, hno, hc⟩ := hc
      have ec : c = fr.length := by
        rcases (hat _).mp hA with e | e
        · exact e
        · exact absurd ((hat fr.length).mpr (.inl rfl)) (hno _ (Nat.zero_le _) (by omega))
      subst ec
      rw [hy] at hc
      cases r with
      | nil =>
        have e : f = fr.length + 3 := hc
        exact absurd ((hat _).mpr (.inr rfl)) (hn _ (by omega))
      | cons d r =>
        obtain ⟨hd, hA, hno, hc⟩ := hc
        have ed : d = fr.length + 3 + mi.length := by
          rcases (hat _).mp hA with e | e
          · omega
          · exact e
        subst ed
        cases r with
        | nil => rfl
        | cons e r =>
          obtain ⟨he, hA, _, _⟩ := hc
          rw [hy] at he
          rcases (hat _).mp hA with q | q <;> omega
  have hk : PySem.Builtin.Str.strKind (Str.ofString "...") = 1 := by decide +kernel
  unfold Txt.split
  rw [if_neg, if_neg, StrLaws.partsBetween_eq, hcuts, hy]
  · unfold StrLaws.partsFrom StrLaws.partsFrom StrLaws.partsFrom
    rw [sub_eq (y := fr), sub_eq (y := mi), sub_eq (y := en)]
    · have e : fr.length + 3 + mi.length + 3 = (fr.cps.toList ++ [46, 46, 46] ++ (mi.cps.toList ++ [46, 46, 46])).length := by simp only [List.length_append, List.length_cons, List.length_nil]; omega
      rw [ht, ← List.append_assoc, e, List.drop_left, List.take_of_length_le]
      rw [← e]; omega
    · have e : fr.length + 3 = (fr.cps.toList ++ [46, 46, 46]).length := by simp only [List.length_append, List.length_cons, List.length_nil]; omega
      rw [ht, e, List.drop_left, List.append_assoc]
      have e2 : (fr.cps.toList ++ [46, 46, 46]).length + mi.length - (fr.cps.toList ++ [46, 46, 46]).length = mi.cps.toList.length := by omega
      rw [e2, List.take_left]
    · rw [ht, List.drop_zero, Nat.sub_zero, ← lf, List.append_assoc, List.take_left]
  · rw [hcuts]; exact Bool.false_ne_true
  · rw [Bool.or_eq_true, decide_eq_true_eq, decide_eq_true_eq, hk]
    have : 1 ≤ PySem.Builtin.Str.strKind x := by
      unfold PySem.Builtin.Str.strKind; split
      · omega
      · split <;> omega
    omega
theorem signs_no46 {la lb : Nat} {x : Str} (h : SignsIn la lb x) (ha : la ≠ 46) (hb : lb ≠ 46) : 46 ∉ x.cps.toList := fun hm => by
  rcases h _ hm with e | e
  · exact ha e.symm
  · exact hb e.symm
end
end
theorem dots_len : (Str.ofString "...").length = 3 := by decide
theorem news_drop3 {h₀ h : Heap} {L : Addr} {a b c d : Addr × Obj} {r : List (Addr × Obj)} (N : News h₀ L h (a :: b :: c :: d :: r)) : News h₀ L h (a :: r) := fun p hp => N p (by
  rcases List.mem_cons.mp hp with rfl | hp
  · exact List.mem_cons_self
  · exact List.mem_cons_of_mem _ (List.mem_cons_of_mem _ (List.mem_cons_of_mem _ (List.mem_cons_of_mem _ hp))))
theorem news_drop5 {h₀ h : Heap} {L : Addr} {a b c d e x y : Addr × Obj} {r : List (Addr × Obj)} (N : News h₀ L h (a :: b :: c :: d :: e :: x :: y :: r)) : News h₀ L h (x :: r) := fun p hp => N p (by
  rcases List.mem_cons.mp hp with rfl | hp
  · simp
  · simp [hp])
theorem take_snoc {l : List Str} {i : Nat} {x : Str} (h : l[i]? = some x) : (l.take (i + 1)).filter (fun x => x != Str.ofString "") = (l.take i).filter (fun x => x != Str.ofString "") ++ (if (x != Str.ofString "") = true then [x] else []) := by
  rw [List.take_add_one, h, List.filter_append]
  simp [List.filter_cons]
section
variable {g h h₂ : Heap} {L : Addr} {m : Str → Option Value} {news new : List (Addr × Obj)}
theorem fr_upL (F : Fr g L h m) (U : Up [L] h h₂) : Fr g L h₂ m :=
  ⟨Heap.UpToSlots.ns (fun b o e hd => U.2 b o e hd) F.ns, fun b o e => U.1 b o (fun hm => by
    rw [List.mem_singleton.mp hm] at e
    exact absurd (Heap.lt_size e) (Nat.not_lt.mpr F.above)) (F.keep b o e), F.above⟩
theorem news_upL (N : News g L h news) (U : Up [L] h h₂) : News g L h₂ news := fun p hp =>
  ⟨U.1 _ _ (fun hm => (N p hp).2.1 (List.mem_singleton.mp hm)) (N p hp).1, (N p hp).2⟩
theorem news_add (F : Fr g L h m) (N : News g L h₂ news) (hn : ∀ p ∈ new, h₂.get? p.1 = some p.2 ∧ @LE.le Nat _ h.objs.size p.1) : News g L h₂ (new ++ news) := fun p hp => by
  rcases List.mem_append.mp hp with hp | hp
  · obtain ⟨a, b⟩ := hn p hp
    have hL : @LT.lt Nat _ L h.objs.size := F.ns.lt
    have hLp : @LT.lt Nat _ L p.1 := Nat.lt_of_lt_of_le hL b
    refine ⟨a, Ne.symm (Nat.ne_of_lt hLp), ?_⟩
    cases e : g.get? p.1 with
    | none => rfl
    | some o => exact absurd (Heap.lt_size e) (Nat.not_lt.mpr (Nat.le_trans F.above (Nat.le_of_lt hLp)))
  · exact N p hp
end
theorem int_of6 {c0 c1 c2 c3 c4 c5 : Int} {t0 t1 t2 t3 t4 t5 : Tok} {i : Nat} {v : Value} (h : #[Value.int c0 t0, .int c1 t1, .int c2 t2, .int c3 t3, .int c4 t4, .int c5 t5][i]? = some v) : ∃ c t, v = .int c t := by
  match i, h with
  | 0, h => exact ⟨_, _, (Option.some.inj h).symm⟩
  | 1, h => exact ⟨_, _, (Option.some.inj h).symm⟩
  | 2, h => exact ⟨_, _, (Option.some.inj h).symm⟩
  | 3, h => exact ⟨_, _, (Option.some.inj h).symm⟩
  | 4, h => exact ⟨_, _, (Option.some.inj h).symm⟩
  | 5, h => exact ⟨_, _, (Option.some.inj h).symm⟩
  | n + 6, h => simp at h
theorem lt2_signs (la lb : Nat) (r : Int) : SignsIn la lb (lt2 la lb r) := fun c hc => by
  unfold lt2 at hc
  have : c = if r.fmod 2 = 0 then la else lb := by simpa using hc
  rw [this]; split
  · exact .inl rfl
  · exact .inr rfl
theorem news_mix {g h : Heap} {L D : Addr} {o : Obj} {ls r : List (Addr × Obj)} {a b c p0 p1 : Addr × Obj} (N : News g L h (((D, o) :: ls) ++ (a :: b :: c :: r))) (h0 : p0 ∈ ls) (h1 : p1 ∈ ls) : News g L h ((D, o) :: p0 :: p1 :: b :: r) := fun p hp => N p (by
  simp only [List.mem_cons, List.cons_append, List.mem_append] at hp ⊢
  rcases hp with h | h | h | h | h
  · exact .inl h
  · subst h; exact .inr (.inl h0)
  · subst h; exact .inr (.inl h1)
  · exact .inr (.inr (.inr (.inl h)))
  · exact .inr (.inr (.inr (.inr (.inr h)))))
theorem rows2 {fr mi en : Str} {tails starts : List Str} {la lb : Nat} {ys : List Value} {ls : List (Addr × Obj)} (h : Rows fr mi en tails starts #[la, lb] ys ls) (hl : ys.length = 2) :
    ∃ D0 D1 zs0 zs1, ys = [.ref D0, .ref D1] ∧ (D0, LCg.lst zs0) ∈ ls ∧ (D1, LCg.lst zs1) ∈ ls ∧ RowT fr mi en tails starts la zs0 ∧ RowT fr mi en tails starts lb zs1 := by
  match ys, hl with
  | [y0, y1], _ =>
    obtain ⟨D0, zs0, c0, rfl, hm0, hc0, hr0⟩ := h 0 y0 rfl
    obtain ⟨D1, zs1, c1, rfl, hm1, hc1, hr1⟩ := h 1 y1 rfl
    have e0 : la = c0 := by simpa using hc0
    have e1 : lb = c1 := by simpa using hc1
    subst e0; subst e1
    exact ⟨D0, D1, zs0, zs1, rfl, hm0, hm1, hr0, hr1⟩
theorem told_signs {n : Nat} {P : Str → Prop} {ys : List Value} (h : Told n (fun _ y => ∃ x t, y = Value.str x t ∧ P x) ys) : ∃ l : List (Str × Tok), ys = strValues l ∧ l.length = n ∧ ∀ p ∈ l, P p.1 := by
  obtain ⟨hl, hv⟩ := h
  have key : ∀ (ys : List Value), (∀ y ∈ ys, ∃ x t, y = Value.str x t ∧ P x) → ∃ l : List (Str × Tok), ys = strValues l ∧ ∀ p ∈ l, P p.1 := by
    intro ys
    induction ys with
    | nil => exact fun _ => ⟨[], rfl, fun p hp => nomatch hp⟩
    | cons y ys ih =>
      intro hy
      obtain ⟨x, t, rfl, hp⟩ := hy y List.mem_cons_self
      obtain ⟨l, rfl, hq⟩ := ih fun z hz => hy z (List.mem_cons_of_mem _ hz)
      refine ⟨(x, t) :: l, rfl, fun p hp' => ?_⟩
      rcases List.mem_cons.mp hp' with rfl | hp'
      · exact hp
      · exact hq p hp'
  obtain ⟨l, rfl, hp⟩ := key ys fun y hy => by
    obtain ⟨i, hi⟩ := List.getElem?_of_mem hy
    exact hv i y hi
  exact ⟨l, rfl, by rw [← hl, strValues_length], hp⟩
theorem sum_one {l : List (Str × Tok)} (h : ∀ p ∈ l, p.1.length = 1) : ((l.map (·.1)).map (·.length)).sum = l.length := by
  induction l with
  | nil => rfl
  | cons p l ih =>
    simp only [List.map_cons, List.sum_cons, List.length_cons]
    rw [h p List.mem_cons_self, ih fun q hq => h q (List.mem_cons_of_mem _ hq)]; omega
theorem joinE_len (l : List Str) : (Txt.join (Str.ofString "") l).length = (l.map (·.length)).sum := by
  rw [← len_toList, join_toList, List.length_flatten, List.map_map]
  congr 1
theorem joinE_signs {la lb : Nat} {l : List (Str × Tok)} (h : ∀ p ∈ l, SignsIn la lb p.1) : SignsIn la lb (Txt.join (Str.ofString "") (l.map (·.1))) := fun c hc => by
  rw [join_toList] at hc
  obtain ⟨q, hq, hc⟩ := List.mem_flatten.mp hc
  obtain ⟨x, hx, rfl⟩ := List.mem_map.mp hq
  obtain ⟨p, hp, rfl⟩ := List.mem_map.mp hx
  exact h p hp c hc
theorem whole_row {fr mi en : Str} : (Txt.join (Str.ofString "") (piecesS fr mi en)).cps.toList = Pl.row fr.cps.toList mi.cps.toList en.cps.toList := by
  rw [join_toList]
  have key : ∀ l : List Str, ((l.filter fun x => x != Str.ofString "").map fun x => x.cps.toList).flatten = (l.map fun x => x.cps.toList).flatten := by
    intro l
    induction l with
    | nil => rfl
    | cons x l ih =>
      rw [List.filter_cons]
      split
      · simp only [List.map_cons, List.flatten_cons, ih]
      · rename_i h
        have : x = Str.ofString "" := by simpa using h
        rw [ih, this]
        simp only [List.map_cons, List.flatten_cons, emptyS, List.nil_append]
  unfold piecesS
  rw [key]
  simp [Pl.row]
theorem whole_len {fr mi en : Str} : (Txt.join (Str.ofString "") (piecesS fr mi en)).length = fr.length + mi.length + en.length := by
  rw [← len_toList, whole_row]
  unfold Pl.row
  rw [List.length_append, List.length_append, len_toList, len_toList, len_toList]
def leftL (fr mi en : Str) (u : List Nat) : Nat := Pl.left fr.cps.toList mi.cps.toList en.cps.toList (Pl.run fr.cps.toList mi.cps.toList en.cps.toList u)
section
variable {fr mi en whole : Str} {la lb : Nat}
theorem mi_ne (hm : 1 ≤ mi.length) : mi.cps.toList ≠ [] := fun h => by
  have := len_toList mi; rw [h] at this; simp at this; omega
theorem mi_neS (hm : 1 ≤ mi.length) : mi ≠ Str.ofString "" := fun h => by
  rw [h] at hm; exact absurd hm (by decide)
theorem match_left (hm : 1 ≤ mi.length) (got : Str) : matchW fr mi en got = decide (leftL fr mi en got.cps.toList = 0) := by
  have h := (match_takes fr mi en got).trans (Pl.takes_left fr.cps.toList mi.cps.toList en.cps.toList (mi_ne hm) got.cps.toList)
  cases e : matchW fr mi en got with
  | true => exact (decide_eq_true (h.mp e)).symm
  | false =>
    refine (decide_eq_false fun q => ?_).symm
    rw [h.mpr q] at e; cases e
theorem left_eq (hm : 1 ≤ mi.length) (got : Str) : leftW (piecesS fr mi en) fr en got = ((leftL fr mi en got.cps.toList : Nat) : Int) := left_run (mi_neS hm) got
theorem left_nil : leftL fr mi en [] = fr.length + mi.length + en.length := by
  have lf := len_toList fr
  have lm := len_toList mi
  have le := len_toList en
  unfold leftL Pl.run
  rw [List.foldl_nil]
  unfold Pl.start Pl.toF
  split
  · rename_i h
    rw [← h] at lf
    simp only [Pl.left, List.length_nil] at lf ⊢
    omega
  · simp only [Pl.left, List.length_nil]
    omega
theorem mk_toList (x : Str) : (⟨x.cps.toList.toArray⟩ : Str) = x := str_eq.mpr (by simp)
theorem mk_list (l : List Nat) : (⟨l.toArray⟩ : Str).cps.toList = l := by simp
theorem slice_from_list (x : Str) (k : Nat) (hk : k ≤ x.length) : (Txt.slice x (some (k : Int)) none).cps.toList = x.cps.toList.drop k := by
  rw [slice_from_eq (b := (x.length : Int)) (by omega) (by omega) rfl]
  have e : ((x.length : Int) - (k : Int)).toNat = x.length - k := by omega
  rw [e, Int.toNat_natCast]
  simp only [List.toList_toArray]
  rw [List.take_of_length_le]
  rw [List.length_drop, len_toList]; omega
theorem slice_to_list (x : Str) (k : Nat) (hk : k ≤ x.length) : (Txt.slice x none (some (k : Int))).cps.toList = x.cps.toList.take k := by
  rw [beq_iff_eq.mp (slice_closes_toL (x := x) (j := (k : Int)) (by omega) (by omega))]
  simp
theorem slice_mid_list (x : Str) (a b : Nat) (ha : a ≤ b) (hb : b ≤ x.length) : (Txt.slice x (some (a : Int)) (some (b : Int))).cps.toList = (x.cps.toList.drop a).take (b - a) := by
  rw [beq_iff_eq.mp (slice_closesL (x := x) (i := (a : Int)) (j := (b : Int)) (by omega) (by omega) (by omega))]
  have e : ((b : Int) - (a : Int)).toNat = b - a := by omega
  rw [e, Int.toNat_natCast]
theorem tailsS_at {k : Nat} (hk : k ≤ whole.length) : ((tailsS whole).map fun x => x.cps.toList)[k]? = some (whole.cps.toList.drop (whole.length - k)) := by
  unfold tailsS
  rw [List.map_map, List.getElem?_map, List.getElem?_range (by omega)]
  simp only [Option.map_some, Function.comp]
  rw [slice_from_list whole (whole.length - k) (by omega)]
theorem startsS_at {k : Nat} (hk : k ≤ whole.length) : (startsS whole)[k]? = some (Txt.slice whole none (some ((whole.length - k : Nat) : Int))) := by
  unfold startsS
  rw [List.getElem?_map, List.getElem?_range (by omega)]
  rfl
theorem startsF_at {front : Str} {k : Nat} (hk : k ≤ whole.length) : (startsF whole front la lb)[k]? = some (Txt.slice whole none (some ((whole.length - k : Nat) : Int))) := by
  unfold startsF
  split
  · rw [List.getElem?_append_left (by rw [startsS_length]; omega), startsS_at hk]
  · exact startsS_at hk
theorem firstT_fst1 : ∀ bs : List Bool, firstT bs = Pl.fst1 bs := by
  intro bs
  induction bs with
  | nil => rfl
  | cons b r ih =>
    cases b with
    | true => rfl
    | false => show firstT r + 1 = Pl.fst1 r + 1; rw [ih]
theorem item_head {x : Str} {c : Nat} {r : List Nat} (h : x.cps.toList = c :: r) : Txt.item x 0 = ⟨#[c]⟩ := by
  have h0 : x.cps[0]? = some c := by
    have := congrArg (fun l : List Nat => l[0]?) h
    simpa using this
  unfold Txt.item Txt.charAt
  rw [StrLaws.at_nonneg (x := x) (i := 0) (n := c) (by omega) (by simpa using h0)]
  rfl
theorem wrong_not {front : Str} (hab : la ≠ lb) (hs : SignsIn la lb front) (hne : front.cps.toList ≠ []) : ∃ x, (wrongS front la lb).cps.toList = [x] ∧ ¬ [x] <+: front.cps.toList := by
  cases hf : front.cps.toList with
  | nil => exact absurd hf hne
  | cons c r =>
    have hi := item_head hf
    have hc := hs c (by rw [hf]; exact List.mem_cons_self)
    unfold wrongS
    rw [hi]
    by_cases h : c = la
    · subst h
      refine ⟨lb, by rw [if_pos (by simp)], fun hp => ?_⟩
      obtain ⟨t, ht⟩ := hp
      simp at ht
      exact hab ht.1.symm
    · have hcb : c = lb := hc.resolve_left h
      subst hcb
      refine ⟨la, by rw [if_neg (by simpa using h)], fun hp => ?_⟩
      obtain ⟨t, ht⟩ := hp
      simp at ht
      exact h ht.1.symm
theorem table_at (hm : 1 ≤ mi.length) (hs : SignsIn la lb fr) (hrow : whole.cps.toList = Pl.row fr.cps.toList mi.cps.toList en.cps.toList) (hab : la ≠ lb) {c : Nat} {zs : List Value}
    (hr : RowT fr mi en (tailsS whole) (startsF whole fr la lb) c zs) (u : List Nat) : ∃ t, zs[leftL fr mi en u]? = some (.int ((leftL fr mi en (u ++ [c]) : Nat) : Int) t) := by
  have hwl : whole.length = (Pl.row fr.cps.toList mi.cps.toList en.cps.toList).length := by rw [← hrow, len_toList]
  have key := Pl.table_run fr.cps.toList mi.cps.toList en.cps.toList (mi_ne hm) (mt := fun u => matchW fr mi en ⟨u.toArray⟩) (fun u => by have := match_takes fr mi en ⟨u.toArray⟩; rwa [mk_list] at this)
    (tails := (tailsS whole).map fun x => x.cps.toList) (by rw [List.length_map, tailsS_length, hwl]) (fun k hk => by rw [← hwl, ← hrow]; exact tailsS_at (by omega))
    (starts := (startsF whole fr la lb).map fun x => x.cps.toList) (fun k hk => by
      rw [List.getElem?_map, startsF_at (by omega), ← hwl, ← hrow]
      simp only [Option.map_some]
      rw [slice_to_list whole _ (by omega)])
    (fun hne => by
      obtain ⟨x, hx, hn⟩ := wrong_not hab hs hne
      refine ⟨x, ?_, hn⟩
      have hf : (fr != Str.ofString "") = true := ne_empty.mpr hne
      unfold startsF
      rw [if_pos hf, List.getElem?_map, List.getElem?_append_right (by rw [startsS_length]; omega), startsS_length, ← hwl, Nat.sub_self]
      simp only [List.getElem?_cons_zero, Option.map_some, hx]) u c
  obtain ⟨hzl, hz⟩ := hr
  have e1 : Pl.left fr.cps.toList mi.cps.toList en.cps.toList (Pl.run fr.cps.toList mi.cps.toList en.cps.toList u) = leftL fr mi en u := rfl
  have e2 : Pl.left fr.cps.toList mi.cps.toList en.cps.toList (Pl.run fr.cps.toList mi.cps.toList en.cps.toList (u ++ [c])) = leftL fr mi en (u ++ [c]) := rfl
  rw [e1, e2] at key
  rw [List.getElem?_map, List.getElem?_map] at key
  cases hst : (startsF whole fr la lb)[leftL fr mi en u]? with
  | none => rw [hst] at key; cases key
  | some st =>
    rw [hst] at key
    simp only [Option.map_some, Option.some.injEq] at key
    have hlt : leftL fr mi en u < zs.length := by rw [hzl]; exact (List.getElem?_eq_some_iff.mp hst).1
    obtain ⟨st', t, hst', e⟩ := hz _ _ (List.getElem?_eq_getElem hlt)
    rw [hst] at hst'
    cases hst'
    refine ⟨t, ?_⟩
    rw [List.getElem?_eq_getElem hlt, e]
    have : needF fr mi en (tailsS whole) (st ++ ⟨#[c]⟩) = leftL fr mi en (u ++ [c]) := by
      rw [← key]
      unfold needF
      rw [firstT_fst1, List.map_map]
      congr 1
      refine List.map_congr_left fun tlx _ => ?_
      simp only [Function.comp]
      congr 1
      refine str_eq.mpr ?_
      simp [Str.cps_append]
    rw [this]
end
section
variable {prog : Program} {w : World} {A : Around} {E : Value → Shared → Prop} {s : Shared} {env : Env} {h₀ : Heap} {x : Str} {px pos : Pos} {iter : PySem.Expr} {body : List Stmt} {m : Str → Option Value} {news : List (Addr × Obj)} {Q : Flow → Shared → Prop}
def RangeP (h₀ : Heap) (L : Addr) (m : Str → Option Value) (news : List (Addr × Obj)) (s : Shared) (a b : Int) (xv : Value) (s₁ : Shared) : Prop :=
  ∃ r t u v h₁ tk₁, xv = .ref r ∧ s₁ = { s with heap := h₁, toks := tk₁ } ∧ IsRange h₁ r a b 1 t u v ∧ Fr h₀ L h₁ m ∧ News h₀ L h₁ news
theorem for_rangeM {a b : Int} {n : Nat} (J : (Str → Option Value) → Nat → (Str → Option Value) → Prop) (hh : A.handled = none) (_F : Fr h₀ env.locals s.heap m) (_N : News h₀ env.locals s.heap news)
    (hi : wpAny (model prog w) A (eval iter env) (RangeP h₀ env.locals m news s a b) E s)
    (hsm : Builtin.Range.small a b 1 = true) (hn : Builtin.Range.rangeSize a b 1 = (n : Int))
    (hx : env.kindOf x = some .local) (hp : (env.scope.kind == .class || (env.scope.kind == .module && env.locals != env.globals)) = false)
    (h0 : J m 0 m)
    (step : ∀ i t m₁ h₁ tk₁ I oI, i < n → J m i m₁ → Fr h₀ env.locals h₁ (fun y => if y = x then some (.int (a + (i : Nat)) t) else m₁ y) → News h₀ env.locals h₁ ((I, oI) :: news) → (∀ p ∈ news, p.1 < I) →
      wpAny (model prog w) A (execs body env) (StepPost h₀ env.locals s I oI news (J m (i + 1)) (QR (model prog w) A env Q E)) (fun _ _ => False) { s with heap := h₁, toks := tk₁ })
    (done : ∀ m₁ h₁ tk₁, J m n m₁ → Fr h₀ env.locals h₁ m₁ → News h₀ env.locals h₁ news → Q .next { s with heap := h₁, toks := tk₁ })
    (hs : ∀ x, foldedSetIterable iter env x = pure x := by intro _; rfl) :
    wpAny (model prog w) A (exec (.For (.Name x px) iter body [] pos) env) Q E s :=
  for_range (J m) hh hi hsm hn hx hp h0 step done hs
end
theorem range_small {i b : Int} {k : Nat} (hi : i = (k : Int)) (hk : k ≤ 6) (hb : b = 7) : Builtin.Range.small i b 1 = true := by
  subst hi; subst hb
  have : ∀ k : Nat, k ≤ 6 → Builtin.Range.small (k : Int) 7 1 = true := by decide +kernel
  exact this k hk
theorem range_size {i b : Int} {k : Nat} (hi : i = (k : Int)) (hk : k ≤ 6) (hb : b = 7) : Builtin.Range.rangeSize i b 1 = ((7 - k : Nat) : Int) := by
  subst hi; subst hb
  have : ∀ k : Nat, k ≤ 6 → Builtin.Range.rangeSize (k : Int) 7 1 = ((7 - k : Nat) : Int) := by decide +kernel
  exact this k hk
def stM (m : Str → Option Value) (vb vl vp vt : Option Value) : Str → Option Value :=
  fun z => if z = Str.ofString "told" then vt else if z = Str.ofString "left" then vl else if z = Str.ofString "place" then vp else if z = Str.ofString "begin" then vb else m z
def LawJ1 (m : Str → Option Value) (_ : Nat) (m₁ : Str → Option Value) : Prop := ∃ vb vl vp vt, m₁ = stM m vb vl vp vt
def stI (m : Str → Option Value) (vl vp vt : Option Value) : Str → Option Value :=
  fun z => if z = Str.ofString "told" then vt else if z = Str.ofString "left" then vl else if z = Str.ofString "place" then vp else m z
theorem stM_self (m : Str → Option Value) : m = stM m (m (Str.ofString "begin")) (m (Str.ofString "left")) (m (Str.ofString "place")) (m (Str.ofString "told")) := by
  funext z
  unfold stM
  split
  · rename_i h; rw [h]
  · split
    · rename_i h; rw [h]
    · split
      · rename_i h; rw [h]
      · split
        · rename_i h; rw [h]
        · rfl
theorem stI_self {m : Str → Option Value} {v : Option Value} (hv : m (Str.ofString "left") = v) : m = stI m v (m (Str.ofString "place")) (m (Str.ofString "told")) := by
  funext z
  unfold stI
  split
  · rename_i h; rw [h]
  · split
    · rename_i h; rw [h, hv]
    · split
      · rename_i h; rw [h]
      · rfl
theorem stI_stM {m : Str → Option Value} {b0 l0 vb vl vp vt k vp2 vt2 : Option Value} :
    stI (fun y => if y = Str.ofString "left" then l0 else if y = Str.ofString "begin" then b0 else stM m vb vl vp vt y) k vp2 vt2 = stM m b0 k vp2 vt2 := by
  funext z
  unfold stI
  by_cases h1 : z = Str.ofString "told"
  · rw [if_pos h1]; unfold stM; rw [if_pos h1]
  · rw [if_neg h1]
    by_cases h2 : z = Str.ofString "left"
    · rw [if_pos h2]; unfold stM; rw [if_neg h1, if_pos h2]
    · rw [if_neg h2]
      by_cases h3 : z = Str.ofString "place"
      · rw [if_pos h3]; unfold stM; rw [if_neg h1, if_neg h2, if_pos h3]
      · rw [if_neg h3]
        dsimp only
        rw [if_neg h2]
        by_cases h4 : z = Str.ofString "begin"
        · rw [if_pos h4]; unfold stM; rw [if_neg h1, if_neg h2, if_neg h3, if_pos h4]
        · rw [if_neg h4]; unfold stM; rw [if_neg h1, if_neg h2, if_neg h3, if_neg h4, if_neg h1, if_neg h2, if_neg h3, if_neg h4]
theorem told_ne (k : Nat) : (decide (k = 0) != ((k : Int) == 0)) = false := by
  cases k with
  | zero => rfl
  | succ n =>
    have h1 : decide (n + 1 = 0) = false := decide_eq_false (Nat.succ_ne_zero n)
    have h2 : ((((n + 1 : Nat) : Int)) == 0) = false := beq_eq_false_iff_ne.mpr (by omega)
    rw [h1, h2]; rfl
theorem stI_step {m : Str → Option Value} {l p t l' p' t' : Option Value} :
    (fun y => if y = Str.ofString "left" then l' else if y = Str.ofString "told" then t' else if y = Str.ofString "place" then p' else stI m l p t y) = stI m l' p' t' := by
  funext z
  unfold stI
  by_cases h1 : z = Str.ofString "told"
  · have h2 : z ≠ Str.ofString "left" := by rw [h1]; decide
    rw [if_neg h2, if_pos h1, if_pos h1]
  · by_cases h2 : z = Str.ofString "left"
    · rw [if_pos h2, if_neg h1, if_pos h2]
    · by_cases h3 : z = Str.ofString "place"
      · rw [if_neg h2, if_neg h1, if_pos h3, if_neg h1, if_neg h2, if_pos h3]
      · rw [if_neg h2, if_neg h1, if_neg h3, if_neg h1, if_neg h2, if_neg h3, if_neg h1, if_neg h2, if_neg h3]
theorem stI_step0 {m : Str → Option Value} {l p t p' t' : Option Value} :
    (fun y => if y = Str.ofString "told" then t' else if y = Str.ofString "place" then p' else stI m l p t y) = stI m l p' t' := by
  funext z
  unfold stI
  by_cases h1 : z = Str.ofString "told"
  · rw [if_pos h1, if_pos h1]
  · by_cases h2 : z = Str.ofString "left"
    · have h3 : z ≠ Str.ofString "place" := by rw [h2]; decide
      rw [if_neg h1, if_neg h3, if_neg h1, if_pos h2, if_neg h1, if_pos h2]
    · by_cases h3 : z = Str.ofString "place"
      · rw [if_neg h1, if_pos h3, if_neg h1, if_neg h2, if_pos h3]
      · rw [if_neg h1, if_neg h3, if_neg h1, if_neg h2, if_neg h3, if_neg h1, if_neg h2, if_neg h3]
theorem take_more {T : List Nat} {i j c : Nat} (h : T[i + j]? = some c) : (T.drop i).take (j + 1) = (T.drop i).take j ++ [c] := by
  rw [List.take_add_one, List.getElem?_drop, h]; rfl
theorem ints_get {vs : List Value} {ns : List Int} (h : IntsAre vs ns) : ∀ (i : Nat) (v : Value), vs[i]? = some v → ∃ c t, v = .int c t := by
  induction h with
  | nil => intro i v e; simp at e
  | cons _ _ _ ih =>
    intro i v e
    cases i with
    | zero => exact ⟨_, _, (Option.some.inj e).symm⟩
    | succ i => exact ih i v (by simpa using e)
theorem ints_nine {vs : List Value} {ns : List Int} (h : IntsAre vs (ns.take 9)) : vs.length ≤ 9 := by
  rw [h.length, List.length_take]; omega
theorem small_mod (c : Int) (t : Tok) : SmallInt (.int (c.fmod (10 ^ Int.toNat 6)) t) := by
  have e : (10 : Int) ^ Int.toNat 6 = 1000000 := by decide
  rw [e]
  exact ⟨_, _, rfl, Int.fmod_nonneg_of_pos _ (by decide), Int.fmod_lt_of_pos _ (by decide)⟩
theorem news_drop2 {h₀ h : Heap} {L : Addr} {a b : Addr × Obj} {r : List (Addr × Obj)} (N : News h₀ L h (a :: b :: r)) : News h₀ L h r := fun p hp => N p (List.mem_cons_of_mem _ (List.mem_cons_of_mem _ hp))
def LawJ2 (fr mi en : Str) (T : List Nat) (i : Nat) (m : Str → Option Value) (j : Nat) (m₁ : Str → Option Value) : Prop :=
  ∃ (k : Nat) (tk : Tok) (vp vt : Option Value), m₁ = stI m (some (.int (k : Int) tk)) vp vt ∧ (j ≤ 6 - i → k = leftL fr mi en ((T.drop i).take j))
section
variable {prog : Program} {w : World} {A : Around} {E : Value → Shared → Prop} {s : Shared} {Q : Value → Shared → Prop} {value slice : PySem.Expr} {u t : Tok} {x : Str}
theorem len_tok (hx : x.length ≤ 1000) (h : ∀ t k, 0 < k → Q (.int (x.length : Int) t) { s with toks := k }) : wpAny (model prog w) A (call (.builtin "len") [.str x t]) Q E s :=
  P.len_str (by omega) (h _ _ (Nat.succ_pos _))
theorem item_tok {k : Nat} {c : Nat} (h0 : 0 < s.toks) (hk : k ≤ 1000) (hc : x.cps[k]? = some c) (h : ∀ t tk, t ≠ 0 → t < tk → Q (.str ⟨#[c]⟩ t) { s with toks := tk })
    (hs : subscripted slice false (.str x t) (.int (k : Int) u) = operate [.str x t, .int (k : Int) u] (getItem (.str x t) (.int (k : Int) u)) := by with_unfolding_all rfl) :
    wpAny (model prog w) A (subscriptTail value slice (.str x t) (.int (k : Int) u)) Q E s := by
  refine tail_any (typeIs_str _ _ _) F.slot_str_getitem.lookup ?_ hs
  refine P.getItem_str ?_ (StrLaws.at_nonneg (by omega) (by simpa using hc)) (h _ _ (Nat.ne_of_gt h0) (Nat.lt_succ_self _))
  rw [Bool.or_eq_false_iff, decide_eq_false_iff_not, decide_eq_false_iff_not]
  omega
end
section
variable {w : World} {mean : ExcName → Option Value} {mg mb : Str → Option Value} {s : Shared} {dp un : Nat} {gd : Option (List Code)} {cn : Str} {cs : Scope} {a L₀ : Addr} {ccd : Value} {cl : List (Str × Addr)} {outer : List Env} {h₀ : Heap} {L : Addr} {m : Str → Option Value} {news : List (Addr × Obj)} {Q E : Value → Shared → Prop}
theorem use_index {la lb c : Nat} {t u : Tok} (F : Fr h₀ L s.heap m) (X : (hd.heap_39 w.params).In h₀) (T : Top hd.view_39 (looseW hd.view_39 []) mean mg mb h₀) (N : News h₀ L s.heap news)
   (hd : dp + 2 < recursionLimit) (hu : un + 20 < cLine) (hc : c = la ∨ c = lb) (hne : la ≠ lb) (ht0 : t ≠ 0) (ht : t < s.toks)
   (h : ∀ t h' tk', Fr h₀ L h' m → News h₀ L h' news → Q (.int (if c = la then 0 else 1) t) {s with heap := h', toks := tk'}) :
   wpAny (model PySem.Challenge.rw_pg0064_01.row.prog w) (ktrTop dp un gd cn cs L₀ a ccd cl outer) (call (.ref 35) [.str ⟨#[la, lb]⟩ u, .str ⟨#[c]⟩ t]) Q E s :=
  index_str_ok w mean mg mb s la lb c t u hc hne ht0 ht dp un gd cn cs L₀ a ccd cl outer Q E (X.keeps F.keep) (T.keeps F.keep) hd hu fun t h' tk' st => h t h' tk' (F.keeps st) (N.grown st)
theorem use_get {pa : Addr} {its : List Value} {i : Nat} {v : Value} {t : Tok} (F : Fr h₀ L s.heap m) (X : (hd.heap_39 w.params).In h₀) (T : Top hd.view_39 (looseW hd.view_39 []) mean mg mb h₀) (N : News h₀ L s.heap news)
   (hd : dp + 2 < recursionLimit) (hu : un + 20 < cLine) (hm : (pa, LCg.lst its) ∈ news) (hsz : its.length ≤ 100) (hv : its[i]? = some v)
   (h : ∀ h' tk', Fr h₀ L h' m → News h₀ L h' news → Q v {s with heap := h', toks := tk'}) :
   wpAny (model PySem.Challenge.rw_pg0064_01.row.prog w) (ktrTop dp un gd cn cs L₀ a ccd cl outer) (call (.ref 28) [.ref pa, .int (i : Int) t]) Q E s :=
  getitem_ok w mean mg mb s pa its.toArray i v t (by simpa using hv) (by simpa using hsz) ⟨_, (N _ hm).1, rfl, _, rfl⟩ dp un gd cn cs L₀ a ccd cl outer Q E (X.keeps F.keep) (T.keeps F.keep) hd hu fun h' tk' st => h h' tk' (F.keeps st) (N.grown st)
theorem pieces_sum {fr mi en : Str} (hm : mi ≠ Str.ofString "") (k : Nat) : ((((piecesS fr mi en).drop k)).map (·.length)).sum ≤ fr.length + mi.length + en.length := by
  rw [← joinE_len, ← len_toList, join_toList, pieces_drop hm]
  split
  · exact Nat.le_refl _
  · split
    · omega
    · split <;> omega
theorem use_left {pa : Addr} {l : List (Str × Tok)} {fr mi en got : Str} {t1 t2 t3 : Tok} (F : Fr h₀ L s.heap m) (X : (hd.heap_39 w.params).In h₀) (T : Top hd.view_39 (looseW hd.view_39 []) mean mg mb h₀) (N : News h₀ L s.heap news)
   (hd : dp + 2 < recursionLimit) (hu : un + 20 < cLine) (hm : (pa, LCg.lst (strValues l)) ∈ news) (hl : l.map (fun p => p.1) = piecesS fr mi en) (hmi : 1 ≤ mi.length) (h1 : fr.length ≤ 2) (h2 : mi.length ≤ 3) (h3 : en.length ≤ 2) (hg : got.length ≤ 10)
   (h : ∀ t h' tk', Fr h₀ L h' m → News h₀ L h' news → Q (.int ((leftL fr mi en got.cps.toList : Nat) : Int) t) {s with heap := h', toks := tk'}) :
   wpAny (model PySem.Challenge.rw_pg0064_01.row.prog w) (ktrTop dp un gd cn cs L₀ a ccd cl outer) (call (.ref 66) [.ref pa, .str fr t1, .str en t2, .str got t3]) Q E s := by
  have hmS := mi_neS hmi
  have hlen : l.length = iM fr + 1 + (if en = Str.ofString "" then 0 else 1) := by rw [← List.length_map (f := fun p : Str × Tok => p.1), hl, pieces_len hmS]
  have hi : iM fr ≤ 1 := by unfold iM; split <;> omega
  have he : (if en = Str.ofString "" then 0 else 1) ≤ 1 := by split <;> omega
  have hd' : ∀ k, (l.drop k).map (·.1) = (piecesS fr mi en).drop k := fun k => by rw [← hl, List.map_drop]
  have hj : ∀ k, JoinOk (Str.ofString "") ((l.drop k).map (·.1)) = true := fun k => by
    rw [hd']
    refine joinOk_of ?_
    have := pieces_sum (fr := fr) (en := en) hmS k
    rw [len_emptyS]; omega
  have hk : ∀ k, (Txt.join (Str.ofString "") ((l.drop k).map (·.1))).length ≤ 100 := fun k => by
    rw [hd', joinE_len]
    have := pieces_sum (fr := fr) (en := en) hmS k
    omega
  refine left_ok w mean mg mb s fr en got pa l t1 t2 t3 ⟨_, (N _ hm).1, rfl, _, rfl⟩ (by omega) (by omega) hg hj hk (by have := hk 0; rwa [List.drop_zero] at this) (by have := hj 0; rwa [List.drop_zero] at this)
    dp un gd cn cs L₀ a ccd cl outer Q E (X.keeps F.keep) (T.keeps F.keep) hd hu fun t h' tk' st => ?_
  rw [hl, left_eq hmi]
  exact h t h' tk' (F.keeps st) (N.grown st)
end
section
local macro_rules | `(tactic| walk_at "exec Assign cons ListComp") => `(tactic| (refine Held.out ?_))
local macro_rules | `(tactic| walk_at "eval ListComp") => `(tactic| (refine Held.out ?_))
local macro_rules | `(tactic| walk_at "exec For Name Call cons nil") => `(tactic| (refine Held.out ?_))
local macro_rules | `(tactic| walk_at "CompSrc") => `(tactic| (refine Held.out ?_))
local macro_rules | `(tactic| walk_at "newList") => `(tactic| (refine Held.out ?_))
local macro_rules | `(tactic| walk_at "call builtin:len") => `(tactic| ((with_reducible show wpAny _ _ (call (Value.builtin "len") [Value.ref _]) _ _ _); (refine Held.out ?_)))
local macro_rules | `(tactic| walk_at "call builtin:len") => `(tactic| ((with_reducible show wpAny _ _ (call (Value.builtin "len") [Value.str _ _]) _ _ _); (refine len_tok (by omega) ?_); intro t' tk' htk'; (try dsimp only)))
local macro_rules | `(tactic| walk_at "subscriptTail Name Name str int") => `(tactic| (refine Held.out ?_))
local macro_rules | `(tactic| walk_at "call builtin:str.join") => `(tactic| (refine Held.out ?_))
local macro_rules | `(tactic| walk_at "subscriptTail List cons Slice ref ref") => `(tactic| (refine Held.out ?_))
local macro_rules | `(tactic| walk_at "binaryOp Add") => `(tactic| ((with_reducible show wpAny _ _ (binaryOp _ (Value.ref _) (Value.ref _)) _ _ _); (refine Held.out ?_)))
local macro_rules | `(tactic| walk_at "subscriptTail Tuple cons BinOp ref int") => `(tactic| (refine Held.out ?_))
local macro_rules | `(tactic| walk_at "call ref") => `(tactic| (refine Held.out ?_))
theorem law_holds : PySem.Challenge.rw_pg0064_01.Holds := hd (by
  k_go0
  (all_goals try k_fold)
  (rename Frag.In _ _ => X0)
  (rename Top _ _ _ _ _ _ => T0)
  k_steps
  refine Held.mk ?_
  refine LCg.Assign_ListComp_U (F₀ := by k_asm) (by rfl) (by with_unfolding_all rfl) (by rfl) (by decide) (by rfl) (by decide) (by rfl) (by rfl) (by rfl) ?_
  k_steps
  refine Held.mk ?_
  (rename IntsAre _ (List.take 9 _) => hI9)
  have hn9 := ints_nine hI9
  refine LCg.CompSrc.ledger (by rfl) (by k_asm) (by k_asm) List.mem_cons_self (by rw [List.size_toArray, sizeLine_eq]; omega) fun g' => ?_
  try dsimp only
  refine comp_rel (fun i y => SmallInt y) (Or.inr ⟨_, List.mem_cons_self, rfl, _, rfl⟩) ?_ ?_
  · intro i ys v I oI C oC D m₂ h₁ tk₁ Q' E' hi hv hC hx F₁ N₁ hQ
    obtain ⟨c, t, rfl⟩ := ints_get hI9 i v (by simpa using hv)
    k_steps
    exact hQ _ _ _ (small_mod _ _) (by k_asm) (by k_asm)
  intro ys hys
  have hys1 : ∀ v ∈ ys, SmallInt v := fun v hv => by
    obtain ⟨i, hi⟩ := List.getElem?_of_mem hv
    exact hys.2 i v hi
  have hys9 : ys.length ≤ 9 := by rw [hys.1, List.size_toArray]; exact hn9
  clear hys
  k_steps
  refine Held.mk ?_
  refine newList_K (by k_asm) (by k_asm) ?_
  intro l' h' F' N' l1
  k_lt l1
  try dsimp only
  k_steps
  refine Held.mk ?_
  refine lenNews_K (vs := ys) N' (List.mem_cons_of_mem _ List.mem_cons_self) (Nat.le_trans hys9 (by decide)) ?_
  intro t1 tk1
  k_steps
  refine Held.mk ?_
  k_dflt (refine' sliceNews_K (s := ⟨_, _, _, _, _⟩) F' N' List.mem_cons_self ?k5 ?_ ?k6; (case k5 => exact (by decide : 9 ≤ 1000)); (case k6 => with_unfolding_all rfl))
  intro D2 h2 F2 N2 l2
  k_lt l2
  try dsimp only
  k_steps
  refine Held.mk ?_
  refine addNine_K F2 N2 (List.mem_cons_of_mem _ (List.mem_cons_of_mem _ List.mem_cons_self)) List.mem_cons_self rfl hys9 hys1 (by repeat (first | exact List.forall_mem_nil _ | refine List.forall_mem_cons.mpr ⟨⟨_, _, rfl, by decide, by decide⟩, ?_⟩)) ?_
  intro D3 h3 c t hc F3 N3 l3
  try dsimp only
  have N4 := news_drop3 N3
  clear N3 N2 F2 N' F' l1 l2
  k_lt l3
  k_steps
  refine Held.mk ?_
  refine tupStr_K (by k_asm) (by k_mem) ?_ (by with_unfolding_all rfl)
  intro lt tlt hlt
  obtain ⟨la, lb, rfl, hab, ha46, hb46⟩ := letters_ok hlt
  clear hlt
  try dsimp only
  k_steps
  refine Held.mk ?_
  k_dflt (refine' use_piece 0 2 ?k1 X0 T0 ?k4 ?k5 ?k6 ?k7 ?p0 ?p1 ?p2 ?p3 ?_; (case k1 => k_asm); (case k4 => k_asm); (case k5 => ktr_room); (case k6 => ktr_units); (case k7 => k_mem); (case p0 => exact ⟨by decide, by decide, by decide, by decide⟩); (case p1 => exact ⟨by decide, by decide, by decide, by decide⟩); (case p2 => exact ⟨by decide, by decide, by decide, by decide⟩); (case p3 => exact ⟨by decide, by decide, by decide, by decide⟩))
  intro fr tfr h' tk' frlo frhi frsg F' N'
  try dsimp only
  k_steps
  refine Held.mk ?_
  k_dflt (refine' use_piece 1 3 ?k1 X0 T0 ?k4 ?k5 ?k6 ?k7 ?p0 ?p1 ?p2 ?p3 ?_; (case k1 => k_asm); (case k4 => k_asm); (case k5 => ktr_room); (case k6 => ktr_units); (case k7 => k_mem); (case p0 => exact ⟨by decide, by decide, by decide, by decide⟩); (case p1 => exact ⟨by decide, by decide, by decide, by decide⟩); (case p2 => exact ⟨by decide, by decide, by decide, by decide⟩); (case p3 => exact ⟨by decide, by decide, by decide, by decide⟩))
  intro mi tmi h' tk' milo mihi misg F' N'
  try dsimp only
  k_steps
  refine Held.mk ?_
  k_dflt (refine' use_piece 0 2 ?k1 X0 T0 ?k4 ?k5 ?k6 ?k7 ?p0 ?p1 ?p2 ?p3 ?_; (case k1 => k_asm); (case k4 => k_asm); (case k5 => ktr_room); (case k6 => ktr_units); (case k7 => k_mem); (case p0 => exact ⟨by decide, by decide, by decide, by decide⟩); (case p1 => exact ⟨by decide, by decide, by decide, by decide⟩); (case p2 => exact ⟨by decide, by decide, by decide, by decide⟩); (case p3 => exact ⟨by decide, by decide, by decide, by decide⟩))
  intro en ten h' tk' enlo enhi ensg F' N'
  try dsimp only
  have N9 := news_drop5 N'
  clear N'
  k_steps
  refine Held.mk ?_
  refine Assign_ListComp_Tup (F₀ := by k_asm) (by rfl) (by with_unfolding_all rfl) (by rfl) (by decide) (by rfl) (by decide) (by rfl) (by rfl) (by rfl) ?_
  k_steps
  refine TupSrc.intro (by rfl) (by k_asm) (by k_asm) List.mem_cons_self (by show 3 ≤ sizeLine; rw [sizeLine_eq]; decide) fun g2 => ?_
  try dsimp only
  refine comp_relT (fun i ys => ∃ l : List (Str × Tok), ys = strValues l ∧ l.map (·.1) = ([fr, mi, en].take i).filter (fun x => x != Str.ofString "")) List.mem_cons_self ⟨[], rfl, rfl⟩ ?_ ?_
  · rintro i ys v I oI C oC D m₂ h₁ tk₁ Q1 Q2 E' hi hv ⟨l, rfl, hl⟩ hC hx F₁ N₁ hadd hskip
    obtain ⟨x, tx, hxi, rfl⟩ : ∃ x t, [fr, mi, en][i]? = some x ∧ v = .str x t := by
      match i, hv with
      | 0, hv => exact ⟨fr, _, rfl, (Option.some.inj hv).symm⟩
      | 1, hv => exact ⟨mi, _, rfl, (Option.some.inj hv).symm⟩
      | 2, hv => exact ⟨en, _, rfl, (Option.some.inj hv).symm⟩
      | n + 3, hv => simp at hv
    have ht := take_snoc hxi
    rw [← hl] at ht
    k_steps
    · refine hadd _ _ _ ⟨l ++ [(x, tx)], by simp [strValues], ?_⟩ (by k_asm) (by k_asm)
      rw [ht, if_pos ‹(x != Str.ofString "") = true›, List.map_append]; rfl
    · refine hskip _ _ ⟨l, rfl, ?_⟩ (by k_asm) (by k_asm)
      rw [ht, if_neg (by rw [‹(x != Str.ofString "") = false›]; exact Bool.false_ne_true), List.append_nil]
  rintro ys ⟨l, rfl, hl⟩
  change l.map (fun p => p.1) = piecesS fr mi en at hl
  try dsimp only
  k_steps
  refine Held.mk ?_
  refine newList_K (by k_asm) (by k_asm) ?_
  intro wl hw Fw Nw lw
  k_lt lw
  try dsimp only
  k_steps
  refine Held.mk ?_
  refine joinNews_K (l := [(fr, tfr), (mi, tmi), (en, ten)]) Nw List.mem_cons_self (joinOk_of (by simp only [List.map_cons, List.map_nil, List.sum_cons, List.sum_nil, List.length_cons, List.length_nil, dots_len]; omega)) ?_
  intro tw tkw
  have h46f := signs_no46 frsg ha46 hb46
  have h46m := signs_no46 misg ha46 hb46
  have h46e := signs_no46 ensg ha46 hb46
  have hsp := want_split h46f h46m h46e milo
  have hin := want_in h46f h46m h46e milo
  have hwl := want_len (fr := fr) (mi := mi) (en := en)
  change wpAny _ _ _ _ _ _
  simp only [List.map_cons, List.map_nil]
  generalize Txt.join (Str.ofString "...") [fr, mi, en] = want at hsp hin hwl ⊢
  k_steps
  refine Held.mk ?_
  refine joinNews_K (l := l) (by k_asm) (by k_mem) (hl ▸ joinOk_of (by simp only [← joinE_len, whole_len, len_emptyS]; omega)) ?_
  intro twh tkwh
  have hrow := whole_row (fr := fr) (mi := mi) (en := en)
  have hwhl := whole_len (fr := fr) (mi := mi) (en := en)
  rw [hl]
  generalize Txt.join (Str.ofString "") (piecesS fr mi en) = whole at hrow hwhl ⊢
  k_steps
  refine Held.mk ?_
  rename_i h5 F5 N5
  k_dflt (refine' steps_ok _ _ _ _ _ want whole fr fr mi en la lb _ _ _ _ (by omega) hsp hin (by rw [hwl, sizeLine_eq]; omega) (by omega) (by omega) (by omega) _ _ _ _ _ _ _ _ _ _ _ _ _ X0 T0 F5.keep ?ff ?r ?u ?_; (case r => ktr_room); (case u => ktr_units); (case ff => exact frames_here F5 (l := []) (base := _) trivial (fun _ _ e => e) rfl rfl))
  intro D ys ls h6 tk6 hlen hrows U hpos
  obtain ⟨D0, D1, zs0, zs1, rfl, hm0, hm1, hr0, hr1⟩ := rows2 hrows hlen
  have F6 := fr_upL F5 U
  have N6 := news_mix (news_add F5 (news_upL N5 U) hpos) hm0 hm1
  clear N5 F5 hpos hm0 hm1 hrows hlen U
  k_steps
  refine Held.mk ?_
  refine LCg.ListComp_U (F₀ := by k_asm) (by rfl) (by decide) (by rfl) (by decide) (by rfl) ?_
  k_steps
  refine Held.mk ?_
  refine LCg.CompSrc.ledger (by rfl) (by k_asm) (by k_asm) List.mem_cons_self (by show 6 ≤ sizeLine; rw [sizeLine_eq]; decide) fun g3 => ?_
  try dsimp only
  refine comp_rel (fun i y => ∃ x t, y = Value.str x t ∧ (x.length = 1 ∧ SignsIn la lb x)) (Or.inr ⟨_, List.mem_cons_self, rfl, _, rfl⟩) ?_ ?_
  · intro i ys v I oI C oC D m₂ h₁ tk₁ Q' E' hi hv hC hx F₁ N₁ hQ
    obtain ⟨cv, tv, rfl⟩ := int_of6 hv
    k_steps
    exact hQ _ _ _ ⟨_, _, rfl, rfl, lt2_signs la lb cv⟩ (by k_asm) (by k_asm)
  intro ys hys
  obtain ⟨l6, rfl, hl6, hl6p⟩ := told_signs hys
  clear hys
  replace hl6 : l6.length = 6 := hl6
  try dsimp only
  k_steps
  refine Held.mk ?_
  refine joinNews_K (l := l6) (by k_asm) (by k_mem) (joinOk_of (by rw [sum_one fun p hp => (hl6p p hp).1, len_emptyS]; omega)) ?_
  intro ttx tktx
  have htxl : (Txt.join (Str.ofString "") (l6.map (·.1))).length = 6 := by rw [joinE_len, sum_one fun p hp => (hl6p p hp).1, hl6]
  have htxs := joinE_signs (la := la) (lb := lb) fun p hp => (hl6p p hp).2
  generalize Txt.join (Str.ofString "") (l6.map (·.1)) = text at htxl htxs ⊢
  k_steps
  refine Held.mk ?_
  rename_i h8 F8 N8
  have N9 := news_drop2 N8
  clear N8 hl6p hl6
  have hszw : want.length + 2 ≤ sizeLine := by rw [hwl, sizeLine_eq]; omega
  have hf100 : fr.length ≤ 100 := by omega
  have hm100 : mi.length ≤ 100 := by omega
  have he100 : en.length ≤ 100 := by omega
  have hwl10 : whole.length ≤ 10 := by omega
  have hb7 : (text.length : Int) + 1 = 7 := by omega
  refine for_rangeM (a := 0) (b := (text.length : Int) + 1) (n := 7) LawJ1 rfl F8 N9 ?hi (range_small (k := 0) rfl (by omega) hb7) (range_size (k := 0) rfl (by omega) hb7) rfl rfl ⟨_, _, _, _, stM_self _⟩ ?step ?done
  case hi =>
    k_steps
    exact ⟨_, _, _, _, _, _, rfl, rfl, by assumption, by k_asm, by k_asm⟩
  case step =>
    rintro i ti m₁ h₁ tk₁ I oI hi ⟨vb, vl, vp, vt, rfl⟩ F₁ N₁ hlt₁
    rw [Int.zero_add] at F₁
    k_steps
    refine Held.mk ?_
    rename_i tlw tkw htkw h9 F9 N9
    have hi6 : i ≤ 6 := by omega
    refine for_rangeM (a := (i : Int)) (b := (text.length : Int) + 1) (n := 7 - i) (LawJ2 fr mi en text.cps.toList i) rfl F9 N9 ?hi2 (range_small (k := i) rfl hi6 hb7) (range_size (k := i) rfl hi6 hb7) rfl rfl ⟨whole.length, tlw, _, _, stI_self rfl, fun _ => by rw [List.take_zero, left_nil, hwhl]⟩ ?step2 ?done2
    case hi2 =>
      k_steps
      exact ⟨_, _, _, _, _, _, rfl, rfl, by assumption, by k_asm, by k_asm⟩
    case step2 =>
      rintro j tj m₂ h₂ tk₂ I₂ oI₂ hj ⟨k, tkk, vp2, vt2, rfl, hk⟩ F₂ N₂ hlt₂
      have hj6 : i + j ≤ 6 := by omega
      replace hk := hk (by omega)
      rw [← Int.natCast_add] at F₂
      have hsl := slice_mid_list text i (i + j) (by omega) (by omega)
      rw [Nat.add_sub_cancel_left] at hsl
      have hgl : (Txt.slice text (some (i : Int)) (some ((i + j : Nat) : Int))).length ≤ 10 := Nat.le_trans (Txt.slice_le ..) (by omega)
      k_steps
      refine Held.mk ?_
      rename_i h3 t3 k3 F3 N3
      k_dflt (refine' use_match F3 X0 T0 N3 ?r ?u hsp hin hszw hf100 hm100 he100 (by omega) ?_; (case r => ktr_room); (case u => ktr_units))
      intro h4 tk4 F4 N4
      rw [match_left milo, hsl, ← hk]
      clear F3 N3
      try dsimp only
      k_steps
      · exfalso
        have q := ‹(decide (k = 0) != ((k : Int) == 0)) = true›
        rw [told_ne] at q; cases q
      refine Held.mk ?_
      rename_i h5 t5 k5 F5 N5
      clear F4 N4
      k_dflt (refine' use_left F5 X0 T0 N5 ?zr ?zu ?zm hl milo (by omega) (by omega) (by omega) hgl ?_; (case zr => ktr_room); (case zu => ktr_units); (case zm => k_mem))
      intro t6 h6 tk6 F6 N6
      rw [hsl, ← hk]
      clear F5 N5
      try dsimp only
      k_steps
      · exact absurd rfl ‹(k : Int) ≠ (k : Int)›
      · refine Held.mk ?_
        have hltx : i + j < text.length := by omega
        obtain ⟨c, hc⟩ : ∃ c, text.cps[i + j]? = some c := ⟨_, Array.getElem?_eq_getElem hltx⟩
        have hcT : text.cps.toList[i + j]? = some c := by simpa using hc
        have hcl := htxs c (List.mem_of_getElem? hcT)
        refine item_tok (k := i + j) (by assumption) (by omega) hc ?_ (by with_unfolding_all rfl)
        intro tc tkc htc0 htc1
        try dsimp only
        k_steps
        refine Held.mk ?_
        k_dflt (refine' use_index F6 X0 T0 N6 ?zr ?zu hcl hab htc0 htc1 ?_; (case zr => ktr_room); (case zu => ktr_units))
        intro tx h7 tk7 F7 N7
        clear F6 N6
        try dsimp only
        rcases hcl with rfl | rfl
        · rw [if_pos rfl]
          k_steps
          refine Held.mk ?_
          obtain ⟨tz, htz⟩ := table_at milo frsg hrow hab hr0 ((text.cps.toList.drop i).take j)
          rw [← hk] at htz
          k_dflt (refine' use_get (its := zs0) F7 X0 T0 N7 ?zr ?zu ?zm (by rw [hr0.1]; exact startsF_num hwl10) htz ?_; (case zr => ktr_room); (case zu => ktr_units); (case zm => k_mem))
          intro h8' tk8 F8' N8'
          clear F7 N7
          try dsimp only
          k_steps
          refine stepPost_next (by k_asm) (by k_asm) (fun p hp => hp) ⟨_, _, _, _, stI_step, fun _ => by rw [take_more hcT]⟩
        · rw [if_neg (Ne.symm hab)]
          k_steps
          refine Held.mk ?_
          obtain ⟨tz, htz⟩ := table_at milo frsg hrow hab hr1 ((text.cps.toList.drop i).take j)
          rw [← hk] at htz
          k_dflt (refine' use_get (its := zs1) F7 X0 T0 N7 ?zr ?zu ?zm (by rw [hr1.1]; exact startsF_num hwl10) htz ?_; (case zr => ktr_room); (case zu => ktr_units); (case zm => k_mem))
          intro h8' tk8 F8' N8'
          clear F7 N7
          try dsimp only
          k_steps
          refine stepPost_next (by k_asm) (by k_asm) (fun p hp => hp) ⟨_, _, _, _, stI_step, fun _ => by rw [take_more hcT]⟩
      · refine stepPost_next F6 N6 (fun p hp => hp) ⟨_, _, _, _, stI_step0, fun q => ?_⟩
        exfalso
        omega
    case done2 =>
      rintro m₂ h₂ tk₂ ⟨k, tkk, vp2, vt2, rfl, hk⟩ F₂ N₂
      try dsimp only
      k_steps
      refine stepPost_next F₂ N₂ (fun p hp => hp) ⟨_, _, _, _, stI_stM⟩
  case done =>
    rintro m₁ h₁ tk₁ ⟨vb, vl, vp, vt, rfl⟩ F₁ N₁
    try dsimp only
    k_steps)
end
end Mine
theorem PySem.Challenge.cw_pg0064_01_holds : PySem.Challenge.rw_pg0064_01.Holds := by
  exact Mine.law_holds
