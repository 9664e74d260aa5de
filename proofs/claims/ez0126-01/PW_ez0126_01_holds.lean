import PyProof.Rows.All
import Wide.All
import OpenK.AllK
import Wide.FinOn
import PySem.Challenge.RW_ez0126_01
set_option Elab.async false
section
/-! The plain functions of the program, and what the walk asks of them. -/
namespace Mine
/-- the adapting loop -/
def adl (d k : Int) : Int × Int := if h : 455 < d then adl (d.fdiv 35) (k + 36) else (d, k)
termination_by d.toNat
decreasing_by
  have h1 : d.fdiv 35 = d / 35 := Int.fdiv_eq_ediv_of_nonneg _ (by omega)
  rw [h1]; omega
theorem adl_step {d k : Int} (h : 455 < d) : adl d k = adl (d.fdiv 35) (k + 36) := by rw [adl]; simp [h]
theorem adl_end {d k : Int} (h : ¬ 455 < d) : adl d k = (d, k) := by rw [adl]; simp [h]
def adapt (d : Int) (first : Bool) (many : Int) : Int :=
  let d1 := if first then d.fdiv 700 else d.fdiv 2
  let r := adl (d1 + d1.fdiv many) 0
  r.2 + (36 * r.1).fdiv (r.1 + 38)

def tb (k bias : Int) : Int := if k ≤ bias then 1 else if bias + 26 ≤ k then 26 else k - bias
theorem tb_lo (k bias : Int) : 1 ≤ tb k bias := by unfold tb; split <;> (try split) <;> omega
theorem tb_hi (k bias : Int) : tb k bias ≤ 26 := by unfold tb; split <;> (try split) <;> omega
theorem tb_one {k bias : Int} (h : k ≤ bias) : tb k bias = 1 := by unfold tb; rw [if_pos h]
theorem tb_top {k bias : Int} (h : ¬ k ≤ bias) (h2 : bias + 26 ≤ k) : tb k bias = 26 := by unfold tb; rw [if_neg h, if_pos h2]
theorem tb_mid {k bias : Int} (h : ¬ k ≤ bias) (h2 : ¬ bias + 26 ≤ k) : tb k bias = k - bias := by unfold tb; rw [if_neg h, if_neg h2]
def alphL : List Nat := [97, 98, 99, 100, 101, 102, 103, 104, 105, 106, 107, 108, 109, 110, 111, 112, 113, 114, 115, 116, 117, 118, 119, 120, 121, 122, 48, 49, 50, 51, 52, 53, 54, 55, 56, 57]
def alph (i : Int) : Nat := alphL.getD i.toNat 0
theorem next_lt {q t : Int} (h1 : 1 ≤ t) (h2 : t ≤ 26) (h : t ≤ q) : 0 ≤ (q - t).fdiv (36 - t) ∧ 2 * (q - t).fdiv (36 - t) + 1 ≤ q := by
  have e : (q - t).fdiv (36 - t) = (q - t) / (36 - t) := Int.fdiv_eq_ediv_of_nonneg _ (by omega)
  rw [e]
  have h0 : 0 ≤ (q - t) / (36 - t) := Int.ediv_nonneg (by omega) (by omega)
  refine ⟨h0, ?_⟩
  have h3 : (36 - t) * ((q - t) / (36 - t)) ≤ q - t := Int.mul_ediv_self_le (by omega)
  have h4 : 10 * ((q - t) / (36 - t)) ≤ (36 - t) * ((q - t) / (36 - t)) := Int.mul_le_mul_of_nonneg_right (by omega) h0
  omega
/-- the letters of a number -/
def digs (q k bias : Int) : List Nat :=
  if h : q < tb k bias then [alph q] else alph (tb k bias + (q - tb k bias).fmod (36 - tb k bias)) :: digs ((q - tb k bias).fdiv (36 - tb k bias)) (k + 36) bias
termination_by q.toNat
decreasing_by
  have := next_lt (tb_lo k bias) (tb_hi k bias) (Int.not_lt.mp h)
  omega
theorem digs_last {q k bias : Int} (h : q < tb k bias) : digs q k bias = [alph q] := by rw [digs]; simp [h]
theorem digs_more {q k bias : Int} (h : ¬ q < tb k bias) : digs q k bias = alph (tb k bias + (q - tb k bias).fmod (36 - tb k bias)) :: digs ((q - tb k bias).fdiv (36 - tb k bias)) (k + 36) bias := by
  conv => lhs; rw [digs]
  simp [h]
theorem digs_len : ∀ (j : Nat) (q k bias : Int), q < 2 ^ j → (digs q k bias).length ≤ j + 1
  | 0, q, k, bias, h => by
    rw [digs_last (by have := tb_lo k bias; simp at h; omega)]; simp
  | j + 1, q, k, bias, h => by
    by_cases hq : q < tb k bias
    · rw [digs_last hq]; simp
    · rw [digs_more hq]
      have := next_lt (tb_lo k bias) (tb_hi k bias) (Int.not_lt.mp hq)
      have h2 : (q - tb k bias).fdiv (36 - tb k bias) < 2 ^ j := by
        rw [Int.pow_succ] at h; omega
      have := digs_len j _ (k + 36) bias h2
      simp only [List.length_cons]; omega

structure En where
  out : List Nat
  delta : Int
  bias : Int
  done : Int
/-- one sign of the text, in the round of the number n -/
def estep (n base : Int) (e : En) (c : Int) : En :=
  let d := if c < n then e.delta + 1 else e.delta
  if c = n then ⟨e.out ++ digs d 36 e.bias, 0, adapt d (decide (e.done = base)) (e.done + 1), e.done + 1⟩ else ⟨e.out, d, e.bias, e.done⟩
theorem estep_hit {n base : Int} {e : En} {c : Int} (h : c = n) : estep n base e c = ⟨e.out ++ digs e.delta 36 e.bias, 0, adapt e.delta (decide (e.done = base)) (e.done + 1), e.done + 1⟩ := by
  subst h
  simp [estep]
theorem estep_lt {n base : Int} {e : En} {c : Int} (h : c < n) : estep n base e c = ⟨e.out, e.delta + 1, e.bias, e.done⟩ := by
  have h2 : ¬ c = n := by omega
  simp [estep, h, h2]
theorem estep_gt {n base : Int} {e : En} {c : Int} (h : ¬ c < n) (h2 : c ≠ n) : estep n base e c = e := by
  simp [estep, h, h2]
def mn : List Int → Int
  | [] => 0
  | [a] => a
  | a :: r => min a (mn r)
theorem mn_spec : ∀ {l : List Int}, l ≠ [] → mn l ∈ l ∧ ∀ x ∈ l, mn l ≤ x
  | [a], _ => by simp [mn]
  | a :: b :: r, _ => by
    have ih := mn_spec (l := b :: r) (by simp)
    have e : mn (a :: b :: r) = min a (mn (b :: r)) := rfl
    rw [e]
    constructor
    · rcases Int.le_total a (mn (b :: r)) with h | h
      · rw [Int.min_eq_left h]; exact List.mem_cons_self
      · rw [Int.min_eq_right h]; exact List.mem_cons_of_mem _ ih.1
    · intro x hx
      rcases List.mem_cons.mp hx with rfl | hx
      · exact Int.min_le_left _ _
      · exact Int.le_trans (Int.min_le_right _ _) (ih.2 x hx)
theorem mn_eq {l : List Int} {M : Int} (hm : M ∈ l) (hl : ∀ x ∈ l, M ≤ x) : mn l = M := by
  have h := mn_spec (l := l) (by intro e; rw [e] at hm; cases hm)
  exact Int.le_antisymm (h.2 _ hm) (hl _ h.1)

def oround (t : List Int) (base : Int) (s : En × Int) : En × Int :=
  let m := mn (t.filter fun c => decide (s.2 ≤ c))
  let e := t.foldl (estep m base) ⟨s.1.out, s.1.delta + (m - s.2) * (s.1.done + 1), s.1.bias, s.1.done⟩
  (⟨e.out, e.delta + 1, e.bias, e.done⟩, m + 1)
def orun (t : List Int) (base : Int) : Nat → En × Int → En × Int
  | 0, s => s
  | f + 1, s => if s.1.done < t.length then orun t base f (oround t base s) else s
def plainL (t : List Int) : List Int := t.filter fun c => decide (c < 128)
def start (t : List Int) : En × Int := (⟨(plainL t).map Int.toNat ++ (if (plainL t).length = 0 then [] else [45]), 0, 72, (plainL t).length⟩, 128)
def encL (t : List Int) : List Nat := (orun t (plainL t).length (t.length + 1) (start t)).1.out

/-- the states that the outer loop meets -/
inductive Reach (t : List Int) : En × Int → Prop
  | refl : Reach t (start t)
  | step {s : En × Int} : Reach t s → s.1.done < t.length → Reach t (oround t (plainL t).length s)

def below (n : Int) (t : List Int) : List Int := t.filter fun c => decide (c < n)
theorem estep_done (n base : Int) (e : En) (c : Int) : (estep n base e c).done = e.done + (if c = n then 1 else 0) := by
  by_cases h1 : c < n <;> by_cases h2 : c = n <;> simp [estep, h1, h2]
theorem fold_done (n base : Int) : ∀ (t : List Int) (e : En), (t.foldl (estep n base) e).done = e.done + ((t.filter fun c => decide (c = n)).length : Nat)
  | [], e => by simp
  | c :: t, e => by
    rw [List.foldl_cons, fold_done n base t, estep_done]
    by_cases h : c = n
    · simp [h]; omega
    · simp [h]
theorem below_split (n : Int) : ∀ t : List Int, ((below (n + 1) t).length : Int) = ((below n t).length : Nat) + ((t.filter fun c => decide (c = n)).length : Nat)
  | [] => rfl
  | c :: t => by
    have ih := below_split n t
    unfold below at ih ⊢
    simp only [List.filter_cons]
    by_cases h1 : c < n
    · have h2 : c < n + 1 := by omega
      have h3 : ¬ c = n := by omega
      simp only [h1, h2, h3, decide_true, decide_false, if_true, Bool.false_eq_true, if_false, List.length_cons]; omega
    · by_cases h3 : c = n
      · have h2 : c < n + 1 := by omega
        simp only [h1, h2, h3, decide_true, decide_false, if_true, Bool.false_eq_true, if_false, List.length_cons]
        have h4 : n < n + 1 := by omega
        simp only [h4, Int.lt_irrefl, decide_true, decide_false, if_true, Bool.false_eq_true, if_false, List.length_cons]; omega
      · have h2 : ¬ c < n + 1 := by omega
        simp only [h1, h2, h3, decide_false, Bool.false_eq_true, if_false]; omega
theorem below_gap {n m : Int} {t : List Int} (h : n ≤ m) (hm : ∀ x ∈ t, n ≤ x → m ≤ x) : below m t = below n t := by
  unfold below
  refine List.filter_congr fun x hx => ?_
  have := hm x hx
  by_cases h1 : x < n
  · have h2 : x < m := by omega
    simp [h1, h2]
  · have h2 : ¬ x < m := by omega
    simp [h1, h2]
/-- what the round's number is -/
theorem round_min {t : List Int} {n : Int} (hd : ((below n t).length : Int) < t.length) :
    t.filter (fun c => decide (n ≤ c)) ≠ [] ∧ mn (t.filter fun c => decide (n ≤ c)) ∈ t ∧ n ≤ mn (t.filter fun c => decide (n ≤ c)) ∧ ∀ x ∈ t, n ≤ x → mn (t.filter fun c => decide (n ≤ c)) ≤ x := by
  have hne : t.filter (fun c => decide (n ≤ c)) ≠ [] := by
    intro e
    have h1 : below n t = t := by
      unfold below
      refine List.filter_eq_self.mpr fun x hx => ?_
      have h2 := List.filter_eq_nil_iff.mp e x hx
      simp at h2 ⊢; omega
    rw [h1] at hd; omega
  have hs := mn_spec hne
  have h3 := List.mem_filter.mp hs.1
  refine ⟨hne, h3.1, by simpa using h3.2, fun x hx hn => hs.2 x (List.mem_filter.mpr ⟨hx, by simpa using hn⟩)⟩
theorem filter_len_pos {t : List Int} {m : Int} (h : m ∈ t) : 1 ≤ (t.filter fun c => decide (c = m)).length := by
  have : m ∈ t.filter fun c => decide (c = m) := List.mem_filter.mpr ⟨h, by simp⟩
  exact List.length_pos_of_mem this

/-- what holds at the outer loop's head -/
structure Head (t : List Int) (s : En × Int) : Prop where
  cnt : s.1.done = ((below s.2 t).length : Nat)
  lo : 128 ≤ s.2
  d0 : 0 ≤ s.1.delta
  d1 : s.1.delta ≤ t.length + 1
  len : (s.1.out.length : Int) ≤ t.length + 1 + 40 * s.1.done
theorem below_le (n : Int) (t : List Int) : (below n t).length ≤ t.length := List.length_filter_le _ _
theorem start_head (t : List Int) : Head t (start t) := by
  refine ⟨rfl, by simp [start], by simp [start], by simp [start]; omega, ?_⟩
  have h := below_le 128 t
  have e : (plainL t).length = (below 128 t).length := rfl
  simp only [start, List.length_append, List.length_map]
  split <;> simp <;> omega

def Small (l : List Nat) : Prop := ∀ c ∈ l, c < 128
theorem alph_small (i : Int) : alph i < 128 := by
  unfold alph
  have h : ∀ c ∈ alphL, c < 128 := by decide
  rcases Nat.lt_or_ge i.toNat alphL.length with h1 | h1
  · rw [List.getD_eq_getElem?_getD, List.getElem?_eq_getElem h1]
    exact h _ (List.getElem_mem h1)
  · rw [List.getD_eq_getElem?_getD, List.getElem?_eq_none h1]
    decide
theorem digs_small : ∀ (j : Nat) (q k bias : Int), q.toNat ≤ j → Small (digs q k bias)
  | j, q, k, bias, h => by
    by_cases hq : q < tb k bias
    · rw [digs_last hq]
      intro c hc
      rw [List.mem_singleton.mp hc]
      exact alph_small q
    · rw [digs_more hq]
      have := next_lt (tb_lo k bias) (tb_hi k bias) (Int.not_lt.mp hq)
      intro c hc
      rcases List.mem_cons.mp hc with rfl | hc
      · exact alph_small _
      · cases j with
        | zero => have := tb_lo k bias; omega
        | succ j => exact digs_small j _ _ _ (by omega) c hc
theorem estep_small {n base : Int} {e : En} {c : Int} (h : Small e.out) : Small (estep n base e c).out := by
  unfold estep
  by_cases hc : c = n
  · simp only [hc, if_true]
    intro d hd
    rcases List.mem_append.mp hd with hd | hd
    · exact h d hd
    · exact digs_small _ _ _ _ (Nat.le_refl _) d hd
  · simp only [hc, if_false]
    exact h
theorem fold_small {n base : Int} : ∀ (t : List Int) (e : En), Small e.out → Small (t.foldl (estep n base) e).out
  | [], _, h => h
  | _ :: t, _, h => fold_small t _ (estep_small h)
theorem start_small (t : List Int) : Small (start t).1.out := by
  intro c hc
  simp only [start] at hc
  rcases List.mem_append.mp hc with hc | hc
  · obtain ⟨x, hx, rfl⟩ := List.mem_map.mp hc
    have := (List.mem_filter.mp hx).2
    simp at this
    omega
  · split at hc
    · cases hc
    · rw [List.mem_singleton.mp hc]; decide
theorem out_small {t : List Int} {s : En × Int} (h : Reach t s) : Small s.1.out := by
  induction h with
  | refl => exact start_small t
  | step _ _ ih => exact fold_small t _ ih
/-- within a round -/
structure Mid (t : List Int) (m : Int) (pre : List Int) (e : En) : Prop where
  d0 : 0 ≤ e.delta
  d1 : e.delta ≤ 30000000 + pre.length
  b0 : 0 ≤ e.done
  b1 : e.done = ((below m t).length : Nat) + ((pre.filter fun c => decide (c = m)).length : Nat)
  len : (e.out.length : Int) ≤ t.length + 1 + 40 * e.done
theorem estep_mid {t : List Int} {m base : Int} {pre : List Int} {e : En} {c : Int} (h : Mid t m pre e) (hp : pre.length ≤ 25) : Mid t m (pre ++ [c]) (estep m base e c) := by
  obtain ⟨d0, d1, b0, b1, len⟩ := h
  by_cases hc : c = m
  · subst hc
    have h1 : ¬ c < c := Int.lt_irrefl c
    have e1 : estep c base e c = ⟨e.out ++ digs e.delta 36 e.bias, 0, adapt e.delta (decide (e.done = base)) (e.done + 1), e.done + 1⟩ := by simp [estep]
    rw [e1]
    have hl := digs_len 26 e.delta 36 e.bias (by simp; omega)
    refine ⟨by simp, by simp; omega, by simp; omega, ?_, ?_⟩
    · simp [List.filter_append]; omega
    · simp; omega
  · have e1 : estep m base e c = ⟨e.out, if c < m then e.delta + 1 else e.delta, e.bias, e.done⟩ := by simp [estep, hc]
    rw [e1]
    refine ⟨?_, ?_, b0, ?_, len⟩
    · dsimp only; split <;> omega
    · simp only [List.length_append, List.length_cons, List.length_nil]; split <;> omega
    · simp [List.filter_append, hc]; exact b1
theorem fold_midG {t : List Int} {m base : Int} : ∀ (l p post : List Int) (e : En), Mid t m p e → t = p ++ l ++ post → t.length ≤ 20 → Mid t m (p ++ l) (l.foldl (estep m base) e)
  | [], p, post, e, h, _, _ => by simpa using h
  | c :: l, p, post, e, h, ht, hl => by
    have h1 := estep_mid (base := base) (c := c) h (by have := congrArg List.length ht; simp at this; omega)
    have h2 := fold_midG (base := base) l (p ++ [c]) post _ h1 (by rw [ht]; simp) hl
    simpa using h2
theorem fold_mid {t : List Int} {m base : Int} {e₀ : En} (h : Mid t m [] e₀) (pre post : List Int) (ht : t = pre ++ post) (hl : t.length ≤ 20) : Mid t m pre (pre.foldl (estep m base) e₀) := by
  have := fold_midG (base := base) pre [] post e₀ h (by simpa using ht) hl
  simpa using this
theorem mid_done {t : List Int} {m : Int} {pre post : List Int} {e : En} (h : Mid t m pre e) (ht : t = pre ++ post) : e.done + ((post.filter fun c => decide (c = m)).length : Nat) ≤ t.length := by
  have h1 := below_split m t
  have h2 := below_le (m + 1) t
  have h3 : (t.filter fun c => decide (c = m)).length = (pre.filter fun c => decide (c = m)).length + (post.filter fun c => decide (c = m)).length := by
    rw [ht, List.filter_append, List.length_append]
  have := h.b1
  omega
/-- the round begins -/
theorem mid_start {t : List Int} {s : En × Int} (h : Head t s) (hl : t.length ≤ 20) (hc : ∀ x ∈ t, x < 1114112) (hd : s.1.done < t.length) :
    Mid t (mn (t.filter fun c => decide (s.2 ≤ c))) [] ⟨s.1.out, s.1.delta + (mn (t.filter fun c => decide (s.2 ≤ c)) - s.2) * (s.1.done + 1), s.1.bias, s.1.done⟩ := by
  obtain ⟨cnt, lo, d0, d1, len⟩ := h
  have hr := round_min (n := s.2) (t := t) (by omega)
  generalize mn (t.filter fun c => decide (s.2 ≤ c)) = m at hr ⊢
  have h1 : 0 ≤ (m - s.2) * (s.1.done + 1) := Int.mul_nonneg (by omega) (by omega)
  have h2 : (m - s.2) * (s.1.done + 1) ≤ 1114112 * 21 := by
    have := hc m hr.2.1
    exact Int.mul_le_mul (by omega) (by omega) (by omega) (by omega)
  refine ⟨by simp only; omega, by simp only [List.length_nil]; omega, by simp only; omega, ?_, len⟩
  simp only [List.filter_nil, List.length_nil]
  rw [below_gap hr.2.2.1 hr.2.2.2, cnt]; omega
theorem fold_delta_none {m base : Int} : ∀ (l : List Int) (e : En), m ∉ l → (l.foldl (estep m base) e).delta ≤ e.delta + l.length
  | [], e, _ => by simp
  | c :: l, e, h => by
    have hc : ¬ c = m := fun x => h (by rw [x]; exact List.mem_cons_self)
    have := fold_delta_none (base := base) l (estep m base e c) fun x => h (List.mem_cons_of_mem _ x)
    have h2 : (estep m base e c).delta ≤ e.delta + 1 := by
      by_cases h1 : c < m <;> simp [estep, h1, hc] <;> omega
    rw [List.foldl_cons, List.length_cons]; omega
theorem fold_delta {m base : Int} : ∀ (l : List Int) (e : En), m ∈ l → (l.foldl (estep m base) e).delta ≤ l.length
  | c :: l, e, h => by
    rw [List.foldl_cons, List.length_cons]
    by_cases hm : m ∈ l
    · have := fold_delta (base := base) l (estep m base e c) hm; omega
    · have hc : c = m := by
        rcases List.mem_cons.mp h with h | h
        · exact h.symm
        · exact absurd h hm
      have h0 : (estep m base e c).delta = 0 := by simp [estep, hc]
      have := fold_delta_none (base := base) l (estep m base e c) hm
      omega
/-- the round's end -/
theorem round_head {t : List Int} {s : En × Int} (base : Int) (h : Head t s) (hl : t.length ≤ 20) (hc : ∀ x ∈ t, x < 1114112) (hd : s.1.done < t.length) :
    Head t (oround t base s) ∧ s.1.done < (oround t base s).1.done := by
  have hs := mid_start h hl hc hd
  have he := fold_mid (base := base) hs t [] (by simp) hl
  have hr := round_min (n := s.2) (t := t) (by have := h.cnt; omega)
  have hf := fold_done (mn (t.filter fun c => decide (s.2 ≤ c))) base t ⟨s.1.out, s.1.delta + (mn (t.filter fun c => decide (s.2 ≤ c)) - s.2) * (s.1.done + 1), s.1.bias, s.1.done⟩
  have hp := filter_len_pos hr.2.1
  have hlo := h.lo
  unfold oround
  generalize mn (t.filter fun c => decide (s.2 ≤ c)) = m at *
  have hdl := fold_delta (base := base) t ⟨s.1.out, s.1.delta + (m - s.2) * (s.1.done + 1), s.1.bias, s.1.done⟩ hr.2.1
  dsimp only at *
  refine ⟨⟨?_, by dsimp only; omega, by have := he.d0; dsimp only; omega, ?_, he.len⟩, by omega⟩
  · rw [below_split, he.b1]
  · dsimp only; omega
theorem reach_head {t : List Int} {s : En × Int} (h : Reach t s) (hl : t.length ≤ 20) (hc : ∀ x ∈ t, x < 1114112) : Head t s := by
  induction h with
  | refl => exact start_head t
  | step _ hd ih => exact (round_head _ ih hl hc hd).1
theorem reach_run {t : List Int} {s : En × Int} (h : Reach t s) (hl : t.length ≤ 20) (hc : ∀ x ∈ t, x < 1114112) :
    ∃ f : Nat, orun t (plainL t).length f s = orun t (plainL t).length (t.length + 1) (start t) ∧ (t.length : Int) < f + s.1.done := by
  induction h with
  | refl => exact ⟨t.length + 1, rfl, by have : 0 ≤ (start t).1.done := (by simp [start]); omega⟩
  | step hr hd ih =>
    rename_i s
    obtain ⟨f, e, hf⟩ := ih
    have h2 := (round_head (plainL t).length (reach_head hr hl hc) hl hc hd).2
    cases f with
    | zero => omega
    | succ f =>
      refine ⟨f, ?_, by omega⟩
      rw [← e]
      show _ = if s.1.done < t.length then _ else _
      rw [if_pos hd]
theorem reach_end {t : List Int} {s : En × Int} (h : Reach t s) (hl : t.length ≤ 20) (hc : ∀ x ∈ t, x < 1114112) (hd : ¬ s.1.done < t.length) : s.1.out = encL t := by
  obtain ⟨f, e, _⟩ := reach_run h hl hc
  unfold encL
  rw [← e]
  cases f with
  | zero => rfl
  | succ f =>
    show _ = (if s.1.done < t.length then _ else _ : En × Int).1.out
    rw [if_neg hd]

theorem start_eq {t : List Int} {k : Nat} (h : (plainL t).length = k) : start t = (⟨(start t).1.out, 0, 72, (k : Int)⟩, 128) := by
  subst h; rfl
end Mine
end
section
open PySem PySem.W PyProof.Rows
set_option Elab.async false
set_option maxRecDepth 100000
set_option maxHeartbeats 8000000
namespace Mine
open_top hd for PySem.Challenge.rw_ez0126_01
end Mine
end
section
open PySem PySem.W PyProof.Rows PySem.Spec PySem.Calls
set_option Elab.async false
set_option maxRecDepth 100000
namespace Mine
/-- what a list of texts carries: the places of a text as they were walked -/
theorem signs_are {y : Str} {vs : List Value} (hlen : vs.length = y.cps.size) (hP : ∀ (j : Nat) (v : Value), vs[j]? = some v → SignAt y j v) : AreOf .str vs (signs y) := areOf_signs hlen hP

section
variable {prog : Program} {w : World} {A : Around} {E : Value → Shared → Prop} {s : Shared} {h₀ : Heap} {L : Addr} {m : Str → Option Value} {env : Env} {news : List (Addr × Obj)}

/-- a comprehension over a text, one test at most, free names too -/
theorem lc_str {elt iter : Expr} {x : Str} {px : Pos} {ifs : List Expr} {scope : Scope} {cl : List (Str × Addr)} {pos : Pos} {Q : Value → Shared → Prop} (pz : Nat → Bool) (d : Nat → PyData) {y : Str}
    (F : Fr h₀ L s.heap m) (N : News h₀ L s.heap news)
    (hit : wpAny (model prog w) A (eval iter env) (fun v s₁ => ∃ t tk, v = .str y t ∧ s₁ = { s with toks := tk }) E s)
    (hh : A.handled = none) (hclos : closureFor scope env = pure cl) (hcell : ∀ y ∈ scope.names, y.2 ≠ .cell) (hkind : scope.kind = .function)
    (hnames : ∀ y ∈ scope.names, y.2 = .local → scope.names.lookup y.1 = some .local) (hx : scope.names.lookup x = some .local)
    (hsz : y.length ≤ sizeLine)
    (htests : ∀ C c u s₂ m₂ E', c ∈ y.cps.toList → s₂.heap.Ns (compEnvC scope cl C env).locals m₂ → m₂ x = some (.str ⟨#[c]⟩ u) → (∀ b o, s.heap.get? b = some o → s₂.heap.get? b = some o) → Fr h₀ L s₂.heap m → News h₀ L s₂.heap news →
        wpAny (model prog w) A (forIn ifs true fun c r => if r = true then do let ok ← isTrue c (compEnvC scope cl C env) (eval c (compEnvC scope cl C env)); pure (ForInStep.yield ok) else pure (ForInStep.yield r))
          (fun ok s₃ => ok = pz c ∧ Keeps s₂ s₃) E' s₂)
    (helt : ∀ C c u s₂ m₂ E', c ∈ y.cps.toList → pz c = true → s₂.heap.Ns (compEnvC scope cl C env).locals m₂ → m₂ x = some (.str ⟨#[c]⟩ u) → (∀ b o, s.heap.get? b = some o → s₂.heap.get? b = some o) → Fr h₀ L s₂.heap m → News h₀ L s₂.heap news →
        wpAny (model prog w) A (eval elt (compEnvC scope cl C env)) (fun r s₃ => Carried r (d c) ∧ Keeps s₂ s₃) E' s₂)
    (hQ : ∀ D (ys : List Value) n h' tk, Fr h₀ L h' m → News h₀ L h' ((D, listOf ys.toArray n) :: news) → (∀ p ∈ news, p.1 ≠ D) → D ≠ L → CarriedAll ys ((y.cps.toList.filter pz).map d) → Q (.ref D) { s with heap := h', toks := tk })
    (hs : ∀ x, foldedSetIterable iter env x = pure x) :
    wpAny (model prog w) A (eval (.ListComp elt [⟨.Name x px, iter, ifs, 0⟩] scope pos) env) Q E s := by
  have hc1 : ∀ c : Nat, (Str.mk #[c]).cps.getD 0 0 = c := fun _ => rfl
  refine wpAny_ListComp_free (ItemKind.str.lift fun a => pz (a.cps.getD 0 0)) (fun v r => ∃ a, ItemKind.str.is a v ∧ Carried r (d (a.cps.getD 0 0))) hclos hcell hkind hnames hx
    (wpAny_mono hit (fun xv s₁ h₁ => ?_) fun _ _ e => e) hs
  obtain ⟨t, tk0, rfl, rfl⟩ := h₁
  refine wpAny_pyIter_str fun o St W hst => ?_
  dsimp only at W hst ⊢
  have up : ∀ (h' : Heap), (∀ b o', b ∉ [s.heap.objs.size] → (s.heap.push o).get? b = some o' → h'.get? b = some o') → ∀ b o', s.heap.get? b = some o' → h'.get? b = some o' :=
    fun h' hk b o' e => hk b o' (old_not_new e) (Heap.get?_push_of_some _ e)
  refine ⟨s.heap.objs.size, [s.heap.objs.size], [s.heap.objs.size], y.cps.size, SignAt y, St, rfl, W A hh, hsz, hst, ?_, ⟨?_, ?_⟩, ?_⟩
  · intro b hb
    show b < (s.heap.push o).objs.size
    rw [Heap.size_push, List.mem_singleton.mp hb]
    exact Nat.lt_succ_self _
  · intro C i v s₃ m₃ E' _ hP hn hm hk _
    obtain ⟨c, u, hc, rfl⟩ := hP
    have ha : ItemKind.str.is ⟨#[c]⟩ (.str ⟨#[c]⟩ u) := ⟨u, rfl⟩
    rw [ItemKind.lift_is ha]
    have hk' := up s₃.heap hk
    exact htests C c u s₃ m₃ E' (Array.mem_toList_iff.mpr (Array.mem_of_getElem? hc)) hn hm hk' (F.keeps hk') (N.grown hk')
  · intro C i v s₃ m₃ E' _ hP hp hn hm hk _
    obtain ⟨c, u, hc, rfl⟩ := hP
    have ha : ItemKind.str.is ⟨#[c]⟩ (.str ⟨#[c]⟩ u) := ⟨u, rfl⟩
    rw [ItemKind.lift_is ha] at hp
    have hk' := up s₃.heap hk
    exact wpAny_mono (helt C c u s₃ m₃ E' (Array.mem_toList_iff.mpr (Array.mem_of_getElem? hc)) hp hn hm hk' (F.keeps hk') (N.grown hk')) (fun r s₄ h₄ => ⟨⟨_, ha, h₄.1⟩, h₄.2⟩) fun _ _ e => e
  · intro D h' tk ys vs hnew hlD hplD hlen hP hF hk
    have hD0 : h₀.get? D = none := by
      cases e : h₀.get? D with
      | none => rfl
      | some o' => rw [Heap.get?_push_of_some _ (F.keep _ _ e)] at hnew; cases hnew
    have hne : ∀ p ∈ news, p.1 ≠ D := fun p hp e => by rw [← e, Heap.get?_push_of_some _ (N p hp).1] at hnew; cases hnew
    have P : NewPlain h' news D ys := ⟨hplD, hne⟩
    have F' := F.keeps (up h' hk)
    obtain ⟨n, NX⟩ := made_enters P F' (N.grown (up h' hk)) hD0
    have hc := (areOf_signs hlen hP).paired (fun a => pz (a.cps.getD 0 0)) (fun a => d (a.cps.getD 0 0)) _ hF
    have hsg : ((signs y).filter fun a => pz (a.cps.getD 0 0)).map (fun a => d (a.cps.getD 0 0)) = (y.cps.toList.filter pz).map d := by
      rw [signs, List.filter_map, List.map_map]
      rfl
    rw [hsg] at hc
    refine hQ D ys.toList n h' tk F' (by rw [Array.toArray_toList]; exact NX) hne (P.ne_locals F') hc
theorem strValues_of : ∀ {vs : List Value} {ss : List Str}, StrsAre vs ss → ∃ l, vs = strValues l ∧ l.map (·.1) = ss
  | _, _, .nil => ⟨[], rfl, rfl⟩
  | _, _, .cons x t h => by
    obtain ⟨l, e1, e2⟩ := strValues_of h
    exact ⟨(x, t) :: l, by rw [e1]; rfl, by rw [← e2]; rfl⟩
theorem sum_ones : ∀ l : List Nat, ((l.map fun c => (⟨#[c]⟩ : Str)).map (·.length)).sum = l.length
  | [] => rfl
  | _ :: r => by
    have := sum_ones r
    simp only [List.map_cons, List.sum_cons, List.length_cons, this]
    show 1 + r.length = r.length + 1
    omega
/-- ''.join of a list of signs -/
theorem join_signs {D : Addr} {vs : List Value} {l : List Nat} {t : Tok} {Q : Value → Shared → Prop} (hl : s.heap.IsList D vs.toArray) (hv : StrsAre vs (l.map fun c => (⟨#[c]⟩ : Str))) (hb : l.length ≤ 100000)
    (hq : ∀ o : Str, o = ⟨l.toArray⟩ → o.length = l.length → ∀ t' k, Q (.str o t') { s with toks := k }) : wpAny (model prog w) A (call (.builtin "str.join") [.str (Str.ofString "") t, .ref D]) Q E s := by
  obtain ⟨ps, rfl, e2⟩ := strValues_of hv
  refine SC.join hl e2 (joinOk_of_weight ?_ (by decide)) fun t' k => ?_
  · rw [sum_ones, List.length_map]; omega
  · have e : Txt.join (Str.ofString "") (l.map fun c => (⟨#[c]⟩ : Str)) = ⟨l.toArray⟩ := by
      show Builtin.Str.glued _ _ = _
      rw [StrLaws.glued_eq_join, show Str.ofString "" = ⟨#[]⟩ from rfl]
      exact join_ones l
    rw [e]
    exact hq _ rfl (by simp [Str.length]) t' k
theorem fr_same {h : Heap} {x : Str} {v : Value} (hv : m x = some v) (F : Fr h₀ L h m) : Fr h₀ L h (fun y => if y = x then some v else m y) := by
  have e : (fun y => if y = x then some v else m y) = m := by
    funext y
    by_cases hy : y = x
    · rw [if_pos hy, hy, hv]
    · rw [if_neg hy]
  rw [e]; exact F
/-- the end of a statement that gives one name one value -/
structure NameSet (h₀ : Heap) (L : Addr) (m : Str → Option Value) (news : List (Addr × Obj)) (x : Str) (v : Tok → Value) (s : Shared) (fl : Flow) (s' : Shared) : Prop where
  fl : fl = .next
  ex : ∃ h' tk t, s' = { s with heap := h', toks := tk } ∧ Fr h₀ L h' (fun y => if y = x then some (v t) else m y) ∧ News h₀ L h' news
/-- a statement that gives one name one value, on every way -/
theorem name_cut {M : Model} {st : Stmt} {Q : Flow → Shared → Prop} (x : Str) (v : Tok → Value) (_F : Fr h₀ L s.heap m) (_N : News h₀ L s.heap news)
    (h1 : wpAny M A (exec st env) (NameSet h₀ L m news x v s) E s)
    (h2 : ∀ h' tk t, Fr h₀ L h' (fun y => if y = x then some (v t) else m y) → News h₀ L h' news → Q .next { s with heap := h', toks := tk }) : wpAny M A (exec st env) Q E s :=
  wpAny_mono h1 (fun fl s' h => by
    obtain ⟨rfl, h', tk, t, rfl, F', N'⟩ := h
    exact h2 h' tk t F' N') fun _ _ e => e
theorem news_sub {h : Heap} {l l' : List (Addr × Obj)} (N : News h₀ L h l) (hs : ∀ p ∈ l', p ∈ l) : News h₀ L h l' := fun p hp => N p (hs p hp)
theorem below_ne {l : List (Addr × Obj)} {a : Addr} (h : ∀ p ∈ l, p.1 < L) (ha : @LE.le Nat _ L a) : ∀ p ∈ l, p.1 ≠ a := fun p hp e => by
  have h1 : @LT.lt Nat _ p.1 L := h p hp
  have h2 : @Eq Nat p.1 a := e
  omega
end
/-- what a def gives back, whatever the frame that calls it: values in, a value out -/
def Claim (prog : Program) (w : World) (K : Frag) (p : Program) (loose : List Str) (mean : ExcName → Option Value) (mg mb : Str → Option Value) (f : Addr) (nd nu : Nat) (news : List (Addr × Obj)) (pre : Prop) (vs : List Value) (R : Tok → Value) : Prop :=
  ∀ (dp un : Nat) (gd : Option (List Code)) (cn : Str) (cs : Scope) (a : Addr) (ccd : Value) (cl : List (Str × Addr)) (outer : List Env) (A₀ : Around) (base h₀ : Heap) (L : Addr) (m : Str → Option Value) (s : Shared) (Q E : Value → Shared → Prop),
    Below A₀ base outer h₀ → Fr h₀ L s.heap m → K.In h₀ → News h₀ L s.heap news → Top p loose mean mg mb h₀ → cs.kind = .function →
    pre → dp + nd < recursionLimit → un + nu < cLine → (∀ (t : Tok) (h' : Heap) (tk' : Nat), Fr h₀ L h' m → News h₀ L h' news → Q (R t) { s with heap := h', toks := tk' }) →
      wpAny (model prog w) (ktrTop dp un gd cn cs L a ccd cl outer) (call (.ref f) vs) Q E s
theorem claim_use {prog : Program} {w : World} {K : Frag} {p : Program} {loose : List Str} {mean : ExcName → Option Value} {mg mb : Str → Option Value} {f : Addr} {nd nu : Nat} {news : List (Addr × Obj)} {pre : Prop} {vs : List Value} {R : Tok → Value}
    (C : Claim prog w K p loose mean mg mb f nd nu news pre vs R) {dp un : Nat} {gd : Option (List Code)} {cn : Str} {cs : Scope} {a : Addr} {ccd : Value} {cl : List (Str × Addr)} {outer : List Env} {A₀ : Around} {base h₀ : Heap} {L : Addr} {m : Str → Option Value} {s : Shared} {Q E : Value → Shared → Prop}
    (B : Below A₀ base outer h₀) (F : Fr h₀ L s.heap m) (X : K.In h₀) (N : News h₀ L s.heap news) (T : Top p loose mean mg mb h₀) (hk : cs.kind = .function) (hp : pre) (hd : dp + nd < recursionLimit) (hu : un + nu < cLine)
    (ret : ∀ (t : Tok) (h' : Heap) (tk' : Nat), Fr h₀ L h' m → News h₀ L h' news → Q (R t) { s with heap := h', toks := tk' }) :
    wpAny (model prog w) (ktrTop dp un gd cn cs L a ccd cl outer) (call (.ref f) vs) Q E s :=
  C dp un gd cn cs a ccd cl outer A₀ base h₀ L m s Q E B F X N T hk hp hd hu ret
/-- the walk stands here -/
structure StopG (P : Prop) : Prop where
  out : P
abbrev mk (l : List Nat) : Str := ⟨l.toArray⟩
theorem mk_append (a b : List Nat) : mk a ++ mk b = mk (a ++ b) := by
  refine Str.ext' (Array.toList_inj.mp ?_)
  rw [Str.cps_append, Array.toList_append]
theorem mk_length (a : List Nat) : (mk a).length = a.length := by simp [mk, Str.length]
def alphS : Str := Str.ofString "abcdefghijklmnopqrstuvwxyz0123456789"
theorem alphS_item : ∀ k : Nat, k < 36 → Txt.item alphS (k : Int) = mk [alph (k : Int)] := by decide +kernel
theorem alph_item {prog : Program} {w : World} {A : Around} {E : Value → Shared → Prop} {s : Shared} {value slice : Expr} {Q : Value → Shared → Prop} {i : Int} {u t : Tok} (h0 : 0 ≤ i) (h1 : i < 36)
    (h : ∀ tt tk, Q (.str (mk [alph i]) tt) { s with toks := tk })
    (hs : subscripted slice false (.str alphS t) (.int i u) = operate [.str alphS t, .int i u] (getItem (.str alphS t) (.int i u)) := by with_unfolding_all rfl)
    (ht : ∀ r, letTemporaryGo value (.str alphS t) r = pure () := by intro _; with_unfolding_all rfl) :
    wpAny (model prog w) A (subscriptTail value slice (.str (Str.ofString "abcdefghijklmnopqrstuvwxyz0123456789") t) (.int i u)) Q E s := by
  have hl : (alphS.length : Int) = 36 := by decide +kernel
  have hx : Txt.item alphS i = mk [alph i] := by
    have h2 := alphS_item i.toNat (by omega)
    have h3 : ((i.toNat : Nat) : Int) = i := by omega
    rw [h3] at h2
    exact h2
  refine item_str (x := alphS) (fitsSsize_of (N := 9223372036854775808) (by omega) (by omega) (Int.le_refl _)) (by omega) (by omega) (fun _ => ?_) hs ht
  rw [hx]
  exact h _ _
theorem fmod_range {q t : Int} (h1 : 1 ≤ t) (h2 : t ≤ 26) : 0 ≤ (q - t).fmod (36 - t) ∧ t + (q - t).fmod (36 - t) < 36 := by
  have := fmod_lo (q - t) (n := 36 - t) (by omega)
  have := fmod_hi (q - t) (n := 36 - t) (by omega)
  omega
end Mine
end
section
open PySem PySem.W PyProof.Rows
set_option Elab.async false
set_option maxRecDepth 100000
namespace Mine
theorem fdiv35 {x : Int} : x.fdiv 35 = x / 35 := Int.fdiv_eq_ediv_of_nonneg _ (by omega)
theorem adl_turn {d k d0 k0 : Int} (h : 0 ≤ d ∧ d ≤ 200000000 ∧ 0 ≤ k ∧ k + d ≤ 200000000 ∧ adl d k = adl d0 k0) (hd : 455 < d) :
    0 ≤ d.fdiv 35 ∧ d.fdiv 35 ≤ 200000000 ∧ 0 ≤ k + 36 ∧ k + 36 + d.fdiv 35 ≤ 200000000 ∧ adl (d.fdiv 35) (k + 36) = adl d0 k0 := by
  have h1 : d.fdiv 35 = d / 35 := fdiv35
  refine ⟨by omega, by omega, by omega, by omega, ?_⟩
  rw [← adl_step hd]; exact h.2.2.2.2
theorem adl_meas {d k d0 k0 : Int} (h : 0 ≤ d ∧ d ≤ 200000000 ∧ 0 ≤ k ∧ k + d ≤ 200000000 ∧ adl d k = adl d0 k0) (hd : 455 < d) : (d.fdiv 35).toNat < d.toNat := by
  have h1 : d.fdiv 35 = d / 35 := fdiv35
  omega
theorem fdiv_le {x m : Int} (h : 0 ≤ x) (hm : 1 ≤ m) : 0 ≤ x.fdiv m ∧ x.fdiv m ≤ x := by
  have h1 : x.fdiv m = x / m := Int.fdiv_eq_ediv_of_nonneg _ (by omega)
  rw [h1]
  exact ⟨Int.ediv_nonneg h (by omega), Int.ediv_le_self _ h⟩
theorem adl_start {d m : Int} {c : Int} (hc : 1 ≤ c) (h : 0 ≤ d ∧ d ≤ 100000000 ∧ 1 ≤ m ∧ m ≤ 100) :
    0 ≤ d.fdiv c + (d.fdiv c).fdiv m ∧ d.fdiv c + (d.fdiv c).fdiv m ≤ 200000000 ∧ 0 ≤ (0:Int) ∧ 0 + (d.fdiv c + (d.fdiv c).fdiv m) ≤ 200000000 ∧ adl (d.fdiv c + (d.fdiv c).fdiv m) 0 = adl (d.fdiv c + (d.fdiv c).fdiv m) 0 := by
  have h1 := fdiv_le h.1 hc
  have h2 := fdiv_le h1.1 h.2.2.1
  refine ⟨by omega, by omega, by omega, by omega, rfl⟩
theorem adapt_of_t {d m d' k' : Int} (h : 0 ≤ d' ∧ d' ≤ 200000000 ∧ 0 ≤ k' ∧ k' + d' ≤ 200000000 ∧ adl d' k' = adl (d.fdiv 700 + (d.fdiv 700).fdiv m) 0) (he : ¬ 455 < d') :
    k' + (36 * d').fdiv (d' + 38) = adapt d true m := by
  simp only [adapt, if_true]
  rw [← h.2.2.2.2, adl_end he]
theorem adapt_of_f {d m d' k' : Int} (h : 0 ≤ d' ∧ d' ≤ 200000000 ∧ 0 ≤ k' ∧ k' + d' ≤ 200000000 ∧ adl d' k' = adl (d.fdiv 2 + (d.fdiv 2).fdiv m) 0) (he : ¬ 455 < d') :
    k' + (36 * d').fdiv (d' + 38) = adapt d false m := by
  simp only [adapt, Bool.false_eq_true, if_false]
  rw [← h.2.2.2.2, adl_end he]

end Mine
end
section
open PySem PySem.W PyProof.Rows PySem.Spec PySem.Calls
set_option Elab.async false
set_option maxRecDepth 100000
namespace Mine
def PairIs (y : Str) (i : Nat) (vals : Array Value) : Prop := ∃ (t : Tok) (x : Value), (∃ c u, y.cps[i]? = some c ∧ x = .str ⟨#[c]⟩ u) ∧ vals = #[.int i t, x]
/-- enumerate over a text, freshly made -/
def EnumSrc (prog : Program) (w : World) (A : Around) (y : Str) (s : Shared) (v : Value) (s₁ : Shared) : Prop :=
  ∃ (e it : Addr) (h' : Heap) (tk : Nat) (St : Nat → Heap → Prop) (Mid : Nat → Addr → Heap → Prop), v = .ref e ∧ s₁ = { s with heap := h', toks := tk } ∧
    WalksT prog w A e [e, it] [e, it] y.cps.size (PairIs y) St Mid ∧ St 0 h' ∧ @LE.le Nat _ s.heap.objs.size it ∧ @LE.le Nat _ s.heap.objs.size e ∧ @LT.lt Nat _ e h'.objs.size ∧ @LT.lt Nat _ it h'.objs.size ∧
    ∀ b o, s.heap.get? b = some o → h'.get? b = some o
section
variable {prog : Program} {w : World} {A : Around} {E : Value → Shared → Prop} {s : Shared} {h₀ : Heap} {L : Addr} {m : Str → Option Value} {env : Env} {news : List (Addr × Obj)}
theorem enum_src {y : Str} {t : Tok} (hh : A.handled = none) : wpAny (model prog w) A (call (.type "enumerate") [.str y t]) (EnumSrc prog w A y s) E s := by
  refine call_enumerate_str fun h' he hit hsz hk => ?_
  have side1 : s.heap.objs.size + 1 ∉ [s.heap.objs.size] := fun hm => Nat.succ_ne_self _ (List.mem_singleton.mp hm)
  cases ha : y.cps.all (· < 128)
  · have hit' : h'.IsStrIter s.heap.objs.size "str_iterator" y t 0 := by simpa [strIterType, ha] using hit
    exact ⟨_, _, h', s.toks, _, _, rfl, rfl, WalksT.enumerateD (Draws.strWide (A := A.in1) hh s.heap.objs.size y t) (s.heap.objs.size + 1) (Nat.succ_ne_self _) side1 (by simp), ⟨⟨_, he⟩, hit'⟩, Nat.le_refl _, Nat.le_succ _,
      by omega, by omega, hk⟩
  · have hit' : h'.IsStrIter s.heap.objs.size "str_ascii_iterator" y t 0 := by simpa [strIterType, ha] using hit
    exact ⟨_, _, h', s.toks, _, _, rfl, rfl, WalksT.enumerateD (Draws.strAscii (A := A.in1) hh s.heap.objs.size y t) (s.heap.objs.size + 1) (Nat.succ_ne_self _) side1 (by simp), ⟨⟨_, he⟩, hit'⟩, Nat.le_refl _, Nat.le_succ _,
      by omega, by omega, hk⟩

theorem range_filter_succ (pz : Nat → Bool) (d : Nat → PyData) (i : Nat) : ((List.range (i + 1)).filter pz).map d = ((List.range i).filter pz).map d ++ (if pz i = true then [d i] else []) := by
  rw [List.range_succ, List.filter_append, List.map_append]
  cases h : pz i <;> simp [h]
theorem carried_snoc {ys : List Value} {ds : List PyData} {r : Value} {d : PyData} (h : CarriedAll ys ds) (hr : Carried r d) : CarriedAll (ys ++ [r]) (ds ++ [d]) := by
  induction h with
  | nil => exact .cons hr .nil
  | cons h _ ih => exact .cons h ih

theorem enum_loop {elt iter c : Expr} {a b : Str} {pa pb tp : Pos} {kk : Nat} {scope : Scope} {pos : Pos} {cenv : Env} {e it D : Addr} {y : Str} {St : Nat → Heap → Prop} {Mid : Nat → Addr → Heap → Prop} {R : Result → Shared → Prop} {m₀ : Str → Option Value} (pz : Nat → Bool) (d : Nat → PyData)
    (hh : A.handled = none) (W : WalksT prog w A e [e, it] [e, it] y.cps.size (PairIs y) St Mid) (hsz : y.cps.size ≤ sizeLine)
    (hka : cenv.kindOf a = some .local) (hkb : cenv.kindOf b = some .local) (hab : ¬ a = b) (hp : (cenv.scope.kind == .class || (cenv.scope.kind == .module && cenv.locals != cenv.globals)) = false)
    (hDC : D ≠ cenv.locals) (hDf : D ∉ [e, it]) (hCf : cenv.locals ∉ [e, it]) (hst : St 0 s.heap) (hacc : s.heap.get? D = some (LCg.lst [])) (hn : s.heap.Ns cenv.locals m₀)
    (htests : ∀ i cc t u s₃ m₃ E', y.cps[i]? = some cc → s₃.heap.Ns cenv.locals m₃ → m₃ a = some (.int (i : Nat) t) → m₃ b = some (.str ⟨#[cc]⟩ u) → (∀ x o, x ≠ cenv.locals → x ∉ [e, it] → x ≠ D → s.heap.get? x = some o → s₃.heap.get? x = some o) →
      wpAny (model prog w) A (isTrue c cenv (eval c cenv)) (fun ok s₄ => ok = pz i ∧ Keeps s₃ s₄) E' s₃)
    (helt : ∀ i cc t u s₃ m₃ E', y.cps[i]? = some cc → pz i = true → s₃.heap.Ns cenv.locals m₃ → m₃ a = some (.int (i : Nat) t) → m₃ b = some (.str ⟨#[cc]⟩ u) → (∀ x o, x ≠ cenv.locals → x ∉ [e, it] → x ≠ D → s.heap.get? x = some o → s₃.heap.get? x = some o) →
      wpAny (model prog w) A (eval elt cenv) (fun r s₄ => Carried r (d i) ∧ Keeps s₃ s₄) E' s₃)
    (hR : ∀ h' tk m' ys, h'.Ns cenv.locals m' → h'.get? D = some (LCg.lst ys) → CarriedAll ys (((List.range y.cps.size).filter pz).map d) → (∀ x o, x ≠ cenv.locals → x ∉ [e, it] → x ≠ D → s.heap.get? x = some o → h'.get? x = some o) → R (.ok .next) { s with heap := h', toks := tk }) :
    codeAny (model prog w) A (.compLoop (.ListComp elt [⟨.Tuple [.Name a pa, .Name b pb] kk tp, iter, [c], 0⟩] scope pos) 0 (.ref e) (.ref D) cenv) R s := by
  refine kct_loop
    (fun k s' => ∃ h' tk i ys m', s' = { s with heap := h', toks := tk } ∧ i ≤ y.cps.size ∧ k = y.cps.size + 1 - i ∧ St i h' ∧ h'.Ns cenv.locals m' ∧ h'.get? D = some (LCg.lst ys) ∧ CarriedAll ys (((List.range i).filter pz).map d) ∧
      (∀ x o, x ≠ cenv.locals → x ∉ [e, it] → x ≠ D → s.heap.get? x = some o → h'.get? x = some o)) ?_ (y.cps.size + 1)
    ⟨s.heap, s.toks, 0, [], _, rfl, Nat.zero_le _, rfl, hst, hn, hacc, .nil, fun _ _ _ _ _ e => e⟩
  rintro k s' ⟨h', tk, i, ys, m', rfl, hi, rfl, hst', hn', hacc', hc', hk'⟩
  have hDw : D ∉ [e, it] := hDf
  by_cases hlt : i < y.cps.size
  · refine W.item i _ _ _ hlt hst' fun T vals h₂ tk₂ hP hTge hT hMid hk₂ => ?_
    have hTw := W.apart i T h₂ hMid
    refine W.go _ _ _ i T _ _ _ hMid fun h₃ hst₃ hk₃ => ?_
    obtain ⟨t, x, ⟨cc, u, hcc, rfl⟩, rfl⟩ := hP
    have hT₃ : h₃.IsTuple T #[.int i t, .str ⟨#[cc]⟩ u] := by
      obtain ⟨o, ho, r⟩ := hT
      exact ⟨o, hk₃ T o hTw ho, r⟩
    have up₃ : ∀ x o, x ∉ [e, it] → h'.get? x = some o → h₃.get? x = some o := fun x o hx q => hk₃ x o hx (hk₂ x o hx q)
    refine kcp_assign (env := cenv) hh hT₃ hka hkb hp (hn'.at' fun o q => up₃ _ o hCf q) fun h₄ tk₄ hn₄ hs₄ => ?_
    have up₄ : ∀ x o, x ≠ cenv.locals → x ∉ [e, it] → h'.get? x = some o → h₄.get? x = some o := fun x o hx1 hx2 q => hs₄ x o hx1 (up₃ x o hx2 q)
    have hst₄ : St (i + 1) h₄ := W.frame _ _ _ hst₃ fun x hx o q => hs₄ x o (fun z => hCf (z ▸ hx)) q
    refine wpAny_mono (htests i cc t u _ _ _ hcc hn₄ (by simp [hab]) (by simp) fun x o h1 h2 h3 q => up₄ x o h1 h2 (hk' x o h1 h2 h3 q)) (fun ok s₅ h₅ => ?_) fun _ _ z => z
    obtain ⟨rfl, h₅, tk₅, rfl, hk₅⟩ := h₅
    have hst₅ : St (i + 1) h₅ := W.frame _ _ _ hst₄ fun x _ o q => hk₅ x o q
    have hacc₅ : h₅.get? D = some (LCg.lst ys) := hk₅ _ _ (up₄ D _ hDC hDw hacc')
    have hn₅ := hn₄.keeps hk₅
    have up₅ : ∀ x o, x ≠ cenv.locals → x ∉ [e, it] → x ≠ D → s.heap.get? x = some o → h₅.get? x = some o := fun x o h1 h2 h3 q => hk₅ x o (up₄ x o h1 h2 (hk' x o h1 h2 h3 q))
    cases hpv : pz i with
    | false =>
      simp only [Bool.false_eq_true, if_false]
      refine ⟨y.cps.size + 1 - (i + 1), by omega, h₅, tk₅, i + 1, ys, _, rfl, hlt, rfl, hst₅, hn₅, hacc₅, ?_, up₅⟩
      rw [range_filter_succ, hpv]
      simpa using hc'
    | true =>
      simp only [if_true]
      refine wpAny_mono (helt i cc t u _ _ _ hcc hpv hn₅ (by simp [hab]) (by simp) up₅) (fun r s₆ h₆ => ?_) fun _ _ z => z
      obtain ⟨hr, h₆, tk₆, rfl, hk₆⟩ := h₆
      have hlen : ys.length ≤ i := by
        have h1 := CarriedAll.length_eq hc'
        have h2 := List.length_filter_le pz (List.range i)
        rw [List.length_range] at h2
        rw [List.length_map] at h1
        omega
      refine append_at (hsz := by show ys.toArray.size ≤ sizeLine; rw [List.size_toArray]; exact Nat.le_trans hlen (Nat.le_trans hi hsz)) (hk₆ _ _ hacc₅) fun h₇ hs₇ hD₇ => ?_
      have hlst : h₇.get? D = some (LCg.lst (ys ++ [r])) := hD₇.trans (congrArg some (LCg.lst_snoc ys r))
      refine ⟨y.cps.size + 1 - (i + 1), by omega, h₇, tk₆, i + 1, ys ++ [r], _, rfl, hlt, rfl, ?_, (hn₅.keeps hk₆).sameBut hs₇ (Ne.symm hDC), hlst, ?_, fun x o h1 h2 h3 q => hs₇.extBut x o h3 (hk₆ x o (up₅ x o h1 h2 h3 q))⟩
      · exact W.frame _ _ _ hst₅ fun x hx o q => hs₇.extBut x o (fun z => hDf (z ▸ hx)) (hk₆ x o q)
      · rw [range_filter_succ, hpv, if_pos rfl]
        exact carried_snoc hc' hr
  · have hin : i = y.cps.size := Nat.le_antisymm hi (Nat.not_lt.mp hlt)
    subst hin
    refine W.done _ _ _ hst' fun h₂ tk₂ hk₂ => ?_
    exact hR h₂ tk₂ m' ys (hn'.at' fun o q => hk₂ _ o hCf q) (hk₂ D _ hDw hacc') hc' fun x o h1 h2 h3 q => hk₂ x o h2 (hk' x o h1 h2 h3 q)
/-- a comprehension over enumerate(text), one test -/
theorem lc_enum {elt iter c : Expr} {a b : Str} {pa pb tp : Pos} {kk : Nat} {scope : Scope} {cl : List (Str × Addr)} {pos : Pos} {Q : Value → Shared → Prop} (pz : Nat → Bool) (d : Nat → PyData) {y : Str}
    (F : Fr h₀ L s.heap m) (N : News h₀ L s.heap news)
    (hit : wpAny (model prog w) A (eval iter env) (EnumSrc prog w A y s) E s)
    (hh : A.handled = none) (hclos : closureFor scope env = pure cl) (hcell : ∀ y ∈ scope.names, y.2 ≠ .cell) (hkind : scope.kind = .function)
    (hnames : ∀ y ∈ scope.names, y.2 = .local → scope.names.lookup y.1 = some .local) (ha : scope.names.lookup a = some .local) (hb : scope.names.lookup b = some .local) (hab : ¬ a = b)
    (hsz : y.cps.size ≤ sizeLine)
    (htests : ∀ C i cc t u s₂ m₂ E', y.cps[i]? = some cc → s₂.heap.Ns (compEnvC scope cl C env).locals m₂ → m₂ a = some (.int (i : Nat) t) → m₂ b = some (.str ⟨#[cc]⟩ u) → (∀ b o, s.heap.get? b = some o → s₂.heap.get? b = some o) → Fr h₀ L s₂.heap m → News h₀ L s₂.heap news →
        wpAny (model prog w) A (isTrue c (compEnvC scope cl C env) (eval c (compEnvC scope cl C env))) (fun ok s₃ => ok = pz i ∧ Keeps s₂ s₃) E' s₂)
    (helt : ∀ C i cc t u s₂ m₂ E', y.cps[i]? = some cc → pz i = true → s₂.heap.Ns (compEnvC scope cl C env).locals m₂ → m₂ a = some (.int (i : Nat) t) → m₂ b = some (.str ⟨#[cc]⟩ u) → (∀ b o, s.heap.get? b = some o → s₂.heap.get? b = some o) → Fr h₀ L s₂.heap m → News h₀ L s₂.heap news →
        wpAny (model prog w) A (eval elt (compEnvC scope cl C env)) (fun r s₃ => Carried r (d i) ∧ Keeps s₂ s₃) E' s₂)
    (hQ : ∀ D (ys : List Value) n h' tk, Fr h₀ L h' m → News h₀ L h' ((D, listOf ys.toArray n) :: news) → (∀ p ∈ news, p.1 ≠ D) → D ≠ L → CarriedAll ys (((List.range y.cps.size).filter pz).map d) → Q (.ref D) { s with heap := h', toks := tk })
    (hs : ∀ x, foldedSetIterable iter env x = pure x) :
    wpAny (model prog w) A (eval (.ListComp elt [⟨.Tuple [.Name a pa, .Name b pb] kk tp, iter, [c], 0⟩] scope pos) env) Q E s := by
  rw [eval_ListComp]
  refine wpAny_comprehension_free (use := none) rfl hs hclos hkind hnames (wpAny_mono hit (fun xv s₁ h₁ => ?_) fun _ _ e => e)
  obtain ⟨e, it, h', tk, St, Mid, rfl, rfl, W, hst, hit0, he0, he1, hit1, hk⟩ := h₁
  refine W.self 0 _ _ _ hst ?_
  refine wpAny_newObj_type (wpAny_newFunctionEnv hcell (by intro y hy; simp at hy) (fun h₁ hns₁ hsb₁ => ?_) hkind)
  dsimp only at hns₁ hsb₁ ⊢
  generalize hH2 : h'.push { cls := .type "list", dict := none, data := .seq ([] : List Value).toArray } = H2 at hns₁ hsb₁ ⊢
  have hC : H2.objs.size = h'.objs.size + 1 := by rw [← hH2, Heap.size_push]
  have hDC : h'.objs.size ≠ H2.objs.size := by rw [hC]; exact Nat.ne_of_lt (Nat.lt_succ_self _)
  have below : ∀ b, b < h'.objs.size → b ≠ H2.objs.size ∧ b ≠ h'.objs.size := fun b hb => ⟨by rw [hC]; exact Nat.ne_of_lt (Nat.lt_succ_of_lt hb), Nat.ne_of_lt hb⟩
  have hDf : h'.objs.size ∉ [e, it] := fun hm => by
    rcases List.mem_cons.mp hm with q | hm
    · exact (below e he1).2 q.symm
    · exact (below it hit1).2 (List.mem_singleton.mp hm).symm
  have hCf : H2.objs.size ∉ [e, it] := fun hm => by
    rcases List.mem_cons.mp hm with q | hm
    · exact (below e he1).1 q.symm
    · exact (below it hit1).1 (List.mem_singleton.mp hm).symm
  have old : ∀ b o, h'.get? b = some o → h₁.get? b = some o := fun b o e => hsb₁.extBut b o (below b (Heap.lt_size e)).1 (Heap.get?_push_of_some _ (hH2 ▸ Heap.get?_push_of_some _ e))
  have hacc : h₁.get? h'.objs.size = some (LCg.lst []) := hsb₁.extBut _ _ hDC (Heap.get?_push_of_some _ (hH2 ▸ Heap.get?_push_size _ rfl))
  have hst₁ : St 0 h₁ := W.frame _ _ _ hst fun b _ o e => old b o e
  have fresh : ∀ a, h'.objs.size ≤ a → h'.get? a = none := fun a ha => by
    cases e : h'.get? a with
    | none => rfl
    | some o' => exact absurd (Heap.lt_size e) (Nat.not_lt.mpr ha)
  have up : ∀ (g : Heap), (∀ x o, x ≠ H2.objs.size → x ∉ [e, it] → x ≠ h'.objs.size → h₁.get? x = some o → g.get? x = some o) → ∀ x o, s.heap.get? x = some o → g.get? x = some o := fun g hg x o q => by
    have hx : x < s.heap.objs.size := Heap.lt_size q
    have q' := hk x o q
    refine hg x o (below x (Heap.lt_size q')).1 (fun hm => ?_) (below x (Heap.lt_size q')).2 (old x o q')
    rcases List.mem_cons.mp hm with z | hm
    · have : @Eq Nat x e := z
      have h2 : @LT.lt Nat _ x s.heap.objs.size := hx
      omega
    · have : @Eq Nat x it := List.mem_singleton.mp hm
      have h2 : @LT.lt Nat _ x s.heap.objs.size := hx
      omega
  have loop : ∀ s₃ : Shared, s₃ = { s with heap := h₁, toks := tk + ([] : List (Str × Value)).length } →
      codeAny (model prog w) A (.compLoop (.ListComp elt [⟨.Tuple [.Name a pa, .Name b pb] kk tp, iter, [c], 0⟩] scope pos) 0 (.ref e) (.ref h'.objs.size) (compEnvC scope cl H2.objs.size env))
        (compPost (model prog w) A E none Q (.ref h'.objs.size) H2.objs.size) s₃ := by
    rintro s₃ rfl
    refine enum_loop (cenv := compEnvC scope cl H2.objs.size env) (m₀ := _) pz d hh W hsz (lookup_relabel_local ha) (lookup_relabel_local hb) hab (by simp [compEnvC, relabel, hkind]) hDC hDf hCf hst₁ hacc hns₁ ?_ ?_ ?_
    · intro i cc t u s₄ m₄ E' hcc hn h1 h2 hkk
      have hkk' := up s₄.heap hkk
      exact htests _ i cc t u s₄ m₄ E' hcc hn h1 h2 hkk' (F.keeps hkk') (N.grown hkk')
    · intro i cc t u s₄ m₄ E' hcc hp hn h1 h2 hkk
      have hkk' := up s₄.heap hkk
      exact helt _ i cc t u s₄ m₄ E' hcc hp hn h1 h2 hkk' (F.keeps hkk') (N.grown hkk')
    · intro g tk' m' ys hn hD hc hkk
      refine ⟨m', hn, fun g' hs' => ?_⟩
      have hkk' : ∀ x o, s.heap.get? x = some o → g'.get? x = some o := fun x o q => hs'.extBut x o (by
        have hx := below x (Heap.lt_size (hk x o q))
        exact hx.1) (up g hkk x o q)
      have hD' : g'.get? h'.objs.size = some (LCg.lst ys) := hs'.extBut _ _ hDC hD
      have hD0 : h₀.get? h'.objs.size = none := by
        cases q : h₀.get? h'.objs.size with
        | none => rfl
        | some o' =>
          have := hk _ _ (F.keep _ _ q)
          rw [fresh _ (Nat.le_refl _)] at this
          cases this
      have hne : ∀ p ∈ news, p.1 ≠ h'.objs.size := fun p hp => (below _ (Heap.lt_size (hk _ _ (N p hp).1))).2
      have hDL : h'.objs.size ≠ L := fun q => by
        have h1 : @LT.lt Nat _ L s.heap.objs.size := F.ns.lt
        have h2 : @Eq Nat h'.objs.size L := q
        have h3 : @LT.lt Nat _ e h'.objs.size := he1
        omega
      refine hQ _ ys ys.length g' tk' (F.keeps hkk') (fun p hp => ?_) hne hDL hc
      rcases List.mem_cons.mp hp with rfl | hp
      · exact ⟨hD', hDL, hD0⟩
      · exact (N.grown hkk') p hp
  exact codeAny_compStart_list (loop _ rfl) (W.self 0 _ _ _ hst₁ (loop _ rfl))
/-- an iterator over items known by kind, freshly made -/
def GSrc {α : Type} (K : ItemKind α) (as : List α) (prog : Program) (w : World) (A : Around) (s : Shared) (it : Value) (s₂ : Shared) : Prop :=
  ∃ (I : Addr) (fp wr : List Addr) (P : Nat → Value → Prop) (St : Nat → Heap → Prop) (h₂ : Heap) (tk : Nat), it = .ref I ∧ s₂ = { s with heap := h₂, toks := tk } ∧ Walks prog w A I fp wr as.length P St ∧
    (∀ i v, P i v → ∃ a, as[i]? = some a ∧ K.is a v) ∧ St 0 h₂ ∧ (∀ b ∈ fp, b < h₂.objs.size) ∧ (∀ b o, s.heap.get? b = some o → h₂.get? b = some o ∧ b ∉ wr)
theorem src_bytes {b : Array UInt8} {t : Tok} (hh : A.handled = none) : wpAny (model prog w) A (pyIter (.bytes b t)) (GSrc .int (KBw.bInts b) prog w A s) E s := by
  refine KBw.pyIter_bytes ?_
  have W := KBw.walks (prog := prog) (w := w) hh s.heap.objs.size b t
  rw [← KBw.ints_length] at W
  refine ⟨_, _, _, _, _, _, s.toks, rfl, rfl, W, ?_, ⟨_, Heap.get?_push_size _ rfl, rfl, rfl⟩, ?_, ?_⟩
  · rintro i v ⟨c, u, hc, rfl⟩
    exact ⟨_, KBw.ints_get hc, u, rfl⟩
  · intro x hx
    rw [List.mem_singleton.mp hx]
    show _ < (s.heap.push _).objs.size
    rw [Heap.size_push]
    exact Nat.lt_succ_self _
  · intro x o e
    exact ⟨Heap.get?_push_of_some _ e, old_not_new e⟩
theorem src_list {α : Type} {K : ItemKind α} {as : List α} {l : Addr} {vs : List Value} (hh : A.handled = none) (hl : s.heap.IsList l vs.toArray) (hi : AreOf K vs as) :
    wpAny (model prog w) A (pyIter (.ref l)) (GSrc K as prog w A s) E s := by
  have hlt : l < s.heap.objs.size := by obtain ⟨_, e, _⟩ := hl; exact Heap.lt_size e
  have W := Walks.list (prog := prog) (w := w) hh s.heap.objs.size l (Nat.ne_of_lt hlt) vs.toArray
  have e : vs.toArray.size = as.length := by rw [List.size_toArray, hi.length]
  rw [e] at W
  refine wpAny_pyIter_list hl ⟨_, _, _, _, _, _, s.toks, rfl, rfl, W, ?_, ⟨⟨_, Heap.get?_push_size _ rfl, rfl, rfl⟩, hl.push _⟩, ?_, ?_⟩
  · intro i v hv
    have hv' : vs[i]? = some v := by simpa using hv
    exact hi.get i v hv'
  · intro b hb
    show b < (s.heap.push _).objs.size
    rw [Heap.size_push]
    rcases List.mem_cons.mp hb with rfl | hb
    · exact Nat.lt_succ_self _
    · rw [List.mem_singleton.mp hb]; exact Nat.lt_succ_of_lt hlt
  · intro x o e
    exact ⟨Heap.get?_push_of_some _ e, old_not_new e⟩

theorem src_str {y : Str} {t : Tok} (hh : A.handled = none) : wpAny (model prog w) A (pyIter (.str y t)) (GSrc .str (signs y) prog w A s) E s := by
  refine wpAny_pyIter_str fun o St W hst => ?_
  have W' := W A hh
  have e : y.cps.size = (signs y).length := (signs_length y).symm
  rw [e] at W'
  refine ⟨_, _, _, _, _, _, s.toks, rfl, rfl, W', ?_, hst, ?_, ?_⟩
  · rintro i v ⟨c, u, hc, rfl⟩
    exact ⟨_, signs_get hc, u, rfl⟩
  · intro x hx
    rw [List.mem_singleton.mp hx]
    show _ < (s.heap.push _).objs.size
    rw [Heap.size_push]
    exact Nat.lt_succ_self _
  · intro x o e
    exact ⟨Heap.get?_push_of_some _ e, old_not_new e⟩
/-- the source of a comprehension is reckoned -/
structure IterAt {α : Type} (K : ItemKind α) (as : List α) (prog : Program) (w : World) (A : Around) (h₀ : Heap) (L : Addr) (m : Str → Option Value) (news : List (Addr × Obj)) (E : Value → Shared → Prop) (s : Shared) (xv : Value) (s₁ : Shared) : Prop where
  ex : ∃ (h₁ : Heap) (tk₁ : Nat), s₁ = { s with heap := h₁, toks := tk₁ } ∧ Fr h₀ L h₁ m ∧ News h₀ L h₁ news ∧ wpAny (model prog w) A (pyIter xv) (GSrc K as prog w A s₁) E s₁
/-- a comprehension over items known by kind -/
theorem lc_gen {α : Type} (K : ItemKind α) (as : List α) {elt iter : Expr} {x : Str} {px : Pos} {ifs : List Expr} {scope : Scope} {cl : List (Str × Addr)} {pos : Pos} {Q : Value → Shared → Prop} (pz : α → Bool) (d : α → PyData)
    (hit : wpAny (model prog w) A (eval iter env) (IterAt K as prog w A h₀ L m news E s) E s)
    (hclos : closureFor scope env = pure cl) (hcell : ∀ y ∈ scope.names, y.2 ≠ .cell) (hkind : scope.kind = .function)
    (hnames : ∀ y ∈ scope.names, y.2 = .local → scope.names.lookup y.1 = some .local) (hx : scope.names.lookup x = some .local)
    (hsz : as.length ≤ sizeLine)
    (htests : ∀ C a v s₂ m₂ E', a ∈ as → K.is a v → s₂.heap.Ns (compEnvC scope cl C env).locals m₂ → m₂ x = some v → Fr h₀ L s₂.heap m → News h₀ L s₂.heap news →
        wpAny (model prog w) A (forIn ifs true fun c r => if r = true then do let ok ← isTrue c (compEnvC scope cl C env) (eval c (compEnvC scope cl C env)); pure (ForInStep.yield ok) else pure (ForInStep.yield r))
          (fun ok s₃ => ok = pz a ∧ Keeps s₂ s₃) E' s₂)
    (helt : ∀ C a v s₂ m₂ E', a ∈ as → K.is a v → pz a = true → s₂.heap.Ns (compEnvC scope cl C env).locals m₂ → m₂ x = some v → Fr h₀ L s₂.heap m → News h₀ L s₂.heap news →
        wpAny (model prog w) A (eval elt (compEnvC scope cl C env)) (fun r s₃ => Carried r (d a) ∧ Keeps s₂ s₃) E' s₂)
    (hQ : ∀ D (ys : List Value) n h' tk, Fr h₀ L h' m → News h₀ L h' ((D, listOf ys.toArray n) :: news) → (∀ p ∈ news, p.1 ≠ D) → D ≠ L → CarriedAll ys ((as.filter pz).map d) → Q (.ref D) { s with heap := h', toks := tk })
    (hs : ∀ x, foldedSetIterable iter env x = pure x) :
    wpAny (model prog w) A (eval (.ListComp elt [⟨.Name x px, iter, ifs, 0⟩] scope pos) env) Q E s := by
  refine wpAny_ListComp_free (K.lift pz) (fun v r => ∃ a, K.is a v ∧ Carried r (d a)) hclos hcell hkind hnames hx
    (wpAny_mono hit (fun xv s₁ h₁ => ?_) fun _ _ e => e) hs
  obtain ⟨g₁, tk₁, rfl, F, N, h₁⟩ := h₁.ex
  refine wpAny_mono h₁ (fun it s₂ h₂ => ?_) fun _ _ e => e
  obtain ⟨I, fp, wr, P, St, h₂, tk, rfl, rfl, W, hP, hst, hfp, hk⟩ := h₂
  have up : ∀ (h' : Heap), (∀ b o', b ∉ wr → h₂.get? b = some o' → h'.get? b = some o') → ∀ b o', g₁.get? b = some o' → h'.get? b = some o' :=
    fun h' hkk b o' e => hkk b o' (hk b o' e).2 (hk b o' e).1
  refine ⟨I, fp, wr, as.length, P, St, rfl, W, hsz, hst, hfp, ⟨?_, ?_⟩, ?_⟩
  · intro C i v s₃ m₃ E' _ hPv hn hm hkk _
    obtain ⟨a, hget, ha⟩ := hP i v hPv
    rw [ItemKind.lift_is ha]
    have hk' := up s₃.heap hkk
    exact htests C a v s₃ m₃ E' (List.mem_of_getElem? hget) ha hn hm (F.keeps hk') (N.grown hk')
  · intro C i v s₃ m₃ E' _ hPv hp hn hm hkk _
    obtain ⟨a, hget, ha⟩ := hP i v hPv
    rw [ItemKind.lift_is ha] at hp
    have hk' := up s₃.heap hkk
    exact wpAny_mono (helt C a v s₃ m₃ E' (List.mem_of_getElem? hget) ha hp hn hm (F.keeps hk') (N.grown hk')) (fun r s₄ h₄ => ⟨⟨_, ha, h₄.1⟩, h₄.2⟩) fun _ _ e => e
  · intro D h' tk' ys vs hnew hlD hplD hlen hPP hF hkk
    have hD0 : h₀.get? D = none := by
      cases e : h₀.get? D with
      | none => rfl
      | some o' => rw [(hk _ _ (F.keep _ _ e)).1] at hnew; cases hnew
    have hne : ∀ p ∈ news, p.1 ≠ D := fun p hp e => by rw [← e, (hk _ _ (N p hp).1).1] at hnew; cases hnew
    have PP : NewPlain h' news D ys := ⟨hplD, hne⟩
    have F' := F.keeps (up h' hkk)
    obtain ⟨n, NX⟩ := made_enters PP F' (N.grown (up h' hkk)) hD0
    have hare : AreOf K vs as := areOf_of_get vs as hlen fun j v hv => hP j v (hPP j v hv)
    exact hQ D ys.toList n h' tk' F' (by rw [Array.toArray_toList]; exact NX) hne (PP.ne_locals F') (hare.paired pz d _ hF)
theorem slice_take (o r : List Nat) : Txt.slice (mk (o ++ 45 :: r)) none (some (o.length : Int)) = mk o := by
  have h := slice_closes_toL (x := mk (o ++ 45 :: r)) (j := (o.length : Int)) (by omega) (by rw [mk_length]; simp; omega)
  rw [beq_iff_eq.mp h]
  simp
theorem slice_drop (o r : List Nat) : Txt.slice (mk (o ++ 45 :: r)) (some ((o.length : Int) + 1)) none = mk r := by
  have hb : (((o ++ 45 :: r).length : Nat) : Int) = ((mk (o ++ 45 :: r)).length : Int) := by rw [mk_length]
  have h := slice_closes_fromL (x := mk (o ++ 45 :: r)) (i := (o.length : Int) + 1) (b := ((o ++ 45 :: r).length : Int)) (by omega) (by rw [mk_length]; simp; omega) hb
  rw [beq_iff_eq.mp h]
  have e1 : ((o.length : Int) + 1).toNat = o.length + 1 := by omega
  have e2 : (((o ++ 45 :: r).length : Nat) - ((o.length : Int) + 1)).toNat = r.length := by simp; omega
  rw [e1, e2]
  have e3 : (mk (o ++ 45 :: r)).cps.toList = (o ++ [45]) ++ r := by simp
  rw [e3, List.drop_append_of_le_length (by simp), List.drop_eq_nil_of_le (by simp)]
  simp
end
end Mine
end
section
open PySem PySem.W PyProof.Rows PySem.Spec PySem.Calls
set_option Elab.async false
set_option maxRecDepth 100000
namespace Mine
section
variable {prog : Program} {w : World} {A : Around} {E : Value → Shared → Prop} {s : Shared} {h₀ : Heap} {L : Addr} {m : Str → Option Value} {env : Env} {news : List (Addr × Obj)}
/-- a comprehension over items known by kind, given a name by itself -/
theorem as_gen {α : Type} (K : ItemKind α) (as : List α) {elt iter : Expr} {x y : Str} {px py : Pos} {ifs : List Expr} {scope : Scope} {cl : List (Str × Addr)} {pos spos : Pos} {Q : Flow → Shared → Prop} (pz : α → Bool) (d : α → PyData)
    (hsw : swapsWith (.ListComp elt [⟨.Name x px, iter, ifs, 0⟩] scope pos) (some (.Name y py)) spos.line env = pure true) (hL : env.locals = L)
    (hit : wpAny (model prog w) A (eval iter env) (IterAt K as prog w A h₀ L m news E s) E s)
    (hclos : closureFor scope env = pure cl) (hcell : ∀ y ∈ scope.names, y.2 ≠ .cell) (hkind : scope.kind = .function)
    (hnames : ∀ y ∈ scope.names, y.2 = .local → scope.names.lookup y.1 = some .local) (hx : scope.names.lookup x = some .local)
    (hy : env.kindOf y = some .local) (hp : (env.scope.kind == .class || (env.scope.kind == .module && env.locals != env.globals)) = false)
    (hsz : as.length ≤ sizeLine)
    (htests : ∀ C a v s₂ m₂ E', a ∈ as → K.is a v → s₂.heap.Ns (compEnvC scope cl C env).locals m₂ → m₂ x = some v → Fr h₀ L s₂.heap m → News h₀ L s₂.heap news →
        wpAny (model prog w) A (forIn ifs true fun c r => if r = true then do let ok ← isTrue c (compEnvC scope cl C env) (eval c (compEnvC scope cl C env)); pure (ForInStep.yield ok) else pure (ForInStep.yield r))
          (fun ok s₃ => ok = pz a ∧ Keeps s₂ s₃) E' s₂)
    (helt : ∀ C a v s₂ m₂ E', a ∈ as → K.is a v → pz a = true → s₂.heap.Ns (compEnvC scope cl C env).locals m₂ → m₂ x = some v → Fr h₀ L s₂.heap m → News h₀ L s₂.heap news →
        wpAny (model prog w) A (eval elt (compEnvC scope cl C env)) (fun r s₃ => Carried r (d a) ∧ Keeps s₂ s₃) E' s₂)
    (hQ : ∀ D (ys : List Value) n h' tk, Fr h₀ L h' (fun z => if z = y then some (.ref D) else m z) → News h₀ L h' ((D, listOf ys.toArray n) :: news) → (∀ p ∈ news, p.1 ≠ D) → D ≠ L → CarriedAll ys ((as.filter pz).map d) → Q .next { s with heap := h', toks := tk })
    (hs : ∀ x, foldedSetIterable iter env x = pure x) :
    wpAny (model prog w) A (exec (.Assign [.Name y py] (.ListComp elt [⟨.Name x px, iter, ifs, 0⟩] scope pos) spos) env) Q E s := by
  subst hL
  refine wpAny_Assign_ListComp_free (K.lift pz) (fun v r => ∃ a, K.is a v ∧ Carried r (d a)) hsw hclos hcell hkind hnames hx hy hp
    (wpAny_mono hit (fun xv s₁ h₁ => ?_) fun _ _ e => e) hs
  obtain ⟨g₁, tk₁, rfl, F, N, h₁⟩ := h₁.ex
  refine wpAny_mono h₁ (fun it s₂ h₂ => ?_) fun _ _ e => e
  obtain ⟨I, fp, wr, P, St, h₂, tk, rfl, rfl, W, hP, hst, hfp, hk⟩ := h₂
  have up : ∀ (h' : Heap), (∀ b o', b ∉ wr → h₂.get? b = some o' → h'.get? b = some o') → ∀ b o', g₁.get? b = some o' → h'.get? b = some o' :=
    fun h' hkk b o' e => hkk b o' (hk b o' e).2 (hk b o' e).1
  have hLw : env.locals ∉ wr := by
    obtain ⟨o, _, _, ho, _⟩ := F.ns
    exact (hk _ _ ho).2
  refine ⟨I, fp, wr, as.length, P, St, m, rfl, W, hsz, hst, hfp, hLw, F.ns.at' fun o e => (hk _ _ e).1, ⟨?_, ?_⟩, ?_⟩
  · intro C i v s₃ m₃ E' _ hPv hn hm hkk _
    obtain ⟨a, hget, ha⟩ := hP i v hPv
    rw [ItemKind.lift_is ha]
    have hk' := up s₃.heap hkk
    exact htests C a v s₃ m₃ E' (List.mem_of_getElem? hget) ha hn hm (F.keeps hk') (N.grown hk')
  · intro C i v s₃ m₃ E' _ hPv hp hn hm hkk _
    obtain ⟨a, hget, ha⟩ := hP i v hPv
    rw [ItemKind.lift_is ha] at hp
    have hk' := up s₃.heap hkk
    exact wpAny_mono (helt C a v s₃ m₃ E' (List.mem_of_getElem? hget) ha hp hn hm (F.keeps hk') (N.grown hk')) (fun r s₄ h₄ => ⟨⟨_, ha, h₄.1⟩, h₄.2⟩) fun _ _ e => e
  · intro D h' tk' ys vs hnew hlD hplD hlen hPP hF hn' hkk
    have hD0 : h₀.get? D = none := by
      cases e : h₀.get? D with
      | none => rfl
      | some o' => rw [(hk _ _ (F.keep _ _ e)).1] at hnew; cases hnew
    have hne : ∀ p ∈ news, p.1 ≠ D := fun p hp e => by rw [← e, (hk _ _ (N p hp).1).1] at hnew; cases hnew
    have PP : NewPlain h' news D ys := ⟨hplD, hne⟩
    have keep : ∀ b o, b ≠ env.locals → g₁.get? b = some o → h'.get? b = some o := fun b o hb e => hkk b o hb (hk b o e).2 (hk b o e).1
    have F' : Fr h₀ env.locals h' (fun z => if z = y then some (.ref D) else m z) :=
      ⟨hn', fun b o e => keep b o (Nat.ne_of_lt (Nat.lt_of_lt_of_le (Heap.lt_size e) F.above)) (F.keep b o e), F.above⟩
    have N' : News h₀ env.locals h' news := fun p hp => ⟨keep _ _ (N p hp).2.1 (N p hp).1, (N p hp).2⟩
    obtain ⟨n, NX⟩ := made_enters PP F' N' hD0
    have hare : AreOf K vs as := areOf_of_get vs as hlen fun j v hv => hP j v (hPP j v hv)
    exact hQ D ys.toList n h' tk' F' (by rw [Array.toArray_toList]; exact NX) hne (PP.ne_locals F') (hare.paired pz d _ hF)
theorem iter_at {α : Type} {K : ItemKind α} {as : List α} {iter : Expr} {E' : Value → Shared → Prop} (_F : Fr h₀ L s.heap m) (_N : News h₀ L s.heap news) (h : wpAny (model prog w) A (eval iter env) (IterAt K as prog w A h₀ L m news E' s) E s) :
    wpAny (model prog w) A (eval iter env) (IterAt K as prog w A h₀ L m news E' s) E s := h
end
end Mine
end
section
/-! The plain functions of the law's reader, and what its walk asks of them. -/
namespace Mine
structure Dn where
  out : List Nat
  sign : Int
  spot : Int
  bias : Int
  first : Bool
  figs : List Int
/-- one number read: the figures, k, the weight, the spot -/
def rd (bias : Int) : List Int → Int → Int → Int → Option (Int × List Int)
  | [], _, _, _ => none
  | f :: fs, k, w, spot => if f < tb k bias then some (spot + f * w, fs) else rd bias fs (k + 36) (w * (36 - tb k bias)) (spot + f * w)
def dput (s : Dn) (r : Int × List Int) : Dn :=
  ⟨s.out.take (r.1.fmod (s.out.length + 1)).toNat ++ [(s.sign + r.1.fdiv (s.out.length + 1)).toNat] ++ s.out.drop (r.1.fmod (s.out.length + 1)).toNat,
    s.sign + r.1.fdiv (s.out.length + 1), r.1.fmod (s.out.length + 1) + 1, adapt (r.1 - s.spot) s.first (s.out.length + 1), false, r.2⟩
def drun : Nat → Dn → Option (List Nat)
  | 0, _ => none
  | f + 1, s => if s.figs = [] then some s.out else
    match rd s.bias s.figs 36 1 s.spot with
    | none => none
    | some r => if s.sign + r.1.fdiv (s.out.length + 1) < 1114112 then drun f (dput s r) else none
def figOf (c : Nat) : Int := if 97 ≤ c then (c : Int) - 97 else (c : Int) - 22
inductive Split (l : List Nat) : List Nat → List Nat → Prop
  | dash {o r : List Nat} : l = o ++ 45 :: r → 45 ∉ r → Split l o r
  | none : 45 ∉ l → Split l [] l
def Figs (fs : List Int) : Prop := ∀ f ∈ fs, 0 ≤ f ∧ f ≤ 35
/-- the reader comes through, and reads R -/
def Reads (l : List Nat) (R : List Nat) : Prop :=
  ∃ o r, Split l o r ∧ Figs (r.map figOf) ∧ ∃ f, drun f ⟨o, 128, 0, 72, true, r.map figOf⟩ = some R
theorem drun_nil {f : Nat} {s : Dn} {R : List Nat} (h : drun f s = some R) (hf : s.figs = []) : s.out = R := by
  cases f with
  | zero => cases h
  | succ f =>
    unfold drun at h
    rw [if_pos hf] at h
    exact Option.some.inj h
theorem drun_more {f : Nat} {s : Dn} {R : List Nat} (h : drun f s = some R) (hf : s.figs ≠ []) :
    ∃ f' r, rd s.bias s.figs 36 1 s.spot = some r ∧ s.sign + r.1.fdiv (s.out.length + 1) < 1114112 ∧ drun f' (dput s r) = some R := by
  cases f with
  | zero => cases h
  | succ f =>
    unfold drun at h
    rw [if_neg hf] at h
    cases hr : rd s.bias s.figs 36 1 s.spot with
    | none => rw [hr] at h; cases h
    | some r =>
      rw [hr] at h
      dsimp only at h
      by_cases hs : s.sign + r.1.fdiv (s.out.length + 1) < 1114112
      · rw [if_pos hs] at h
        exact ⟨f, r, rfl, hs, h⟩
      · rw [if_neg hs] at h; cases h
theorem tb_clamp (k bias : Int) : tb k bias = min (max (k - bias) 1) 26 := by
  unfold tb
  split
  · rw [Int.max_eq_right (by omega), Int.min_eq_left (by omega)]
  · split
    · rw [Int.max_eq_left (by omega), Int.min_eq_right (by omega)]
    · rw [Int.max_eq_left (by omega), Int.min_eq_left (by omega)]
theorem dash_max {l o r : List Nat} (h : l = o ++ 45 :: r) (hr : 45 ∉ r) {M : Int} (hM : M ∈ ((List.range l.length).filter fun i => decide (l[i]? = some 45)).map (fun (i : Nat) => (i : Int)) ++ [-1])
    (hle : ∀ a ∈ ((List.range l.length).filter fun i => decide (l[i]? = some 45)).map (fun (i : Nat) => (i : Int)) ++ [-1], a ≤ M) : M = (o.length : Int) := by
  have h1 : (o.length : Int) ≤ M := by
    refine hle _ (List.mem_append_left _ (List.mem_map.mpr ⟨o.length, List.mem_filter.mpr ⟨List.mem_range.mpr ?_, ?_⟩, rfl⟩))
    · rw [h]; simp
    · rw [h]; simp
  rcases List.mem_append.mp hM with hM | hM
  · obtain ⟨i, hi, rfl⟩ := List.mem_map.mp hM
    have h2 := (List.mem_filter.mp hi).2
    simp only [decide_eq_true_eq] at h2
    rcases Nat.lt_or_ge o.length i with h3 | h3
    · exfalso
      rw [h, List.getElem?_append_right (by omega)] at h2
      obtain ⟨j, hj⟩ : ∃ j, i - o.length = j + 1 := ⟨i - o.length - 1, by omega⟩
      rw [hj, List.getElem?_cons_succ] at h2
      exact hr (List.mem_of_getElem? h2)
    · omega
  · have := List.mem_singleton.mp hM; omega
theorem nodash_max {l : List Nat} (hr : 45 ∉ l) {M : Int} (hM : M ∈ ((List.range l.length).filter fun i => decide (l[i]? = some 45)).map (fun (i : Nat) => (i : Int)) ++ [-1]) : M = -1 := by
  rcases List.mem_append.mp hM with hM | hM
  · obtain ⟨i, hi, rfl⟩ := List.mem_map.mp hM
    have h2 := (List.mem_filter.mp hi).2
    simp only [decide_eq_true_eq] at h2
    exact absurd (List.mem_of_getElem? h2) hr
  · exact List.mem_singleton.mp hM
end Mine
end
section
open PySem PySem.W PyProof.Rows PySem.Spec PySem.Calls
set_option Elab.async false
set_option maxRecDepth 100000
namespace Mine
local macro_rules | `(tactic| walk_at "Keeps") => `(tactic| (exact ⟨_, _, rfl, fun _ _ e => e⟩))
local macro_rules | `(tactic| walk_at "Carried") => `(tactic| (constructor))
local macro_rules | `(tactic| walk_at "mine steps") => `(tactic| repeat' (first | (k_unfold; (try dsimp only)) | walk1 | (dsimp only; walk1) | (leave1; (try dsimp only)) | fail "no step"))
local macro_rules | `(tactic| walk_at "eval ListComp") => `(tactic| (k_here; refine StopG.out ?_))
local macro_rules | `(tactic| walk_at "exec Assign cons ListComp") => `(tactic| (k_here; refine StopG.out ?_))
local macro_rules | `(tactic| walk_at "exec While") => `(tactic| (k_here; refine StopG.out ?_))
local macro_rules | `(tactic| walk_at "call builtin:str.join") => `(tactic| (k_here; refine StopG.out ?_))
local macro_rules | `(tactic| walk_at "call builtin:max") => `(tactic| (k_here; (with_reducible show wpAny _ _ (call _ [Value.ref _]) _ _ _); refine StopG.out ?_))
local macro_rules | `(tactic| walk_at "call ref") => `(tactic| (k_here; refine StopG.out ?_))
local macro_rules | `(tactic| walk_at "call type:enumerate") => `(tactic| (k_here; refine StopG.out ?_))
local macro_rules | `(tactic| walk_at "pyIter") => `(tactic| (k_here; refine StopG.out ?_))
theorem bints_of {l : List Nat} (h : Small l) : KBw.bInts (l.map Nat.toUInt8).toArray = l.map fun (c : Nat) => (c : Int) := by
  rw [KBw.ints_list, List.map_map]
  refine List.map_congr_left fun c hc => ?_
  have := h c hc
  show ((c.toUInt8).toNat : Int) = c
  rw [show c.toUInt8.toNat = c % 256 from rfl, Nat.mod_eq_of_lt (by omega)]
theorem signs_back (l : List Nat) : ((l.map fun (c : Nat) => (c : Int)).filter fun _ => true).map (fun a => (⟨#[a.toNat]⟩ : Str)) = l.map fun c => (⟨#[c]⟩ : Str) := by
  rw [List.filter_eq_self.mpr (fun _ _ => rfl), List.map_map]
  rfl
local macro_rules | `(tactic| walk_at "binaryOp Add ref ref") => `(tactic| (k_here; refine StopG.out ?_))
local macro_rules | `(tactic| walk_at "exec Assign") => `(tactic| (k_here; (with_reducible show wpAny _ _ (exec (Stmt.Assign _ (Expr.IfExp _ _ _ _) _) _) _ _ _); refine StopG.out ?_))
local macro_rules | `(tactic| walk_at "exec Assign") => `(tactic| (k_here; (with_reducible show wpAny _ _ (exec (Stmt.Assign _ (Expr.BinOp _ _ (Expr.IfExp _ _ _ _) _) _) _) _ _ _); refine StopG.out ?_))
local macro_rules | `(tactic| walk_at "mine sub") => `(tactic| (intro p hp; (repeat' first | exact hp | refine List.mem_cons_of_mem _ ?_)))
theorem dash_test (l : List Nat) {i cc : Nat} (h : (mk l).cps[i]? = some cc) : ((⟨#[cc]⟩ : Str) == Str.ofString "-") = decide (l[i]? = some 45) := by
  have h1 : l[i]? = some cc := by simpa using h
  rw [h1]
  have e : Str.ofString "-" = ⟨#[45]⟩ := rfl
  rw [e]
  by_cases hc : cc = 45
  · subst hc; simp
  · have h2 : ¬ (⟨#[cc]⟩ : Str) = ⟨#[45]⟩ := fun q => hc (by simpa using q)
    simp [hc, h2]
/-- what the reader's third statement leaves -/
structure OutRest (h₀ : Heap) (L : Addr) (m : Str → Option Value) (news : List (Addr × Obj)) (o r : List Nat) (s : Shared) (fl : Flow) (s' : Shared) : Prop where
  fl : fl = .next
  ex : ∃ (h' : Heap) (tk : Nat) (D : Addr) (vs : List Value) (n : Nat) (t : Tok), s' = { s with heap := h', toks := tk } ∧ Fr h₀ L h' (fun y => if y = Str.ofString "rest" then some (.str (mk r) t) else if y = Str.ofString "out" then some (.ref D) else m y) ∧
    News h₀ L h' ((D, listOf vs.toArray n) :: news) ∧ StrsAre vs (o.map fun c => (⟨#[c]⟩ : Str))
theorem outrest_cut {h₀ : Heap} {L : Addr} {m : Str → Option Value} {news : List (Addr × Obj)} {o r : List Nat} {s : Shared} {M : Model} {A : Around} {E : Value → Shared → Prop} {env : Env} {st : Stmt} {Q : Flow → Shared → Prop} (_F : Fr h₀ L s.heap m)
    (h1 : wpAny M A (exec st env) (OutRest h₀ L m news o r s) E s)
    (h2 : ∀ (h' : Heap) (tk : Nat) (D : Addr) (vs : List Value) (n : Nat) (t : Tok), Fr h₀ L h' (fun y => if y = Str.ofString "rest" then some (.str (mk r) t) else if y = Str.ofString "out" then some (.ref D) else m y) →
      News h₀ L h' ((D, listOf vs.toArray n) :: news) → StrsAre vs (o.map fun c => (⟨#[c]⟩ : Str)) → Q .next { s with heap := h', toks := tk }) : wpAny M A (exec st env) Q E s :=
  wpAny_mono h1 (fun fl s' h => by
    obtain ⟨rfl, h', tk, D, vs, n, t, rfl, F', N', hv⟩ := h
    exact h2 h' tk D vs n t F' N' hv) fun _ _ e => e
theorem a_lt (c : Nat) : ((⟨#[c]⟩ : Str).cps.toList < (Str.ofString "a").cps.toList) ↔ c < 97 := by
  show [c] < [97] ↔ c < 97
  rw [List.cons_lt_cons_iff]
  constructor
  · rintro (h | ⟨_, h⟩)
    · exact h
    · exact absurd h (List.lt_irrefl _)
  · exact Or.inl
theorem fig_lo {c : Nat} (h : (⟨#[c]⟩ : Str).cps.toList < (Str.ofString "a").cps.toList) : (c : Int) - 22 = figOf c := by
  have := (a_lt c).mp h
  unfold figOf
  rw [if_neg (by omega)]
theorem fig_hi {c : Nat} (h : ¬ (⟨#[c]⟩ : Str).cps.toList < (Str.ofString "a").cps.toList) : (c : Int) - 97 = figOf c := by
  have : ¬ c < 97 := fun q => h ((a_lt c).mpr q)
  unfold figOf
  rw [if_pos (by omega)]
theorem ints_from1 {vs : List Value} {f : Int} {fs : List Int} (h : IntsAre vs (f :: fs)) : IntsAre (kms_pick vs (some 1) none) fs := by
  cases h with
  | cons n t h =>
    unfold kms_pick kms_lo kms_hi
    dsimp only
    rw [if_neg (by decide)]
    simp only [List.length_cons, show (1 : Int).toNat = 1 from rfl]
    rw [Nat.min_eq_left (by omega), List.drop_succ_cons, List.drop_zero, List.take_of_length_le (by omega)]
    exact h
theorem strs_upto {vs : List Value} {l : List Str} {k : Int} (h : StrsAre vs l) (h0 : 0 ≤ k) (h1 : k ≤ l.length) : StrsAre (kms_pick vs none (some k)) (l.take k.toNat) := by
  have hl := h.length
  unfold kms_pick kms_lo kms_hi
  dsimp only
  rw [if_neg (by omega), List.drop_zero, Nat.sub_zero, Nat.min_eq_left (by omega)]
  exact h.take' _
theorem strs_from {vs : List Value} {l : List Str} {k : Int} (h : StrsAre vs l) (h0 : 0 ≤ k) (h1 : k ≤ l.length) : StrsAre (kms_pick vs (some k) none) (l.drop k.toNat) := by
  have hl := h.length
  unfold kms_pick kms_lo kms_hi
  dsimp only
  rw [if_neg (by omega), Nat.min_eq_left (by omega), List.take_of_length_le (by rw [List.length_drop]; omega)]
  exact h.drop' _
local macro_rules | `(tactic| walk_at "call builtin:len") => `(tactic| (k_here; (with_reducible show wpAny _ _ (call (Value.builtin "len") [Value.ref _]) _ _ _); k_dflt (refine' kst_len ?m1 ?m2 ?m3 ?m4 ?_; (case m1 => k_asm); (case m2 => (repeat' first | exact List.mem_cons_self | refine List.mem_cons_of_mem _ ?_)); (case m3 => assumption); (case m4 => omega))))
section
variable {prog : Program} {w : World} {A : Around} {E : Value → Shared → Prop} {s : Shared} {h₀ : Heap} {L : Addr} {m : Str → Option Value} {news : List (Addr × Obj)}
theorem add_strs {l b : Addr} {vs ws : List Value} {ss ts : List Str} {Q : Value → Shared → Prop} (F : Fr h₀ L s.heap m) (N : News h₀ L s.heap news) (hl : s.heap.IsList l vs.toArray) (hb : s.heap.IsList b ws.toArray)
    (hv : StrsAre vs ss) (hw : StrsAre ws ts) (hsz : ss.length + ts.length ≤ sizeLine)
    (h : ∀ h' zs, Fr h₀ L h' m → News h₀ L h' ((s.heap.objs.size, listOf zs.toArray 0) :: news) → StrsAre zs (ss ++ ts) → Q (.ref s.heap.objs.size) { s with heap := h' }) :
    wpAny (model prog w) A (binaryOp .Add (.ref l) (.ref b)) Q E s :=
  add_lists F N hl hb (fun h' F' N' => h h' _ F' N' (hv.append' hw)) (by rw [hv.length, hw.length]; exact hsz)
end
theorem sub_two {a b : Addr × Obj} {l k : List (Addr × Obj)} (ha : a ∈ k) (hb : b ∈ k) (hl : ∀ p ∈ l, p ∈ k) : ∀ p ∈ a :: b :: l, p ∈ k := by
  intro p hp
  rcases List.mem_cons.mp hp with rfl | hp
  · exact ha
  · rcases List.mem_cons.mp hp with rfl | hp
    · exact hb
    · exact hl p hp
local macro_rules | `(tactic| walk_at "mine sub2") => `(tactic| (refine sub_two ?_ ?_ ?_; (repeat' first | exact List.mem_cons_self | refine List.mem_cons_of_mem _ ?_); (repeat' first | exact List.mem_cons_self | refine List.mem_cons_of_mem _ ?_); (walk_at "mine sub")))
theorem tb_ifs (k b : Int) : (if 26 < (if 1 > k - b then 1 else k - b) then 26 else (if 1 > k - b then 1 else k - b)) = Mine.tb k b := by
  unfold Mine.tb
  (repeat' split) <;> omega
/-- the letters of the reader's loop -/
structure RO where
  od : Addr
  ov : List Value
  on : Nat
  oc : List Nat
  fd : Addr
  fv : List Value
  fn : Nat
  fs : List Int
  sg : Int
  tg : Tok
  sp : Int
  tp : Tok
  b : Int
  tb : Tok
  first : Bool
/-- the letters of the loop that reads one number -/
structure RI where
  fd : Addr
  fv : List Value
  fn : Nat
  fs : List Int
  sp : Int
  tp : Tok
  w : Int
  tw : Tok
  k : Int
  tk : Tok
/-- the letters of the loop that adapts -/
structure RA where
  d : Int
  td : Tok
  b : Int
  tb : Tok
theorem adl_nonneg {d m : Int} (h : 0 ≤ d) (hm : 1 ≤ m) : 0 ≤ d + d.fdiv m := by
  have := fdiv_le h hm
  omega
theorem adapt_eq {x dv m d b : Int} {first : Bool} (h1 : x.fdiv (if first then 700 else 2) = dv) (h2 : adl d b = adl (dv + dv.fdiv m) 0) (h3 : ¬ 455 < d) : b + (36 * d).fdiv (d + 38) = adapt x first m := by
  subst h1
  rw [adl_end h3] at h2
  cases first with
  | true =>
    simp only [adapt, if_true] at h2 ⊢
    rw [← h2]
  | false =>
    simp only [adapt, Bool.false_eq_true, if_false] at h2 ⊢
    rw [← h2]
local macro_rules | `(tactic| walk_at "subscriptTail Name Slice ref ref") => `(tactic| (k_here; refine StopG.out ?_))
local macro_rules | `(tactic| walk_at "subscriptTail Name Constant ref int") => `(tactic| (k_here; refine StopG.out ?_))
local macro_rules | `(tactic| walk_at "KswEnd") => `(tactic| (refine StopG.out ?_))
set_option maxHeartbeats 8000000 in
theorem read_c (w : World) (mean : ExcName → Option Value) (mg mb : Str → Option Value) (news : List (Addr × Obj)) (l R : List Nat) (t1 : Tok) :
  Claim PySem.Challenge.rw_ez0126_01.prog w (hd.heap_39 w.params) hd.view_39 (looseW hd.view_39 []) mean mg mb 45 2 200 news (l.length ≤ 1000 ∧ Small l ∧ Mine.Reads l R) [.bytes (l.map Nat.toUInt8).toArray t1] (fun t => .str (mk R) t) := by
  w_top off
  k_fill
  unfold Claim
  intros
  rename_i hpre _ _ hret
  obtain ⟨hl, hs, o, r, hsp, hfg, f₀, hrun⟩ := hpre
  refine wpAny_call ?_
  k_dflt cell_enter
  walk_at "mine steps"
  constructor
  rename Fr _ _ _ _ => kF
  rename News _ _ _ _ => kN
  refine' lc_gen .int (KBw.bInts (l.map Nat.toUInt8).toArray) (cl := []) (fun _ => true) (fun a => PyData.str ⟨#[a.toNat]⟩) (iter_at kF kN ?aI) rfl (by decide) rfl (by decide) rfl ?aS ?aT ?aE ?aQ (fun _ => rfl)
  case aI =>
    walk_at "mine steps"
    exact ⟨_, _, rfl, kF, kN, src_bytes rfl⟩
  case aS =>
    rw [KBw.ints_length, List.size_toArray, List.length_map]
    exact Nat.le_trans hl (by decide)
  case aT =>
    intro C a v s₂ m₂ E' ha hv hn hm F₂ N₂
    exact wpAny_tests_nil ⟨rfl, _, _, rfl, fun _ _ e => e⟩
  case aE =>
    intro C a v s₂ m₂ E' ha hv hp hn hm F₂ N₂
    obtain ⟨u, rfl⟩ := hv
    have hr := KBw.ints_in ha
    walk_at "mine steps"
  clear kF kN
  intro D ys n h' tk F' N' hD hDL hy
  walk_at "mine steps"
  constructor
  rw [bints_of hs] at hy
  have hst := CarriedAll.strsOf hy
  rw [signs_back] at hst
  refine' join_signs (l := l) ?jA hst ?jB ?_
  case jA => is_list
  case jB => omega
  clear hy hst
  intro o₁ ho₁ _ tJ kJ
  rw [ho₁]
  clear ho₁
  have hml := mk_length l
  walk_at "mine steps"
  constructor
  rename Fr _ _ _ _ => kF
  rename News _ _ _ _ => kN
  have hsz : (mk l).cps.size = l.length := by simp
  refine' lc_enum (cl := []) (y := mk l) (fun i => decide (l[i]? = some 45)) (fun i => PyData.int (i : Int)) kF kN ?eI rfl rfl (by decide) rfl (by decide) rfl rfl (by decide) ?eS ?eT ?eE ?eQ (fun _ => rfl)
  case eI =>
    walk_at "mine steps"
    constructor
    exact enum_src rfl
  case eS => rw [hsz]; exact Nat.le_trans hl (by decide)
  case eT =>
    intro C i cc t u s₂ m₂ E' hcc hn h1 h2 hk F₂ N₂
    walk_at "mine steps"
    exact dash_test l hcc
  case eE =>
    intro C i cc t u s₂ m₂ E' hcc hp hn h1 h2 hk F₂ N₂
    walk_at "mine steps"
  clear kF kN
  intro D2 ys2 n2 h' tk F' N' hD2 hDL2 hy2
  walk_at "mine steps"
  constructor
  rename Fr _ _ _ _ => kF
  rename News _ _ _ _ => kN
  have hlen2 : ys2.length ≤ 1000 := by
    have h1 := CarriedAll.length_eq hy2
    have h2 := List.length_filter_le (fun i => decide (l[i]? = some 45)) (List.range (mk l).cps.size)
    rw [List.length_range] at h2
    rw [List.length_map] at h1
    omega
  refine' add_lists kF kN ?lA ?lB ?_ ?lC
  case lA => is_list
  case lB => is_list
  case lC =>
    show ys2.length + 1 ≤ sizeLine
    rw [sizeLine_eq]; omega
  clear kF kN
  intro h' F' N'
  walk_at "mine steps"
  constructor
  rename Fr _ _ _ _ => kF
  rename News _ _ _ _ => kN
  refine' kso_max kF kN ?mL (IntsAre.append (CarriedAll.intsOf hy2) (IntsAre.cons (-1) _ .nil)) ?mN rfl ?_
  case mL => is_list
  case mN => simp
  clear kF kN
  intro h' M tM tk F N hM1 hM2
  rw [hsz] at hM1 hM2
  walk_at "mine steps"
  constructor
  rename Fr _ _ _ _ => kF
  rename News _ _ _ _ => kN
  replace kN := news_sub (l' := news) kN (by walk_at "mine sub")
  refine outrest_cut (news := news) (o := o) (r := r) kF ?_ ?_
  · refine Assign_Tuple ?_
    cases hsp with
    | dash hlr hnr =>
      have hMv := dash_max hlr hnr hM1 hM2
      subst hMv
      subst hlr
      clear hM1 hM2 hy2
      walk_at "mine steps"
      constructor
      refine' lc_gen .str (signs (mk o)) (cl := []) (fun _ => true) PyData.str (iter_at kF kN ?gI) rfl (by decide) rfl (by decide) rfl ?gS ?gT ?gE ?gQ (fun _ => rfl)
      case gI =>
        walk_at "mine steps"
        have e : Txt.slice (mk (o ++ 45 :: r)) none (some (o.length : Int)) = mk o := slice_take o r
        refine ⟨_, _, rfl, by assumption, by assumption, ?_⟩
        rw [e]
        exact src_str rfl
      case gS =>
        rw [signs_length, mk_length]
        simp only [List.length_append] at hl
        rw [sizeLine_eq]; omega
      case gT =>
        intro C a v s₂ m₂ E' ha hv hn hm F₂ N₂
        exact wpAny_tests_nil ⟨rfl, _, _, rfl, fun _ _ e => e⟩
      case gE =>
        intro C a v s₂ m₂ E' ha hv hp hn hm F₂ N₂
        obtain ⟨u, rfl⟩ := hv
        walk_at "mine steps"
      case gQ =>
        clear kF kN
        intro D3 ys3 n3 h' tk F N hD3 hDL3 hy3
        have hst3 : StrsAre ys3 (o.map fun c => (⟨#[c]⟩ : Str)) := by
          have h := CarriedAll.strsOf hy3
          rw [List.filter_eq_self.mpr (fun _ _ => rfl)] at h
          have e : signs (mk o) = o.map fun c => (⟨#[c]⟩ : Str) := by simp [signs]
          rw [← e]; rw [List.map_id'] at h
          exact h
        walk_at "mine steps"
        rename Fr _ _ _ _ => kF
        rename News _ _ _ _ => kN
        rw [show Txt.slice (mk (o ++ 45 :: r)) (some ((o.length : Int) + 1)) none = mk r from slice_drop o r] at kF
        exact ⟨rfl, _, _, D3, ys3, n3, _, rfl, kF, news_sub kN (by walk_at "mine sub"), hst3⟩
    | none hn =>
      have hMv := nodash_max hn hM1
      subst hMv
      clear hM1 hM2 hy2
      walk_at "mine steps"
      rename Fr _ _ _ _ => kF
      rename News _ _ _ _ => kN
      exact ⟨rfl, _, _, _, [], 0, _, rfl, kF, news_sub kN (by walk_at "mine sub"), .nil⟩
  clear kF kN hM1 hM2 hy2
  intro h' tk D3 vs3 n3 t3 kF kN hv3
  have hrl : r.length ≤ 1000 := by
    cases hsp with
    | dash e _ => rw [e] at hl; simp at hl; omega
    | none _ => exact hl
  have hol : o.length ≤ 1000 := by
    cases hsp with
    | dash e _ => rw [e] at hl; simp at hl; omega
    | none _ => simp
  have hrs : Small r := by
    cases hsp with
    | dash e _ => intro c hc; exact hs c (by rw [e]; simp [hc])
    | none _ => exact hs
  clear hsp
  walk_at "mine steps"
  constructor
  refine' as_gen .str (signs (mk r)) (cl := []) (fun _ => true) (fun a => PyData.int (figOf (a.cps.getD 0 0))) rfl rfl (iter_at kF kN ?hI) rfl (by decide) rfl (by decide) rfl rfl rfl ?hS ?hT ?hE ?hQ (fun _ => rfl)
  case hI =>
    walk_at "mine steps"
    exact ⟨_, _, rfl, kF, kN, src_str rfl⟩
  case hS => rw [signs_length, mk_length]; exact Nat.le_trans hrl (by decide)
  case hT =>
    intro C a v s₂ m₂ E' ha hv hn hm F₂ N₂
    exact wpAny_tests_nil ⟨rfl, _, _, rfl, fun _ _ e => e⟩
  case hE =>
    intro C a v s₂ m₂ E' ha hv hp hn hm F₂ N₂
    obtain ⟨u, rfl⟩ := hv
    obtain ⟨c, hcr, rfl⟩ : ∃ c, c ∈ r ∧ a = ⟨#[c]⟩ := by
      simp only [signs, List.mem_map] at ha
      obtain ⟨c, h1, h2⟩ := ha
      exact ⟨c, h1, h2.symm⟩
    walk_at "mine steps"
    · rename (_ < _) => hlt
      rw [show ((#[c].getD 0 0 : Nat) : Int) - 22 = figOf (#[c].getD 0 0) from fig_lo hlt]
      constructor
    · rename (¬ _ < _) => hlt
      rw [show ((#[c].getD 0 0 : Nat) : Int) - 97 = figOf (#[c].getD 0 0) from fig_hi hlt]
      constructor
  clear kF kN
  intro D4 ys4 n4 h' tk F N hD4 hDL4 hy4
  have hints4 : IntsAre ys4 (r.map figOf) := by
    have h := CarriedAll.intsOf hy4
    have e : r.map figOf = ((signs (mk r)).filter fun _ => true).map fun a => figOf (a.cps.getD 0 0) := by
      rw [List.filter_eq_self.mpr (fun _ _ => rfl), signs, List.map_map]
      rfl
    rw [e]
    exact h
  clear hy4
  walk_at "mine steps"
  constructor
  rename Fr _ _ _ _ => kF
  rename News _ _ _ _ => kN
  replace kN := news_sub (l' := (D4, listOf ys4.toArray n4) :: (D3, listOf vs3.toArray n3) :: news) kN (by walk_at "mine sub")
  refine' ksw_while (fun c : RO => (c.fd, listOf c.fv.toArray c.fn) :: (c.od, listOf c.ov.toArray c.on) :: news)
    (fun c => [(Str.ofString "out", .ref c.od), (Str.ofString "figures", .ref c.fd), (Str.ofString "sign", .int c.sg c.tg), (Str.ofString "spot", .int c.sp c.tp), (Str.ofString "bias", .int c.b c.tb), (Str.ofString "first", .bool c.first)])
    (fun c => StrsAre c.ov (c.oc.map fun c => (⟨#[c]⟩ : Str)) ∧ IntsAre c.fv c.fs) [Str.ofString "figure", Str.ofString "before", Str.ofString "weight", Str.ofString "k", Str.ofString "bound", Str.ofString "delta"]
    (fun c => Figs c.fs ∧ 0 ≤ c.sp ∧ 0 ≤ c.sg ∧ c.oc.length + c.fs.length ≤ 2000 ∧ ∃ f, drun f ⟨c.oc, c.sg, c.sp, c.b, c.first, c.fs⟩ = some R) (fun c => c.fs.length)
    ⟨D3, vs3, n3, o, D4, ys4, n4, r.map figOf, 128, _, 0, _, 72, _, true⟩ kF kN ?wF ?wK ?wP ?wT
  case wF => exact ⟨hv3, hints4⟩
  case wK => kst_all
  case wP => exact ⟨hfg, by simp, by simp, by simp only [List.length_map]; omega, _, hrun⟩
  case wT =>
    clear kF kN hv3 hints4 hrun hfg hol hrl hrs hD4 hDL4 hD2 hDL2 hlen2 hsz hml hD hDL hl hs
    intro c u h tk hf hp F N
    obtain ⟨od, ov, on, oc, fd, fv, fn, fs, sg, tg, sp, tp, b, tb, first⟩ := c
    obtain ⟨hov, hfv⟩ := hf
    obtain ⟨hfg, hsp, hsg, hlen, f₁, hrun⟩ := hp
    dsimp only at hov hfv hfg hsp hsg hlen hrun N
    dsimp only [kstB] at F
    k_fold
    walk_at "mine steps"
    all_goals constructor
    · rename (decide (fs = []) = true) => hnil
      have hR := drun_nil hrun (of_decide_eq_true hnil)
      dsimp only at hR
      refine' join_signs (l := oc) ?jC hov ?jD ?_
      case jC => is_list
      case jD => omega
      intro o₂ ho₂ _ tJ2 kJ2
      rw [ho₂, hR]
      walk_at "mine steps"
      rename Fr _ _ _ _ => kF
      rename News _ _ _ _ => kN
      exact hret _ _ _ kF (news_sub kN (by walk_at "mine sub"))
    · rename (decide (fs = []) = false) => hnil
      obtain ⟨f', rr, hrd, hsb, hrun⟩ := drun_more hrun (of_decide_eq_false hnil)
      dsimp only at hrd hsb hrun
      rename Fr _ _ _ _ => kF
      rename News _ _ _ _ => kN
      replace kN := news_sub (l' := (fd, listOf fv.toArray fn) :: (od, listOf ov.toArray on) :: news) kN (by walk_at "mine sub")
      refine' ksw_while (fun c : RI => (c.fd, listOf c.fv.toArray c.fn) :: (od, listOf ov.toArray on) :: news)
        (fun c => [(Str.ofString "figures", .ref c.fd), (Str.ofString "spot", .int c.sp c.tp), (Str.ofString "weight", .int c.w c.tw), (Str.ofString "k", .int c.k c.tk)])
        (fun c => IntsAre c.fv c.fs) [Str.ofString "figure", Str.ofString "bound"]
        (fun c => Figs c.fs ∧ sp ≤ c.sp ∧ 1 ≤ c.w ∧ c.fs.length ≤ fs.length ∧ Mine.rd b c.fs c.k c.w c.sp = some rr) (fun c => c.fs.length)
        ⟨fd, fv, fn, fs, sp, _, 1, _, 36, _⟩ kF kN ?iF ?iK ?iP ?iT
      case iF => exact hfv
      case iK => kst_all
      case iP => exact ⟨hfg, Int.le_refl _, by simp, Nat.le_refl _, hrd⟩
      case iT =>
        clear kF kN hfv hfg hrd
        intro c u h tk hfv hp F N
        obtain ⟨fd2, fv2, fn2, fs2, sp2, tp2, w2, tw2, k2, tk2⟩ := c
        obtain ⟨hfg, hsp2, hw2, hlen2, hrd⟩ := hp
        dsimp only at hfv hfg hsp2 hw2 hlen2 hrd N
        dsimp only [kstB] at F
        k_fold
        obtain ⟨f, fs3, rfl⟩ : ∃ f fs3, fs2 = f :: fs3 := by
          cases fs2 with
          | nil => cases hrd
          | cons f fs3 => exact ⟨f, fs3, rfl⟩
        have hf0 := hfg f List.mem_cons_self
        have hfg3 : Figs fs3 := fun x hx => hfg x (List.mem_cons_of_mem _ hx)
        have ht1 := tb_lo k2 b
        have ht2 := tb_hi k2 b
        have hfw : 0 ≤ f * w2 := Int.mul_nonneg hf0.1 (by omega)
        simp only [List.length_cons] at hlen2
        have hfl := hfv.length
        simp only [List.length_cons] at hfl
        walk_at "mine steps"
        constructor
        refine' item_list_ints ?x1 hfv (by decide) (by simp) (by decide) ?_
        case x1 => is_list
        intro tI
        dsimp only [List.getD_cons_zero, Int.toNat_zero]
        walk_at "mine steps"
        constructor
        rename Fr _ _ _ _ => kF
        rename News _ _ _ _ => kN
        refine' kmk_slice kF kN ?y1 (IsPart.int _ _) IsPart.none ?_ (by with_unfolding_all rfl) (by intro _; with_unfolding_all rfl) ?y2
        case y1 => is_list
        case y2 =>
          rw [List.size_toArray, hfl, sizeLine_eq]; omega
        clear kF kN
        intro D5 h' F N hlt5
        rw [kms_pick_eq] at N
        have hi5 := ints_from1 hfv
        walk_at "mine steps"
        · constructor
          rename (f < _) => hlt
          rename Fr _ _ _ _ => F
          rename News _ _ _ _ => N
          replace hlt : f < Mine.tb k2 b := by rw [← tb_ifs]; exact hlt
          rw [show (f :: fs3).getD 0 0 = f from rfl, tb_ifs] at F
          replace N := news_sub (l' := (D5, listOf (kms_pick fv2 (some 1) none).toArray 0) :: (od, listOf ov.toArray on) :: news) N (by walk_at "mine sub2")
          have hrr : rr = (sp2 + f * w2, fs3) := by
            unfold rd at hrd
            rw [if_pos hlt] at hrd
            exact (Option.some.inj hrd).symm
          subst hrr
          clear hlt hrd
          dsimp only at hsb
          refine name_cut (Str.ofString "delta") (fun t => .int ((sp2 + f * w2 - sp).fdiv (if first then 700 else 2)) t) F N ?_ ?_
          · refine wpAny_Assign_Name ?_
            walk_at "mine steps"
            · rename Fr _ _ _ _ => F2
              rename News _ _ _ _ => N2
              rename (first = true) => hft
              subst hft
              exact ⟨rfl, _, _, _, rfl, F2, N2⟩
            · rename Fr _ _ _ _ => F2
              rename News _ _ _ _ => N2
              rename (first = false) => hft
              subst hft
              exact ⟨rfl, _, _, _, rfl, F2, N2⟩
          clear F N
          intro h' tkd td F N
          have hd0 := fdiv_le (x := sp2 + f * w2 - sp) (m := if first then 700 else 2) (by omega) (by split <;> decide)
          generalize hdv : (sp2 + f * w2 - sp).fdiv (if first then 700 else 2) = dv at hd0 F
          have hovl := hov.length
          rw [List.length_map] at hovl
          walk_at "mine steps"
          constructor
          rename Fr _ _ _ _ => kF
          rename News _ _ _ _ => kN
          replace kN := news_sub (l' := (D5, listOf (kms_pick fv2 (some 1) none).toArray 0) :: (od, listOf ov.toArray on) :: news) kN (by walk_at "mine sub")
          have hnf := adl_nonneg hd0.1 (m := ((oc.length : Nat) : Int) + 1) (by omega)
          refine' ksw_while (fun _ : RA => (D5, listOf (kms_pick fv2 (some 1) none).toArray 0) :: (od, listOf ov.toArray on) :: news) (fun c => [(Str.ofString "delta", .int c.d c.td), (Str.ofString "bias", .int c.b c.tb)]) (fun _ => True) [] (fun c => 0 ≤ c.d ∧ adl c.d c.b = adl (dv + dv.fdiv (((oc.length : Nat) : Int) + 1)) 0) (fun c => c.d.toNat) ⟨dv + dv.fdiv (((oc.length : Nat) : Int) + 1), _, 0, _⟩ kF kN trivial ?aK ?aP ?aT
          case aK => kst_all
          case aP => exact ⟨hnf, rfl⟩
          case aT =>
            clear kF kN
            intro c u h tk _ hp F N
            obtain ⟨d4, td4, b4, tb4⟩ := c
            obtain ⟨hd4, hadl⟩ := hp
            dsimp only at hd4 hadl N
            dsimp only [kstB] at F
            k_fold
            have hq0 : 0 ≤ (sp2 + f * w2).fdiv (((oc.length : Nat) : Int) + 1) := (fdiv_le (by omega) (by omega)).1
            have hm0 := fmod_lo (sp2 + f * w2) (n := ((oc.length : Nat) : Int) + 1) (by omega)
            have hm1 := fmod_hi (sp2 + f * w2) (n := ((oc.length : Nat) : Int) + 1) (by omega)
            walk_at "mine steps"
            · constructor
              rename Fr _ _ _ _ => kF
              rename News _ _ _ _ => kN
              rename (455 < _) => hgt
              rw [adl_step hgt] at hadl
              have hdv : d4.fdiv 35 = d4 / 35 := fdiv35
              exact ksw_end ⟨d4.fdiv 35, _, b4 + 36, _⟩ kF kN (by walk_at "mine sub2") trivial (by kst_all) (by ksw_same) ⟨by dsimp only; omega, hadl⟩ (by dsimp only; omega)
            · constructor
              rename (¬ 455 < _) => hle
              have had := adapt_eq (m := ((oc.length : Nat) : Int) + 1) hdv hadl hle
              rename Fr _ _ _ _ => kF
              rename News _ _ _ _ => kN
              refine' kmk_slice kF kN ?ya IsPart.none (IsPart.int _ _) ?_ (by with_unfolding_all rfl) (by intro _; with_unfolding_all rfl) ?yb
              case ya => is_list
              case yb =>
                rw [List.size_toArray, hovl, sizeLine_eq]; omega
              clear kF kN
              intro D6 h' F N hlt6
              rw [kms_pick_eq] at N
              have hs6 := strs_upto hov (k := (sp2 + f * w2).fmod (((oc.length : Nat) : Int) + 1)) hm0 (by rw [List.length_map]; omega)
              have hs7 := strs_from hov (k := (sp2 + f * w2).fmod (((oc.length : Nat) : Int) + 1)) hm0 (by rw [List.length_map]; omega)
              have hl6 := hs6.length
              have hl7 := hs7.length
              rw [List.length_take, List.length_map] at hl6
              rw [List.length_drop, List.length_map] at hl7
              walk_at "mine steps"
              constructor
              rename Fr _ _ _ _ => kF
              rename News _ _ _ _ => kN
              refine' add_strs kF kN ?za ?zb hs6 (.cons _ _ .nil) ?zc ?_
              case za => is_list
              case zb => is_list
              case zc =>
                rw [List.length_take, List.length_map, List.length_singleton, sizeLine_eq]; omega
              clear kF kN
              intro h' z8 F N hs8
              have hl8 := hs8.length
              rw [List.length_append, List.length_take, List.length_map, List.length_singleton] at hl8
              walk_at "mine steps"
              constructor
              rename Fr _ _ _ _ => kF
              rename News _ _ _ _ => kN
              refine' kmk_slice kF kN ?yc (IsPart.int _ _) IsPart.none ?_ (by with_unfolding_all rfl) (by intro _; with_unfolding_all rfl) ?yd
              case yc => is_list
              case yd =>
                rw [List.size_toArray, hovl, sizeLine_eq]; omega
              clear kF kN
              intro D7 h' F N hlt7
              rw [kms_pick_eq] at N
              walk_at "mine steps"
              constructor
              rename Fr _ _ _ _ => kF
              rename News _ _ _ _ => kN
              refine' add_strs kF kN ?zd ?ze hs8 hs7 ?zf ?_
              case zd => is_list
              case ze => is_list
              case zf =>
                rw [← hs8.length, ← hs7.length, hl7, hl8, sizeLine_eq]; omega
              clear kF kN
              intro h' z9 F N hs9
              walk_at "mine steps"
              constructor
              rename Fr _ _ _ _ => kF
              rename News _ _ _ _ => kN
              rw [had] at kF
              refine' ksw_end ⟨_, z9, 0, (dput ⟨oc, sg, sp, b, first, fs⟩ (sp2 + f * w2, fs3)).out, D5, kms_pick fv2 (some 1) none, 0, fs3, sg + (sp2 + f * w2).fdiv (((oc.length : Nat) : Int) + 1), _, (sp2 + f * w2).fmod (((oc.length : Nat) : Int) + 1) + 1, _, adapt (sp2 + f * w2 - sp) first (((oc.length : Nat) : Int) + 1), _, false⟩ kF kN ?eS ⟨?eO, hi5⟩ (by kst_all) (by ksw_same) ⟨hfg3, by dsimp only; omega, by dsimp only; omega, ?eL, f', hrun⟩ (by dsimp only; omega)
              case eS => walk_at "mine sub2"
              case eO =>
                dsimp only [dput]
                rw [List.map_append, List.map_append, List.map_take, List.map_drop]
                exact hs9
              case eL =>
                dsimp only [dput]
                simp only [List.length_append, List.length_take, List.length_drop, List.length_singleton]
                omega
        · constructor
          rename (¬ f < _) => hlt
          rename Fr _ _ _ _ => F
          rename News _ _ _ _ => N
          replace hlt : ¬ f < Mine.tb k2 b := by rw [← tb_ifs]; exact hlt
          rw [show (f :: fs3).getD 0 0 = f from rfl, tb_ifs] at F
          unfold rd at hrd
          rw [if_neg hlt] at hrd
          have hw3 : w2 ≤ w2 * (36 - Mine.tb k2 b) := by
            have h1 : w2 * 1 ≤ w2 * (36 - Mine.tb k2 b) := Int.mul_le_mul_of_nonneg_left (by omega) (by omega)
            omega
          refine ksw_end ⟨D5, kms_pick fv2 (some 1) none, 0, fs3, sp2 + f * w2, _, w2 * (36 - Mine.tb k2 b), _, k2 + 36, _⟩ F N (by walk_at "mine sub2") hi5 (by kst_all) (by ksw_same) ⟨hfg3, by dsimp only; omega, by dsimp only; omega, by dsimp only; omega, hrd⟩ (by dsimp only; simp)
end Mine
end
section
open PySem PySem.W PyProof.Rows
set_option Elab.async false
set_option maxRecDepth 100000
namespace Mine
set_option maxHeartbeats 8000000 in
theorem adapted_c (w : World) (mean : ExcName → Option Value) (mg mb : Str → Option Value) (news : List (Addr × Obj)) (d m : Int) (b : Bool) (t1 t2 : Tok) :
  Claim PySem.Challenge.rw_ez0126_01.prog w (hd.heap_39 w.params) hd.view_39 (looseW hd.view_39 []) mean mg mb 21 1 8 news (0 ≤ d ∧ d ≤ 100000000 ∧ 1 ≤ m ∧ m ≤ 100) [.int d t1, .bool b, .int m t2] (fun t => .int (adapt d b m) t) := by
  w_top off
  k_fill
  k_with "exec While Compare cons nil" => k_while_given ["delta!", "k!"] (fun d0 k0 _ d k => 0 ≤ d ∧ d ≤ 200000000 ∧ 0 ≤ k ∧ k + d ≤ 200000000 ∧ adl d k = adl d0 k0) (fun _ _ _ d _ => d.toNat) "delta" "k"
  k_with "state" => first | exact adl_turn ⟨by assumption, by assumption, by assumption, by assumption, by assumption⟩ (by assumption) | exact adl_start (by decide) (by assumption)
  k_with "measure" => exact adl_meas ⟨by assumption, by assumption, by assumption, by assumption, by assumption⟩ (by assumption)
  unfold Claim
  intros
  rename_i hret
  refine wpAny_call ?_
  k_dflt cell_enter
  k_steps
  all_goals subst_vars
  · exact cb_retI (Q := _) hret (adapt_of_t ⟨by assumption, by assumption, by assumption, by assumption, by assumption⟩ (by assumption)) (by assumption) (by assumption)
  · exact cb_retI (Q := _) hret (adapt_of_f ⟨by assumption, by assumption, by assumption, by assumption, by assumption⟩ (by assumption)) (by assumption) (by assumption)
end Mine
end
section
open PySem PySem.W PyProof.Rows PySem.Spec PySem.Calls
open PySem.Builtin PySem.Builtin._codecs
set_option Elab.async false
set_option maxRecDepth 100000
namespace Mine
theorem encode2_tree (x : Str) (t u : Tok) : «str.encode» ⟨[.str x t, .str (Str.ofString "ascii") u], []⟩ = (do ret (← encodeRoad "str.encode" (.str x t) x (Str.ofString "ascii") none)) := by kernel_rfl
theorem encodeRoad_ascii (id : String) (self : Value) (x : Str) (errors : Option Str) : encodeRoad id self x (Str.ofString "ascii") errors = (do mkBytes (← encodeNarrow id asciiCodec errors self x)) := by kernel_rfl
theorem narrow_nil (id : String) (self : Value) : encodeNarrow id asciiCodec none self ⟨#[]⟩ = pure #[] := by kernel_rfl
theorem sem_pure_bind {α β : Type} (a : α) (f : α → Sem β) : (pure a >>= f) = f a := rfl
theorem two_turns {β : Type} {f : Nat → β → Sem (ForInStep β)} {n : Nat} {b0 b1 : β} (h0 : f 0 b0 = pure (.yield b1)) (h1 : f 1 b1 = pure (.done b1)) : forIn [:n + 1] b0 f = (pure b1 : Sem β) := by
  rw [Std.Legacy.Range.forIn_eq_forIn_range']
  have e : List.range' ([:n + 1] : Std.Legacy.Range).start ([:n + 1] : Std.Legacy.Range).size ([:n + 1] : Std.Legacy.Range).step = 0 :: List.range' 1 n := by
    simp [Std.Legacy.Range.size, List.range'_succ]
  rw [e]
  cases n with
  | zero =>
    simp only [List.range'_zero, List.forIn_cons, List.forIn_nil]
    rw [h0]
    rfl
  | succ n =>
    rw [List.range'_succ]
    simp only [List.forIn_cons]
    rw [h0]
    show (f 1 b1 >>= _) = _
    rw [h1]
    rfl
theorem foldl_push : ∀ (l : List Nat) (acc : Array UInt8), l.foldl (fun acc y => acc ++ (asciiCodec.bytesOf y).toArray) acc = acc ++ (l.map Nat.toUInt8).toArray
  | [], acc => by simp
  | a :: l, acc => by
    rw [List.foldl_cons, foldl_push l]
    apply Array.toList_inj.mp
    simp [asciiCodec]
theorem narrow_clean (id : String) (self : Value) (x : Str) (hc : ∀ c ∈ x.cps.toList, c < 128) (hs : x.length ≤ 1000) : encodeNarrow id asciiCodec none self x = pure (x.cps.toList.map Nat.toUInt8).toArray := by
  obtain ⟨⟨l⟩⟩ := x
  cases l with
  | nil => exact narrow_nil id self
  | cons a l =>
    have hbad : ∀ c ∈ a :: l, asciiCodec.bad c = false := fun c hm => by
      have := hc c hm
      show decide (c ≥ 128) = false
      simp; omega
    have hfi : Array.findIdx? asciiCodec.bad (a :: l).toArray = none := by
      simp only [Array.findIdx?_eq_none_iff, List.mem_toArray]
      exact hbad
    unfold encodeNarrow
    refine Eq.trans (congrArg (fun z => z >>= _) (two_turns (n := l.length) (b1 := ((a :: l).length, ((a :: l).map Nat.toUInt8).toArray, {})) ?h0 ?h1)) ?_
    case h0 =>
      have e0 : (a :: l).toArray.extract 0 (a :: l).toArray.size = (a :: l).toArray := Array.extract_size
      dsimp only
      rw [if_neg (by decide)]
      have e1 : (Array.mk (a :: l))[0]? = some a := rfl
      rw [e1]
      dsimp only
      rw [if_pos (by rw [hbad a List.mem_cons_self]; rfl)]
      have e2 : (Array.mk (a :: l)).extract 0 (Array.mk (a :: l)).size = Array.mk (a :: l) := Array.extract_size
      have e3 : Array.findIdx? asciiCodec.bad (Array.mk (a :: l)) = none := hfi
      rw [e2, e3]
      have e4 : (0 + (none : Option Nat).getD (Array.mk (a :: l)).size) = (a :: l).length := Nat.zero_add _
      have e5 : Array.foldl (fun acc y => acc ++ (asciiCodec.bytesOf y).toArray) #[] ((Array.mk (a :: l)).extract 0 ((none : Option Nat).getD (Array.mk (a :: l)).size)) = (List.map Nat.toUInt8 (a :: l)).toArray := by
        rw [show (none : Option Nat).getD (Array.mk (a :: l)).size = (Array.mk (a :: l)).size from rfl, e2, ← Array.foldl_toList, foldl_push]
        simp
      rw [e4, e5]
    case h1 =>
      dsimp only
      rw [if_neg (by have h1 : (a :: l).length ≤ 1000 := hs
                     have h2 : ((a :: l).map Nat.toUInt8).toArray.size = (a :: l).length := by simp
                     rw [sizeLine_eq]
                     omega)]
      have e1 : (Array.mk (a :: l))[(a :: l).length]? = none := by simp
      rw [e1]
    rfl
section
variable {prog : Program} {w : World} {A : Around} {E : Value → Shared → Prop} {s : Shared} {x : Str} {t u : Tok}
theorem meets_ascii (hc : ∀ c ∈ x.cps.toList, c < 128) (hs : x.length ≤ 1000) :
    Meets («str.encode» ⟨[.str x t, .str (Str.ofString "ascii") u], []⟩) (fun _ R s => R (.ok (.ret (.bytes (x.cps.toList.map Nat.toUInt8).toArray s.toks))) { s with toks := s.toks + 1 }) := by
  refine .of_wp fun prog w A R s h => ?_
  rw [encode2_tree, encodeRoad_ascii, narrow_clean _ _ _ hc hs, sem_pure_bind]
  refine wpAny_bind ?_
  unfold mkBytes
  rw [if_neg (by have h2 : (x.cps.toList.map Nat.toUInt8).toArray.size = x.length := by simp [Str.length]
                 rw [sizeLine_eq]; omega)]
  refine wpAny_bind (wpAny_fresh ?_)
  exact wpAny_pure (wpAny_pure ⟨_, rfl, h⟩)
theorem encode_ascii {Q : Value → Shared → Prop} (hc : ∀ c ∈ x.cps.toList, c < 128) (hs : x.length ≤ 1000) (h : ∀ t' k, Q (.bytes (x.cps.toList.map Nat.toUInt8).toArray t') { s with toks := k }) :
    wpAny (model prog w) A (call (.builtin "str.encode") [.str x t, .str (Str.ofString "ascii") u]) Q E s :=
  call_meets F.slot_str_encode (typeIs_str _ _ _) F.entry_str_encode (F.args_str_encode_2 _ _) (meets_ascii hc hs) (h _ _)
theorem encode_method {M : Model} {pl : Sem Bool} {Q : Value × List Value → Shared → Prop} (h : Q (.builtin "str.encode", [.str x t]) s) : wpAny M A (getMethod (.str x t) "encode" pl) Q E s := by
  with_reducible exact GM.of (.str x t) (typeIs_str _ _ _) F.slot_str_encode F.type_str_encode GM.noRef h
end
end Mine
end
section
open PySem PySem.W PyProof.Rows PySem.Spec PySem.Calls
set_option Elab.async false
set_option maxRecDepth 100000
namespace Mine
/-- a def is entered, its captured names too -/
local macro_rules | `(tactic| walk_at "mine enterC") => `(tactic| (refine' code_defC ?k1 ?k2 ?k3 ?k4 ?k5 ?kA ?kF ?kK ?k6 ?k7 ?k8 ?k9 ?kB ?kD ?_ ?c2 ?c3 ?c4; (case kA => exact rfl); (case kF => exact rfl); (case kK => assumption); (case k1 => k_asm); (case k2 => k_asm); (case k3 => k_asm); (case k4 => k_asm); (case k5 => k_asm); (case k6 => k_is); (case k7 => k_is); (case k8 => ktr_room); (case k9 => exact BindsTo.of_eq rfl); (case kB => exact rfl); (case kD => decide +kernel); (case c2 => exact rfl); (case c3 => exact rfl); (case c4 => exact rfl); k_whole; intro g' L' h' tk' cells' FG' F' N' Y' B' X' T' l1; k_cells Y'; (try simp only [List.cons_append, List.nil_append] at N'); (try dsimp only); (try k_lift B'); (try k_fold)))

theorem keeps_here {s : Shared} {tk : Nat} : Keeps s { s with toks := tk } := ⟨s.heap, tk, rfl, fun _ _ e => e⟩
local macro_rules | `(tactic| walk_at "Keeps") => `(tactic| (exact ⟨_, _, rfl, fun _ _ e => e⟩))
local macro_rules | `(tactic| walk_at "Carried") => `(tactic| (constructor))

local macro_rules | `(tactic| walk_at "mine steps") => `(tactic| repeat' (first | (k_unfold; (try dsimp only)) | walk1 | (dsimp only; walk1) | (leave1; (try dsimp only)) | fail "no step"))
local macro_rules | `(tactic| walk_at "eval ListComp") => `(tactic| (k_here; refine StopG.out ?_))
local macro_rules | `(tactic| walk_at "exec While") => `(tactic| (k_here; refine StopG.out ?_))
local macro_rules | `(tactic| walk_at "exec For") => `(tactic| (k_here; refine StopG.out ?_))
local macro_rules | `(tactic| walk_at "pyIter str") => `(tactic| (k_here; refine StopG.out ?_))
local macro_rules | `(tactic| walk_at "call ref") => `(tactic| (k_here; refine StopG.out ?_))
local macro_rules | `(tactic| walk_at "call builtin:str.join") => `(tactic| (k_here; refine StopG.out ?_))
local macro_rules | `(tactic| walk_at "call builtin:min") => `(tactic| (k_here; refine StopG.out ?_))
local macro_rules | `(tactic| walk_at "exec If") => `(tactic| (k_here; (with_reducible show wpAny _ _ (exec (Stmt.If (Expr.Name _ _) _ _ _) _) _ _ _); refine StopG.out ?_))
theorem plain_codes (x : Str) : plainL (KStt.codes x) = (x.cps.toList.filter fun (a : Nat) => decide ((a : Int) < 128)).map fun (c : Nat) => (c : Int) := by
  unfold plainL KStt.codes
  rw [List.filter_map]
  rfl
theorem plain_out (x : Str) : (plainL (KStt.codes x)).map Int.toNat = x.cps.toList.filter fun (a : Nat) => decide ((a : Int) < 128) := by
  rw [plain_codes, List.map_map]
  exact (List.map_congr_left (g := id) fun c _ => Int.toNat_natCast c).trans (List.map_id _)
theorem out_dash {x : Str} {l : List Nat} (hl : l = x.cps.toList.filter fun (a : Nat) => decide ((a : Int) < 128)) (h : ¬ l.length = 0) : mk l ++ Str.ofString "-" = mk (start (KStt.codes x)).1.out := by
  have e : Str.ofString "-" = mk [45] := rfl
  rw [e, mk_append]
  unfold start
  have h2 : (plainL (KStt.codes x)).length = l.length := by rw [plain_codes, List.length_map, hl]
  dsimp only
  rw [plain_out, h2, if_neg h, hl]
theorem out_bare {x : Str} {l : List Nat} (hl : l = x.cps.toList.filter fun (a : Nat) => decide ((a : Int) < 128)) (h : l.length = 0) : mk l = mk (start (KStt.codes x)).1.out := by
  unfold start
  have h2 : (plainL (KStt.codes x)).length = l.length := by rw [plain_codes, List.length_map, hl]
  dsimp only
  rw [plain_out, h2, if_pos h, hl, List.append_nil]
local macro_rules | `(tactic| walk_at "mine sub") => `(tactic| (intro p hp; (repeat' first | exact hp | refine List.mem_cons_of_mem _ ?_)))
/-- the captured name's store -/
local macro_rules | `(tactic| walk_at "storeName") => `(tactic| (k_here; k_dflt (refine' storeX_C ?F (news_sub ?N ?S) ?c (UpdF.head (below_ne ?l ?q)) ?d ?_ ?a ?b; (case a => rfl); (case b => rfl); (case F => k_asm); (case c => rfl); (case l => assumption); (case d => assumption); (case q => exact Nat.le_succ _); (case N => assumption); (case S => walk_at "mine sub"); intro h' o' F' N' dc')))
local macro_rules | `(tactic| walk_at "eval Name") => `(tactic| (k_here; k_dflt (refine' ldCellK ?c ⟨_, News.get ?N (List.Mem.head _), ?d⟩ ?_ ?a ?b; (case a => rfl); (case b => rfl); (case c => rfl); (case N => assumption); (case d => assumption))))
theorem ge_codes (x : Str) (n : Int) : (KStt.codes x).filter (fun c => decide (n ≤ c)) = (x.cps.toList.filter fun (a : Nat) => decide (n ≤ (a : Int))).map fun (c : Nat) => (c : Int) := by
  unfold KStt.codes
  rw [List.filter_map]
  rfl
local macro_rules | `(tactic| walk_at "getMethod str") => `(tactic| (k_here; with_reducible refine encode_method ?_))
local macro_rules | `(tactic| walk_at "call builtin:str.encode") => `(tactic| (k_here; refine StopG.out ?_))
/-- the digits' letters -/
structure PD where
  l : List Nat
  tl : Tok
  q : Int
  tq : Tok
  k : Int
  tk : Tok
local macro_rules | `(tactic| walk_at "exec Assign") => `(tactic| (k_here; (with_reducible show wpAny _ _ (exec (Stmt.Assign _ (Expr.IfExp _ _ _ _) _) _) _ _ _); refine StopG.out ?_))
local macro_rules | `(tactic| walk_at "subscriptTail Constant") => `(tactic| (k_here; (with_reducible show wpAny _ _ (subscriptTail _ _ (Value.str _ _) (Value.int _ _)) _ _ _); with_unfolding_all refine' alph_item ?lo ?hi ?_; (case lo => omega); (case hi => omega); intro tA kA))
local macro_rules | `(tactic| walk_at "InvEndN") => `(tactic| (refine StopG.out ?_))
local macro_rules | `(tactic| walk_at "KswEnd") => `(tactic| (refine StopG.out ?_))
/-- the inner loop's letters -/
structure PI where
  l : List Nat
  tl : Tok
  d : Int
  td : Tok
  b : Int
  tb : Tok
  k : Int
  tk : Tok
/-- the outer loop's letters -/
structure PS where
  o : Obj
  tn : Tok
  n : Int
  l : List Nat
  tl : Tok
  d : Int
  td : Tok
  b : Int
  tb : Tok
  k : Int
  tk : Tok
def enc (t : Str) : Array UInt8 := ((encL (KStt.codes t)).map Nat.toUInt8).toArray
set_option maxHeartbeats 8000000 in
theorem punycode_c (w : World) (mean : ExcName → Option Value) (mg mb : Str → Option Value) (news : List (Addr × Obj)) (x : Str) (t1 : Tok) :
  Claim PySem.Challenge.rw_ez0126_01.prog w (hd.heap_39 w.params) hd.view_39 (looseW hd.view_39 []) mean mg mb 26 2 16 news (x.length ≤ 20 ∧ ∀ c ∈ KStt.codes x, c < 1114112) [.str x t1] (fun t => .bytes (enc x) t) := by
  w_top off
  k_fill
  unfold Claim
  intros
  rename_i hpre _ _ hret
  obtain ⟨hxl, hxc⟩ := hpre
  refine wpAny_call ?_
  k_dflt walk_at "mine enterC"
  walk_at "mine steps"
  constructor
  rename Fr _ _ _ _ => kF
  rename News _ _ _ _ => kN
  refine' lc_str (cl := []) (y := x) (fun a => decide ((a : Int) < 128)) (fun a => PyData.str ⟨#[a]⟩) kF kN ?hit rfl rfl (by decide) rfl (by decide) rfl ?sz ?t ?e ?q (fun _ => rfl)
  case hit =>
    walk_at "mine steps"
    all_goals exact ⟨_, _, rfl, rfl⟩
  case sz => exact Nat.le_trans hxl (by decide)
  case t =>
    intro C c u s₂ m₂ E' hc hn hm hk F₂ N₂
    refine wpAny_tests_one ?_
    walk_at "mine steps"
  case e =>
    intro C c u s₂ m₂ E' hc hp hn hm hk F₂ N₂
    walk_at "mine steps"
  clear kF kN
  intro D ys n h' tk F' N' hD hDL hy
  walk_at "mine steps"
  constructor
  obtain ⟨l, hl⟩ : ∃ l, l = List.filter (fun (a : Nat) => decide ((a : Int) < 128)) x.cps.toList := ⟨_, rfl⟩
  rw [← hl] at hy
  have hll : l.length ≤ 20 := by
    have h1 := List.length_filter_le (fun (a : Nat) => decide ((a : Int) < 128)) x.cps.toList
    have h2 : x.cps.toList.length = x.length := Array.length_toList
    rw [hl]; omega
  refine' join_signs ?k1 (CarriedAll.strsOf hy) ?k3 ?_
  case k1 => is_list
  case k3 => omega
  clear hy
  intro o ho hlo tJ kJ
  rw [ho]
  rw [ho] at hlo
  clear ho
  have hll2 : (mk l).length ≤ 20 := by rw [hlo]; exact hll
  have hst := start_eq (t := KStt.codes x) (k := (mk l).length) (by rw [plain_codes, List.length_map, ← hl, hlo])
  have hbl : (plainL (KStt.codes x)).length = (mk l).length := by rw [plain_codes, List.length_map, ← hl, hlo]
  have hdash := out_dash hl
  have hbare := out_bare hl
  rw [← hlo] at hdash hbare
  walk_at "mine steps"
  constructor
  rename Fr _ _ _ _ => kF
  rename News _ _ _ _ => kN
  refine name_cut (Str.ofString "out") (fun t => .str (mk (start (KStt.codes x)).1.out) t) kF kN ?_ ?_
  · refine wpAny_If ?_
    walk_at "mine steps"
    · rename Fr _ _ _ _ => kF2
      rw [hdash (by omega)] at kF2
      exact ⟨rfl, _, _, _, rfl, kF2, by assumption⟩
    · rw [← hbare (by omega)]
      exact ⟨rfl, _, _, _, rfl, fr_same rfl kF, kN⟩
  clear kF kN
  intro h' tk t F' N'
  walk_at "mine steps"
  constructor
  rename Fr _ _ _ _ => kF
  rename News _ _ _ _ => kN
  refine' ksw_while (fun c : PS => (_, c.o) :: news) (fun c => [(Str.ofString "out", .str (mk c.l) c.tl), (Str.ofString "delta", .int c.d c.td), (Str.ofString "bias", .int c.b c.tb), (Str.ofString "done", .int c.k c.tk)])
    (fun c => c.o.data = .cell (some (.int c.n c.tn))) [Str.ofString "char", Str.ofString "m", Str.ofString "q", Str.ofString "k", Str.ofString "t"] (fun c => Reach (KStt.codes x) (⟨c.l, c.d, c.b, c.k⟩, c.n)) (fun c => x.length - c.k.toNat)
    ⟨_, _, 128, (start (KStt.codes x)).1.out, _, 0, _, 72, _, (((mk l).length : Nat) : Int), _⟩ kF kN ?wF ?wK ?wP ?wT
  case wF => assumption
  case wK => kst_all
  case wP =>
    dsimp only
    rw [← hst]
    exact .refl
  case wT =>
    clear kF kN hst hdash hbare hll2 hlo hll hl hDL hD
    intro c u h tk hf hp F N
    obtain ⟨o, tn, n, l, tl, d, td, b, tb, k, tk⟩ := c
    dsimp only at hf hp N
    dsimp only [kstB] at F
    k_fold
    have hTl : (KStt.codes x).length = x.length := KStt.codes_length x
    have hT20 : (KStt.codes x).length ≤ 20 := by rw [hTl]; exact hxl
    have hH := reach_head hp hT20 hxc
    walk_at "mine steps"
    · constructor
      rename (k < _) => hlt
      rw [← hTl] at hlt
      have hR := round_min (t := KStt.codes x) (n := n) (by have := hH.cnt; dsimp only at this; omega)
      refine' lc_str (cl := _) (y := x) (fun a => decide (n ≤ (a : Int))) (fun a => PyData.int (a : Int)) F N ?xHit rfl rfl (by decide) rfl (by decide) rfl ?xSz ?xT ?xE ?xQ (fun _ => rfl)
      case xHit =>
        walk_at "mine steps"
        all_goals exact ⟨_, _, rfl, rfl⟩
      case xSz => exact Nat.le_trans hxl (by decide)
      case xT =>
        intro C c u s₂ m₂ E' hc hn hm hk F₂ N₂
        refine wpAny_tests_one ?_
        walk_at "mine steps"
      case xE =>
        intro C c u s₂ m₂ E' hc hp hn hm hk F₂ N₂
        walk_at "mine steps"
      clear F N
      intro D ys nn h' tk F N hD hDL hy
      walk_at "mine steps"
      constructor
      have hg := ge_codes x n
      refine' kso_min F N ?mL (CarriedAll.intsOf hy) ?mN rfl ?_
      case mL => is_list
      case mN =>
        rw [← hg]
        exact List.length_pos_iff.mpr hR.1
      clear F N
      intro h' M tM tk F N hM1 hM2
      rw [← hg] at hM1 hM2
      have hM := mn_eq hM1 hM2
      rw [hM] at hR
      have hk0 : 0 ≤ k := by have := hH.cnt; dsimp only at this; omega
      have hk1 : k ≤ 20 := by omega
      have hms := mid_start hH hT20 hxc hlt
      dsimp only at hms
      rw [hM] at hms
      clear hM1 hM2 hg hy
      walk_at "mine steps"
      constructor
      rename Fr _ _ _ _ => F
      rename News _ _ _ _ => N
      with_unfolding_all refine' For_invVF F ?fA ?fB ?_
      case fA => rfl
      case fB => rfl
      walk_at "mine steps"
      constructor
      with_unfolding_all refine' KStt.kst_text (fun _ : PI => (_, _) :: news) (fun c => [(Str.ofString "out", .str (mk c.l) c.tl), (Str.ofString "delta", .int c.d c.td), (Str.ofString "bias", .int c.b c.tb), (Str.ofString "done", .int c.k c.tk)]) (fun _ => True) [Str.ofString "q", Str.ofString "k", Str.ofString "t"] (fun pre c => (⟨c.l, c.d, c.b, c.k⟩ : En) = pre.foldl (estep M (plainL (KStt.codes x)).length) ⟨l, d + (M - n) * (k + 1), b, k⟩) ⟨l, _, _, _, b, _, k, _⟩ rfl F N trivial ?iK ?iP ?iT ?iD
      case iK => kst_all
      case iP => rfl
      case iT =>
        clear F N
        intro c pre post cc tc u h tk own hcc hoff _ hP F N
        obtain ⟨l, tl, d, td, b, tb, k, tk⟩ := c
        dsimp only at hP N
        dsimp only [kstB] at F
        k_fold
        have hmid := fold_mid (base := (plainL (KStt.codes x)).length) hms pre ((cc : Int) :: post) hcc hT20
        rw [← hP] at hmid
        have hmd := mid_done hmid hcc
        obtain ⟨hd0, hd1, hb0, hb1, hlen⟩ := hmid
        dsimp only at hd0 hd1 hb0 hlen hmd
        have hpl : pre.length ≤ 20 := by
          have := congrArg List.length hcc
          simp only [List.length_append, List.length_cons] at this
          omega
        have hll : l.length ≤ 900 := by omega
        have hmk := mk_length l
        walk_at "mine steps"
        all_goals constructor
        · exfalso; omega
        · rename Fr _ _ _ _ => F
          rename News _ _ _ _ => N
          rename ((cc : Int) < M) => hcM
          with_unfolding_all refine kst_end ⟨l, _, d + 1, _, b, _, k, _⟩ F N (fun p hp => List.mem_append_left _ hp) (fun p hp => List.mem_append_right _ hp) rfl trivial (by kst_all) (by kst_same) ?_
          rw [List.foldl_append, ← hP]
          exact (estep_lt (e := ⟨l, d, b, k⟩) hcM).symm
        · rename Fr _ _ _ _ => F
          rename News _ _ _ _ => N
          rename ((cc : Int) = M) => hcM
          refine' ksw_while (fun _ : PD => _) (fun c => [(Str.ofString "out", .str (mk c.l) c.tl), (Str.ofString "q", .int c.q c.tq), (Str.ofString "k", .int c.k c.tk)]) (fun _ => True) [Str.ofString "t"] (fun c => 0 ≤ c.q ∧ c.l ++ digs c.q c.k b = l ++ digs d 36 b) (fun c => c.q.toNat) ⟨l, _, d, _, 36, _⟩ F N trivial ?dK ?dP ?dT
          case dK => kst_all
          case dP => exact ⟨hd0, rfl⟩
          case dT =>
            clear F N
            intro c u h tk _ hP2 F N
            obtain ⟨l', tl', q, tq, k', tk'⟩ := c
            dsimp only at hP2 N
            dsimp only [kstB] at F
            k_fold
            have ht1 := tb_lo k' b
            have ht2 := tb_hi k' b
            have hfr := fmod_range (q := q) ht1 ht2
            have hq0 := hP2.1
            have hlen2 : l'.length ≤ 940 := by
              have h1 := congrArg List.length hP2.2
              simp only [List.length_append] at h1
              have h2 := digs_len 26 d 36 b (by simp; omega)
              omega
            have hmk2 := mk_length l'
            walk_at "mine steps"
            constructor
            refine name_cut (Str.ofString "t") (fun t => .int (Mine.tb k' b) t) F N ?_ ?_
            · refine wpAny_Assign_Name ?_
              walk_at "mine steps"
              · exact ⟨rfl, _, _, _, rfl, (by rw [tb_one (k := k') (bias := b) (by assumption)]; assumption), by assumption⟩
              · exact ⟨rfl, _, _, _, rfl, (by rw [tb_top (k := k') (bias := b) (by assumption) (by assumption)]; assumption), by assumption⟩
              · exact ⟨rfl, _, _, _, rfl, (by rw [tb_mid (k := k') (bias := b) (by assumption) (by assumption)]; assumption), by assumption⟩
            clear F N
            intro h' tk2 tt F N
            walk_at "mine steps"
            · constructor
              rename Fr _ _ _ _ => F
              rename News _ _ _ _ => N
              with_unfolding_all refine' claim_use (adapted_c w mean mg mb _ d (k + 1) _ _ _) ?cB F ?cX N ?cT ?cK ?cP ?cD ?cU ?cR
              case cB => k_asm
              case cX => k_asm
              case cT => k_asm
              case cK => rfl
              case cP => omega
              case cD => ktr_room
              case cU => ktr_units
              case cR =>
                clear F N
                intro tR hR tkR F N
                walk_at "mine steps"
                constructor
                rename Fr _ _ _ _ => F
                rename News _ _ _ _ => N
                have hdl := digs_last (q := q) (k := k') (bias := b) (by assumption)
                have hL := hP2.2
                rw [hdl] at hL
                rw [mk_append, hL] at F
                with_unfolding_all refine kst_end ⟨l ++ digs d 36 b, _, 0, _, adapt d (k == ((mk _).length : Int)) (k + 1), _, k + 1, _⟩ F N (fun p hp => List.mem_cons_of_mem _ (List.mem_append_left _ hp)) (fun p hp => List.mem_cons_of_mem _ (List.mem_append_right _ hp)) rfl trivial (by kst_all) (by kst_same) ?_
                rw [List.foldl_append, ← hP, hbl]
                exact (estep_hit (e := ⟨l, d, b, k⟩) hcM).symm
            · constructor
              rename Fr _ _ _ _ => F
              rename News _ _ _ _ => N
              rw [mk_append] at F
              have hnx := next_lt (q := q) ht1 ht2 (by omega)
              have hdm := digs_more (q := q) (k := k') (bias := b) (by omega)
              refine ksw_end ⟨l' ++ [alph (Mine.tb k' b + (q - Mine.tb k' b).fmod (36 - Mine.tb k' b))], _, (q - Mine.tb k' b).fdiv (36 - Mine.tb k' b), _, k' + 36, _⟩ F N (fun p hp => hp) trivial (by kst_all) (by ksw_same) ⟨hnx.1, ?_⟩ (by dsimp only; omega)
              dsimp only
              rw [← hP2.2, hdm, List.append_assoc]
              rfl
        · rename Fr _ _ _ _ => F
          rename News _ _ _ _ => N
          with_unfolding_all refine kst_end ⟨l, _, d, _, b, _, k, _⟩ F N (fun p hp => List.mem_append_left _ hp) (fun p hp => List.mem_append_right _ hp) rfl trivial (by kst_all) (by kst_same) ?_
          rw [List.foldl_append, ← hP]
          exact (estep_gt (e := ⟨l, d, b, k⟩) (by assumption) (by assumption)).symm
      case iD =>
        clear F N
        intro c u h tk _ hP F N
        obtain ⟨l2, tl2, d2, td2, b2, tb2, k2, tk2⟩ := c
        dsimp only at hP N
        dsimp only [kstB] at F
        (try dsimp only)
        (try k_fold)
        walk_at "mine steps"
        constructor
        rename Fr _ _ _ _ => F
        rename News _ _ _ _ => N
        have hrd := (round_head (plainL (KStt.codes x)).length hH hT20 hxc hlt).2
        have hst2 := Reach.step hp hlt
        have heq : oround (KStt.codes x) (plainL (KStt.codes x)).length (⟨l, d, b, k⟩, n) = (⟨l2, d2 + 1, b2, k2⟩, M + 1) := by
          unfold oround
          dsimp only
          rw [hM, ← hP]
        rw [heq] at hst2 hrd
        dsimp only at hrd
        exact ksw_end ⟨_, _, M + 1, l2, _, d2 + 1, _, b2, _, k2, _⟩ F N (fun p hp => hp) (by assumption) (by kst_all) (by ksw_same) hst2 (by dsimp only; omega)
    · have hend := reach_end hp hT20 hxc (by rename (¬ k < _) => hnk; rw [hTl]; exact hnk)
      dsimp only at hend
      constructor
      have hsm := out_small hp
      have hhd := hH.len
      dsimp only at hsm hhd
      have hcn := hH.cnt
      have hbe := below_le n (KStt.codes x)
      dsimp only at hcn
      refine encode_ascii (x := mk l) hsm (by rw [mk_length]; omega) ?_
      intro tE kE
      walk_at "mine steps"
      rename Fr _ _ _ _ => F
      rename News _ _ _ _ => N
      unfold enc at hret
      rw [← hend] at hret
      exact hret tE _ _ F (news_sub N fun p hp => List.mem_cons_of_mem _ hp)
end Mine
end
section
open PySem PySem.W PyProof.Rows PySem.Spec PySem.Calls
set_option Elab.async false
set_option maxRecDepth 100000
namespace Mine
def at_ (ns : List Int) (k other : Int) : Int := if k < ns.length then ns.getD k.toNat 0 else other
def alphN : List Nat := [97, 98, 122, 55, 45, 252, 233, 945, 1078, 1488, 1576, 12459, 19990, 257]
def sgn (ns : List Int) (k : Int) : Nat := alphN.getD ((at_ ns (1 + k) (5 * k + 3)).fmod 14).toNat 0
theorem alphN_item : ∀ k : Nat, k < 14 → Txt.item (Str.ofString "abz7-üéαжאبカ世ā") (k : Int) = ⟨#[alphN.getD k 0]⟩ := by decide +kernel
theorem sgn_item {x : Int} : Txt.item (Str.ofString "abz7-üéαжאبカ世ā") (x.fmod ((14 : Nat) : Int)) = ⟨#[alphN.getD (x.fmod 14).toNat 0]⟩ := by
  show Txt.item _ (x.fmod 14) = _
  have h0 : 0 ≤ x.fmod 14 := fmod_lo x (by decide)
  have h1 : x.fmod 14 < 14 := fmod_hi x (by decide)
  have h := alphN_item (x.fmod 14).toNat (by omega)
  rw [show (((x.fmod 14).toNat : Nat) : Int) = x.fmod 14 by omega] at h
  exact h
section
variable {prog : Program} {w : World} {A : Around} {E : Value → Shared → Prop} {s : Shared} {h₀ : Heap} {L : Addr} {m : Str → Option Value} {env : Env} {news : List (Addr × Obj)}
theorem small_range : ∀ n : Nat, n < 9 → Builtin.Range.small 0 (n : Int) 1 = true ∧ Builtin.Range.rangeSize 0 (n : Int) 1 = (n : Int) := by decide +kernel
theorem src_range {r : Addr} {n : Nat} {t u v : Tok} (hh : A.handled = none) (hr : IsRange s.heap r 0 (n : Int) 1 t u v) (hn : n < 9) :
    wpAny (model prog w) A (pyIter (.ref r)) (GSrc .int ((List.range n).map fun (k : Nat) => (k : Int)) prog w A s) E s := by
  have hs := small_range n hn
  have W := (Walks.range (prog := prog) (w := w) (A := A) hh s.heap.objs.size 0 1 n).bound
  have el : ((List.range n).map fun (k : Nat) => (k : Int)).length = n := by simp
  rw [← el] at W
  refine wpAny_pyIter_range hr hs.1 ⟨_, _, _, _, _, _, s.toks, rfl, rfl, W, ?_, ?_, ?_, ?_⟩
  · rintro i v ⟨hi, t, rfl⟩
    refine ⟨_, ?_, t, rfl⟩
    rw [el] at hi
    rw [List.getElem?_map, List.getElem?_range hi]
    simp
  · show IsRangeIter _ _ _ _ _
    rw [hs.2, el]
    simpa using Heap.get?_push_size _ rfl
  · intro x hx
    rw [List.mem_singleton.mp hx]
    show _ < (s.heap.push _).objs.size
    rw [Heap.size_push]
    exact Nat.lt_succ_self _
  · intro x o e
    exact ⟨Heap.get?_push_of_some _ e, old_not_new e⟩
theorem picked_take (l : List UInt8) (n : Nat) : KBy.picked l.toArray none (some ((n : Int) + 1)) = (l.take (n + 1)).toArray := by
  rw [KBc.picked_eq]
  have e : ((n : Int) + 1) = ((n + 1 : Nat) : Int) := by omega
  simp
  rw [e, clipAt_nat]
  omega
theorem rev_eq (S : List Nat) (u : Tok) : Txt.sliceBy (⟨S.toArray⟩ : Str) none none (-1, u) = ⟨S.reverse.toArray⟩ := by
  refine Str.ext' (Array.toList_inj.mp ?_)
  rw [step_rev_list]
  show (List.range S.length).map (fun k => S.toArray.getD (S.length - 1 - k) 0) = S.reverse
  refine List.ext_getElem (by simp) fun i h1 h2 => ?_
  simp only [List.length_map, List.length_range] at h1
  simp only [List.getElem_map, List.getElem_range, List.getElem_reverse]
  rw [show S.toArray.getD (S.length - 1 - i) 0 = S.toArray[S.length - 1 - i]?.getD 0 from Array.getD_eq_getD_getElem? .. ]
  rw [List.getElem?_toArray, List.getElem?_eq_getElem (by omega)]
  rfl
/-- a statement that leaves all names as they were -/
structure Passed (h₀ : Heap) (L : Addr) (m : Str → Option Value) (news : List (Addr × Obj)) (s : Shared) (fl : Flow) (s' : Shared) : Prop where
  fl : fl = .next
  ex : ∃ h' tk, s' = { s with heap := h', toks := tk } ∧ Fr h₀ L h' m ∧ News h₀ L h' news
theorem pass_cut {M : Model} {st : Stmt} {Q : Flow → Shared → Prop} (_F : Fr h₀ L s.heap m) (_N : News h₀ L s.heap news)
    (h1 : wpAny M A (exec st env) (Passed h₀ L m news s) E s)
    (h2 : ∀ h' tk, Fr h₀ L h' m → News h₀ L h' news → Q .next { s with heap := h', toks := tk }) : wpAny M A (exec st env) Q E s :=
  wpAny_mono h1 (fun fl s' h => by
    obtain ⟨rfl, h', tk, rfl, F', N'⟩ := h
    exact h2 h' tk F' N') fun _ _ e => e
end
end Mine
end
section
open PySem PySem.W PyProof.Rows PySem.Spec PySem.Calls
open PySem.Builtin PySem.SeqAt
set_option Elab.async false
set_option maxRecDepth 100000
namespace Mine
section
variable {prog : Program} {w : World} {A : Around} {E : Value → Shared → Prop} {s : Shared}
theorem contains_tree (b : Array UInt8) (t u : Tok) : «bytes.__contains__» ⟨[.bytes b t, .int 45 u], []⟩ = ret (.bool (b.contains 45)) := by kernel_rfl
theorem in_bytes {b : Array UInt8} {t u : Tok} {Q : Value → Shared → Prop} (h : Q (.bool (b.contains 45)) s) : wpAny (model prog w) A (compareOp .In (.int 45 u) (.bytes b t)) Q E s :=
  in_gives (typeIs_bytes s b t) FB.slot_bytes_contains FB.entry_bytes_contains (FB.args_bytes_contains_2 _ _) (.of_eq (contains_tree b t u)) h
theorem eqat_bytes (b : Array UInt8) (t u : Tok) : EqAt A s (.bytes b t) (.bytes b u) true := fun prog w E Q h => by
  unfold eqBool
  refine wpAny_holding ?_
  refine wpAny_ite_split (fun hab => ?_) (fun _ => ?_)
  · exact wpAny_bind (wpAny_rule (wpAny_pure h))
  · exact wpAny_bind (richCompare_gives (typeIs_bytes s b t) (typeIs_bytes s b u) FB.slot_bytes_eq FB.entry_bytes_eq (FB.args_bytes_eq_2 _ _) (gives_bytes_eq b b t u) (fun x => nomatch x) (wpAny_truthy_bool (by simpa using h)))
theorem eq_four {l b : Addr} {a1 a2 a3 a4 : Array UInt8} {t1 t2 t3 t4 u1 u2 u3 u4 : Tok} {Q : Value → Shared → Prop} (hl : s.heap.IsList l ([.bytes a1 t1, .bytes a2 t2, .bytes a3 t3, .bytes a4 t4] : List Value).toArray)
    (hb : s.heap.IsList b ([.bytes a1 u1, .bytes a2 u2, .bytes a3 u3, .bytes a4 u4] : List Value).toArray) (hu : A.units < cLine) (h : Q (.bool true) s) : wpAny (model prog w) A (compareOp .Eq (.ref l) (.ref b)) Q E s := by
  refine eq_listAt (e := fun _ => true) hl hb rfl hu (fun j h1 h2 => ?_) h
  match j, h1, h2 with
  | 0, _, _ => exact eqat_bytes _ _ _
  | 1, _, _ => exact eqat_bytes _ _ _
  | 2, _, _ => exact eqat_bytes _ _ _
  | 3, _, _ => exact eqat_bytes _ _ _
  | j + 4, h1, _ => exact absurd h1 (by simp)
end
end Mine
end
section
/-! What the reader makes of the writer's octets. -/
namespace Mine
def Dec (s : Dn) (R : List Nat) : Prop := ∃ f, drun f s = some R
theorem dec_step {s : Dn} {r : Int × List Int} {R : List Nat} (hf : s.figs ≠ []) (hr : rd s.bias s.figs 36 1 s.spot = some r) (hb : s.sign + r.1.fdiv (s.out.length + 1) < 1114112) (h : Dec (dput s r) R) : Dec s R := by
  obtain ⟨f, h⟩ := h
  refine ⟨f + 1, ?_⟩
  unfold drun
  rw [if_neg hf, hr]
  dsimp only
  rw [if_pos hb]
  exact h
theorem dec_end {s : Dn} (hf : s.figs = []) : Dec s s.out := ⟨1, by unfold drun; rw [if_pos hf]⟩
theorem fig_alphN : ∀ k : Nat, k < 36 → figOf (alph (k : Int)) = (k : Int) := by decide
theorem fig_alph {i : Int} (h0 : 0 ≤ i) (h1 : i < 36) : figOf (alph i) = i := by
  have h := fig_alphN i.toNat (by omega)
  rw [show ((i.toNat : Nat) : Int) = i by omega] at h
  exact h
theorem mod_parts {x n : Int} (hn : 0 < n) : 0 ≤ x.fmod n ∧ x.fmod n < n ∧ n * x.fdiv n + x.fmod n = x := by
  have e1 : x.fmod n = x % n := Int.fmod_eq_emod_of_nonneg _ (by omega)
  have e2 : x.fdiv n = x / n := Int.fdiv_eq_ediv_of_nonneg _ (by omega)
  rw [e1, e2]
  exact ⟨Int.emod_nonneg _ (by omega), Int.emod_lt_of_pos _ hn, Int.mul_ediv_add_emod x n⟩
theorem rd_digs : ∀ (j : Nat) (q k w spot bias : Int) (rest : List Nat), q.toNat ≤ j → 0 ≤ q →
    rd bias ((digs q k bias ++ rest).map figOf) k w spot = some (spot + q * w, rest.map figOf)
  | j, q, k, w, spot, bias, rest, hj, h0 => by
    have ht1 := tb_lo k bias
    have ht2 := tb_hi k bias
    by_cases hq : q < tb k bias
    · rw [digs_last hq]
      show rd bias (figOf (alph q) :: rest.map figOf) k w spot = _
      rw [fig_alph h0 (by omega)]
      unfold rd
      rw [if_pos hq]
    · have hn := next_lt ht1 ht2 (Int.not_lt.mp hq)
      have hm := mod_parts (x := q - tb k bias) (n := 36 - tb k bias) (by omega)
      rw [digs_more hq]
      show rd bias (figOf (alph (tb k bias + (q - tb k bias).fmod (36 - tb k bias))) :: ((digs ((q - tb k bias).fdiv (36 - tb k bias)) (k + 36) bias ++ rest).map figOf)) k w spot = _
      rw [fig_alph (by omega) (by omega)]
      unfold rd
      rw [if_neg (by omega)]
      cases j with
      | zero => omega
      | succ j =>
        rw [rd_digs j _ _ _ _ _ rest (by omega) hn.1]
        congr 2
        generalize (q - tb k bias).fdiv (36 - tb k bias) = a at hm ⊢
        generalize (q - tb k bias).fmod (36 - tb k bias) = c at hm ⊢
        have h3 := hm.2.2
        generalize tb k bias = t at h3 ⊢
        have h4 : q = t + c + a * (36 - t) := by rw [Int.mul_comm a]; omega
        rw [h4, Int.add_mul (t + c) (a * (36 - t)) w, Int.mul_assoc a (36 - t) w, Int.mul_comm (36 - t) w, Int.add_assoc]
theorem pos_parts {a L t : Int} (h0 : 0 ≤ t) (h1 : t < L) : (a * L + t).fdiv L = a ∧ (a * L + t).fmod L = t := by
  have h := mod_parts (x := a * L + t) (n := L) (by omega)
  have e1 : (a * L + t).fmod L = t := by
    rw [Int.fmod_eq_emod_of_nonneg _ (by omega), Int.add_comm, Int.add_mul_emod_self_right, Int.emod_eq_of_lt h0 h1]
  refine ⟨?_, e1⟩
  rw [Int.fdiv_eq_ediv_of_nonneg _ (by omega), Int.add_comm, Int.add_mul_ediv_right _ _ (by omega), Int.ediv_eq_zero_of_lt h0 h1, Int.zero_add]
def le_ (m : Int) (l : List Nat) : List Nat := l.filter fun (c : Nat) => decide ((c : Int) ≤ m)
def lt_ (m : Int) (l : List Nat) : List Nat := l.filter fun (c : Nat) => decide ((c : Int) < m)
/-- the reader keeps step with the writer, within a round -/
structure Sync (s0 : Dn) (G0 G : List Nat) (base m : Int) (pre post : List Nat) (e : En) (s : Dn) : Prop where
  hold : ∀ R, Dec s R → Dec s0 R
  out : s.out = le_ m pre ++ lt_ m post
  pos : s.spot + e.delta = (m - s.sign) * (e.done + 1) + ((le_ m pre).length : Int)
  done : e.done = (s.out.length : Int)
  bias : s.bias = e.bias
  first : s.first = decide (e.done = base)
  lo : base ≤ e.done
  d0 : 0 ≤ e.delta
  hi : m < 1114112
  m0 : 0 ≤ m
  figs : ∃ Y, G = e.out ++ Y ∧ s.figs = Y.map figOf
  alp : ∃ X, e.out = G0 ++ X ∧ ∀ c ∈ X, c ∈ alphL
theorem alph_in : ∀ k : Nat, k < 36 → alph (k : Int) ∈ alphL := by decide
theorem alph_mem {i : Int} (h0 : 0 ≤ i) (h1 : i < 36) : alph i ∈ alphL := by
  have h := alph_in i.toNat (by omega)
  rw [show ((i.toNat : Nat) : Int) = i by omega] at h
  exact h
theorem digs_alph : ∀ (j : Nat) (q k bias : Int), q.toNat ≤ j → 0 ≤ q → ∀ c ∈ digs q k bias, c ∈ alphL
  | j, q, k, bias, hj, h0 => by
    have ht1 := tb_lo k bias
    have ht2 := tb_hi k bias
    by_cases hq : q < tb k bias
    · rw [digs_last hq]
      intro c hc
      rw [List.mem_singleton.mp hc]
      exact alph_mem h0 (by omega)
    · have hn := next_lt ht1 ht2 (Int.not_lt.mp hq)
      have hm := mod_parts (x := q - tb k bias) (n := 36 - tb k bias) (by omega)
      rw [digs_more hq]
      intro c hc
      rcases List.mem_cons.mp hc with rfl | hc
      · exact alph_mem (by omega) (by omega)
      · cases j with
        | zero => omega
        | succ j => exact digs_alph j _ _ _ (by omega) hn.1 c hc
theorem sync_step {s0 : Dn} {G0 G : List Nat} {base m : Int} {pre post : List Nat} {c : Nat} {e : En} {s : Dn} (h : Sync s0 G0 G base m pre (c :: post) e s) (hp : (estep m base e (c : Int)).out <+: G) :
    ∃ s', Sync s0 G0 G base m (pre ++ [c]) post (estep m base e (c : Int)) s' := by
  obtain ⟨hold, out, pos, done, bias, first, lo, d0, hi, m0, ⟨Y, hY, hfg⟩, X, hX, hXa⟩ := h
  rcases Int.lt_trichotomy (c : Int) m with hc | hc | hc
  · rw [estep_lt hc] at hp ⊢
    have e1 : le_ m (pre ++ [c]) = le_ m pre ++ [c] := by
      unfold le_
      rw [List.filter_append, List.filter_cons, if_pos (by simp; omega), List.filter_nil]
    have e2 : lt_ m (c :: post) = c :: lt_ m post := by
      unfold lt_
      rw [List.filter_cons, if_pos (by simp; omega)]
    refine ⟨s, hold, ?_, ?_, done, bias, first, lo, by dsimp only; omega, hi, m0, ⟨Y, hY, hfg⟩, X, hX, hXa⟩
    · rw [out, e1, e2]; simp
    · rw [e1, List.length_append, List.length_singleton]
      dsimp only
      omega
  · rw [estep_hit hc] at hp ⊢
    obtain ⟨Z, hZ⟩ := hp
    dsimp only at hZ
    have hYZ : Y = digs e.delta 36 e.bias ++ Z := by
      have h1 : e.out ++ Y = e.out ++ (digs e.delta 36 e.bias ++ Z) := by rw [← hY, ← hZ, List.append_assoc]
      exact List.append_cancel_left h1
    have e1 : le_ m (pre ++ [c]) = le_ m pre ++ [c] := by
      unfold le_
      rw [List.filter_append, List.filter_cons, if_pos (by simp; omega), List.filter_nil]
    have e2 : lt_ m (c :: post) = lt_ m post := by
      unfold lt_
      rw [List.filter_cons, if_neg (by simp; omega)]
    rw [e2] at out
    have hrd := rd_digs _ e.delta 36 1 s.spot e.bias Z (Nat.le_refl _) d0
    rw [← hYZ, ← hfg, ← bias, Int.mul_one] at hrd
    have hlen : ((le_ m pre).length : Int) < (s.out.length : Int) + 1 := by
      rw [out, List.length_append]; omega
    have hpp := pos_parts (a := m - s.sign) (L := (s.out.length : Int) + 1) (t := ((le_ m pre).length : Int)) (by omega) hlen
    rw [done] at pos
    rw [← pos] at hpp
    have hne : s.figs ≠ [] := by
      intro q
      rw [q] at hrd
      unfold rd at hrd
      cases hrd
    have hsg : s.sign + (m - s.sign) = m := by omega
    refine ⟨dput s (s.spot + e.delta, Z.map figOf), fun R hR => hold R (dec_step hne hrd ?_ hR), ?_, ?_, ?_, ?_, ?_, ?_, ?_, hi, m0, ⟨Z, hZ.symm, rfl⟩, X ++ digs e.delta 36 e.bias, by dsimp only; rw [hX, List.append_assoc], ?_⟩
    · dsimp only
      rw [hpp.1, hsg]
      exact hi
    · unfold dput
      dsimp only
      rw [hpp.1, hpp.2, hsg, e1, out, ← hc]
      simp
    · unfold dput
      dsimp only
      rw [hpp.1, hpp.2, hsg, e1, List.length_append, List.length_singleton]
      simp
    · unfold dput
      dsimp only
      rw [hpp.2, out]
      simp
      rw [done, out]
      simp
      omega
    · unfold dput
      dsimp only
      rw [done, first, done]
      congr 1
      omega
    · unfold dput
      dsimp only
      rw [decide_eq_false (by omega)]
    · dsimp only; omega
    · simp
    · intro z hz
      rcases List.mem_append.mp hz with hz | hz
      · exact hXa z hz
      · exact digs_alph _ _ _ _ (Nat.le_refl _) d0 z hz
  · have hne : (c : Int) ≠ m := by omega
    rw [estep_gt (by omega) hne] at hp ⊢
    have e1 : le_ m (pre ++ [c]) = le_ m pre := by
      unfold le_
      rw [List.filter_append, List.filter_cons, if_neg (by simp; omega), List.filter_nil, List.append_nil]
    have e2 : lt_ m (c :: post) = lt_ m post := by
      unfold lt_
      rw [List.filter_cons, if_neg (by simp; omega)]
    refine ⟨s, hold, ?_, ?_, done, bias, first, lo, d0, hi, m0, ⟨Y, hY, hfg⟩, X, hX, hXa⟩
    · rw [out, e1, e2]
    · rw [e1]; exact pos
theorem estep_pre (n base : Int) (e : En) (c : Int) : e.out <+: (estep n base e c).out := by
  unfold estep
  dsimp only
  split
  · exact List.prefix_append _ _
  · exact List.prefix_refl _
theorem fold_pre (n base : Int) : ∀ (l : List Int) (e : En), e.out <+: (l.foldl (estep n base) e).out
  | [], e => List.prefix_refl _
  | c :: l, e => (estep_pre n base e c).trans (fold_pre n base l _)
theorem sync_fold {s0 : Dn} {G0 G : List Nat} {base m : Int} : ∀ (post pre : List Nat) (e : En) (s : Dn), Sync s0 G0 G base m pre post e s → ((post.map fun (c : Nat) => (c : Int)).foldl (estep m base) e).out <+: G →
    ∃ s', Sync s0 G0 G base m (pre ++ post) [] ((post.map fun (c : Nat) => (c : Int)).foldl (estep m base) e) s'
  | [], pre, e, s, h, _ => ⟨s, by simpa using h⟩
  | c :: post, pre, e, s, h, hp => by
    obtain ⟨s', h'⟩ := sync_step h ((fold_pre m base _ _).trans hp)
    have h2 := sync_fold post (pre ++ [c]) _ s' h' hp
    rw [List.append_assoc] at h2
    exact h2
/-- the reader keeps step with the writer, at the outer loop's head -/
structure HSync (s0 : Dn) (G0 G : List Nat) (base : Int) (S : List Nat) (st : En × Int) (s : Dn) : Prop where
  hold : ∀ R, Dec s R → Dec s0 R
  out : s.out = lt_ st.2 S
  pos : s.spot + st.1.delta = (st.2 - s.sign) * (st.1.done + 1)
  done : st.1.done = (s.out.length : Int)
  bias : s.bias = st.1.bias
  first : s.first = decide (st.1.done = base)
  lo : base ≤ st.1.done
  d0 : 0 ≤ st.1.delta
  figs : ∃ Y, G = st.1.out ++ Y ∧ s.figs = Y.map figOf
  alp : ∃ X, st.1.out = G0 ++ X ∧ ∀ c ∈ X, c ∈ alphL
def cd (S : List Nat) : List Int := S.map fun (c : Nat) => (c : Int)
theorem hsync_round {s0 : Dn} {G0 G : List Nat} {base : Int} {S : List Nat} {st : En × Int} {s : Dn} (h : HSync s0 G0 G base S st s) (hH : Head (cd S) st) (hS : ∀ c ∈ S, c < 1114112) (hd : st.1.done < (cd S).length)
    (hp : (oround (cd S) base st).1.out <+: G) : ∃ s', HSync s0 G0 G base S (oround (cd S) base st) s' := by
  have hr := round_min (t := cd S) (n := st.2) (by have := hH.cnt; omega)
  obtain ⟨hold, out, pos, done, bias, first, lo, d0, figs, alp⟩ := h
  have hlo := hH.lo
  unfold oround at hp ⊢
  generalize mn ((cd S).filter fun c => decide (st.2 ≤ c)) = m at hr hp ⊢
  obtain ⟨_, hmt, hnm, hmin⟩ := hr
  dsimp only at hp ⊢
  have hm1 : m < 1114112 := by
    obtain ⟨c, hc, rfl⟩ := List.mem_map.mp hmt
    have := hS c hc
    omega
  have hlt : lt_ m S = lt_ st.2 S := by
    unfold lt_
    refine List.filter_congr fun x hx => ?_
    have hx2 := hmin (x : Int) (List.mem_map.mpr ⟨x, hx, rfl⟩)
    by_cases h1 : (x : Int) < st.2
    · rw [decide_eq_true h1, decide_eq_true (by omega)]
    · rw [decide_eq_false h1, decide_eq_false (by have := hx2 (by omega); omega)]
  have hk : 0 ≤ st.1.done := by omega
  have hmul : 0 ≤ (m - st.2) * (st.1.done + 1) := Int.mul_nonneg (by omega) (by omega)
  have hsy : Sync s0 G0 G base m [] S ⟨st.1.out, st.1.delta + (m - st.2) * (st.1.done + 1), st.1.bias, st.1.done⟩ s := by
    refine ⟨hold, ?_, ?_, done, bias, first, lo, by dsimp only; omega, hm1, by omega, figs, alp⟩
    · rw [out, hlt]; rfl
    · dsimp only
      rw [← Int.add_assoc, pos, ← Int.add_mul]
      rw [show st.2 - s.sign + (m - st.2) = m - s.sign by omega]
      simp [le_]
  obtain ⟨s', h'⟩ := sync_fold S [] _ s hsy (by exact hp)
  rw [List.nil_append] at h'
  have hfold : ((S.map fun (c : Nat) => (c : Int)).foldl (estep m base) ⟨st.1.out, st.1.delta + (m - st.2) * (st.1.done + 1), st.1.bias, st.1.done⟩) = (cd S).foldl (estep m base) ⟨st.1.out, st.1.delta + (m - st.2) * (st.1.done + 1), st.1.bias, st.1.done⟩ := rfl
  rw [hfold] at h'
  generalize (cd S).foldl (estep m base) ⟨st.1.out, st.1.delta + (m - st.2) * (st.1.done + 1), st.1.bias, st.1.done⟩ = e at h' ⊢
  obtain ⟨hold', out', pos', done', bias', first', lo', d0', _, _, figs', alp'⟩ := h'
  have e2 : lt_ m [] = [] := rfl
  rw [e2, List.append_nil] at out'
  have e3 : lt_ (m + 1) S = le_ m S := by
    unfold lt_ le_
    refine List.filter_congr fun x _ => ?_
    by_cases h1 : (x : Int) ≤ m
    · rw [decide_eq_true h1, decide_eq_true (by omega)]
    · rw [decide_eq_false h1, decide_eq_false (by omega)]
  refine ⟨s', hold', by rw [e3]; exact out', ?_, done', bias', first', lo', by dsimp only; omega, figs', alp'⟩
  dsimp only
  have h5 : ((le_ m S).length : Int) = e.done := by rw [done', out']
  rw [h5] at pos'
  have h6 : (m + 1 - s'.sign) * (e.done + 1) = (m - s'.sign) * (e.done + 1) + (e.done + 1) := by
    rw [show m + 1 - s'.sign = (m - s'.sign) + 1 by omega, Int.add_mul, Int.one_mul]
  omega
theorem orun_pre (t : List Int) (base : Int) : ∀ (f : Nat) (s : En × Int), s.1.out <+: (orun t base f s).1.out
  | 0, s => List.prefix_refl _
  | f + 1, s => by
    unfold orun
    split
    · have h1 : s.1.out <+: (oround t base s).1.out := by
        unfold oround
        exact fold_pre _ base t ⟨s.1.out, s.1.delta + (mn (t.filter fun c => decide (s.2 ≤ c)) - s.2) * (s.1.done + 1), s.1.bias, s.1.done⟩
      exact h1.trans (orun_pre t base f _)
    · exact List.prefix_refl _
structure Good (S : List Nat) : Prop where
  len : S.length ≤ 20
  hi : ∀ c ∈ S, c < 1114112
theorem Good.cd_len {S : List Nat} (h : Good S) : (cd S).length ≤ 20 := by
  unfold cd
  rw [List.length_map]
  exact h.len
theorem Good.cd_hi {S : List Nat} (h : Good S) : ∀ x ∈ cd S, x < 1114112 := by
  intro x hx
  obtain ⟨c, hc, rfl⟩ := List.mem_map.mp hx
  have := h.hi c hc
  omega
theorem reach_pre {S : List Nat} (h : Good S) {st : En × Int} (hr : Reach (cd S) st) : st.1.out <+: encL (cd S) := by
  obtain ⟨f, e, _⟩ := reach_run hr h.cd_len h.cd_hi
  unfold encL
  rw [← e]
  exact orun_pre _ _ f st
theorem reach_sync {S : List Nat} (h : Good S) {s0 : Dn} (h0 : HSync s0 (start (cd S)).1.out (encL (cd S)) (plainL (cd S)).length S (start (cd S)) s0) {st : En × Int} (hr : Reach (cd S) st) :
    ∃ s, HSync s0 (start (cd S)).1.out (encL (cd S)) (plainL (cd S)).length S st s := by
  induction hr with
  | refl => exact ⟨s0, h0⟩
  | step hr hd ih =>
    obtain ⟨s, hs⟩ := ih
    exact hsync_round hs (reach_head hr h.cd_len h.cd_hi) h.hi hd (reach_pre h (.step hr hd))
theorem reach_last {S : List Nat} (h : Good S) : ∀ (k : Nat) {st : En × Int}, Reach (cd S) st → ((cd S).length : Int) ≤ st.1.done + k → ∃ st', Reach (cd S) st' ∧ ¬ st'.1.done < (cd S).length
  | 0, st, hr, hk => ⟨st, hr, by omega⟩
  | k + 1, st, hr, hk => by
    by_cases hd : st.1.done < (cd S).length
    · have h2 := (round_head (plainL (cd S)).length (reach_head hr h.cd_len h.cd_hi) h.cd_len h.cd_hi hd).2
      exact reach_last h k (.step hr hd) (by omega)
    · exact ⟨st, hr, hd⟩
theorem enc_end {S : List Nat} (h : Good S) : ∃ st, Reach (cd S) st ∧ ¬ st.1.done < (cd S).length ∧ st.1.out = encL (cd S) := by
  obtain ⟨st, hr, hd⟩ := reach_last h (cd S).length .refl (by have : 0 ≤ (start (cd S)).1.done := (by simp [start]); omega)
  exact ⟨st, hr, hd, reach_end hr h.cd_len h.cd_hi hd⟩
def plainN (S : List Nat) : List Nat := S.filter fun (c : Nat) => decide ((c : Int) < 128)
theorem plainN_eq (S : List Nat) : plainL (cd S) = (plainN S).map fun (c : Nat) => (c : Int) := by
  unfold plainL cd plainN
  rw [List.filter_map]
  simp only [Function.comp_def]
theorem start_out (S : List Nat) : (start (cd S)).1.out = plainN S ++ (if plainN S = [] then [] else [45]) := by
  unfold start
  dsimp only
  rw [plainN_eq, List.map_map]
  congr 1
  · conv => rhs; rw [← List.map_id (plainN S)]
    rfl
  · rw [List.length_map]
    by_cases hp : plainN S = []
    · rw [if_pos hp, hp]; rfl
    · rw [if_neg hp, if_neg (fun q => hp (List.length_eq_zero_iff.mp q))]
theorem full {n : Int} {S : List Nat} (h : S.length ≤ (lt_ n S).length) : lt_ n S = S := by
  unfold lt_ at h ⊢
  refine List.filter_eq_self.mpr ?_
  exact List.length_filter_eq_length_iff.mp (Nat.le_antisymm (List.length_filter_le _ _) h)
/-- the whole of it: the octets in their parts, and what the reader makes of them -/
theorem enc_parts {S : List Nat} (h : Good S) : ∃ X, encL (cd S) = (start (cd S)).1.out ++ X ∧ (∀ c ∈ X, c ∈ alphL) ∧ Dec ⟨plainN S, 128, 0, 72, true, X.map figOf⟩ S := by
  obtain ⟨X, hX⟩ := reach_pre h .refl
  have h0 : HSync ⟨plainN S, 128, 0, 72, true, X.map figOf⟩ (start (cd S)).1.out (encL (cd S)) (plainL (cd S)).length S (start (cd S)) ⟨plainN S, 128, 0, 72, true, X.map figOf⟩ := by
    refine ⟨fun _ q => q, rfl, ?_, ?_, rfl, ?_, ?_, ?_, ⟨X, hX.symm, rfl⟩, [], by simp, by simp⟩
    · simp [start]
    · simp [start, plainN_eq]
    · simp [start]
    · simp [start]
    · simp [start]
  obtain ⟨st, hr, hd, he⟩ := enc_end h
  obtain ⟨s, hs⟩ := reach_sync h h0 hr
  obtain ⟨hold, out, _, done, _, _, _, _, ⟨Y, hY, hfg⟩, X2, hX2, hXa⟩ := hs
  have hYn : Y = [] := by
    rw [he] at hY
    have := congrArg List.length hY
    rw [List.length_append] at this
    exact List.length_eq_zero_iff.mp (by omega)
  rw [hYn] at hfg
  have hXX : X = X2 := by
    rw [he, ← hX] at hX2
    exact List.append_cancel_left hX2
  have hout : s.out = S := by
    rw [out]
    refine full ?_
    rw [← out]
    have e : (cd S).length = S.length := by unfold cd; rw [List.length_map]
    omega
  refine ⟨X, hX.symm, hXX ▸ hXa, ?_⟩
  have := hold s.out (dec_end hfg)
  rw [hout] at this
  exact this
theorem alphL_fig : ∀ c ∈ alphL, 0 ≤ figOf c ∧ figOf c ≤ 35 := by decide
theorem alphL_dash : ∀ c ∈ alphL, c ≠ 45 := by decide
theorem alphL_sign : ∀ c ∈ alphL, (97 ≤ c ∧ c ≤ 122) ∨ (48 ≤ c ∧ c ≤ 57) ∨ c = 45 := by decide
theorem reads_enc {S : List Nat} (h : Good S) : Reads (encL (cd S)) S := by
  obtain ⟨X, hX, hXa, hD⟩ := enc_parts h
  rw [start_out] at hX
  refine ⟨plainN S, X, ?_, ?_, hD⟩
  · by_cases hp : plainN S = []
    · rw [if_pos hp, hp] at hX
      simp only [List.nil_append] at hX
      rw [hX, hp]
      exact .none fun q => alphL_dash _ (hXa _ q) rfl
    · rw [if_neg hp, List.append_assoc] at hX
      exact .dash hX fun q => alphL_dash _ (hXa _ q) rfl
  · intro f hf
    obtain ⟨c, hc, rfl⟩ := List.mem_map.mp hf
    exact alphL_fig c (hXa c hc)
theorem enc_len {S : List Nat} (h : Good S) : (encL (cd S)).length ≤ 1000 := by
  obtain ⟨st, hr, _, he⟩ := enc_end h
  have hH := reach_head hr h.cd_len h.cd_hi
  have h1 := hH.len
  have h2 := hH.cnt
  have h3 := below_le st.2 (cd S)
  have h4 := h.cd_len
  rw [he] at h1
  omega
theorem enc_small {S : List Nat} (h : Good S) : Small (encL (cd S)) := by
  obtain ⟨st, hr, _, he⟩ := enc_end h
  rw [← he]
  exact out_small hr
theorem enc_head {S : List Nat} (h : Good S) (hne : S.filter (fun (c : Nat) => decide ((c : Int) < 128)) ≠ []) : (encL (cd S)).take ((S.filter fun (c : Nat) => decide ((c : Int) < 128)).length + 1) = (S.filter fun (c : Nat) => decide ((c : Int) < 128)) ++ [45] := by
  obtain ⟨X, hX, _, _⟩ := enc_parts h
  have hne' : plainN S ≠ [] := hne
  rw [start_out, if_neg hne'] at hX
  show (encL (cd S)).take ((plainN S).length + 1) = plainN S ++ [45]
  rw [hX, List.take_left' (by simp)]
theorem enc_bare {S : List Nat} (h : Good S) (hne : S.filter (fun (c : Nat) => decide ((c : Int) < 128)) = []) : 45 ∉ encL (cd S) := by
  obtain ⟨X, hX, hXa, _⟩ := enc_parts h
  have hne' : plainN S = [] := hne
  rw [start_out, if_pos hne', hne'] at hX
  rw [hX]
  exact fun q => alphL_dash _ (hXa _ (by simpa using q)) rfl
theorem enc_signs {S : List Nat} (h : Good S) (hp : ∀ c ∈ S, c < 128 → (97 ≤ c ∧ c ≤ 122) ∨ (48 ≤ c ∧ c ≤ 57) ∨ c = 45) : ∀ c ∈ encL (cd S), (97 ≤ c ∧ c ≤ 122) ∨ (48 ≤ c ∧ c ≤ 57) ∨ c = 45 := by
  obtain ⟨X, hX, hXa, _⟩ := enc_parts h
  rw [start_out] at hX
  intro c hc
  rw [hX] at hc
  rcases List.mem_append.mp hc with hc | hc
  · rcases List.mem_append.mp hc with hc | hc
    · have h1 := List.mem_filter.mp hc
      have h2 := of_decide_eq_true h1.2
      exact hp c h1.1 (by omega)
    · split at hc
      · cases hc
      · exact .inr (.inr (List.mem_singleton.mp hc))
  · exact alphL_sign c (hXa c hc)
theorem drun_up : ∀ (f : Nat) {s : Dn} {R : List Nat}, drun f s = some R → drun (f + 1) s = some R
  | 0, s, R, h => by cases h
  | f + 1, s, R, h => by
    unfold drun at h ⊢
    by_cases hf : s.figs = []
    · rw [if_pos hf] at h ⊢; exact h
    · rw [if_neg hf] at h ⊢
      cases hr : rd s.bias s.figs 36 1 s.spot with
      | none => rw [hr] at h; cases h
      | some r =>
        rw [hr] at h
        dsimp only at h ⊢
        by_cases hs : s.sign + r.1.fdiv (s.out.length + 1) < 1114112
        · rw [if_pos hs] at h ⊢
          exact drun_up f h
        · rw [if_neg hs] at h; cases h
theorem drun_le {f g : Nat} {s : Dn} {R : List Nat} (h : drun f s = some R) (hg : f ≤ g) : drun g s = some R := by
  obtain ⟨k, rfl⟩ := Nat.le.dest hg
  induction k with
  | zero => exact h
  | succ k ih => exact drun_up _ (ih (by omega))
theorem dec_one {s : Dn} {R T : List Nat} (h : Dec s R) (h2 : Dec s T) : R = T := by
  obtain ⟨f, h⟩ := h
  obtain ⟨g, h2⟩ := h2
  have a := drun_le h (Nat.le_max_left f g)
  have b := drun_le h2 (Nat.le_max_right f g)
  rw [a] at b
  exact Option.some.inj b
theorem dash_one : ∀ {o r o' r' : List Nat}, 45 ∉ r → 45 ∉ r' → o ++ 45 :: r = o' ++ 45 :: r' → o = o' ∧ r = r'
  | [], r, [], r', _, _, e => ⟨rfl, (List.cons.inj e).2⟩
  | [], r, a :: o', r', h, _, e => by
    exfalso
    have := (List.cons.inj e).2
    exact h (by rw [this]; simp)
  | a :: o, r, [], r', _, h, e => by
    exfalso
    have := (List.cons.inj e).2
    exact h (by rw [← this]; simp)
  | a :: o, r, b :: o', r', h, h', e => by
    obtain ⟨e1, e2⟩ := List.cons.inj e
    obtain ⟨e3, e4⟩ := dash_one h h' e2
    exact ⟨by rw [e1, e3], e4⟩
theorem split_one {l o r o' r' : List Nat} (h : Split l o r) (h' : Split l o' r') : o = o' ∧ r = r' := by
  cases h with
  | dash e hr =>
    cases h' with
    | dash e' hr' => exact dash_one hr hr' (by rw [← e, ← e'])
    | none hn => exact absurd (by rw [e]; simp) hn
  | none hn =>
    cases h' with
    | dash e' hr' => exact absurd (by rw [e']; simp) hn
    | none hn' => exact ⟨rfl, rfl⟩
theorem reads_one {l R T : List Nat} (h : Reads l R) (h2 : Reads l T) : R = T := by
  obtain ⟨o, r, hs, _, hd⟩ := h
  obtain ⟨o', r', hs', _, hd'⟩ := h2
  obtain ⟨rfl, rfl⟩ := split_one hs hs'
  exact dec_one hd hd'
theorem enc_inj {S T : List Nat} (h : Good S) (h2 : Good T) (e : encL (cd S) = encL (cd T)) : S = T := by
  have h3 := reads_enc h
  rw [e] at h3
  exact reads_one h3 (reads_enc h2)
end Mine
end
section
namespace Mine
def adlF : Nat → Int → Int → Option (Int × Int)
  | 0, _, _ => none
  | f + 1, d, k => if 455 < d then adlF f (d.fdiv 35) (k + 36) else some (d, k)
theorem adlF_ok : ∀ (f : Nat) {d k : Int} {r : Int × Int}, adlF f d k = some r → adl d k = r
  | 0, _, _, _, h => by cases h
  | f + 1, d, k, r, h => by
    unfold adlF at h
    by_cases hd : 455 < d
    · rw [if_pos hd] at h
      rw [adl_step hd]
      exact adlF_ok f h
    · rw [if_neg hd] at h
      rw [adl_end hd]
      exact Option.some.inj h
def digsF : Nat → Int → Int → Int → Option (List Nat)
  | 0, _, _, _ => none
  | f + 1, q, k, b => if q < tb k b then some [alph q] else (digsF f ((q - tb k b).fdiv (36 - tb k b)) (k + 36) b).map (alph (tb k b + (q - tb k b).fmod (36 - tb k b)) :: ·)
theorem digsF_ok : ∀ (f : Nat) {q k b : Int} {l : List Nat}, digsF f q k b = some l → digs q k b = l
  | 0, _, _, _, _, h => by cases h
  | f + 1, q, k, b, l, h => by
    unfold digsF at h
    by_cases hq : q < tb k b
    · rw [if_pos hq] at h
      rw [digs_last hq]
      exact Option.some.inj h
    · rw [if_neg hq] at h
      rw [digs_more hq]
      obtain ⟨l', h1, h2⟩ := Option.map_eq_some_iff.mp h
      rw [digsF_ok f h1]
      exact h2
def estepF (n base : Int) (e : En) (c : Int) : Option En :=
  if c = n then
    match digsF 60 e.delta 36 e.bias, adlF 60 ((if e.done = base then e.delta.fdiv 700 else e.delta.fdiv 2) + (if e.done = base then e.delta.fdiv 700 else e.delta.fdiv 2).fdiv (e.done + 1)) 0 with
    | some l, some r => some ⟨e.out ++ l, 0, r.2 + (36 * r.1).fdiv (r.1 + 38), e.done + 1⟩
    | _, _ => none
  else some ⟨e.out, if c < n then e.delta + 1 else e.delta, e.bias, e.done⟩
theorem estepF_ok {n base : Int} {e e' : En} {c : Int} (h : estepF n base e c = some e') : estep n base e c = e' := by
  unfold estepF at h
  by_cases hc : c = n
  · rw [if_pos hc] at h
    rw [estep_hit hc]
    split at h
    · rename_i l r h1 h2
      rw [digsF_ok _ h1, ← Option.some.inj h]
      have h3 := adlF_ok _ h2
      congr 1
      unfold adapt
      by_cases hb : e.done = base
      · simp only [hb, if_true, decide_true] at h3 ⊢
        rw [h3]
      · simp only [hb, if_false, decide_false, Bool.false_eq_true] at h3 ⊢
        rw [h3]
    · cases h
  · rw [if_neg hc] at h
    rw [← Option.some.inj h]
    unfold estep
    dsimp only
    rw [if_neg hc]
def foldF (n base : Int) : List Int → En → Option En
  | [], e => some e
  | c :: l, e => match estepF n base e c with
    | some e' => foldF n base l e'
    | none => none
theorem foldF_ok {n base : Int} : ∀ (l : List Int) {e e' : En}, foldF n base l e = some e' → l.foldl (estep n base) e = e'
  | [], e, e', h => Option.some.inj h
  | c :: l, e, e', h => by
    unfold foldF at h
    split at h
    · rename_i e1 h1
      rw [List.foldl_cons, estepF_ok h1]
      exact foldF_ok l h
    · cases h
def orunF (t : List Int) (base : Int) : Nat → En × Int → Option (En × Int)
  | 0, s => some s
  | f + 1, s => if s.1.done < t.length then
      match foldF (mn (t.filter fun c => decide (s.2 ≤ c))) base t ⟨s.1.out, s.1.delta + (mn (t.filter fun c => decide (s.2 ≤ c)) - s.2) * (s.1.done + 1), s.1.bias, s.1.done⟩ with
      | some e => orunF t base f (⟨e.out, e.delta + 1, e.bias, e.done⟩, mn (t.filter fun c => decide (s.2 ≤ c)) + 1)
      | none => none
    else some s
theorem orunF_ok {t : List Int} {base : Int} : ∀ (f : Nat) {s s' : En × Int}, orunF t base f s = some s' → orun t base f s = s'
  | 0, s, s', h => Option.some.inj h
  | f + 1, s, s', h => by
    unfold orunF at h
    unfold orun
    by_cases hd : s.1.done < t.length
    · rw [if_pos hd] at h ⊢
      split at h
      · rename_i e h1
        have h2 := foldF_ok t h1
        unfold oround
        dsimp only
        rw [h2]
        exact orunF_ok f h
      · cases h
    · rw [if_neg hd] at h ⊢
      exact Option.some.inj h
def encF (t : List Int) : Option (List Nat) := (orunF t (plainL t).length (t.length + 1) (start t)).map fun s => s.1.out
theorem encF_ok {t : List Int} {l : List Nat} (h : encF t = some l) : encL t = l := by
  unfold encF at h
  obtain ⟨s, h1, h2⟩ := Option.map_eq_some_iff.mp h
  unfold encL
  rw [orunF_ok _ h1]
  exact h2
theorem known1 : encL [98, 252, 99, 104, 101, 114] = [98, 99, 104, 101, 114, 45, 107, 118, 97] := encF_ok (by decide +kernel)
theorem known2 : encL [252] = [116, 100, 97] := encF_ok (by decide +kernel)
theorem known3 : encL [109, 252, 110, 99, 104, 101, 110, 45, 111, 115, 116] = [109, 110, 99, 104, 101, 110, 45, 111, 115, 116, 45, 57, 100, 98] := encF_ok (by decide +kernel)
theorem known4 : encL [20182, 20204, 20026, 20160, 20040, 19981, 35828, 20013, 25991] = [105, 104, 113, 119, 99, 114, 98, 52, 99, 118, 56, 97, 56, 100, 113, 103, 48, 53, 54, 112, 113, 106, 121, 101] := encF_ok (by decide +kernel)
end Mine
end
section
open PySem PySem.W PyProof.Rows PySem.Spec PySem.Calls
set_option Elab.async false
set_option maxRecDepth 100000
namespace Mine
theorem kn1 : enc (Str.ofString "bücher") = ([98, 99, 104, 101, 114, 45, 107, 118, 97] : List UInt8).toArray := by
  have e : KStt.codes (Str.ofString "bücher") = [98, 252, 99, 104, 101, 114] := by decide +kernel
  unfold enc
  rw [e, known1]
  decide +kernel
theorem kp1 : (Str.ofString "bücher").length ≤ 20 ∧ ∀ c ∈ KStt.codes (Str.ofString "bücher"), c < 1114112 := by decide +kernel
theorem kn2 : enc (Str.ofString "ü") = ([116, 100, 97] : List UInt8).toArray := by
  have e : KStt.codes (Str.ofString "ü") = [252] := by decide +kernel
  unfold enc
  rw [e, known2]
  decide +kernel
theorem kp2 : (Str.ofString "ü").length ≤ 20 ∧ ∀ c ∈ KStt.codes (Str.ofString "ü"), c < 1114112 := by decide +kernel
theorem kn3 : enc (Str.ofString "münchen-ost") = ([109, 110, 99, 104, 101, 110, 45, 111, 115, 116, 45, 57, 100, 98] : List UInt8).toArray := by
  have e : KStt.codes (Str.ofString "münchen-ost") = [109, 252, 110, 99, 104, 101, 110, 45, 111, 115, 116] := by decide +kernel
  unfold enc
  rw [e, known3]
  decide +kernel
theorem kp3 : (Str.ofString "münchen-ost").length ≤ 20 ∧ ∀ c ∈ KStt.codes (Str.ofString "münchen-ost"), c < 1114112 := by decide +kernel
theorem kn4 : enc (Str.ofString "他们为什么不说中文") = ([105, 104, 113, 119, 99, 114, 98, 52, 99, 118, 56, 97, 56, 100, 113, 103, 48, 53, 54, 112, 113, 106, 121, 101] : List UInt8).toArray := by
  have e : KStt.codes (Str.ofString "他们为什么不说中文") = [20182, 20204, 20026, 20160, 20040, 19981, 35828, 20013, 25991] := by decide +kernel
  unfold enc
  rw [e, known4]
  decide +kernel
theorem kp4 : (Str.ofString "他们为什么不说中文").length ≤ 20 ∧ ∀ c ∈ KStt.codes (Str.ofString "他们为什么不说中文"), c < 1114112 := by decide +kernel
end Mine
end
section
open PySem PySem.W PyProof.Rows PySem.Spec PySem.Calls
set_option Elab.async false
set_option maxRecDepth 100000
namespace Mine
local macro_rules | `(tactic| walk_at "mine steps") => `(tactic| repeat' (first | (k_unfold; (try dsimp only)) | walk1 | (dsimp only; walk1) | (leave1; (try dsimp only)) | fail "no step"))
local macro_rules | `(tactic| walk_at "call ref") => `(tactic| (k_here; refine StopG.out ?_))
set_option maxHeartbeats 8000000 in
theorem puny_c (w : World) (mean : ExcName → Option Value) (mg mb : Str → Option Value) (news : List (Addr × Obj)) (x : Str) (t1 : Tok) :
  Claim PySem.Challenge.rw_ez0126_01.prog w (hd.heap_39 w.params) hd.view_39 (looseW hd.view_39 []) mean mg mb 33 4 40 news (x.length ≤ 20 ∧ ∀ c ∈ KStt.codes x, c < 1114112) [.str x t1] (fun t => .bytes (enc x) t) := by
  w_top off
  k_fill
  unfold Claim
  intros
  rename_i hpre _ _ hret
  refine wpAny_call ?_
  k_dflt cell_enter
  walk_at "mine steps"
  constructor
  rename Fr _ _ _ _ => F
  rename News _ _ _ _ => N
  with_unfolding_all refine' claim_use (punycode_c w mean mg mb _ x _) ?cB F ?cX N ?cT ?cK hpre ?cD ?cU ?cR
  case cB => k_asm
  case cX => k_asm
  case cT => k_asm
  case cK => rfl
  case cD => ktr_room
  case cU => ktr_units
  case cR =>
    clear F N
    intro tR hR tkR F N
    walk_at "mine steps"
    rename Fr _ _ _ _ => F
    rename News _ _ _ _ => N
    exact hret _ _ _ F N
end Mine
end
section
open PySem PySem.W PyProof.Rows PySem.Spec PySem.Calls
set_option Elab.async false
set_option maxRecDepth 100000
namespace Mine
local macro_rules | `(tactic| walk_at "Keeps") => `(tactic| (exact ⟨_, _, rfl, fun _ _ e => e⟩))
local macro_rules | `(tactic| walk_at "Carried") => `(tactic| (constructor))
local macro_rules | `(tactic| walk_at "mine steps") => `(tactic| repeat' (first | (k_unfold; (try dsimp only)) | walk1 | (dsimp only; walk1) | (leave1; (try dsimp only)) | fail "no step"))
local macro_rules | `(tactic| walk_at "eval ListComp") => `(tactic| (k_here; (with_reducible show wpAny _ _ (eval (Expr.ListComp _ [Comprehension.mk (Expr.Name _ _) _ _ _] _ _) _) _ _ _); refine StopG.out ?_))
local macro_rules | `(tactic| walk_at "exec Assign cons ListComp") => `(tactic| (k_here; refine StopG.out ?_))
local macro_rules | `(tactic| walk_at "call builtin:str.join") => `(tactic| (k_here; refine StopG.out ?_))
local macro_rules | `(tactic| walk_at "call ref") => `(tactic| (k_here; (fail_if_success (with_reducible show wpAny _ _ (call _ [Value.ref _, _, _]) _ _ _)); refine StopG.out ?_))
local macro_rules | `(tactic| walk_at "exec If") => `(tactic| (k_here; refine StopG.out ?_))
local macro_rules | `(tactic| walk_at "subscriptTail Name Slice bytes ref") => `(tactic| (k_here; refine StopG.out ?_))
local macro_rules | `(tactic| walk_at "mine sub") => `(tactic| (intro p hp; (repeat' first | exact hp | refine List.mem_cons_of_mem _ ?_)))
theorem alph_ok : ∀ k : Nat, k < 14 → alphN.getD k 0 ∈ alphN := by decide
theorem sgn_mem (ns : List Int) (l : List Nat) : ∀ c ∈ l.map (fun (k : Nat) => sgn ns (k : Int)), c ∈ alphN := by
  intro c hc
  obtain ⟨k, _, rfl⟩ := List.mem_map.mp hc
  unfold sgn
  have h0 := fmod_lo (at_ ns (1 + (k : Int)) (5 * (k : Int) + 3)) (n := 14) (by decide)
  have h1 := fmod_hi (at_ ns (1 + (k : Int)) (5 * (k : Int) + 3)) (n := 14) (by decide)
  exact alph_ok _ (by omega)
theorem alph_hi : ∀ c ∈ alphN, c < 1114112 := by decide
theorem good_of {S : List Nat} (h : ∀ c ∈ S, c ∈ alphN) (hl : S.length ≤ 8) : Good S := ⟨by omega, fun c hc => alph_hi c (h c hc)⟩
theorem pre_of {S : List Nat} (h : Good S) : (mk S).length ≤ 20 ∧ ∀ c ∈ KStt.codes (mk S), c < 1114112 := by
  refine ⟨by rw [mk_length]; exact h.len, ?_⟩
  intro c hc
  obtain ⟨n, hn, rfl⟩ := List.mem_map.mp hc
  have := h.hi n hn
  omega
theorem alph_plain {S : List Nat} (h : ∀ c ∈ S, c ∈ alphN) : ∀ c ∈ S, c < 128 → (97 ≤ c ∧ c ≤ 122) ∨ (48 ≤ c ∧ c ≤ 57) ∨ c = 45 := by
  have h1 : ∀ c ∈ alphN, c < 128 → (97 ≤ c ∧ c ≤ 122) ∨ (48 ≤ c ∧ c ≤ 57) ∨ c = 45 := by decide
  exact fun c hc => h1 c (h c hc)
theorem signs_nil {S : List Nat} {ys : List Value} (hs : Small (encL (cd S))) (hc : ∀ c ∈ encL (cd S), (97 ≤ c ∧ c ≤ 122) ∨ (48 ≤ c ∧ c ≤ 57) ∨ c = 45)
    (h : CarriedAll ys (((KBw.bInts (enc (mk S))).filter fun a => !decide ((97 ≤ a ∧ a ≤ 122) ∨ (48 ≤ a ∧ a ≤ 57) ∨ a = 45)).map PyData.int)) : ys = [] := by
  have e : KBw.bInts (enc (mk S)) = (encL (cd S)).map fun (c : Nat) => (c : Int) := bints_of hs
  have e2 : (KBw.bInts (enc (mk S))).filter (fun a => !decide ((97 ≤ a ∧ a ≤ 122) ∨ (48 ≤ a ∧ a ≤ 57) ∨ a = 45)) = [] := by
    rw [e, List.filter_eq_nil_iff]
    intro a ha
    obtain ⟨c, hm, rfl⟩ := List.mem_map.mp ha
    have := hc c hm
    rw [decide_eq_true (by omega)]
    decide
  rw [e2] at h
  cases h
  rfl
theorem strs_areOf : ∀ {vs : List Value} {ss : List Str}, StrsAre vs ss → AreOf .str vs ss
  | _, _, .nil => .nil
  | _, _, .cons _ t h => .cons ⟨t, rfl⟩ (strs_areOf h)
theorem plain_strs {S : List Nat} {ys : List Value} (h : CarriedAll ys (((S.map fun c => (⟨#[c]⟩ : Str)).filter fun a => decide (((a.cps.getD 0 0 : Nat) : Int) < 128)).map PyData.str)) :
    StrsAre ys ((S.filter fun (c : Nat) => decide ((c : Int) < 128)).map fun c => (⟨#[c]⟩ : Str)) := by
  have h2 := CarriedAll.strsOf h
  rw [List.filter_map, List.map_map] at h2
  exact h2
local macro_rules | `(tactic| walk_at "getMethod str") => `(tactic| (k_here; with_reducible refine encode_method ?_))
local macro_rules | `(tactic| walk_at "call builtin:str.encode") => `(tactic| (k_here; refine StopG.out ?_))
theorem enc_no {S : List Nat} (hs : Small (encL (cd S))) (h : 45 ∉ encL (cd S)) : (enc (mk S)).contains 45 = false := by
  cases hq : (enc (mk S)).contains 45 with
  | false => rfl
  | true =>
    rw [show enc (mk S) = ((encL (cd S)).map Nat.toUInt8).toArray from rfl] at hq
    have hm : (45 : UInt8) ∈ (encL (cd S)).map Nat.toUInt8 := by simpa using hq
    obtain ⟨c, hc, e⟩ := List.mem_map.mp hm
    have h1 := hs c hc
    have h2 : c.toUInt8.toNat = 45 := by rw [e]; rfl
    rw [show c.toUInt8.toNat = c % 256 from rfl, Nat.mod_eq_of_lt (by omega)] at h2
    rw [h2] at hc
    exact absurd hc h
theorem told_head {S P : List Nat} (h : (encL (cd S)).take (P.length + 1) = P ++ [45]) : KBy.picked (enc (mk S)) none (some ((P.length : Int) + 1)) = ((P ++ [45]).map Nat.toUInt8).toArray := by
  have h1 := picked_take ((encL (cd S)).map Nat.toUInt8) P.length
  rw [← List.map_take, h] at h1
  exact h1
local macro_rules | `(tactic| walk_at "compareOp In int bytes") => `(tactic| (k_here; (with_reducible rename (Array.contains _ 45 = false) => hncX); (with_reducible refine in_bytes ?_); rw [hncX]))
theorem cast_inj {a b : List Nat} (h : a.map (fun (c : Nat) => (c : Int)) = b.map fun (c : Nat) => (c : Int)) : a = b := by
  have h2 := congrArg (List.map Int.toNat) h
  rw [List.map_map, List.map_map] at h2
  have e : (Int.toNat ∘ fun (c : Nat) => (c : Int)) = id := rfl
  rw [e, List.map_id, List.map_id] at h2
  exact h2
theorem eq_same {S T : List Nat} (hG : Good S) (hT : Good T) : ((enc (mk T)).toList == (enc (mk S)).toList) = ((⟨T.toArray⟩ : Str) == ⟨S.toArray⟩) := by
  by_cases e : T = S
  · subst e
    simp
  · have h1 : ((⟨T.toArray⟩ : Str) == ⟨S.toArray⟩) = false := by
      rw [beq_eq_false_iff_ne]
      exact fun q => e (congrArg (fun z : Str => z.cps.toList) q)
    have h2 : ((enc (mk T)).toList == (enc (mk S)).toList) = false := by
      rw [beq_eq_false_iff_ne]
      intro q
      refine e (enc_inj hT hG (cast_inj ?_))
      rw [← bints_of (enc_small hT), ← bints_of (enc_small hG)]
      exact congrArg KBw.bInts (Array.toList_inj.mp q)
    rw [h1, h2]
local macro_rules | `(tactic| walk_at "CompEnd") => `(tactic| ((rename Fr _ _ _ _ => F9); (rename News _ _ _ _ => N9); refine LCg.CompEnd.intro F9 N9 _ (fun p hp => hp) (by first | assumption | (simp only [LCg.Off3, and_true]; assumption)) (by lcg_src) ?_))
local macro_rules | `(tactic| walk_at "compareOp Eq ref ref") => `(tactic| (k_here; refine StopG.out ?_))
local macro_rules | `(tactic| walk_at "mine pass") => `(tactic| ((rename Fr _ _ _ _ => F9); (rename News _ _ _ _ => N9); exact ⟨rfl, _, _, rfl, F9, news_sub N9 (by walk_at "mine sub")⟩))
set_option maxHeartbeats 8000000 in
theorem law_w : PySem.Challenge.rw_ez0126_01.Holds := hd (by
  k_go0
  all_goals try k_fold
  walk_at "mine steps"
  constructor
  rename Fr _ _ _ _ => kF
  rename News _ _ _ _ => kN
  rename List Int => ns
  rename (IntsAre _ ns) => hI
  have hns : ns.length ≤ 63 := by omega
  refine' as_gen .int ((List.range (1 + (at_ ns 0 4).fmod 8).toNat).map fun (k : Nat) => (k : Int)) (cl := _) (fun _ => true) (fun k => PyData.str ⟨#[sgn ns k]⟩) rfl rfl (iter_at kF kN ?sI) rfl (by decide) rfl (by decide) rfl rfl rfl ?sS ?sT ?sE ?sQ (fun _ => rfl)
  case sI =>
    have hfm0 := fmod_lo (ns.getD 0 0) (n := 8) (by decide)
    have hfm1 := fmod_hi (ns.getD 0 0) (n := 8) (by decide)
    walk_at "mine steps"
    · rename (_ < _) => hlt
      rename Fr _ _ _ _ => F
      rename News _ _ _ _ => N
      rename (IsRange _ _ _ _ _ _ _ _) => hR
      have e : ((1 + (at_ ns 0 4).fmod 8).toNat : Int) = 1 + (ns.getD 0 0).fmod 8 := by
        unfold at_
        rw [if_pos hlt]
        simp only [Int.toNat_zero]
        omega
      refine ⟨_, _, rfl, F, N, src_range (n := (1 + (at_ ns 0 4).fmod 8).toNat) rfl (by rw [e]; exact hR) (by omega)⟩
    · rename (¬ _ < _) => hlt
      rename Fr _ _ _ _ => F
      rename News _ _ _ _ => N
      rename (IsRange _ _ _ _ _ _ _ _) => hR
      have e : ((1 + (at_ ns 0 4).fmod 8).toNat : Int) = 5 := by
        unfold at_
        rw [if_neg hlt]
        decide
      refine ⟨_, _, rfl, F, N, src_range (n := (1 + (at_ ns 0 4).fmod 8).toNat) rfl (by rw [e]; exact hR) (by omega)⟩
  case sS =>
    have := fmod_hi (at_ ns 0 4) (n := 8) (by decide)
    rw [List.length_map, List.length_range, sizeLine_eq]
    omega
  case sT =>
    intro C a v s₂ m₂ E' ha hv hn hm F₂ N₂
    exact wpAny_tests_nil ⟨rfl, _, _, rfl, fun _ _ e => e⟩
  case sE =>
    intro C a v s₂ m₂ E' ha hv hp hn hm F₂ N₂
    obtain ⟨u, rfl⟩ := hv
    obtain ⟨k, hk, rfl⟩ := List.mem_map.mp ha
    have hk0 : 0 ≤ 1 + (k : Int) := by omega
    walk_at "mine steps"
    · rename (_ < _) => hlt
      rw [sgn_item]
      have e : sgn ns k = alphN.getD ((ns.getD (1 + (k : Int)).toNat 0).fmod 14).toNat 0 := by
        unfold sgn at_
        rw [if_pos hlt]
      rw [e]
      constructor
    · rename InElt _ _ => kE
      exact ⟨_, _, rfl, kE⟩
    · rename (¬ _ < _) => hlt
      rw [sgn_item]
      have e : sgn ns k = alphN.getD ((5 * (k : Int) + 3).fmod 14).toNat 0 := by
        unfold sgn at_
        rw [if_neg hlt]
      rw [e]
      constructor
    · rename InElt _ _ => kE
      exact ⟨_, _, rfl, kE⟩
  clear kF kN
  intro D ys n h' tk F N hD hDL hy
  obtain ⟨S, hS⟩ : ∃ S, S = (List.range (1 + (at_ ns 0 4).fmod 8).toNat).map fun (k : Nat) => sgn ns (k : Int) := ⟨_, rfl⟩
  have hst : StrsAre ys (S.map fun c => (⟨#[c]⟩ : Str)) := by
    have h := CarriedAll.strsOf hy
    rw [List.filter_eq_self.mpr (fun _ _ => rfl), List.map_map] at h
    rw [hS, List.map_map]
    exact h
  have hal : ∀ c ∈ S, c ∈ alphN := by
    rw [hS]
    exact sgn_mem ns _
  have hSl : S.length ≤ 8 := by
    have := fmod_hi (at_ ns 0 4) (n := 8) (by decide)
    rw [hS, List.length_map, List.length_range]
    omega
  clear hy hS
  have hG := good_of hal hSl
  have hmS := mk_length S
  walk_at "mine steps"
  constructor
  refine' join_signs (l := S) ?jA hst ?jB ?_
  case jA => is_list
  case jB => omega
  intro o₁ ho₁ _ tJ kJ
  rw [ho₁]
  clear ho₁
  walk_at "mine steps"
  constructor
  rename Fr _ _ _ _ => kF
  rename News _ _ _ _ => kN
  with_unfolding_all refine' claim_use (puny_c _ _ _ _ _ (mk S) _) ?aB kF ?aX kN ?aT ?aK ?aP ?aD ?aU ?aR
  case aB => k_asm
  case aX => k_asm
  case aT => k_asm
  case aK => rfl
  case aP => exact pre_of hG
  case aD => decide
  case aU => decide
  case aR =>
    clear kF kN
    intro tR hR tkR F N
    walk_at "mine steps"
    constructor
    rename Fr _ _ _ _ => kF
    rename News _ _ _ _ => kN
    refine pass_cut kF kN ?_ ?_
    · skip
      refine wpAny_If ?_
      walk_at "mine steps"
      constructor
      with_unfolding_all refine' claim_use (read_c _ _ _ _ _ (encL (cd S)) S _) ?bB kF ?bX kN ?bT ?bK ?bP ?bD ?bU ?bR
      case bB => k_asm
      case bX => k_asm
      case bT => k_asm
      case bK => rfl
      case bP => exact ⟨enc_len hG, enc_small hG, reads_enc hG⟩
      case bD => decide
      case bU => decide
      case bR =>
        clear kF kN
        intro tR hR tkR F N
        walk_at "mine steps"
        · rename (_ = true) => hx
          simp at hx
        constructor
        rename Fr _ _ _ _ => kF
        rename News _ _ _ _ => kN
        refine' lc_gen .int (KBw.bInts (enc (mk S))) (cl := []) (fun a => !decide ((97 ≤ a ∧ a ≤ 122) ∨ (48 ≤ a ∧ a ≤ 57) ∨ a = 45)) PyData.int (iter_at kF kN ?cI) rfl (by decide) rfl (by decide) rfl ?cS ?cT ?cE ?cQ (fun _ => rfl)
        case cI =>
          walk_at "mine steps"
          exact ⟨_, _, rfl, kF, kN, src_bytes rfl⟩
        case cS =>
          have := enc_len hG
          rw [KBw.ints_length]
          unfold enc
          rw [List.size_toArray, List.length_map, sizeLine_eq]
          show (encL (cd S)).length ≤ _
          omega
        case cT =>
          intro C a v s₂ m₂ E' ha hv hn hm F₂ N₂
          obtain ⟨u, rfl⟩ := hv
          refine wpAny_tests_one ?_
          walk_at "mine steps"
          all_goals first
            | rw [decide_eq_true (by omega)]
            | rw [decide_eq_false (by omega)]
        case cE =>
          intro C a v s₂ m₂ E' ha hv hp hn hm F₂ N₂
          obtain ⟨u, rfl⟩ := hv
          walk_at "mine steps"
        clear kF kN
        intro D2 ys2 n2 h' tk F N hD2 hDL2 hy2
        have hnil : ys2 = [] := signs_nil (enc_small hG) (enc_signs hG (alph_plain hal)) hy2
        subst hnil
        clear hy2
        have hi2 : IntsAre [] [] := .nil
        walk_at "mine steps"
        rename Fr _ _ _ _ => F
        rename News _ _ _ _ => N
        exact ⟨rfl, _, _, rfl, F, news_sub N (by walk_at "mine sub")⟩
    clear kF kN
    intro h' tk F N
    walk_at "mine steps"
    constructor
    rename Fr _ _ _ _ => kF
    rename News _ _ _ _ => kN
    refine' lc_gen .str (S.map fun c => (⟨#[c]⟩ : Str)) (cl := []) (fun a => decide (((a.cps.getD 0 0 : Nat) : Int) < 128)) PyData.str (iter_at kF kN ?dI) rfl (by decide) rfl (by decide) rfl ?dS ?dT ?dE ?dQ (fun _ => rfl)
    case dI =>
      walk_at "mine steps"
      refine ⟨_, _, rfl, kF, kN, src_list (vs := ys) rfl ?_ (strs_areOf hst)⟩
      exact News.isList kN (by repeat' first | exact List.mem_cons_self | refine List.mem_cons_of_mem _ ?_)
    case dS => rw [List.length_map, sizeLine_eq]; omega
    case dT =>
      intro C a v s₂ m₂ E' ha hv hn hm F₂ N₂
      obtain ⟨u, rfl⟩ := hv
      obtain ⟨c, hc, rfl⟩ := List.mem_map.mp ha
      refine wpAny_tests_one ?_
      walk_at "mine steps"
    case dE =>
      intro C a v s₂ m₂ E' ha hv hp hn hm F₂ N₂
      obtain ⟨u, rfl⟩ := hv
      obtain ⟨c, hc, rfl⟩ := List.mem_map.mp ha
      walk_at "mine steps"
    clear kF kN
    intro D3 ys3 n3 h' tk F N hD3 hDL3 hy3
    obtain ⟨P, hP⟩ : ∃ P, P = S.filter fun (c : Nat) => decide ((c : Int) < 128) := ⟨_, rfl⟩
    have hst3 : StrsAre ys3 (P.map fun c => (⟨#[c]⟩ : Str)) := by
      rw [hP]
      exact plain_strs hy3
    have hPl : P.length ≤ 8 := by
      have := List.length_filter_le (fun (c : Nat) => decide ((c : Int) < 128)) S
      rw [hP]; omega
    have hPs : ∀ c ∈ P, c < 128 := by
      intro c hc
      rw [hP] at hc
      have := of_decide_eq_true (List.mem_filter.mp hc).2
      omega
    clear hy3
    walk_at "mine steps"
    constructor
    refine' join_signs (l := P) ?jC hst3 ?jD ?_
    case jC => is_list
    case jD => omega
    intro o₃ ho₃ hlo₃ tJ3 kJ3
    rw [ho₃]
    rw [ho₃] at hlo₃
    clear ho₃
    have hmP : (mk P).length ≤ 8 := by rw [hlo₃]; exact hPl
    walk_at "mine steps"
    constructor
    rename Fr _ _ _ _ => kF
    rename News _ _ _ _ => kN
    refine pass_cut kF kN ?_ ?_
    · skip
      refine wpAny_If ?_
      walk_at "mine steps"
      constructor
      rename Fr _ _ _ _ => kF
      rename News _ _ _ _ => kN
      have hbi : KBw.bInts (enc (mk S)) = (encL (cd S)).map fun (c : Nat) => (c : Int) := bints_of (enc_small hG)
      refine' KBc.slice_K (s := ⟨_, _, _, _, _⟩) kF kN hbi IsPart.none (IsPart.int _ _) ?eZ ?_
      case eZ =>
        have := enc_len hG
        rw [List.length_map]
        omega
      clear kF kN
      intro h' t' k' F N _
      rw [hlo₃]
      walk_at "mine steps"
      constructor
      rw [show (⟨P.toArray⟩ : Str) ++ Str.ofString "-" = mk (P ++ [45]) from mk_append P [45]]
      refine encode_ascii (x := mk (P ++ [45])) ?eA ?eB ?_
      case eA =>
        intro c hc
        rcases List.mem_append.mp (show c ∈ P ++ [45] from hc) with hc | hc
        · exact hPs c hc
        · rw [List.mem_singleton.mp hc]; decide
      case eB => rw [mk_length, List.length_append, List.length_singleton]; omega
      intro tE kE
      by_cases hPn : P = []
      · have hnc : (enc (mk S)).contains 45 = false := enc_no (enc_small hG) (enc_bare hG (by rw [← hP]; exact hPn))
        subst hPn
        walk_at "mine steps"
        all_goals first
          | walk_at "mine pass"
      · have hhd := enc_head hG (by rw [← hP]; exact hPn)
        rw [← hP] at hhd
        rw [told_head hhd]
        have hne : ¬ (P.toArray.toList == (Str.ofString "").cps.toList) = true := fun q => hPn (by rw [show (Str.ofString "").cps.toList = [] from rfl] at q; simpa using q)
        have hne2 : ¬ ((⟨P.toArray⟩ : Str) == Str.ofString "") = true := fun q => hPn (congrArg (fun z : Str => z.cps.toList) (beq_iff_eq.mp q))
        have hxx : ¬ (((P ++ [45]).map Nat.toUInt8).toArray.toList != ((P ++ [45]).map Nat.toUInt8).toArray.toList) = true := by simp
        walk_at "mine steps"
        all_goals first
          | walk_at "mine pass"
          | exact absurd (by assumption) hne
          | exact absurd (by assumption) hxx
          | exact absurd (by assumption) hne2
    clear kF kN
    intro h' tk F N
    walk_at "mine steps"
    constructor
    rename Fr _ _ _ _ => kF
    rename News _ _ _ _ => kN
    rw [rev_eq] at kF
    have hGr : Good S.reverse := good_of (fun c hc => hal c (List.mem_reverse.mp hc)) (by rw [List.length_reverse]; exact hSl)
    refine pass_cut kF kN ?_ ?_
    · skip
      refine wpAny_If ?_
      walk_at "mine steps"
      constructor
      rename Fr _ _ _ _ => kF
      rename News _ _ _ _ => kN
      with_unfolding_all refine' claim_use (puny_c _ _ _ _ _ (mk S.reverse) _) ?fB kF ?fX kN ?fT ?fK ?fP ?fD ?fU ?fR
      case fB => k_asm
      case fX => k_asm
      case fT => k_asm
      case fK => rfl
      case fP => exact pre_of hGr
      case fD => decide
      case fU => decide
      case fR =>
        clear kF kN
        intro tR2 hR tkR F N
        have hsm := eq_same hG hGr
        walk_at "mine steps"
        · exfalso
          rename ((_ != _) = true) => hx
          rw [hsm] at hx
          simp at hx
        constructor
        rename Fr _ _ _ _ => kF
        rename News _ _ _ _ => kN
        with_unfolding_all refine' claim_use (puny_c _ _ _ _ _ (mk S.reverse) _) ?gB kF ?gX kN ?gT ?gK ?gP ?gD ?gU ?gR
        case gB => k_asm
        case gX => k_asm
        case gT => k_asm
        case gK => rfl
        case gP => exact pre_of hGr
        case gD => decide
        case gU => decide
        case gR =>
          clear kF kN
          intro tR3 hR tkR F N
          walk_at "mine steps"
          constructor
          rename Fr _ _ _ _ => kF
          rename News _ _ _ _ => kN
          with_unfolding_all refine' claim_use (read_c _ _ _ _ _ (encL (cd S.reverse)) S.reverse _) ?hB kF ?hX kN ?hT ?hK ?hP ?hD ?hU ?hR
          case hB => k_asm
          case hX => k_asm
          case hT => k_asm
          case hK => rfl
          case hP => exact ⟨enc_len hGr, enc_small hGr, reads_enc hGr⟩
          case hD => decide
          case hU => decide
          case hR =>
            clear kF kN
            intro tR4 hR tkR F N
            walk_at "mine steps"
            · rename (_ = true) => hx
              simp at hx
            walk_at "mine pass"
    clear kF kN
    intro h' tk F N
    walk_at "mine steps"
    constructor
    rename Fr _ _ _ _ => kF
    rename News _ _ _ _ => kN
    with_unfolding_all refine' claim_use (puny_c _ _ _ _ _ (Str.ofString "bücher") _) ?q1B kF ?q1X kN ?q1T ?q1K kp1 ?q1D ?q1U ?q1R
    case q1B => k_asm
    case q1X => k_asm
    case q1T => k_asm
    case q1K => rfl
    case q1D => decide
    case q1U => decide
    clear kF kN
    intro tQ1 hQ1 tkQ1 F N
    rw [kn1]
    walk_at "mine steps"
    constructor
    rename Fr _ _ _ _ => kF
    rename News _ _ _ _ => kN
    with_unfolding_all refine' claim_use (puny_c _ _ _ _ _ (Str.ofString "ü") _) ?q2B kF ?q2X kN ?q2T ?q2K kp2 ?q2D ?q2U ?q2R
    case q2B => k_asm
    case q2X => k_asm
    case q2T => k_asm
    case q2K => rfl
    case q2D => decide
    case q2U => decide
    clear kF kN
    intro tQ2 hQ2 tkQ2 F N
    rw [kn2]
    walk_at "mine steps"
    constructor
    rename Fr _ _ _ _ => kF
    rename News _ _ _ _ => kN
    with_unfolding_all refine' claim_use (puny_c _ _ _ _ _ (Str.ofString "münchen-ost") _) ?q3B kF ?q3X kN ?q3T ?q3K kp3 ?q3D ?q3U ?q3R
    case q3B => k_asm
    case q3X => k_asm
    case q3T => k_asm
    case q3K => rfl
    case q3D => decide
    case q3U => decide
    clear kF kN
    intro tQ3 hQ3 tkQ3 F N
    rw [kn3]
    walk_at "mine steps"
    constructor
    rename Fr _ _ _ _ => kF
    rename News _ _ _ _ => kN
    with_unfolding_all refine' claim_use (puny_c _ _ _ _ _ (Str.ofString "他们为什么不说中文") _) ?q4B kF ?q4X kN ?q4T ?q4K kp4 ?q4D ?q4U ?q4R
    case q4B => k_asm
    case q4X => k_asm
    case q4T => k_asm
    case q4K => rfl
    case q4D => decide
    case q4U => decide
    clear kF kN
    intro tQ4 hQ4 tkQ4 F N
    rw [kn4]
    walk_at "mine steps"
    constructor
    rename Fr _ _ _ _ => kF
    rename News _ _ _ _ => kN
    refine eq_four ⟨_, (kN _ (List.mem_cons_of_mem _ List.mem_cons_self)).1, rfl, _, rfl⟩ ⟨_, (kN _ List.mem_cons_self).1, rfl, _, rfl⟩ ?uL ?hL
    case uL => first | decide | ktr_units
    walk_at "mine steps"
    k_end
    kc_close)
end Mine
end
theorem PySem.Challenge.cw_ez0126_01_holds : PySem.Challenge.rw_ez0126_01.Holds :=
  Mine.law_w
