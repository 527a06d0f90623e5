import PyProof.Rows.All
import Wide.All
import OpenK.AllK
import Wide.FinOn
import KE.KSortAsk
import KE.KEqDat
import KE.KLcTest
import KE.KLcPair
import KE.KTurns
import KE.KTurnsGround
import KE.KRevIter
import KE.KSortTup
import PySem.Challenge.RW_mq0304_01
set_option Elab.async false
section
namespace Mine
section heap
variable {α : Type}

structure Ordd (lt : α → α → Bool) : Prop where
  irr : ∀ a, lt a a = false
  tr : ∀ a b c, lt a b = true → lt b c = true → lt a c = true
  ntr : ∀ a b c, lt a c = true → lt a b = true ∨ lt b c = true

def HeapL (lt : α → α → Bool) (xs : List α) : Prop :=
  ∀ i a b, 0 < i → xs[i]? = some a → xs[(i - 1) / 2]? = some b → lt a b = false

theorem Ordd.asymm {lt : α → α → Bool} (O : Ordd lt) {a b : α} (h : lt a b = true) : lt b a = false := by
  cases hb : lt b a with
  | false => rfl
  | true => have := O.tr _ _ _ h hb; rw [O.irr] at this; cases this
theorem Ordd.ge_trans {lt : α → α → Bool} (O : Ordd lt) {a b c : α} (h1 : lt a b = false) (h2 : lt b c = false) : lt a c = false := by
  cases hc : lt a c with
  | false => rfl
  | true => rcases O.ntr a b c hc with h | h
            · rw [h1] at h; cases h
            · rw [h2] at h; cases h

def sdown (lt : α → α → Bool) (start : Nat) (x : α) (pos : Nat) (xs : List α) : List α :=
  if _h : start < pos then
    match xs[(pos - 1) / 2]? with
    | some p => if lt x p = true then sdown lt start x ((pos - 1) / 2) (xs.set pos p) else xs.set pos x
    | none => xs.set pos x
  else xs.set pos x
termination_by pos
decreasing_by omega

theorem sdown_stop {lt : α → α → Bool} {start : Nat} {x : α} {pos : Nat} {xs : List α} (h : ¬ start < pos) : sdown lt start x pos xs = xs.set pos x := by
  rw [sdown, dif_neg h]
theorem sdown_brk {lt : α → α → Bool} {start : Nat} {x p : α} {pos : Nat} {xs : List α} (h : start < pos) (hp : xs[(pos - 1) / 2]? = some p) (hl : lt x p = false) : sdown lt start x pos xs = xs.set pos x := by
  rw [sdown, dif_pos h, hp]; simp [hl]
theorem sdown_go {lt : α → α → Bool} {start : Nat} {x p : α} {pos : Nat} {xs : List α} (h : start < pos) (hp : xs[(pos - 1) / 2]? = some p) (hl : lt x p = true) :
    sdown lt start x pos xs = sdown lt start x ((pos - 1) / 2) (xs.set pos p) := by
  rw [sdown, dif_pos h, hp]; simp [hl]

structure PreDown (lt : α → α → Bool) (x : α) (pos : Nat) (xs : List α) : Prop where
  a : ∀ i u v, 0 < i → i ≠ pos → (xs.set pos x)[i]? = some u → (xs.set pos x)[(i - 1) / 2]? = some v → lt u v = false
  b : ∀ c u v, 0 < pos → 0 < c → (c - 1) / 2 = pos → xs[c]? = some u → xs[(pos - 1) / 2]? = some v → lt u v = false

theorem sdown_heap {lt : α → α → Bool} (O : Ordd lt) {x : α} : ∀ (pos : Nat) (xs : List α), pos < xs.length → PreDown lt x pos xs → HeapL lt (sdown lt 0 x pos xs) := by
  intro pos
  induction pos using Nat.strongRecOn with
  | ind pos ih =>
    intro xs hlen P
    by_cases h0 : 0 < pos
    · have hq : (pos - 1) / 2 < xs.length := by omega
      have hp : xs[(pos - 1) / 2]? = some xs[(pos - 1) / 2] := List.getElem?_eq_getElem hq
      cases hl : lt x xs[(pos - 1) / 2] with
      | false =>
        rw [sdown_brk h0 hp hl]
        intro i u v hi hu hv
        by_cases hip : i = pos
        · subst hip
          rw [List.getElem?_set_self hlen] at hu
          cases hu
          rw [List.getElem?_set_ne (by omega), hp] at hv
          cases hv
          exact hl
        · exact P.a i u v hi hip hu hv
      | true =>
        rw [sdown_go h0 hp hl]
        generalize hqd : (pos - 1) / 2 = q at *
        have hqp : q < pos := by omega
        refine ih q hqp _ (by rw [List.length_set]; exact hq) ⟨?_, ?_⟩
        · intro i u v hi hiq hu hv
          have hget : ∀ j, ((xs.set pos xs[q]).set q x)[j]? = if j = q then some x else if j = pos then some xs[q] else xs[j]? := by
            intro j
            by_cases h1 : j = q
            · subst h1; rw [List.getElem?_set_self (by rw [List.length_set]; exact hq)]; simp
            · rw [List.getElem?_set_ne (Ne.symm h1)]
              by_cases h2 : j = pos
              · subst h2; rw [List.getElem?_set_self hlen]; simp [h1]
              · rw [List.getElem?_set_ne (Ne.symm h2)]; simp [h1, h2]
          rw [hget] at hu hv
          by_cases hip : i = pos
          · subst hip
            simp only [hiq, if_false, if_true] at hu
            cases hu
            rw [hqd] at hv
            simp only [if_true] at hv
            cases hv
            exact O.asymm hl
          · simp only [hiq, hip, if_false] at hu
            by_cases h3 : (i - 1) / 2 = q
            · simp only [h3, if_true] at hv
              cases hv
              have h4 := P.a i u xs[q] hi hip (by rw [List.getElem?_set_ne (Ne.symm hip)]; exact hu) (by rw [h3, List.getElem?_set_ne (by omega)]; exact hp)
              cases hux : lt u x with
              | false => rfl
              | true => have := O.tr _ _ _ hux hl; rw [h4] at this; cases this
            · by_cases h5 : (i - 1) / 2 = pos
              · have hpq : ¬ pos = q := by omega
                simp only [h5, hpq, if_false, if_true] at hv
                cases hv
                exact P.b i u xs[q] h0 hi h5 hu (by rw [hqd]; exact hp)
              · simp only [h3, h5, if_false] at hv
                exact P.a i u v hi hip (by rw [List.getElem?_set_ne (Ne.symm hip)]; exact hu) (by rw [List.getElem?_set_ne (by omega)]; exact hv)
        · intro c u v hq0 hc hcq hu hv
          have hpp : xs[(q - 1) / 2]? = some v := by rw [List.getElem?_set_ne (by omega)] at hv; exact hv
          have h6 : lt xs[q] v = false := P.a q xs[q] v hq0 (by omega) (by rw [List.getElem?_set_ne (by omega)]; exact hp) (by rw [List.getElem?_set_ne (by omega)]; exact hpp)
          by_cases hcp : c = pos
          · subst hcp
            rw [List.getElem?_set_self hlen] at hu
            cases hu
            exact h6
          · rw [List.getElem?_set_ne (Ne.symm hcp)] at hu
            have h7 := P.a c u xs[q] hc hcp (by rw [List.getElem?_set_ne (Ne.symm hcp)]; exact hu) (by rw [hcq, List.getElem?_set_ne (by omega)]; exact hp)
            exact O.ge_trans h7 h6
    · rw [sdown_stop h0]
      intro i u v hi hu hv
      exact P.a i u v hi (by omega) hu hv

theorem swap_perm {xs : List α} {i j : Nat} (hi : i < xs.length) (hj : j < xs.length) : ((xs.set i xs[j]).set j xs[i]).Perm xs := by
  have h := Array.swap_perm (xs := xs.toArray) (i := i) (j := j) (by simpa using hi) (by simpa using hj)
  have h2 := Array.perm_iff_toList_perm.mp h
  simpa [Array.swap] using h2

theorem sdown_perm {lt : α → α → Bool} {x : α} {start : Nat} : ∀ (pos : Nat) (xs : List α), pos < xs.length → (sdown lt start x pos xs).Perm (xs.set pos x) := by
  intro pos
  induction pos using Nat.strongRecOn with
  | ind pos ih =>
    intro xs hlen
    by_cases h0 : start < pos
    · have hq : (pos - 1) / 2 < xs.length := by omega
      have hp : xs[(pos - 1) / 2]? = some xs[(pos - 1) / 2] := List.getElem?_eq_getElem hq
      cases hl : lt x xs[(pos - 1) / 2] with
      | false => rw [sdown_brk h0 hp hl]
      | true =>
        rw [sdown_go h0 hp hl]
        generalize hqd : (pos - 1) / 2 = q at *
        refine (ih q (by omega) _ (by rw [List.length_set]; exact hq)).trans ?_
        have h1 : pos < (xs.set pos x).length := by rw [List.length_set]; exact hlen
        have h2 : q < (xs.set pos x).length := by rw [List.length_set]; exact hq
        have h3 := swap_perm h1 h2
        have e1 : (xs.set pos x)[q] = xs[q] := by rw [List.getElem_set_ne (by omega)]
        have e2 : (xs.set pos x)[pos] = x := by rw [List.getElem_set_self]
        rw [e1, e2, List.set_set] at h3
        exact h3
    · rw [sdown_stop h0]

theorem sdown_length {lt : α → α → Bool} {x : α} {start pos : Nat} {xs : List α} (h : pos < xs.length) : (sdown lt start x pos xs).length = xs.length := by
  rw [(sdown_perm pos xs h).length_eq, List.length_set]

def chi (lt : α → α → Bool) (xs : List α) (pos : Nat) : Nat :=
  match xs[2 * pos + 1]?, xs[2 * pos + 2]? with
  | some a, some b => if lt a b = true then 2 * pos + 1 else 2 * pos + 2
  | _, _ => 2 * pos + 1

theorem chi_cases {lt : α → α → Bool} {xs : List α} {pos : Nat} (h : 2 * pos + 1 < xs.length) :
    chi lt xs pos < xs.length ∧ (chi lt xs pos = 2 * pos + 1 ∨ chi lt xs pos = 2 * pos + 2) := by
  unfold chi
  by_cases h2 : 2 * pos + 2 < xs.length
  · rw [List.getElem?_eq_getElem h, List.getElem?_eq_getElem h2]
    dsimp only
    split
    · exact ⟨h, .inl rfl⟩
    · exact ⟨h2, .inr rfl⟩
  · rw [List.getElem?_eq_none (Nat.le_of_not_lt h2)]
    split
    · rename_i e; cases e
    · exact ⟨h, .inl rfl⟩

theorem chi_min {lt : α → α → Bool} (O : Ordd lt) {xs : List α} {pos : Nat} {c : Nat} {u v : α} (hc : 0 < c) (hcp : (c - 1) / 2 = pos) (hu : xs[c]? = some u) (hv : xs[chi lt xs pos]? = some v) : lt u v = false := by
  have hcc : c = 2 * pos + 1 ∨ c = 2 * pos + 2 := by omega
  unfold chi at hv
  rcases hcc with rfl | rfl
  · rw [hu] at hv
    cases h2 : xs[2 * pos + 2]? with
    | none => rw [h2] at hv; dsimp only at hv; rw [hu] at hv; cases hv; exact O.irr _
    | some b =>
      rw [h2] at hv
      dsimp only at hv
      cases hl : lt u b with
      | true => rw [hl] at hv; simp only [if_true] at hv; rw [hu] at hv; cases hv; exact O.irr _
      | false => rw [hl] at hv; simp only [Bool.false_eq_true, if_false] at hv; rw [h2] at hv; cases hv; exact hl
  · have hlt : 2 * pos + 2 < xs.length := (List.getElem?_eq_some_iff.mp hu).1
    have h1 : 2 * pos + 1 < xs.length := by omega
    rw [hu, List.getElem?_eq_getElem h1] at hv
    dsimp only at hv
    cases hl : lt xs[2 * pos + 1] u with
    | true => rw [hl] at hv; simp only [if_true] at hv; rw [List.getElem?_eq_getElem h1] at hv; cases hv; exact O.asymm hl
    | false => rw [hl] at hv; simp only [Bool.false_eq_true, if_false] at hv; rw [hu] at hv; cases hv; exact O.irr _

def sup (lt : α → α → Bool) (pos : Nat) (xs : List α) : List α × Nat :=
  if h : 2 * pos + 1 < xs.length then
    sup lt (chi lt xs pos) (xs.set pos (xs[chi lt xs pos]'(chi_cases h).1))
  else (xs, pos)
termination_by xs.length - pos
decreasing_by
  have h1 := (chi_cases (lt := lt) h)
  rw [List.length_set]
  omega

theorem sup_stop {lt : α → α → Bool} {pos : Nat} {xs : List α} (h : ¬ 2 * pos + 1 < xs.length) : sup lt pos xs = (xs, pos) := by
  rw [sup, dif_neg h]
theorem sup_go {lt : α → α → Bool} {pos : Nat} {xs : List α} {v : α} (h : 2 * pos + 1 < xs.length) (hv : xs[chi lt xs pos]? = some v) : sup lt pos xs = sup lt (chi lt xs pos) (xs.set pos v) := by
  rw [sup, dif_pos h]
  obtain ⟨_, e⟩ := List.getElem?_eq_some_iff.mp hv
  rw [e]

structure PreUp (lt : α → α → Bool) (pos : Nat) (xs : List α) : Prop where
  a : ∀ i u v, 0 < i → i ≠ pos → (i - 1) / 2 ≠ pos → xs[i]? = some u → xs[(i - 1) / 2]? = some v → lt u v = false
  b : ∀ c u v, 0 < pos → 0 < c → (c - 1) / 2 = pos → xs[c]? = some u → xs[(pos - 1) / 2]? = some v → lt u v = false

theorem sup_ok {lt : α → α → Bool} (O : Ordd lt) (x : α) : ∀ (n pos : Nat) (xs : List α), xs.length - pos ≤ n → pos < xs.length → PreUp lt pos xs →
    (sup lt pos xs).2 < (sup lt pos xs).1.length ∧ (sup lt pos xs).1.length = xs.length ∧ ((sup lt pos xs).1.set (sup lt pos xs).2 x).Perm (xs.set pos x) ∧ PreDown lt x (sup lt pos xs).2 (sup lt pos xs).1 := by
  intro n
  induction n with
  | zero => intro pos xs h1 h2 _; omega
  | succ n ih =>
    intro pos xs hn hlen P
    by_cases h : 2 * pos + 1 < xs.length
    · obtain ⟨hcl, hcc⟩ := chi_cases (lt := lt) h
      have hv : xs[chi lt xs pos]? = some xs[chi lt xs pos] := List.getElem?_eq_getElem hcl
      have hmin := fun c u (hc : 0 < c) (hcp : (c - 1) / 2 = pos) (hu : xs[c]? = some u) => chi_min O hc hcp hu hv
      rw [sup_go h hv]
      generalize chi lt xs pos = c at *
      have hpc : pos ≠ c := by omega
      have hcpar : (c - 1) / 2 = pos := by omega
      have hlen' : c < (xs.set pos xs[c]).length := by rw [List.length_set]; exact hcl
      have hP : PreUp lt c (xs.set pos xs[c]) := by
        refine ⟨?_, ?_⟩
        · intro i u v hi hic hipc hu hv'
          by_cases hip : i = pos
          · subst hip
            rw [List.getElem?_set_self hlen] at hu
            cases hu
            rw [List.getElem?_set_ne (by omega)] at hv'
            exact P.b c xs[c] v hi (by omega) hcpar hv hv'
          · rw [List.getElem?_set_ne (Ne.symm hip)] at hu
            by_cases h5 : (i - 1) / 2 = pos
            · rw [h5, List.getElem?_set_self hlen] at hv'
              cases hv'
              exact hmin i u hi h5 hu
            · rw [List.getElem?_set_ne (Ne.symm h5)] at hv'
              exact P.a i u v hi hip h5 hu hv'
        · intro d u v hc0 hd hdc hu hv'
          rw [hcpar, List.getElem?_set_self hlen] at hv'
          cases hv'
          rw [List.getElem?_set_ne (by omega)] at hu
          exact P.a d u xs[c] hd (by omega) (by omega) hu (by rw [hdc]; exact hv)
      obtain ⟨r1, r2, r3, r4⟩ := ih c (xs.set pos xs[c]) (by rw [List.length_set]; omega) hlen' hP
      · refine ⟨r1, by rw [r2, List.length_set], r3.trans ?_, r4⟩
        have h1 : pos < (xs.set pos x).length := by rw [List.length_set]; exact hlen
        have h2 : c < (xs.set pos x).length := by rw [List.length_set]; exact hcl
        have h3 := swap_perm h1 h2
        have e1 : (xs.set pos x)[c] = xs[c] := by rw [List.getElem_set_ne hpc]
        have e2 : (xs.set pos x)[pos] = x := by rw [List.getElem_set_self]
        rw [e1, e2, List.set_set] at h3
        exact h3
    · rw [sup_stop h]
      refine ⟨hlen, rfl, List.Perm.refl _, ⟨?_, ?_⟩⟩
      · intro i u v hi hip hu hv
        rw [List.getElem?_set_ne (Ne.symm hip)] at hu
        have hil : i < xs.length := (List.getElem?_eq_some_iff.mp hu).1
        have h5 : (i - 1) / 2 ≠ pos := by omega
        rw [List.getElem?_set_ne (Ne.symm h5)] at hv
        exact P.a i u v hi hip h5 hu hv
      · intro c u v _ hc hcp hu _
        have : c < xs.length := (List.getElem?_eq_some_iff.mp hu).1
        omega

/-- the whole of `_siftup` at place 0, the new item standing there -/
def sift0 (lt : α → α → Bool) (x : α) (xs : List α) : List α := sdown lt 0 x (sup lt 0 xs).2 ((sup lt 0 xs).1.set (sup lt 0 xs).2 x)

theorem sift0_ok {lt : α → α → Bool} (O : Ordd lt) {x : α} {xs : List α} (h0 : 0 < xs.length) (P : PreUp lt 0 xs) : HeapL lt (sift0 lt x xs) ∧ (sift0 lt x xs).Perm (xs.set 0 x) := by
  obtain ⟨r1, r2, r3, r4⟩ := sup_ok O x _ 0 xs (Nat.le_refl _) h0 P
  unfold sift0
  have hl : (sup lt 0 xs).2 < ((sup lt 0 xs).1.set (sup lt 0 xs).2 x).length := by rw [List.length_set]; exact r1
  refine ⟨sdown_heap O _ _ hl ?_, (sdown_perm _ _ hl).trans (by rw [List.set_set]; exact r3)⟩
  refine ⟨fun i u v hi hip hu hv => ?_, fun c u v hp hc hcp hu hv => ?_⟩
  · rw [List.set_set] at hu hv
    exact r4.a i u v hi hip hu hv
  · rw [List.getElem?_set_ne (by omega)] at hu hv
    exact r4.b c u v hp hc hcp hu hv

theorem PreUp.ofTail {lt : α → α → Bool} {x : α} {xs : List α} (H : HeapL lt xs) : PreUp lt 0 (xs.set 0 x) :=
  ⟨fun i u v hi hi0 hp0 hu hv => by
    rw [List.getElem?_set_ne (Ne.symm hi0)] at hu
    rw [List.getElem?_set_ne (Ne.symm hp0)] at hv
    exact H i u v hi hu hv, fun _ _ _ h => absurd h (Nat.lt_irrefl _)⟩

theorem HeapL.dropLast {lt : α → α → Bool} {xs : List α} {x : α} (H : HeapL lt (xs ++ [x])) : HeapL lt xs := by
  intro i a b hi ha hb
  have h1 := (List.getElem?_eq_some_iff.mp ha).1
  exact H i a b hi (by rw [List.getElem?_append_left h1]; exact ha) (by rw [List.getElem?_append_left (by omega)]; exact hb)

theorem HeapL.push {lt : α → α → Bool} (O : Ordd lt) {xs : List α} {x : α} (H : HeapL lt xs) : HeapL lt (sdown lt 0 x xs.length (xs ++ [x])) ∧ (sdown lt 0 x xs.length (xs ++ [x])).Perm (xs ++ [x]) := by
  have hl : xs.length < (xs ++ [x]).length := by simp
  have e : (xs ++ [x]).set xs.length x = xs ++ [x] := by
    rw [List.set_append_right _ _ (Nat.le_refl _)]; simp
  refine ⟨sdown_heap O _ _ hl ⟨fun i u v hi hip hu hv => ?_, fun c u v hp hc hcp hu hv => ?_⟩, ?_⟩
  · rw [e] at hu hv
    have hil := (List.getElem?_eq_some_iff.mp hu).1
    simp at hil
    have hil' : i < xs.length := by omega
    rw [List.getElem?_append_left hil'] at hu
    rw [List.getElem?_append_left (by omega)] at hv
    exact H i u v hi hu hv
  · have := (List.getElem?_eq_some_iff.mp hu).1
    simp at this
    omega
  · have := sdown_perm (lt := lt) (x := x) (start := 0) xs.length (xs ++ [x]) hl
    rw [e] at this
    exact this

theorem HeapL.min {lt : α → α → Bool} (O : Ordd lt) {xs : List α} {x : α} (H : HeapL lt xs) (h0 : xs[0]? = some x) : ∀ y ∈ xs, lt y x = false := by
  have key : ∀ (n i : Nat) (y : α), i ≤ n → xs[i]? = some y → lt y x = false := by
    intro n
    induction n with
    | zero => intro i y hi hy; have : i = 0 := by omega
              subst this; rw [h0] at hy; cases hy; exact O.irr _
    | succ n ih =>
      intro i y hi hy
      by_cases hi0 : i = 0
      · subst hi0; rw [h0] at hy; cases hy; exact O.irr _
      · have hil := (List.getElem?_eq_some_iff.mp hy).1
        have hp : (i - 1) / 2 < xs.length := by omega
        have h1 := H i y xs[(i - 1) / 2] (by omega) hy (List.getElem?_eq_getElem hp)
        exact O.ge_trans h1 (ih _ _ (by omega) (List.getElem?_eq_getElem hp))
  intro y hy
  obtain ⟨i, hi, rfl⟩ := List.mem_iff_getElem.mp hy
  exact key i i _ (Nat.le_refl _) (List.getElem?_eq_getElem hi)
end heap
end Mine
end

section
namespace Mine
open PySem

structure Tot {α : Type} (lt : α → α → Bool) : Prop extends Ordd lt where
  tot : ∀ a b, lt a b = false → lt b a = false → a = b

def ilt (a b : Int) : Bool := decide (a < b)
def slt (a b : Str) : Bool := decide (a.cps.toList < b.cps.toList)
def lex2 {α β : Type} [DecidableEq α] (l1 : α → α → Bool) (l2 : β → β → Bool) (x y : α × β) : Bool := if x.1 = y.1 then l2 x.2 y.2 else l1 x.1 y.1

theorem tot_ilt : Tot ilt where
  irr a := by simp [ilt]
  tr a b c h1 h2 := by simp only [ilt, decide_eq_true_eq] at *; omega
  ntr a b c h := by simp only [ilt, decide_eq_true_eq] at *; omega
  tot a b h1 h2 := by simp only [ilt, decide_eq_false_iff_not] at *; omega
theorem str_ext {a b : Str} (h : a.cps.toList = b.cps.toList) : a = b := by
  obtain ⟨⟨a⟩⟩ := a; obtain ⟨⟨b⟩⟩ := b; simp at h; subst h; rfl
theorem tot_slt : Tot slt where
  irr a := by simp only [slt, decide_eq_false_iff_not]; exact List.lt_irrefl _
  tr a b c h1 h2 := by simp only [slt, decide_eq_true_eq] at *; exact List.lt_trans h1 h2
  ntr a b c h := by
    simp only [slt, decide_eq_true_eq] at *
    by_cases h1 : a.cps.toList < b.cps.toList
    · exact .inl h1
    · exact .inr (List.lt_of_le_of_lt (List.not_lt.mp h1) h)
  tot a b h1 h2 := by
    simp only [slt, decide_eq_false_iff_not] at *
    exact str_ext (List.le_antisymm (List.not_lt.mp h2) (List.not_lt.mp h1))
theorem Tot.lex2 {α β : Type} [DecidableEq α] {l1 : α → α → Bool} {l2 : β → β → Bool} (A : Tot l1) (B : Tot l2) : Tot (lex2 l1 l2) where
  irr a := by simp [Mine.lex2, B.irr]
  tr a b c h1 h2 := by
    simp only [Mine.lex2] at *
    by_cases e1 : a.1 = b.1
    · rw [if_pos e1] at h1
      by_cases e2 : b.1 = c.1
      · rw [if_pos e2] at h2
        rw [if_pos (e1.trans e2)]
        exact B.tr _ _ _ h1 h2
      · rw [if_neg e2] at h2
        rw [if_neg (fun h => e2 (e1.symm.trans h)), e1]
        exact h2
    · rw [if_neg e1] at h1
      by_cases e2 : b.1 = c.1
      · rw [if_neg (fun h => e1 (h.trans e2.symm)), ← e2]
        exact h1
      · rw [if_neg e2] at h2
        have h3 := A.tr _ _ _ h1 h2
        by_cases e3 : a.1 = c.1
        · rw [e3, A.irr] at h3; cases h3
        · rw [if_neg e3]; exact h3
  ntr a b c h := by
    simp only [Mine.lex2] at *
    by_cases e1 : a.1 = b.1
    · rw [if_pos e1]
      by_cases e2 : b.1 = c.1
      · rw [if_pos e2]
        rw [if_pos (e1.trans e2)] at h
        exact B.ntr _ _ _ h
      · rw [if_neg e2]
        rw [if_neg (fun h => e2 (e1.symm.trans h)), e1] at h
        exact .inr h
    · rw [if_neg e1]
      by_cases e2 : b.1 = c.1
      · rw [if_neg (fun h => e1 (h.trans e2.symm)), ← e2] at h
        exact .inl h
      · rw [if_neg e2]
        by_cases e3 : a.1 = c.1
        · cases h4 : l1 a.1 b.1 with
          | true => exact .inl rfl
          | false =>
            cases h5 : l1 b.1 c.1 with
            | true => exact .inr rfl
            | false => rw [e3] at h4; exact absurd (A.tot _ _ h5 h4) e2
        · rw [if_neg e3] at h
          exact A.ntr _ _ _ h
  tot a b h1 h2 := by
    simp only [Mine.lex2] at *
    by_cases e1 : a.1 = b.1
    · rw [if_pos e1] at h1
      rw [if_pos e1.symm] at h2
      exact Prod.ext e1 (B.tot _ _ h1 h2)
    · rw [if_neg e1] at h1
      rw [if_neg (Ne.symm e1)] at h2
      exact absurd (A.tot _ _ h1 h2) e1

abbrev Way := Int × Str
abbrev Ent := Int × Str × Int
def wlt : Way → Way → Bool := lex2 ilt slt
def elt : Ent → Ent → Bool := lex2 ilt (lex2 slt ilt)
theorem tot_wlt : Tot wlt := tot_ilt.lex2 tot_slt
theorem tot_elt : Tot elt := tot_ilt.lex2 (tot_slt.lex2 tot_ilt)

def wle (a b : Way) : Prop := wlt b a = false
theorem wle_refl (a : Way) : wle a a := tot_wlt.irr a
theorem wle_trans {a b c : Way} (h1 : wle a b) (h2 : wle b c) : wle a c := tot_wlt.ge_trans h2 h1
theorem wle_antisymm {a b : Way} (h1 : wle a b) (h2 : wle b a) : a = b := tot_wlt.tot _ _ h2 h1

def Ent.way (e : Ent) : Way := (e.1, e.2.1)
theorem way_le_of {x y : Ent} (h : elt y x = false) : wle x.way y.way := by
  obtain ⟨p, t, d⟩ := x
  obtain ⟨p', t', d'⟩ := y
  show (if p' = p then slt t' t else ilt p' p) = false
  have h : (if p' = p then (if t' = t then ilt d' d else slt t' t) else ilt p' p) = false := h
  by_cases e1 : p' = p
  · rw [if_pos e1] at h ⊢
    by_cases e2 : t' = t
    · rw [e2]; exact tot_slt.irr _
    · rw [if_neg e2] at h; exact h
  · rw [if_neg e1] at h ⊢; exact h

theorem wle_grow (p c : Int) (t s : Str) (hc : 0 ≤ c) : wle (p, t) (p + c, t ++ s) := by
  simp only [wle, wlt, lex2]
  by_cases e : p + c = p
  · rw [if_pos e]
    simp only [slt, decide_eq_false_iff_not]
    have : (t ++ s).cps.toList = t.cps.toList ++ s.cps.toList := by
      show (t.cps ++ s.cps).toList = _
      simp
    rw [this]
    exact List.not_lt.mpr List.le_append_left
  · rw [if_neg e]
    simp only [ilt, decide_eq_false_iff_not]
    omega

theorem sorted_unique {l₁ l₂ : List Way} (h1 : l₁.Pairwise wle) (h2 : l₂.Pairwise wle) (h : l₁.Perm l₂) : l₁ = l₂ :=
  List.Perm.eq_of_pairwise (fun _ _ _ _ x y => wle_antisymm x y) h1 h2 h

theorem str_append_assoc (a b c : Str) : a ++ b ++ c = a ++ (b ++ c) := by
  apply str_ext
  show ((a.cps ++ b.cps) ++ c.cps).toList = (a.cps ++ (b.cps ++ c.cps)).toList
  simp
theorem str_append_empty (a : Str) : a ++ (⟨#[]⟩ : Str) = a := by
  apply str_ext
  show (a.cps ++ #[]).toList = a.cps.toList
  simp

/-- a sign that is sold: what it means, the sign, what it costs -/
structure Sold where
  plain : Str
  sign : Str
  cost : Int

section law
variable (word : List Nat) (shop : List Sold)
def meets (e : Sold) (d : Nat) : Bool := decide ((word.drop d).take e.plain.cps.toList.length = e.plain.cps.toList)

def rowOf (rows : List (List Way)) (k : Nat) : List Way :=
  (shop.filter fun e => meets word e (word.length - k)).flatMap fun e => (rows.getD (k - e.plain.cps.toList.length) []).map fun q => (e.cost + q.1, e.sign ++ q.2)
def rowsTo : Nat → List (List Way)
  | 0 => [[(0, ⟨#[]⟩)]]
  | k + 1 => rowsTo k ++ [rowOf word shop (rowsTo k) (k + 1)]
def ways (k : Nat) : List Way := (rowsTo word shop k).getD k []
theorem rowsTo_length (k : Nat) : (rowsTo word shop k).length = k + 1 := by
  induction k with
  | zero => rfl
  | succ k ih => simp [rowsTo, ih]
theorem rowsTo_get {k m : Nat} (h : k ≤ m) : (rowsTo word shop m).getD k [] = ways word shop k := by
  induction m with
  | zero => have : k = 0 := by omega
            subst this; rfl
  | succ m ih =>
    by_cases e : k = m + 1
    · subst e; rfl
    · have hk : k < (rowsTo word shop m).length := by rw [rowsTo_length]; omega
      have e2 := ih (by omega)
      rw [rowsTo, List.getD_eq_getElem?_getD, List.getElem?_append_left hk, ← List.getD_eq_getElem?_getD]
      exact e2
theorem ways_zero : ways word shop 0 = [(0, ⟨#[]⟩)] := rfl
theorem ways_succ (k : Nat) : ways word shop (k + 1) = rowOf word shop (rowsTo word shop k) (k + 1) := by
  unfold ways
  rw [rowsTo, List.getD_eq_getElem?_getD, List.getElem?_append_right (by rw [rowsTo_length]; omega), rowsTo_length]
  simp

/-- every fold of the shop is some letter at least -/
def Nonempty (shop : List Sold) : Prop := ∀ e ∈ shop, 0 < e.plain.cps.toList.length

theorem meets_len {e : Sold} {d : Nat} (h : meets word e d = true) : e.plain.cps.toList.length ≤ word.length - d := by
  simp only [meets, decide_eq_true_eq] at h
  have := congrArg List.length h
  rw [List.length_take, List.length_drop] at this
  omega

theorem ways_rec {d : Nat} (hne : Nonempty shop) (hd : d < word.length) :
    ways word shop (word.length - d) = (shop.filter fun e => meets word e d).flatMap fun e => (ways word shop (word.length - (d + e.plain.cps.toList.length))).map fun q => (e.cost + q.1, e.sign ++ q.2) := by
  obtain ⟨k, hk⟩ : ∃ k, word.length - d = k + 1 := ⟨word.length - d - 1, by omega⟩
  rw [hk, ways_succ]
  unfold rowOf
  have e1 : word.length - (k + 1) = d := by omega
  rw [e1]
  have hc : ∀ e ∈ shop.filter (fun e => meets word e d), (rowsTo word shop k).getD (k + 1 - e.plain.cps.toList.length) [] = ways word shop (word.length - (d + e.plain.cps.toList.length)) := by
    intro e he
    obtain ⟨he1, he2⟩ := List.mem_filter.mp he
    have h1 := meets_len word he2
    have h2 := hne e he1
    rw [rowsTo_get word shop (by omega)]
    congr 1
    omega
  generalize shop.filter (fun e => meets word e d) = l at hc
  clear hk hne
  induction l with
  | nil => rfl
  | cons e l ih =>
    rw [List.flatMap_cons, List.flatMap_cons, hc e (.head _), ih fun x hx => hc x (.tail _ hx)]

def ext (e : Ent) : List Way := (ways word shop (word.length - e.2.2.toNat)).map fun q => (e.1 + q.1, e.2.1 ++ q.2)
def further (e : Ent) : List Ent := (shop.filter fun x => meets word x e.2.2.toNat).map fun x => (e.1 + x.cost, e.2.1 ++ x.sign, e.2.2 + (x.plain.cps.toList.length : Int))

theorem ext_done {e : Ent} (h : e.2.2 = (word.length : Int)) : ext word shop e = [e.way] := by
  unfold ext
  rw [h]
  simp only [Int.toNat_natCast, Nat.sub_self]
  rw [ways_zero]
  simp only [List.map_cons, List.map_nil, Int.add_zero, str_append_empty]
  rfl

theorem ext_further {e : Ent} (hne : Nonempty shop) (h0 : 0 ≤ e.2.2) (h1 : e.2.2 < (word.length : Int)) : ext word shop e = (further word shop e).flatMap (ext word shop) := by
  obtain ⟨p, t, d⟩ := e
  simp only at h0 h1
  obtain ⟨n, rfl⟩ : ∃ n : Nat, d = (n : Int) := ⟨d.toNat, by omega⟩
  unfold ext further
  simp only [Int.toNat_natCast]
  rw [ways_rec word shop hne (by omega)]
  generalize shop.filter (fun e => meets word e n) = l
  induction l with
  | nil => rfl
  | cons e l ih =>
    simp only [List.flatMap_cons, List.map_append, List.map_cons]
    rw [ih]
    congr 1
    have : ((n : Int) + (e.plain.cps.toList.length : Int)).toNat = n + e.plain.cps.toList.length := by omega
    rw [this, List.map_map]
    apply List.map_congr_left
    intro q _
    simp only [Function.comp, Int.add_assoc, str_append_assoc]

/-- how many entries may still come of one that stands with k letters to go -/
def wt : Nat → Nat
  | k => 1 + (((shop.filter fun e => meets word e (word.length - k)).map fun e =>
      if _h : 0 < e.plain.cps.toList.length ∧ e.plain.cps.toList.length ≤ k then wt (k - e.plain.cps.toList.length) else 0).sum)
termination_by k => k
decreasing_by omega

def ewt (e : Ent) : Nat := wt word shop (word.length - e.2.2.toNat)
theorem wt_pos (k : Nat) : 0 < wt word shop k := by rw [wt]; omega

theorem ewt_further {e : Ent} (hne : Nonempty shop) (h0 : 0 ≤ e.2.2) (h1 : e.2.2 ≤ (word.length : Int)) : ewt word shop e = 1 + ((further word shop e).map (ewt word shop)).sum := by
  obtain ⟨p, t, d⟩ := e
  simp only at h0 h1
  obtain ⟨n, rfl⟩ : ∃ n : Nat, d = (n : Int) := ⟨d.toNat, by omega⟩
  unfold ewt further
  simp only [Int.toNat_natCast]
  rw [wt]
  have e1 : word.length - (word.length - n) = n := by omega
  rw [e1]
  congr 1
  congr 1
  rw [List.map_map]
  have key : ∀ l : List Sold, (∀ e ∈ l, 0 < e.plain.cps.toList.length ∧ e.plain.cps.toList.length ≤ word.length - n) →
      (l.map fun e => if _h : 0 < e.plain.cps.toList.length ∧ e.plain.cps.toList.length ≤ word.length - n then wt word shop (word.length - n - e.plain.cps.toList.length) else 0) =
      l.map ((fun x : Ent => wt word shop (word.length - x.2.2.toNat)) ∘ fun x => (p + x.cost, t ++ x.sign, (n : Int) + (x.plain.cps.toList.length : Int))) := by
    intro l hl
    apply List.map_congr_left
    intro e he
    rw [dif_pos (hl e he)]
    simp only [Function.comp]
    congr 1
    have : ((n : Int) + (e.plain.cps.toList.length : Int)).toNat = n + e.plain.cps.toList.length := by omega
    rw [this]
    omega
  exact key _ fun e he => by
    obtain ⟨he1, he2⟩ := List.mem_filter.mp he
    exact ⟨hne e he1, meets_len word he2⟩
end law
end Mine
end

section
namespace Mine
open PySem

structure ShopOk (shop : List Sold) : Prop where
  ne : Nonempty shop
  cost : ∀ e ∈ shop, 0 ≤ e.cost
  sign : ∀ e ∈ shop, e.sign.cps.size = 1 ∧ e.sign.cps.all (· < 0x110000) = true

structure EntOk (n : Nat) (e : Ent) : Prop where
  d0 : 0 ≤ e.2.2
  d1 : e.2.2 ≤ (n : Int)
  t : (e.2.1.cps.size : Int) ≤ e.2.2
  ok : e.2.1.cps.all (· < 0x110000) = true

section
variable (word : List Nat) (shop : List Sold)
def root : Ent := (0, ⟨#[]⟩, 0)
structure Inv (ts : List Ent) (told : List Way) : Prop where
  heap : HeapL elt ts
  perm : (told ++ ts.flatMap (ext word shop)).Perm (ways word shop word.length)
  sorted : told.Pairwise wle
  le : ∀ x ∈ told, ∀ e ∈ ts, wle x e.way
  ents : ∀ e ∈ ts, EntOk word.length e
  wt : (ts.map (ewt word shop)).sum ≤ wt word shop word.length
  txts : ∀ x ∈ told, x.2.cps.all (· < 0x110000) = true

theorem root_ok (n : Nat) : EntOk n root := ⟨Int.le_refl _, by show (0 : Int) ≤ n; omega, Int.le_refl _, by simp [root]⟩
theorem ext_root : ext word shop root = ways word shop word.length := by
  unfold ext root
  simp only [Int.toNat_zero, Nat.sub_zero]
  conv => rhs; rw [← List.map_id (ways word shop word.length)]
  apply List.map_congr_left
  intro q _
  obtain ⟨p, t⟩ := q
  simp only [Int.zero_add, id]
  congr 1
  apply str_ext
  show ((#[] : Array Nat) ++ t.cps).toList = _
  simp
theorem inv_start : Inv word shop [root] [] where
  heap i a b hi ha hb := by
    cases i with
    | zero => omega
    | succ i => simp at ha
  perm := by simp [ext_root]
  sorted := .nil
  le := fun _ h => nomatch h
  ents := fun e he => by
    have : e = root := by simpa using he
    subst this; exact root_ok _
  wt := by simp [ewt, root]
  txts := fun _ h => nomatch h

theorem ents_further {e : Ent} (S : ShopOk shop) (O : EntOk word.length e) : ∀ x ∈ further word shop e, EntOk word.length x ∧ wle e.way x.way := by
  intro x hx
  obtain ⟨p, t, d⟩ := e
  unfold further at hx
  obtain ⟨y, hy, rfl⟩ := List.mem_map.mp hx
  obtain ⟨hy1, hy2⟩ := List.mem_filter.mp hy
  have h1 := meets_len word hy2
  have h2 := S.ne y hy1
  have h3 := S.sign y hy1
  have o1 := O.d0
  have o2 := O.d1
  have o3 := O.t
  simp only at o1 o2 o3 h1
  refine ⟨⟨?_, ?_, ?_, ?_⟩, wle_grow _ _ _ _ (S.cost y hy1)⟩
  · show 0 ≤ d + (y.plain.cps.toList.length : Int); omega
  · show d + (y.plain.cps.toList.length : Int) ≤ (word.length : Int); omega
  · show ((t.cps ++ y.sign.cps).size : Int) ≤ d + (y.plain.cps.toList.length : Int)
    rw [Array.size_append, h3.1]; omega
  · show (t.cps ++ y.sign.cps).all (· < 0x110000) = true
    rw [Array.all_append]; exact Bool.and_eq_true_iff.mpr ⟨O.ok, h3.2⟩

theorem inv_further {ts ts' rest : List Ent} {told : List Way} {e : Ent} (S : ShopOk shop) (I : Inv word shop ts told) (h1 : ts.Perm (e :: rest)) (h2 : ts'.Perm (further word shop e ++ rest)) (hh : HeapL elt ts') (hd : e.2.2 ≠ (word.length : Int)) :
    Inv word shop ts' told ∧ (ts'.map (ewt word shop)).sum + 1 = (ts.map (ewt word shop)).sum := by
  have he : e ∈ ts := h1.mem_iff.mpr (.head _)
  have O := I.ents e he
  have hlt : e.2.2 < (word.length : Int) := by have := O.d1; omega
  have ex := ext_further word shop S.ne O.d0 hlt
  have ew := ewt_further word shop S.ne O.d0 O.d1
  have hsum : (ts'.map (ewt word shop)).sum + 1 = (ts.map (ewt word shop)).sum := by
    rw [(h2.map _).sum_nat, (h1.map _).sum_nat]
    simp only [List.map_append, List.sum_append, List.map_cons, List.sum_cons]
    omega
  have mem : ∀ x ∈ ts', x ∈ further word shop e ∨ x ∈ ts := fun x hx => by
    rcases List.mem_append.mp (h2.mem_iff.mp hx) with h | h
    · exact .inl h
    · exact .inr (h1.mem_iff.mpr (.tail _ h))
  refine ⟨⟨hh, ?_, I.sorted, ?_, ?_, ?_, I.txts⟩, hsum⟩
  · refine List.Perm.trans (List.Perm.append_left _ ?_) I.perm
    refine (h2.flatMap_right _).trans (List.Perm.trans ?_ (h1.flatMap_right _).symm)
    rw [List.flatMap_append, List.flatMap_cons, ex]
  · intro x hx y hy
    rcases mem y hy with h | h
    · exact wle_trans (I.le x hx e he) (ents_further word shop S O y h).2
    · exact I.le x hx y h
  · intro x hx
    rcases mem x hx with h | h
    · exact (ents_further word shop S O x h).1
    · exact I.ents x h
  · have := I.wt; omega

theorem inv_done {ts ts' : List Ent} {told : List Way} {e : Ent} (S : ShopOk shop) (I : Inv word shop ts told) (h1 : ts.Perm (e :: ts')) (hmin : ∀ y ∈ ts, elt y e = false) (hh : HeapL elt ts') (hd : e.2.2 = (word.length : Int)) :
    Inv word shop ts' (told ++ [e.way]) ∧ (ts'.map (ewt word shop)).sum + 1 = (ts.map (ewt word shop)).sum := by
  have he : e ∈ ts := h1.mem_iff.mpr (.head _)
  have O := I.ents e he
  have ew := ewt_further word shop S.ne O.d0 O.d1
  have hf : further word shop e = [] := by
    unfold further
    have : shop.filter (fun x => meets word x e.2.2.toNat) = [] := by
      rw [List.filter_eq_nil_iff]
      intro x hx hm
      have h2 := meets_len word hm
      have h3 := S.ne x hx
      rw [hd, Int.toNat_natCast, Nat.sub_self] at h2
      omega
    rw [this]; rfl
  rw [hf] at ew
  have hsum : (ts'.map (ewt word shop)).sum + 1 = (ts.map (ewt word shop)).sum := by
    rw [(h1.map _).sum_nat]
    simp only [List.map_cons, List.sum_cons, List.map_nil, List.sum_nil] at ew ⊢
    omega
  refine ⟨⟨hh, ?_, ?_, ?_, fun x hx => I.ents x (h1.mem_iff.mpr (.tail _ hx)), by have := I.wt; omega, ?_⟩, hsum⟩
  · refine List.Perm.trans ?_ I.perm
    rw [List.append_assoc]
    refine List.Perm.append_left _ (List.Perm.trans ?_ (h1.flatMap_right _).symm)
    rw [List.flatMap_cons, ext_done word shop hd]
  · rw [List.pairwise_append]
    refine ⟨I.sorted, List.pairwise_singleton _ _, fun a ha b hb => ?_⟩
    have : b = e.way := by simpa using hb
    subst this
    exact I.le a ha e he
  · intro x hx y hy
    have hy' : y ∈ ts := h1.mem_iff.mpr (.tail _ hy)
    rcases List.mem_append.mp hx with h | h
    · exact I.le x h y hy'
    · have : x = e.way := by simpa using h
      subst this
      exact way_le_of (hmin y hy')
  · intro x hx
    rcases List.mem_append.mp hx with h | h
    · exact I.txts x h
    · have : x = e.way := by simpa using h
      subst this
      exact O.ok

theorem inv_end {told out : List Way} (I : Inv word shop [] told) (h1 : out.Perm (ways word shop word.length)) (h2 : out.Pairwise wle) : told = out := by
  have := I.perm
  simp at this
  exact sorted_unique I.sorted h2 (this.trans h1.symm)

theorem inv_length {ts : List Ent} {told : List Way} (I : Inv word shop ts told) : ts.length ≤ wt word shop word.length ∧ told.length ≤ (ways word shop word.length).length := by
  refine ⟨Nat.le_trans ?_ I.wt, ?_⟩
  · have : ∀ l : List Ent, l.length ≤ (l.map (ewt word shop)).sum := by
      intro l
      induction l with
      | nil => exact Nat.le_refl _
      | cons x l ih => simp only [List.length_cons, List.map_cons, List.sum_cons]; have := wt_pos word shop (word.length - x.2.2.toNat); unfold ewt at *; omega
    exact this ts
  · have := I.perm.length_eq
    rw [List.length_append] at this
    omega
end
end Mine
end

section
namespace Mine
open PySem PySem.W PyProof.Rows

section
variable {n : Nat} {key : Nat → Way} {cmp : Nat → Nat → (Bool → Shared → Prop) → Shared → Prop} {J : Shared → Prop}

def KW {α : Type} (cmp : Nat → Nat → (Bool → Shared → Prop) → Shared → Prop) (J : Shared → Prop) (t : KasT α) (Q : α → Prop) : Prop :=
  ∀ (Q' : α → Shared → Prop) (s : Shared), J s → (∀ a s', Q a → J s' → Q' a s') → t.kasWp cmp Q' s
theorem KW.ret {α : Type} {a : α} {Q : α → Prop} (h : Q a) : KW cmp J (.ret a) Q := fun _ s hJ k => k a s h hJ
theorem KW.bind {α β : Type} {t : KasT α} {f : α → KasT β} {Q : α → Prop} {R : β → Prop} (h : KW cmp J t Q) (k : ∀ a, Q a → KW cmp J (f a) R) : KW cmp J (t.bind f) R := fun Q' s hJ k' => by
  rw [KasT.kasWp_bind]
  exact h _ s hJ fun a s' ha hJ' => k a ha Q' s' hJ' k'
def Asks (n : Nat) (key : Nat → Way) (cmp : Nat → Nat → (Bool → Shared → Prop) → Shared → Prop) (J : Shared → Prop) : Prop :=
  ∀ i j (C : Bool → Shared → Prop) s, i < n → j < n → J s → (∀ s', J s' → C (wlt (key i) (key j)) s') → cmp i j C s
theorem KW.ask {α : Type} {i j : Nat} {k : Bool → KasT α} {Q : α → Prop} (hA : Asks n key cmp J) (hi : i < n) (hj : j < n) (h : KW cmp J (k (wlt (key i) (key j))) Q) : KW cmp J (.ask i j k) Q :=
  fun Q' s hJ k' => hA i j _ s hi hj hJ fun s' hJ' => h Q' s' hJ' k'

def kk (key : Nat → Way) (p : Array Nat) (i : Nat) : Way := key (p.getD i 0)
structure PB (n : Nat) (p : Array Nat) : Prop where
  perm : p.Perm (List.toArray (List.range n))
theorem PB.size {p : Array Nat} (h : PB n p) : p.size = n := by rw [h.perm.size_eq]; simp
theorem PB.lt {p : Array Nat} (h : PB n p) {i : Nat} (hi : i < n) : p.getD i 0 < n := by
  have hs := h.size
  have h1 : p.getD i 0 = p[i]'(by omega) := by simp [Array.getD, show i < p.size by omega]
  rw [h1]
  have h2 : p[i]'(by omega) ∈ p.toList := by simp
  have h3 := (Array.perm_iff_toList_perm.mp h.perm).mem_iff.mp h2
  simpa using h3
theorem PB.bubble {p : Array Nat} (h : PB n p) (a b : Nat) : PB n (bubble p a b) := ⟨(bubble_perm _ _ _).trans h.perm⟩
theorem PB.rev {p : Array Nat} (h : PB n p) (a b : Nat) : PB n (kas_rev p a b) := ⟨(mirror_perm _ _ _ _).trans h.perm⟩
theorem kk_congr {xs ys : Array Nat} {i j : Nat} (h : xs[i]? = ys[j]?) : kk key xs i = kk key ys j := by
  unfold kk; rw [Array.getD_eq_getD_getElem?, Array.getD_eq_getD_getElem?, h]
theorem kk_bubble {xs : Array Nat} {src d : Nat} (hs : src < xs.size) (hd : d ≤ src) (k : Nat) :
    kk key (bubble xs src d) k = if k = src - d then kk key xs src else if src - d < k ∧ k ≤ src then kk key xs (k - 1) else kk key xs k := by
  have e := getElem?_bubble hs d hd k
  by_cases h1 : k = src - d
  · rw [if_pos h1] at e ⊢; exact kk_congr e
  · rw [if_neg h1] at e ⊢
    by_cases h2 : src - d < k ∧ k ≤ src
    · rw [if_pos h2] at e ⊢; exact kk_congr e
    · rw [if_neg h2] at e ⊢; exact kk_congr e
theorem kk_rev {xs : Array Nat} {i j : Nat} (hj : j ≤ xs.size) (k : Nat) :
    kk key (kas_rev xs i j) k = if i ≤ k ∧ k < j then kk key xs (i + j - 1 - k) else kk key xs k := by
  have e := getElem?_mirror_all (i := i) hj k
  unfold kas_rev
  by_cases h1 : i ≤ k ∧ k < j
  · rw [if_pos h1] at e ⊢; exact kk_congr e
  · rw [if_neg h1] at e ⊢; exact kk_congr e
theorem kk_rev_equal {xs : Array Nat} {i j : Nat} (hj : j ≤ xs.size) (heq : ∀ k, i ≤ k → k < j → kk key xs k = kk key xs (j - 1)) (k : Nat) : kk key (kas_rev xs i j) k = kk key xs k := by
  rw [kk_rev hj]
  split
  · rw [heq _ (by omega) (by omega), heq k (by omega) (by omega)]
  · rfl
def Srt (key : Nat → Way) (p : Array Nat) (k : Nat) : Prop := ∀ i j, i ≤ j → j < k → wle (kk key p i) (kk key p j)
def Dec (key : Nat → Way) (p : Array Nat) (k : Nat) : Prop := ∀ i j, i ≤ j → j < k → wle (kk key p j) (kk key p i)
theorem wle_of_lt {a b : Way} (h : wlt a b = true) : wle a b := tot_wlt.asymm h
theorem lt_of_lt_of_wle {a b c : Way} (h1 : wlt a b = true) (h2 : wle b c) : wlt a c = true := by
  rcases tot_wlt.ntr a c b h1 with h | h
  · exact h
  · unfold wle at h2; rw [h2] at h; cases h

theorem asc_ok (hA : Asks n key cmp J) {p : Array Nat} (P : PB n p) : ∀ (f a : Nat), 1 ≤ a → a + f ≤ n → Srt key p a →
    KW cmp J (kas_asc p f a) fun m => a ≤ m ∧ m ≤ a + f ∧ Srt key p m ∧ (m = a + f ∨ wlt (kk key p m) (kk key p (m - 1)) = true) := by
  intro f
  induction f with
  | zero => intro a h1 h2 hs; exact KW.ret ⟨Nat.le_refl _, Nat.le_refl _, hs, .inl rfl⟩
  | succ f ih =>
    intro a h1 h2 hs
    unfold kas_asc
    refine KW.ask hA (P.lt (by omega)) (P.lt (by omega)) ?_
    show KW cmp J (if wlt (kk key p a) (kk key p (a - 1)) = true then _ else _) _
    cases hl : wlt (kk key p a) (kk key p (a - 1)) with
    | true => rw [if_pos rfl]; exact KW.ret ⟨Nat.le_refl _, by omega, hs, .inr hl⟩
    | false =>
      rw [if_neg (by simp)]
      refine fun Q' s hJ k => ih (a + 1) (by omega) (by omega) ?_ Q' s hJ fun m s' hm hJ' => k m s' ⟨by omega, by omega, hm.2.2.1, ?_⟩ hJ'
      · intro i j hij hj
        by_cases hjx : j < a
        · exact hs i j hij hjx
        · have hj' : j = a := by omega
          subst hj'
          by_cases hi' : i = j
          · subst hi'; exact wle_refl _
          · exact wle_trans (hs i (j - 1) (by omega) (by omega)) hl
      · rcases hm.2.2.2 with h | h
        · exact .inl (by omega)
        · exact .inr h

def CountOk (n : Nat) (key : Nat → Way) (r : Nat × Array Nat) : Prop := PB n r.2 ∧ 1 ≤ r.1 ∧ r.1 ≤ n ∧ Srt key r.2 r.1

theorem tail3_ok (hA : Asks n key cmp J) {p : Array Nat} (P : PB n p) {a : Nat} (h1 : 1 ≤ a) (h2 : a ≤ n) (hs : Dec key p a) : KW cmp J (kas_tail3 a n p) (CountOk n key) := by
  unfold kas_tail3
  have hsz := P.size
  refine KW.bind (asc_ok hA (P.rev 0 a) (n - a) a h1 (by omega) ?_) fun m hm => KW.ret ⟨P.rev 0 a, by omega, by omega, hm.2.2.1⟩
  intro i j hij hj
  rw [kk_rev (by omega), kk_rev (by omega), if_pos (by omega), if_pos (by omega)]
  exact hs _ _ (by omega) (by omega)

def DescOk (n : Nat) (key : Nat → Way) (a : Nat) (r : Array Nat × Nat × Nat) : Prop :=
  PB n r.1 ∧ a ≤ r.2.1 ∧ r.2.1 ≤ n ∧ Dec key r.1 r.2.1 ∧ r.2.2 + 1 ≤ r.2.1 ∧ ∀ i, r.2.1 - (r.2.2 + 1) ≤ i → i < r.2.1 → kk key r.1 i = kk key r.1 (r.2.1 - 1)

theorem desc_ok (hA : Asks n key cmp J) : ∀ (f : Nat) (p : Array Nat) (x q : Nat), PB n p → 1 ≤ x → x + f = n → Dec key p x → q + 1 ≤ x → (∀ i, x - (q + 1) ≤ i → i < x → kk key p i = kk key p (x - 1)) →
    KW cmp J (kas_desc f p x q) (DescOk n key x) := by
  intro f
  induction f with
  | zero => intro p x q P h1 h2 hs hq he; exact KW.ret ⟨P, Nat.le_refl _, by simp; omega, hs, hq, he⟩
  | succ f ih =>
    intro p x q P h1 h2 hs hq he
    have hsz := P.size
    have up : ∀ {p' : Array Nat} {q' : Nat}, KW cmp J (kas_desc f p' (x + 1) q') (DescOk n key (x + 1)) → KW cmp J (kas_desc f p' (x + 1) q') (DescOk n key x) :=
      fun h Q' s hJ k => h Q' s hJ fun r s' hr hJ' => k r s' ⟨hr.1, by have := hr.2.1; omega, hr.2.2⟩ hJ'
    unfold kas_desc
    refine KW.ask hA (P.lt (by omega)) (P.lt (by omega)) ?_
    show KW cmp J (if wlt (kk key p x) (kk key p (x - 1)) = true then _ else _) _
    cases hl : wlt (kk key p x) (kk key p (x - 1)) with
    | true =>
      rw [if_pos rfl]
      have step1 : ∀ xs : Array Nat, (∀ k, kk key xs k = kk key p k) → Dec key xs (x + 1) := by
        intro xs hk i j hij hj
        rw [hk, hk]
        by_cases hjx : j < x
        · exact hs i j hij hjx
        · have hj' : j = x := by omega
          subst hj'
          by_cases hi' : i = j
          · subst hi'; exact wle_refl _
          · exact wle_trans (wle_of_lt hl) (hs i (j - 1) (by omega) (by omega))
      by_cases hneq : q > 0
      · rw [if_pos hneq]
        exact up (ih _ (x + 1) 0 (P.rev _ _) (by omega) (by omega) (step1 _ (kk_rev_equal (by omega) he)) (by omega) fun i h1 h2 => by congr 1; omega)
      · rw [if_neg hneq]
        exact up (ih _ (x + 1) 0 P (by omega) (by omega) (step1 _ fun _ => rfl) (by omega) fun i h1 h2 => by congr 1; omega)
    | false =>
      rw [if_neg (by simp)]
      refine KW.ask hA (P.lt (by omega)) (P.lt (by omega)) ?_
      show KW cmp J (if wlt (kk key p (x - 1)) (kk key p x) = true then _ else _) _
      cases hl2 : wlt (kk key p (x - 1)) (kk key p x) with
      | true => rw [if_pos rfl]; exact KW.ret ⟨P, Nat.le_refl _, by simp; omega, hs, hq, he⟩
      | false =>
        rw [if_neg (by simp)]
        have heqx : kk key p x = kk key p (x - 1) := wle_antisymm hl2 hl
        refine up (ih _ (x + 1) (q + 1) P (by omega) (by omega) (fun i j hij hj => ?_) (by omega) fun i h1 h2 => ?_)
        · by_cases hjx : j < x
          · exact hs i j hij hjx
          · have hj' : j = x := by omega
            subst hj'
            by_cases hi' : i = j
            · subst hi'; exact wle_refl _
            · rw [heqx]; exact hs i (j - 1) (by omega) (by omega)
        · rw [show x + 1 - 1 = x by omega]
          by_cases hix : i = x
          · subst hix; rfl
          · rw [heqx]; exact he i (by omega) (by omega)

theorem descPart_ok (hA : Asks n key cmp J) {p : Array Nat} (P : PB n p) {a : Nat} (h2 : a + 1 ≤ n) (hs : Dec key p (a + 1)) : KW cmp J (kas_descPart a n p) (CountOk n key) := by
  unfold kas_descPart
  refine KW.bind (desc_ok hA _ p (a + 1) 0 P (by omega) (by omega) hs (by omega) fun i h1 h2 => by congr 1; omega) fun r hr => ?_
  obtain ⟨P', g1, g2, hs', hq, he⟩ := hr
  have hsz := P'.size
  by_cases hneq : r.2.2 > 0
  · rw [if_pos hneq]
    refine tail3_ok hA (P'.rev _ _) (by omega) g2 fun i j hij hj => ?_
    rw [kk_rev_equal (by omega) he, kk_rev_equal (by omega) he]
    exact hs' i j hij hj
  · rw [if_neg hneq]
    exact tail3_ok hA P' (by omega) g2 hs'

theorem count_ok (hA : Asks n key cmp J) {p : Array Nat} (P : PB n p) (h1 : 1 ≤ n) : KW cmp J (kas_count n p) (CountOk n key) := by
  unfold kas_count
  have hsz := P.size
  refine KW.bind (asc_ok hA P (n - 1) 1 (Nat.le_refl _) (by omega) fun i j hij hj => by have : i = j := (by omega); subst this; exact wle_refl _) fun a ha => ?_
  obtain ⟨a1, a2, hsn, hor⟩ := ha
  by_cases hnn : a = n
  · rw [if_pos (by simpa using hnn)]
    exact KW.ret ⟨P, a1, by simp; omega, hsn⟩
  · rw [if_neg (by simpa using hnn)]
    have hlt : wlt (kk key p a) (kk key p (a - 1)) = true := hor.resolve_left (by omega)
    by_cases hgt : a > 1
    · rw [if_pos hgt]
      refine KW.ask hA (P.lt (by omega)) (P.lt (by omega)) ?_
      show KW cmp J (if wlt (kk key p 0) (kk key p (a - 1)) = true then _ else _) _
      cases hrose : wlt (kk key p 0) (kk key p (a - 1)) with
      | true => rw [if_pos rfl]; exact KW.ret ⟨P, a1, by simp; omega, hsn⟩
      | false =>
        rw [if_neg (by simp)]
        have hall : ∀ k, 0 ≤ k → k < a → kk key p k = kk key p (a - 1) := by
          intro k _ hk
          have b1 := hsn 0 k (by omega) hk
          have b2 := hsn k (a - 1) (by omega) (by omega)
          exact wle_antisymm b2 (wle_trans hrose b1)
        refine descPart_ok hA (P.rev _ _) (by omega) fun i j hij hj => ?_
        rw [kk_rev_equal (by omega) hall, kk_rev_equal (by omega) hall]
        by_cases hjn : j < a
        · rw [hall i (by omega) (by omega), hall j (by omega) hjn]; exact wle_refl _
        · have hj' : j = a := by omega
          subst hj'
          by_cases hi' : i = j
          · subst hi'; exact wle_refl _
          · rw [hall i (by omega) (by omega)]; exact wle_of_lt hlt
    · rw [if_neg hgt]
      have hn1' : a = 1 := by omega
      subst hn1'
      refine descPart_ok hA P (by omega) fun i j hij hj => ?_
      by_cases hi' : i = j
      · subst hi'; exact wle_refl _
      · have hi0 : i = 0 := by omega
        have hj1 : j = 1 := by omega
        subst hi0; subst hj1
        exact wle_of_lt hlt

theorem place_ok (hA : Asks n key cmp J) {p : Array Nat} (P : PB n p) {k : Nat} (hk : k < n) (hs : Srt key p k) : ∀ (f l r : Nat), l ≤ r → r ≤ k → r - l ≤ f →
    (∀ i, i < l → wle (kk key p i) (kk key p k)) → (∀ i, r ≤ i → i < k → wlt (kk key p k) (kk key p i) = true) →
    KW cmp J (kas_place p k f l r) fun l' => l' ≤ k ∧ (∀ i, i < l' → wle (kk key p i) (kk key p k)) ∧ ∀ i, l' ≤ i → i < k → wlt (kk key p k) (kk key p i) = true := by
  intro f
  induction f with
  | zero =>
    intro l r h1 h2 h3 hlo hhi
    have : l = r := by omega
    subst this
    exact KW.ret ⟨h2, hlo, hhi⟩
  | succ f ih =>
    intro l r h1 h2 h3 hlo hhi
    unfold kas_place
    by_cases hge : l ≥ r
    · rw [if_pos hge]
      have : l = r := by omega
      subst this
      exact KW.ret ⟨h2, hlo, hhi⟩
    · rw [if_neg hge]
      refine KW.ask hA (P.lt hk) (P.lt (by omega)) ?_
      show KW cmp J (if wlt (kk key p k) (kk key p ((l + r) / 2)) = true then _ else _) _
      cases hl : wlt (kk key p k) (kk key p ((l + r) / 2)) with
      | true =>
        rw [if_pos rfl]
        exact ih l ((l + r) / 2) (by omega) (by omega) (by omega) hlo fun i g1 g2 => lt_of_lt_of_wle hl (hs _ _ g1 g2)
      | false =>
        rw [if_neg (by simp)]
        exact ih ((l + r) / 2 + 1) r (by omega) h2 (by omega) (fun i g1 => wle_trans (hs i ((l + r) / 2) (by omega) (by omega)) hl) hhi

theorem bin_ok (hA : Asks n key cmp J) : ∀ (f : Nat) (p : Array Nat) (k : Nat), PB n p → k + f = n → Srt key p k → KW cmp J (kas_bin f p k) fun p' => PB n p' ∧ Srt key p' n := by
  intro f
  induction f with
  | zero => intro p k P h hs; have : k = n := (by omega); subst this; exact KW.ret ⟨P, hs⟩
  | succ f ih =>
    intro p k P h hs
    unfold kas_bin
    have hsz := P.size
    refine KW.bind (place_ok hA P (by omega) hs k 0 k (by omega) (Nat.le_refl _) (by omega) (fun i hi => by omega) fun i g1 g2 => by omega) fun l hl => ?_
    obtain ⟨hlk, hlo, hhi⟩ := hl
    refine ih _ (k + 1) (P.bubble _ _) (by omega) fun i j hij hj => ?_
    rw [kk_bubble (by omega) (by omega), kk_bubble (by omega) (by omega), show k - (k - l) = l by omega]
    repeat' split
    all_goals first
      | (exfalso; omega)
      | exact wle_refl _
      | exact hlo _ (by omega)
      | exact wle_of_lt (hhi _ (by omega) (by omega))
      | exact hs _ _ (by omega) (by omega)

theorem sort_ok (hA : Asks n key cmp J) (h1 : 1 ≤ n) : KW cmp J (kas_sort n) fun p => PB n p ∧ Srt key p n := by
  unfold kas_sort
  refine KW.bind (count_ok hA ⟨Array.Perm.refl _⟩ h1) fun r hr => ?_
  obtain ⟨P, r1, r2, hs⟩ := hr
  by_cases hlt : r.1 < n
  · rw [if_pos hlt]
    have e : max r.1 1 = r.1 := by omega
    rw [e]
    exact bin_ok hA _ _ _ P (by omega) hs
  · rw [if_neg hlt]
    have e : r.1 = n := by omega
    rw [e] at hs
    exact KW.ret ⟨P, hs⟩

theorem sorted_list {ws : List Way} {p : Array Nat} (P : PB ws.length p) (hs : Srt (fun i => ws.getD i (0, ⟨#[]⟩)) p ws.length) :
    (p.toList.map fun i => ws.getD i (0, ⟨#[]⟩)).Perm ws ∧ (p.toList.map fun i => ws.getD i (0, ⟨#[]⟩)).Pairwise wle := by
  constructor
  · have h := Array.perm_iff_toList_perm.mp P.perm
    refine (h.map _).trans (List.Perm.of_eq ?_)
    apply List.ext_getElem
    · simp
    · intro i h1 h2
      simp [List.getElem?_eq_getElem h2]
  · rw [List.pairwise_iff_getElem]
    intro i j hi hj hij
    simp only [List.getElem_map, Array.getElem_toList]
    have hsz := P.size
    simp at hi hj
    have := hs i j (by omega) (by omega)
    unfold kk at this
    have e1 : p.getD i 0 = p[i] := by simp [Array.getD, hi]
    have e2 : p.getD j 0 = p[j] := by simp [Array.getD, hj]
    rw [e1, e2] at this
    exact this
end
end Mine
end

section
namespace Mine
open PySem
/-- of each end of the word: how many ways (c = 0), how many entries (c = 1) -/
def cntL (Ps : List (List Nat)) (c : Nat) : List Nat → List Nat
  | [] => [1]
  | a :: r => let t := cntL Ps c r; (c + (Ps.map fun P => if P.isPrefixOf (a :: r) then t.getD (P.length - 1) 0 else 0).sum) :: t
def cnt0 (Ps : List (List Nat)) (c : Nat) (w : List Nat) : Nat := (cntL Ps c w).headD 0
section
variable {Ps : List (List Nat)} {c : Nat}
theorem cntL_getD : ∀ (w : List Nat) (j : Nat), j ≤ w.length → (cntL Ps c w).getD j 0 = cnt0 Ps c (w.drop j)
  | [], 0, _ => rfl
  | [], j + 1, h => absurd h (Nat.not_succ_le_zero _)
  | a :: r, 0, _ => rfl
  | a :: r, j + 1, h => by
    rw [List.drop_succ_cons]
    exact cntL_getD r j (by simpa using h)
theorem cntL_mem : ∀ (w : List Nat) (d : Nat), d ≤ w.length → cnt0 Ps c (w.drop d) ∈ cntL Ps c w
  | [], 0, _ => .head _
  | [], j + 1, h => absurd h (Nat.not_succ_le_zero _)
  | a :: r, 0, _ => .head _
  | a :: r, j + 1, h => by
    rw [List.drop_succ_cons]
    exact .tail _ (cntL_mem r j (by simpa using h))
theorem sum_sub (g : List Nat → Nat) {l l' : List (List Nat)} (h : l.Sublist l') : (l.map g).sum ≤ (l'.map g).sum := by
  induction h with
  | slnil => exact Nat.le_refl _
  | cons a _ ih => rw [List.map_cons, List.sum_cons]; omega
  | cons_cons a _ ih => rw [List.map_cons, List.map_cons, List.sum_cons, List.sum_cons]; omega
theorem sum_filter {α : Type} (p : α → Bool) (g : α → Nat) : ∀ l : List α, ((l.filter p).map g).sum = (l.map fun e => if p e = true then g e else 0).sum
  | [] => rfl
  | e :: l => by
    rw [List.map_cons, List.sum_cons, ← sum_filter p g l]
    by_cases h : p e = true
    · rw [List.filter_cons_of_pos h, if_pos h, List.map_cons, List.sum_cons]
    · rw [List.filter_cons_of_neg h, if_neg h, Nat.zero_add]
theorem sum_le {α : Type} (f g : α → Nat) : ∀ l : List α, (∀ e ∈ l, f e ≤ g e) → (l.map f).sum ≤ (l.map g).sum
  | [], _ => Nat.le_refl _
  | e :: l, h => by
    rw [List.map_cons, List.map_cons, List.sum_cons, List.sum_cons]
    have := sum_le f g l fun x hx => h x (.tail _ hx)
    have := h e (.head _)
    omega
theorem cnt0_step (w : List Nat) (d : Nat) (hd : d < w.length) : cnt0 Ps c (w.drop d) = c + (Ps.map fun P => if P.isPrefixOf (w.drop d) then (cntL Ps c (w.drop (d + 1))).getD (P.length - 1) 0 else 0).sum := by
  rw [List.drop_eq_getElem_cons hd]
  rfl
variable (word : List Nat) (S : List Sold)
theorem meets_prefix (e : Sold) (d : Nat) : meets word e d = e.plain.cps.toList.isPrefixOf (word.drop d) := by
  unfold meets
  rw [Bool.eq_iff_iff, decide_eq_true_eq, List.isPrefixOf_iff_prefix, List.prefix_iff_eq_take]
  exact eq_comm
theorem count_core (hne : Nonempty S) (hs : (S.map fun e => e.plain.cps.toList).Sublist Ps) (f : Nat → Nat) (h0 : f word.length ≤ 1)
    (h : ∀ d, d < word.length → f d ≤ c + ((S.filter fun e => meets word e d).map fun e => f (d + e.plain.cps.toList.length)).sum) :
    ∀ k d, d + k = word.length → f d ≤ cnt0 Ps c (word.drop d) := by
  intro k
  induction k using Nat.strongRecOn with
  | ind k ih =>
    intro d hd
    cases k with
    | zero =>
      have e : d = word.length := by omega
      rw [e, List.drop_length]
      exact h0
    | succ k =>
      rw [cnt0_step word d (by omega)]
      refine Nat.le_trans (h d (by omega)) (Nat.add_le_add_left ?_ _)
      refine Nat.le_trans ?_ (sum_sub _ hs)
      rw [List.map_map, sum_filter]
      refine sum_le _ _ _ fun e he => ?_
      simp only [Function.comp]
      rw [← meets_prefix word e d]
      by_cases hm : meets word e d = true
      · rw [if_pos hm, if_pos hm]
        have hl := meets_len word hm
        have hp := hne e he
        have := ih (k + 1 - e.plain.cps.toList.length) (by omega) (d + e.plain.cps.toList.length) (by omega)
        rw [cntL_getD _ _ (by rw [List.length_drop]; omega), List.drop_drop]
        have e2 : d + 1 + (e.plain.cps.toList.length - 1) = d + e.plain.cps.toList.length := by omega
        rw [e2]
        exact this
      · rw [if_neg hm, if_neg hm]
        exact Nat.le_refl _
theorem ways_cnt (hne : Nonempty S) (hs : (S.map fun e => e.plain.cps.toList).Sublist Ps) {k : Nat} (hk : k ≤ word.length) : (ways word S k).length ≤ cnt0 Ps 0 (word.drop (word.length - k)) := by
  have := count_core (Ps := Ps) (c := 0) word S hne hs (fun d => (ways word S (word.length - d)).length) (by simp [ways_zero]) (fun d hd => by
    rw [ways_rec word S hne hd, List.length_flatMap, Nat.zero_add]
    simp) k (word.length - k) (by omega)
  have e : word.length - (word.length - k) = k := by omega
  simpa only [e] using this
theorem wt_cnt (hne : Nonempty S) (hs : (S.map fun e => e.plain.cps.toList).Sublist Ps) : wt word S word.length ≤ cnt0 Ps 1 word := by
  have := count_core (Ps := Ps) (c := 1) word S hne hs (fun d => wt word S (word.length - d)) (by
      rw [Nat.sub_self, wt]
      have : ∀ l : List Sold, (l.map fun e => if _h : 0 < e.plain.cps.toList.length ∧ e.plain.cps.toList.length ≤ 0 then wt word S (0 - e.plain.cps.toList.length) else 0).sum = 0 := fun l => by
        induction l with
        | nil => rfl
        | cons e l ih => rw [List.map_cons, List.sum_cons, ih, dif_neg (by omega)]
      rw [this]
      exact Nat.le_refl _) (fun d hd => by
    rw [wt]
    have e1 : word.length - (word.length - d) = d := by omega
    rw [e1]
    refine Nat.add_le_add_left (sum_le _ _ _ fun e he => ?_) _
    obtain ⟨he1, he2⟩ := List.mem_filter.mp he
    rw [dif_pos ⟨hne e he1, meets_len word he2⟩, Nat.sub_sub]
    exact Nat.le_refl _) word.length 0 (by omega)
  simpa only [List.drop_zero, Nat.sub_zero] using this
end
end Mine
end

section
namespace Mine
def plL : List (List Nat) := [[97], [104], [107], [109], [112], [104, 112, 97], [112, 97], [109, 97], [107, 97], [112, 97], [107, 112, 97], [109, 112, 97], [104, 112], [107, 107], [107, 109], [112, 104]]
/- the counts once more, in a form that the kernel reckons quickly -/
noncomputable def pfx (p : List Nat) : List Nat → Bool := List.rec (motive := fun _ => List Nat → Bool) (fun _ => true) (fun a _ ih w => List.rec (motive := fun _ => Bool) false (fun b r _ => Bool.rec false (ih r) (Nat.beq a b)) w) p
noncomputable def getq (l : List Nat) : Nat → Nat := List.rec (motive := fun _ => Nat → Nat) (fun _ => 0) (fun a _ ih j => Nat.rec (motive := fun _ => Nat) a (fun j _ => ih j) j) l
noncomputable def lenq (p : List Nat) : Nat := List.rec (motive := fun _ => Nat) 0 (fun _ _ n => Nat.succ n) p
noncomputable def len1 (p : List Nat) : Nat := List.rec (motive := fun _ => Nat) 0 (fun _ r _ => lenq r) p
noncomputable def sumq (w t : List Nat) (Ps : List (List Nat)) : Nat := List.rec (motive := fun _ => Nat) 0 (fun P _ n => Nat.add (Bool.rec 0 (getq t (len1 P)) (pfx P w)) n) Ps
noncomputable def cntq (c : Nat) (w : List Nat) : List Nat := List.rec (motive := fun _ => List Nat) [1] (fun a r t => List.cons (Nat.add c (sumq (List.cons a r) t plL)) t) w
noncomputable def allq (l : List Nat) : Bool := List.rec (motive := fun _ => Bool) true (fun a _ b => Bool.rec false b (Nat.ble a 63)) l
noncomputable def headq (l : List Nat) : Nat := List.rec (motive := fun _ => Nat) 0 (fun a _ _ => a) l
noncomputable def fineq (w : List Nat) : Bool := Bool.rec false (Nat.ble (headq (cntq 1 w)) 2000) (allq (cntq 0 w))
noncomputable def appq (x y : List Nat) : List Nat := List.rec (motive := fun _ => List Nat) y (fun a _ r => List.cons a r) x
noncomputable def all3 (f : List Nat → Bool) (Ps : List (List Nat)) : Bool := List.rec (motive := fun _ => Bool) true (fun P _ b => Bool.rec false b (f P)) Ps
def letters : List (List Nat) := [[97], [104], [107], [109], [112]]
theorem all_fine : all3 (fun P => all3 (fun R => all3 (fun S => fineq (appq P (appq R S))) plL) letters) plL = true := by decide +kernel
theorem pfx_eq : ∀ p w : List Nat, pfx p w = p.isPrefixOf w
  | [], w => by cases w <;> rfl
  | a :: p, [] => rfl
  | a :: p, b :: r => by
    show (Bool.rec false (pfx p r) (Nat.beq a b) : Bool) = (a == b && p.isPrefixOf r)
    rw [pfx_eq p r]
    cases h : Nat.beq a b with
    | false =>
      have h2 : a ≠ b := fun e => by subst e; rw [Nat.beq_refl] at h; cases h
      rw [beq_eq_false_iff_ne.mpr h2, Bool.false_and]
    | true =>
      obtain rfl := Nat.eq_of_beq_eq_true h
      rw [beq_self_eq_true, Bool.true_and]
theorem getq_eq : ∀ (l : List Nat) (j : Nat), getq l j = l.getD j 0
  | [], _ => rfl
  | a :: l, 0 => rfl
  | a :: l, j + 1 => getq_eq l j
theorem lenq_eq : ∀ p : List Nat, lenq p = p.length
  | [] => rfl
  | a :: p => congrArg (· + 1) (lenq_eq p)
theorem len1_eq (p : List Nat) : len1 p = p.length - 1 := by
  cases p with
  | nil => rfl
  | cons a p => exact lenq_eq p
theorem sumq_eq (w t : List Nat) : ∀ Ps : List (List Nat), sumq w t Ps = (Ps.map fun P => if P.isPrefixOf w then t.getD (P.length - 1) 0 else 0).sum
  | [] => rfl
  | P :: Ps => by
    show (Bool.rec 0 (getq t (len1 P)) (pfx P w) : Nat) + sumq w t Ps = _
    rw [sumq_eq w t Ps, List.map_cons, List.sum_cons, pfx_eq, getq_eq, len1_eq]
    cases P.isPrefixOf w <;> rfl
theorem cntq_eq (c : Nat) : ∀ w : List Nat, cntq c w = cntL plL c w
  | [] => rfl
  | a :: r => by
    show (c + sumq (a :: r) (cntq c r) plL) :: cntq c r = _
    rw [cntq_eq c r, sumq_eq]
    rfl
theorem appq_eq : ∀ x y : List Nat, appq x y = x ++ y
  | [], _ => rfl
  | a :: x, y => congrArg (a :: ·) (appq_eq x y)
theorem allq_get : ∀ l : List Nat, allq l = true → ∀ n ∈ l, n ≤ 63
  | [], _, _, h => nomatch h
  | a :: l, h, n, hn => by
    have h : (Bool.rec false (allq l) (Nat.ble a 63) : Bool) = true := h
    cases hb : Nat.ble a 63 with
    | false => rw [hb] at h; cases h
    | true =>
      rw [hb] at h
      rcases List.mem_cons.mp hn with rfl | hn
      · exact Nat.le_of_ble_eq_true hb
      · exact allq_get l h n hn
theorem headq_eq (l : List Nat) : headq l = l.headD 0 := by cases l <;> rfl
theorem fineq_get {w : List Nat} (h : fineq w = true) : (∀ n ∈ cntL plL 0 w, n ≤ 63) ∧ cnt0 plL 1 w ≤ 2000 := by
  unfold fineq at h
  rw [cntq_eq, cntq_eq, headq_eq] at h
  cases hb : allq (cntL plL 0 w) with
  | false => rw [hb] at h; cases h
  | true =>
    rw [hb] at h
    exact ⟨allq_get _ hb, Nat.le_of_ble_eq_true h⟩
theorem all3_get (f : List Nat → Bool) : ∀ Ps : List (List Nat), all3 f Ps = true → ∀ P ∈ Ps, f P = true
  | [], _, _, h => nomatch h
  | P :: Ps, h, R, hR => by
    have h : (Bool.rec false (all3 f Ps) (f P) : Bool) = true := h
    cases hb : f P with
    | false => rw [hb] at h; cases h
    | true =>
      rw [hb] at h
      rcases List.mem_cons.mp hR with rfl | hR
      · exact hb
      · exact all3_get f Ps h R hR
theorem word_fine {P R S : List Nat} (hP : P ∈ plL) (hR : R ∈ letters) (hS : S ∈ plL) : (∀ n ∈ cntL plL 0 (P ++ (R ++ S)), n ≤ 63) ∧ cnt0 plL 1 (P ++ (R ++ S)) ≤ 2000 := by
  have h : fineq (appq P (appq R S)) = true := all3_get _ _ (all3_get _ _ (all3_get _ _ all_fine P hP) R hR) S hS
  rw [appq_eq, appq_eq] at h
  exact fineq_get h
end Mine
end

section
open PySem PySem.W PyProof.Rows
set_option maxRecDepth 100000
set_option maxHeartbeats 0
namespace Mine
noncomputable section
abbrev pp : Program := PySem.Challenge.pw_mq0304_01
abbrev zp : Pos := ⟨0, 0, 0, 0⟩
def annv : Option Value := some (.ref 6)
def S0 (w : World) (os : OsState) : Shared := ⟨boot_heap w.params, Array.mk [], boot_drawn, boot_toks, os⟩
def bdy : List Stmt := behindTheImports pp
def envT : Env := { scope := pp.main.scope, locals := mainNs, globals := mainNs, cells := [], code := .ref 13, frame := some 14 }
def cT : Code := .body bdy envT
def BT0 : List Frame := [topFrame zp]
def preOut (w : World) (os : OsState) : Option (Shared × Thread) := topGo treeTable pp w 11 annv 12 (S0 w os) (topStub pp)
def Sa (w : World) (os : OsState) : Shared := match preOut w os with | some x => x.1 | none => S0 w os

theorem pre_ok (w : World) (os : OsState) : preOut w os = some (Sa w os, ⟨denote treeTable cT, cT, zp, BT0⟩) := by kernel_rfl

def st0 : List Stmt := bdy.take 1
def seg0 (w : World) (os : OsState) := segRun treeTable pp w 11 annv 1 10 (Sa w os) (piecesOf st0 envT cT zp BT0)
def S1 (w : World) (os : OsState) : Shared := match seg0 w os with | some x => x.2.1 | none => S0 w os
abbrev pos1 : Pos := ⟨1, 0, 1, 8⟩
theorem seg0_ok (w : World) (os : OsState) : seg0 w os = some (.next, S1 w os, cT, pos1) := by kernel_rfl
theorem S1_facts (w : World) (os : OsState) : ((S1 w os).heap.objs.size, (S1 w os).toks, (S1 w os).gens, (S1 w os).os) = (15, 189, #[], os) := by kernel_rfl
end
end Mine
end

section
open PySem PySem.W PyProof.Rows
set_option maxRecDepth 100000
set_option maxHeartbeats 0
namespace Mine
noncomputable section
def vw : Program := { pp with main := { pp.main with body := [2, 4, 5, 6, 7, 8, 10, 11, 12, 13, 14, 15].filterMap (fun i : Nat => pp.main.body[i]?) } }
def lse : List Str := [Str.ofString "b3_exceptions"]
def dictObj (es : Array DictEntry) (n : Nat) : Obj := ⟨.type "dict", none, .dict es n, #[]⟩
def mkHeap (hb : Heap) (main : Obj) (subs : List Obj) : Heap := ⟨⟨hb.objs.toList ++ (main :: subs)⟩, hb.life⟩
def rest2 : List Stmt := bdy.drop 2
def tgt : List PySem.Expr := match (bdy[1]? : Option Stmt) with | some (Stmt.Assign ts _ _) => ts | _ => []
def dct : PySem.Expr := match (bdy[1]? : Option Stmt) with | some (Stmt.Assign _ v _) => v | _ => PySem.Expr.Constant .none 0 zp
def K2 (v : Value) : Sem Fin := ((do assignStores envT v (← swappedStores tgt dct envT) ((assignEach tgt envT).map Prod.snd)) >>= fun f => match f with | .next => execs rest2 envT | f => pure f).wrap doneF (leaveH envT) id id
def S2 (w : World) (os : OsState) (es : Array DictEntry) (f : Nat → Obj) : Shared := ⟨mkHeap (S1 w os).heap (dictObj es 650) ((List.range 38).map f), #[], boot_drawn, 2139, os⟩
def pos2 : Pos := match dct with | PySem.Expr.Dict _ _ p => p | _ => zp
def nms : List Str := ["b3_exceptions", "map_table_b3", "heappush", "heappop", "heapreplace", "_siftdown", "_siftup", "_law_sign", "_law_meant", "_law_shop", "_law_ways", "_law_told", "law", "len", "int", "chr", "ord", "enumerate", "range", "reversed", "sorted"]
def obs (s : Shared) : List (Option Value) × Option Obj × Bool := (nms.map (fun x => s.heap.nsMap mainGlobals x), s.heap.get? 15, s.heap.isNs mainGlobals)
def where_ : List (Option Value) := [some (.ref 15), some (.ref 60), some (.ref 67), some (.ref 74), some (.ref 81), some (.ref 88), some (.ref 95), some (.ref 102), some (.ref 109), some (.ref 116), some (.ref 121), some (.ref 126), some (.ref 131), none, none, none, none, none, none, none, none]
def fin2 (w : World) (os : OsState) (es : Array DictEntry) (f : Nat → Obj) : Option Shared := topRun treeTable pp w 11 annv 1000 (S2 w os es f) ⟨K2 (.ref 15), cT, pos2, BT0⟩
theorem t1 (w : World) (os : OsState) (es : Array DictEntry) (f : Nat → Obj) : (fin2 w os es f).map (fun s => (s.heap.objs.size, s.toks)) = some (132, 2250) := by kernel_rfl
end
end Mine
end

section
open PySem PySem.W PyProof.Rows
set_option maxRecDepth 100000
set_option maxHeartbeats 0
namespace Mine
noncomputable section
abbrev mods : List Str := importedModules pp.main.body
def Xt : Shared → Bool := fun s => xlAt vw [] s && recOk (RowW.records PySem.Challenge.rw_mq0304_01.row.toRowW) s
def look1 (w : World) (s : Shared) : Bool := staticsOk mods (boot_heap w.params) s.heap && namesBound pp s.heap && gensDone s && laidKept (boot_heap w.params) s.heap
theorem l123 (w : World) (os : OsState) (es : Array DictEntry) (f : Nat → Obj) : (fin2 w os es f).map (fun r => (look1 w r, openSeen vw lse mods Xt true r, obs r)) = some (true, openGood vw lse, (where_, some (dictObj es 650), true)) := by kernel_rfl
theorem map_fst {α β γ : Type} {x : Option α} {g : α → β} {h : α → γ} {b : β} {c : γ} (e : x.map (fun r => (g r, h r)) = some (b, c)) : x.map g = some b ∧ x.map h = some c := by
  cases x with
  | none => cases e
  | some r => cases e; exact ⟨rfl, rfl⟩
theorem l1 (w : World) (os : OsState) (es : Array DictEntry) (f : Nat → Obj) : (fin2 w os es f).map (look1 w) = some true := (map_fst (l123 w os es f)).1
theorem l3 (w : World) (os : OsState) (es : Array DictEntry) (f : Nat → Obj) : (fin2 w os es f).map obs = some (where_, some (dictObj es 650), true) := (map_fst (map_fst (l123 w os es f)).2).2
theorem l2 (w : World) (os : OsState) (es : Array DictEntry) (f : Nat → Obj) : (fin2 w os es f).map (openSeen vw lse mods Xt true) = some (openGood vw lse) := (map_fst (map_fst (l123 w os es f)).2).1
end
end Mine
end

section
open PySem PySem.W PyProof.Rows
set_option maxRecDepth 100000
set_option maxHeartbeats 0
namespace Mine
theorem topGo_add {tb : String → Option Builtin} {p : Program} {w : World} {n₀ : Nat} {ann : Option Value} : ∀ {n m : Nat} {s s' : Shared} {t t' : Thread}, topGo tb p w n₀ ann n s t = some (s', t') →
    topGo tb p w n₀ ann (n + m) s t = topGo tb p w n₀ ann m s' t'
  | 0, m, s, s', t, t', h => by
    obtain ⟨rfl, rfl⟩ : s = s' ∧ t = t' := by simpa [topGo] using h
    rw [Nat.zero_add]
  | n + 1, m, s, s', t, t', h => by
    rw [show n + 1 + m = n + m + 1 by omega]
    unfold topGo at h
    conv => lhs; unfold topGo
    cases ht : through t with
    | true => rw [ht] at h; cases h
    | false =>
      rw [ht] at h
      cases hk : stepOk n₀ ann t with
      | false => rw [hk] at h; cases h
      | true =>
        rw [hk] at h
        cases hs : step (denote tb) p w s t with
        | halt o s₂ => rw [hs] at h; cases h
        | go s₂ t₂ => rw [hs] at h; exact topGo_add h

def Ev {α : Type} (w : World) (n : Nat) (t : Sem α) (pos : Pos) (s : Shared) (a : α) (pos' : Pos) (s' : Shared) : Prop :=
  ∀ (K : α → Sem Fin) (H : Value → Sem Fin) (gd : Bool → Bool) (lv : List Value → List Value), topGo treeTable pp w 11 annv n s ⟨t.wrap K H gd lv, cT, pos, BT0⟩ = some (s', ⟨K a, cT, pos', BT0⟩)

section
variable {α β : Type} {w : World} {pos pos' pos'' : Pos} {s s' s'' : Shared}
theorem Ev.pure {a : α} : Ev w 0 (Pure.pure a : Sem α) pos s a pos s := fun _ _ _ _ => rfl
theorem Ev.bind {n m : Nat} {t : Sem α} {f : α → Sem β} {a : α} {b : β} (h : Ev w n t pos s a pos' s') (k : Ev w m (f a) pos' s' b pos'' s'') : Ev w (n + m) (t >>= f) pos s b pos'' s'' := by
  intro K H gd lv
  rw [Sem.bind_eq_wrap', Sem.wrap_wrap]
  rw [topGo_add (h _ _ _ _)]
  exact k K H gd lv
theorem Ev.keep {n : Nat} {t : Sem α} {a : α} {vs : List Value} (h : Ev w n t pos s a pos' s') : Ev w n (t.keep vs) pos s a pos' s' := by
  intro K H gd lv
  rw [Sem.keep_eq_wrap, Sem.wrap_wrap]
  exact h _ _ _ _
theorem Ev.holding {n : Nat} {t : Sem α} {a : α} {vs : List Value} (h : Ev w n t pos s a pos' s') : Ev w n (PySem.holding vs t) pos s a pos' s' := by
  unfold PySem.holding
  split
  · exact h
  · exact h.keep
theorem Ev.onRaise {n : Nat} {t : Sem α} {a : α} {f : Value → Sem Unit} (h : Ev w n t pos s a pos' s') : Ev w n (t.onRaise f) pos s a pos' s' := by
  intro K H gd lv
  rw [Sem.onRaise_eq_wrap, Sem.wrap_wrap]
  exact h _ _ _ _
theorem Ev.rule {tag : String} : Ev w 1 (PySem.rule tag) pos s () pos s := fun _ _ _ _ => rfl
theorem Ev.standAt {p' : Pos} : Ev w 1 (PySem.standAt p') pos s () p' s := fun _ _ _ _ => rfl
theorem Ev.fresh : Ev w 1 PySem.fresh pos s s.toks pos { s with toks := s.toks + 1 } := fun _ _ _ _ => rfl
theorem Ev.ask : Ev w 1 PySem.ask pos s ⟨pp, w.params⟩ pos s := fun _ _ _ _ => rfl
theorem Ev.alloc {o : Obj} : Ev w 1 (PySem.alloc o) pos s s.heap.objs.size pos { s with heap := s.heap.push o } := fun _ _ _ _ => rfl
theorem Ev.load {a : Addr} {o : Obj} (h : s.heap.get? a = some o) : Ev w 1 (PySem.load a) pos s o pos s := by
  intro K H gd lv
  obtain ⟨heap, gens, drawn, toks, os⟩ := s
  show (match step (denote treeTable) pp w ⟨heap, gens, drawn, toks, os⟩ ⟨.load a none fun x => K x, cT, pos, BT0⟩ with | .go s' t' => some (s', t') | .halt _ _ => none) = _
  simp only [step]
  rw [show heap.get? a = some o from h]
theorem Ev.loadPart {a : Addr} {part : Option Value} {o : Obj} (h : s.heap.get? a = some o) : Ev w 1 (PySem.loadPart a part) pos s o pos s := by
  intro K H gd lv
  obtain ⟨heap, gens, drawn, toks, os⟩ := s
  show (match step (denote treeTable) pp w ⟨heap, gens, drawn, toks, os⟩ ⟨.load a part fun x => K x, cT, pos, BT0⟩ with | .go s' t' => some (s', t') | .halt _ _ => none) = _
  simp only [step]
  rw [show heap.get? a = some o from h]
theorem Ev.updatePart {a : Addr} {part : Option Value} {f : Obj → Obj} {o : Obj} (h : s.heap.get? a = some o) (ha : Nat.ble 11 a = true) : Ev w 1 (PySem.updatePart a part f) pos s () pos { s with heap := s.heap.update a f } := by
  intro K H gd lv
  obtain ⟨heap, gens, drawn, toks, os⟩ := s
  have hk : stepOk 11 annv ⟨.update a part f fun x => K x, cT, pos, BT0⟩ = true := by
    show (true && (Nat.ble 11 a || a == mainNs || a == cStatics || annv == some (.ref a))) = true
    rw [ha]; rfl
  show (match stepOk 11 annv ⟨.update a part f fun x => K x, cT, pos, BT0⟩ with
    | false => none
    | true => match step (denote treeTable) pp w ⟨heap, gens, drawn, toks, os⟩ ⟨.update a part f fun x => K x, cT, pos, BT0⟩ with | .go s' t' => some (s', t') | .halt _ _ => none) = _
  rw [hk]
  simp only [step]
  rw [show heap.get? a = some o from h]
  rfl

theorem topGo_step {n : Nat} {t t' : Thread} (h1 : through t = false) (h2 : stepOk 11 annv t = true) (h3 : step (denote treeTable) pp w s t = .go s' t') : topGo treeTable pp w 11 annv (n + 1) s t = topGo treeTable pp w 11 annv n s' t' := by
  conv => lhs; unfold topGo
  rw [h1, h2, h3]

def hv (x : Int) : Int :=
  let h : Int := x.natAbs % (2 ^ 61 - 1 : Nat)
  let h := if x < 0 then -h else h
  if h == -1 then -2 else h
theorem hv_small {i : Int} (h0 : 0 ≤ i) (h1 : i < 2 ^ 60) : hv i = i := by
  unfold hv
  obtain ⟨n, rfl⟩ : ∃ n : Nat, i = (n : Int) := ⟨i.toNat, by omega⟩
  have e : ((n : Int).natAbs : Int) % ((2 ^ 61 - 1 : Nat) : Int) = (n : Int) := by
    rw [Int.natAbs_natCast]
    omega
  have e2 : (if (n : Int) < 0 then -(n : Int) else (n : Int)) = n := if_neg (by omega)
  have e3 : ((n : Int) == -1) = false := by rw [beq_eq_false_iff_ne]; omega
  simp only [e, e2, e3]
  rfl
theorem reduced_small {i : Int} (h0 : 0 ≤ i) (h1 : i < 2 ^ 60) : pyHashByItsType.reduced i = Pure.pure i := by
  unfold pyHashByItsType.reduced
  have e : (decide (-(2 ^ 63 : Int) ≤ i) && decide (i < 2 ^ 63)) = true := by
    rw [Bool.and_eq_true]
    exact ⟨decide_eq_true (by omega), decide_eq_true (by omega)⟩
  rw [if_pos e]
  have : (i == -1) = false := by rw [beq_eq_false_iff_ne]; omega
  rw [this]; rfl
theorem hash_false {i : Int} {t : Tok} {heap : Heap} {gens : Array GenState} {drawn : Drawn} {toks : Nat} {os : OsState} {K : Int → Sem Fin} {H : Value → Sem Fin} {gd : Bool → Bool} {lv : List Value → List Value} :
    topGo treeTable pp (w.withFollow "special-get-raises" false) 11 annv 5 ⟨heap, gens, drawn, toks, os⟩ ⟨(pyHash (.int i t)).wrap K H gd lv, cT, pos, BT0⟩ =
      some (⟨heap, gens, drawn, toks + 1, os⟩, ⟨(pyHashByItsType.reduced (hv i)).wrap K H gd lv, cT, pos, BT0⟩) := by kernel_rfl
theorem hash_true {i : Int} {t : Tok} {heap : Heap} {gens : Array GenState} {drawn : Drawn} {toks : Nat} {os : OsState} {K : Int → Sem Fin} {H : Value → Sem Fin} {gd : Bool → Bool} {lv : List Value → List Value} :
    topGo treeTable pp (w.withFollow "special-get-raises" true) 11 annv 5 ⟨heap, gens, drawn, toks, os⟩ ⟨(pyHash (.int i t)).wrap K H gd lv, cT, pos, BT0⟩ =
      some (⟨heap, gens, drawn, toks + 1, os⟩, ⟨(pyHashByItsType.reduced (hv i)).wrap K H gd lv, cT, pos, BT0⟩) := by kernel_rfl
theorem Ev.hash {i : Int} {t : Tok} (h0 : 0 ≤ i) (h1 : i < 2 ^ 60) : Ev w 5 (pyHash (.int i t)) pos s i pos { s with toks := s.toks + 1 } := by
  intro K H gd lv
  obtain ⟨heap, gens, drawn, toks, os⟩ := s
  have e : topGo treeTable pp w 11 annv 5 ⟨heap, gens, drawn, toks, os⟩ ⟨(pyHash (.int i t)).wrap K H gd lv, cT, pos, BT0⟩ =
      some (⟨heap, gens, drawn, toks + 1, os⟩, ⟨(pyHashByItsType.reduced (hv i)).wrap K H gd lv, cT, pos, BT0⟩) := by
    have q := World.withFollow_self w "special-get-raises"
    cases hb : w.params.followText "special-get-raises" with
    | false => rw [hb] at q; rw [← q]; exact hash_false
    | true => rw [hb] at q; rw [← q]; exact hash_true
  rw [e, hv_small h0 h1, reduced_small h0 h1]
  rfl
end
end Mine
end

section
open PySem PySem.W PyProof.Rows
set_option maxRecDepth 100000
set_option maxHeartbeats 0
namespace Mine
def setAt (h : Heap) (a : Addr) (o : Obj) : Heap := h.update a fun _ => o
theorem update_eq {h : Heap} {a : Addr} {o : Obj} {f : Obj → Obj} (e : h.get? a = some o) : h.update a f = setAt h a (f o) := by
  obtain ⟨objs, l⟩ := h
  have e1 : objs[a]? = some o := by
    unfold Heap.get? at e
    dsimp only at e
    split at e
    · cases e
    · exact e
  show Heap.mk (objs.modify a f) l = Heap.mk (objs.modify a fun _ => f o) l
  congr 1
  apply Array.ext_getElem?
  intro i
  rw [Array.getElem?_modify, Array.getElem?_modify]
  by_cases hi : a = i
  · subst hi; simp [e1]
  · simp [hi]

section
variable {w : World} {pos : Pos} {s : Shared} {d : Addr} {es : Array DictEntry} {ep : Nat}
theorem Ev.dictEntries {part : Option Value} (h : s.heap.get? d = some (dictObj es ep)) : Ev w 1 (PySem.dictEntries d part) pos s es pos s := by
  unfold PySem.dictEntries
  exact Ev.bind (n := 1) (m := 0) (Ev.loadPart h) Ev.pure
theorem Ev.dictEpoch {part : Option Value} (h : s.heap.get? d = some (dictObj es ep)) : Ev w 1 (PySem.dictEpoch d part) pos s ep pos s := by
  unfold PySem.dictEpoch
  exact Ev.bind (n := 1) (m := 0) (Ev.loadPart h) Ev.pure
theorem Ev.dictPush {part : Option Value} {e : DictEntry} (h : s.heap.get? d = some (dictObj es ep)) (hd : Nat.ble 11 d = true) (hz : es.size < 100000)
    (h' : (setAt s.heap d (dictObj (es.push e) (ep + 1))).get? d = some (dictObj (es.push e) (ep + 1))) :
    Ev w 3 (updateDictKeys d (·.push e) part) pos s () pos { s with heap := setAt s.heap d (dictObj (es.push e) (ep + 1)) } := by
  unfold updateDictKeys
  refine Ev.bind (n := 1) (m := 2) (Ev.loadPart h) ?_
  have e1 : s.heap.update d (Obj.mapDictKeys (·.push e)) = setAt s.heap d (dictObj (es.push e) (ep + 1)) := update_eq h
  have u := Ev.updatePart (w := w) (pos := pos) (part := part) (f := Obj.mapDictKeys (·.push e)) h hd
  rw [e1] at u
  refine Ev.bind (n := 1) (m := 1) u ?_
  unfold lookBehind
  refine Ev.bind (n := 1) (m := 0) (Ev.loadPart h') ?_
  have e2 : (dictObj (es.push e) (ep + 1)).data.pastItsLine = none := by
    show (if (es.push e).size > sizeLine + 1 then some "dict:memory" else none) = none
    rw [if_neg]
    rw [Array.size_push, sizeLine_eq]; omega
  rw [e2]
  exact Ev.pure

theorem Ev.dictFind {i : Int} {t : Tok} {hsh : Int} (h : s.heap.get? d = some (dictObj es ep)) (hno : ∀ e ∈ es, e.hash ≠ hsh) : Ev w 1 (PySem.dictFind d (.int i t) hsh) pos s none pos s := by
  unfold PySem.dictFind
  refine Ev.holding ?_
  refine Ev.bind (n := 1) (m := 0) (Ev.dictEntries h) ?_
  have e1 : placesWithHash es.size (fun i => es[i]?.map (·.hash)) hsh = [] := by
    unfold placesWithHash
    rw [List.filter_eq_nil_iff]
    intro j hj hq
    have hj' : j < es.size := by simpa using hj
    dsimp only at hq
    rw [Array.getElem?_eq_getElem hj'] at hq
    have : es[j].hash = hsh := by simpa using hq
    exact hno _ (Array.getElem_mem hj') this
  simp only [e1]
  exact Ev.pure

theorem Ev.dictSetHashed {i : Int} {t : Tok} {hsh : Int} {v : Value} (h : s.heap.get? d = some (dictObj es ep)) (hno : ∀ e ∈ es, e.hash ≠ hsh) (hd : Nat.ble 11 d = true) (hz : es.size < 100000)
    (h' : (setAt s.heap d (dictObj (es.push ⟨hsh, .int i t, v⟩) (ep + 1))).get? d = some (dictObj (es.push ⟨hsh, .int i t, v⟩) (ep + 1))) :
    Ev w 5 (PySem.dictSetHashed d (.int i t) hsh v) pos s () pos { s with heap := setAt s.heap d (dictObj (es.push ⟨hsh, .int i t, v⟩) (ep + 1)) } := by
  unfold PySem.dictSetHashed
  refine Ev.holding (Ev.bind (n := 1) (m := 4) (Ev.dictFind h hno) ?_)
  exact Ev.bind (n := 1) (m := 3) Ev.rule (Ev.dictPush h hd hz h')
theorem Ev.dictSet {i : Int} {t : Tok} {v : Value} (h0 : 0 ≤ i) (h1 : i < 2 ^ 60) (h : s.heap.get? d = some (dictObj es ep)) (hno : ∀ e ∈ es, e.hash ≠ i) (hd : Nat.ble 11 d = true) (hz : es.size < 100000)
    (h' : (setAt s.heap d (dictObj (es.push ⟨i, .int i t, v⟩) (ep + 1))).get? d = some (dictObj (es.push ⟨i, .int i t, v⟩) (ep + 1))) :
    Ev w 10 (PySem.dictSet d (.int i t) v) pos s () pos { s with heap := setAt s.heap d (dictObj (es.push ⟨i, .int i t, v⟩) (ep + 1)), toks := s.toks + 1 } := by
  unfold PySem.dictSet
  refine Ev.holding (Ev.bind (n := 5) (m := 5) (Ev.hash h0 h1) ?_)
  exact Ev.dictSetHashed (s := { s with toks := s.toks + 1 }) h hno hd hz h'
theorem Ev.dictPut {i : Int} {t : Tok} {hsh : Int} {v : Value} (h : s.heap.get? d = some (dictObj es ep)) (hno : ∀ e ∈ es, e.hash ≠ hsh) (hd : Nat.ble 11 d = true) (hz : es.size < 100000)
    (h' : (setAt s.heap d (dictObj (es.push ⟨hsh, .int i t, v⟩) (ep + 1))).get? d = some (dictObj (es.push ⟨hsh, .int i t, v⟩) (ep + 1))) :
    Ev w 4 (PySem.dictPut d hsh (.int i t) v) pos s () pos { s with heap := setAt s.heap d (dictObj (es.push ⟨hsh, .int i t, v⟩) (ep + 1)) } := by
  unfold PySem.dictPut
  exact Ev.bind (n := 1) (m := 3) (Ev.dictFind h hno) (Ev.dictPush h hd hz h')
theorem Ev.mkInt {i : Int} : Ev w 1 (PySem.mkInt i) pos s (.int i s.toks) pos { s with toks := s.toks + 1 } := Ev.bind (n := 1) (m := 0) Ev.fresh Ev.pure
theorem Ev.mkText {x : Str} : Ev w 1 (PySem.mkText x) pos s (.str x s.toks) pos { s with toks := s.toks + 1 } := Ev.bind (n := 1) (m := 0) Ev.fresh Ev.pure
theorem Ev.typeDict {d : Addr} (h : s.heap.get? d = some (dictObj es ep)) : Ev w 1 (typeOf (.ref d)) pos s (.type "dict") pos s := by
  show Ev w 1 (do let o ← loadHead d; return o.cls) pos s (.type "dict") pos s
  exact Ev.bind (n := 1) (m := 0) (Ev.loadPart h) Ev.pure
theorem Ev.isDict (h : s.heap.get? d = some (dictObj es ep)) : Ev w 1 (isInstance (.ref d) (.type "dict")) pos s true pos s := by
  unfold isInstance
  refine Ev.bind (n := 1) (m := 0) (Ev.typeDict h) ?_
  have : isSubtype (.type "dict") (.type "dict") = (Pure.pure true : Sem Bool) := by rw [isSubtype_type]; kernel_rfl
  rw [this]
  exact Ev.pure
theorem Ev.iterDict (h : s.heap.get? d = some (dictObj es ep)) : Ev w 1 (specialOf (.ref d) "__iter__") pos s (some (.builtin "dict.__iter__")) pos s := by
  unfold specialOf
  refine Ev.bind (n := 1) (m := 0) (Ev.typeDict h) ?_
  have : typeLookup (.type "dict") "__iter__" = (Pure.pure (some (.builtin "dict.__iter__")) : Sem (Option Value)) := by rw [typeLookup_type, builtinLookup_eq_fast]; kernel_rfl
  rw [this]
  exact Ev.pure
end
end Mine
end

section
open PySem PySem.W PyProof.Rows
set_option maxRecDepth 100000
set_option maxHeartbeats 0
namespace Mine
section
variable {hb : Heap} {m m' : Obj} {subs : List Obj}
theorem mkHeap_size : (mkHeap hb m subs).objs.size = hb.objs.size + 1 + subs.length := by
  show (hb.objs.toList ++ (m :: subs)).length = _
  rw [List.length_append, List.length_cons, Array.length_toList]; omega
theorem mkHeap_push {o : Obj} : (mkHeap hb m subs).push o = mkHeap hb m (subs ++ [o]) := by
  show Heap.mk (Array.push ⟨hb.objs.toList ++ (m :: subs)⟩ o) hb.life = Heap.mk ⟨hb.objs.toList ++ (m :: (subs ++ [o]))⟩ hb.life
  congr 1
  simp
theorem push_mk {o : Obj} : hb.push o = mkHeap hb o [] := by
  obtain ⟨objs, l⟩ := hb
  show Heap.mk (objs.push o) l = Heap.mk ⟨objs.toList ++ [o]⟩ l
  congr 1
  apply Array.toList_inj.mp
  simp
theorem mkHeap_main : (mkHeap hb (dictObj e n) subs).get? hb.objs.size = some (dictObj e n) := by
  unfold Heap.get? mkHeap
  have : (⟨hb.objs.toList ++ (dictObj e n :: subs)⟩ : Array Obj)[hb.objs.size]? = some (dictObj e n) := by
    rw [← Array.getElem?_toList, List.getElem?_append_right (by rw [Array.length_toList]; exact Nat.le_refl _), Array.length_toList, Nat.sub_self]
    rfl
  dsimp only
  rw [this]
  rfl
theorem mkHeap_last : (mkHeap hb m (subs ++ [dictObj e n])).get? (hb.objs.size + 1 + subs.length) = some (dictObj e n) := by
  unfold Heap.get? mkHeap
  have : (⟨hb.objs.toList ++ (m :: (subs ++ [dictObj e n]))⟩ : Array Obj)[hb.objs.size + 1 + subs.length]? = some (dictObj e n) := by
    rw [← Array.getElem?_toList, List.getElem?_append_right (by have := Array.length_toList (xs := hb.objs); omega)]
    rw [show hb.objs.size + 1 + subs.length - hb.objs.toList.length = subs.length + 1 by have := Array.length_toList (xs := hb.objs); omega, List.getElem?_cons_succ, List.getElem?_append_right (Nat.le_refl _), Nat.sub_self]
    rfl
  dsimp only
  rw [this]
  rfl
theorem mkHeap_setMain : setAt (mkHeap hb m subs) hb.objs.size m' = mkHeap hb m' subs := by
  show Heap.mk (Array.modify ⟨hb.objs.toList ++ (m :: subs)⟩ hb.objs.size fun _ => m') hb.life = Heap.mk ⟨hb.objs.toList ++ (m' :: subs)⟩ hb.life
  congr 1
  apply Array.toList_inj.mp
  rw [Array.toList_modify]
  show (hb.objs.toList ++ (m :: subs)).modify hb.objs.size (fun _ => m') = hb.objs.toList ++ (m' :: subs)
  rw [← Array.length_toList]
  generalize hb.objs.toList = l
  induction l with
  | nil => rfl
  | cons x l ih => rw [List.cons_append, List.length_cons, List.modify_succ_cons, ih]; rfl
theorem mkHeap_setLast {o o' : Obj} : setAt (mkHeap hb m (subs ++ [o])) (hb.objs.size + 1 + subs.length) o' = mkHeap hb m (subs ++ [o']) := by
  show Heap.mk (Array.modify ⟨hb.objs.toList ++ (m :: (subs ++ [o]))⟩ (hb.objs.size + 1 + subs.length) fun _ => o') hb.life = Heap.mk ⟨hb.objs.toList ++ (m :: (subs ++ [o']))⟩ hb.life
  congr 1
  apply Array.toList_inj.mp
  rw [Array.toList_modify]
  show (hb.objs.toList ++ (m :: (subs ++ [o]))).modify (hb.objs.size + 1 + subs.length) (fun _ => o') = hb.objs.toList ++ (m :: (subs ++ [o']))
  have key : ∀ (l : List Obj), (l ++ [o]).modify l.length (fun _ => o') = l ++ [o'] := by
    intro l
    induction l with
    | nil => rfl
    | cons x l ih => rw [List.cons_append, List.length_cons, List.modify_succ_cons, ih]; rfl
  have e := key (hb.objs.toList ++ m :: subs)
  rw [List.length_append, List.length_cons, Array.length_toList] at e
  rw [show hb.objs.size + 1 + subs.length = hb.objs.size + (subs.length + 1) by omega]
  simpa using e
end
end Mine
end

section
open PySem PySem.W PyProof.Rows
set_option maxRecDepth 100000
set_option maxHeartbeats 0
namespace Mine
structure Slot (d : Addr) (at_ : Obj → Heap) : Prop where
  get : ∀ es n, (at_ (dictObj es n)).get? d = some (dictObj es n)
  set : ∀ o o', setAt (at_ o) d o' = at_ o'
theorem slot_main {hb : Heap} {subs : List Obj} : Slot hb.objs.size (fun o => mkHeap hb o subs) := ⟨fun _ _ => mkHeap_main, fun _ _ => mkHeap_setMain⟩
theorem slot_push {h : Heap} : Slot h.objs.size (fun o => h.push o) := ⟨fun _ _ => by rw [push_mk]; exact mkHeap_main, fun _ _ => by rw [push_mk, push_mk]; exact mkHeap_setMain⟩

def pairOf (pd : Pos) (x : Int × Str) : Sem Value × Sem Value := (mkInt x.1, do let v ← mkText x.2; standAt pd; pure v)
def entsL : Nat → List (Int × Str) → List DictEntry
  | _, [] => []
  | tk, (i, x) :: r => ⟨i, .int i tk, .str x (tk + 1)⟩ :: entsL (tk + 3) r
def Asc : Int → List (Int × Str) → Prop
  | _, [] => True
  | lo, (i, _) :: r => lo < i ∧ i < 2 ^ 60 ∧ Asc i r
theorem entsL_length : ∀ (prs : List (Int × Str)) (tk : Nat), (entsL tk prs).length = prs.length
  | [], _ => rfl
  | (_, _) :: r, tk => by rw [entsL, List.length_cons, List.length_cons, entsL_length r]

section
variable {w : World} {pd : Pos} {s : Shared} {d : Addr} {at_ : Obj → Heap}
theorem sub_loop {f : Sem Value × Sem Value → PUnit → Sem (ForInStep PUnit)} (Sl : Slot d at_) (hd : Nat.ble 11 d = true)
    (hf : ∀ k v r, f (k, v) r = (do let kv ← k; let vv ← holding [kv] v; holding [kv, vv] (dictSet d kv vv); pure (ForInStep.yield PUnit.unit))) :
    ∀ (prs : List (Int × Str)) (es : Array DictEntry) (ep tk : Nat) (lo : Int), Asc lo prs → (∀ e ∈ es, e.hash ≤ lo) → es.size + prs.length < 100000 → 0 ≤ lo + 1 →
      Ev w (13 * prs.length) (forIn (prs.map (pairOf pd)) PUnit.unit f) pd { s with heap := at_ (dictObj es ep), toks := tk } PUnit.unit pd { s with heap := at_ (dictObj (es ++ (entsL tk prs).toArray) (ep + prs.length)), toks := tk + 3 * prs.length }
  | [], es, ep, tk, lo, _, _, _, _ => by
    rw [List.map_nil, List.forIn_nil]
    have e : es ++ (entsL tk []).toArray = es := by simp [entsL]
    rw [e]
    exact Ev.pure
  | (i, x) :: r, es, ep, tk, lo, ha, hle, hz, hlo => by
    obtain ⟨a1, a2, a3⟩ := ha
    rw [List.length_cons] at hz
    rw [List.map_cons, List.forIn_cons, List.length_cons, show 13 * (r.length + 1) = 13 + 13 * r.length by omega]
    have hno : ∀ e ∈ es, e.hash ≠ i := fun e he h => by have := hle e he; omega
    refine Ev.bind (n := 13) (pos' := pd) (s' := { s with heap := at_ (dictObj (es.push ⟨i, .int i tk, .str x (tk + 1)⟩) (ep + 1)), toks := tk + 3 }) (a := ForInStep.yield PUnit.unit) ?_ ?_
    · unfold pairOf
      rw [hf]
      refine Ev.bind (n := 1) (m := 12) Ev.mkInt ?_
      refine Ev.bind (n := 2) (m := 10) (Ev.holding (Ev.bind (n := 1) (m := 1) Ev.mkText (Ev.bind (n := 1) (m := 0) Ev.standAt Ev.pure))) ?_
      have g := Sl.set (dictObj es ep) (dictObj (es.push ⟨i, .int i tk, .str x (tk + 1)⟩) (ep + 1))
      have e := Ev.dictSet (w := w) (pos := pd) (s := { s with heap := at_ (dictObj es ep), toks := tk + 1 + 1 }) (t := tk) (v := .str x (tk + 1)) (by omega) a2 (Sl.get es ep) hno hd (by omega) (by
        show (setAt (at_ (dictObj es ep)) d _).get? d = _
        rw [g]; exact Sl.get _ _)
      refine Ev.bind (n := 10) (m := 0) (a := ()) (Ev.holding ?_) Ev.pure
      have g' : setAt (at_ (dictObj es ep)) d (dictObj (es.push ⟨i, .int i tk, .str x (tk + 1)⟩) (ep + 1)) = at_ (dictObj (es.push ⟨i, .int i tk, .str x (tk + 1)⟩) (ep + 1)) := g
      dsimp only at e
      rw [g'] at e
      exact e
    · have ih := sub_loop Sl hd hf r (es.push ⟨i, .int i tk, .str x (tk + 1)⟩) (ep + 1) (tk + 3) i a3 (fun e he => by
        rcases Array.mem_push.mp he with h | h
        · have := hle e h; omega
        · subst h; exact Int.le_refl _) (by rw [Array.size_push]; omega) (by omega)
      have e1 : es.push ⟨i, .int i tk, .str x (tk + 1)⟩ ++ (entsL (tk + 3) r).toArray = es ++ (entsL tk ((i, x) :: r)).toArray := by
        apply Array.toList_inj.mp
        simp [entsL]
      rw [e1, show ep + 1 + r.length = ep + (r.length + 1) by omega, show tk + 3 + 3 * r.length = tk + 3 * (r.length + 1) by omega] at ih
      exact ih

theorem subDict_long {prs : List (Int × Str)} {lo : Int} (hn : 15 < prs.length) (hz : prs.length < 100000) (ha : Asc lo prs) (hlo : 0 ≤ lo + 1) (h11 : Nat.ble 11 s.heap.objs.size = true) :
    Ev w (2 + 13 * prs.length) (subDict (prs.map (pairOf pd))) pd s s.heap.objs.size pd { s with heap := s.heap.push (dictObj (entsL s.toks prs).toArray prs.length), toks := s.toks + 3 * prs.length } := by
  unfold subDict
  rw [show 2 + 13 * prs.length = 1 + (1 + 13 * prs.length) by omega]
  refine Ev.bind (n := 1) Ev.alloc ?_
  refine Ev.bind (n := 1 + 13 * prs.length) (m := 0) (a := ()) (pos' := pd) (s' := { s with heap := s.heap.push (dictObj (entsL s.toks prs).toArray prs.length), toks := s.toks + 3 * prs.length }) (Ev.holding ?_) Ev.pure
  rw [if_neg (by rw [List.length_map]; omega)]
  refine Ev.bind (n := 1) Ev.rule ?_
  have e := sub_loop (w := w) (pd := pd) (s := s) (d := s.heap.objs.size) (at_ := fun o => s.heap.push o) (f := fun x r => match x with | (k, v) => (do let kv ← k; let vv ← holding [kv] v; holding [kv, vv] (dictSet s.heap.objs.size kv vv); pure (ForInStep.yield PUnit.unit))) slot_push h11 (fun _ _ _ => rfl) prs #[] 0 s.toks lo ha (fun e he => by simp at he) (by simpa using hz) hlo
  rw [Nat.zero_add] at e
  have e1 : (#[] : Array DictEntry) ++ (entsL s.toks prs).toArray = (entsL s.toks prs).toArray := by simp
  rw [e1] at e
  exact Ev.bind (n := 13 * prs.length) (m := 0) e Ev.pure

/-- a short display: all pairs first, then the stores -/
def entsS (h : Nat) : Nat → List (Int × Str) → List DictEntry
  | _, [] => []
  | tk, (i, x) :: r => ⟨i, .int i tk, .str x (tk + 1)⟩ :: entsS h (tk + 2) r
def valsS : Nat → List (Int × Str) → List (Value × Value)
  | _, [] => []
  | tk, (i, x) :: r => (.int i tk, .str x (tk + 1)) :: valsS (tk + 2) r
theorem pairs_ev : ∀ (prs : List (Int × Str)) (s : Shared), Ev w (3 * prs.length) (evalPairs (prs.map (pairOf pd))) pd s (valsS s.toks prs) pd { s with toks := s.toks + 2 * prs.length }
  | [], s => Ev.pure
  | (i, x) :: r, s => by
    rw [List.map_cons, List.length_cons, show 3 * (r.length + 1) = 1 + (2 + (3 * r.length + 0)) by omega]
    unfold pairOf evalPairs
    refine Ev.bind (n := 1) Ev.mkInt ?_
    refine Ev.bind (n := 2) (Ev.holding (Ev.bind (n := 1) (m := 1) Ev.mkText (Ev.bind (n := 1) (m := 0) Ev.standAt Ev.pure))) ?_
    have ih := pairs_ev r { s with toks := s.toks + 1 + 1 }
    dsimp only at ih
    rw [show s.toks + 1 + 1 + 2 * r.length = s.toks + 2 * (r.length + 1) by omega] at ih
    exact Ev.bind (n := 3 * r.length) (m := 0) (Ev.holding ih) Ev.pure
theorem short_loop {f : Value × Value → PUnit → Sem (ForInStep PUnit)} (Sl : Slot d at_) (hd : Nat.ble 11 d = true)
    (hf : ∀ k v r, f (k, v) r = (do dictSet d k v; pure (ForInStep.yield PUnit.unit))) :
    ∀ (prs : List (Int × Str)) (es : Array DictEntry) (ep tk tv : Nat) (lo : Int), Asc lo prs → (∀ e ∈ es, e.hash ≤ lo) → es.size + prs.length < 100000 → 0 ≤ lo + 1 →
      Ev w (10 * prs.length) (forIn (valsS tv prs) PUnit.unit f) pd { s with heap := at_ (dictObj es ep), toks := tk } PUnit.unit pd { s with heap := at_ (dictObj (es ++ (entsS 0 tv prs).toArray) (ep + prs.length)), toks := tk + prs.length }
  | [], es, ep, tk, tv, lo, _, _, _, _ => by
    have e : es ++ (entsS 0 tv []).toArray = es := by simp [entsS]
    rw [e]
    exact Ev.pure
  | (i, x) :: r, es, ep, tk, tv, lo, ha, hle, hz, hlo => by
    obtain ⟨a1, a2, a3⟩ := ha
    rw [List.length_cons] at hz
    rw [valsS, List.forIn_cons, List.length_cons, show 10 * (r.length + 1) = 10 + 10 * r.length by omega]
    have hno : ∀ e ∈ es, e.hash ≠ i := fun e he h => by have := hle e he; omega
    refine Ev.bind (n := 10) (pos' := pd) (s' := { s with heap := at_ (dictObj (es.push ⟨i, .int i tv, .str x (tv + 1)⟩) (ep + 1)), toks := tk + 1 }) (a := ForInStep.yield PUnit.unit) ?_ ?_
    · rw [hf]
      have g := Sl.set (dictObj es ep) (dictObj (es.push ⟨i, .int i tv, .str x (tv + 1)⟩) (ep + 1))
      have e := Ev.dictSet (w := w) (pos := pd) (s := { s with heap := at_ (dictObj es ep), toks := tk }) (t := tv) (v := .str x (tv + 1)) (by omega) a2 (Sl.get es ep) hno hd (by omega) (by
        show (setAt (at_ (dictObj es ep)) d _).get? d = _
        rw [g]; exact Sl.get _ _)
      refine Ev.bind (n := 10) (m := 0) (a := ()) ?_ Ev.pure
      have g' : setAt (at_ (dictObj es ep)) d (dictObj (es.push ⟨i, .int i tv, .str x (tv + 1)⟩) (ep + 1)) = at_ (dictObj (es.push ⟨i, .int i tv, .str x (tv + 1)⟩) (ep + 1)) := g
      dsimp only at e
      rw [g'] at e
      exact e
    · have ih := short_loop Sl hd hf r (es.push ⟨i, .int i tv, .str x (tv + 1)⟩) (ep + 1) (tk + 1) (tv + 2) i a3 (fun e he => by
        rcases Array.mem_push.mp he with h | h
        · have := hle e h; omega
        · subst h; exact Int.le_refl _) (by rw [Array.size_push]; omega) (by omega)
      have e1 : es.push ⟨i, .int i tv, .str x (tv + 1)⟩ ++ (entsS 0 (tv + 2) r).toArray = es ++ (entsS 0 tv ((i, x) :: r)).toArray := by
        apply Array.toList_inj.mp
        simp [entsS]
      rw [e1, show ep + 1 + r.length = ep + (r.length + 1) by omega, show tk + 1 + r.length = tk + (r.length + 1) by omega] at ih
      exact ih
theorem subDict_short {prs : List (Int × Str)} {lo : Int} (hn : prs.length ≤ 15) (ha : Asc lo prs) (hlo : 0 ≤ lo + 1) (h11 : Nat.ble 11 s.heap.objs.size = true) :
    Ev w (1 + 13 * prs.length) (subDict (prs.map (pairOf pd))) pd s s.heap.objs.size pd { s with heap := s.heap.push (dictObj (entsS 0 s.toks prs).toArray prs.length), toks := s.toks + 3 * prs.length } := by
  unfold subDict
  refine Ev.bind (n := 1) Ev.alloc ?_
  refine Ev.bind (n := 13 * prs.length) (m := 0) (a := ()) (pos' := pd) (s' := { s with heap := s.heap.push (dictObj (entsS 0 s.toks prs).toArray prs.length), toks := s.toks + 3 * prs.length }) (Ev.holding ?_) Ev.pure
  rw [if_pos (by rw [List.length_map]; exact hn), show 13 * prs.length = 3 * prs.length + 10 * prs.length by omega]
  refine Ev.bind (n := 3 * prs.length) (pairs_ev prs _) (Ev.holding ?_)
  have e := short_loop (w := w) (pd := pd) (s := s) (d := s.heap.objs.size) (at_ := fun o => s.heap.push o) (f := fun x r => match x with | (k, v) => (do dictSet s.heap.objs.size k v; pure (ForInStep.yield PUnit.unit))) slot_push h11 (fun _ _ _ => rfl) prs #[] 0 (s.toks + 2 * prs.length) s.toks lo ha (fun e he => by simp at he) (by have : (#[] : Array DictEntry).size = 0 := rfl; omega) hlo
  rw [Nat.zero_add] at e
  have e1 : (#[] : Array DictEntry) ++ (entsS 0 s.toks prs).toArray = (entsS 0 s.toks prs).toArray := by simp
  rw [e1, show s.toks + 2 * prs.length + prs.length = s.toks + 3 * prs.length by omega] at e
  exact Ev.bind (n := 10 * prs.length) (m := 0) e Ev.pure
end
end Mine
end

section
open PySem PySem.W PyProof.Rows
set_option maxRecDepth 100000
set_option maxHeartbeats 0
namespace Mine
def IntKeyed (e : DictEntry) : Prop := ∃ i t, e.key = .int i t
def AscE : Int → List DictEntry → Prop
  | _, [] => True
  | lo, e :: r => lo < e.hash ∧ IntKeyed e ∧ AscE e.hash r
section
variable {w : World} {pd : Pos} {s : Shared} {d a : Addr} {at_ : Obj → Heap}
theorem merge_loop {A : Array DictEntry} {na : Nat} {f : Nat → PUnit → Sem (ForInStep PUnit)} (Sl : Slot d at_) (ha : ∀ es ep, (at_ (dictObj es ep)).get? a = some (dictObj A na)) (hd : Nat.ble 11 d = true)
    (hf : ∀ i r, f i r = (do
      let x ← dictEntries a
      match x[i]? with
      | some e => do
        holding [e.key, e.val] (if false = true then (do
            let y ← dictFind d e.key e.hash
            if y.isSome = true then (do
              rule "dict.merge.duplicate-key"
              let z ← newExc (Value.type "KeyError") [e.key]
              raiseNew z
              dictPut d e.hash e.key e.val)
            else dictPut d e.hash e.key e.val)
          else dictPut d e.hash e.key e.val)
        let y ← dictEpoch a
        if (y != na) = true then (do
          unsupported "dict.changed-during-merge"
          pure (ForInStep.yield PUnit.unit))
        else pure (ForInStep.yield PUnit.unit)
      | _ => do
        unsupported "dict.changed-during-merge"
        pure (ForInStep.yield PUnit.unit))) :
    ∀ (xs : List DictEntry) (k : Nat) (es : Array DictEntry) (ep : Nat) (lo : Int), (∀ j, A[k + j]? = xs[j]?) → AscE lo xs → (∀ e ∈ es, e.hash ≤ lo) → es.size + xs.length < 100000 →
      Ev w (6 * xs.length) (forIn (List.range' k xs.length) PUnit.unit f) pd { s with heap := at_ (dictObj es ep) } PUnit.unit pd { s with heap := at_ (dictObj (es ++ xs.toArray) (ep + xs.length)) }
  | [], k, es, ep, lo, _, _, _, _ => by
    have e : es ++ ([] : List DictEntry).toArray = es := by simp
    rw [e]
    exact Ev.pure
  | x :: xs, k, es, ep, lo, hA, hasc, hle, hz => by
    obtain ⟨a1, ⟨i, t, a2⟩, a3⟩ := hasc
    rw [List.length_cons] at hz
    have hx : A[k]? = some x := by have := hA 0; simpa using this
    have hno : ∀ e ∈ es, e.hash ≠ x.hash := fun e he h => by have := hle e he; omega
    rw [List.length_cons, List.range'_succ, List.forIn_cons, show 6 * (xs.length + 1) = 6 + 6 * xs.length by omega]
    refine Ev.bind (n := 6) (pos' := pd) (s' := { s with heap := at_ (dictObj (es.push x) (ep + 1)) }) (a := ForInStep.yield PUnit.unit) ?_ ?_
    · rw [hf]
      refine Ev.bind (n := 1) (m := 5) (Ev.dictEntries (ha _ _)) ?_
      rw [hx]
      dsimp only
      refine Ev.bind (n := 4) (m := 1) (pos' := pd) (s' := { s with heap := at_ (dictObj (es.push x) (ep + 1)) }) (a := ()) (Ev.holding ?_) ?_
      · rw [if_neg (by simp)]
        have ex : x = ⟨x.hash, .int i t, x.val⟩ := by rw [← a2]
        have g := Sl.set (dictObj es ep) (dictObj (es.push ⟨x.hash, .int i t, x.val⟩) (ep + 1))
        have e := Ev.dictPut (w := w) (pos := pd) (s := { s with heap := at_ (dictObj es ep) }) (t := t) (i := i) (hsh := x.hash) (v := x.val) (Sl.get es ep) hno hd (by omega) (by
          show (setAt (at_ (dictObj es ep)) d _).get? d = _
          rw [g]; exact Sl.get _ _)
        dsimp only at e
        rw [g] at e
        rw [a2]
        have e9 : es.push ⟨x.hash, .int i t, x.val⟩ = es.push x := by rw [← ex]
        rw [e9] at e
        exact e
      · refine Ev.bind (n := 1) (m := 0) (Ev.dictEpoch (ha _ _)) ?_
        rw [if_neg (by simp)]
        exact Ev.pure
    · have ih := merge_loop Sl ha hd hf xs (k + 1) (es.push x) (ep + 1) x.hash (fun j => by
        have := hA (j + 1)
        rw [show k + 1 + j = k + (j + 1) by omega, this]
        simp) a3 (fun e he => by
        rcases Array.mem_push.mp he with h | h
        · have := hle e h; omega
        · subst h; exact Int.le_refl _) (by rw [Array.size_push]; omega)
      have e1 : es.push x ++ xs.toArray = es ++ (x :: xs).toArray := by
        apply Array.toList_inj.mp
        simp
      rw [e1, show ep + 1 + xs.length = ep + (xs.length + 1) by omega] at ih
      exact ih

theorem merge_ev {A : Array DictEntry} {na : Nat} {es : Array DictEntry} {ep : Nat} {lo : Int} (Sl : Slot d at_) (ha : ∀ es ep, (at_ (dictObj es ep)).get? a = some (dictObj A na)) (hs : (a == sysModules) = false) (hne : es.isEmpty = false) (hd : Nat.ble 11 d = true)
    (hasc : AscE lo A.toList) (hle : ∀ e ∈ es, e.hash ≤ lo) (hz : es.size + A.size < 100000) :
    Ev w (5 + 6 * A.size) (mergeMapping d (.ref a) false) pd { s with heap := at_ (dictObj es ep) } () pd { s with heap := at_ (dictObj (es ++ A) (ep + A.size)) } := by
  unfold mergeMapping
  rw [show 5 + 6 * A.size = 1 + (1 + (3 + 6 * A.size)) by omega]
  refine Ev.bind (n := 1) (Ev.isDict (ha _ _)) ?_
  refine (show Ev w _ (specialOf (.ref a) "__iter__" >>= _) _ _ _ _ _ from ?_)
  refine Ev.bind (n := 1) (Ev.iterDict (ha _ _)) ?_
  · refine (show Ev w _ (if (a == sysModules) = true then _ else _) _ _ _ _ _ from ?_)
    rw [if_neg (by rw [hs]; simp)]
    rw [show 3 + 6 * A.size = 1 + (2 + 6 * A.size) by omega]
    refine Ev.bind (n := 1) (Ev.dictEntries (Sl.get es ep)) ?_
    rw [if_neg (by rw [hne]; simp)]
    rw [show 2 + 6 * A.size = 1 + (1 + 6 * A.size) by omega]
    refine Ev.bind (n := 1) (Ev.dictEntries (ha _ _)) ?_
    refine Ev.bind (n := 1) (Ev.dictEpoch (ha _ _)) ?_
    have e := merge_loop (w := w) (pd := pd) (s := s) Sl ha hd (fun _ _ => rfl) A.toList 0 es ep lo (fun j => by rw [Nat.zero_add, Array.getElem?_toList]) hasc hle (by rw [Array.length_toList]; exact hz)
    rw [Array.length_toList, Array.toArray_toList] at e
    rw [List.range_eq_range']
    exact Ev.bind (n := 6 * A.size) (m := 0) e Ev.pure
end
end Mine
end

section
open PySem PySem.W PyProof.Rows
set_option maxRecDepth 100000
set_option maxHeartbeats 0
namespace Mine
abbrev Pr := Sem Value × Sem Value
def itemOf (x : Pr) : Option (Sem Value) × Sem Value := (some x.1, x.2)
def flushD (run : List Pr) (main : Option Addr) : Sem (Option Addr) :=
  if run.isEmpty = true then pure main
  else match main with
    | none => do
      let x ← subDict run
      pure (some x)
    | some d => do
      let sub ← holding [Value.ref d] (subDict run)
      (holding [Value.ref d, Value.ref sub] (mergeMapping d (Value.ref sub) false)).onRaise fun x => do
        let _ ← holding [Value.ref d, x] (runValue (Code.builtin "proto.let_go" { }))
        pure ()
      pure (some d)

section
variable {w : World} {pd : Pos}
theorem disp_chunk {f : Option (Sem Value) × Sem Value → Option Addr × List Pr → Sem (ForInStep (Option Addr × List Pr))}
    (hf : ∀ k v st, f (some k, v) st = (if ((st.2 ++ [(k, v)]).length == 17) = true then (do let m ← flushD (st.2 ++ [(k, v)]) st.1; pure (ForInStep.yield (m, []))) else pure (ForInStep.yield (st.1, st.2 ++ [(k, v)]))))
    {rest : List (Option (Sem Value) × Sem Value)} {main main' : Option Addr} {n m : Nat} {s s' s'' : Shared} {r : Option Addr × List Pr} :
    ∀ (chunk run : List Pr), run.length + chunk.length = 17 → chunk ≠ [] → Ev w n (flushD (run ++ chunk) main) pd s main' pd s' → Ev w m (forIn rest (main', []) f) pd s' r pd s'' →
      Ev w (n + m) (forIn (chunk.map itemOf ++ rest) (main, run) f) pd s r pd s''
  | [], _, _, h, _, _ => absurd rfl h
  | [x], run, hl, _, h1, h2 => by
    obtain ⟨k, v⟩ := x
    rw [List.map_cons, List.map_nil, List.singleton_append, List.forIn_cons]
    unfold itemOf
    rw [hf, if_pos (by simp at hl ⊢; omega)]
    refine Ev.bind (n := n) (m := m) (a := ForInStep.yield (main', [])) ?_ h2
    exact Ev.bind (n := n) (m := 0) h1 Ev.pure
  | x :: y :: c, run, hl, _, h1, h2 => by
    obtain ⟨k, v⟩ := x
    rw [List.map_cons, List.cons_append, List.forIn_cons]
    have ih := disp_chunk hf (y :: c) (run ++ [(k, v)]) (by simp at hl ⊢; omega) (by simp) (by rw [List.append_assoc]; exact h1) h2
    rw [← Nat.zero_add (n + m)]
    refine Ev.bind (n := 0) (m := n + m) (a := ForInStep.yield (main, run ++ [(k, v)])) ?_ ih
    unfold itemOf
    rw [hf, if_neg (by simp at hl ⊢; omega)]
    exact Ev.pure
theorem disp_short {f : Option (Sem Value) × Sem Value → Option Addr × List Pr → Sem (ForInStep (Option Addr × List Pr))}
    (hf : ∀ k v st, f (some k, v) st = (if ((st.2 ++ [(k, v)]).length == 17) = true then (do let m ← flushD (st.2 ++ [(k, v)]) st.1; pure (ForInStep.yield (m, []))) else pure (ForInStep.yield (st.1, st.2 ++ [(k, v)]))))
    {main : Option Addr} {s : Shared} : ∀ (chunk run : List Pr), run.length + chunk.length < 17 → Ev w 0 (forIn (chunk.map itemOf) (main, run) f) pd s (main, run ++ chunk) pd s
  | [], run, _ => by
    rw [List.append_nil]
    exact Ev.pure
  | x :: c, run, hl => by
    obtain ⟨k, v⟩ := x
    rw [List.map_cons, List.forIn_cons]
    have ih := disp_short hf (main := main) (s := s) c (run ++ [(k, v)]) (by simp at hl ⊢; omega)
    rw [List.append_assoc] at ih
    refine Ev.bind (n := 0) (m := 0) (a := ForInStep.yield (main, run ++ [(k, v)])) ?_ ih
    unfold itemOf
    rw [hf, if_neg (by simp at hl ⊢; omega)]
    exact Ev.pure

theorem Asc.take {l : List (Int × Str)} : ∀ {lo : Int} (n : Nat), Asc lo l → Asc lo (l.take n) := by
  induction l with
  | nil => intro lo n _; rw [List.take_nil]; trivial
  | cons x l ih =>
    intro lo n h
    cases n with
    | zero => trivial
    | succ n => exact ⟨h.1, h.2.1, ih n h.2.2⟩
def lastK (lo : Int) (l : List (Int × Str)) : Int := match l.getLast? with | some x => x.1 | none => lo
theorem Asc.split : ∀ (a : List (Int × Str)) {b : List (Int × Str)} {lo : Int}, Asc lo (a ++ b) → Asc lo a ∧ Asc (lastK lo a) b
  | [], b, lo, h => ⟨trivial, h⟩
  | [x], b, lo, h => ⟨⟨h.1, h.2.1, trivial⟩, h.2.2⟩
  | x :: y :: a, b, lo, h => by
    obtain ⟨h1, h2, h3⟩ := h
    obtain ⟨i1, i2⟩ := Asc.split (y :: a) h3
    refine ⟨⟨h1, h2, i1⟩, ?_⟩
    have : lastK lo (x :: y :: a) = lastK x.1 (y :: a) := by
      unfold lastK
      rw [List.getLast?_cons_cons]
      cases hq : (y :: a).getLast? with
      | none => simp at hq
      | some z => rfl
    rw [this]; exact i2
theorem Asc.le {l : List (Int × Str)} : ∀ {lo : Int}, Asc lo l → lo ≤ lastK lo l := by
  induction l with
  | nil => intro lo _; exact Int.le_refl _
  | cons x l ih =>
    intro lo h
    have i := ih h.2.2
    have e : lastK lo (x :: l) = lastK x.1 l := by
      unfold lastK
      cases l with
      | nil => rfl
      | cons y l => rw [List.getLast?_cons_cons]; cases hq : (y :: l).getLast? with
        | none => simp at hq
        | some z => rfl
    rw [e]
    have := h.1
    omega
theorem entsL_asc : ∀ (l : List (Int × Str)) (tk : Nat) (lo : Int), Asc lo l → AscE lo (entsL tk l) ∧ ∀ e ∈ entsL tk l, e.hash ≤ lastK lo l
  | [], _, _, _ => ⟨trivial, fun _ h => by simp [entsL] at h⟩
  | (i, x) :: l, tk, lo, h => by
    obtain ⟨h1, h2⟩ := entsL_asc l (tk + 3) i h.2.2
    have e : lastK lo ((i, x) :: l) = lastK i l := by
      unfold lastK
      cases l with
      | nil => rfl
      | cons y l => rw [List.getLast?_cons_cons]; cases hq : (y :: l).getLast? with
        | none => simp at hq
        | some z => rfl
    refine ⟨⟨h.1, ⟨i, tk, rfl⟩, h1⟩, fun e' he => ?_⟩
    rw [e]
    rw [entsL] at he
    rcases List.mem_cons.mp he with rfl | he
    · exact h.2.2.le
    · exact h2 e' he
theorem entsS_asc : ∀ (l : List (Int × Str)) (tk : Nat) (lo : Int), Asc lo l → AscE lo (entsS 0 tk l)
  | [], _, _, _ => trivial
  | (i, x) :: l, tk, lo, h => ⟨h.1, ⟨i, tk, rfl⟩, entsS_asc l (tk + 2) i h.2.2⟩
theorem entsS_length : ∀ (prs : List (Int × Str)) (tk : Nat), (entsS 0 tk prs).length = prs.length
  | [], _ => rfl
  | (_, _) :: r, tk => by rw [entsS, List.length_cons, List.length_cons, entsS_length r]
theorem entsL_append : ∀ (a b : List (Int × Str)) (tk : Nat), entsL tk (a ++ b) = entsL tk a ++ entsL (tk + 3 * a.length) b
  | [], b, tk => rfl
  | (i, x) :: a, b, tk => by
    rw [List.cons_append, entsL, entsL, List.cons_append, entsL_append a b (tk + 3), List.length_cons]
    rw [show tk + 3 + 3 * a.length = tk + 3 * (a.length + 1) by omega]
end
end Mine
end

section
open PySem PySem.W PyProof.Rows
set_option maxRecDepth 100000
set_option maxHeartbeats 0
namespace Mine
def subsOf : Nat → Nat → List (Int × Str) → List Obj
  | 0, _, _ => []
  | n + 1, tk, l => dictObj (entsL tk (l.take 17)).toArray 17 :: subsOf n (tk + 51) (l.drop 17)
theorem subsOf_length : ∀ (n tk : Nat) (l : List (Int × Str)), (subsOf n tk l).length = n
  | 0, _, _ => rfl
  | n + 1, tk, l => by rw [subsOf, List.length_cons, subsOf_length n]
section
variable {w : World} {pd : Pos} {s : Shared} {hb : Heap} {subs : List Obj} {E : Array DictEntry} {ep tk : Nat} {lo : Int}

theorem merge_last {A : Array DictEntry} {na : Nat} (h11 : Nat.ble 11 hb.objs.size = true) (hne : E.isEmpty = false) (hasc : AscE lo A.toList) (hle : ∀ e ∈ E, e.hash ≤ lo) (hz : E.size + A.size < 100000) :
    Ev w (5 + 6 * A.size) (mergeMapping hb.objs.size (.ref (hb.objs.size + 1 + subs.length)) false) pd { s with heap := mkHeap hb (dictObj E ep) (subs ++ [dictObj A na]) } () pd { s with heap := mkHeap hb (dictObj (E ++ A) (ep + A.size)) (subs ++ [dictObj A na]) } := by
  have h11' := Nat.le_of_ble_eq_true h11
  refine merge_ev (at_ := fun o => mkHeap hb o (subs ++ [dictObj A na])) slot_main (fun _ _ => mkHeap_last) ?_ hne h11 hasc hle hz
  rw [beq_eq_false_iff_ne]
  show hb.objs.size + 1 + subs.length ≠ 1
  omega

theorem flush_some {c : List (Int × Str)} (hc : c.length = 17) (ha : Asc lo c) (hlo : 0 ≤ lo + 1) (h11 : Nat.ble 11 hb.objs.size = true) (hne : E.isEmpty = false) (hle : ∀ e ∈ E, e.hash ≤ lo) (hz : E.size + 17 < 100000) :
    Ev w 330 (flushD (c.map (pairOf pd)) (some hb.objs.size)) pd { s with heap := mkHeap hb (dictObj E ep) subs, toks := tk } (some hb.objs.size) pd
      { s with heap := mkHeap hb (dictObj (E ++ (entsL tk c).toArray) (ep + 17)) (subs ++ [dictObj (entsL tk c).toArray 17]), toks := tk + 51 } := by
  unfold flushD
  have h11' := Nat.le_of_ble_eq_true h11
  rw [if_neg (by cases c with | nil => simp at hc | cons x c => simp)]
  dsimp only
  have hsz : (mkHeap hb (dictObj E ep) subs).objs.size = hb.objs.size + 1 + subs.length := mkHeap_size
  have e1 := subDict_long (w := w) (pd := pd) (s := { s with heap := mkHeap hb (dictObj E ep) subs, toks := tk }) (prs := c) (lo := lo) (by omega) (by omega) ha hlo (by
    show Nat.ble 11 (mkHeap hb (dictObj E ep) subs).objs.size = true
    rw [hsz]; exact Nat.ble_eq_true_of_le (by omega))
  dsimp only at e1
  rw [mkHeap_push, hsz, hc] at e1
  refine Ev.bind (n := 223) (m := 107) (Ev.holding e1) ?_
  have hA : ((entsL tk c).toArray).size = 17 := by rw [List.size_toArray, entsL_length, hc]
  have e2 := merge_last (w := w) (pd := pd) (s := { s with toks := tk + 3 * 17 }) (hb := hb) (subs := subs) (E := E) (ep := ep) (lo := lo) (A := (entsL tk c).toArray) (na := 17) h11 hne (by exact (entsL_asc c tk lo ha).1) hle (by rw [hA]; exact hz)
  rw [hA] at e2
  exact Ev.bind (n := 107) (m := 0) (Ev.onRaise (Ev.holding e2)) Ev.pure

theorem disp_main {f : Option (Sem Value) × Sem Value → Option Addr × List Pr → Sem (ForInStep (Option Addr × List Pr))}
    (hf : ∀ k v st, f (some k, v) st = (if ((st.2 ++ [(k, v)]).length == 17) = true then (do let m ← flushD (st.2 ++ [(k, v)]) st.1; pure (ForInStep.yield (m, []))) else pure (ForInStep.yield (st.1, st.2 ++ [(k, v)]))))
    (h11 : Nat.ble 11 hb.objs.size = true) {m : Nat} {r : Option Addr × List Pr} {s'' : Shared} : ∀ (n : Nat) (l : List (Int × Str)) (E : Array DictEntry) (ep : Nat) (subs : List Obj) (tk : Nat) (lo : Int),
      Asc lo l → 0 ≤ lo + 1 → E.isEmpty = false → (∀ e ∈ E, e.hash ≤ lo) → E.size + l.length < 90000 → 17 * n ≤ l.length →
      Ev w m (forIn (((l.drop (17 * n)).map (pairOf pd)).map itemOf) (some hb.objs.size, []) f) pd { s with heap := mkHeap hb (dictObj (E ++ (entsL tk (l.take (17 * n))).toArray) (ep + 17 * n)) (subs ++ subsOf n tk l), toks := tk + 51 * n } r pd s'' →
      Ev w (330 * n + m) (forIn ((l.map (pairOf pd)).map itemOf) (some hb.objs.size, []) f) pd { s with heap := mkHeap hb (dictObj E ep) subs, toks := tk } r pd s''
  | 0, l, E, ep, subs, tk, lo, _, _, _, _, _, _, h => by
    have e : E ++ (entsL tk (l.take (17 * 0))).toArray = E := by simp [entsL]
    rw [e] at h
    simpa [subsOf] using h
  | n + 1, l, E, ep, subs, tk, lo, ha, hlo, hne, hle, hz, hl, h => by
    have hsp : l.take 17 ++ l.drop 17 = l := List.take_append_drop 17 l
    have hc : (l.take 17).length = 17 := by rw [List.length_take]; omega
    obtain ⟨a1, a2⟩ := Asc.split (l.take 17) (by rw [hsp]; exact ha)
    have hlast := a1.le
    rw [show (l.map (pairOf pd)).map itemOf = (((l.take 17).map (pairOf pd)).map itemOf) ++ (((l.drop 17).map (pairOf pd)).map itemOf) by rw [← List.map_append, ← List.map_append, hsp]]
    rw [show 330 * (n + 1) + m = 330 + (330 * n + m) by omega]
    refine disp_chunk hf _ [] (by rw [List.length_map, hc]; rfl) (by intro q; have := congrArg List.length q; rw [List.length_map, hc] at this; cases this) (by
      rw [List.nil_append]
      exact flush_some hc a1 hlo h11 hne hle (by omega)) ?_
    refine disp_main hf h11 n (l.drop 17) (E ++ (entsL tk (l.take 17)).toArray) (ep + 17) (subs ++ [dictObj (entsL tk (l.take 17)).toArray 17]) (tk + 51) (lastK lo (l.take 17)) a2 (by omega) ?_ ?_ ?_ ?_ ?_
    · rw [Array.isEmpty_eq_false_iff] at hne ⊢
      intro q
      exact hne (Array.append_eq_empty_iff.mp q).1
    · intro e he
      rcases Array.mem_append.mp he with h1 | h1
      · have := hle e h1; omega
      · exact (entsL_asc (l.take 17) tk lo a1).2 e (by simpa using h1)
    · have h9 : (entsL tk (l.take 17)).toArray.size = 17 := by rw [List.size_toArray, entsL_length, hc]
      rw [Array.size_append, h9, List.length_drop]; omega
    · rw [List.length_drop]; omega
    · rw [List.drop_drop, show 17 + 17 * n = 17 * (n + 1) by omega]
      have e1 : E ++ (entsL tk (l.take 17)).toArray ++ (entsL (tk + 51) ((l.drop 17).take (17 * n))).toArray = E ++ (entsL tk (l.take (17 * (n + 1)))).toArray := by
        have e2 : l.take (17 * (n + 1)) = l.take 17 ++ (l.drop 17).take (17 * n) := by
          rw [show 17 * (n + 1) = 17 + 17 * n by omega, List.take_add]
        rw [e2, entsL_append, hc]
        apply Array.toList_inj.mp
        simp
      rw [e1, show ep + 17 + 17 * n = ep + 17 * (n + 1) by omega, show tk + 51 + 51 * n = tk + 51 * (n + 1) by omega, List.append_assoc, List.singleton_append]
      exact h
end
end Mine
end

section
open PySem PySem.W PyProof.Rows
set_option maxRecDepth 100000
set_option maxHeartbeats 0
namespace Mine
def dEnts (tk : Nat) (prs : List (Int × Str)) : Array DictEntry := (entsL tk (prs.take 646)).toArray ++ (entsS 0 (tk + 1938) (prs.drop 646)).toArray
def dSubs (tk : Nat) (prs : List (Int × Str)) : List Obj := subsOf 37 (tk + 51) (prs.drop 17) ++ [dictObj (entsS 0 (tk + 1938) (prs.drop 646)).toArray 4]
section
variable {w : World} {pd : Pos} {s : Shared}
theorem flush_last {hb : Heap} {subs : List Obj} {E : Array DictEntry} {ep tk : Nat} {lo : Int} {c : List (Int × Str)} (hc : c.length = 4) (ha : Asc lo c) (hlo : 0 ≤ lo + 1) (h11 : Nat.ble 11 hb.objs.size = true) (hne : E.isEmpty = false) (hle : ∀ e ∈ E, e.hash ≤ lo) (hz : E.size + 17 < 100000) :
    Ev w 82 (flushD (c.map (pairOf pd)) (some hb.objs.size)) pd { s with heap := mkHeap hb (dictObj E ep) subs, toks := tk } (some hb.objs.size) pd
      { s with heap := mkHeap hb (dictObj (E ++ (entsS 0 tk c).toArray) (ep + 4)) (subs ++ [dictObj (entsS 0 tk c).toArray 4]), toks := tk + 12 } := by
  unfold flushD
  have h11' := Nat.le_of_ble_eq_true h11
  rw [if_neg (by cases c with | nil => simp at hc | cons x c => simp)]
  dsimp only
  have hsz : (mkHeap hb (dictObj E ep) subs).objs.size = hb.objs.size + 1 + subs.length := mkHeap_size
  have e1 := subDict_short (w := w) (pd := pd) (s := { s with heap := mkHeap hb (dictObj E ep) subs, toks := tk }) (prs := c) (lo := lo) (by omega) ha hlo (by
    show Nat.ble 11 (mkHeap hb (dictObj E ep) subs).objs.size = true
    rw [hsz]; exact Nat.ble_eq_true_of_le (by omega))
  dsimp only at e1
  rw [mkHeap_push, hsz, hc] at e1
  refine Ev.bind (n := 53) (m := 29) (Ev.holding e1) ?_
  have hA : ((entsS 0 tk c).toArray).size = 4 := by rw [List.size_toArray, entsS_length, hc]
  have e2 := merge_last (w := w) (pd := pd) (s := { s with toks := tk + 3 * 4 }) (hb := hb) (subs := subs) (E := E) (ep := ep) (lo := lo) (A := (entsS 0 tk c).toArray) (na := 4) h11 hne (by exact entsS_asc c tk lo ha) hle (by rw [hA]; omega)
  rw [hA] at e2
  exact Ev.bind (n := 29) (m := 0) (Ev.onRaise (Ev.holding e2)) Ev.pure

theorem display_ev {prs : List (Int × Str)} (hlen : prs.length = 650) (ha : Asc (-1) prs) (h11 : Nat.ble 11 s.heap.objs.size = true) :
    Ev w 12515 (dictDisplay ((prs.map (pairOf pd)).map itemOf)) pd s (.ref s.heap.objs.size) pd { s with heap := mkHeap s.heap (dictObj (dEnts s.toks prs) 650) (dSubs s.toks prs), toks := s.toks + 1950 } := by
  have hsp : prs.take 17 ++ prs.drop 17 = prs := List.take_append_drop 17 prs
  have hc : (prs.take 17).length = 17 := by rw [List.length_take]; omega
  obtain ⟨a1, a2⟩ := Asc.split (prs.take 17) (by rw [hsp]; exact ha)
  have hlast := a1.le
  have hE := entsL_asc (prs.take 17) s.toks (-1) a1
  have hl17 : (prs.drop 17).length = 633 := by rw [List.length_drop]; omega
  have hsp2 : (prs.drop 17).take 629 ++ (prs.drop 17).drop 629 = prs.drop 17 := List.take_append_drop 629 _
  obtain ⟨b1, b2⟩ := Asc.split ((prs.drop 17).take 629) (by rw [hsp2]; exact a2)
  have hlast2 := b1.le
  have hE2 := entsL_asc ((prs.drop 17).take 629) (s.toks + 51) _ b1
  have hdd : (prs.drop 17).drop 629 = prs.drop 646 := by rw [List.drop_drop]
  have hl4 : (prs.drop 646).length = 4 := by rw [List.length_drop]; omega
  have hE17 : (entsL s.toks (prs.take 17)).toArray.isEmpty = false := by
    rw [Array.isEmpty_eq_false_iff]
    intro q
    have := congrArg Array.size q
    rw [List.size_toArray, entsL_length, hc] at this
    cases this
  have eAll : (entsL s.toks (prs.take 17)).toArray ++ (entsL (s.toks + 51) ((prs.drop 17).take (17 * 37))).toArray = (entsL s.toks (prs.take 646)).toArray := by
    have e2 : prs.take 646 = prs.take 17 ++ (prs.drop 17).take (17 * 37) := by
      rw [show 646 = 17 + 17 * 37 by rfl, List.take_add]
    rw [e2, entsL_append, hc]
    apply Array.toList_inj.mp
    simp
  have hS : (entsL s.toks (prs.take 646)).toArray.size = 646 := by
    rw [List.size_toArray, entsL_length, List.length_take]; omega
  unfold dictDisplay
  rw [show (12515 : Nat) = (223 + (330 * 37 + 0)) + 82 by rfl]
  refine Ev.bind (n := 223 + (330 * 37 + 0)) (m := 82) (a := (some s.heap.objs.size, (prs.drop 646).map (pairOf pd))) (pos' := pd)
    (s' := { s with heap := mkHeap s.heap (dictObj ((entsL s.toks (prs.take 17)).toArray ++ (entsL (s.toks + 51) ((prs.drop 17).take (17 * 37))).toArray) (17 + 17 * 37)) ([] ++ subsOf 37 (s.toks + 51) (prs.drop 17)), toks := s.toks + 51 + 51 * 37 }) ?_ ?_
  · rw [show (prs.map (pairOf pd)).map itemOf = (((prs.take 17).map (pairOf pd)).map itemOf) ++ (((prs.drop 17).map (pairOf pd)).map itemOf) by rw [← List.map_append, ← List.map_append, hsp]]
    refine disp_chunk (main' := some s.heap.objs.size) (s' := { s with heap := mkHeap s.heap (dictObj (entsL s.toks (prs.take 17)).toArray 17) [], toks := s.toks + 51 }) (fun k v st => by rfl) _ [] (by rw [List.length_map, hc]; rfl) (by intro q; have := congrArg List.length q; rw [List.length_map, hc] at this; cases this) ?_ ?_
    · rw [List.nil_append]
      unfold flushD
      rw [if_neg (by cases hq : prs.take 17 with | nil => rw [hq] at hc; cases hc | cons x c => simp)]
      have e1 := subDict_long (w := w) (pd := pd) (s := s) (prs := prs.take 17) (lo := -1) (by omega) (by omega) a1 (by omega) h11
      rw [hc, push_mk] at e1
      exact Ev.bind (n := 223) (m := 0) e1 Ev.pure
    · refine disp_main (s := s) (fun k v st => by rfl) h11 37 (prs.drop 17) (entsL s.toks (prs.take 17)).toArray 17 [] (s.toks + 51) (lastK (-1) (prs.take 17)) a2 (by omega) hE17 (fun e he => hE.2 e (by simpa using he)) ?_ (by omega) ?_
      · have h9 : (entsL s.toks (prs.take 17)).toArray.size = 17 := by rw [List.size_toArray, entsL_length, hc]
        rw [h9]; omega
      · rw [show 17 * 37 = 629 by rfl, hdd]
        have key := fun f hf => disp_short (w := w) (pd := pd) (f := f) hf (main := some s.heap.objs.size) (s := { s with heap := mkHeap s.heap (dictObj ((entsL s.toks (prs.take 17)).toArray ++ (entsL (s.toks + 51) ((prs.drop 17).take 629)).toArray) (17 + 629)) ([] ++ subsOf 37 (s.toks + 51) (prs.drop 17)), toks := s.toks + 51 + 51 * 37 }) ((prs.drop 646).map (pairOf pd)) [] (by rw [List.length_map, hl4]; decide)
        exact key _ (fun k v st => by rfl)
  · dsimp only
    rw [eAll, List.nil_append, show s.toks + 51 + 51 * 37 = s.toks + 1938 by omega, show 17 + 17 * 37 = 646 by rfl]
    have e4 := flush_last (w := w) (pd := pd) (s := s) (hb := s.heap) (subs := subsOf 37 (s.toks + 51) (prs.drop 17)) (E := (entsL s.toks (prs.take 646)).toArray) (ep := 646) (tk := s.toks + 1938) (c := prs.drop 646)
      (lo := lastK (lastK (-1) (prs.take 17)) ((prs.drop 17).take 629)) hl4 (by rw [← hdd]; exact b2) (by omega) h11 ?_ ?_ (by rw [hS]; omega)
    · rw [show s.toks + 1938 + 12 = s.toks + 1950 by omega] at e4
      exact Ev.bind (n := 82) (m := 0) e4 Ev.pure
    · rw [Array.isEmpty_eq_false_iff]
      intro q
      rw [q] at hS
      cases hS
    · intro e he
      rw [← eAll] at he
      rcases Array.mem_append.mp he with h1 | h1
      · have := hE.2 e (by simpa using h1); omega
      · exact hE2.2 e (by simpa using h1)
end
end Mine
end

section
open PySem PySem.W PyProof.Rows
set_option maxRecDepth 100000
set_option maxHeartbeats 0
namespace Mine
def okPairs : List (Option PySem.Expr) → List PySem.Expr → Option (List (Int × Str))
  | [], [] => some []
  | some (.Constant (.int i) _ _) :: ks, .Constant (.str x) _ _ :: vs => (okPairs ks vs).map ((i, x) :: ·)
  | _, _ => none
theorem okPairs_items {env : Env} {pd : Pos} : ∀ (ks : List (Option PySem.Expr)) (vs : List PySem.Expr) (prs : List (Int × Str)), okPairs ks vs = some prs →
    (evalEachOpt ks env).zip ((evalEach vs env).map fun v => do let x ← v; standAt pd; pure x) = (prs.map (pairOf pd)).map itemOf := by
  intro ks vs
  fun_induction okPairs ks vs with
  | case1 => intro prs h; cases h; rfl
  | case2 i _ _ ks x _ _ vs ih =>
    intro prs h
    obtain ⟨p2, h2, rfl⟩ := Option.map_eq_some_iff.mp h
    show (some _, _) :: (evalEachOpt ks env).zip ((evalEach vs env).map fun v => do let x ← v; standAt pd; pure x) = _ :: (p2.map (pairOf pd)).map itemOf
    rw [ih _ h2]
    rfl
  | case3 => intro prs h; cases h
def ascB : Int → List (Int × Str) → Bool
  | _, [] => true
  | lo, (i, _) :: r => decide (lo < i) && (decide (i < 2 ^ 60) && ascB i r)
theorem asc_of : ∀ (prs : List (Int × Str)) (lo : Int), ascB lo prs = true → Asc lo prs
  | [], _, _ => trivial
  | (i, x) :: r, lo, h => by
    unfold ascB at h
    rw [Bool.and_eq_true, Bool.and_eq_true] at h
    exact ⟨of_decide_eq_true h.1, of_decide_eq_true h.2.1, asc_of r i h.2.2⟩
noncomputable section
def dks : List (Option PySem.Expr) := match dct with | .Dict a _ _ => a | _ => []
def dvs : List PySem.Expr := match dct with | .Dict _ b _ => b | _ => []
def prs : List (Int × Str) := (okPairs dks dvs).getD []
theorem dct_eq : dct = .Dict dks dvs pos2 := by kernel_rfl
theorem prs_some : (okPairs dks dvs).isSome = true := by kernel_rfl
theorem prs_eq : okPairs dks dvs = some prs := by
  unfold prs
  have := prs_some
  cases h : okPairs dks dvs with
  | none => rw [h] at this; cases this
  | some x => rfl
theorem prs_facts : (prs.length, ascB (-1) prs) = (650, true) := by kernel_rfl
theorem prs_len : prs.length = 650 := congrArg Prod.fst prs_facts
theorem prs_asc : Asc (-1) prs := asc_of _ _ (congrArg Prod.snd prs_facts)
def ps1 : Pos := match (bdy[1]? : Option Stmt) with | some (Stmt.Assign _ _ p) => p | _ => zp
def tg1 : PySem.Expr := match tgt with | [t] => t | _ => .Constant .none 0 zp
theorem tgt_eq : tgt = [tg1] := by kernel_rfl
theorem bdy_eq : bdy.drop 1 = Stmt.Assign [tg1] (.Dict dks dvs pos2) ps1 :: rest2 := by kernel_rfl
end
theorem Ev.step {α β : Type} {w : World} {n m : Nat} {t : Sem α} {f : α → Sem β} {a : α} {pos pos' : Pos} {s s' : Shared} {K : β → Sem Fin} {H : Value → Sem Fin} {gd : Bool → Bool} {lv : List Value → List Value} (h : Ev w n t pos s a pos' s') :
    topGo treeTable pp w 11 annv (n + m) s ⟨(t >>= f).wrap K H gd lv, cT, pos, BT0⟩ = topGo treeTable pp w 11 annv m s' ⟨(f a).wrap K H gd lv, cT, pos', BT0⟩ := by
  rw [Sem.bind_eq_wrap', Sem.wrap_wrap, topGo_add (h _ _ _ _)]
theorem assign_tree {t : PySem.Expr} {ks : List (Option PySem.Expr)} {vs : List PySem.Expr} {ps pd : Pos} {rest : List Stmt} : execs (Stmt.Assign [t] (.Dict ks vs pd) ps :: rest) envT =
    (standAt ps >>= fun _ => standAt pd >>= fun _ => dictDisplay ((evalEachOpt ks envT).zip ((evalEach vs envT).map fun v => do let x ← v; standAt pd; pure x)) >>= fun a =>
      ((do assignStores envT a (← swappedStores [t] (.Dict ks vs pd) envT) ((assignEach [t] envT).map Prod.snd)) >>= fun f => match f with | .next => execs rest envT | f => pure f)) := by
  rw [execs_cons, arm_exec_Assign]
  have : ∀ v : PySem.Expr, v = .Dict ks vs pd → swapsWithSole [t] v ps.line envT = pure false := by intro v hv; subst hv; rfl
  rw [this _ rfl]
  simp only [arm_eval_Dict, bind_assoc, pure_bind, Bool.false_eq_true, ↓reduceIte]
  rfl
theorem assign_ev {w : World} {t : PySem.Expr} {ks : List (Option PySem.Expr)} {vs : List PySem.Expr} {ps pd : Pos} {rest : List Stmt} {pos : Pos} {s s' : Shared} {n : Nat} {a : Value}
    (h : Ev w n (dictDisplay ((evalEachOpt ks envT).zip ((evalEach vs envT).map fun v => do let x ← v; standAt pd; pure x))) pd s a pd s') :
    topGo treeTable pp w 11 annv (1 + (1 + (n + 0))) s ⟨(execs (Stmt.Assign [t] (.Dict ks vs pd) ps :: rest) envT).wrap doneF (leaveH envT) id id, cT, pos, BT0⟩ =
      some (s', ⟨((do assignStores envT a (← swappedStores [t] (.Dict ks vs pd) envT) ((assignEach [t] envT).map Prod.snd)) >>= fun f => match f with | .next => execs rest envT | f => pure f).wrap doneF (leaveH envT) id id, cT, pd, BT0⟩) := by
  rw [assign_tree, Ev.step Ev.standAt, Ev.step Ev.standAt, Ev.step h]
  rfl
noncomputable section
def dF (i : Nat) : Obj := (dSubs 189 prs).getD i default
theorem dSubs_eq : dSubs 189 prs = (List.range 38).map dF := by
  have hl : (dSubs 189 prs).length = 38 := by kernel_rfl
  apply List.ext_getElem
  · rw [hl, List.length_map, List.length_range]
  · intro i h1 h2
    rw [List.getElem_map, List.getElem_range]
    unfold dF
    rw [List.getD_eq_getElem?_getD, List.getElem?_eq_getElem h1]
    rfl
theorem dict_run (w : World) (os : OsState) : topGo treeTable pp w 11 annv 12517 (S1 w os) (restOf (bdy.drop 1) envT cT pos1 BT0) = some (S2 w os (dEnts 189 prs) dF, ⟨K2 (.ref 15), cT, pos2, BT0⟩) := by
  have hf := S1_facts w os
  simp only [Prod.mk.injEq] at hf
  obtain ⟨f1, f2, f3, f4⟩ := hf
  have hd := display_ev (w := w) (pd := pos2) (s := S1 w os) prs_len prs_asc (by rw [f1]; rfl)
  rw [← okPairs_items (env := envT) dks dvs prs prs_eq, f1, f2, dSubs_eq] at hd
  unfold restOf
  rw [bdy_eq]
  have e := assign_ev (t := tg1) (ps := ps1) (rest := rest2) (pos := pos1) hd
  have hs : ({ S1 w os with heap := mkHeap (S1 w os).heap (dictObj (dEnts 189 prs) 650) ((List.range 38).map dF), toks := 189 + 1950 } : Shared) = S2 w os (dEnts 189 prs) dF := by
    unfold S2
    rw [Shared.mk.injEq]
    exact ⟨rfl, f3, by kernel_rfl, rfl, f4⟩
  rw [hs] at e
  have hk : K2 (.ref 15) = ((do assignStores envT (.ref 15) (← swappedStores [tg1] (.Dict dks dvs pos2) envT) ((assignEach [tg1] envT).map Prod.snd)) >>= fun f => match f with | .next => execs rest2 envT | f => pure f).wrap doneF (leaveH envT) id id := by
    unfold K2
    rw [tgt_eq, dct_eq]
    try rfl
  rw [hk]
  exact e
end
end Mine
end

section
open PySem PySem.W PyProof.Rows
set_option maxRecDepth 100000
set_option maxHeartbeats 0
namespace Mine
noncomputable section
def NN : Nat := 30000
theorem fin_some (w : World) (os : OsState) : ∃ r, fin2 w os (dEnts 189 prs) dF = some r ∧ look1 w r = true ∧ openSeen vw lse mods Xt true r = openGood vw lse ∧ obs r = (where_, some (dictObj (dEnts 189 prs) 650), true) := by
  obtain ⟨r, hr, h1⟩ := Option.map_eq_some_iff.mp (l1 w os (dEnts 189 prs) dF)
  have h2 := l2 w os (dEnts 189 prs) dF
  have h3 := l3 w os (dEnts 189 prs) dF
  rw [hr] at h2 h3
  exact ⟨r, hr, h1, Option.some.inj h2, Option.some.inj h3⟩
theorem blk_ok (w : World) (os : OsState) : segRun treeTable pp w 11 annv 1 1 (Sa w os) (blockOf bdy envT cT zp BT0) = some (.next, Sa w os, cT, zp) := by kernel_rfl
theorem top_run (w : World) (os : OsState) (r : Shared) (h : fin2 w os (dEnts 189 prs) dF = some r) : topRun treeTable pp w 11 annv NN (S0 w os) (topStub pp) = some r := by
  have e1 : topRun treeTable pp w 11 annv (12517 + 1000) (S1 w os) (restOf (bdy.drop 1) envT cT pos1 BT0) = some r := go_top (dict_run w os) h
  have e2 : topRun treeTable pp w 11 annv (10 + (12517 + 1000)) (Sa w os) (restOf (st0 ++ bdy.drop 1) envT cT zp BT0) = some r := piece_app (seg0_ok w os) e1
  rw [show st0 ++ bdy.drop 1 = bdy from List.take_append_drop 1 bdy] at e2
  have e3 : topRun treeTable pp w 11 annv (1 + (10 + (12517 + 1000))) (Sa w os) ⟨denote treeTable cT, cT, zp, BT0⟩ = some r := piece_block (blk_ok w os) e2
  have e4 := go_top (pre_ok w os) e3
  have := topRun_mono (NN - (12 + (1 + (10 + (12517 + 1000))))) _ _ _ _ e4
  exact this
theorem boot_ok (w : World) : (fencedOpening treeTable pp w NN).map (fun s => (s.heap, s.gens, s.drawn, s.toks)) = some (boot_heap w.params, Array.mk [], boot_drawn, boot_toks) :=
  boot_open (by kernel_rfl) (by kernel_rfl) (fun s => by rfl) w
theorem left_ok : LeftO pp vw lse Xt obs (fun _ => (where_, some (dictObj (dEnts 189 prs) 650), true)) NN := fun w => by
  obtain ⟨⟨h, gs, d, k, os⟩, e, e'⟩ := Option.map_eq_some_iff.mp (boot_ok w)
  obtain ⟨rfl, rfl, rfl, rfl⟩ : h = boot_heap w.params ∧ gs = Array.mk [] ∧ d = boot_drawn ∧ k = boot_toks := by simpa using e'
  have z : ((boot_heap w.params).isNs mainGlobals && (Array.mk [] : Array GenState).size == 0, (boot_heap w.params).objs.size, (boot_heap w.params).nsMap mainGlobals "__annotations__") = (true, 11, annv) := by kernel_rfl
  obtain ⟨z1, z2, z3⟩ : _ ∧ _ ∧ _ := by simpa only [Prod.mk.injEq] using z
  obtain ⟨r, hr, l1, l2, l3⟩ := fin_some w os
  have t : topFrom treeTable pp w NN ⟨boot_heap w.params, Array.mk [], boot_drawn, boot_toks, os⟩ = some r := by
    unfold topFrom
    dsimp only
    rw [z1, z2, z3, show (⟨boot_heap w.params, Array.mk [], boot_drawn, boot_toks, os⟩ : Shared) = S0 w os from rfl, top_run w os r hr]
    unfold look1 at l1
    show (match staticsOk mods (boot_heap w.params) r.heap && namesBound pp r.heap && gensDone r && laidKept (boot_heap w.params) r.heap with | true => _ | false => _) = _
    rw [l1]
  unfold openEnds
  rw [e]
  show (topFrom treeTable pp w NN _).map _ = _
  rw [t]
  exact congrArg some (Prod.ext l2 l3)
end
end Mine
end

section
open PySem PySem.W PyProof.Rows PySem.Calls
set_option maxRecDepth 100000
set_option maxHeartbeats 0
namespace Mine
/-- what stays: the table of the top, and where the names lie -/
def Says (_ : World) (h : Heap) : Prop := ∃ mg, h.Ns mainGlobals mg ∧ nms.map mg = where_ ∧ h.get? 15 = some (dictObj (dEnts 189 prs) 650)
theorem says_of (w : World) (s : Shared) (e : obs s = (where_, some (dictObj (dEnts 189 prs) 650), true)) : Says w s.heap := by
  simp only [obs, Prod.mk.injEq] at e
  exact ⟨_, Heap.Ns.of_isNs e.2.2, e.1, e.2.1⟩
theorem says_keeps (w : World) (h h' : Heap) (x : Says w h) (k : ∀ b o, h.get? b = some o → h'.get? b = some o) : Says w h' := by
  obtain ⟨mg, h1, h2, h3⟩ := x
  exact ⟨mg, h1.keeps k, h2, k _ _ h3⟩
theorem ns_same {h : Heap} {a : Addr} {m m' : Str → Option Value} (x : h.Ns a m) (y : h.Ns a m') : m = m' := by
  obtain ⟨o, es, ep, h1, h2, _, h3⟩ := x
  obtain ⟨o', es', ep', k1, k2, _, k3⟩ := y
  rw [h1] at k1; cases k1
  rw [h2] at k2; cases k2
  funext n
  rw [← h3, ← k3]
noncomputable section
def fdAt (i : Nat) : DefRec := match (pp.main.body[i]? : Option Stmt) with | some (Stmt.FunctionDef name params body _ _ _ scope _ _ pos) => ⟨name, params, body, scope, pos⟩ | _ => ⟨"", ⟨[], [], none, [], [], none, []⟩, [], ⟨.function, [], false, false, []⟩, zp⟩
theorem recs_eq : recsOf vw = [fdAt 2, fdAt 4, fdAt 5, fdAt 6, fdAt 7, fdAt 8, fdAt 10, fdAt 11, fdAt 12, fdAt 13, fdAt 14, fdAt 15] := by kernel_rfl
end
/-- a def of the text, as it lies -/
def FnAt (g : Heap) (a : Addr) (d : DefRec) : Prop := ∃ o pm code doc, g.get? a = some o ∧ o.data = .func (docDef d.name d.params d.body d.scope pm code doc) ∧ g.CodeRec code d.name
/-- what a call finds -/
structure GdAt (mg mb : Str → Option Value) (g : Heap) : Prop where
  t : ∃ mean, Top vw (looseW vw lse) mean mg mb g
  nm : nms.map mg = where_
  dict : g.get? 15 = some (dictObj (dEnts 189 prs) 650)
theorem GdAt.keeps {mg mb : Str → Option Value} {g g' : Heap} (G : GdAt mg mb g) (hk : ∀ b o, g.get? b = some o → g'.get? b = some o) : GdAt mg mb g' :=
  ⟨let ⟨me, T⟩ := G.t; ⟨me, T.keeps hk⟩, G.nm, hk _ _ G.dict⟩
theorem GdAt.nolimit {mg mb : Str → Option Value} {g : Heap} (G : GdAt mg mb g) : g.NoLimit := let ⟨_, T⟩ := G.t; T.nolimit
theorem GdAt.fn {mg mb : Str → Option Value} {g : Heap} (G : GdAt mg mb g) {d : DefRec} {a : Addr} (hd : d ∈ recsOf vw) (hm : mg d.name = some (.ref a)) : FnAt g a d := by
  obtain ⟨me, T⟩ := G.t
  obtain ⟨a', o, pm, code, doc, h1, h2, h3, h4⟩ := T.fn d hd
  rw [hm] at h1; cases h1
  exact ⟨o, pm, code, doc, h2, h3, h4⟩
/-- the names, one by one -/
structure Nm (mg : Str → Option Value) : Prop where
  exc : mg (Str.ofString "b3_exceptions") = some (.ref 15)
  b3 : mg (Str.ofString "map_table_b3") = some (.ref 60)
  push : mg (Str.ofString "heappush") = some (.ref 67)
  pop : mg (Str.ofString "heappop") = some (.ref 74)
  repl : mg (Str.ofString "heapreplace") = some (.ref 81)
  sdown : mg (Str.ofString "_siftdown") = some (.ref 88)
  sup : mg (Str.ofString "_siftup") = some (.ref 95)
  sign : mg (Str.ofString "_law_sign") = some (.ref 102)
  meant : mg (Str.ofString "_law_meant") = some (.ref 109)
  shop : mg (Str.ofString "_law_shop") = some (.ref 116)
  ways : mg (Str.ofString "_law_ways") = some (.ref 121)
  told : mg (Str.ofString "_law_told") = some (.ref 126)
  law : mg (Str.ofString "law") = some (.ref 131)
  nlen : mg (Str.ofString "len") = none
  nint : mg (Str.ofString "int") = none
  nchr : mg (Str.ofString "chr") = none
  nord : mg (Str.ofString "ord") = none
  nenum : mg (Str.ofString "enumerate") = none
  nrange : mg (Str.ofString "range") = none
  nrev : mg (Str.ofString "reversed") = none
  nsorted : mg (Str.ofString "sorted") = none
theorem GdAt.nms {mg mb : Str → Option Value} {g : Heap} (G : GdAt mg mb g) : Nm mg := by
  have h := G.nm
  simp only [Mine.nms, where_, List.map_cons, List.map_nil, List.cons.injEq, and_true] at h
  obtain ⟨h1, h2, h3, h4, h5, h6, h7, h8, h9, h10, h11, h12, h13, h14, h15, h16, h17, h18, h19, h20, h21⟩ := h
  exact ⟨h1, h2, h3, h4, h5, h6, h7, h8, h9, h10, h11, h12, h13, h14, h15, h16, h17, h18, h19, h20, h21⟩
section
variable {mg mb : Str → Option Value} {g : Heap}
theorem GdAt.fn_b3 (G : GdAt mg mb g) : FnAt g 60 (fdAt 2) := G.fn (by rw [recs_eq]; simp) G.nms.b3
theorem GdAt.fn_push (G : GdAt mg mb g) : FnAt g 67 (fdAt 4) := G.fn (by rw [recs_eq]; simp) G.nms.push
theorem GdAt.fn_pop (G : GdAt mg mb g) : FnAt g 74 (fdAt 5) := G.fn (by rw [recs_eq]; simp) G.nms.pop
theorem GdAt.fn_repl (G : GdAt mg mb g) : FnAt g 81 (fdAt 6) := G.fn (by rw [recs_eq]; simp) G.nms.repl
theorem GdAt.fn_sdown (G : GdAt mg mb g) : FnAt g 88 (fdAt 7) := G.fn (by rw [recs_eq]; simp) G.nms.sdown
theorem GdAt.fn_sup (G : GdAt mg mb g) : FnAt g 95 (fdAt 8) := G.fn (by rw [recs_eq]; simp) G.nms.sup
theorem GdAt.fn_sign (G : GdAt mg mb g) : FnAt g 102 (fdAt 10) := G.fn (by rw [recs_eq]; simp) G.nms.sign
theorem GdAt.fn_meant (G : GdAt mg mb g) : FnAt g 109 (fdAt 11) := G.fn (by rw [recs_eq]; simp) G.nms.meant
theorem GdAt.fn_shop (G : GdAt mg mb g) : FnAt g 116 (fdAt 12) := G.fn (by rw [recs_eq]; simp) G.nms.shop
theorem GdAt.fn_ways (G : GdAt mg mb g) : FnAt g 121 (fdAt 13) := G.fn (by rw [recs_eq]; simp) G.nms.ways
theorem GdAt.fn_told (G : GdAt mg mb g) : FnAt g 126 (fdAt 14) := G.fn (by rw [recs_eq]; simp) G.nms.told
theorem GdAt.fn_law (G : GdAt mg mb g) : FnAt g 131 (fdAt 15) := G.fn (by rw [recs_eq]; simp) G.nms.law
end
end Mine
end

section
open PySem PySem.W PyProof.Rows PySem.Calls
set_option maxRecDepth 100000
namespace Mine
section
variable {prog : Program} {w : World} {A : Around} {E : Value → Shared → Prop} {s : Shared} {env : Env}

def WStep (J : Nat → Shared → Prop) (Q : Flow → Shared → Prop) (n : Nat) (f : Flow) (s₃ : Shared) : Prop :=
  match f with
  | .next | .cont => ∃ k, k < n ∧ J k s₃
  | .brk => Q .next s₃
  | .ret v => Q (.ret v) s₃

theorem whileJ {test : Expr} {body : List Stmt} {pos : Pos} {Q : Flow → Shared → Prop} (J : Nat → Shared → Prop) {n₀ : Nat} (h0 : J n₀ s)
    (turn : ∀ n s', J n s' → wpAny (model prog w) A (isTrue test env (eval test env)) (fun b s₂ => if b = true then wpAny (model prog w) A (execs body env) (WStep J Q n) (fun _ _ => False) s₂ else Q .next s₂) (fun _ _ => False) s') :
    wpAny (model prog w) A (exec (.While test body [] pos) env) Q (fun _ _ => False) s := by
  refine wpAny_While (codeAny_whileLoop J ?_ n₀ h0)
  intro n s' hJ
  refine wpAny_mono (turn n s' hJ) (fun b s₂ h₂ => ?_) fun _ _ h => h.elim
  cases b with
  | false =>
    simp only [Bool.false_eq_true, if_false] at h₂ ⊢
    exact wpAny_execs_nil h₂
  | true =>
    simp only [if_true] at h₂ ⊢
    refine wpAny_mono h₂ (fun f s₃ h₃ => ?_) fun _ _ h => h.elim
    cases f <;> exact h₃

theorem callFn {f : Addr} {o : Obj} {pm cdv doc : Value} {name : Str} {params : Arguments} {body : List Stmt} {scope : Scope} {args : List Value} {binds : List (Str × Value)} {Q : Value → Shared → Prop}
    (ho : s.heap.get? f = some o) (hd : o.data = .func (docDef name params body scope pm cdv doc)) (hc : s.heap.CodeRec cdv name) (hlim : s.heap.NoLimit) (hroom : A.depth < recursionLimit)
    (hbind : BindsTo s (docDef name params body scope pm cdv doc) ⟨args, []⟩ binds) (hloc : ∀ y ∈ binds, scope.names.lookup y.1 = some .local) (hcell : ∀ x ∈ scope.names, x.2 ≠ .cell)
    (hco : scope.isCoroutine = false) (hgen : scope.isGenerator = false) (hk : scope.kind = .function)
    (h : ∀ h₁, h₁.Ns s.heap.objs.size (fun y => binds.reverse.lookup y) → (∀ b o, s.heap.get? b = some o → h₁.get? b = some o) →
      wpAny (model prog w) (A.deeper (envOf name scope s.heap.objs.size f cdv)) (execs body (envOf name scope s.heap.objs.size f cdv)) (fun fl s' => Q (match fl with | .ret v => v | _ => .none) s') (fun _ _ => False)
        { s with heap := h₁, toks := s.toks + binds.length }) : wpAny (model prog w) A (call (.ref f) args) Q E s := by
  refine wpAny_call (codeAny_call_def (fd := docDef name params body scope pm cdv doc) hroom ho hd hlim hc rfl hbind hcell hloc (fun h₁ hns hkp => ?_) hco hgen hk)
  exact wpAny_mono (h h₁ hns hkp) (fun fl s' hq => hq) fun _ _ x => x.elim
end
theorem no_part {g : Heap} : Frag.In [] g := fun _ _ e => nomatch e
theorem FnAt.keeps {g g' : Heap} {a : Addr} {d : DefRec} (x : FnAt g a d) (hk : ∀ b o, g.get? b = some o → g'.get? b = some o) : FnAt g' a d :=
  let ⟨o, pm, cd, doc, h1, h2, h3⟩ := x; ⟨o, pm, cd, doc, hk _ _ h1, h2, h3.keeps hk⟩

/-- an entry of the heap, as it lies -/
def TripH (h : Heap) (v : Value) (e : Ent) : Prop := ∃ a t1 t2 t3, v = .ref a ∧ IsTup h a #[.int e.1 t1, .str e.2.1 t2, .int e.2.2 t3]
theorem TripH.keeps {h h' : Heap} {v : Value} {e : Ent} (x : TripH h v e) (hk : ∀ b o, h.get? b = some o → h'.get? b = some o) : TripH h' v e :=
  let ⟨a, t1, t2, t3, e1, i⟩ := x; ⟨a, t1, t2, t3, e1, i.keeps hk⟩
abbrev Z := Value × Ent
def zlt (a b : Z) : Bool := elt a.2 b.2
theorem ord_zlt : Ordd zlt := ⟨fun a => tot_elt.irr a.2, fun a b c => tot_elt.tr a.2 b.2 c.2, fun a b c => tot_elt.ntr a.2 b.2 c.2⟩
end Mine
end

section
open PySem PySem.W PyProof.Rows
set_option maxRecDepth 100000
namespace Mine
section
variable {prog : Program} {w : World} {A : Around} {E : Value → Shared → Prop} {s : Shared}

theorem trip_lt_tree {a b : Addr} {p p' d d' : Int} {x x' : Str} {t1 t2 t3 u1 u2 u3 : Tok} {P : PySem.Fin → Shared → Prop}
    (ha : IsTup s.heap a #[.int p t1, .str x t2, .int d t3]) (hb : IsTup s.heap b #[.int p' u1, .str x' u2, .int d' u3])
    (h : P (.done (.ret (.bool (elt (p, x, d) (p', x', d'))))) s) :
    wpAny (model prog w) A (Builtin.«tuple.__lt__» ⟨[.ref a, .ref b], []⟩) P E s := by
  have hTb := hb.typeIs
  obtain ⟨oa, hoa, _, na, hda⟩ := ha
  obtain ⟨ob, hob, _, nb, hdb⟩ := hb
  show wpAny _ _ (isInstance (.ref b) (.type "tuple") >>= _) _ _ s
  refine wpAny_bind (wpAny_isInstance hTb isSubtype_tuple_tuple ?_)
  simp only [Bool.not_true, Bool.false_eq_true, if_false]
  refine wpAny_bind (wpAny_tupleItemsOf hoa hda ?_)
  refine wpAny_bind (wpAny_tupleItemsOf hob hdb ?_)
  refine wpAny_bind ?_
  show wpAny _ _ (forIn [(Value.int p t1, Value.int p' u1), (Value.str x t2, Value.str x' u2), (Value.int d t3, Value.int d' u3)] _ _) _ _ _
  rw [List.forIn_cons]
  refine wpAny_bind (wpAny_bind (wpAny_eqBool_int ?_))
  have e0 : elt (p, x, d) (p', x', d') = if p = p' then (if x = x' then decide (d < d') else decide (x.cps.toList < x'.cps.toList)) else decide (p < p') := rfl
  by_cases h1 : p = p'
  · subst h1
    rw [if_pos rfl] at e0
    simp only [beq_self_eq_true, Bool.not_true, Bool.false_eq_true, if_false]
    refine wpAny_pure ?_
    show wpAny _ _ (forIn [(Value.str x t2, Value.str x' u2), (Value.int d t3, Value.int d' u3)] _ _) _ _ _
    rw [List.forIn_cons]
    refine wpAny_bind (wpAny_bind (wpAny_eqBool_str ?_))
    by_cases h2 : x = x'
    · subst h2
      rw [if_pos rfl] at e0
      simp only [decide_true, Bool.not_true, Bool.false_eq_true, if_false]
      refine wpAny_pure ?_
      show wpAny _ _ (forIn [(Value.int d t3, Value.int d' u3)] _ _) _ _ _
      rw [List.forIn_cons]
      refine wpAny_bind (wpAny_bind (wpAny_eqBool_int ?_))
      by_cases h3 : d = d'
      · subst h3
        simp only [beq_self_eq_true, Bool.not_true, Bool.false_eq_true, if_false]
        refine wpAny_pure ?_
        show wpAny _ _ (forIn [] _ _) _ _ _
        rw [List.forIn_nil]
        refine wpAny_pure (wpAny_pure ?_)
        rw [e0, decide_eq_false (Int.lt_irrefl d)] at h
        exact h
      · have hb : (d == d') = false := beq_eq_false_iff_ne.mpr h3
        simp only [hb, Bool.not_false, if_true]
        refine wpAny_bind (wpAny_rule (wpAny_bind (lt_int (show wpAny _ _ _ _ _ _ from ?_))))
        refine wpAny_bind (wpAny_pure (wpAny_pure (wpAny_pure ?_)))
        rw [e0] at h
        exact wpAny_pure h
    · rw [if_neg h2] at e0
      simp only [h2, decide_false, Bool.not_false, if_true]
      refine wpAny_bind (wpAny_rule (wpAny_bind (lt_str (show wpAny _ _ _ _ _ _ from ?_))))
      refine wpAny_bind (wpAny_pure (wpAny_pure (wpAny_pure ?_)))
      rw [e0] at h
      exact wpAny_pure h
  · rw [if_neg h1] at e0
    have hb : (p == p') = false := beq_eq_false_iff_ne.mpr h1
    simp only [hb, Bool.not_false, if_true]
    refine wpAny_bind (wpAny_rule (wpAny_bind (lt_int (show wpAny _ _ _ _ _ _ from ?_))))
    refine wpAny_bind (wpAny_pure (wpAny_pure (wpAny_pure ?_)))
    rw [e0] at h
    exact wpAny_pure h

theorem trip_ne_tree {a b : Addr} {p d : Int} {x : Str} {t1 t2 t3 u1 u2 u3 : Tok} {P : PySem.Fin → Shared → Prop}
    (ha : IsTup s.heap a #[.int p t1, .str x t2, .int d t3]) (hb : IsTup s.heap b #[.int p u1, .str x u2, .int d u3])
    (h : P (.done (.ret (.bool false))) s) :
    wpAny (model prog w) A (Builtin.«tuple.__ne__» ⟨[.ref a, .ref b], []⟩) P E s := by
  have hTb := hb.typeIs
  obtain ⟨oa, hoa, _, na, hda⟩ := ha
  obtain ⟨ob, hob, _, nb, hdb⟩ := hb
  show wpAny _ _ (isInstance (.ref b) (.type "tuple") >>= _) _ _ s
  refine wpAny_bind (wpAny_isInstance hTb isSubtype_tuple_tuple ?_)
  simp only [Bool.not_true, Bool.false_eq_true, if_false]
  refine wpAny_bind (wpAny_tupleItemsOf hoa hda ?_)
  refine wpAny_bind (wpAny_tupleItemsOf hob hdb ?_)
  refine wpAny_bind ?_
  show wpAny _ _ (forIn [(Value.int p t1, Value.int p u1), (Value.str x t2, Value.str x u2), (Value.int d t3, Value.int d u3)] _ _) _ _ _
  rw [List.forIn_cons]
  refine wpAny_bind (wpAny_bind (wpAny_eqBool_int ?_))
  simp only [beq_self_eq_true, Bool.not_true, Bool.false_eq_true, if_false]
  refine wpAny_pure ?_
  show wpAny _ _ (forIn [(Value.str x t2, Value.str x u2), (Value.int d t3, Value.int d u3)] _ _) _ _ _
  rw [List.forIn_cons]
  refine wpAny_bind (wpAny_bind (wpAny_eqBool_str ?_))
  simp only [decide_true, Bool.not_true, Bool.false_eq_true, if_false]
  refine wpAny_pure ?_
  show wpAny _ _ (forIn [(Value.int d t3, Value.int d u3)] _ _) _ _ _
  rw [List.forIn_cons]
  refine wpAny_bind (wpAny_bind (wpAny_eqBool_int ?_))
  simp only [beq_self_eq_true, Bool.not_true, Bool.false_eq_true, if_false]
  refine wpAny_pure ?_
  show wpAny _ _ (forIn [] _ _) _ _ _
  rw [List.forIn_nil]
  exact wpAny_pure (wpAny_pure h)

theorem trip_ne {u v : Value} {e : Ent} {Q : Value → Shared → Prop} (hu : A.units < cLine) (ha : TripH s.heap u e) (hb : TripH s.heap v e) (h : Q (.bool false) s) :
    wpAny (model prog w) A (compareOp .NotEq u v) Q E s := by
  obtain ⟨a, t1, t2, t3, rfl, ha⟩ := ha
  obtain ⟨b, u1, u2, u3, rfl, hb⟩ := hb
  show wpAny _ _ (richCompare .NotEq (.ref a) (.ref b)) Q E s
  exact wpAny_richCompare_same_room (op := .NotEq) ha.typeIs hb.typeIs F.slot_tuple_ne
    (wpAny_call_entry F.slot_tuple_ne ha.typeIs F.entry_tuple_ne (trip_ne_tree ha hb ⟨_, rfl, (fun e => nomatch e), h⟩) (F.args_tuple_ne_2 _ _)) hu

theorem trip_lt {u v : Value} {e f : Ent} {Q : Value → Shared → Prop} (hu : A.units < cLine) (ha : TripH s.heap u e) (hb : TripH s.heap v f) (h : Q (.bool (elt e f)) s) :
    wpAny (model prog w) A (compareOp .Lt u v) Q E s := by
  obtain ⟨a, t1, t2, t3, rfl, ha⟩ := ha
  obtain ⟨b, u1, u2, u3, rfl, hb⟩ := hb
  show wpAny _ _ (richCompare .Lt (.ref a) (.ref b)) Q E s
  exact wpAny_richCompare_same_room (op := .Lt) ha.typeIs hb.typeIs F.slot_tuple_lt
    (wpAny_call_entry F.slot_tuple_lt ha.typeIs F.entry_tuple_lt (trip_lt_tree ha hb ⟨_, rfl, (fun e => nomatch e), h⟩) (F.args_tuple_lt_2 _ _)) hu
end
end Mine
end

section
open PySem PySem.W PyProof.Rows PySem.Calls
set_option maxRecDepth 100000
namespace Mine
section
variable {prog : Program} {w : World} {A : Around} {E : Value → Shared → Prop} {s : Shared} {g : Heap} {L l : Addr} {m : Str → Option Value} {news : List (Addr × Obj)} {vs : List Value} {n k : Nat}

theorem upd_head {o o' : Obj} (hne : ∀ p ∈ news, p.1 ≠ l) : Upd l o o' ((l, o) :: news) ((l, o') :: news) := Upd.head hne

theorem set_at {t : Tok} {v : Value} {Q : Unit → Shared → Prop} (F : Fr g L s.heap m) (N : News g L s.heap ((l, listOf vs.toArray n) :: news)) (hne : ∀ p ∈ news, p.1 ≠ l) (hk : k < vs.length) (hv : vs.length < 10000)
    (h : ∀ h', Fr g L h' m → News g L h' ((l, listOf (vs.set k v).toArray n) :: news) → Q () { s with heap := h' }) : wpAny (model prog w) A (setItem (.ref l) (.int (k : Int) t) v) Q E s := by
  have z := N (l, listOf vs.toArray n) (.head _)
  refine ki_setAt z.1 (by omega) (by omega) (by rw [List.size_toArray]; omega) (h _ (F.change (Heap.SameBut.update ..) z.2.1 z.2.2) ?_)
  have e := ki_turn (pre := []) (post := news) (its := vs.toArray) (its' := (vs.set k v).toArray) (n := n) (n' := n) (·.setIfInBounds (k : Int).toNat v) N (fun _ hp => nomatch hp) hne (by simp) (by simp)
  exact e

theorem item_at {value slice : PySem.Expr} {u : Tok} {v : Value} {Q : Value → Shared → Prop} (hl : s.heap.get? l = some (listOf vs.toArray n)) (hv : vs[k]? = some v) (hlen : vs.length < 10000) (h : Q v s)
    (hs : subscripted slice false (.ref l) (.int (k : Int) u) = operate [.ref l, .int (k : Int) u] (getItem (.ref l) (.int (k : Int) u)) := by with_unfolding_all rfl) :
    wpAny (model prog w) A (subscriptTail value slice (.ref l) (.int (k : Int) u)) Q E s := by
  have hL : s.heap.IsList l vs.toArray := ⟨_, hl, rfl, n, rfl⟩
  have hk : k < vs.length := (List.getElem?_eq_some_iff.mp hv).1
  exact tail_any hL.typeIs slot_list_getitem.lookup (wpAny_getItem_list hL (by omega) (by omega) (by simpa using hv) h) hs
theorem itemI_at {value slice : PySem.Expr} {i : Int} {u : Tok} {v : Value} {Q : Value → Shared → Prop} (hl : s.heap.get? l = some (listOf vs.toArray n)) (hi : i = (k : Int)) (hv : vs[k]? = some v) (hlen : vs.length < 10000) (h : Q v s)
    (hs : subscripted slice false (.ref l) (.int i u) = operate [.ref l, .int i u] (getItem (.ref l) (.int i u)) := by with_unfolding_all rfl) :
    wpAny (model prog w) A (subscriptTail value slice (.ref l) (.int i u)) Q E s := by
  subst hi; exact item_at hl hv hlen h hs
theorem setI_at {i : Int} {t : Tok} {v : Value} {Q : Unit → Shared → Prop} (F : Fr g L s.heap m) (N : News g L s.heap ((l, listOf vs.toArray n) :: news)) (hi : i = (k : Int)) (hne : ∀ p ∈ news, p.1 ≠ l) (hk : k < vs.length) (hv : vs.length < 10000)
    (h : ∀ h', Fr g L h' m → News g L h' ((l, listOf (vs.set k v).toArray n) :: news) → Q () { s with heap := h' }) : wpAny (model prog w) A (setItem (.ref l) (.int i t) v) Q E s := by
  subst hi; exact set_at F N hne hk hv h

theorem len_at {Q : Value → Shared → Prop} (hl : s.heap.get? l = some (listOf vs.toArray n)) (hlen : vs.length < 10000)
    (h : ∀ t tk, Q (.int (vs.length : Int) t) { s with toks := tk }) : wpAny (model prog w) A (call (.builtin "len") [.ref l]) Q E s := by
  have hL : s.heap.IsList l vs.toArray := ⟨_, hl, rfl, n, rfl⟩
  have e : vs.toArray.size = vs.length := List.size_toArray
  exact len_list hL (by rw [e]; omega) (by rw [e]; exact h _ _)
end

section
variable {prog : Program} {w : World} {A : Around} {E : Value → Shared → Prop} {s : Shared} {g : Heap} {l : Addr} {n : Nat}
/-- a call of a def of the text that is handed a list which it may turn -/
theorem callFnL {mg mb : Str → Option Value} {vs : List Value} {f : Addr} {o : Obj} {pm cdv doc : Value} {name : Str} {params : Arguments} {body : List Stmt} {scope : Scope} {args : List Value} {binds : List (Str × Value)} {Q : Value → Shared → Prop}
    (G : GdAt mg mb g) (hg : ∀ b o, g.get? b = some o → s.heap.get? b = some o) (hlg : g.get? l = none) (hl : s.heap.get? l = some (listOf vs.toArray n))
    (ho : g.get? f = some o) (hd : o.data = .func (docDef name params body scope pm cdv doc)) (hc : g.CodeRec cdv name) (hroom : A.depth < recursionLimit)
    (hbind : BindsTo s (docDef name params body scope pm cdv doc) ⟨args, []⟩ binds) (hloc : ∀ y ∈ binds, scope.names.lookup y.1 = some .local) (hcell : ∀ x ∈ scope.names, x.2 ≠ .cell)
    (hco : scope.isCoroutine = false) (hgen : scope.isGenerator = false) (hk : scope.kind = .function)
    (h : ∀ h₁, Fr (s.heap.hide l) s.heap.objs.size h₁ (fun y => binds.reverse.lookup y) → News (s.heap.hide l) s.heap.objs.size h₁ [(l, listOf vs.toArray n)] → GdAt mg mb (s.heap.hide l) →
      wpAny (model prog w) (A.deeper (envOf name scope s.heap.objs.size f cdv)) (execs body (envOf name scope s.heap.objs.size f cdv)) (fun fl s' => Q (match fl with | .ret v => v | _ => .none) s') (fun _ _ => False)
        { s with heap := h₁, toks := s.toks + binds.length }) : wpAny (model prog w) A (call (.ref f) args) Q E s := by
  refine callFn (hg _ _ ho) hd (hc.keeps hg) (G.nolimit.keeps hg) hroom hbind hloc hcell hco hgen hk fun h₁ hns hkp => ?_
  refine h h₁ ⟨hns, fun b o e => hkp b o (Heap.of_hide e), Nat.le_of_eq (Heap.hide_size _ _)⟩ (fun p hp => ?_) (G.keeps fun b o e => ?_)
  · obtain rfl : p = _ := List.mem_singleton.mp hp
    exact ⟨hkp _ _ hl, Nat.ne_of_lt (Heap.lt_size hl), Heap.hide_self _ _⟩
  · rw [Heap.hide_ne _ (fun q : b = l => by rw [q, hlg] at e; cases e)]; exact hg b o e
theorem trip_hide {vs : List Value} {v : Value} {e : Ent} (hl : s.heap.get? l = some (listOf vs.toArray n)) (h : TripH s.heap v e) : TripH (s.heap.hide l) v e := by
  obtain ⟨a, u1, u2, u3, e1, o, ho, hc, r⟩ := h
  refine ⟨a, u1, u2, u3, e1, o, ?_, hc, r⟩
  rw [Heap.hide_ne _ (fun q : a = l => by rw [q, hl] at ho; cases ho; simp at hc)]; exact ho
end

theorem FnAt.f {g : Heap} {a : Addr} {d : DefRec} (x : FnAt g a d) : PySem.W.FnAt a g := by
  obtain ⟨⟨oc, od, dt, sl⟩, pm, cd, doc, h1, h2, h3⟩ := x
  exact ⟨oc, od, _, sl, by rw [h1]; exact congrArg (fun z => some (Obj.mk oc od z sl)) h2⟩
def fnAddrs : List Addr := [60, 67, 74, 81, 88, 95, 102, 109, 116, 121, 126]
/-- the defs stand -/
def Fns (g : Heap) : Prop := ∀ q ∈ fnAddrs, PySem.W.FnAt q g
theorem GdAt.fns {mg mb : Str → Option Value} {g : Heap} (G : GdAt mg mb g) : Fns g := by
  intro q hq
  simp only [fnAddrs, List.mem_cons, List.not_mem_nil, or_false] at hq
  rcases hq with rfl | rfl | rfl | rfl | rfl | rfl | rfl | rfl | rfl | rfl | rfl
  · exact G.fn_b3.f
  · exact G.fn_push.f
  · exact G.fn_pop.f
  · exact G.fn_repl.f
  · exact G.fn_sdown.f
  · exact G.fn_sup.f
  · exact G.fn_sign.f
  · exact G.fn_meant.f
  · exact G.fn_shop.f
  · exact G.fn_ways.f
  · exact G.fn_told.f
theorem Fns.get {h₀ h : Heap} {L : Addr} {m : Str → Option Value} {q : Addr} (F : Fr h₀ L h m) (X : Fns h₀) (hq : q ∈ fnAddrs) : PySem.W.FnAt q h :=
  let ⟨oc, od, fd, sl, e⟩ := X q hq; ⟨oc, od, fd, sl, F.keep _ _ e⟩
theorem callWith_D {M : Model} {A : Around} {E : Value → Shared → Prop} {s : Shared} {env : Env} {pos : Pos} {q : Addr} {Q : Value → Shared → Prop} {e : PySem.Expr} {rest : List PySem.Expr}
    (h : wpAny M A (spliced (backTo pos (starEach (e :: rest) env))) (fun vs s₁ => PySem.W.FnAt q s₁.heap ∧ wpAny M A (call (.ref q) vs) Q E s₁) E s)
    (he : starEach (e :: rest) env = (false, eval e env) :: starEach rest env := by rfl) (hplain : (backTo pos (starEach rest env)).any (·.1) = false := by rfl) :
    wpAny M A (callWith pos (.ref q) [] (backTo pos (starEach (e :: rest) env)) []) Q E s := by
  rw [he] at h ⊢
  exact callWith_of (by show ((false || (backTo pos (starEach rest env)).any (·.1)) || false) = false; rw [hplain]; rfl) keeps_F (evalArgs_plain h)
end Mine
end

section
open PySem PySem.W PyProof.Rows PySem.Calls
set_option maxRecDepth 100000
set_option maxHeartbeats 0
namespace Mine
local macro_rules | `(tactic| walk_at "eval Name") => `(tactic| (k_here; (rename Fr _ _ _ _ => kF'); k_dflt (refine' ld kF' ?k2 ?_; (case k2 => first | exact rfl | assumption); k_whole)))
theorem siftdown_ok {prog : Program} {w : World} {A : Around} {E : Value → Shared → Prop} {s : Shared} {g : Heap} {mg mb : Str → Option Value} {l : Addr} {n sp pos : Nat} {zs : List Z} {x : Z} {t1 t2 : Tok} {Q : Value → Shared → Prop}
    (G : GdAt mg mb g) (hg : ∀ b o, g.get? b = some o → s.heap.get? b = some o) (hlg : g.get? l = none) (hl : s.heap.get? l = some (listOf (zs.map (·.1)).toArray n))
    (hdp : A.depth < 900) (hun : A.units < 9000) (hz : ∀ z ∈ zs, TripH s.heap z.1 z.2) (hx : zs[pos]? = some x) (hlen : zs.length < 10000)
    (h : ∀ h' tk, (∀ b o, b ≠ l → s.heap.get? b = some o → h'.get? b = some o) → h'.get? l = some (listOf ((sdown zlt sp x pos zs).map (·.1)).toArray n) → Q .none { s with heap := h', toks := tk }) :
    wpAny (model prog w) A (call (.ref 88) [.ref l, .int (sp : Int) t1, .int (pos : Int) t2]) Q E s := by
  have Fn := G.fn_sdown
  generalize hD : fdAt 7 = d at Fn
  conv at hD => lhs; whnf
  subst hD
  obtain ⟨fo, pm, cdv, doc, ho, hd, hc⟩ := Fn
  k_dflt (refine' callFnL G hg hlg hl ho hd hc ?r ?b ?lo ?ce ?co ?ge ?k ?_; (case b => exact BindsTo.of_eq rfl); (case r => show A.depth < 1000; omega); (case lo => exact locs rfl); (case ce => decide); (case co => rfl); (case ge => rfl); (case k => rfl))
  intro h₁ F N G'
  dsimp only
  clear hd hc ho
  have X : Frag.In [] (s.heap.hide l) := no_part
  obtain ⟨mean, T⟩ := G'.t
  w_on
  have hzg : ∀ z ∈ zs, TripH (s.heap.hide l) z.1 z.2 := fun z hz' => by
    obtain ⟨a, u1, u2, u3, e1, o, ho, hc, r⟩ := hz z hz'
    refine ⟨a, u1, u2, u3, e1, o, ?_, hc, r⟩
    rw [Heap.hide_ne _ (fun q : a = l => by rw [q, hl] at ho; cases ho; simp at hc)]; exact ho
  have hpos : pos < zs.length := (List.getElem?_eq_some_iff.mp hx).1
  have hxT := hzg x (List.mem_of_getElem? hx)
  walk1; walk1; walk1; walk1; walk1
  refine item_at (N _ (.head _)).1 (v := x.1) (by rw [List.getElem?_map, hx]; rfl) (by rw [List.length_map]; exact hlen) ?_
  walk1
  dsimp only
  rename_i h2 F2 N2
  refine wpAny_execs_cons ?_
  refine whileJ (n₀ := pos) (fun k s' => ∃ h tk zs', ∃ p : Nat, ∃ u m', s' = { s with heap := h, toks := tk } ∧ Fr (s.heap.hide l) s.heap.objs.size h m' ∧ News (s.heap.hide l) s.heap.objs.size h [(l, listOf (zs'.map (·.1)).toArray n)] ∧
    m' (Str.ofString "heap") = some (.ref l) ∧ m' (Str.ofString "startpos") = some (.int (sp : Int) t1) ∧ m' (Str.ofString "pos") = some (.int (p : Int) u) ∧ m' (Str.ofString "newitem") = some x.1 ∧
    sdown zlt sp x p zs' = sdown zlt sp x pos zs ∧ (∀ z ∈ zs', TripH (s.heap.hide l) z.1 z.2) ∧ p < zs'.length ∧ zs'.length = zs.length ∧ k = p) ?i0 ?i1
  case i0 => exact ⟨h2, _, zs, pos, t2, _, rfl, F2, N2, rfl, rfl, rfl, rfl, rfl, hzg, hpos, rfl, rfl⟩
  case i1 =>
    rintro k s' ⟨h3, tk, zs', p', u, m', rfl, F3, N3, e1, e2, e3, e4, e5, hz', hp', hl', rfl⟩
    clear F2 N2
    repeat' walk1
    · rename_i hlt h4 F4 N4
      have hq : (k - 1) / 2 < zs'.length := by omega
      have hsk : sp < k := by omega
      have hpar : zs'[(k - 1) / 2]? = some zs'[(k - 1) / 2] := List.getElem?_eq_getElem hq
      refine itemI_at (k := (k - 1) / 2) (N4 _ (.head _)).1 (by have e9 : ((2 : Int) ^ Int.toNat 1) = 2 := rfl; rw [e9, Int.fdiv_eq_ediv_of_nonneg _ (by omega)]; omega) (v := zs'[(k - 1) / 2].1) (by rw [List.getElem?_map, hpar]; rfl) (by rw [List.length_map]; omega) ?_
      repeat' walk1
      rename_i h5 F5 N5
      have hcase : zlt x zs'[(k - 1) / 2] = elt x.2 zs'[(k - 1) / 2].2 := rfl
      refine trip_lt (by show A.units + 3 < 9900; omega) (hxT.keeps F5.keep) ((hz' _ (List.getElem_mem hq)).keeps F5.keep) ?_
      cases hl5 : elt x.2 zs'[(k - 1) / 2].2 with
      | true =>
        rw [hl5] at hcase
        repeat' walk1
        rename Fr _ _ _ _ => F6
        refine setI_at F6 N5 rfl (fun _ hp => nomatch hp) (by rw [List.length_map]; exact hp') (by rw [List.length_map]; omega) fun h7 F7 N7 => ?_
        clear F6 N5
        dsimp only
        repeat' walk1
        dsimp only
        rename Fr _ _ _ _ => F8
        rename News _ _ _ _ => N8
        have e8 : ((k : Int) - 1).fdiv (2 ^ Int.toNat 1) = (((k - 1) / 2 : Nat) : Int) := by
          have e9 : ((2 : Int) ^ Int.toNat 1) = 2 := rfl
          rw [e9, Int.fdiv_eq_ediv_of_nonneg _ (by omega)]; omega
        refine' ⟨(k - 1) / 2, by omega, _, _, zs'.set k zs'[(k - 1) / 2], (k - 1) / 2, _, _, rfl, F8, ?a1, e1, e2, ?a2, e4, ?a3, ?a4, ?a5, ?a6, rfl⟩
        case a2 => rw [← e8]; exact rfl
        case a1 => rw [List.map_set]; exact N8
        case a3 => rw [← e5, sdown_go hsk hpar hcase]
        case a4 =>
          intro z hz9
          rcases List.mem_or_eq_of_mem_set hz9 with h9 | h9
          · exact hz' z h9
          · rw [h9]; exact hz' _ (List.getElem_mem hq)
        case a5 => rw [List.length_set]; exact hq
        case a6 => rw [List.length_set]; exact hl'
      | false =>
        rw [hl5] at hcase
        repeat' walk1
        dsimp only [WStep]
        repeat' walk1
        rename Fr _ _ _ _ => F6
        refine setI_at F6 N5 rfl (fun _ hp => nomatch hp) (by rw [List.length_map]; exact hp') (by rw [List.length_map]; omega) fun h7 F7 N7 => ?_
        refine wpAny_execs_nil ?_
        refine h h7 _ (fun b o hb e => F7.keep b o (by rw [Heap.hide_ne _ hb]; exact e)) ?_
        rw [← e5, sdown_brk hsk hpar hcase, List.map_set]
        exact (N7 _ (.head _)).1
    · rename Fr _ _ _ _ => F4
      refine setI_at F4 N3 rfl (fun _ hp => nomatch hp) (by rw [List.length_map]; exact hp') (by rw [List.length_map]; omega) fun h5 F5 N5 => ?_
      refine wpAny_execs_nil ?_
      refine h h5 _ (fun b o hb e => F5.keep b o (by rw [Heap.hide_ne _ hb]; exact e)) ?_
      rw [← e5, sdown_stop (by omega), List.map_set]
      exact (N5 _ (.head _)).1
end Mine
end

section
open PySem PySem.W PyProof.Rows PySem.Calls
set_option maxRecDepth 100000
set_option maxHeartbeats 0
namespace Mine
local macro_rules | `(tactic| walk_at "eval Name") => `(tactic| (k_here; (with_reducible rename Fr _ _ _ _ => kF'); k_dflt (refine' ld kF' ?k2 ?_; (case k2 => first | exact rfl | assumption); k_whole)))
local macro_rules | `(tactic| walk_at "eval Name") => `(tactic| (k_here; (with_reducible rename Fr _ _ _ _ => kF); with_unfolding_all refine guard_global (by rfl) ?_; k_dflt (refine' ld_global_at kF ?k1 ?k2 ?_; (case k1 => exact Top.g (by with_reducible assumption)); (case k2 => with_reducible first | exact Nm.sdown (by assumption) | exact Nm.sup (by assumption) | exact Nm.push (by assumption) | exact Nm.pop (by assumption) | exact Nm.repl (by assumption) | exact Nm.b3 (by assumption) | exact Nm.exc (by assumption) | exact Nm.meant (by assumption) | exact Nm.sign (by assumption) | exact Nm.shop (by assumption) | exact Nm.ways (by assumption) | exact Nm.told (by assumption)); k_whole)))
local macro_rules | `(tactic| walk_at "eval Name") => `(tactic| (k_here; (with_reducible rename Fr _ _ _ _ => kF); with_unfolding_all refine guard_global (by rfl) ?_; k_dflt (refine' ld_builtin_at kF ?k1 ?k2 ?k3 ?k4 ?_; (case k1 => exact Top.g (by with_reducible assumption)); (case k2 => with_reducible first | exact Nm.nlen (by assumption) | exact Nm.nint (by assumption) | exact Nm.nchr (by assumption) | exact Nm.nord (by assumption) | exact Nm.nenum (by assumption) | exact Nm.nrange (by assumption) | exact Nm.nrev (by assumption) | exact Nm.nsorted (by assumption)); (case k3 => exact Top.b (by with_reducible assumption)); (case k4 => exact (Top.builtins (by with_reducible assumption) _ (by decide)).trans (by boot_by_name)); k_whole)))
local macro_rules | `(tactic| walk_at "go") => `(tactic| repeat' ((fail_if_success (with_reducible show wpAny _ _ (exec (Stmt.While _ _ _ _) _) _ _ _)); (fail_if_success (with_reducible show wpAny _ _ (exec (Stmt.For _ _ _ _ _) _) _ _ _)); (fail_if_success (with_reducible show wpAny _ _ (call (Value.ref _) _ _) _ _ _)); walk1))
local macro_rules | `(tactic| walk_at "callWith ref") => `(tactic| (k_here; k_dflt (refine' callWith_D ?_; k_whole)))
local macro_rules | `(tactic| walk_at "And") => `(tactic| ((with_reducible show PySem.W.FnAt _ _ ∧ _); refine ⟨Fns.get (by with_reducible assumption) (by with_reducible assumption) (by decide), ?_⟩))
local macro_rules | `(tactic| walk_at "goS") => `(tactic| repeat' ((fail_if_success (with_reducible show wpAny _ _ (exec (Stmt.While _ _ _ _) _) _ _ _)); (fail_if_success (with_reducible show wpAny _ _ (exec (Stmt.For _ _ _ _ _) _) _ _ _)); (fail_if_success (with_reducible show wpAny _ _ (call (Value.ref _) _ _) _ _ _)); (fail_if_success (with_reducible show wpAny _ _ (subscriptTail _ _ _ _) _ _ _)); walk1))
local macro_rules | `(tactic| walk_at "mem1") => `(tactic| first | with_reducible exact List.mem_cons_self .. | (with_reducible refine List.mem_cons_of_mem _ ?_; walk_at "mem1"))
local macro_rules | `(tactic| walk_at "mem2") => `(tactic| first | with_reducible assumption | (with_reducible refine List.mem_cons_of_mem _ ?_; walk_at "mem2"))
local macro_rules | `(tactic| walk_at "mem") => `(tactic| first | (with_reducible refine' List.forall_mem_cons.mpr (And.intro ?a ?b); (case a => walk_at "mem1"); (case b => walk_at "mem")) | exact List.forall_mem_nil _ | (intro p hp; walk_at "mem2"))
section
open PySem PySem.W PyProof.Rows PySem.Calls
set_option maxRecDepth 100000
set_option maxHeartbeats 0
theorem siftup_ok {prog : Program} {w : World} {A : Around} {E : Value → Shared → Prop} {s : Shared} {g : Heap} {mg mb : Str → Option Value} {l : Addr} {n : Nat} {zs : List Z} {x : Z} {t1 : Tok} {Q : Value → Shared → Prop}
    (G : GdAt mg mb g) (hg : ∀ b o, g.get? b = some o → s.heap.get? b = some o) (hlg : g.get? l = none) (hl : s.heap.get? l = some (listOf (zs.map (·.1)).toArray n))
    (hdp : A.depth < 800) (hun : A.units < 8000) (hz : ∀ z ∈ zs, TripH s.heap z.1 z.2) (hx : zs[0]? = some x) (hlen : zs.length < 10000)
    (h : ∀ h' tk, (∀ b o, b ≠ l → s.heap.get? b = some o → h'.get? b = some o) → h'.get? l = some (listOf ((sift0 zlt x zs).map (·.1)).toArray n) → Q .none { s with heap := h', toks := tk }) :
    wpAny (model prog w) A (call (.ref 95) [.ref l, .int 0 t1]) Q E s := by
  have Fn := G.fn_sup
  generalize hD : fdAt 8 = d at Fn
  conv at hD => lhs; whnf
  subst hD
  obtain ⟨fo, pm, cdv, doc, ho, hd, hc⟩ := Fn
  k_dflt (refine' callFnL G hg hlg hl ho hd hc ?r ?b ?lo ?ce ?co ?ge ?k ?_; (case b => exact BindsTo.of_eq rfl); (case r => show A.depth < 1000; omega); (case lo => exact locs rfl); (case ce => decide); (case co => rfl); (case ge => rfl); (case k => rfl))
  intro h₁ F N G'
  dsimp only
  clear hd hc ho
  have X : Frag.In [] (s.heap.hide l) := no_part
  have nm := G'.nms
  have fs := G'.fns
  obtain ⟨mean, T⟩ := G'.t
  w_on
  have hzg : ∀ z ∈ zs, TripH (s.heap.hide l) z.1 z.2 := fun z hz' => trip_hide hl (hz z hz')
  have hpos : 0 < zs.length := (List.getElem?_eq_some_iff.mp hx).1
  have hxT := hzg x (List.mem_of_getElem? hx)
  walk_at "go"
  refine len_at (N _ (.head _)).1 (by rw [List.length_map]; exact hlen) fun t2 tk2 => ?_
  rw [List.length_map]
  walk_at "go"
  rename News _ _ _ _ => N2
  refine itemI_at (k := 0) (N2 _ (.head _)).1 rfl (v := x.1) (by rw [List.getElem?_map, hx]; rfl) (by rw [List.length_map]; exact hlen) ?_
  walk_at "go"
  rename Fr _ _ _ _ => F2
  rename News _ _ _ _ => N3
  refine whileJ (n₀ := zs.length) (fun k s' => ∃ h tk zs', ∃ p : Nat, ∃ u1 u2 m', s' = { s with heap := h, toks := tk } ∧ Fr (s.heap.hide l) s.heap.objs.size h m' ∧ News (s.heap.hide l) s.heap.objs.size h [(l, listOf (zs'.map (·.1)).toArray n)] ∧
    m' (Str.ofString "heap") = some (.ref l) ∧ m' (Str.ofString "endpos") = some (.int (zs.length : Int) t2) ∧ m' (Str.ofString "startpos") = some (.int 0 t1) ∧ m' (Str.ofString "newitem") = some x.1 ∧ m' (Str.ofString "pos") = some (.int (p : Int) u1) ∧ m' (Str.ofString "childpos") = some (.int (2 * (p : Int) + 1) u2) ∧
    sup zlt p zs' = sup zlt 0 zs ∧ (∀ z ∈ zs', TripH (s.heap.hide l) z.1 z.2) ∧ p < zs'.length ∧ zs'.length = zs.length ∧ k = zs.length - p) ?i0 ?i1
  case i0 => exact ⟨_, _, zs, 0, t1, _, _, rfl, F2, N3, rfl, rfl, rfl, rfl, rfl, rfl, rfl, hzg, hpos, rfl, rfl⟩
  case i1 =>
    rintro k s' ⟨h3, tk, zs', p, u1, u2, m', rfl, F3, N4, e1, e2, e3, e4, e5, e6, e7, hz', hp', hl', rfl⟩
    clear F2 N3
    walk_at "go"
    · have h2l : 2 * p + 1 < zs'.length := by omega
      have h3l : 2 * p + 2 < zs'.length := by omega
      have g2 : zs'[2 * p + 1]? = some zs'[2 * p + 1] := List.getElem?_eq_getElem h2l
      have g3 : zs'[2 * p + 2]? = some zs'[2 * p + 2] := List.getElem?_eq_getElem h3l
      rename News _ _ _ _ => N9
      refine itemI_at (k := 2 * p + 1) (N9 _ (.head _)).1 (by omega) (v := zs'[2 * p + 1].1) (by rw [List.getElem?_map, g2]; rfl) (by rw [List.length_map]; omega) ?_
      walk_at "go"
      rename News _ _ _ _ => N10
      refine itemI_at (k := 2 * p + 2) (N10 _ (.head _)).1 (by omega) (v := zs'[2 * p + 2].1) (by rw [List.getElem?_map, g3]; rfl) (by rw [List.length_map]; omega) ?_
      walk_at "go"
      rename Fr _ _ _ _ => F11
      refine trip_lt (by show A.units + 3 < 9900; omega) ((hz' _ (List.getElem_mem h2l)).keeps F11.keep) ((hz' _ (List.getElem_mem h3l)).keeps F11.keep) ?_
      cases hl5 : elt zs'[2 * p + 1].2 zs'[2 * p + 2].2 with
      | true =>
        walk_at "go"
        have hcl : 2 * p + 1 < zs'.length := by omega
        have hcg : zs'[2 * p + 1]? = some zs'[2 * p + 1] := List.getElem?_eq_getElem hcl
        have hchi : chi zlt zs' p = 2 * p + 1 := by unfold chi; rw [g2, g3]; show (if elt zs'[2 * p + 1].2 zs'[2 * p + 2].2 = true then _ else _) = _; rw [hl5]; rfl
        rename News _ _ _ _ => N5
        refine itemI_at (k := 2 * p + 1) (N5 _ (.head _)).1 (by omega) (v := zs'[2 * p + 1].1) (by rw [List.getElem?_map, hcg]; rfl) (by rw [List.length_map]; omega) ?_
        walk_at "go"
        rename Fr _ _ _ _ => F6
        rename News _ _ _ _ => N6
        refine setI_at F6 N6 rfl (fun _ hp => nomatch hp) (by rw [List.length_map]; exact hp') (by rw [List.length_map]; omega) fun h7 F7 N7 => ?_
        clear F6 N6
        dsimp only
        walk_at "go"
        dsimp only
        rename Fr _ _ _ _ => F8
        rename News _ _ _ _ => N8
        refine' ⟨zs.length - (2 * p + 1), by omega, _, _, zs'.set p zs'[2 * p + 1], 2 * p + 1, _, _, _, rfl, F8, ?a1, e1, e2, e3, e4, ?a2, ?a3, ?a4, ?a5, ?a6, ?a7, rfl⟩
        case a1 => rw [List.map_set]; exact N8
        case a2 => rw [← (show (2 * (p : Int) + 1 : Int) = ((2 * p + 1 : Nat) : Int) by omega)]; exact rfl
        case a3 => rw [← (show (2 * (p : Int) + 1 : Int) = ((2 * p + 1 : Nat) : Int) by omega)]; exact rfl
        case a4 => rw [← e7, sup_go (pos := p) (xs := zs') (by omega) (by rw [hchi]; exact hcg), hchi]
        case a5 =>
          intro z hz9
          rcases List.mem_or_eq_of_mem_set hz9 with h9 | h9
          · exact hz' z h9
          · rw [h9]; exact hz' _ (List.getElem_mem hcl)
        case a6 => rw [List.length_set]; exact hcl
        case a7 => rw [List.length_set]; exact hl'
      | false =>
        walk_at "go"
        have hcl : 2 * p + 2 < zs'.length := by omega
        have hcg : zs'[2 * p + 2]? = some zs'[2 * p + 2] := List.getElem?_eq_getElem hcl
        have hchi : chi zlt zs' p = 2 * p + 2 := by unfold chi; rw [g2, g3]; show (if elt zs'[2 * p + 1].2 zs'[2 * p + 2].2 = true then _ else _) = _; rw [hl5]; rfl
        rename News _ _ _ _ => N5
        refine itemI_at (k := 2 * p + 2) (N5 _ (.head _)).1 (by omega) (v := zs'[2 * p + 2].1) (by rw [List.getElem?_map, hcg]; rfl) (by rw [List.length_map]; omega) ?_
        walk_at "go"
        rename Fr _ _ _ _ => F6
        rename News _ _ _ _ => N6
        refine setI_at F6 N6 rfl (fun _ hp => nomatch hp) (by rw [List.length_map]; exact hp') (by rw [List.length_map]; omega) fun h7 F7 N7 => ?_
        clear F6 N6
        dsimp only
        walk_at "go"
        dsimp only
        rename Fr _ _ _ _ => F8
        rename News _ _ _ _ => N8
        refine' ⟨zs.length - (2 * p + 2), by omega, _, _, zs'.set p zs'[2 * p + 2], 2 * p + 2, _, _, _, rfl, F8, ?a1, e1, e2, e3, e4, ?a2, ?a3, ?a4, ?a5, ?a6, ?a7, rfl⟩
        case a1 => rw [List.map_set]; exact N8
        case a2 => rw [← (show (2 * (p : Int) + 1 + 1 : Int) = ((2 * p + 2 : Nat) : Int) by omega)]; exact rfl
        case a3 => rw [← (show (2 * (p : Int) + 1 + 1 : Int) = ((2 * p + 2 : Nat) : Int) by omega)]; exact rfl
        case a4 => rw [← e7, sup_go (pos := p) (xs := zs') (by omega) (by rw [hchi]; exact hcg), hchi]
        case a5 =>
          intro z hz9
          rcases List.mem_or_eq_of_mem_set hz9 with h9 | h9
          · exact hz' z h9
          · rw [h9]; exact hz' _ (List.getElem_mem hcl)
        case a6 => rw [List.length_set]; exact hcl
        case a7 => rw [List.length_set]; exact hl'
    · have h2l : 2 * p + 1 < zs'.length := by omega
      have g3 : zs'[2 * p + 2]? = none := List.getElem?_eq_none (by omega)
      have hcl : 2 * p + 1 < zs'.length := by omega
      have hcg : zs'[2 * p + 1]? = some zs'[2 * p + 1] := List.getElem?_eq_getElem hcl
      have hchi : chi zlt zs' p = 2 * p + 1 := by unfold chi; rw [g3]; cases zs'[2 * p + 1]? <;> rfl
      rename News _ _ _ _ => N5
      refine itemI_at (k := 2 * p + 1) (N5 _ (.head _)).1 (by omega) (v := zs'[2 * p + 1].1) (by rw [List.getElem?_map, hcg]; rfl) (by rw [List.length_map]; omega) ?_
      walk_at "go"
      rename Fr _ _ _ _ => F6
      rename News _ _ _ _ => N6
      refine setI_at F6 N6 rfl (fun _ hp => nomatch hp) (by rw [List.length_map]; exact hp') (by rw [List.length_map]; omega) fun h7 F7 N7 => ?_
      clear F6 N6
      dsimp only
      walk_at "go"
      dsimp only
      rename Fr _ _ _ _ => F8
      rename News _ _ _ _ => N8
      refine' ⟨zs.length - (2 * p + 1), by omega, _, _, zs'.set p zs'[2 * p + 1], 2 * p + 1, _, _, _, rfl, F8, ?a1, e1, e2, e3, e4, ?a2, ?a3, ?a4, ?a5, ?a6, ?a7, rfl⟩
      case a1 => rw [List.map_set]; exact N8
      case a2 => rw [← (show (2 * (p : Int) + 1 : Int) = ((2 * p + 1 : Nat) : Int) by omega)]; exact rfl
      case a3 => rw [← (show (2 * (p : Int) + 1 : Int) = ((2 * p + 1 : Nat) : Int) by omega)]; exact rfl
      case a4 => rw [← e7, sup_go (pos := p) (xs := zs') (by omega) (by rw [hchi]; exact hcg), hchi]
      case a5 =>
        intro z hz9
        rcases List.mem_or_eq_of_mem_set hz9 with h9 | h9
        · exact hz' z h9
        · rw [h9]; exact hz' _ (List.getElem_mem hcl)
      case a6 => rw [List.length_set]; exact hcl
      case a7 => rw [List.length_set]; exact hl'
    · rename Fr _ _ _ _ => F6
      rename News _ _ _ _ => N6
      refine setI_at F6 N6 rfl (fun _ hp => nomatch hp) (by rw [List.length_map]; exact hp') (by rw [List.length_map]; omega) fun h7 F7 N7 => ?_
      clear F6 N6
      dsimp only
      walk_at "go"
      rename Fr _ _ _ _ => F8
      rename News _ _ _ _ => N8
      have hs0 : sup zlt 0 zs = (zs', p) := by rw [← e7]; exact sup_stop (by omega)
      rw [← List.map_set] at N8
      refine siftdown_ok (sp := 0) (pos := p) (zs := zs'.set p x) (x := x) G' F8.keep (Heap.hide_self _ _) (N8 _ (.head _)).1 (by show A.depth + 1 < 900; omega) (by show A.units + 3 < 9000; omega) ?_ (List.getElem?_set_self hp') (by rw [List.length_set]; omega) ?_
      · intro z hz9
        rcases List.mem_or_eq_of_mem_set hz9 with h9 | h9
        · exact (hz' z h9).keeps F8.keep
        · rw [h9]; exact hxT.keeps F8.keep
      · intro h10 tk10 hk10 hl10
        dsimp only
        refine wpAny_execs_nil ?_
        refine h h10 _ (fun b o hb e => hk10 b o hb (F8.keep b o (by rw [Heap.hide_ne _ hb]; exact e))) ?_
        rw [hl10]
        unfold sift0
        rw [hs0]
end

section
open PySem PySem.W PyProof.Rows PySem.Calls
set_option maxRecDepth 100000
set_option maxHeartbeats 0
theorem fr_after {h₀ h h' : Heap} {L l : Addr} {m : Str → Option Value} (F : Fr h₀ L h m) (hL : l ≠ L) (hn : h₀.get? l = none) (hk : ∀ b o, b ≠ l → h.get? b = some o → h'.get? b = some o) : Fr h₀ L h' m := by
  obtain ⟨oL, a1, a2, hoL, a3⟩ := F.ns
  refine ⟨⟨oL, a1, a2, hk _ _ hL.symm hoL, a3⟩, fun b x e => hk b x ?_ (F.keep b x e), F.above⟩
  rintro rfl
  rw [hn] at e
  cases e
theorem news_after {h₀ h h' : Heap} {L l : Addr} {o o' : Obj} {news : List (Addr × Obj)} (N : News h₀ L h ((l, o) :: news)) (hne : ∀ p ∈ news, p.1 ≠ l) (hk : ∀ b o, b ≠ l → h.get? b = some o → h'.get? b = some o) (hl : h'.get? l = some o') : News h₀ L h' ((l, o') :: news) := by
  intro p hp
  rcases List.mem_cons.mp hp with rfl | hp
  · have z := N (l, o) (.head _); exact ⟨hl, z.2.1, z.2.2⟩
  · have z := N p (.tail _ hp); exact ⟨hk _ _ (hne p hp) z.1, z.2.1, z.2.2⟩
theorem heappush_ok {prog : Program} {w : World} {A : Around} {E : Value → Shared → Prop} {s : Shared} {g : Heap} {mg mb : Str → Option Value} {l : Addr} {n : Nat} {zs : List Z} {x : Z} {Q : Value → Shared → Prop}
    (G : GdAt mg mb g) (hg : ∀ b o, g.get? b = some o → s.heap.get? b = some o) (hlg : g.get? l = none) (hl : s.heap.get? l = some (listOf (zs.map (·.1)).toArray n))
    (hdp : A.depth < 700) (hun : A.units < 7000) (hz : ∀ z ∈ zs, TripH s.heap z.1 z.2) (hlen : zs.length < 9000) (hx : TripH s.heap x.1 x.2)
    (h : ∀ h' tk n', (∀ b o, b ≠ l → s.heap.get? b = some o → h'.get? b = some o) → h'.get? l = some (listOf ((sdown zlt 0 x zs.length (zs ++ [x])).map (·.1)).toArray n') → Q .none { s with heap := h', toks := tk }) :
    wpAny (model prog w) A (call (.ref 67) [.ref l, x.1]) Q E s := by
  have Fn := G.fn_push
  generalize hD : fdAt 4 = d at Fn
  conv at hD => lhs; whnf
  subst hD
  obtain ⟨fo, pm, cdv, doc, ho, hd, hc⟩ := Fn
  k_dflt (refine' callFnL G hg hlg hl ho hd hc ?r ?b ?lo ?ce ?co ?ge ?k ?_; (case b => exact BindsTo.of_eq rfl); (case r => show A.depth < 1000; omega); (case lo => exact locs rfl); (case ce => decide); (case co => rfl); (case ge => rfl); (case k => rfl))
  intro h₁ F N G'
  dsimp only
  clear hd hc ho
  have X : Frag.In [] (s.heap.hide l) := no_part
  have nm := G'.nms
  have fs := G'.fns
  obtain ⟨mean, T⟩ := G'.t
  w_on
  have hzg : ∀ z ∈ zs, TripH (s.heap.hide l) z.1 z.2 := fun z hz' => trip_hide hl (hz z hz')
  have hxT : TripH (s.heap.hide l) x.1 x.2 := trip_hide hl hx
  walk_at "go"
  rename Fr _ _ _ _ => F2
  rename News _ _ _ _ => N2
  have e1 : (zs.map (·.1)) ++ [x.1] = (zs ++ [x]).map (·.1) := by simp
  rw [e1] at N2
  refine len_at (N2 _ (.head _)).1 (by rw [List.length_map, List.length_append]; show zs.length + 1 < 10000; omega) fun t2 tk2 => ?_
  walk_at "go"
  have e2 : ((((zs ++ [x]).map (·.1)).length : Nat) : Int) - 1 = (zs.length : Int) := by rw [List.length_map, List.length_append]; show ((zs.length + 1 : Nat) : Int) - 1 = _; omega
  rw [e2]
  refine siftdown_ok (sp := 0) (pos := zs.length) (zs := zs ++ [x]) (x := x) G' F2.keep (Heap.hide_self _ _) (N2 _ (.head _)).1 (by show A.depth + 1 < 900; omega) (by show A.units + 3 < 9000; omega) ?_ (List.getElem?_concat_length) (by rw [List.length_append]; show zs.length + 1 < 10000; omega) ?_
  · intro z hz9
    rcases List.mem_append.mp hz9 with h9 | h9
    · exact (hzg z h9).keeps F2.keep
    · rw [List.mem_singleton.mp h9]; exact hxT.keeps F2.keep
  · intro h10 tk10 hk10 hl10
    dsimp only
    refine wpAny_execs_nil ?_
    exact h h10 _ _ (fun b o hb e => hk10 b o hb (F2.keep b o (by rw [Heap.hide_ne _ hb]; exact e))) hl10
theorem heapreplace_ok {prog : Program} {w : World} {A : Around} {E : Value → Shared → Prop} {s : Shared} {g : Heap} {mg mb : Str → Option Value} {l : Addr} {n : Nat} {zs : List Z} {x z0 : Z} {Q : Value → Shared → Prop}
    (G : GdAt mg mb g) (hg : ∀ b o, g.get? b = some o → s.heap.get? b = some o) (hlg : g.get? l = none) (hl : s.heap.get? l = some (listOf (zs.map (·.1)).toArray n))
    (hdp : A.depth < 700) (hun : A.units < 7000) (hz : ∀ z ∈ zs, TripH s.heap z.1 z.2) (hlen : zs.length < 9000) (hx : TripH s.heap x.1 x.2) (hz0 : zs[0]? = some z0)
    (h : ∀ h' tk, (∀ b o, b ≠ l → s.heap.get? b = some o → h'.get? b = some o) → h'.get? l = some (listOf ((sift0 zlt x (zs.set 0 x)).map (·.1)).toArray n) → Q z0.1 { s with heap := h', toks := tk }) :
    wpAny (model prog w) A (call (.ref 81) [.ref l, x.1]) Q E s := by
  have Fn := G.fn_repl
  generalize hD : fdAt 6 = d at Fn
  conv at hD => lhs; whnf
  subst hD
  obtain ⟨fo, pm, cdv, doc, ho, hd, hc⟩ := Fn
  k_dflt (refine' callFnL G hg hlg hl ho hd hc ?r ?b ?lo ?ce ?co ?ge ?k ?_; (case b => exact BindsTo.of_eq rfl); (case r => show A.depth < 1000; omega); (case lo => exact locs rfl); (case ce => decide); (case co => rfl); (case ge => rfl); (case k => rfl))
  intro h₁ F N G'
  dsimp only
  clear hd hc ho
  have X : Frag.In [] (s.heap.hide l) := no_part
  have nm := G'.nms
  have fs := G'.fns
  obtain ⟨mean, T⟩ := G'.t
  w_on
  have hzg : ∀ z ∈ zs, TripH (s.heap.hide l) z.1 z.2 := fun z hz' => trip_hide hl (hz z hz')
  have hxT : TripH (s.heap.hide l) x.1 x.2 := trip_hide hl hx
  have hpos : 0 < zs.length := (List.getElem?_eq_some_iff.mp hz0).1
  walk_at "go"
  rename News _ _ _ _ => N2
  refine itemI_at (k := 0) (N2 _ (.head _)).1 rfl (v := z0.1) (by rw [List.getElem?_map, hz0]; rfl) (by rw [List.length_map]; omega) ?_
  walk_at "go"
  rename Fr _ _ _ _ => F6
  rename News _ _ _ _ => N6
  refine setI_at (k := 0) F6 N6 rfl (fun _ hp => nomatch hp) (by rw [List.length_map]; exact hpos) (by rw [List.length_map]; omega) fun h7 F7 N7 => ?_
  clear F6 N6
  dsimp only
  walk_at "go"
  rename Fr _ _ _ _ => F8
  rename News _ _ _ _ => N8
  rw [← List.map_set] at N8
  refine siftup_ok (zs := zs.set 0 x) (x := x) G' F8.keep (Heap.hide_self _ _) (N8 _ (.head _)).1 (by show A.depth + 1 < 800; omega) (by show A.units + 3 < 8000; omega) ?_ (List.getElem?_set_self hpos) (by rw [List.length_set]; omega) ?_
  · intro z hz9
    rcases List.mem_or_eq_of_mem_set hz9 with h9 | h9
    · exact (hzg z h9).keeps F8.keep
    · rw [h9]; exact hxT.keeps F8.keep
  · intro h10 tk10 hk10 hl10
    dsimp only
    have z8 := N8 _ (.head _)
    have F9 := fr_after F8 z8.2.1 z8.2.2 hk10
    have hend : ∀ b o, b ≠ l → s.heap.get? b = some o → h10.get? b = some o := fun b o hb e => hk10 b o hb (F8.keep b o (by rw [Heap.hide_ne _ hb]; exact e))
    clear F8 N8 z8
    walk_at "go"
    dsimp only
    exact h h10 _ hend hl10
theorem kl_last_app : ∀ (p : List Value) (y : Value), kl_last (p ++ [y]) = some (p, y)
  | [], _ => rfl
  | x :: p, y => by rw [List.cons_append, kl_last, kl_last_app p y]
/-- what heappop leaves -/
def popH (z0 : Z) (r : List Z) : List Z := match r.getLast? with | none => [] | some y => sift0 zlt y (((z0 :: r).dropLast).set 0 y)
theorem heappop_ok {prog : Program} {w : World} {A : Around} {E : Value → Shared → Prop} {s : Shared} {g : Heap} {mg mb : Str → Option Value} {l : Addr} {n : Nat} {zs : List Z} {z0 : Z} {r : List Z} {Q : Value → Shared → Prop}
    (G : GdAt mg mb g) (hg : ∀ b o, g.get? b = some o → s.heap.get? b = some o) (hlg : g.get? l = none) (hl : s.heap.get? l = some (listOf (zs.map (·.1)).toArray n))
    (hdp : A.depth < 700) (hun : A.units < 7000) (hz : ∀ z ∈ zs, TripH s.heap z.1 z.2) (hlen : zs.length < 9000) (hz0 : zs = z0 :: r)
    (h : ∀ h' tk n', (∀ b o, b ≠ l → s.heap.get? b = some o → h'.get? b = some o) → h'.get? l = some (listOf ((popH z0 r).map (·.1)).toArray n') → Q z0.1 { s with heap := h', toks := tk }) :
    wpAny (model prog w) A (call (.ref 74) [.ref l]) Q E s := by
  have Fn := G.fn_pop
  generalize hD : fdAt 5 = d at Fn
  conv at hD => lhs; whnf
  subst hD
  obtain ⟨fo, pm, cdv, doc, ho, hd, hc⟩ := Fn
  k_dflt (refine' callFnL G hg hlg hl ho hd hc ?r ?b ?lo ?ce ?co ?ge ?k ?_; (case b => exact BindsTo.of_eq rfl); (case r => show A.depth < 1000; omega); (case lo => exact locs rfl); (case ce => decide); (case co => rfl); (case ge => rfl); (case k => rfl))
  intro h₁ F N G'
  dsimp only
  clear hd hc ho
  have X : Frag.In [] (s.heap.hide l) := no_part
  have nm := G'.nms
  have fs := G'.fns
  obtain ⟨mean, T⟩ := G'.t
  w_on
  have hzg : ∀ z ∈ zs, TripH (s.heap.hide l) z.1 z.2 := fun z hz' => trip_hide hl (hz z hz')
  walk_at "go"
  rename Fr _ _ _ _ => F2
  rename News _ _ _ _ => N2
  subst hz0
  rcases List.eq_nil_or_concat r with rfl | ⟨mid, y, rfl⟩
  · refine kl_pop (p := []) (y := z0.1) F2 N2 rfl (Upd.head fun _ hp => by cases hp) (by show 1 ≤ 2 ^ 24; decide) fun h3 F3 N3 => ?_
    clear F2 N2
    walk_at "go"
    rename Fr _ _ _ _ => F4
    rename News _ _ _ _ => N4
    dsimp only
    exact h _ _ _ (fun b o hb e => F4.keep b o (by rw [Heap.hide_ne _ hb]; exact e)) (N4 _ (.head _)).1
  · rw [List.concat_eq_append] at *
    refine kl_pop (p := (z0 :: mid).map (·.1)) (y := y.1) F2 N2 (by rw [← kl_last_app]; simp) (Upd.head fun _ hp => by cases hp) (by show _ ≤ 2 ^ 24; simp at hlen ⊢; omega) fun h3 F3 N3 => ?_
    clear F2 N2
    walk_at "go"
    rename News _ _ _ _ => N4
    have hlen2 : (z0 :: mid).length < 9000 := by simp at hlen ⊢; omega
    have hyT : TripH (s.heap.hide l) y.1 y.2 := hzg y (by simp)
    have hmT : ∀ z ∈ (z0 :: mid), TripH (s.heap.hide l) z.1 z.2 := fun z hz9 => hzg z (by rcases List.mem_cons.mp hz9 with h9 | h9 <;> simp [h9])
    refine kgr_truthy (vs := (z0 :: mid).map (·.1)) N4 (.head _) rfl rfl (by rw [List.length_map]; omega) ?_
    simp only [List.map_cons, List.isEmpty_cons, Bool.not_false, if_true]
    walk_at "go"
    rename Fr _ _ _ _ => F8
    rename News _ _ _ _ => N8
    rw [show y.1 :: mid.map (·.1) = ((z0 :: mid).set 0 y).map (·.1) by rfl] at N8
    refine siftup_ok (zs := (z0 :: mid).set 0 y) (x := y) G' F8.keep (Heap.hide_self _ _) (N8 _ (.head _)).1 (by show A.depth + 1 < 800; omega) (by show A.units + 3 < 8000; omega) ?_ rfl (by rw [List.length_set]; omega) ?_
    · intro z hz9
      rcases List.mem_or_eq_of_mem_set hz9 with h9 | h9
      · exact (hmT z h9).keeps F8.keep
      · rw [h9]; exact hyT.keeps F8.keep
    · intro h10 tk10 hk10 hl10
      dsimp only
      have z8 := N8 _ (.head _)
      have F9 := fr_after F8 z8.2.1 z8.2.2 hk10
      have hend : ∀ b o, b ≠ l → s.heap.get? b = some o → h10.get? b = some o := fun b o hb e => hk10 b o hb (F8.keep b o (by rw [Heap.hide_ne _ hb]; exact e))
      clear F8 N8 z8
      walk_at "go"
      dsimp only
      refine h h10 _ (n + 1) hend ?_
      rw [hl10]
      have e9 : popH z0 (mid ++ [y]) = sift0 zlt y ((z0 :: mid).set 0 y) := by
        unfold popH
        rw [List.getLast?_concat]
        dsimp only
        rw [← List.cons_append, List.dropLast_concat]
      rw [e9]
end

section
open PySem PySem.W PyProof.Rows PySem.Calls
set_option maxRecDepth 100000
set_option maxHeartbeats 0
section
variable {prog : Program} {w : World} {A : Around} {E : Value → Shared → Prop} {s : Shared} {g : Heap}
/-- a call of a def of the text -/
theorem callFn0 {mg mb : Str → Option Value} {f : Addr} {o : Obj} {pm cdv doc : Value} {name : Str} {params : Arguments} {body : List Stmt} {scope : Scope} {args : List Value} {binds : List (Str × Value)} {Q : Value → Shared → Prop}
    (G : GdAt mg mb g) (hg : ∀ b o, g.get? b = some o → s.heap.get? b = some o)
    (ho : g.get? f = some o) (hd : o.data = .func (docDef name params body scope pm cdv doc)) (hc : g.CodeRec cdv name) (hroom : A.depth < recursionLimit)
    (hbind : BindsTo s (docDef name params body scope pm cdv doc) ⟨args, []⟩ binds) (hloc : ∀ y ∈ binds, scope.names.lookup y.1 = some .local) (hcell : ∀ x ∈ scope.names, x.2 ≠ .cell)
    (hco : scope.isCoroutine = false) (hgen : scope.isGenerator = false) (hk : scope.kind = .function)
    (h : ∀ h₁, Fr s.heap s.heap.objs.size h₁ (fun y => binds.reverse.lookup y) → News s.heap s.heap.objs.size h₁ [] → GdAt mg mb s.heap →
      wpAny (model prog w) (A.deeper (envOf name scope s.heap.objs.size f cdv)) (execs body (envOf name scope s.heap.objs.size f cdv)) (fun fl s' => Q (match fl with | .ret v => v | _ => .none) s') (fun _ _ => False)
        { s with heap := h₁, toks := s.toks + binds.length }) : wpAny (model prog w) A (call (.ref f) args) Q E s := by
  refine callFn (hg _ _ ho) hd (hc.keeps hg) (G.nolimit.keeps hg) hroom hbind hloc hcell hco hgen hk fun h₁ hns hkp => ?_
  exact h h₁ ⟨hns, hkp, Nat.le_refl _⟩ (fun p hp => nomatch hp) (G.keeps hg)
end
def strsOf : List Value → Option (List Str)
  | [] => some []
  | .str x _ :: r => (strsOf r).map (x :: ·)
  | _ :: _ => none
def intsOf : List Value → Option (List Int)
  | [] => some []
  | .int x _ :: r => (intsOf r).map (x :: ·)
  | _ :: _ => none
theorem strs_get : ∀ (vs : List Value) (xs : List Str), strsOf vs = some xs → vs.length = xs.length ∧ ∀ k, k < xs.length → ∃ t', vs[k]? = some (.str (xs.getD k default) t')
  | [], xs, e => by cases e; exact ⟨rfl, fun k hk => absurd hk (Nat.not_lt_zero _)⟩
  | v :: r, xs, e => by
    cases v with
    | str x t =>
      obtain ⟨ys, h1, rfl⟩ := Option.map_eq_some_iff.mp (show (strsOf r).map (x :: ·) = some xs from e)
      obtain ⟨i1, i2⟩ := strs_get r ys h1
      refine ⟨by rw [List.length_cons, List.length_cons, i1], fun k hk => ?_⟩
      cases k with
      | zero => exact ⟨t, rfl⟩
      | succ k => exact i2 k (by simpa using hk)
    | _ => cases e
theorem ints_get : ∀ (vs : List Value) (xs : List Int), intsOf vs = some xs → vs.length = xs.length ∧ ∀ k, k < xs.length → ∃ t', vs[k]? = some (.int (xs.getD k default) t')
  | [], xs, e => by cases e; exact ⟨rfl, fun k hk => absurd hk (Nat.not_lt_zero _)⟩
  | v :: r, xs, e => by
    cases v with
    | int x t =>
      obtain ⟨ys, h1, rfl⟩ := Option.map_eq_some_iff.mp (show (intsOf r).map (x :: ·) = some xs from e)
      obtain ⟨i1, i2⟩ := ints_get r ys h1
      refine ⟨by rw [List.length_cons, List.length_cons, i1], fun k hk => ?_⟩
      cases k with
      | zero => exact ⟨t, rfl⟩
      | succ k => exact i2 k (by simpa using hk)
    | _ => cases e
section
variable {prog : Program} {w : World} {A : Around} {E : Value → Shared → Prop} {s : Shared}
theorem tup_at {value slice : PySem.Expr} {t : Addr} {vs : List Value} {k : Nat} {i : Int} {u : Tok} {v : Value} {Q : Value → Shared → Prop} (ht : IsTup s.heap t vs.toArray) (hi : i = (k : Int)) (hb : vs.length < 10000) (hv : vs[k]? = some v) (h : Q v s)
    (hs : subscripted slice false (.ref t) (.int i u) = operate [.ref t, .int i u] (getItem (.ref t) (.int i u)) := by with_unfolding_all rfl) :
    wpAny (model prog w) A (subscriptTail value slice (.ref t) (.int i u)) Q E s := by
  have hk : k < vs.length := (List.getElem?_eq_some_iff.mp hv).1
  refine item_tupleT ht (by omega) (by omega) (j := k) ?_ hv h hs
  rw [hi, seqIndex_of (by omega) (by omega)]
  rfl
theorem tupStr_at {value slice : PySem.Expr} {t : Addr} {vs : List Value} {xs : List Str} {k : Nat} {i : Int} {u : Tok} {Q : Value → Shared → Prop} (ht : IsTup s.heap t vs.toArray) (e : strsOf vs = some xs) (hi : i = (k : Int)) (hk : k < xs.length) (hb : xs.length < 10000) (h : ∀ t', Q (.str (xs.getD k default) t') s)
    (hs : subscripted slice false (.ref t) (.int i u) = operate [.ref t, .int i u] (getItem (.ref t) (.int i u)) := by with_unfolding_all rfl) :
    wpAny (model prog w) A (subscriptTail value slice (.ref t) (.int i u)) Q E s := by
  obtain ⟨hl, hg⟩ := strs_get vs xs e
  obtain ⟨t', ht'⟩ := hg k hk
  exact tup_at ht hi (by omega) ht' (h t') hs
theorem tupInt_at {value slice : PySem.Expr} {t : Addr} {vs : List Value} {xs : List Int} {k : Nat} {i : Int} {u : Tok} {Q : Value → Shared → Prop} (ht : IsTup s.heap t vs.toArray) (e : intsOf vs = some xs) (hi : i = (k : Int)) (hk : k < xs.length) (hb : xs.length < 10000) (h : ∀ t', Q (.int (xs.getD k default) t') s)
    (hs : subscripted slice false (.ref t) (.int i u) = operate [.ref t, .int i u] (getItem (.ref t) (.int i u)) := by with_unfolding_all rfl) :
    wpAny (model prog w) A (subscriptTail value slice (.ref t) (.int i u)) Q E s := by
  obtain ⟨hl, hg⟩ := ints_get vs xs e
  obtain ⟨t', ht'⟩ := hg k hk
  exact tup_at ht hi (by omega) ht' (h t') hs
end
/-- the words that the signs stand for -/
def meantL : List Str := [Str.ofString "a", Str.ofString "h", Str.ofString "k", Str.ofString "m", Str.ofString "p", Str.ofString "hpa", Str.ofString "pa", Str.ofString "ma", Str.ofString "ka", Str.ofString "pa", Str.ofString "kpa", Str.ofString "mpa", Str.ofString "hp", Str.ofString "kk", Str.ofString "km", Str.ofString "ph"]
def meant (k : Nat) : Str := meantL.getD k default
theorem meant_ok {prog : Program} {w : World} {A : Around} {E : Value → Shared → Prop} {s : Shared} {g : Heap} {mg mb : Str → Option Value} {k : Nat} {t : Tok} {Q : Value → Shared → Prop}
    (G : GdAt mg mb g) (hg : ∀ b o, g.get? b = some o → s.heap.get? b = some o) (hdp : A.depth < 900) (hk : k < 16)
    (h : ∀ h' tk t', (∀ b o, s.heap.get? b = some o → h'.get? b = some o) → Q (.str (meant k) t') { s with heap := h', toks := tk }) :
    wpAny (model prog w) A (call (.ref 109) [.int (k : Int) t]) Q E s := by
  have Fn := G.fn_meant
  generalize hD : fdAt 11 = d at Fn
  conv at hD => lhs; whnf
  subst hD
  obtain ⟨fo, pm, cdv, doc, ho, hd, hc⟩ := Fn
  k_dflt (refine' callFn0 G hg ho hd hc ?r ?b ?lo ?ce ?co ?ge ?k ?_; (case b => exact BindsTo.of_eq rfl); (case r => show A.depth < 1000; omega); (case lo => exact locs rfl); (case ce => decide); (case co => rfl); (case ge => rfl); (case k => rfl))
  intro h₁ F N G'
  dsimp only
  clear hd hc ho
  have X : Frag.In [] s.heap := no_part
  have nm := G'.nms
  have fs := G'.fns
  obtain ⟨mean, T⟩ := G'.t
  w_on
  walk_at "goS"
  rename News _ _ _ _ => N2
  rename Fr _ _ _ _ => F2
  refine tupStr_at (xs := meantL) (N2.isTup (.head _)) rfl rfl hk (by decide) fun t' => ?_
  dsimp only
  exact h _ _ t' F2.keep
end

section
open PySem PySem.W PyProof.Rows PySem.Calls
set_option maxRecDepth 100000
set_option maxHeartbeats 0
def bigL : List Int := [13169, 13184, 13187, 13188, 13225, 13226, 13227, 13259, 13261, 13262, 13271]
def letL : List Int := [0, 7, 10, 12, 15]
def remap (c : Int) : Int := if c = 119971 then 8459 else if c = 120075 then 8460 else if c = 120127 then 8461 else if c = 119976 then 8499 else if c = 120135 then 8473 else c
def codeOf (k n : Nat) : Int := if 4 < k then bigL.getD (k - 5) default else if n % 15 < 2 then 97 + letL.getD k default - 32 * ((n % 15 : Nat) : Int) else remap (119808 + letL.getD k default + 52 * (((n % 15 : Nat) : Int) - 2))
def chr1 (c : Int) : Str := ⟨#[c.toNat]⟩
/-- the sign that stands for the kind, at the turn -/
def signOf (k n : Nat) : Str := chr1 (codeOf k n)
theorem big_bound : ∀ j, j < 11 → 0 ≤ bigL.getD j default ∧ bigL.getD j default ≤ 1114111 := by decide
theorem let_bound : ∀ j, j < 5 → 0 ≤ letL.getD j default ∧ letL.getD j default ≤ 15 := by decide
theorem remap_bound {c : Int} (h0 : 0 ≤ c) (h1 : c ≤ 1114111) : 0 ≤ remap c ∧ remap c ≤ 1114111 := by
  unfold remap
  repeat' split
  all_goals omega
section
variable {prog : Program} {w : World} {A : Around} {E : Value → Shared → Prop} {s : Shared}
theorem dget2 {d : Addr} {kvs : List (Int × Value)} {i : Int} {t : Tok} {dflt : Value} {Q : Value → Shared → Prop} (hd : s.heap.DictOf (intKind prog w) d kvs) (hds : (d == sysModules) = false) (h : Q ((valueAt kvs i).getD dflt) { s with toks := s.toks + 1 }) :
    wpAny (model prog w) A (call (.builtin "dict.get") [.ref d, .int i t, dflt]) Q E s :=
  call_meetsIn F.slot_dict_get hd.typeIs F.entry_dict_get (F.args_dict_get_3 _ _ _) (meets_dict_get_default (intKind prog w) d (k := i) (by show Value.isInt i (.int i t) = true; simp [Value.isInt]) hds dflt) ⟨_, hd.mapOf, h⟩
theorem dget1 {d : Addr} {kvs : List (Int × Value)} {i : Int} {t : Tok} {Q : Value → Shared → Prop} (hd : s.heap.DictOf (intKind prog w) d kvs) (hds : (d == sysModules) = false) (h : Q ((valueAt kvs i).getD .none) { s with toks := s.toks + 1 }) :
    wpAny (model prog w) A (call (.builtin "dict.get") [.ref d, .int i t]) Q E s :=
  call_meetsIn F.slot_dict_get hd.typeIs F.entry_dict_get (F.args_dict_get_2 _ _) (meets_dict_get (intKind prog w) d (k := i) (by show Value.isInt i (.int i t) = true; simp [Value.isInt]) hds) ⟨_, hd.mapOf, h⟩
end
theorem remap_at (c : Int) (t1 t2 t3 t4 t5 u : Tok) : ∃ t', (valueAt [(119971, .int 8459 t1), (120075, .int 8460 t2), (120127, .int 8461 t3), (119976, .int 8499 t4), (120135, .int 8473 t5)] c).getD (.int c u) = .int (remap c) t' := by
  by_cases h1 : c = 119971
  · subst h1; exact ⟨_, rfl⟩
  by_cases h2 : c = 120075
  · subst h2; exact ⟨_, rfl⟩
  by_cases h3 : c = 120127
  · subst h3; exact ⟨_, rfl⟩
  by_cases h4 : c = 119976
  · subst h4; exact ⟨_, rfl⟩
  by_cases h5 : c = 120135
  · subst h5; exact ⟨_, rfl⟩
  refine ⟨u, ?_⟩
  have e : valueAt [(119971, Value.int 8459 t1), (120075, .int 8460 t2), (120127, .int 8461 t3), (119976, .int 8499 t4), (120135, .int 8473 t5)] c = none := by
    unfold valueAt
    rw [List.find?_eq_none.mpr]
    · rfl
    · intro x hx
      simp only [List.mem_cons, List.not_mem_nil, or_false] at hx
      rcases hx with rfl | rfl | rfl | rfl | rfl <;> simp <;> omega
  rw [e]
  show Value.int c u = Value.int (remap c) u
  unfold remap
  rw [if_neg h1, if_neg h2, if_neg h3, if_neg h4, if_neg h5]
theorem dremap {prog : Program} {w : World} {A : Around} {E : Value → Shared → Prop} {s : Shared} {d : Addr} {o : Obj} {vs : List (Value × Value)} {c : Int} {t u : Tok} {Q : Value → Shared → Prop} (ho : s.heap.get? d = some o) (hd : Obj.IsDictOf (intKind prog w) o (intKeyPairs vs)) (hds : (d == sysModules) = false)
    (hv : ∃ k1 k2 k3 k4 k5 t1 t2 t3 t4 t5, vs = [(.int 119971 k1, .int 8459 t1), (.int 120075 k2, .int 8460 t2), (.int 120127 k3, .int 8461 t3), (.int 119976 k4, .int 8499 t4), (.int 120135 k5, .int 8473 t5)]) (h : ∀ t', Q (.int (remap c) t') { s with toks := s.toks + 1 }) :
    wpAny (model prog w) A (call (.builtin "dict.get") [.ref d, .int c t, .int c u]) Q E s := by
  obtain ⟨k1, k2, k3, k4, k5, t1, t2, t3, t4, t5, rfl⟩ := hv
  refine dget2 (Heap.dictOf_iff.mpr ⟨o, ho, hd⟩) hds ?_
  obtain ⟨t9, e9⟩ := remap_at c t1 t2 t3 t4 t5 u
  show Q ((valueAt [(119971, .int 8459 t1), (120075, .int 8460 t2), (120127, .int 8461 t3), (119976, .int 8499 t4), (120135, .int 8473 t5)] c).getD (.int c u)) _
  rw [e9]
  exact h t9
theorem sign_ok {prog : Program} {w : World} {A : Around} {E : Value → Shared → Prop} {s : Shared} {g : Heap} {mg mb : Str → Option Value} {k n : Nat} {t t2 : Tok} {Q : Value → Shared → Prop}
    (G : GdAt mg mb g) (hg : ∀ b o, g.get? b = some o → s.heap.get? b = some o) (hdp : A.depth < 900) (hun : A.units < 9000) (hk : k < 16)
    (h : ∀ h' tk t', (∀ b o, s.heap.get? b = some o → h'.get? b = some o) → Q (.str (signOf k n) t') { s with heap := h', toks := tk }) :
    wpAny (model prog w) A (call (.ref 102) [.int (k : Int) t, .int (n : Int) t2]) Q E s := by
  have Fn := G.fn_sign
  generalize hD : fdAt 10 = d at Fn
  conv at hD => lhs; whnf
  subst hD
  obtain ⟨fo, pm, cdv, doc, ho, hd, hc⟩ := Fn
  k_dflt (refine' callFn0 G hg ho hd hc ?r ?b ?lo ?ce ?co ?ge ?k ?_; (case b => exact BindsTo.of_eq rfl); (case r => show A.depth < 1000; omega); (case lo => exact locs rfl); (case ce => decide); (case co => rfl); (case ge => rfl); (case k => rfl))
  intro h₁ F N G'
  dsimp only
  clear hd hc ho
  have X : Frag.In [] s.heap := no_part
  have nm := G'.nms
  have fs := G'.fns
  obtain ⟨mean, T⟩ := G'.t
  w_on
  walk_at "goS"
  · with_reducible rename News _ _ _ _ => N2
    have h4 : 4 < k := by omega
    refine tupInt_at (xs := bigL) (k := k - 5) (N2.isTup (.head _)) (by kernel_rfl) (by omega) (by show k - 5 < 11; omega) (by decide) fun t' => ?_
    dsimp only
    have bb := big_bound (k - 5) (by omega)
    have e1 : codeOf k n = bigL.getD (k - 5) default := if_pos h4
    rw [← e1] at bb
    rw [← e1]
    generalize hC : codeOf k n = C at bb
    walk1
    walk1
    with_reducible rename Fr _ _ _ _ => F2
    dsimp only
    subst hC
    exact h _ _ _ F2.keep
  · with_reducible rename News _ _ _ _ => N2
    have h4 : ¬ 4 < k := by omega
    refine tupInt_at (xs := letL) (k := k) (N2.isTup (.head _)) rfl rfl (by show k < 5; omega) (by decide) fun t' => ?_
    dsimp only
    have bb := let_bound k (by omega)
    generalize hL : letL.getD k default = le at *
    repeat' ((fail_if_success (with_reducible show wpAny _ _ (eval (Expr.Dict _ _ _) _) _ _ _)); (fail_if_success (with_reducible show wpAny _ _ (call (Value.builtin _) _ _) _ _ _)); walk1)
    · dsimp only
      have ef : (n : Int).fmod 15 = ((n % 15 : Nat) : Int) := by rw [Int.fmod_eq_emod_of_nonneg _ (by omega)]; omega
      have ha := ‹(n : Int).fmod 15 < 2›
      rw [ef] at ha ⊢
      have e1 : codeOf k n = 97 + le - 32 * ((n % 15 : Nat) : Int) := by rw [← hL]; exact (if_neg h4).trans (if_pos (by omega))
      rw [← e1]
      have b0 : 0 ≤ codeOf k n := by rw [e1]; omega
      have b1 : codeOf k n ≤ 1114111 := by rw [e1]; omega
      generalize hC : codeOf k n = C at b0 b1
      refine chr_of_range b0 b1 ?_
      subst hC
      with_reducible rename Fr _ _ _ _ => F2
      dsimp only
      exact h _ _ _ F2.keep
    · dsimp only
      repeat' ((fail_if_success (with_reducible show wpAny _ _ (call (Value.builtin _) _ _) _ _ _)); walk1)
      dsimp only
      have ef : (n : Int).fmod 15 = ((n % 15 : Nat) : Int) := by rw [Int.fmod_eq_emod_of_nonneg _ (by omega)]; omega
      have ha := ‹¬ (n : Int).fmod 15 < 2›
      with_reducible rename News _ _ _ _ => N5
      with_reducible rename Obj.IsDictOf _ _ _ => D5
      refine dremap (N5 _ (.head _)).1 D5 (by assumption) ⟨_, _, _, _, _, _, _, _, _, _, rfl⟩ fun t5 => ?_
      dsimp only
      have e1 : codeOf k n = remap (119808 + le + 52 * ((n : Int).fmod 15 - 2)) := by rw [ef, ← hL]; exact (if_neg h4).trans (if_neg (by omega))
      rw [← e1]
      have b01 : 0 ≤ codeOf k n ∧ codeOf k n ≤ 1114111 := by rw [e1]; exact remap_bound (by omega) (by omega)
      generalize hC : codeOf k n = C at b01
      walk1
      walk1
      with_reducible rename Fr _ _ _ _ => F2
      dsimp only
      subst hC
      exact h _ _ _ F2.keep
end

section
open PySem PySem.W PyProof.Rows PySem.Calls
set_option maxRecDepth 100000
set_option maxHeartbeats 0
open PyProof.Rows.LCg
section tails
variable {h₀ h h' g : Heap} {L a b l : Addr} {o : Obj} {m : Str → Option Value} {M : List Addr} {E t : List (Addr × Obj)}
/-- all that was made, but what lies at M -/
def tl (h₀ h : Heap) (M : List Addr) : List (Addr × Obj) := (List.range h.objs.size).filterMap fun a => match h.get? a with
  | some o => if (h₀.get? a).isNone && !(M.contains a) then some (a, o) else none
  | none => none
theorem mem_tl : (a, o) ∈ tl h₀ h M ↔ h.get? a = some o ∧ h₀.get? a = none ∧ a ∉ M := by
  unfold tl
  rw [List.mem_filterMap]
  constructor
  · rintro ⟨b, hb, e⟩
    cases hq : h.get? b with
    | none => rw [hq] at e; cases e
    | some o' =>
      rw [hq] at e
      dsimp only at e
      split at e
      · rename_i hc
        cases e
        rw [Bool.and_eq_true] at hc
        refine ⟨hq, Option.isNone_iff_eq_none.mp hc.1, fun hm => ?_⟩
        have := hc.2
        rw [List.contains_iff_mem.mpr hm] at this
        cases this
      · cases e
  · rintro ⟨h1, h2, h3⟩
    refine ⟨a, List.mem_range.mpr (Heap.lt_size h1), ?_⟩
    rw [h1]
    dsimp only
    have hc : M.contains a = false := by
      cases q : M.contains a with
      | false => rfl
      | true => exact absurd (List.contains_iff_mem.mp q) h3
    rw [h2, hc]
    rfl
theorem tl_off {p : Addr × Obj} (hp : p ∈ tl h₀ h M) : p.1 ∉ M := (mem_tl.mp (show (p.1, p.2) ∈ _ from hp)).2.2
theorem tl_news (hL : L ∈ M) (N : News h₀ L h E) : News h₀ L h (E ++ tl h₀ h M) := fun p hp => by
  rcases List.mem_append.mp hp with hp | hp
  · exact N p hp
  · have z := mem_tl.mp (show (p.1, p.2) ∈ _ from hp)
    exact ⟨z.1, fun e => z.2.2 (e ▸ hL), z.2.1⟩
def Cov (h₀ : Heap) (t : List (Addr × Obj)) (g : Heap) : Prop := ∀ b o, g.get? b = some o → h₀.get? b = some o ∨ (b, o) ∈ t
theorem Cov.keep (C : Cov h₀ t g) (F : Fr h₀ L h m) (N : News h₀ L h t) : ∀ b o, g.get? b = some o → h.get? b = some o := fun b o e => (C b o e).elim (F.keep b o) fun q => (N _ q).1
theorem tl_cov (hk : ∀ b o, h₀.get? b = some o → h.get? b = some o) : Cov h₀ (tl h₀ h M) (hideAll h M) := fun b o e => by
  have e1 := of_hideAll M e
  have e2 : b ∉ M := fun q => by rw [hideAll_none M q] at e; cases e
  cases q : h₀.get? b with
  | none => exact .inr (mem_tl.mpr ⟨e1, q, e2⟩)
  | some o' => rw [hk b o' q] at e1; exact .inl e1
theorem News.sub {E' : List (Addr × Obj)} (N : News h₀ L h E) (hs : ∀ p ∈ E', p ∈ E) : News h₀ L h E' := fun p hp => N p (hs p hp)
theorem News.rest {E' : List (Addr × Obj)} (N : News h₀ L h (E' ++ E)) : News h₀ L h E := fun p hp => N p (List.mem_append_right _ hp)

/-- tuples stay -/
def KT (h h' : Heap) : Prop := ∀ b o, o.cls = .type "tuple" → (∃ xs n, o.data = .seq xs n) → h.get? b = some o → h'.get? b = some o
theorem KT.of (hk : ∀ b o, h.get? b = some o → h'.get? b = some o) : KT h h' := fun b o _ _ e => hk b o e
theorem KT.trans {h'' : Heap} (x : KT h h') (y : KT h' h'') : KT h h'' := fun b o h1 h2 e => y b o h1 h2 (x b o h1 h2 e)
theorem tup_kt {items : Array Value} (x : IsTup h a items) (k : KT h h') : IsTup h' a items := let ⟨o, ho, hc, n, hd⟩ := x; ⟨o, k a o hc ⟨_, n, hd⟩ ho, hc, n, hd⟩
theorem trip_kt {v : Value} {e : Ent} (x : TripH h v e) (k : KT h h') : TripH h' v e := let ⟨a, t1, t2, t3, e1, i⟩ := x; ⟨a, t1, t2, t3, e1, tup_kt i k⟩
/-- no tuple lies at M -/
def NoTup (h : Heap) (M : List Addr) : Prop := ∀ a ∈ M, ∀ o, h.get? a = some o → o.cls = .type "tuple" → (∃ xs n, o.data = .seq xs n) → False
theorem NoTup.kt (x : NoTup h M) : KT h (hideAll h M) := fun b o hc hd e => hideAll_get M e fun q => x b q o e hc hd
theorem NoTup.nil : NoTup h [] := fun _ hp => nomatch hp
theorem NoTup.consL (hl : h.get? a = some o) (hc : o.cls ≠ .type "tuple") (x : NoTup h M) : NoTup h (a :: M) := fun b hb o' e hc' hd' => by
  rcases List.mem_cons.mp hb with rfl | hb
  · rw [hl] at e; cases e; exact hc hc'
  · exact x b hb o' e hc' hd'
theorem NoTup.consD (hl : h.get? a = some o) (hd : ∀ xs n, o.data ≠ .seq xs n) (x : NoTup h M) : NoTup h (a :: M) := fun b hb o' e hc' hd' => by
  rcases List.mem_cons.mp hb with rfl | hb
  · rw [hl] at e; cases e; obtain ⟨xs, n, e⟩ := hd'; exact hd xs n e
  · exact x b hb o' e hc' hd'
theorem NoTup.consNs (hn : h.Ns a m) (x : NoTup h M) : NoTup h (a :: M) := by
  obtain ⟨o, es, ep, h1, h2, _⟩ := hn
  exact NoTup.consD h1 (fun xs n e => by rw [h2] at e; cases e) x
end tails

/-- two lists, item by item -/
def Al2 {α β : Type} (R : α → β → Prop) : List α → List β → Prop
  | [], [] => True
  | a :: as, b :: bs => R a b ∧ Al2 R as bs
  | _, _ => False
section al2
variable {α β : Type} {R R' : α → β → Prop}
theorem Al2.mono (hR : ∀ a b, R a b → R' a b) : ∀ {as : List α} {bs : List β}, Al2 R as bs → Al2 R' as bs
  | [], [], _ => trivial
  | _ :: _, _ :: _, h => ⟨hR _ _ h.1, Al2.mono hR h.2⟩
  | [], _ :: _, h => h.elim
  | _ :: _, [], h => h.elim
theorem Al2.snoc {a : α} {b : β} (hab : R a b) : ∀ {as : List α} {bs : List β}, Al2 R as bs → Al2 R (as ++ [a]) (bs ++ [b])
  | [], [], _ => ⟨hab, trivial⟩
  | _ :: _, _ :: _, h => ⟨h.1, Al2.snoc hab h.2⟩
  | [], _ :: _, h => h.elim
  | _ :: _, [], h => h.elim
theorem Al2.app {as' : List α} {bs' : List β} (h' : Al2 R as' bs') : ∀ {as : List α} {bs : List β}, Al2 R as bs → Al2 R (as ++ as') (bs ++ bs')
  | [], [], _ => h'
  | _ :: _, _ :: _, h => ⟨h.1, Al2.app h' h.2⟩
  | [], _ :: _, h => h.elim
  | _ :: _, [], h => h.elim
theorem Al2.length : ∀ {as : List α} {bs : List β}, Al2 R as bs → as.length = bs.length
  | [], [], _ => rfl
  | _ :: _, _ :: _, h => congrArg (· + 1) (Al2.length h.2)
  | [], _ :: _, h => h.elim
  | _ :: _, [], h => h.elim
theorem Al2.get : ∀ {as : List α} {bs : List β} {i : Nat} {a : α}, Al2 R as bs → as[i]? = some a → ∃ b, bs[i]? = some b ∧ R a b
  | [], _, _, _, _, e => by cases e
  | a :: as, b :: bs, 0, _, h, e => ⟨b, rfl, by cases e; exact h.1⟩
  | a :: as, b :: bs, i + 1, _, h, e => Al2.get (i := i) h.2 e
  | _ :: _, [], _, _, h, _ => h.elim
theorem Al2.getB : ∀ {as : List α} {bs : List β} {i : Nat} {b : β}, Al2 R as bs → bs[i]? = some b → ∃ a, as[i]? = some a ∧ R a b
  | _, [], _, _, _, e => by cases e
  | a :: as, b :: bs, 0, _, h, e => ⟨a, rfl, by cases e; exact h.1⟩
  | a :: as, b :: bs, i + 1, _, h, e => Al2.getB (i := i) h.2 e
  | [], _ :: _, _, _, h, _ => h.elim
end al2

section names
variable {M : Model} {A : Around} {E : Value → Shared → Prop} {s : Shared} {h₀ : Heap} {L C c : Addr} {m mg mb mC : Str → Option Value} {x : Str} {pos : Pos} {v : Value} {o oC : Obj} {env : Env} {news : List (Addr × Obj)} {Q : Value → Shared → Prop}
theorem nmL (F : Fr h₀ L s.heap m) (hv : m x = some v) (h : Q v s) (hE : env.locals = L := by rfl) (hk : env.scope.kind = .function := by rfl) (hx : env.kindOf x = some .local := by rfl) (hd : (x == ("__debug__" : Str)) = false := by decide) :
    wpAny M A (eval (.Name x pos) env) Q E s := wpAny_Name (wpAny_loadName_local hk hx (hE ▸ F.ns) hv h) hd
theorem nmO (N : News h₀ L s.heap news) (hm : (C, oC) ∈ news) (hC : LCg.NsObj oC mC) (hv : mC x = some v) (h : Q v s) (hE : env.locals = C := by rfl) (hk : env.scope.kind = .function := by rfl) (hx : env.kindOf x = some .local := by rfl) (hd : (x == ("__debug__" : Str)) = false := by decide) :
    wpAny M A (eval (.Name x pos) env) Q E s := wpAny_Name (wpAny_loadName_local hk hx (hE ▸ hC.ns (N _ hm).1) hv h) hd
theorem nmC (N : News h₀ L s.heap news) (hc : env.cells.lookup x = some c) (hm : (c, o) ∈ news) (hd : o.data = .cell (some v)) (h : Q v s) (hk : env.scope.kind = .function := by rfl) (hx : env.kindOf x = some .cell := by rfl) (hb : (x == ("__debug__" : Str)) = false := by decide) :
    wpAny M A (eval (.Name x pos) env) Q E s := wpAny_Name (wpAny_loadName_cell hk hx hc ⟨o, N.get hm, hd⟩ h) hb
theorem nmF (N : News h₀ L s.heap news) (hc : env.cells.lookup x = some c) (hm : (c, o) ∈ news) (hd : o.data = .cell (some v)) (h : Q v s) (hk : env.scope.kind = .function := by rfl) (hx : env.kindOf x = some .free := by rfl) (hb : (x == ("__debug__" : Str)) = false := by decide) (hn : (x == ("__classdict__" : Str)) = false := by decide) :
    wpAny M A (eval (.Name x pos) env) Q E s := wpAny_Name (wpAny_loadName_free hk hx hc ⟨o, N.get hm, hd⟩ h hn) hb
theorem nmG (F : Fr h₀ L s.heap m) (hg : h₀.Ns mainGlobals mg) (hb : mg x = some v) (h : Q v s) (hE : env.globals = mainGlobals := by rfl) (hk : env.scope.kind = .function := by rfl) (hx : env.kindOf x = some .globalImplicit := by rfl) (hd : (x == ("__debug__" : Str)) = false := by decide) :
    wpAny M A (eval (.Name x pos) env) Q E s := Calls.Name_function_global hk hx (Calls.loadGlobal_global (env := env) (show s.heap.Ns env.globals mg from hE ▸ hg.keeps F.keep) hb h) hd
theorem nmB (F : Fr h₀ L s.heap m) (hg : h₀.Ns mainGlobals mg) (hmiss : mg x = none) (hb : h₀.Ns builtinsNs mb) (hv : mb x = some v) (h : Q v s) (hE : env.globals = mainGlobals := by rfl) (hE2 : env.builtins = builtinsNs := by rfl) (hk : env.scope.kind = .function := by rfl) (hx : env.kindOf x = some .globalImplicit := by rfl) (hd : (x == ("__debug__" : Str)) = false := by decide) :
    wpAny M A (eval (.Name x pos) env) Q E s := Calls.Name_function_global hk hx (Calls.loadGlobal_builtin (env := env) (show s.heap.Ns env.globals mg from hE ▸ hg.keeps F.keep) hmiss (show s.heap.Ns env.builtins mb from hE2 ▸ hb.keeps F.keep) hv h) hd
end names

section comp
variable {prog : Program} {w : World} {A : Around} {E : Value → Shared → Prop} {s : Shared} {h₀ : Heap} {L : Addr} {m : Str → Option Value} {env : Env}
abbrev testsOf (ifs : List PySem.Expr) (env : Env) : Sem Bool := forIn ifs true fun c r => if r = true then do let ok ← isTrue c env (eval c env); pure (ForInStep.yield ok) else pure (ForInStep.yield r)
theorem compLoopJ {target elt iter : PySem.Expr} {ifs : List PySem.Expr} {scope : Scope} {pos : Pos} {it acc : Value} {env : Env} {R : Result → Shared → Prop} (I : Nat → Shared → Prop)
    (turn : ∀ n s, I n s → wpAny (model prog w) A (pyNext it) (fun r s₁ => match r with
      | none => R (.ok .next) s₁
      | some v => wpAny (model prog w) A (letOwnedTupleGo target it v) (fun _ s₁' => wpAny (model prog w) A (assign target env v) (fun _ s₂ => wpAny (model prog w) A (testsOf ifs env) (fun ok s₃ =>
          if ok = true then wpAny (model prog w) A (eval elt env) (fun x s₄ => wpAny (model prog w) A (call (.builtin "list.append") [acc, x]) (fun _ s₅ => ∃ m, m < n ∧ I m s₅) (notedBy (model prog w) A env fun e s' => R (.error e) s') s₄) (notedBy (model prog w) A env fun e s' => R (.error e) s') s₃
          else ∃ m, m < n ∧ I m s₃) (notedBy (model prog w) A env fun e s' => R (.error e) s') s₂) (notedBy (model prog w) A env fun e s' => R (.error e) s') s₁') (notedBy (model prog w) A env fun e s' => R (.error e) s') s₁) (notedBy (model prog w) A env fun e s' => R (.error e) s') s)
    (n : Nat) (h : I n s) : codeAny (model prog w) A (.compLoop (.ListComp elt [⟨target, iter, ifs, 0⟩] scope pos) 0 it acc env) R s := by
  refine codeAny_loop rfl I (fun n s hI => ?_) n h
  show wpAny _ A ((compTurn (.ListComp elt [⟨target, iter, ifs, 0⟩] scope pos) 0 it acc env).onRaise (fun x => do noteFrame x env; theTreesLotGoes x)) _ _ s
  refine wpAny_noted ?_
  rw [compTurn_list]
  refine wpAny_bind (wpAny_standAt (wpAny_bind (wpAny_mono (turn n s hI) (fun r s₁ h₁ => ?_) fun _ _ h' => h')))
  cases r with
  | none => exact wpAny_pure h₁
  | some v =>
    refine wpAny_bind (wpAny_mono h₁ (fun _ s₁' h₁' => ?_) fun _ _ h' => h')
    refine wpAny_bind (wpAny_mono h₁' (fun _ s₂ h₂ => wpAny_bind (wpAny_mono h₂ (fun ok s₃ h₃ => ?_) fun _ _ h' => h')) fun _ _ h' => h')
    cases ok with
    | true =>
      simp only [if_true] at h₃ ⊢
      exact wpAny_bind (wpAny_bind (wpAny_mono h₃ (fun x s₄ h₄ => wpAny_bind (wpAny_mono h₄ (fun _ s₅ h₅ => wpAny_pure (wpAny_pure ⟨rfl, h₅⟩)) fun _ _ h' => h')) fun _ _ h' => h'))
    | false =>
      simp only [Bool.false_eq_true, if_false] at h₃ ⊢
      exact wpAny_bind (wpAny_pure (wpAny_pure ⟨rfl, h₃⟩))
/-- what one turn of a comprehension leaves -/
def Kp (h₀ : Heap) (L C : Addr) (m : Str → Option Value) (s₁ s' : Shared) : Prop :=
  ∃ h' tk, s' = { s₁ with heap := h', toks := tk } ∧ Fr h₀ L h' m ∧ (∃ mC, h'.Ns C mC) ∧ ∀ b o, b ≠ L → b ≠ C → s₁.heap.get? b = some o → h'.get? b = some o
def TurnJ {γ : Type} (prog : Program) (w : World) (A : Around) (h₀ : Heap) (L C : Addr) (m : Str → Option Value) (Rel : Heap → Value → γ → Prop) (target elt : PySem.Expr) (ifs : List PySem.Expr) (cenv : Env) (ok₀ : Bool) (e₁ : γ) (v : Value) (s : Shared) : Prop :=
  ∀ E : Value → Shared → Prop, wpAny (model prog w) A (assign target cenv v) (fun _ s₂ => wpAny (model prog w) A (testsOf ifs cenv) (fun ok s₃ => ok = ok₀ ∧
    if ok = true then wpAny (model prog w) A (eval elt cenv) (fun y s₄ => Kp h₀ L C m s s₄ ∧ Rel s₄.heap y e₁) E s₃ else Kp h₀ L C m s s₃) E s₂) E s
theorem blockJ {β γ : Type} {target elt iter : PySem.Expr} {ifs : List PySem.Expr} {scope : Scope} {cl : List (Str × Addr)} {pos : Pos} {s₂ : Shared} {I ax : Addr} {vs : List Value} {RR : Value → Addr → Result → Shared → Prop}
    (es : List β) (p : β → Bool) (f : β → γ) (Rel : Heap → Value → γ → Prop) (hRel : ∀ h h' v c, KT h h' → Rel h v c → Rel h' v c)
    (hh : A.handled = none) (hit : s₂.heap.IsListIter I ax 0) (hl : s₂.heap.IsList ax vs.toArray) (hlen : vs.length = es.length) (hsz : vs.length ≤ 9000)
    (hcell : ∀ y ∈ scope.names, y.2 ≠ .cell) (hkind : scope.kind = .function) (F : Fr h₀ L s₂.heap m) (hI₀ : h₀.get? I = none) (hIL : L ≠ I) (haL : ax ≠ L) (hne : ax ≠ I)
    (turn : ∀ (i : Nat) (v : Value) (e : β) (h : Heap) (tk : Nat) (C : Addr) (mC : Str → Option Value), vs[i]? = some v → es[i]? = some e → Fr h₀ L h m → (∀ b o, b ≠ L → b ≠ I → s₂.heap.get? b = some o → h.get? b = some o) → h.Ns C mC → s₂.heap.get? C = none → C ≠ L → h₀.get? C = none →
      TurnJ prog w A h₀ L C m Rel target elt ifs (compEnvC scope cl C env) (p e) (f e) v { s₂ with heap := h, toks := tk })
    (hRR : ∀ D C ys h tk mC, Fr h₀ L h m → (∀ b o, b ≠ L → b ≠ I → s₂.heap.get? b = some o → h.get? b = some o) → h.get? D = some (lst ys) → s₂.heap.get? D = none → s₂.heap.get? C = none → C ≠ L → D ≠ L → C ≠ D → h₀.get? C = none → h₀.get? D = none → h.Ns C mC →
      Al2 (Rel h) ys ((es.filter p).map f) → RR (.ref D) C (.ok .next) { s₂ with heap := h, toks := tk }) :
    wpAny (model prog w) A (newList []) (fun acc s₃ => wpAny (model prog w) A (newFunctionEnv scope env.globals cl [] env.qual none .none (some env)) (fun cenv s₄ =>
      codeAny (model prog w) A (.compStart (.ListComp elt [⟨target, iter, ifs, 0⟩] scope pos) 0 (.ref I) acc { cenv with scope := relabel scope env }) (RR acc cenv.locals) s₄) E s₃) E s₂ := by
  have W := Walks.list (prog := prog) (w := w) hh I ax hne vs.toArray
  rw [List.size_toArray] at W
  refine wpAny_newObj_type (wpAny_newFunctionEnv hcell (by intro y hy; simp at hy) (fun h₁ hns₁ hsb₁ => ?_) hkind)
  dsimp only at hns₁ hsb₁ ⊢
  generalize hH2 : s₂.heap.push { cls := .type "list", dict := none, data := .seq ([] : List Value).toArray } = H2 at hns₁ hsb₁ ⊢
  generalize hDD : s₂.heap.objs.size = D
  generalize hCC : H2.objs.size = C at hns₁ hsb₁
  have hC : C = D + 1 := by rw [← hCC, ← hDD, ← hH2, Heap.size_push]
  have hDC : D ≠ C := by rw [hC]; exact Nat.ne_of_lt (Nat.lt_succ_self _)
  have lt₂ : ∀ b o, s₂.heap.get? b = some o → b < D := fun b o e => hDD ▸ Heap.lt_size e
  have below : ∀ b, b < D → b ≠ C ∧ b ≠ D := fun b hb => ⟨by rw [hC]; exact Nat.ne_of_lt (Nat.lt_succ_of_lt hb), Nat.ne_of_lt hb⟩
  have hIlt : I < D := by obtain ⟨o, e, _⟩ := hit; exact lt₂ _ _ e
  have haxlt : ax < D := by obtain ⟨o, e, _⟩ := hl; exact lt₂ _ _ e
  have old : ∀ b o, s₂.heap.get? b = some o → h₁.get? b = some o := fun b o e => hsb₁.extBut b o (below b (lt₂ b o e)).1 (Heap.get?_push_of_some _ (hH2 ▸ Heap.get?_push_of_some _ e))
  have hacc : h₁.get? D = some (lst []) := hsb₁.extBut _ _ hDC (Heap.get?_push_of_some _ (by rw [← hH2, ← hDD]; exact Heap.get?_push_size _ rfl))
  have fresh : ∀ a, D ≤ a → s₂.heap.get? a = none := fun a ha => by
    cases e : s₂.heap.get? a with
    | none => rfl
    | some o' => exact absurd (lt₂ _ _ e) (Nat.not_lt.mpr ha)
  have fresh₀ : ∀ a, D ≤ a → h₀.get? a = none := fun a ha => by
    cases e : h₀.get? a with
    | none => rfl
    | some o' => have := F.keep a o' e; rw [fresh a ha] at this; cases this
  have hLlt : L < D := hDD ▸ F.ns.lt
  have hLD : L ≠ D := (below L hLlt).2
  have hLC : L ≠ C := (below L hLlt).1
  have hIC : I ≠ C := (below I hIlt).1
  have hID : I ≠ D := (below I hIlt).2
  have haC : ax ≠ C := (below ax haxlt).1
  have haD : ax ≠ D := (below ax haxlt).2
  have hC₀ : h₀.get? C = none := fresh₀ _ (by rw [hC]; exact Nat.le_succ _)
  have hD₀ : h₀.get? D = none := fresh₀ _ (Nat.le_refl _)
  have loop : ∀ s₃ : Shared, s₃ = { s₂ with heap := h₁, toks := s₂.toks + ([] : List (Str × Value)).length } →
      codeAny (model prog w) A (.compLoop (.ListComp elt [⟨target, iter, ifs, 0⟩] scope pos) 0 (.ref I) (.ref D) (compEnvC scope cl C env)) (RR (.ref D) C) s₃ := by
    rintro s₃ rfl
    refine compLoopJ (fun k s' => ∃ h tk i ys mC, s' = { s₂ with heap := h, toks := tk } ∧ i ≤ vs.length ∧ k = vs.length + 1 - i ∧ h.IsListIter I ax i ∧ h.IsList ax vs.toArray ∧ Fr h₀ L h m ∧ h.Ns C mC ∧ h.get? D = some (lst ys) ∧ ys.length ≤ i ∧
        Al2 (Rel h) ys (((es.take i).filter p).map f) ∧ ∀ b o, b ≠ L → b ≠ I → s₂.heap.get? b = some o → h.get? b = some o) ?_ (vs.length + 1)
      ⟨h₁, _, 0, [], _, rfl, Nat.zero_le _, rfl, hit.at fun o e => old _ o e, hl.at fun o e => old _ o e, F.keeps old, hns₁, hacc, Nat.le_refl _, trivial, fun b o _ _ e => old b o e⟩
    rintro k s' ⟨h, tk, i, ys, mC, rfl, hi, rfl, st1, st2, F', hn', hD', hyl, hal, hk⟩
    by_cases hlt : i < vs.length
    · refine W.item i _ _ _ hlt ⟨st1, st2⟩ fun v h₂ tk₂ hPv st' hk₂ => ?_
      have hv : vs[i]? = some v := by simpa using hPv
      have hlt' : i < es.length := hlen ▸ hlt
      have he : es[i]? = some es[i] := List.getElem?_eq_getElem hlt'
      refine letGo_listiter st'.1 ?_
      have k2 : ∀ b o, b ≠ I → h.get? b = some o → h₂.get? b = some o := fun b o hb e => hk₂ b o (fun q => hb (List.mem_singleton.mp q)) e
      have F₂ : Fr h₀ L h₂ m := ⟨F'.ns.at' fun o e => k2 L o hIL e, fun b o e => k2 b o (fun q => by rw [q, hI₀] at e; cases e) (F'.keep b o e), F'.above⟩
      have hn₂ : h₂.Ns C mC := hn'.at' fun o e => k2 C o hIC.symm e
      have hD₂ : h₂.get? D = some (lst ys) := k2 D _ hID.symm hD'
      have kt2 : KT h h₂ := fun b o hc hd e => k2 b o (fun q => by subst q; obtain ⟨o', e', hc', _⟩ := st1; rw [e'] at e; cases e; rw [hc'] at hc; simp at hc) e
      have hk' : ∀ b o, b ≠ L → b ≠ I → s₂.heap.get? b = some o → h₂.get? b = some o := fun b o h1 h2 e => k2 b o h2 (hk b o h1 h2 e)
      have hal₂ : Al2 (Rel h₂) ys (((es.take i).filter p).map f) := hal.mono fun _ _ => hRel _ _ _ _ kt2
      refine wpAny_mono (turn i v es[i] h₂ tk₂ C mC hv he F₂ hk' hn₂ (fresh _ (by rw [hC]; exact Nat.le_succ _)) hLC.symm hC₀ _) (fun _ s₃ h₃ => wpAny_mono h₃ (fun ok s₄ h₄ => ?_) fun _ _ x => x) fun _ _ x => x
      obtain ⟨rfl, h₄⟩ := h₄
      have tk1 : es.take (i + 1) = es.take i ++ [es[i]] := List.take_succ_eq_append_getElem hlt'
      have fin : ∀ s₅, Kp h₀ L C m { s₂ with heap := h₂, toks := tk₂ } s₅ → ∃ h₃ tk₃ m₃, s₅ = { s₂ with heap := h₃, toks := tk₃ } ∧ Fr h₀ L h₃ m ∧ h₃.Ns C m₃ ∧ h₃.IsListIter I ax (i + 1) ∧ h₃.IsList ax vs.toArray ∧ h₃.get? D = some (lst ys) ∧ KT h₂ h₃ ∧ ∀ b o, b ≠ L → b ≠ I → s₂.heap.get? b = some o → h₃.get? b = some o := by
        rintro s₅ ⟨h₃, tk₃, rfl, F₃, ⟨m₃, hn₃⟩, k₃⟩
        refine ⟨h₃, tk₃, m₃, rfl, F₃, hn₃, st'.1.at fun o e => k₃ I o hIL.symm hIC e, st'.2.at fun o e => k₃ ax o haL haC e, k₃ D _ hLD.symm hDC hD₂, fun b o hc hd e => ?_, fun b o h1 h2 e => k₃ b o h1 (below b (lt₂ b o e)).1 (hk' b o h1 h2 e)⟩
        refine k₃ b o (fun q => ?_) (fun q => ?_) e
        · subst q; obtain ⟨o', es', ep, e1, e2, _⟩ := F₂.ns; rw [e1] at e; cases e; obtain ⟨xs, n, e3⟩ := hd; rw [e2] at e3; cases e3
        · subst q; obtain ⟨o', es', ep, e1, e2, _⟩ := hn₂; rw [e1] at e; cases e; obtain ⟨xs, n, e3⟩ := hd; rw [e2] at e3; cases e3
      cases hp : p es[i] with
      | false =>
        rw [hp] at h₄
        simp only [Bool.false_eq_true, if_false] at h₄ ⊢
        obtain ⟨h₃, tk₃, m₃, rfl, F₃, hn₃, s1, s2, s3, kt3, hk₃⟩ := fin _ h₄
        refine ⟨vs.length + 1 - (i + 1), by omega, h₃, tk₃, i + 1, ys, m₃, rfl, hlt, rfl, s1, s2, F₃, hn₃, s3, by omega, ?_, hk₃⟩
        rw [tk1, List.filter_append, List.filter_cons, hp]
        simpa using hal₂.mono fun _ _ => hRel _ _ _ _ kt3
      | true =>
        rw [hp] at h₄
        simp only [if_true] at h₄ ⊢
        refine wpAny_mono h₄ (fun y s₅ h₅ => ?_) fun _ _ x => x
        obtain ⟨h₅, hr⟩ := h₅
        obtain ⟨h₃, tk₃, m₃, rfl, F₃, hn₃, s1, s2, s3, kt3, hk₃⟩ := fin _ h₅
        refine append_at (hsz := by show ys.toArray.size ≤ sizeLine; rw [List.size_toArray, sizeLine_eq]; omega) s3 fun h₆ hs₆ hD₆ => ?_
        have kt6 : KT h₃ h₆ := fun b o hc hd e => hs₆.extBut b o (fun q => by subst q; rw [s3] at e; cases e; simp at hc) e
        refine ⟨vs.length + 1 - (i + 1), by omega, h₆, tk₃, i + 1, ys ++ [y], m₃, rfl, hlt, rfl, s1.at fun o e => hs₆.extBut _ o hID e, s2.at fun o e => hs₆.extBut _ o haD e, F₃.change hs₆ hLD.symm hD₀, hn₃.sameBut hs₆ hDC.symm, hD₆.trans (congrArg some (lst_snoc ys y)), by rw [List.length_append, List.length_singleton]; omega, ?_,
          fun b o h1 h2 e => hs₆.extBut b o (below b (lt₂ b o e)).2 (hk₃ b o h1 h2 e)⟩
        rw [tk1, List.filter_append, List.filter_cons, hp, List.map_append]
        exact ((hal₂.mono fun _ _ => hRel _ _ _ _ kt3).mono fun _ _ => hRel _ _ _ _ kt6).snoc (hRel _ _ _ _ kt6 hr)
    · obtain rfl : i = vs.length := by omega
      refine W.done _ _ _ ⟨st1, st2⟩ fun h₂ tk₂ hk₂ => ?_
      have k2 : ∀ b o, b ≠ I → h.get? b = some o → h₂.get? b = some o := fun b o hb e => hk₂ b o (fun q => hb (List.mem_singleton.mp q)) e
      have kt2 : KT h h₂ := fun b o hc hd e => k2 b o (fun q => by subst q; obtain ⟨o', e', hc', _⟩ := st1; rw [e'] at e; cases e; rw [hc'] at hc; simp at hc) e
      refine hRR D C ys h₂ tk₂ mC ⟨F'.ns.at' fun o e => k2 L o hIL e, fun b o e => k2 b o (fun q => by rw [q, hI₀] at e; cases e) (F'.keep b o e), F'.above⟩ (fun b o h1 h2 e => k2 b o h2 (hk b o h1 h2 e)) (k2 D _ hID.symm hD') (fresh _ (Nat.le_refl _)) (fresh _ (by rw [hC]; exact Nat.le_succ _)) hLC.symm hLD.symm hDC.symm hC₀ hD₀ (hn'.at' fun o e => k2 C o hIC.symm e) ?_
      rw [hlen, List.take_length] at hal
      exact hal.mono fun _ _ => hRel _ _ _ _ kt2
  exact codeAny_compStart_list (loop _ rfl) (W.self 0 _ _ _ ⟨hit.at fun o e => old _ o e, hl.at fun o e => old _ o e⟩ (loop _ rfl))
end comp
end

section
open PySem PySem.W PyProof.Rows PySem.Calls
set_option maxRecDepth 100000
set_option maxHeartbeats 0
open PyProof.Rows.LCg
section comp
variable {prog : Program} {w : World} {A : Around} {E : Value → Shared → Prop} {s : Shared} {h₀ : Heap} {L : Addr} {m : Str → Option Value} {env : Env}
/-- what the source of a comprehension is to be -/
def SrcJ {β γ : Type} (prog : Program) (w : World) (A : Around) (h₀ : Heap) (L : Addr) (m : Str → Option Value) (env : Env) (es : List β) (p : β → Bool) (f : β → γ) (Rel : Heap → Value → γ → Prop) (target elt : PySem.Expr) (ifs : List PySem.Expr) (scope : Scope) (cl : List (Str × Addr))
    (Fin : Shared → Addr → List Value → Heap → Nat → Prop) (xv : Value) (s₁ : Shared) : Prop :=
  ∃ ax, ∃ vs : List Value, xv = .ref ax ∧ Fr h₀ L s₁.heap m ∧ s₁.heap.IsList ax vs.toArray ∧ ax ≠ L ∧ vs.length = es.length ∧ vs.length ≤ 9000 ∧
    (∀ (i : Nat) (v : Value) (e : β) (h : Heap) (tk : Nat) (C : Addr) (mC : Str → Option Value), vs[i]? = some v → es[i]? = some e → Fr h₀ L h m → (∀ b o, b ≠ L → s₁.heap.get? b = some o → h.get? b = some o) → h.Ns C mC → s₁.heap.get? C = none → C ≠ L → h₀.get? C = none →
      TurnJ prog w A h₀ L C m Rel target elt ifs (compEnvC scope cl C env) (p e) (f e) v { s₁ with heap := h, toks := tk }) ∧
    ∀ D ys h tk, Fr h₀ L h m → (∀ b o, b ≠ L → s₁.heap.get? b = some o → h.get? b = some o) → h.get? D = some (lst ys) → s₁.heap.get? D = none → D ≠ L → h₀.get? D = none → Al2 (Rel h) ys ((es.filter p).map f) → Fin s₁ D ys h tk
theorem compCore {β γ : Type} {target elt iter : PySem.Expr} {ifs : List PySem.Expr} {scope : Scope} {cl : List (Str × Addr)} {pos : Pos} {use : Option (Value → Sem Unit)} {Q : Value → Shared → Prop}
    (es : List β) (p : β → Bool) (f : β → γ) (Rel : Heap → Value → γ → Prop) (hRel : ∀ h h' v c, KT h h' → Rel h v c → Rel h' v c) (hh : A.handled = none)
    (hclos : closureFor scope env = pure cl) (hcell : ∀ y ∈ scope.names, y.2 ≠ .cell) (hkind : scope.kind = .function) (hnames : ∀ y ∈ scope.names, y.2 = .local → scope.names.lookup y.1 = some .local)
    {Fin : Shared → Addr → List Value → Heap → Nat → Prop}
    (h : wpAny (model prog w) A (eval iter env) (SrcJ prog w A h₀ L m env es p f Rel target elt ifs scope cl Fin) E s)
    (hfin : ∀ (s₁ : Shared) D C ys h tk mC, Fr h₀ L h m → (∀ b o, b ≠ L → s₁.heap.get? b = some o → h.get? b = some o) → h.get? D = some (lst ys) → s₁.heap.get? D = none → s₁.heap.get? C = none → C ≠ L → D ≠ L → C ≠ D → h₀.get? C = none → h₀.get? D = none → h.Ns C mC →
      Al2 (Rel h) ys ((es.filter p).map f) → (∀ D ys h tk, Fr h₀ L h m → (∀ b o, b ≠ L → s₁.heap.get? b = some o → h.get? b = some o) → h.get? D = some (lst ys) → s₁.heap.get? D = none → D ≠ L → h₀.get? D = none → Al2 (Rel h) ys ((es.filter p).map f) → Fin s₁ D ys h tk) → 
      compPost (model prog w) A E use Q (.ref D) C (.ok .next) { s₁ with heap := h, toks := tk })
    (hs : ∀ x, foldedSetIterable iter env x = pure x) :
    wpAny (model prog w) A (comprehension (.ListComp elt [⟨target, iter, ifs, 0⟩] scope pos) scope env (firstIterPos [⟨target, iter, ifs, 0⟩] pos) (newList []) false (eval iter env) use) Q E s := by
  refine wpAny_comprehension_free rfl hs hclos hkind hnames (wpAny_mono h (fun xv s₁ h₁ => ?_) fun _ _ e => e)
  obtain ⟨ax, vs, rfl, F, hl, haL, hlen, hsz, turn, fin⟩ := h₁
  have hlt : ax < s₁.heap.objs.size := by obtain ⟨_, e, _⟩ := hl; exact Heap.lt_size e
  refine wpAny_pyIter_list hl ?_
  have up : ∀ b o, s₁.heap.get? b = some o → (s₁.heap.push { cls := .type "list_iterator", data := .fields #[.ref ax, .int 0 0] }).get? b = some o := fun b o e => Heap.get?_push_of_some _ e
  have dn : ∀ b, (s₁.heap.push { cls := .type "list_iterator", data := .fields #[.ref ax, .int 0 0] }).get? b = none → s₁.heap.get? b = none := fun b e => by
    cases q : s₁.heap.get? b with
    | none => rfl
    | some o => rw [up b o q] at e; cases e
  have nI : ∀ b o, s₁.heap.get? b = some o → b ≠ s₁.heap.objs.size := fun b o e => Nat.ne_of_lt (Heap.lt_size e)
  refine blockJ (I := s₁.heap.objs.size) (ax := ax) (vs := vs) es p f Rel hRel hh ⟨_, Heap.get?_push_size _ rfl, rfl, rfl⟩ (hl.push _) hlen hsz hcell hkind (F.keeps up) (next_is_new F) (Nat.ne_of_lt F.ns.lt) haL (Nat.ne_of_lt hlt) ?_ ?_
  · intro i v e h tk C mC hv he F' hk hn hC hCL hC₀
    exact turn i v e h tk C mC hv he F' (fun b o hb e => hk b o hb (nI b o e) (up b o e)) hn (dn _ hC) hCL hC₀
  · intro D C ys h tk mC F' hk hD hDn hCn hCL hDL hCD hC₀ hD₀ hn hal
    exact hfin s₁ D C ys h tk mC F' (fun b o hb e => hk b o hb (nI b o e) (up b o e)) hD (dn _ hDn) (dn _ hCn) hCL hDL hCD hC₀ hD₀ hn hal fin
theorem ns_kt {h h' : Heap} {C : Addr} {mC : Str → Option Value} (hn : h.Ns C mC) (hs : Heap.SameBut C h h') : KT h h' := fun b o hc hd e => hs.extBut b o (fun q => by
  subst q; obtain ⟨o', es', ep, e1, e2, _⟩ := hn; rw [e1] at e; cases e; obtain ⟨xs, n, e3⟩ := hd; rw [e2] at e3; cases e3) e
theorem compJ {β γ : Type} {target elt iter : PySem.Expr} {ifs : List PySem.Expr} {scope : Scope} {cl : List (Str × Addr)} {pos : Pos} {Q : Value → Shared → Prop}
    (_F₀ : Fr h₀ L s.heap m) (es : List β) (p : β → Bool) (f : β → γ) (Rel : Heap → Value → γ → Prop) (hRel : ∀ h h' v c, KT h h' → Rel h v c → Rel h' v c) (hh : A.handled = none)
    (hclos : closureFor scope env = pure cl) (hcell : ∀ y ∈ scope.names, y.2 ≠ .cell) (hkind : scope.kind = .function) (hnames : ∀ y ∈ scope.names, y.2 = .local → scope.names.lookup y.1 = some .local)
    (h : wpAny (model prog w) A (eval iter env) (SrcJ prog w A h₀ L m env es p f Rel target elt ifs scope cl (fun s₁ D _ h tk => Q (.ref D) { s₁ with heap := h, toks := tk })) E s)
    (hs : ∀ x, foldedSetIterable iter env x = pure x := by intro _; rfl) :
    wpAny (model prog w) A (eval (.ListComp elt [⟨target, iter, ifs, 0⟩] scope pos) env) Q E s := by
  rw [eval_ListComp]
  refine compCore (use := none) es p f Rel hRel hh hclos hcell hkind hnames h ?_ hs
  intro s₁ D C ys h tk mC F hk hD hDn hCn hCL hDL hCD hC₀ hD₀ hn hal fin
  refine ⟨mC, hn, fun h' hs' => fin D ys h' tk (F.change hs' hCL hC₀) (fun b o hb e => hs'.extBut b o (fun q => by rw [q, hCn] at e; cases e) (hk b o hb e)) (hs'.extBut _ _ hCD.symm hD) hDn hDL hD₀ (hal.mono fun _ _ => hRel _ _ _ _ (ns_kt hn hs'))⟩
theorem assignCompJ {β γ : Type} {target elt iter : PySem.Expr} {ifs : List PySem.Expr} {scope : Scope} {cl : List (Str × Addr)} {pos spos py : Pos} {y : Str} {Q : Flow → Shared → Prop}
    (_F₀ : Fr h₀ L s.heap m) (es : List β) (p : β → Bool) (f : β → γ) (Rel : Heap → Value → γ → Prop) (hRel : ∀ h h' v c, KT h h' → Rel h v c → Rel h' v c) (hh : A.handled = none) (hLe : env.locals = L)
    (hsw : swapsWith (.ListComp elt [⟨target, iter, ifs, 0⟩] scope pos) (some (.Name y py)) spos.line env = pure true)
    (hclos : closureFor scope env = pure cl) (hcell : ∀ y ∈ scope.names, y.2 ≠ .cell) (hkind : scope.kind = .function) (hnames : ∀ y ∈ scope.names, y.2 = .local → scope.names.lookup y.1 = some .local)
    (hy : env.kindOf y = some .local) (hp : (env.scope.kind == .class || (env.scope.kind == .module && env.locals != env.globals)) = false)
    (h : wpAny (model prog w) A (eval iter env) (SrcJ prog w A h₀ L m env es p f Rel target elt ifs scope cl (fun s₁ D ys _ _ => ∀ h tk, Fr h₀ L h (fun z => if z = y then some (.ref D) else m z) → (∀ b o, b ≠ L → s₁.heap.get? b = some o → h.get? b = some o) → h.get? D = some (lst ys) → s₁.heap.get? D = none → D ≠ L → h₀.get? D = none → Al2 (Rel h) ys ((es.filter p).map f) → Q .next { s₁ with heap := h, toks := tk })) E s)
    (hs : ∀ x, foldedSetIterable iter env x = pure x := by intro _; rfl) :
    wpAny (model prog w) A (exec (.Assign [.Name y py] (.ListComp elt [⟨target, iter, ifs, 0⟩] scope pos) spos) env) Q E s := by
  subst hLe
  rw [exec_Assign_Name_used _ _ _ _ hsw]
  refine wpAny_bind (wpAny_standAt (wpAny_bind ?_))
  show wpAny _ A (do let _ ← comprehension (.ListComp elt [⟨target, iter, ifs, 0⟩] scope pos) scope env (firstIterPos [⟨target, iter, ifs, 0⟩] pos) (newList []) false (eval iter env) (some (assign (.Name y py) env))) _ _ s
  refine wpAny_bind (wpAny_mono (compCore (use := some (assign (.Name y py) env)) (Q := fun _ s' => Q .next s') es p f Rel hRel hh hclos hcell hkind hnames h ?_ hs) (fun _ s' hq => wpAny_pure (wpAny_pure hq)) fun _ _ e => e)
  intro s₁ D C ys h tk mC F hk hD hDn hCn hCL hDL hCD hC₀ hD₀ hn hal fin
  show wpAny _ A (assign (.Name y py) env (.ref D)) _ _ _
  refine wpAny_assign_Name (wpAny_storeName_local hy F.ns (fun h₂ hn₂ hs₂ => ?_) hp)
  have hL₀ : h₀.get? env.locals = none := Heap.get?_none_of_le F.above
  have F₂ : Fr h₀ env.locals h₂ (fun z => if z = y then some (.ref D) else m z) := ⟨hn₂, fun b o e => hs₂.extBut b o (fun q => by rw [q, hL₀] at e; cases e) (F.keep b o e), F.above⟩
  have hnC₂ := hn.sameBut hs₂ hCL
  refine ⟨mC, hnC₂, fun h' hs' => ?_⟩
  exact fin D ys h tk F hk hD hDn hDL hD₀ hal h' _ (F₂.change hs' hCL hC₀) (fun b o hb e => hs'.extBut b o (fun q => by rw [q, hCn] at e; cases e) (hs₂.extBut b o hb (hk b o hb e))) (hs'.extBut _ _ hCD.symm (hs₂.extBut _ _ hDL hD)) hDn hDL hD₀
    ((hal.mono fun _ _ => hRel _ _ _ _ (ns_kt F.ns hs₂)).mono fun _ _ => hRel _ _ _ _ (ns_kt hnC₂ hs'))
/-- the end of a turn -/
theorem kp_of {C : Addr} {s₁ : Shared} {oC : Obj} {h' : Heap} {tk : Nat} {E : List (Addr × Obj)} {mC : Str → Option Value} (F : Fr h₀ L h' m) (N : News h₀ L h' E) (hk₀ : ∀ b o, h₀.get? b = some o → s₁.heap.get? b = some o) (hC : (C, oC) ∈ E) (hn : NsObj oC mC) (ht : ∀ p ∈ tl h₀ s₁.heap [L, C], p ∈ E) : Kp h₀ L C m s₁ { s₁ with heap := h', toks := tk } :=
  ⟨h', tk, rfl, F, ⟨mC, hn.ns (N _ hC).1⟩, fun b o h1 h2 e => by
    cases q : h₀.get? b with
    | none => exact (N _ (ht _ (mem_tl.mpr ⟨e, q, fun hm => by rcases List.mem_cons.mp hm with rfl | hm; exact h1 rfl; rcases List.mem_cons.mp hm with rfl | hm; exact h2 rfl; cases hm⟩))).1
    | some o' => rw [hk₀ b o' q] at e; cases e; exact F.keep b o q⟩
theorem Kp.trans {C : Addr} {s₁ s₂ : Shared} {h₁ : Heap} {t₁ : Nat} (e₁ : ∀ b o, b ≠ L → b ≠ C → s₁.heap.get? b = some o → h₁.get? b = some o) (x : Kp h₀ L C m { s₁ with heap := h₁, toks := t₁ } s₂) : Kp h₀ L C m s₁ s₂ := by
  obtain ⟨h', tk, rfl, F, n, k⟩ := x
  exact ⟨h', tk, rfl, F, n, fun b o a c e => k b o a c (e₁ b o a c e)⟩
end comp
section tgt
variable {prog : Program} {w : World} {A : Around} {E : Value → Shared → Prop} {s : Shared} {h₀ : Heap} {L C : Addr} {m mC : Str → Option Value} {env : Env} {scope : Scope} {cl : List (Str × Addr)} {Q : Unit → Shared → Prop}
theorem storeC {x : Str} {v : Value} (hn : s.heap.Ns C mC) (hkind : scope.kind = .function) (hx : scope.names.lookup x = some .local)
    (h : ∀ h', h'.Ns C (fun y => if y = x then some v else mC y) → Heap.SameBut C s.heap h' → Q () { s with heap := h', toks := s.toks + 1 }) : wpAny (model prog w) A (storeName (compEnvC scope cl C env) x v) Q E s :=
  wpAny_storeName_local (lookup_relabel_local hx) hn (fun h' hn' hs' => h h' hn' hs') (by simp [compEnvC, relabel, hkind])
theorem nameC {x : Str} {v : Value} {px : Pos} (hn : s.heap.Ns C mC) (hkind : scope.kind = .function) (hx : scope.names.lookup x = some .local)
    (h : ∀ h' tk, h'.Ns C (fun y => if y = x then some v else mC y) → (∀ b o, b ≠ C → s.heap.get? b = some o → h'.get? b = some o) → Q () { s with heap := h', toks := tk }) : wpAny (model prog w) A (assign (.Name x px) (compEnvC scope cl C env) v) Q E s :=
  wpAny_assign_Name (storeC hn hkind hx fun h' hn' hs' => h h' _ hn' hs'.extBut)
theorem tupC2 {x₁ x₂ : Str} {v₁ v₂ : Value} {p₁ p₂ pos : Pos} {k} {t : Addr} (hh : A.handled = none) (ht : IsTup s.heap t #[v₁, v₂]) (hn : s.heap.Ns C mC) (hkind : scope.kind = .function) (hx₁ : scope.names.lookup x₁ = some .local) (hx₂ : scope.names.lookup x₂ = some .local)
    (h : ∀ h' tk, h'.Ns C (fun y => if y = x₂ then some v₂ else if y = x₁ then some v₁ else mC y) → (∀ b o, b ≠ C → s.heap.get? b = some o → h'.get? b = some o) → Q () { s with heap := h', toks := tk }) :
    wpAny (model prog w) A (assign (.Tuple [.Name x₁ p₁, .Name x₂ p₂] k pos) (compEnvC scope cl C env) (.ref t)) Q E s := by
  refine assign_Tuple_tuple hh ht rfl rfl fun h₅ he => ?_
  have he' : ∀ b o, s.heap.get? b = some o → h₅.get? b = some o := fun b o e => he b o (Nat.ne_of_lt (Heap.lt_size e)) e
  refine assignInOrder_cons (wpAny_assign_Name (storeC (hn.at' fun o e => he' _ o e) hkind hx₁ fun h₁ hn₁ hs₁ => ?_))
  refine assignInOrder_cons (wpAny_assign_Name (storeC hn₁ hkind hx₂ fun h₂ hn₂ hs₂ => ?_))
  exact assignInOrder_nil (h h₂ _ hn₂ fun b o hb e => hs₂.extBut b o hb (hs₁.extBut b o hb (he' b o e)))
theorem tupC3 {x₁ x₂ x₃ : Str} {v₁ v₂ v₃ : Value} {p₁ p₂ p₃ pos : Pos} {k} {t : Addr} (hh : A.handled = none) (ht : IsTup s.heap t #[v₁, v₂, v₃]) (hn : s.heap.Ns C mC) (hkind : scope.kind = .function) (hx₁ : scope.names.lookup x₁ = some .local) (hx₂ : scope.names.lookup x₂ = some .local) (hx₃ : scope.names.lookup x₃ = some .local)
    (h : ∀ h' tk, h'.Ns C (fun y => if y = x₃ then some v₃ else if y = x₂ then some v₂ else if y = x₁ then some v₁ else mC y) → (∀ b o, b ≠ C → s.heap.get? b = some o → h'.get? b = some o) → Q () { s with heap := h', toks := tk }) :
    wpAny (model prog w) A (assign (.Tuple [.Name x₁ p₁, .Name x₂ p₂, .Name x₃ p₃] k pos) (compEnvC scope cl C env) (.ref t)) Q E s := by
  refine assign_Tuple_tuple hh ht rfl rfl fun h₅ he => ?_
  have he' : ∀ b o, s.heap.get? b = some o → h₅.get? b = some o := fun b o e => he b o (Nat.ne_of_lt (Heap.lt_size e)) e
  refine assignInOrder_cons (wpAny_assign_Name (storeC (hn.at' fun o e => he' _ o e) hkind hx₁ fun h₁ hn₁ hs₁ => ?_))
  refine assignInOrder_cons (wpAny_assign_Name (storeC hn₁ hkind hx₂ fun h₂ hn₂ hs₂ => ?_))
  refine assignInOrder_cons (wpAny_assign_Name (storeC hn₂ hkind hx₃ fun h₃ hn₃ hs₃ => ?_))
  exact assignInOrder_nil (h h₃ _ hn₃ fun b o hb e => hs₃.extBut b o hb (hs₂.extBut b o hb (hs₁.extBut b o hb (he' b o e))))
end tgt
section call
variable {prog : Program} {w : World} {A : Around} {E : Value → Shared → Prop} {s : Shared} {g : Heap} {l : Addr} {n : Nat}
/-- a call of a def of the text that has cells; one list that it is handed stands in the ledger -/
theorem callFnC {mg mb : Str → Option Value} {vs : List Value} {f : Addr} {o : Obj} {pm cdv doc : Value} {name : Str} {params : Arguments} {body : List Stmt} {scope : Scope} {args : List Value} {Q : Value → Shared → Prop}
    (binds : List (Str × Value)) (cl : List (Str × Addr)) (mL mC : Str → Option Value)
    (G : GdAt mg mb g) (hg : ∀ b o, g.get? b = some o → s.heap.get? b = some o) (hlg : g.get? l = none) (hl : s.heap.get? l = some (listOf vs.toArray n))
    (ho : g.get? f = some o) (hd : o.data = .func (docDef name params body scope pm cdv doc)) (hc : g.CodeRec cdv name) (hroom : A.depth < recursionLimit)
    (hbind : BindsTo s (docDef name params body scope pm cdv doc) ⟨args, []⟩ binds)
    (hkind : ∀ n, ∀ x ∈ binds, scope.names.lookup x.1 = some .local ∨ (scope.names.lookup x.1 = some .cell ∧ ((cellsFrom n scope.names []).lookup x.1).isSome = true))
    (hnd : ((cellsFrom 0 scope.names []).map (·.1)).Nodup)
    (hco : scope.isCoroutine = false) (hgen : scope.isGenerator = false) (hk : scope.kind = .function)
    (hcl : cellsFrom (s.heap.objs.size + 1) scope.names [] = cl) (hmL : bindL (envX name scope s.heap.objs.size f cdv cl).kindOf binds (fun _ => none) = mL) (hmC : bindC (envX name scope s.heap.objs.size f cdv cl).kindOf binds (fun _ => none) = mC)
    (h : ∀ h₁ tk cells, Fr (s.heap.hide l) s.heap.objs.size h₁ mL → News (s.heap.hide l) s.heap.objs.size h₁ (cells ++ [(l, listOf vs.toArray n)]) → CellsAre mC cl cells → l < s.heap.objs.size → GdAt mg mb (s.heap.hide l) →
      wpAny (model prog w) (A.deeper (envX name scope s.heap.objs.size f cdv cl)) (execs body (envX name scope s.heap.objs.size f cdv cl)) (fun fl s' => Q (match fl with | .ret v => v | _ => .none) s') (fun _ _ => False)
        { s with heap := h₁, toks := tk }) : wpAny (model prog w) A (call (.ref f) args) Q E s := by
  subst hcl hmL hmC
  refine wpAny_call (codeAny_call_function (fd := docDef name params body scope pm cdv doc) hroom (hg _ _ ho) hd hco hgen rfl (hc.keeps hg) (hbind _ _ _ _ ?_))
  refine wpAny_newFunctionEnv_cells hk (hkind _) fun env' he s' x => ?_
  subst he
  refine ⟨(G.nolimit.keeps hg).keeps x.toInCall.keep, codeAny_func ?_⟩
  obtain ⟨h₁, tk, rfl, _⟩ := x.done
  have hk₁ := x.toInCall.keep
  obtain ⟨cells, NC, Y⟩ := Cl.news (h₀ := s.heap) (Nat.le_refl _) fun n c hm => ⟨x.cell n c (lookup_of_mem_nodup (cellsFrom_names scope.names 0 (s.heap.objs.size + 1) [] [] rfl ▸ hnd) hm), x.above n c hm⟩
  have hnl : ∀ b o, (s.heap.hide l).get? b = some o → s.heap.get? b = some o := fun b o e => Heap.of_hide e
  refine wpAny_mono (h h₁ tk cells ⟨x.toInCall.ns, fun b o e => hk₁ b o (hnl b o e), Nat.le_of_eq (Heap.hide_size _ _)⟩ (fun p hp => ?_) Y (Heap.lt_size hl) (G.keeps fun b o e => ?_)) (fun fl s' hq => ?_) fun _ _ y => y.elim
  · rcases List.mem_append.mp hp with hp | hp
    · refine ⟨(NC p hp).1, (NC p hp).2.1, ?_⟩
      cases q : (s.heap.hide l).get? p.1 with
      | none => rfl
      | some o => have := hnl _ _ q; rw [(NC p hp).2.2] at this; cases this
    · obtain rfl : p = _ := List.mem_singleton.mp hp
      exact ⟨hk₁ _ _ hl, Nat.ne_of_lt (Heap.lt_size hl), Heap.hide_self _ _⟩
  · rw [Heap.hide_ne _ (fun q : b = l => by rw [q, hlg] at e; cases e)]; exact hg b o e
  · exact hq
end call
end

section
open PySem PySem.W PyProof.Rows PySem.Calls
set_option maxRecDepth 100000
set_option maxHeartbeats 0
open PyProof.Rows.LCg
section
variable {prog : Program} {w : World} {A : Around} {E : Value → Shared → Prop} {s : Shared} {h₀ : Heap} {L D : Addr} {m : Str → Option Value} {env : Env} {rest news : List (Addr × Obj)} {n : Nat}
theorem app_head {ys : List Value} {x : Value} {Q : Value → Shared → Prop} (F : Fr h₀ L s.heap m) (N : News h₀ L s.heap ((D, listOf ys.toArray n) :: rest)) (hap : ∀ p ∈ rest, p.1 ≠ D) (hsz : ys.length ≤ 9000)
    (h : ∀ h', Fr h₀ L h' m → News h₀ L h' ((D, listOf (ys ++ [x]).toArray (n + 1)) :: rest) → Q .none { s with heap := h' }) : wpAny (model prog w) A (call (.builtin "list.append") [.ref D, x]) Q E s := by
  refine append_head (hsz := by rw [List.size_toArray, sizeLine_eq]; omega) F N hap fun h' F' N' => h h' F' ?_
  rw [List.push_toArray] at N'
  exact N'
theorem tupL2 {x₁ x₂ : Str} {v₁ v₂ : Value} {p₁ p₂ pos : Pos} {k} {t : Addr} {Q : Unit → Shared → Prop} (hh : A.handled = none) (ht : IsTup s.heap t #[v₁, v₂]) (F : Fr h₀ L s.heap m) (N : News h₀ L s.heap news)
    (h : ∀ h' tk, Fr h₀ L h' (fun y => if y = x₂ then some v₂ else if y = x₁ then some v₁ else m y) → News h₀ L h' news → Q () { s with heap := h', toks := tk })
    (hE : env.locals = L := by rfl) (hk : env.scope.kind = .function := by rfl) (hx₁ : env.kindOf x₁ = some .local := by rfl) (hx₂ : env.kindOf x₂ = some .local := by rfl) :
    wpAny (model prog w) A (assign (.Tuple [.Name x₁ p₁, .Name x₂ p₂] k pos) env (.ref t)) Q E s := by
  subst hE
  have hp : (env.scope.kind == .class || (env.scope.kind == .module && env.locals != env.globals)) = false := by rw [hk]; rfl
  refine assign_Tuple_tuple hh ht rfl rfl fun h₅ he => ?_
  have he' : ∀ b o, s.heap.get? b = some o → h₅.get? b = some o := fun b o e => he b o (Nat.ne_of_lt (Heap.lt_size e)) e
  have F₅ := F.keeps he'
  refine assignInOrder_cons (wpAny_assign_Name (wpAny_storeName_local hx₁ F₅.ns (fun h₁ hn₁ hs₁ => ?_) hp))
  have F₁ := F₅.set hn₁ hs₁
  refine assignInOrder_cons (wpAny_assign_Name (wpAny_storeName_local hx₂ F₁.ns (fun h₂ hn₂ hs₂ => ?_) hp))
  exact assignInOrder_nil (h h₂ _ (F₁.set hn₂ hs₂) (((N.grown he').set hs₁).set hs₂))
end
section loops
variable {prog : Program} {w : World} {A : Around} {E : Value → Shared → Prop} {s : Shared} {env : Env} {h₀ : Heap} {target : PySem.Expr} {body : List Stmt} {Q : Flow → Shared → Prop}
theorem unrMono {L : Addr} {s₁ s₂ : Shared} {its : List (Addr × Obj)} {r r' : (Str → Option Value) → List (Addr × Obj) → Prop} {f : Flow} (hr : ∀ m n, r m n → r' m n) (x : UnrPostW h₀ L s₁ its r Q f s₂) : UnrPostW h₀ L s₁ its r' Q f s₂ := by
  cases f with
  | ret v => exact x
  | brk => exact x
  | next => obtain ⟨h', tk, m', n', e, F, N, o, q⟩ := x; exact ⟨h', tk, m', n', e, F, N, o, hr _ _ q⟩
  | cont => obtain ⟨h', tk, m', n', e, F, N, o, q⟩ := x; exact ⟨h', tk, m', n', e, F, N, o, hr _ _ q⟩
theorem enumJ {elts : List PySem.Expr} {k : Nat} {pos : Pos} {l : Addr} {lo : Obj} {vs : List Value} {n : Nat} {m₀ : Str → Option Value} {news : List (Addr × Obj)}
    (Inv : List Value → Nat → (Str → Option Value) → List (Addr × Obj) → Addr → Prop) (hh : A.handled = none) (F : Fr h₀ env.locals s.heap m₀) (N : News h₀ env.locals s.heap news) (hm : (l, lo) ∈ news) (hc : lo.cls = .type "list") (hd : lo.data = .seq vs.toArray n)
    (start : ∀ I : Nat, (∀ p ∈ news, p.1 < I) → Inv vs 0 m₀ news I)
    (stop : ∀ I i mm nw h tk, Inv [] i mm nw I → Fr h₀ env.locals h mm → News h₀ env.locals h nw → Q .next { s with heap := h, toks := tk })
    (step : ∀ (I : Nat) v r (i : Nat) mm nw, Inv (v :: r) i mm nw I → ∀ T t h tk, IsTup h T #[.int (i : Int) t, v] → Fr h₀ env.locals h mm → ∀ o1 o2 : Obj, o1.cls = .type "enumerate" → o2.cls = .type "list_iterator" → News h₀ env.locals h ((I + 1, o1) :: (I, o2) :: nw) →
      wpAny (model prog w) A (assign (.Tuple elts k pos) env (.ref T)) (fun _ s₂ => wpAny (model prog w) A (execs body env) (UnrPostW h₀ env.locals { s with heap := h, toks := tk } [(I + 1, o1), (I, o2)] (fun m' n' => (l, lo) ∈ n' ∧ Inv r (i + 1) m' n' I) Q) E s₂) E { s with heap := h, toks := tk }) :
    wpAny (model prog w) A (call (.type "enumerate") [.ref l]) (fun xv s₁ => wpAny (model prog w) A (pyIter xv) (fun it s₂ => TurnsAt prog w A h₀ env (.Tuple elts k pos) body Q E it s₂) E s₁) E s := by
  refine ktu_enum hh F N hm hc hd rfl fun I hI => ?_
  have key : ∀ (r : List Value) (i : Nat) mm nw, Inv r i mm nw I → ItemsRest prog w A E h₀ env (.Tuple elts k pos) body Q s [(I + 1, "enumerate"), (I, "list_iterator")] [(l, lo)] (enumItems i r) mm nw := by
    intro r
    induction r with
    | nil => intro i mm nw hi; exact ItemsRest.zero fun h tk F' N' => stop I i mm nw h tk hi F' N'
    | cons v r ih =>
      intro i mm nw hi
      refine ItemsRest.pair fun T t h tk hT F' => AllObj.cons fun o1 c1 => AllObj.cons fun o2 c2 => AllObj.nil fun N' => ?_
      refine wpAny_mono (step I v r i mm nw hi T t h tk hT F' o1 o2 c1 c2 N') (fun _ s₂ h₂ => wpAny_mono h₂ (fun f s₃ h₃ => ?_) fun _ _ x => x) fun _ _ x => x
      exact unrMono (fun m' n' q => ⟨⟨q.1, trivial⟩, ih (i + 1) m' n' q.2⟩) h₃
  exact key vs 0 m₀ news (start I hI)
theorem listJ {ax : Addr} {lo : Obj} {vs : List Value} {n : Nat} {m₀ : Str → Option Value} {news : List (Addr × Obj)}
    (Inv : List Value → (Str → Option Value) → List (Addr × Obj) → Addr → Prop) (hh : A.handled = none) (F : Fr h₀ env.locals s.heap m₀) (N : News h₀ env.locals s.heap news) (hm : (ax, lo) ∈ news) (hc : lo.cls = .type "list") (hd : lo.data = .seq vs.toArray n)
    (start : ∀ I : Nat, (∀ p ∈ news, p.1 < I) → Inv vs m₀ news I)
    (stop : ∀ I mm nw h tk, Inv [] mm nw I → Fr h₀ env.locals h mm → News h₀ env.locals h nw → Q .next { s with heap := h, toks := tk })
    (step : ∀ (I : Nat) v r mm nw, Inv (v :: r) mm nw I → ∀ h tk, Fr h₀ env.locals h mm → ∀ o2 : Obj, o2.cls = .type "list_iterator" → News h₀ env.locals h ((I, o2) :: nw) →
      wpAny (model prog w) A (assign target env v) (fun _ s₂ => wpAny (model prog w) A (execs body env) (UnrPostW h₀ env.locals { s with heap := h, toks := tk } [(I, o2)] (fun m' n' => (ax, lo) ∈ n' ∧ Inv r m' n' I) Q) E s₂) E { s with heap := h, toks := tk }) :
    wpAny (model prog w) A (pyIter (.ref ax)) (fun it s₂ => TurnsAt prog w A h₀ env target body Q E it s₂) E s := by
  refine iter_listTurns hh F N hm hc hd fun I hI => ?_
  have key : ∀ (r : List Value) mm nw, Inv r mm nw I → ItemsRest prog w A E h₀ env target body Q s [(I, "list_iterator")] [(ax, lo)] (r.map .val) mm nw := by
    intro r
    induction r with
    | nil => intro mm nw hi; exact ItemsRest.zero fun h tk F' N' => stop I mm nw h tk hi F' N'
    | cons v r ih =>
      intro mm nw hi
      refine ItemsRest.val fun h tk F' => AllObj.cons fun o2 c2 => AllObj.nil fun N' => ?_
      refine wpAny_mono (step I v r mm nw hi h tk F' o2 c2 N') (fun _ s₂ h₂ => wpAny_mono h₂ (fun f s₃ h₃ => ?_) fun _ _ x => x) fun _ _ x => x
      exact unrMono (fun m' n' q => ⟨⟨q.1, trivial⟩, ih m' n' q.2⟩) h₃
  exact key vs m₀ news (start I hI)
end loops
abbrev Itm3 := Nat × Str × Int
def soldOf (k n : Nat) : Itm3 := (k, signOf k (n / 5), if n % 5 = 3 then ((n / 5 % 4 : Nat) : Int) else ((n / 5 : Nat) : Int))
/-- the shop: what is sold, from the kind k on -/
def shopOf : Nat → List Nat → List Itm3
  | _, [] => []
  | k, n :: r => if n % 5 < 4 then soldOf k n :: shopOf (k + 1) r else shopOf (k + 1) r
def KSC (h : Heap) (v : Value) (e : Itm3) : Prop := ∃ a t1 t2 t3, v = .ref a ∧ IsTup h a #[.int (e.1 : Int) t1, .str e.2.1 t2, .int e.2.2 t3]
theorem ksc_kt {h h' : Heap} {v : Value} {e : Itm3} (k : KT h h') (x : KSC h v e) : KSC h' v e := let ⟨a, t1, t2, t3, e1, i⟩ := x; ⟨a, t1, t2, t3, e1, tup_kt i k⟩
def IntN (v : Value) (n : Nat) : Prop := ∃ t, v = .int (n : Int) t
local macro_rules | `(tactic| walk_at "goA") => `(tactic| repeat' ((fail_if_success (with_reducible show wpAny _ _ (exec (Stmt.While _ _ _ _) _) _ _ _)); (fail_if_success (with_reducible show wpAny _ _ (exec (Stmt.For _ _ _ _ _) _) _ _ _)); (fail_if_success (with_reducible show wpAny _ _ (call (Value.ref _) _ _) _ _ _)); (fail_if_success (with_reducible show wpAny _ _ (call (Value.builtin "list.append") _ _) _ _ _)); (fail_if_success (with_reducible show wpAny _ _ (call (Value.type _) _ _) _ _ _)); walk1))
def ShopI (h₀ : Heap) (L D l : Addr) (vs : List Value) (n : Nat) (ns : List Nat) (r : List Value) (i : Nat) (mm : Str → Option Value) (nw : List (Addr × Obj)) (I : Addr) : Prop :=
  ∃ ys n' t gB done nr, nw = (D, listOf ys.toArray n') :: (l, listOf vs.toArray n) :: t ∧ mm (Str.ofString "shop") = some (.ref D) ∧ (∀ p ∈ t, p.1 ∉ [L, D, l, I, I + 1]) ∧ Cov h₀ t gB ∧
    Al2 (KSC gB) ys done ∧ Al2 IntN r nr ∧ done ++ shopOf i nr = shopOf 0 ns ∧ i + nr.length = ns.length ∧ ys.length ≤ i ∧ D < I ∧ l < I
theorem shopI_end {h₀ hh : Heap} {L D l I : Addr} {vs r ys : List Value} {n nn i : Nat} {ns nr : List Nat} {mm : Str → Option Value} {o1 o2 : Obj} {E : List (Addr × Obj)} {done : List Itm3} (F : Fr h₀ L hh mm) (N : News h₀ L hh E) (hs : ∀ p ∈ (I + 1, o1) :: (I, o2) :: (D, listOf ys.toArray nn) :: [(l, listOf vs.toArray n)], p ∈ E)
    (c1 : o1.cls = .type "enumerate") (c2 : o2.cls = .type "list_iterator") (hm : mm (Str.ofString "shop") = some (.ref D)) (hal : Al2 (KSC hh) ys done) (hr : Al2 IntN r nr) (hsp : done ++ shopOf (i + 1) nr = shopOf 0 ns) (hle : i + 1 + nr.length = ns.length) (hyl : ys.length ≤ i + 1) (hDI : D < I) (hlI : l < I) :
    ∃ n2, News h₀ L hh ([(I + 1, o1), (I, o2)] ++ n2) ∧ (∀ p ∈ n2, ∀ q ∈ [(I + 1, o1), (I, o2)], p.1 ≠ q.1) ∧ (l, listOf vs.toArray n) ∈ n2 ∧ ShopI h₀ L D l vs n ns r (i + 1) mm n2 I := by
  have N1 := News.sub N hs
  refine ⟨(D, listOf ys.toArray nn) :: (l, listOf vs.toArray n) :: tl h₀ hh [L, D, l, I, I + 1], ?_, ?_, .tail _ (.head _), ys, nn, _, hideAll hh [L, D, l, I, I + 1], done, nr, rfl, hm, fun p hp => tl_off hp, tl_cov F.keep, hal.mono fun _ _ => ksc_kt (NoTup.kt ?_), hr, hsp, hle, hyl, hDI, hlI⟩
  · exact tl_news (E := (I + 1, o1) :: (I, o2) :: (D, listOf ys.toArray nn) :: [(l, listOf vs.toArray n)]) (.head _) N1
  · intro p hp q hq
    have hq' : q.1 = I + 1 ∨ q.1 = I := by
      rcases List.mem_cons.mp hq with rfl | hq
      · exact .inl rfl
      · rw [List.mem_singleton.mp hq]; exact .inr rfl
    have hI1 : ∀ a : Nat, a < I → a ≠ q.1 := fun a ha e => by rcases hq' with e' | e' <;> rw [e'] at e <;> omega
    rcases List.mem_cons.mp hp with rfl | hp
    · exact hI1 D hDI
    rcases List.mem_cons.mp hp with rfl | hp
    · exact hI1 l hlI
    have := tl_off hp
    intro e
    rw [e] at this
    rcases hq' with e' | e' <;> rw [e'] at this <;> simp at this
  · refine NoTup.consNs F.ns (NoTup.consL (N1 (D, _) (.tail _ (.tail _ (.head _)))).1 (by simp) (NoTup.consL (N1 (l, _) (.tail _ (.tail _ (.tail _ (.head _))))).1 (by simp) (NoTup.consL (N1 (I, _) (.tail _ (.head _))).1 (by rw [c2]; simp) (NoTup.consL (N1 (I + 1, _) (.head _)).1 (by rw [c1]; simp) NoTup.nil))))
theorem shop_ok {prog : Program} {w : World} {A : Around} {E : Value → Shared → Prop} {s : Shared} {g : Heap} {mg mb : Str → Option Value} {l : Addr} {n : Nat} {vs : List Value} {ns : List Nat} {Q : Value → Shared → Prop}
    (G : GdAt mg mb g) (hg : ∀ b o, g.get? b = some o → s.heap.get? b = some o) (hlg : g.get? l = none) (hl : s.heap.get? l = some (listOf vs.toArray n)) (hdp : A.depth < 800) (hun : A.units < 8000) (hh : A.handled = none) (hvs : Al2 IntN vs ns) (hlen : ns.length ≤ 16)
    (h : ∀ h' tk D ys n', (∀ b o, s.heap.get? b = some o → h'.get? b = some o) → h'.get? D = some (listOf ys.toArray n') → s.heap.get? D = none → Al2 (KSC h') ys (shopOf 0 ns) → Q (.ref D) { s with heap := h', toks := tk }) :
    wpAny (model prog w) A (call (.ref 116) [.ref l]) Q E s := by
  have Fn := G.fn_shop
  generalize hD : fdAt 12 = d at Fn
  conv at hD => lhs; whnf
  subst hD
  obtain ⟨fo, pm, cdv, doc, ho, hd, hc⟩ := Fn
  k_dflt (refine' callFnL G hg hlg hl ho hd hc ?r ?b ?lo ?ce ?co ?ge ?k ?_; (case b => exact BindsTo.of_eq rfl); (case r => show A.depth < 1000; omega); (case lo => exact locs rfl); (case ce => decide); (case co => rfl); (case ge => rfl); (case k => rfl))
  intro h₁ F N G'
  dsimp only
  clear hd hc ho
  have X : Frag.In [] (s.heap.hide l) := no_part
  have nm := G'.nms
  have fs := G'.fns
  obtain ⟨mean, T⟩ := G'.t
  w_on
  walk_at "go"
  with_reducible rename Fr _ _ _ _ => F2
  with_reducible rename News _ _ _ _ => N2
  rename_i D _ hlD _
  generalize hm2 : (fun y => if y = Str.ofString "shop" then some (Value.ref D) else _) = m2 at F2
  have hsh : m2 (Str.ofString "shop") = some (.ref D) := by rw [← hm2]; rfl
  have hnu : m2 (Str.ofString "numbers") = some (.ref l) := by rw [← hm2]; rfl
  clear hm2
  generalize hL : s.heap.objs.size = L at F2 N2 ⊢
  have hlL : l ≠ L := (N2 (l, _) (.tail _ (.head _))).2.1
  have hDL : D ≠ L := (N2 (D, _) (.head _)).2.1
  refine For_turns F2 ?_
  walk_at "goA"
  with_reducible rename Fr _ _ _ _ => F2
  refine enumJ (lo := listOf vs.toArray n) (vs := vs) (n := n) (ShopI (s.heap.hide l) L D l vs n ns) hh F2 N2 (.tail _ (.head _)) rfl rfl ?start ?stop ?step
  case start =>
    intro I hI
    exact ⟨[], 0, [], s.heap.hide l, [], ns, rfl, hsh, fun _ hp => (nomatch hp), fun b o e => .inl e, trivial, hvs, rfl, Nat.zero_add _, Nat.le_refl _, hI (D, _) (.head _), hI (l, _) (.tail _ (.head _))⟩
  case stop =>
    rintro I i mm nw h' tk ⟨ys, n', t, gB, done, nr, rfl, hs', off, cov, hal, hr, hsp, hle, hyl, hDI, hlI⟩ F3 N3
    clear F2 N2
    walk_at "goA"
    with_reducible rename Fr _ _ _ _ => F5
    have N5 : News (s.heap.hide l) L h' ((D, listOf ys.toArray n') :: (l, listOf vs.toArray n) :: t) := N3
    have hnr : nr = [] := by cases nr with | nil => rfl | cons _ _ => exact hr.elim
    subst hnr
    rw [show shopOf i [] = [] from rfl, List.append_nil] at hsp
    subst hsp
    refine h h' _ D ys n' (fun b o e => ?_) (N5 _ (.head _)).1 ?_ (hal.mono fun _ _ x => ksc_kt (KT.of (cov.keep F5 (News.sub N5 fun p hp => .tail _ (.tail _ hp)))) x)
    · by_cases hb : b = l
      · subst hb; rw [hl] at e; cases e; exact (N5 _ (.tail _ (.head _))).1
      · exact F5.keep b o (by rw [Heap.hide_ne _ hb]; exact e)
    · have z := (N5 (D, _) (.head _)).2.2
      rwa [Heap.hide_ne _ (Nat.ne_of_gt hlD)] at z
  case step =>
    rintro I v r i mm nw ⟨ys, n', t, gB, done, nr, rfl, hs', off, cov, hal, hr, hsp, hle, hyl, hDI, hlI⟩ T t' h' tk hT F3 o1 o2 c1 c2 N3
    clear F2 N2
    cases nr with
    | nil => exact hr.elim
    | cons n0 nr =>
    obtain ⟨⟨t0, rfl⟩, hr⟩ := hr
    have hle' : i + (nr.length + 1) = ns.length := hle
    have e1 : (n0 : Int).fdiv 5 = ((n0 / 5 : Nat) : Int) := by rw [Int.fdiv_eq_ediv_of_nonneg _ (by omega)]; omega
    have e2 : (n0 : Int).fmod 5 = ((n0 % 5 : Nat) : Int) := by rw [Int.fmod_eq_emod_of_nonneg _ (by omega)]; omega
    have e3 : ((n0 / 5 : Nat) : Int).fmod 4 = ((n0 / 5 % 4 : Nat) : Int) := by rw [Int.fmod_eq_emod_of_nonneg _ (by omega)]; omega
    refine tupL2 hh hT F3 N3 fun h4 tk4 F4 N4 => ?_
    clear F3 N3 hT
    walk_at "goA"
    · have ha := ‹(n0 : Int).fmod 5 < 4›
      dsimp only
      rw [e1]
      with_reducible rename Fr _ _ _ _ => F5
      with_reducible rename News _ _ _ _ => N5
      clear N4
      refine sign_ok (k := i) (n := n0 / 5) G' F5.keep (by show A.depth + 1 < 900; omega) (by show A.units + 3 < 9000; omega) (by omega) fun h6 tk6 t6 hk6 => ?_
      have F6 := F5.keeps hk6
      have N6 := N5.grown hk6
      clear F5 N5
      dsimp only
      walk_at "goA"
      · rename_i ha3 D7 h7 F7 N7 l7
        obtain ⟨_, _, lD, ll, _⟩ := l7
        dsimp only
        have N8 := News.sub (E' := (D, listOf ys.toArray n') :: (D7, _) :: (I + 1, o1) :: (I, o2) :: (l, listOf vs.toArray n) :: t) N7 (by walk_at "mem")
        refine app_head F7 N8 (fun p hp => ?off) (by omega) fun h9 F9 N9 => ?_
        case off =>
          simp only [List.mem_cons] at hp
          rcases hp with rfl | rfl | rfl | rfl | hp
          · exact Nat.ne_of_gt lD
          · exact Nat.ne_of_gt (Nat.lt_succ_of_lt hDI)
          · exact Nat.ne_of_gt hDI
          · exact Nat.ne_of_lt hlD
          · exact fun e => off p hp (by rw [e]; simp)
        clear N7
        walk_at "goA"
        have kk := KT.of (cov.keep F9 (News.sub N9 fun p hp => .tail _ (.tail _ (.tail _ (.tail _ (.tail _ hp))))))
        rw [e2] at ha ha3
        have hb : n0 % 5 < 4 := by omega
        rw [show shopOf i (n0 :: nr) = soldOf i n0 :: shopOf (i + 1) nr from if_pos hb] at hsp
        have hcost : (soldOf i n0).2.2 = ((n0 / 5 % 4 : Nat) : Int) := if_pos (by omega)
        rw [e1, e3] at N9
        have tup : KSC h9 (.ref D7) (soldOf i n0) := ⟨D7, _, _, _, rfl, by rw [hcost]; exact N9.isTup (.tail _ (.head _))⟩
        obtain ⟨n2, q1, q2, q3, q4⟩ := shopI_end (r := r) (nr := nr) (ns := ns) (i := i) (ys := ys ++ [.ref D7]) (done := done ++ [soldOf i n0]) F9 N9 (by walk_at "mem") c1 c2 (by exact hs') ((hal.mono fun _ _ x => ksc_kt kk x).snoc tup) hr (by rw [List.append_assoc]; exact hsp) (by omega) (by rw [List.length_append]; exact Nat.succ_le_succ hyl) hDI hlI
        exact ⟨_, _, _, n2, rfl, F9, q1, q2, q3, q4⟩
      · rename_i ha3 D7 h7 F7 N7 l7
        obtain ⟨_, _, lD, ll, _⟩ := l7
        dsimp only
        have N8 := News.sub (E' := (D, listOf ys.toArray n') :: (D7, _) :: (I + 1, o1) :: (I, o2) :: (l, listOf vs.toArray n) :: t) N7 (by walk_at "mem")
        refine app_head F7 N8 (fun p hp => ?off) (by omega) fun h9 F9 N9 => ?_
        case off =>
          simp only [List.mem_cons] at hp
          rcases hp with rfl | rfl | rfl | rfl | hp
          · exact Nat.ne_of_gt lD
          · exact Nat.ne_of_gt (Nat.lt_succ_of_lt hDI)
          · exact Nat.ne_of_gt hDI
          · exact Nat.ne_of_lt hlD
          · exact fun e => off p hp (by rw [e]; simp)
        clear N7
        walk_at "goA"
        have kk := KT.of (cov.keep F9 (News.sub N9 fun p hp => .tail _ (.tail _ (.tail _ (.tail _ (.tail _ hp))))))
        rw [e2] at ha ha3
        have hb : n0 % 5 < 4 := by omega
        rw [show shopOf i (n0 :: nr) = soldOf i n0 :: shopOf (i + 1) nr from if_pos hb] at hsp
        have hcost : (soldOf i n0).2.2 = ((n0 / 5 : Nat) : Int) := if_neg (by omega)
        rw [e1] at N9
        have tup : KSC h9 (.ref D7) (soldOf i n0) := ⟨D7, _, _, _, rfl, by rw [hcost]; exact N9.isTup (.tail _ (.head _))⟩
        obtain ⟨n2, q1, q2, q3, q4⟩ := shopI_end (r := r) (nr := nr) (ns := ns) (i := i) (ys := ys ++ [.ref D7]) (done := done ++ [soldOf i n0]) F9 N9 (by walk_at "mem") c1 c2 (by exact hs') ((hal.mono fun _ _ x => ksc_kt kk x).snoc tup) hr (by rw [List.append_assoc]; exact hsp) (by omega) (by rw [List.length_append]; exact Nat.succ_le_succ hyl) hDI hlI
        exact ⟨_, _, _, n2, rfl, F9, q1, q2, q3, q4⟩
    · have ha := ‹¬ (n0 : Int).fmod 5 < 4›
      rw [e2] at ha
      with_reducible rename Fr _ _ _ _ => F5
      with_reducible rename News _ _ _ _ => N5
      have hb : ¬ n0 % 5 < 4 := by omega
      rw [show shopOf i (n0 :: nr) = shopOf (i + 1) nr from if_neg hb] at hsp
      have kk := KT.of (cov.keep F5 (News.sub N5 fun p hp => .tail _ (.tail _ (.tail _ (.tail _ hp)))))
      obtain ⟨n2, q1, q2, q3, q4⟩ := shopI_end (r := r) (nr := nr) (ns := ns) (i := i) F5 N5 (fun p hp => by
        rcases List.mem_cons.mp hp with rfl | hp; exact .head _
        rcases List.mem_cons.mp hp with rfl | hp; exact .tail _ (.head _)
        rcases List.mem_cons.mp hp with rfl | hp; exact .tail _ (.tail _ (.head _))
        rw [List.mem_singleton.mp hp]; exact .tail _ (.tail _ (.tail _ (.head _)))) c1 c2 (by exact hs') (hal.mono fun _ _ => ksc_kt kk) hr hsp (by omega) (by omega) hDI hlI
      exact ⟨_, _, _, n2, rfl, F5, q1, q2, q3, q4⟩
end

section
open PySem PySem.W PyProof.Rows PySem.Calls
set_option maxRecDepth 100000
set_option maxHeartbeats 0
def lookP : List (Int × Str) → Int → Option Str
  | [], _ => none
  | (i, x) :: r, k => if i = k then some x else lookP r k
theorem lookP_app : ∀ (a b : List (Int × Str)) (k : Int), lookP (a ++ b) k = (lookP a k).or (lookP b k)
  | [], _, _ => rfl
  | (i, x) :: r, b, k => by
    by_cases h : i = k
    · rw [List.cons_append, lookP, lookP, if_pos h, if_pos h]; rfl
    · rw [List.cons_append, lookP, lookP, if_neg h, if_neg h]; exact lookP_app r b k
def Fits (o : Option Value) (p : Option Str) : Prop := match p with | none => o = none | some x => ∃ t, o = some (.str x t)
theorem find_L (k : Int) : ∀ (l : List (Int × Str)) (tk : Nat), Fits (((entsL tk l).find? fun e => Value.isInt k e.key).map (·.val)) (lookP l k)
  | [], _ => rfl
  | (i, x) :: r, tk => by
    rw [entsL, List.find?_cons, lookP]
    by_cases h : i = k
    · rw [if_pos h, show Value.isInt k (.int i tk) = true by simp [Value.isInt, h]]
      exact ⟨_, rfl⟩
    · rw [if_neg h, show Value.isInt k (.int i tk) = false by simp [Value.isInt, h]]
      exact find_L k r _
theorem find_S (k : Int) (hh : Nat) : ∀ (l : List (Int × Str)) (tk : Nat), Fits (((entsS hh tk l).find? fun e => Value.isInt k e.key).map (·.val)) (lookP l k)
  | [], _ => rfl
  | (i, x) :: r, tk => by
    rw [entsS, List.find?_cons, lookP]
    by_cases h : i = k
    · rw [if_pos h, show Value.isInt k (.int i tk) = true by simp [Value.isInt, h]]
      exact ⟨_, rfl⟩
    · rw [if_neg h, show Value.isInt k (.int i tk) = false by simp [Value.isInt, h]]
      exact find_S k hh r _
theorem dEnts_list (tk : Nat) (l : List (Int × Str)) : (dEnts tk l).toList = entsL tk (l.take 646) ++ entsS 0 (tk + 1938) (l.drop 646) := by unfold dEnts; simp
theorem find_D (k : Int) (tk : Nat) (l : List (Int × Str)) : Fits (findBy Value.isInt (dEnts tk l) k) (lookP l k) := by
  unfold findBy
  rw [← Array.find?_toList, dEnts_list, List.find?_append]
  have h1 := find_L k (l.take 646) tk
  have h2 := find_S k 0 (l.drop 646) (tk + 1938)
  have e : lookP l k = (lookP (l.take 646) k).or (lookP (l.drop 646) k) := by rw [← lookP_app, List.take_append_drop]
  rw [e]
  cases q : lookP (l.take 646) k with
  | some x =>
    rw [q] at h1
    obtain ⟨t, ht⟩ := h1
    cases q2 : (entsL tk (l.take 646)).find? fun e => Value.isInt k e.key with
    | none => rw [q2] at ht; cases ht
    | some y => rw [q2] at ht; exact ⟨t, ht⟩
  | none =>
    rw [q] at h1
    have h1' : (entsL tk (l.take 646)).find? (fun e => Value.isInt k e.key) = none := Option.map_eq_none_iff.mp h1
    rw [h1']
    exact h2
theorem hash_small {h : Nat} : ∀ (l : List (Int × Str)) (tk : Nat), (∀ e ∈ entsL tk l, ∃ i t, e.key = .int i t ∧ e.hash = i ∧ ∃ x, (i, x) ∈ l) ∧ ∀ e ∈ entsS h tk l, ∃ i t, e.key = .int i t ∧ e.hash = i ∧ ∃ x, (i, x) ∈ l
  | [], _ => ⟨(fun _ hp => nomatch hp), fun _ hp => nomatch hp⟩
  | (i, x) :: r, tk => by
    constructor
    · intro e he
      rcases List.mem_cons.mp he with rfl | he
      · exact ⟨i, tk, rfl, rfl, x, .head _⟩
      · obtain ⟨i', t, h1, h2, y, h3⟩ := (hash_small (h := h) r _).1 e he; exact ⟨i', t, h1, h2, y, .tail _ h3⟩
    · intro e he
      rcases List.mem_cons.mp he with rfl | he
      · exact ⟨i, tk, rfl, rfl, x, .head _⟩
      · obtain ⟨i', t, h1, h2, y, h3⟩ := (hash_small (h := h) r _).2 e he; exact ⟨i', t, h1, h2, y, .tail _ h3⟩
theorem asc_bound : ∀ (l : List (Int × Str)) (lo : Int), Asc lo l → ∀ p ∈ l, lo < p.1 ∧ p.1 < 2 ^ 60
  | [], _, _ => fun _ hp => nomatch hp
  | (i, x) :: r, lo, h => fun p hp => by
    obtain ⟨h1, h2, h3⟩ := h
    rcases List.mem_cons.mp hp with rfl | hp
    · exact ⟨h1, h2⟩
    · have := asc_bound r i h3 p hp; exact ⟨by omega, this.2⟩
theorem map_exc {prog : Program} {w : World} {h : Heap} (hd : h.get? 15 = some (dictObj (dEnts 189 prs) 650)) : h.MapOf (intKind prog w) 15 (findBy Value.isInt (dEnts 189 prs)) := by
  refine ⟨_, dEnts 189 prs, 650, hd, ⟨rfl, rfl, rfl⟩, rfl, fun e he => ?_, fun k => rfl⟩
  have he' : e ∈ (dEnts 189 prs).toList := Array.mem_def.mp he
  rw [dEnts_list] at he'
  have key : ∃ i t, e.key = .int i t ∧ e.hash = i ∧ ∃ x, (i, x) ∈ prs := by
    rcases List.mem_append.mp he' with h1 | h1
    · obtain ⟨i, t, a, b, x, c⟩ := (hash_small (h := 0) _ _).1 e h1; exact ⟨i, t, a, b, x, List.mem_of_mem_take c⟩
    · obtain ⟨i, t, a, b, x, c⟩ := (hash_small (h := 0) _ _).2 e h1; exact ⟨i, t, a, b, x, List.mem_of_mem_drop c⟩
  obtain ⟨i, t, h1, h2, x, h3⟩ := key
  have hb := asc_bound _ _ prs_asc _ h3
  refine ⟨i, by rw [h1]; show Value.isInt i (.int i t) = true; simp [Value.isInt], ?_⟩
  rw [h2]
  show i = hashInt i
  have h0 : 0 ≤ i := by have := hb.1; dsimp only at this; omega
  have h1 : i < 2 ^ 60 := hb.2
  have e1 : rawHash i = i := hv_small h0 h1
  unfold hashInt
  rw [e1, if_neg (by intro q; have : i = -1 := by simpa using q
                     omega)]
section
variable {prog : Program} {w : World} {A : Around} {E : Value → Shared → Prop} {s : Shared}
theorem exc_get {i : Int} {t : Tok} {Q : Value → Shared → Prop} (hd : s.heap.get? 15 = some (dictObj (dEnts 189 prs) 650)) (h : ∀ v, (match lookP prs i with | none => v = .none | some x => ∃ t', v = .str x t') → Q v { s with toks := s.toks + 1 }) :
    wpAny (model prog w) A (call (.builtin "dict.get") [.ref 15, .int i t]) Q E s := by
  have m := map_exc (prog := prog) (w := w) hd
  refine call_meetsIn F.slot_dict_get m.typeIs F.entry_dict_get (F.args_dict_get_2 _ _) (meets_dict_get (intKind prog w) 15 (k := i) (by show Value.isInt i (.int i t) = true; simp [Value.isInt]) (by decide)) ⟨_, m, ?_⟩
  refine h _ ?_
  have f := find_D i 189 prs
  cases q : lookP prs i with
  | none => rw [q] at f; rw [show findBy Value.isInt (dEnts 189 prs) i = none from f]; rfl
  | some x => rw [q] at f; obtain ⟨t', ht⟩ := f; rw [ht]; exact ⟨t', rfl⟩
theorem exc_method {pl : Sem Bool} {Q : Value × List Value → Shared → Prop} (hd : s.heap.get? 15 = some (dictObj (dEnts 189 prs) 650)) (h : Q (.builtin "dict.get", [.ref 15]) s) : wpAny (model prog w) A (getMethod (.ref 15) "get" pl) Q E s := by
  have m := map_exc (prog := prog) (w := w) hd
  exact getMethod_builtin m.typeIs PySem.F.plainAttrs_dict F.slot_dict_get F.type_dict_get m.noDict h
end
/-- what the table says of the signs -/
def foldOk (k f : Nat) : Bool := if k < 5 ∧ f < 2 then (lookP prs (codeOf k f)).isNone && ((PySem.Txt.lower (signOf k f)).cps.toList == (meant k).cps.toList) else match lookP prs (codeOf k f) with | none => false | some x => x.cps.toList == (meant k).cps.toList
theorem fold_small : (List.range 5).all (fun k => (List.range 15).all fun f => foldOk k f) = true := by decide +kernel
theorem fold_big : (List.range 11).all (fun k => foldOk (k + 5) 0) = true := by decide +kernel
theorem foldOk_big (k f : Nat) (hk : 4 < k) : foldOk k f = foldOk k 0 := by
  have e : codeOf k f = codeOf k 0 := by unfold codeOf; rw [if_pos hk, if_pos hk]
  unfold foldOk
  rw [if_neg (by omega), if_neg (by omega), e]
theorem fold_one (k f : Nat) (hk : k < 16) (hf : f < 15) : foldOk k f = true := by
  by_cases h : k < 5
  · exact List.all_eq_true.mp (List.all_eq_true.mp fold_small k (List.mem_range.mpr h)) f (List.mem_range.mpr hf)
  · rw [foldOk_big k f (by omega)]
    have := List.all_eq_true.mp fold_big (k - 5) (List.mem_range.mpr (by omega))
    rwa [show k - 5 + 5 = k by omega] at this
theorem code_mod (k n : Nat) : codeOf k n = codeOf k (n % 15) := by unfold codeOf; rw [Nat.mod_mod]
theorem sign_mod (k n : Nat) : signOf k n = signOf k (n % 15) := by unfold signOf; rw [code_mod]
theorem code_bound (k n : Nat) (hk : k < 16) : 0 ≤ codeOf k n ∧ codeOf k n ≤ 1114111 := by
  unfold codeOf
  split
  · exact big_bound (k - 5) (by omega)
  · have := let_bound k (by omega)
    split
    · omega
    · exact remap_bound (by omega) (by omega)
theorem fold_at (k n : Nat) (hk : k < 16) : (lookP prs (codeOf k n) = none ∧ PySem.Txt.lower (signOf k n) = meant k) ∨ lookP prs (codeOf k n) = some (meant k) := by
  have h := fold_one k (n % 15) hk (Nat.mod_lt _ (by decide))
  rw [code_mod, sign_mod]
  unfold foldOk at h
  split at h
  · rw [Bool.and_eq_true] at h
    exact .inl ⟨Option.isNone_iff_eq_none.mp h.1, str_ext (by simpa using h.2)⟩
  · cases q : lookP prs (codeOf k (n % 15)) with
    | none => rw [q] at h; cases h
    | some x => rw [q] at h; exact .inr (congrArg some (str_ext (by simpa using h)))
theorem meant_pos (k : Nat) (hk : k < 16) : 0 < (meant k).cps.toList.length := by
  have : (List.range 16).all (fun k => decide (0 < (meant k).cps.toList.length)) = true := by decide +kernel
  exact of_decide_eq_true (List.all_eq_true.mp this k (List.mem_range.mpr hk))
theorem sign_chars (k n : Nat) (hk : k < 16) : (signOf k n).cps.size = 1 ∧ (signOf k n).cps.all (· < 0x110000) = true := by
  have := code_bound k n hk
  refine ⟨rfl, ?_⟩
  have h : (codeOf k n).toNat < 0x110000 := by omega
  show (#[(codeOf k n).toNat] : Array Nat).all (· < 0x110000) = true
  simp [h]
theorem sign_len (k n : Nat) : (signOf k n).length = 1 := rfl
theorem b3_ok {prog : Program} {w : World} {A : Around} {E : Value → Shared → Prop} {s : Shared} {g : Heap} {mg mb : Str → Option Value} {k n : Nat} {t : Tok} {Q : Value → Shared → Prop}
    (G : GdAt mg mb g) (hg : ∀ b o, g.get? b = some o → s.heap.get? b = some o) (hdp : A.depth < 900) (hk : k < 16)
    (h : ∀ h' tk t', (∀ b o, s.heap.get? b = some o → h'.get? b = some o) → Q (.str (meant k) t') { s with heap := h', toks := tk }) :
    wpAny (model prog w) A (call (.ref 60) [.str (signOf k n) t]) Q E s := by
  have Fn := G.fn_b3
  generalize hD : fdAt 2 = d at Fn
  conv at hD => lhs; whnf
  subst hD
  obtain ⟨fo, pm, cdv, doc, ho, hd, hc⟩ := Fn
  k_dflt (refine' callFn0 G hg ho hd hc ?r ?b ?lo ?ce ?co ?ge ?k ?_; (case b => exact BindsTo.of_eq rfl); (case r => show A.depth < 1000; omega); (case lo => exact locs rfl); (case ce => decide); (case co => rfl); (case ge => rfl); (case k => rfl))
  intro h₁ F N G'
  dsimp only
  clear hd hc ho
  have X : Frag.In [] s.heap := no_part
  have nm := G'.nms
  have fs := G'.fns
  obtain ⟨mean, T⟩ := G'.t
  w_on
  have hd := G'.dict
  repeat' ((fail_if_success (with_reducible show wpAny _ _ (getMethod _ _ _) _ _ _)); walk1)
  with_reducible rename Fr _ _ _ _ => F2
  refine exc_method (F2.keep _ _ hd) ?_
  repeat' ((fail_if_success (with_reducible show wpAny _ _ (call (Value.builtin _) _ _) _ _ _)); walk1)
  try dsimp only
  refine ord_of_one (sign_len k n) ?_
  try dsimp only
  have hb := code_bound k n hk
  have ec : (((signOf k n).cps.getD 0 0 : Nat) : Int) = codeOf k n := by
    show (((codeOf k n).toNat : Nat) : Int) = codeOf k n
    omega
  rw [ec]
  repeat' ((fail_if_success (with_reducible show wpAny _ _ (call (Value.builtin _) _ _) _ _ _)); walk1)
  try dsimp only
  with_reducible rename Fr _ _ _ _ => F3
  refine exc_get (F3.keep _ _ hd) fun v hv => ?_
  rcases fold_at k n hk with ⟨q1, q2⟩ | q1
  · rw [q1] at hv
    subst hv
    repeat' ((fail_if_success (with_reducible show wpAny _ _ (call (Value.builtin _) _ _) _ _ _)); walk1)
    try dsimp only
    with_reducible rename Fr _ _ _ _ => F4
    refine SCL.lower (by rw [sign_len]; decide) fun _ => ?_
    rw [q2]
    exact h _ _ _ F4.keep
  · rw [q1] at hv
    obtain ⟨t', rfl⟩ := hv
    repeat' ((fail_if_success (with_reducible show wpAny _ _ (call (Value.builtin _) _ _) _ _ _)); walk1)
    try dsimp only
    with_reducible rename Fr _ _ _ _ => F4
    exact h _ _ _ F4.keep
end

section
open PySem PySem.W PyProof.Rows PySem.Calls
set_option maxRecDepth 100000
set_option maxHeartbeats 0
open PyProof.Rows.LCg
def toSold (e : Itm3) : Sold := ⟨meant e.1, e.2.1, e.2.2⟩
def FoldH (h : Heap) (v : Value) (e : Sold) : Prop := ∃ a t1 t2 t3, v = .ref a ∧ IsTup h a #[.str e.plain t1, .str e.sign t2, .int e.cost t3]
theorem fold_kt {h h' : Heap} {v : Value} {e : Sold} (k : KT h h') (x : FoldH h v e) : FoldH h' v e := let ⟨a, t1, t2, t3, e1, i⟩ := x; ⟨a, t1, t2, t3, e1, tup_kt i k⟩
def PairH (h : Heap) (v : Value) (e : Way) : Prop := ∃ a t1 t2, v = .ref a ∧ IsTup h a #[.int e.1 t1, .str e.2 t2]
theorem pair_kt {h h' : Heap} {v : Value} {e : Way} (k : KT h h') (x : PairH h v e) : PairH h' v e := let ⟨a, t1, t2, e1, i⟩ := x; ⟨a, t1, t2, e1, tup_kt i k⟩
structure ShopW (sh : List Itm3) : Prop where
  kind : ∀ e ∈ sh, e.1 < 16
  sign : ∀ e ∈ sh, ∃ n, e.2.1 = signOf e.1 n
  cost : ∀ e ∈ sh, 0 ≤ e.2.2 ∧ e.2.2 ≤ 1000000000
section
variable {prog : Program} {w : World} {A : Around} {E : Value → Shared → Prop} {s : Shared} {h₀ h h₂ : Heap} {L C : Addr} {m mC : Str → Option Value} {env : Env} {rest news : List (Addr × Obj)} {n : Nat}
/-- a turn of a comprehension begins -/
theorem turn0 (F : Fr h₀ L h m) (hn : h₂.Ns C mC) (hk : ∀ b o, b ≠ C → h.get? b = some o → h₂.get? b = some o) (hCL : C ≠ L) (hC₀ : h₀.get? C = none) : ∃ oC, NsObj oC mC ∧ Fr h₀ L h₂ m ∧ News h₀ L h₂ ((C, oC) :: tl h₀ h [L, C]) := by
  obtain ⟨oC, eC, nC⟩ := ns_obj hn
  refine ⟨oC, nC, ⟨F.ns.at' fun o e => hk L o hCL.symm e, fun b o e => hk b o (fun q => by rw [q, hC₀] at e; cases e) (F.keep b o e), F.above⟩, fun p hp => ?_⟩
  rcases List.mem_cons.mp hp with rfl | hp
  · exact ⟨eC, hCL, hC₀⟩
  · have z := mem_tl.mp (show (p.1, p.2) ∈ _ from hp)
    exact ⟨hk _ _ (fun q => z.2.2 (by rw [q]; simp)) z.1, fun q => z.2.2 (by rw [q]; simp), z.2.1⟩
theorem News.add {c : Addr} {o : Obj} (N : News h₀ L h news) (hc : h.get? c = some o) (hL : c ≠ L) (h0 : h₀.get? c = none) : News h₀ L h ((c, o) :: news) := fun p hp => by
  rcases List.mem_cons.mp hp with rfl | hp
  · exact ⟨hc, hL, h0⟩
  · exact N p hp
/-- the end of a turn, behind the assignment -/
theorem kp_end {s₁ : Shared} {oC : Obj} {h' : Heap} {tk : Nat} {E : List (Addr × Obj)} (F : Fr h₀ L h' m) (N : News h₀ L h' E) (hk₀ : ∀ b o, h₀.get? b = some o → s₁.heap.get? b = some o) (hC : (C, oC) ∈ E) (hn : NsObj oC mC) (ht : ∀ p ∈ tl h₀ s₁.heap [L, C], p ∈ E) : Kp h₀ L C m s₁ { s₁ with heap := h', toks := tk } := kp_of F N hk₀ hC hn ht
/-- a store into a cell that the ledger holds at its head -/
theorem stCell {c : Addr} {o : Obj} {x : Str} {v : Value} {v₀ : Option Value} {Q : Unit → Shared → Prop} (F : Fr h₀ L s.heap m) (N : News h₀ L s.heap ((c, o) :: rest)) (hoff : ∀ p ∈ rest, p.1 ≠ c) (hd : o.data = .cell v₀) (hc : env.cells.lookup x = some c)
    (hk : env.scope.kind = .function) (hx : env.kindOf x = some .cell)
    (h : ∀ h' o', Fr h₀ L h' m → News h₀ L h' ((c, o') :: rest) → o'.data = .cell (some v) → Q () { s with heap := h' }) : wpAny (model prog w) A (storeName env x v) Q E s := by
  have z := N (c, o) (.head _)
  refine wpAny_storeName_cell hk hx hc ⟨o, z.1, hd⟩ fun h' hv hs => ?_
  obtain ⟨o', ho', hd'⟩ := hv
  refine h h' o' ⟨F.ns.sameBut hs (Ne.symm z.2.1), fun b ob e => (hs.2 b (fun q => ?_)).trans (F.keep b ob e), F.above⟩ (fun p hp => ?_) hd'
  · rw [q, z.2.2] at e; cases e
  · rcases List.mem_cons.mp hp with rfl | hp
    · exact ⟨ho', z.2⟩
    · have z' := N p (.tail _ hp); exact ⟨(hs.2 _ (hoff p hp)).trans z'.1, z'.2⟩
theorem tupCCC {x₁ x₂ x₃ : Str} {v₁ v₂ v₃ : Value} {p₁ p₂ p₃ pos : Pos} {k} {t c₁ c₂ c₃ : Addr} {o₁ o₂ o₃ : Obj} {w₁ w₂ w₃ : Option Value} {Q : Unit → Shared → Prop} (hh : A.handled = none) (ht : IsTup s.heap t #[v₁, v₂, v₃]) (F : Fr h₀ L s.heap m)
    (N : News h₀ L s.heap ((c₃, o₃) :: (c₂, o₂) :: (c₁, o₁) :: rest)) (hoff : ∀ p ∈ rest, p.1 ≠ c₁ ∧ p.1 ≠ c₂ ∧ p.1 ≠ c₃) (h12 : c₁ ≠ c₂) (h13 : c₁ ≠ c₃) (h23 : c₂ ≠ c₃) (d₁ : o₁.data = .cell w₁) (d₂ : o₂.data = .cell w₂) (d₃ : o₃.data = .cell w₃)
    (hc₁ : env.cells.lookup x₁ = some c₁) (hc₂ : env.cells.lookup x₂ = some c₂) (hc₃ : env.cells.lookup x₃ = some c₃) (hk : env.scope.kind = .function) (hx₁ : env.kindOf x₁ = some .cell) (hx₂ : env.kindOf x₂ = some .cell) (hx₃ : env.kindOf x₃ = some .cell)
    (h : ∀ h' o₁' o₂' o₃', Fr h₀ L h' m → News h₀ L h' ((c₃, o₃') :: (c₂, o₂') :: (c₁, o₁') :: rest) → o₁'.data = .cell (some v₁) → o₂'.data = .cell (some v₂) → o₃'.data = .cell (some v₃) → Q () { s with heap := h' }) :
    wpAny (model prog w) A (assign (.Tuple [.Name x₁ p₁, .Name x₂ p₂, .Name x₃ p₃] k pos) env (.ref t)) Q E s := by
  refine assign_Tuple_tuple hh ht rfl rfl fun h₅ he => ?_
  have he' : ∀ b o, s.heap.get? b = some o → h₅.get? b = some o := fun b o e => he b o (Nat.ne_of_lt (Heap.lt_size e)) e
  have F₅ := F.keeps he'
  have N₅ := N.grown he'
  refine assignInOrder_cons (wpAny_assign_Name (stCell F₅ (News.sub (E' := (c₁, o₁) :: (c₂, o₂) :: (c₃, o₃) :: rest) N₅ (by walk_at "mem")) (fun p hp => ?_) d₁ hc₁ hk hx₁ fun h₁ o₁' F₁ N₁ e₁ => ?_))
  · rcases List.mem_cons.mp hp with rfl | hp
    · exact h12.symm
    rcases List.mem_cons.mp hp with rfl | hp
    · exact h13.symm
    exact (hoff p hp).1
  refine assignInOrder_cons (wpAny_assign_Name (stCell F₁ (News.sub (E' := (c₂, o₂) :: (c₁, o₁') :: (c₃, o₃) :: rest) N₁ (by walk_at "mem")) (fun p hp => ?_) d₂ hc₂ hk hx₂ fun h₂ o₂' F₂ N₂ e₂ => ?_))
  · rcases List.mem_cons.mp hp with rfl | hp
    · exact h12
    rcases List.mem_cons.mp hp with rfl | hp
    · exact h23.symm
    exact (hoff p hp).2.1
  refine assignInOrder_cons (wpAny_assign_Name (stCell F₂ (News.sub (E' := (c₃, o₃) :: (c₂, o₂') :: (c₁, o₁') :: rest) N₂ (by walk_at "mem")) (fun p hp => ?_) d₃ hc₃ hk hx₃ fun h₃ o₃' F₃ N₃ e₃ => ?_))
  · rcases List.mem_cons.mp hp with rfl | hp
    · exact h23
    rcases List.mem_cons.mp hp with rfl | hp
    · exact h13
    exact (hoff p hp).2.2
  exact assignInOrder_nil (h h₃ o₁' o₂' o₃' F₃ N₃ e₁ e₂ e₃)
theorem applied2 {sl : Addr} {u : Tok} {Q : Int × Int × Nat → Shared → Prop} (hs : s.heap.IsSliceOf sl .none (.int 2 u) .none) (h : Q (0, 1, 2) s) :
    wpAny (model prog w) A (Builtin.Slice.sliceApplied (.ref sl) (pure ((3 : Nat) : Int))) Q E s := by
  obtain ⟨os, hos, hcs, hds⟩ := id hs
  unfold Builtin.Slice.sliceApplied Builtin.Slice.sliceFields
  refine wpAny_bind (wpAny_bind (wpAny_field hos hds (x := .none) rfl (wpAny_bind (wpAny_field hos hds (x := .int 2 u) rfl (wpAny_bind (wpAny_field hos hds (x := .none) rfl (wpAny_pure ?_)))))))
  refine wpAny_bind (slicePart_none ?_)
  show wpAny _ _ (if ((1 : Int) == 0) = true then _ else _) _ _ s
  rw [if_neg (by decide)]
  refine wpAny_bind (slicePart_none (wpAny_bind (slicePart_int (wpAny_bind (wpAny_pure ?_)))))
  show wpAny _ _ (match Builtin.Slice.sliceAdjust none (some 2) 1 ((3 : Nat) : Int) with | (lo, hi) => pure (lo, (1 : Int), Builtin.Slice.slicePlaces lo hi 1)) _ _ s
  rw [show Builtin.Slice.sliceAdjust none (some 2) 1 ((3 : Nat) : Int) = (0, 2) by decide]
  show wpAny _ _ (pure ((0 : Int), (1 : Int), Builtin.Slice.slicePlaces 0 2 1)) _ _ s
  rw [show Builtin.Slice.slicePlaces 0 2 1 = 2 by decide]
  exact wpAny_pure h
theorem getItem2 {t sl : Addr} {v₁ v₂ v₃ : Value} {u : Tok} {Q : Value → Shared → Prop} (ht : IsTup s.heap t #[v₁, v₂, v₃]) (hs : s.heap.IsSliceOf sl .none (.int 2 u) .none)
    (h : Q (.ref s.heap.objs.size) { s with heap := s.heap.push { cls := .type "tuple", data := .seq #[v₁, v₂] } }) : wpAny (model prog w) A (getItem (.ref t) (.ref sl)) Q E s := by
  have hdrop : sizeOk (.seq #[v₁, v₂]) := by show 2 ≤ sizeLine; rw [sizeLine_eq]; decide
  obtain ⟨os, hos, hcs, hds⟩ := id hs
  have hTs : s.TypeIs (.ref sl) "slice" := ⟨os, hos, hcs⟩
  unfold getItem
  try with_reducible refine wpAny_holding ?_
  first | refine wpAny_bind (wpAny_pure ?_) | skip
  refine wpAny_bind (wpAny_sequenceKey ht.typeIs (by decide) ?_)
  refine wpAny_bind (wpAny_callSpecial?_slot (name := Str.ofString "__getitem__") ht.typeIs slot_tuple_getitem
    (wpAny_call_entry slot_tuple_getitem ht.typeIs entry_tuple_getitem ?_ (args_tuple_getitem _ _)))
  show wpAny _ _ (Builtin.Tuple.tupleItemsOf (.ref t) >>= _) _ _ s
  refine wpAny_bind (tupleItemsOf_ ht ?_)
  refine wpAny_bind (wpAny_typeOf hTs ?_)
  rw [if_pos (by decide)]
  refine wpAny_bind (applied2 hs ?_)
  show wpAny _ _ (if ((0 : Int) == 0 && (1 : Int) == 1 && (2 : Nat) == 3) = true then _ else _) _ _ s
  rw [if_neg (by decide)]
  show wpAny _ _ (Builtin.Tuple.tupleExact #[v₁, v₂] >>= _) _ _ s
  first
    | exact wpAny_bind (m := Builtin.Tuple.tupleExact _) (wpAny_newObj_type (wpAny_pure ⟨_, rfl, wpAny_pure h⟩) hdrop)
    | exact wpAny_bind (m := Builtin.Tuple.tupleExact _) (wpAny_newObj_type (wpAny_bind (wpAny_pure (wpAny_pure ⟨_, rfl, wpAny_pure h⟩))) hdrop)
    | exact wpAny_bind (wpAny_bind (m := Builtin.Tuple.tupleExact _) (wpAny_newObj_type (wpAny_pure (wpAny_pure ⟨_, rfl, wpAny_pure h⟩)) hdrop))
    | exact wpAny_bind (wpAny_bind (m := Builtin.Tuple.tupleExact _) (wpAny_newObj_type (wpAny_pure ⟨_, rfl, wpAny_pure h⟩) hdrop))
theorem subs_slice (a b : Option PySem.Expr) (p : Pos) (o i : Value) : subscripted (.Slice a b none p) false o i = operate [i, o] (getItem o i) := by with_unfolding_all rfl
theorem slice2 {value : PySem.Expr} {sa sb : Option PySem.Expr} {sp : Pos} {t : Addr} {v₁ v₂ v₃ : Value} {u : Tok} {Q : Value → Shared → Prop} (F : Fr h₀ L s.heap m) (N : News h₀ L s.heap news) (ht : IsTup s.heap t #[v₁, v₂, v₃])
    (h : ∀ D h', Fr h₀ L h' m → News h₀ L h' ((D, { cls := .type "tuple", data := .seq #[v₁, v₂] }) :: news) → (∀ p ∈ news, p.1 < D) → Q (.ref D) { s with heap := h' }) :
    wpAny (model prog w) A (subscriptTail value (.Slice sa sb none sp) (.ref t) (.ref s.heap.objs.size)) Q E { s with heap := s.heap.push { cls := .type "slice", data := .fields #[.none, .int 2 u, .none] } } := by
  have ht' : IsTup (s.heap.push { cls := .type "slice", data := .fields #[.none, .int 2 u, .none] }) t #[v₁, v₂, v₃] := ht.keeps fun _ _ e => Heap.get?_push_of_some _ e
  refine kba_turn (value' := PySem.Expr.Name (PySem.Str.ofString "_") ⟨0, 0, 0, 0⟩) (fun _ => rfl) ?_
  refine subscriptTail_ops (s := { s with heap := s.heap.push { cls := .type "slice", data := .fields #[.none, .int 2 u, .none] } }) ht'.typeIs slot_tuple_getitem.lookup (getItem2 ht' (Heap.IsSliceOf.new ..) ?_) (subs_slice _ _ _ _ _) (fun _ => rfl)
  have N1 := News.push (F.push { cls := .type "slice", data := .fields #[.none, .int 2 u, .none] }) (N.grown fun _ _ e => Heap.get?_push_of_some _ e) { cls := .type "tuple", data := .seq #[v₁, v₂] }
  refine h _ _ ((F.push _).push _) N1 fun p hp => ?_
  show p.1 < (s.heap.push _).objs.size
  rw [Heap.size_push]
  exact Nat.lt_succ_of_lt (Heap.lt_size (N p hp).1)
end
section pure
open Builtin.Str
theorem starts_meets (W : Str) (e : Sold) (d : Nat) (hd : d ≤ W.cps.toList.length) : Txt.startswith3 W e.plain (d : Int) = meets W.cps.toList e d := by
  have e1 : fromIndex W.length (d : Int) = d := by unfold fromIndex; rw [if_neg (by omega)]; omega
  have hl : W.length = W.cps.toList.length := (Array.length_toList).symm
  have hp : e.plain.length = e.plain.cps.toList.length := (Array.length_toList).symm
  unfold Txt.startswith3
  rw [e1, StrLaws.subAt_eq, hl, hp]
  unfold meets
  by_cases q : (W.cps.toList.drop d).take e.plain.cps.toList.length = e.plain.cps.toList
  · have := congrArg List.length q
    rw [List.length_take, List.length_drop] at this
    rw [decide_eq_true q, q, decide_eq_true (by omega)]
    simp
  · rw [decide_eq_false q, beq_eq_false_iff_ne.mpr q, Bool.and_false]
theorem occ_meets (W : Str) (e : Sold) (d : Nat) (hd : d ≤ W.cps.toList.length) (h : meets W.cps.toList e d = true) : (!(occurrences W e.plain 0 W.length 1).isEmpty) = true := by
  rw [StrLaws.found_iff]
  rw [← starts_meets W e d hd] at h
  have e1 : fromIndex W.length (d : Int) = d := by unfold fromIndex; rw [if_neg (by omega)]; omega
  unfold Txt.startswith3 at h
  rw [e1, Bool.and_eq_true] at h
  exact ⟨d, of_decide_eq_true h.1, h.2⟩
theorem occ_filter (W : Str) (S : List Sold) (d : Nat) (hd : d ≤ W.cps.toList.length) : (S.filter fun e => !(occurrences W e.plain 0 W.length 1).isEmpty).filter (fun e => meets W.cps.toList e d) = S.filter fun e => meets W.cps.toList e d := by
  rw [List.filter_filter]
  congr 1
  funext e
  cases h : meets W.cps.toList e d with
  | false => rfl
  | true => rw [occ_meets W e d hd h]; rfl
end pure
end

section
open PySem PySem.W PyProof.Rows PySem.Calls
set_option maxRecDepth 100000
set_option maxHeartbeats 0
open PyProof.Rows.LCg
theorem heapZ {zs : List Z} : HeapL elt (zs.map (·.2)) ↔ HeapL zlt zs := by
  constructor
  · intro H i a b hi ha hb
    exact H i a.2 b.2 hi (by rw [List.getElem?_map, ha]; rfl) (by rw [List.getElem?_map, hb]; rfl)
  · intro H i a b hi ha hb
    rw [List.getElem?_map] at ha hb
    obtain ⟨a', h1, rfl⟩ := Option.map_eq_some_iff.mp ha
    obtain ⟨b', h2, rfl⟩ := Option.map_eq_some_iff.mp hb
    exact H i a' b' hi h1 h2
theorem popH_ok {z0 : Z} {r : List Z} (H : HeapL zlt (z0 :: r)) : HeapL zlt (popH z0 r) ∧ (popH z0 r).Perm r := by
  rcases List.eq_nil_or_concat r with rfl | ⟨mid, y, rfl⟩
  · exact ⟨(fun i a b hi ha hb => by rw [show popH z0 [] = [] from rfl] at ha; cases ha), List.Perm.nil⟩
  · rw [List.concat_eq_append] at *
    have e9 : popH z0 (mid ++ [y]) = sift0 zlt y ((z0 :: mid).set 0 y) := by
      unfold popH
      rw [List.getLast?_concat]
      dsimp only
      rw [← List.cons_append, List.dropLast_concat]
    rw [e9]
    have H2 : HeapL zlt (z0 :: mid) := HeapL.dropLast (x := y) (by rw [List.cons_append]; exact H)
    obtain ⟨q1, q2⟩ := sift0_ok ord_zlt (x := y) (xs := (z0 :: mid).set 0 y) (by simp) (PreUp.ofTail H2)
    refine ⟨q1, q2.trans ?_⟩
    show (y :: mid).Perm (mid ++ [y])
    exact (List.perm_append_singleton y mid).symm
theorem repl_ok {x z0 : Z} {r : List Z} (H : HeapL zlt (z0 :: r)) : HeapL zlt (sift0 zlt x ((z0 :: r).set 0 x)) ∧ (sift0 zlt x ((z0 :: r).set 0 x)).Perm (x :: r) :=
  sift0_ok ord_zlt (x := x) (xs := (z0 :: r).set 0 x) (by simp) (PreUp.ofTail H)
theorem push_ok {x : Z} {zs : List Z} (H : HeapL zlt zs) : HeapL zlt (sdown zlt 0 x zs.length (zs ++ [x])) ∧ (sdown zlt 0 x zs.length (zs ++ [x])).Perm (zs ++ [x]) := HeapL.push ord_zlt H
theorem min_ok {z0 : Z} {r : List Z} (H : HeapL zlt (z0 :: r)) : ∀ e ∈ (z0 :: r).map (·.2), elt e z0.2 = false := fun e he => by
  obtain ⟨z, hz, rfl⟩ := List.mem_map.mp he
  exact HeapL.min ord_zlt H (x := z0) rfl z hz
section
variable {h₀ hh : Heap} {L l Hp Td D2 : Addr} {W : Str} {tw : Tok} {vs ys2 : List Value} {n : Nat} {S S2 : List Sold} {s : Shared}
/-- between two turns of the while -/
def ToldI (h₀ : Heap) (L l Hp Td D2 : Addr) (W : Str) (tw : Tok) (vs : List Value) (n : Nat) (ys2 : List Value) (S2 S : List Sold) (s : Shared) (k : Nat) (s' : Shared) : Prop :=
  ∃ h tk m' o4 o3 o2 o1, ∃ zs : List Z, ∃ nH, ∃ ys : List Value, ∃ nT told t gB, s' = { s with heap := h, toks := tk } ∧ Fr h₀ L h m' ∧
    News h₀ L h ((L + 1 + 1 + 1 + 1, o4) :: (L + 1 + 1 + 1, o3) :: (L + 1 + 1, o2) :: (L + 1, o1) :: (Hp, listOf (zs.map (·.1)).toArray nH) :: (Td, listOf ys.toArray nT) :: t) ∧
    (∃ v, o4.data = .cell v) ∧ (∃ v, o3.data = .cell v) ∧ (∃ v, o2.data = .cell v) ∧ o1.data = .cell (some (.str W tw)) ∧
    m' (Str.ofString "heap") = some (.ref Hp) ∧ m' (Str.ofString "told") = some (.ref Td) ∧ m' (Str.ofString "folds") = some (.ref D2) ∧
    (∀ p ∈ t, p.1 ∉ [L, L + 1 + 1 + 1 + 1, L + 1 + 1 + 1, L + 1 + 1, L + 1, Hp, Td]) ∧ Cov h₀ t gB ∧ gB.get? D2 = some (lst ys2) ∧ gB.get? l = some (listOf vs.toArray n) ∧
    Al2 (FoldH gB) ys2 S2 ∧ (∀ z ∈ zs, TripH gB z.1 z.2) ∧ Al2 (PairH gB) ys told ∧ Inv W.cps.toList S (zs.map (·.2)) told ∧ k = ((zs.map (·.2)).map (ewt W.cps.toList S)).sum
theorem toldI_end {tk : Nat} {m' : Str → Option Value} {o4 o3 o2 o1 : Obj} {zs : List Z} {nH nT : Nat} {ys : List Value} {told : List Way} {E : List (Addr × Obj)} (F : Fr h₀ L hh m') (N : News h₀ L hh E)
    (hs : ∀ p ∈ (L + 1 + 1 + 1 + 1, o4) :: (L + 1 + 1 + 1, o3) :: (L + 1 + 1, o2) :: (L + 1, o1) :: (Hp, listOf (zs.map (·.1)).toArray nH) :: [(Td, listOf ys.toArray nT)], p ∈ E)
    (d4 : ∃ v, o4.data = .cell v) (d3 : ∃ v, o3.data = .cell v) (d2 : ∃ v, o2.data = .cell v) (d1 : o1.data = .cell (some (.str W tw)))
    (m1 : m' (Str.ofString "heap") = some (.ref Hp)) (m2 : m' (Str.ofString "told") = some (.ref Td)) (m3 : m' (Str.ofString "folds") = some (.ref D2))
    (nD : D2 ∉ [L, L + 1 + 1 + 1 + 1, L + 1 + 1 + 1, L + 1 + 1, L + 1, Hp, Td]) (nl : l ∉ [L, L + 1 + 1 + 1 + 1, L + 1 + 1 + 1, L + 1 + 1, L + 1, Hp, Td])
    (gD : hh.get? D2 = some (lst ys2)) (gl : hh.get? l = some (listOf vs.toArray n)) (hf : Al2 (FoldH hh) ys2 S2) (hz : ∀ z ∈ zs, TripH hh z.1 z.2) (hp : Al2 (PairH hh) ys told) (I : Inv W.cps.toList S (zs.map (·.2)) told) :
    ToldI h₀ L l Hp Td D2 W tw vs n ys2 S2 S s ((zs.map (·.2)).map (ewt W.cps.toList S)).sum { s with heap := hh, toks := tk } := by
  have N1 := News.sub N hs
  obtain ⟨v4, d4⟩ := d4
  obtain ⟨v3, d3⟩ := d3
  obtain ⟨v2, d2⟩ := d2
  have nt : NoTup hh [L, L + 1 + 1 + 1 + 1, L + 1 + 1 + 1, L + 1 + 1, L + 1, Hp, Td] :=
    NoTup.consNs F.ns (NoTup.consD (N1 (_, o4) (.head _)).1 (fun xs n e => by rw [d4] at e; cases e) (NoTup.consD (N1 (_, o3) (.tail _ (.head _))).1 (fun xs n e => by rw [d3] at e; cases e) (NoTup.consD (N1 (_, o2) (.tail _ (.tail _ (.head _)))).1 (fun xs n e => by rw [d2] at e; cases e) (NoTup.consD (N1 (_, o1) (.tail _ (.tail _ (.tail _ (.head _))))).1 (fun xs n e => by rw [d1] at e; cases e)
      (NoTup.consL (N1 (Hp, _) (.tail _ (.tail _ (.tail _ (.tail _ (.head _)))))).1 (by simp) (NoTup.consL (N1 (Td, _) (.tail _ (.tail _ (.tail _ (.tail _ (.tail _ (.head _))))))).1 (by simp) NoTup.nil))))))
  have kt := NoTup.kt nt
  refine ⟨hh, tk, m', o4, o3, o2, o1, zs, nH, ys, nT, told, tl h₀ hh [L, L + 1 + 1 + 1 + 1, L + 1 + 1 + 1, L + 1 + 1, L + 1, Hp, Td], hideAll hh [L, L + 1 + 1 + 1 + 1, L + 1 + 1 + 1, L + 1 + 1, L + 1, Hp, Td], rfl, F, tl_news (.head _) N1, ⟨_, d4⟩, ⟨_, d3⟩, ⟨_, d2⟩, d1, m1, m2, m3, fun p hp => tl_off hp, tl_cov F.keep,
    hideAll_get _ gD nD, hideAll_get _ gl nl, hf.mono fun _ _ => fold_kt kt, fun z h => trip_kt (hz z h) kt, hp.mono fun _ _ => pair_kt kt, I, rfl⟩
end
theorem AllLt.mem {d : Nat} : ∀ {l : List (Addr × Obj)}, AllLt d l → ∀ p ∈ l, @LT.lt Nat _ p.1 d
  | [], _, _, hp => nomatch hp
  | _ :: _, h, p, hp => by
    rcases List.mem_cons.mp hp with rfl | hp
    · exact h.1
    · exact AllLt.mem h.2 p hp
theorem back {h₀ hh : Heap} {L Hp Td : Addr} {m' : Str → Option Value} {o4 o3 o2 o1 oH oT : Obj} {E : List (Addr × Obj)} (F : Fr h₀ L hh m') (N : News h₀ L hh E)
    (hs : ∀ p ∈ (L + 1 + 1 + 1 + 1, o4) :: (L + 1 + 1 + 1, o3) :: (L + 1 + 1, o2) :: (L + 1, o1) :: (Hp, oH) :: [(Td, oT)], p ∈ E)
    (d4 : ∃ v, o4.data = .cell v) (d3 : ∃ v, o3.data = .cell v) (d2 : ∃ v, o2.data = .cell v) (d1 : ∃ v, o1.data = .cell v) (cH : oH.cls = .type "list") (cT : oT.cls = .type "list") :
    ∃ t gB, News h₀ L hh ((L + 1 + 1 + 1 + 1, o4) :: (L + 1 + 1 + 1, o3) :: (L + 1 + 1, o2) :: (L + 1, o1) :: (Hp, oH) :: (Td, oT) :: t) ∧ (∀ p ∈ t, p.1 ∉ [L, L + 1 + 1 + 1 + 1, L + 1 + 1 + 1, L + 1 + 1, L + 1, Hp, Td]) ∧ Cov h₀ t gB ∧ KT hh gB ∧
      ∀ a o, a ∉ [L, L + 1 + 1 + 1 + 1, L + 1 + 1 + 1, L + 1 + 1, L + 1, Hp, Td] → hh.get? a = some o → gB.get? a = some o := by
  have N1 := News.sub N hs
  obtain ⟨v4, d4⟩ := d4
  obtain ⟨v3, d3⟩ := d3
  obtain ⟨v2, d2⟩ := d2
  obtain ⟨v1, d1⟩ := d1
  have nt : NoTup hh [L, L + 1 + 1 + 1 + 1, L + 1 + 1 + 1, L + 1 + 1, L + 1, Hp, Td] :=
    NoTup.consNs F.ns (NoTup.consD (N1 (_, o4) (.head _)).1 (fun xs n e => by rw [d4] at e; cases e) (NoTup.consD (N1 (_, o3) (.tail _ (.head _))).1 (fun xs n e => by rw [d3] at e; cases e) (NoTup.consD (N1 (_, o2) (.tail _ (.tail _ (.head _)))).1 (fun xs n e => by rw [d2] at e; cases e) (NoTup.consD (N1 (_, o1) (.tail _ (.tail _ (.tail _ (.head _))))).1 (fun xs n e => by rw [d1] at e; cases e)
      (NoTup.consL (N1 (Hp, _) (.tail _ (.tail _ (.tail _ (.tail _ (.head _)))))).1 (by rw [cH]; simp) (NoTup.consL (N1 (Td, _) (.tail _ (.tail _ (.tail _ (.tail _ (.tail _ (.head _))))))).1 (by rw [cT]; simp) NoTup.nil))))))
  exact ⟨_, _, tl_news (.head _) N1, fun p hp => tl_off hp, tl_cov F.keep, NoTup.kt nt, fun a o na e => hideAll_get _ e na⟩
section
variable {h₀ hh : Heap} {L l Hp Td D2 DS I : Addr} {vs ys2 ys : List Value} {n nT : Nat} {S2 : List Sold} {o4 o3 o2 o1 lo : Obj} {told : List Way} {fur r0 : List Ent}
/-- between two turns of the loop that pushes -/
def PushI (h₀ : Heap) (L l Hp Td D2 DS : Addr) (vs : List Value) (n : Nat) (ys2 : List Value) (S2 : List Sold) (o4 o3 o2 o1 lo : Obj) (ys : List Value) (nT : Nat) (told : List Way) (fur r0 : List Ent) (r : List Value) (mm : Str → Option Value) (nw : List (Addr × Obj)) (I : Addr) : Prop :=
  ∃ zs : List Z, ∃ nH done restf t gB, nw = (L + 1 + 1 + 1 + 1, o4) :: (L + 1 + 1 + 1, o3) :: (L + 1 + 1, o2) :: (L + 1, o1) :: (Hp, listOf (zs.map (·.1)).toArray nH) :: (Td, listOf ys.toArray nT) :: (DS, lo) :: t ∧
    mm (Str.ofString "heap") = some (.ref Hp) ∧ mm (Str.ofString "told") = some (.ref Td) ∧ mm (Str.ofString "folds") = some (.ref D2) ∧
    (∀ p ∈ t, p.1 ∉ [L, L + 1 + 1 + 1 + 1, L + 1 + 1 + 1, L + 1 + 1, L + 1, Hp, Td, DS, I]) ∧ Cov h₀ t gB ∧ gB.get? D2 = some (lst ys2) ∧ gB.get? l = some (listOf vs.toArray n) ∧
    Al2 (FoldH gB) ys2 S2 ∧ (∀ z ∈ zs, TripH gB z.1 z.2) ∧ Al2 (PairH gB) ys told ∧ Al2 (TripH gB) r restf ∧ HeapL zlt zs ∧ (zs.map (·.2)).Perm (done ++ r0) ∧ done ++ restf = fur ∧ zs.length = done.length + r0.length ∧
    L + 1 + 1 + 1 + 1 < I ∧ Hp < I ∧ Td < I ∧ DS < I
theorem pushI_start {mm : Str → Option Value} {zs : List Z} {nH : Nat} {r : List Value} {done restf : List Ent} {E : List (Addr × Obj)} (F : Fr h₀ L hh mm) (N : News h₀ L hh E)
    (hs : ∀ p ∈ (L + 1 + 1 + 1 + 1, o4) :: (L + 1 + 1 + 1, o3) :: (L + 1 + 1, o2) :: (L + 1, o1) :: (Hp, listOf (zs.map (·.1)).toArray nH) :: (Td, listOf ys.toArray nT) :: [(DS, lo)], p ∈ E)
    (d4 : ∃ v, o4.data = .cell v) (d3 : ∃ v, o3.data = .cell v) (d2 : ∃ v, o2.data = .cell v) (d1 : ∃ v, o1.data = .cell v) (cD : lo.cls = .type "list")
    (m1 : mm (Str.ofString "heap") = some (.ref Hp)) (m2 : mm (Str.ofString "told") = some (.ref Td)) (m3 : mm (Str.ofString "folds") = some (.ref D2))
    (hI : ∀ o, hh.get? I = some o → o.cls = .type "list_iterator") (nD : D2 ∉ [L, L + 1 + 1 + 1 + 1, L + 1 + 1 + 1, L + 1 + 1, L + 1, Hp, Td, DS, I]) (nl : l ∉ [L, L + 1 + 1 + 1 + 1, L + 1 + 1 + 1, L + 1 + 1, L + 1, Hp, Td, DS, I])
    (gD : hh.get? D2 = some (lst ys2)) (gl : hh.get? l = some (listOf vs.toArray n)) (hf : Al2 (FoldH hh) ys2 S2) (hz : ∀ z ∈ zs, TripH hh z.1 z.2) (hp : Al2 (PairH hh) ys told) (hr : Al2 (TripH hh) r restf)
    (H : HeapL zlt zs) (P : (zs.map (·.2)).Perm (done ++ r0)) (e : done ++ restf = fur) (i1 : (L + 1 + 1 + 1 + 1 : Nat) < I) (i2 : Hp < I) (i3 : Td < I) (i4 : DS < I) :
    ∃ nw, News h₀ L hh nw ∧ PushI h₀ L l Hp Td D2 DS vs n ys2 S2 o4 o3 o2 o1 lo ys nT told fur r0 r mm nw I ∧ (∀ p ∈ nw, p.1 ≠ I) ∧ (DS, lo) ∈ nw := by
  have N1 := News.sub N hs
  obtain ⟨v4, d4⟩ := d4
  obtain ⟨v3, d3⟩ := d3
  obtain ⟨v2, d2⟩ := d2
  obtain ⟨v1, d1⟩ := d1
  have nt : NoTup hh [L, L + 1 + 1 + 1 + 1, L + 1 + 1 + 1, L + 1 + 1, L + 1, Hp, Td, DS, I] :=
    NoTup.consNs F.ns (NoTup.consD (N1 (_, o4) (.head _)).1 (fun xs n e => by rw [d4] at e; cases e) (NoTup.consD (N1 (_, o3) (.tail _ (.head _))).1 (fun xs n e => by rw [d3] at e; cases e) (NoTup.consD (N1 (_, o2) (.tail _ (.tail _ (.head _)))).1 (fun xs n e => by rw [d2] at e; cases e) (NoTup.consD (N1 (_, o1) (.tail _ (.tail _ (.tail _ (.head _))))).1 (fun xs n e => by rw [d1] at e; cases e)
      (NoTup.consL (N1 (Hp, _) (.tail _ (.tail _ (.tail _ (.tail _ (.head _)))))).1 (by simp) (NoTup.consL (N1 (Td, _) (.tail _ (.tail _ (.tail _ (.tail _ (.tail _ (.head _))))))).1 (by simp) (NoTup.consL (N1 (DS, _) (.tail _ (.tail _ (.tail _ (.tail _ (.tail _ (.tail _ (.head _)))))))).1 (by rw [cD]; simp)
        (fun b hb o eo hc _ => by rw [List.mem_singleton.mp hb] at eo; rw [hI o eo] at hc; simp at hc))))))))
  have kt := NoTup.kt nt
  refine ⟨_, tl_news (M := [L, L + 1 + 1 + 1 + 1, L + 1 + 1 + 1, L + 1 + 1, L + 1, Hp, Td, DS, I]) (.head _) N1, ⟨zs, nH, done, restf, _, _, rfl, m1, m2, m3, fun p hp => tl_off hp, tl_cov F.keep, hideAll_get _ gD nD, hideAll_get _ gl nl, hf.mono fun _ _ => fold_kt kt, fun z h => trip_kt (hz z h) kt, hp.mono fun _ _ => pair_kt kt, hr.mono fun _ _ x => trip_kt x kt, H, P, e, by have := P.length_eq; rw [List.length_map, List.length_append] at this; exact this, i1, i2, i3, i4⟩, fun p hp => ?_, ?_⟩
  · rcases List.mem_append.mp hp with hp | hp
    · simp only [List.mem_cons, List.not_mem_nil, or_false] at hp
      rcases hp with rfl | rfl | rfl | rfl | rfl | rfl | rfl
      · exact Nat.ne_of_lt i1
      · exact Nat.ne_of_lt (Nat.lt_trans (Nat.lt_succ_self _) i1)
      · exact Nat.ne_of_lt (Nat.lt_trans (Nat.lt_succ_of_lt (Nat.lt_succ_self _)) i1)
      · exact Nat.ne_of_lt (Nat.lt_trans (Nat.lt_succ_of_lt (Nat.lt_succ_of_lt (Nat.lt_succ_self _))) i1)
      · exact Nat.ne_of_lt i2
      · exact Nat.ne_of_lt i3
      · exact Nat.ne_of_lt i4
    · exact fun e => tl_off hp (by rw [e]; simp)
  · exact List.mem_append_left _ (.tail _ (.tail _ (.tail _ (.tail _ (.tail _ (.tail _ (.head _)))))))
theorem pick1 (v : Value) (r : List Value) : slicePick (v :: r).toArray (some 1) none none = r.toArray := by
  rw [kms_pick_eq]
  show (((v :: r).drop (kms_lo (some 1) (r.length + 1))).take (kms_hi none (r.length + 1) - kms_lo (some 1) (r.length + 1))).toArray = r.toArray
  have e1 : kms_lo (some 1) (r.length + 1) = 1 := by show (if (1 : Int) < 0 then r.length + 1 - (-1 : Int).toNat else min (1 : Int).toNat (r.length + 1)) = 1; rw [if_neg (by decide)]; show min 1 (r.length + 1) = 1; omega
  have e2 : kms_hi none (r.length + 1) = r.length + 1 := rfl
  rw [e1, e2]
  show (r.take (r.length + 1 - 1)).toArray = r.toArray
  rw [Nat.add_sub_cancel, List.take_length]
end
end

section
open PySem PySem.W PyProof.Rows PySem.Calls
set_option maxRecDepth 100000
set_option maxHeartbeats 0
open PyProof.Rows.LCg
theorem sub_ri_reversed : isSubtype (.type "range_iterator") (.type "reversed") = pure false := by rw [isSubtype_type]; kernel_rfl
section
variable {prog : Program} {w : World} {A : Around} {E : Value → Shared → Prop} {s : Shared} {h₀ : Heap} {L : Addr} {m : Str → Option Value} {news : List (Addr × Obj)}
theorem rr_small (n : Nat) (hn : n < 10000) : (Builtin.Range.rangeFitsLong 0 && Builtin.Range.rangeFitsLong (n : Int) && Builtin.Range.rangeFitsLong 1 && Builtin.Range.rangeFitsLong (-1) && Builtin.Range.rangeFitsLong (0 - 1) && Builtin.Range.rangeFitsLong (n : Int)) = true := by
  have fl : ∀ x : Int, -10000 ≤ x → x ≤ 10000 → Builtin.Range.rangeFitsLong x = true := fun x h1 h2 => by
    unfold Builtin.Range.rangeFitsLong
    simp only [Bool.and_eq_true, decide_eq_true_eq]
    omega
  rw [fl 0 (by omega) (by omega), fl n (by omega) (by omega), fl 1 (by omega) (by omega), fl (-1) (by omega) (by omega), fl (0 - 1) (by omega) (by omega)]; rfl
theorem rr_size (n : Nat) : Builtin.Range.rangeSize 0 (n : Int) 1 = (n : Int) := by
  unfold Builtin.Range.rangeSize
  rw [if_pos (by decide)]
  by_cases h : (0 : Int) < n
  · rw [if_pos h]; simp
  · rw [if_neg h]; omega
theorem rangeF {r : Addr} {n : Nat} {t u v : Tok} {Q : Int × Int × Int → Shared → Prop} (hr : IsRange s.heap r 0 (n : Int) 1 t u v) (h : Q (0, (n : Int), 1) s) : wpAny (model prog w) A (Builtin.Range.rangeFields (.ref r)) Q E s := by
  unfold Builtin.Range.rangeFields
  refine wpAny_bind (wpAny_field hr rfl (x := .int 0 t) rfl ?_)
  refine wpAny_bind (wpAny_pure ?_)
  refine wpAny_bind (wpAny_field hr rfl (x := .int (n : Int) u) rfl ?_)
  refine wpAny_bind (wpAny_pure ?_)
  refine wpAny_bind (wpAny_field hr rfl (x := .int 1 v) rfl ?_)
  refine wpAny_bind (wpAny_pure ?_)
  exact wpAny_pure h
def rrObj (n : Nat) : Obj := { cls := .type "range_iterator", data := .fields #[rawInt ((n : Int) - 1), rawInt (n : Int), rawInt (-1)] }
theorem call_rr {r : Addr} {n : Nat} {t u v : Tok} {Q : Value → Shared → Prop} (hr : IsRange s.heap r 0 (n : Int) 1 t u v) (hn : n < 10000) (h : Q (.ref s.heap.objs.size) { s with heap := s.heap.push (rrObj n) }) :
    wpAny (model prog w) A (call (.builtin "range.__reversed__") [.ref r]) Q E s := by
  have hT : s.TypeIs (.ref r) "range" := ⟨_, hr, rfl⟩
  refine wpAny_call_entry F.slot_range_reversed hT F.entry_range_reversed ?_ (F.args_range_reversed_1 _)
  unfold Builtin.«range.__reversed__»
  refine wpAny_bind (wpAny_of_eq (a := Value.ref r) rfl ?_)
  dsimp only
  refine wpAny_bind (rangeF hr ?_)
  try dsimp only
  rw [rr_size]
  rw [rr_small n hn, show (0 : Int) + ((n : Int) - 1) * 1 = (n : Int) - 1 by omega, if_neg (by simp)]
  exact wpAny_bind (wpAny_newObj_type (wpAny_pure ⟨_, rfl, h⟩))
theorem code_rr {r : Addr} {n : Nat} {t u v : Tok} {Q₁ : Value → Shared → Prop} (hr : IsRange s.heap r 0 (n : Int) 1 t u v) (hn : n < 10000) (h : Q₁ (.ref s.heap.objs.size) { s with heap := s.heap.push (rrObj n) }) :
    codeAny (model prog w) A (.call (.builtin "reversed.__new__") ⟨[.type "reversed", .ref r], []⟩) (wants Q₁ E) s := by
  have hT : s.TypeIs (.ref r) "range" := ⟨_, hr, rfl⟩
  refine codeAny_of_tree ?_
  show wpAny _ A.in1 (do checkBuiltinCall "reversed.__new__" ⟨[.type "reversed", .ref r], []⟩; again (.builtin "reversed.__new__" ⟨[.type "reversed", .ref r], []⟩)) _ _ s
  refine wpAny_bind (wpAny_of_eq (F.newCall_reversed_1 _) (wpAny_pure ⟨plainId_quiet F.plain_reversed_new _, codeAny_builtin F.entry_reversed_new ?_⟩))
  rw [Around.under_plainId F.plain_reversed_new _]
  unfold Builtin.«reversed.__new__»
  refine wpAny_bind (wpAny_of_eq (newClass_reversed _) ?_)
  try dsimp only
  refine wpAny_bind (wpAny_of_eq (a := ()) (by first | rfl | kernel_rfl) ?_)
  refine wpAny_bind (wpAny_of_eq (a := ()) (by first | rfl | kernel_rfl) ?_)
  try dsimp only
  refine wpAny_bind (wpAny_specialOf hT F.slot_range_reversed.lookup ?_)
  try dsimp only
  refine wpAny_bind (wpAny_of_eq (F.slot_range_reversed.bind _) ?_)
  try dsimp only
  first
  | rw [if_neg (show ¬ ((Value.builtin "range.__reversed__" == Value.none) = true) from Bool.false_ne_true)]
  | (show wpAny _ _ (if (Value.builtin "range.__reversed__" == Value.none) = true then _ else _) _ _ _; rw [if_neg (show ¬ ((Value.builtin "range.__reversed__" == Value.none) = true) from Bool.false_ne_true)])
  refine wpAny_bind (wpAny_rule ?_)
  refine wpAny_bind (m := runValue (.call (.builtin "range.__reversed__") ⟨[.ref r], []⟩)) (show wpAny _ _ (call (.builtin "range.__reversed__") [.ref r]) _ _ _ from call_rr hr hn ?_)
  first
  | exact wpAny_pure h
  | exact wpAny_bind (wpAny_pure (wpAny_pure h))
theorem reversed_range {r : Addr} {n : Nat} {t u v : Tok} {Q : Value → Shared → Prop} (hr : IsRange s.heap r 0 (n : Int) 1 t u v) (hn : n < 10000) (h : Q (.ref s.heap.objs.size) { s with heap := s.heap.push (rrObj n) }) :
    wpAny (model prog w) A (call (.type "reversed") [.ref r]) Q E s := by
  refine callType_other (U := "range_iterator") (Q₁ := fun obj s₁ => obj = .ref s.heap.objs.size ∧ s₁ = { s with heap := s.heap.push (rrObj n) }) (by decide +kernel) F.create_reversed ⟨_, _, F.mro_reversed⟩ F.made_reversed sub_ri_reversed (F.typeCall_reversed_1 _) (code_rr hr hn ⟨rfl, rfl⟩) ?_
  rintro obj s₁ ⟨rfl, rfl⟩
  exact ⟨⟨_, Heap.get?_push_size _ rfl, rfl⟩, h⟩
theorem iadd_ref {D b : Addr} {its its2 : Array Value} {n n2 : Nat} {Q : Value → Shared → Prop} (hD : s.heap.get? D = some { cls := .type "list", data := .seq its n }) (hb : s.heap.get? b = some { cls := .type "list", data := .seq its2 n2 }) (hsz : its.size + its2.size ≤ sizeLine)
    (h : Q (.ref D) { s with heap := s.heap.update D (Obj.mapSeq fun x => x ++ its2) }) : wpAny (model prog w) A (inplaceOp .Add (.ref D) (.ref b)) Q E s := by
  have ha : s.TypeIs (.ref D) "list" := ⟨_, hD, rfl⟩
  have hbT : s.TypeIs (.ref b) "list" := ⟨_, hb, rfl⟩
  unfold inplaceOp
  try with_reducible refine wpAny_holding ?_
  have hi : isSeqSlot (some (.builtin "list.__iadd__")) = true := by decide +kernel
  have hfi : fillsInplaceSlot (.type "list") Operator.Add.info.2 (Operator.Add == .Add) = pure false := by
    unfold fillsInplaceSlot
    show (typeLookup (.type "list") (dunderI "add") >>= fun fi => pure (fi.isSome && !isSeqSlot fi)) = pure false
    rw [F.slot_list_iadd.lookup, pure_bind, hi]
    rfl
  refine wpAny_bind (wpAny_typeOf ha (wpAny_bind (wpAny_of_eq hfi ?_)))
  show wpAny _ A (if false = true then _ else _) Q E s
  rw [if_neg Bool.false_ne_true]
  refine wpAny_bind (PySem.wpAny_binaryOp1_none ha hbT noFill_list_add ?_)
  try dsimp only
  refine wpAny_bind (wpAny_of_eq (PySem.seqSlot_of F.slot_list_iadd.lookup hi) ?_)
  try dsimp only
  refine wpAny_bind (wpAny_rule ?_)
  refine call_meets F.slot_list_iadd ha F.entry_list_iadd (F.args_list_iadd_2 _ _) (AutoSeq1.list___iadd___list_list_0 D its n b its2 n2 (extend_door hsz) (Nat.le_trans (Nat.le_add_right _ _) hsz) (Nat.le_succ_of_le hsz)) ⟨hD, hb, h⟩
/-- row += others -/
theorem iadd_head {D b : Addr} {ys : List Value} {n n2 : Nat} {zs : List Value} {rest : List (Addr × Obj)} {Q : Value → Shared → Prop}
    (F : Fr h₀ L s.heap m) (N : News h₀ L s.heap ((D, listOf ys.toArray n) :: rest)) (hap : ∀ p ∈ rest, p.1 ≠ D) (hb : s.heap.get? b = some (listOf zs.toArray n2)) (hsz : ys.length + zs.length ≤ 9000)
    (h : ∀ h' n', Fr h₀ L h' m → News h₀ L h' ((D, listOf (ys ++ zs).toArray n') :: rest) → Q (.ref D) { s with heap := h' }) :
    wpAny (model prog w) A (inplaceOp .Add (.ref D) (.ref b)) Q E s := by
  have hm := N _ (.head _)
  refine iadd_ref hm.1 hb (by rw [List.size_toArray, List.size_toArray, sizeLine_eq]; omega) ?_
  have e : ys.toArray ++ zs.toArray = (ys ++ zs).toArray := by simp
  have ho' : (s.heap.update D (Obj.mapSeq fun x => x ++ zs.toArray)).get? D = some (listOf (ys ++ zs).toArray (if (ys.toArray ++ zs.toArray).size == ys.toArray.size then n else n + 1)) := by
    rw [Heap.get?_update_self _ hm.1 (by rw [mapSeq_app]; rfl), mapSeq_app, e]
  exact h _ _ (F.change (Heap.SameBut.update ..) hm.2.1 hm.2.2) (N.setHead hap (Heap.SameBut.update ..) ho')
end
end

section
open PySem PySem.W PyProof.Rows PySem.Calls
set_option maxRecDepth 100000
set_option maxHeartbeats 0
open PyProof.Rows.LCg
section
variable {prog : Program} {w : World} {A : Around} {E : Value → Shared → Prop} {s : Shared} {h₀ : Heap} {L : Addr} {m : Str → Option Value} {news : List (Addr × Obj)}
theorem ask_pair {gB : Heap} {v u : Value} {x y : Way} {Q : Bool → Shared → Prop} (k : ∀ b o, gB.get? b = some o → s.heap.get? b = some o) (hv : PairH gB v x) (hu : PairH gB u y) (h : Q (wlt x y) s) : wpAny (model prog w) A (keyLt' (tuples' true) v u) Q E s := by
  obtain ⟨a, t1, t2, rfl, o1, q1, c1, n1, e1⟩ := hv
  obtain ⟨b, u1, u2, rfl, o2, q2, c2, n2, e2⟩ := hu
  refine kat_lt (k _ _ q1) e1 (k _ _ q2) e2 ?_
  obtain ⟨p, tx⟩ := x
  obtain ⟨p', tx'⟩ := y
  have e0 : wlt (p, tx) (p', tx') = if p = p' then decide (tx.cps.toList < tx'.cps.toList) else decide (p < p') := rfl
  refine kat_cons (wpAny_eqBool_int ?_)
  by_cases hp : p = p'
  · subst hp
    rw [if_pos rfl] at e0
    rw [beq_self_eq_true]
    refine kat_yes (kat_cons (wpAny_eqBool_str ?_))
    by_cases ht : tx = tx'
    · subst ht
      rw [decide_eq_true rfl]
      refine kat_yes (kat_nil ?_)
      rw [e0, decide_eq_false (fun q => List.lt_irrefl _ q)] at h
      exact h
    · rw [decide_eq_false ht]
      refine kat_no ?_
      show wpAny _ _ (oneLt' false (.str tx t2) (.str tx' u2)) _ _ _
      refine kat_one _ _ (lt_str ?_)
      rw [e0] at h
      exact h
  · rw [if_neg hp] at e0
    rw [beq_eq_false_iff_ne.mpr hp]
    refine kat_no ?_
    show wpAny _ _ (oneLt' true (.int p t1) (.int p' u1)) _ _ _
    refine oneLt_int ?_
    rw [e0] at h
    exact h
theorem al2_tups {gB h : Heap} (k : ∀ b o, gB.get? b = some o → h.get? b = some o) : ∀ {vs : List Value} {ws : List Way}, Al2 (PairH gB) vs ws → ∃ fs, KatTups h vs fs ∧ fs.length = vs.length ∧ ∀ v ∈ fs, ∃ i t, v = .int i t
  | [], [], _ => ⟨[], trivial, rfl, fun _ hp => nomatch hp⟩
  | v :: vs, y :: ws, h => by
    obtain ⟨fs, a, b, c⟩ := al2_tups k h.2
    obtain ⟨x, t1, t2, rfl, o1, q1, c1, n1, e1⟩ := h.1
    refine ⟨.int y.1 t1 :: fs, KatTups.cons (k _ _ q1) c1 e1 rfl a, congrArg (· + 1) b, fun v hv => ?_⟩
    rcases List.mem_cons.mp hv with rfl | hv
    · exact ⟨_, _, rfl⟩
    · exact c v hv
  | [], _ :: _, h => h.elim
  | _ :: _, [], h => h.elim
theorem al2_pick {R : Value → Way → Prop} {vs : List Value} {ws : List Way} (h : Al2 R vs ws) (l : List Nat) (hl : ∀ i ∈ l, i < vs.length) : Al2 R (l.map fun i => vs.getD i Value.none) (l.map fun i => ws.getD i (0, ⟨#[]⟩)) := by
  induction l with
  | nil => trivial
  | cons i l ih =>
    have hi := hl i (.head _)
    obtain ⟨b, e, r⟩ := h.get (List.getElem?_eq_getElem hi)
    refine ⟨?_, ih fun j hj => hl j (.tail _ hj)⟩
    dsimp only
    rw [List.getD_eq_getElem?_getD, List.getD_eq_getElem?_getD, List.getElem?_eq_getElem hi, e]
    exact r
theorem sorted_many {l : Addr} {vs : List Value} {ws : List Way} {gB : Heap} {Q : Value → Shared → Prop} (F : Fr h₀ L s.heap m) (N : News h₀ L s.heap news) (hl : s.heap.IsList l vs.toArray) (C : Cov h₀ news gB) (hp : Al2 (PairH gB) vs ws) (h2 : 2 ≤ vs.length) (h64 : vs.length < 64)
    (h : ∀ D h' ys out n', Fr h₀ L h' m → News h₀ L h' ((D, listOf ys.toArray n') :: news) → (∀ q ∈ news, q.1 < D) → out.Perm ws → out.Pairwise wle → Al2 (PairH gB) ys out → Q (.ref D) { s with heap := h' }) :
    wpAny (model prog w) A (call (.builtin "sorted") [.ref l]) Q E s := by
  refine kat_sorted F N hl h2 h64 fun D e1 h1 F1 N1 hD => ?_
  have k1 := C.keep F1 (News.sub N1 fun p hp => .tail _ hp)
  obtain ⟨fs, a, b, c⟩ := al2_tups k1 hp
  refine kat_kind (T := .type "int") a (by omega) (fun v hv => ?_) (by decide) ?_
  · obtain ⟨i, t, rfl⟩ := c v hv
    exact fun A Q E s k q => wpAny_typeOf (typeIs_int s i t) q
  rw [show (Value.type "int" != Value.type "tuple") = true by decide]
  have hlen := hp.length
  refine (sort_ok (n := vs.length) (key := fun i => ws.getD i (0, ⟨#[]⟩)) (J := fun s' => s' = ({ s with heap := h1 } : Shared)) (fun i j C' s' hi hj hJ hC => ?_) (by omega)) _ _ rfl fun p s' hq hJ => ?_
  · subst hJ
    obtain ⟨bi, ei, ri⟩ := hp.get (List.getElem?_eq_getElem hi)
    obtain ⟨bj, ej, rj⟩ := hp.get (List.getElem?_eq_getElem hj)
    show wpAny _ _ (keyLt' (tuples' true) (vs.getD i Value.none) (vs.getD j Value.none)) C' _ _
    have g1 : vs.getD i Value.none = vs[i] := by rw [List.getD_eq_getElem?_getD, List.getElem?_eq_getElem hi]; rfl
    have g2 : vs.getD j Value.none = vs[j] := by rw [List.getD_eq_getElem?_getD, List.getElem?_eq_getElem hj]; rfl
    rw [g1, g2]
    refine ask_pair k1 ri rj ?_
    have := hC _ rfl
    dsimp only at this
    rw [List.getD_eq_getElem?_getD, List.getD_eq_getElem?_getD, ei, ej] at this
    exact this
  · subst hJ
    obtain ⟨PP, SS⟩ := hq
    obtain ⟨so1, so2⟩ := sorted_list (ws := ws) (p := p) (hlen ▸ PP) (hlen ▸ SS)
    refine KasFin.intro F1 N1 (UpdF.head fun q hq => Nat.ne_of_lt (hD q hq)) fun h' c' F' N' => ?_
    refine h D h' _ _ c' F' N' hD so1 so2 (al2_pick hp _ fun i hi => ?_)
    have hmem := (Array.perm_iff_toList_perm.mp PP.perm).mem_iff.mp hi
    simpa using hmem
theorem list_sort_small {a : Addr} {vs : List Value} {n : Nat} {P : PySem.Fin → Shared → Prop} (F : Fr h₀ L s.heap m) (N : News h₀ L s.heap news) (ho : s.heap.get? a = some (seqObj "list" vs.toArray n)) (haL : a ≠ L) (ha0 : h₀.get? a = none) (hna : ∀ p ∈ news, p.1 ≠ a) (h2 : vs.length < 2)
    (h : ∀ h' n', Fr h₀ L h' m → News h₀ L h' ((a, listOf vs.toArray n') :: news) → P (.done (.ret .none)) { s with heap := h' }) :
    wpAny (model prog w) A (Builtin.«list.sort» ⟨[.ref a], []⟩) P E s := by
  have ha : a < s.heap.objs.size := Heap.lt_size ho
  have s1 := Heap.SameBut.update s.heap a (Obj.mapSeq fun _ => (#[] : Array Value))
  obtain ⟨e1, ho1⟩ : ∃ e1, (s.heap.update a (Obj.mapSeq fun _ => (#[] : Array Value))).get? a = some (seqObj "list" #[] e1) := ⟨_, get?_update_seq ho fun _ => #[]⟩
  have F3 : Fr h₀ L (((s.heap.update a (Obj.mapSeq fun _ => (#[] : Array Value))).push (seqObj "tuple" vs.toArray 0)).push (seqObj "list" #[] 0)) m := ((kas_fr F s1 haL ha0).push _).push _
  have N2 : News h₀ L (((s.heap.update a (Obj.mapSeq fun _ => (#[] : Array Value))).push (seqObj "tuple" vs.toArray 0)).push (seqObj "list" #[] 0)) news :=
    (kas_news N s1 hna).grown fun b x e => Heap.get?_push_of_some _ (Heap.get?_push_of_some _ e)
  have ho3 : (((s.heap.update a (Obj.mapSeq fun _ => (#[] : Array Value))).push (seqObj "tuple" vs.toArray 0)).push (seqObj "list" #[] 0)).get? a = some (seqObj "list" #[] e1) := Heap.get?_push_of_some _ (Heap.get?_push_of_some _ ho1)
  generalize hH : (((s.heap.update a (Obj.mapSeq fun _ => (#[] : Array Value))).push (seqObj "tuple" vs.toArray 0)).push (seqObj "list" #[] 0)) = H3 at F3 N2 ho3
  rw [list_sort_plain]
  refine wpAny_bind (listItems_at ho rfl ?_)
  refine wpAny_bind (listUpdate_at ho rfl ?_ (by rw [List.size_toArray, sizeLine_eq]; omega) (Nat.zero_le _))
  refine wpAny_bind (seqEpoch_at ho1 rfl ?_)
  refine wpAny_bind (wpAny_newTuple ?_ (by show vs.length ≤ _; rw [sizeLine_eq]; omega))
  refine wpAny_bind (wpAny_newList ?_ (Nat.zero_le _))
  refine wpAny_holding ?_
  show wpAny (model prog w) A _ P E { s with heap := ((s.heap.update a (Obj.mapSeq fun _ => (#[] : Array Value))).push (seqObj "tuple" vs.toArray 0)).push (seqObj "list" #[] 0) }
  rw [hH]
  dsimp only
  have hn2 : vs.toArray.size < 2 := by rw [List.size_toArray]; omega
  rw [if_pos hn2, if_pos hn2]
  have hm : (arrOf (SortSt.mk' general' (vs.toArray.zip vs.toArray) #[] 7 none)).map (·.2) = vs.toArray := by
    show (vs.toArray.zip vs.toArray).map (·.2) = vs.toArray
    apply Array.toList_inj.mp
    rw [Array.toList_map, Array.toList_zip]
    exact List.map_snd_zip (Nat.le_refl _)
  refine wpAny_bind (wpAny_pure ?_)
  refine wpAny_bind (wpAny_pure (a := ((), SortSt.mk' general' (vs.toArray.zip vs.toArray) #[] 7 none)) ?_)
  refine wpAny_bind (seqEpoch_at ho3 rfl ?_)
  have s3 := Heap.SameBut.update H3 a (Obj.mapSeq fun _ => vs.toArray)
  obtain ⟨c2, hc2⟩ : ∃ c2, (H3.update a (Obj.mapSeq fun _ => vs.toArray)).get? a = some (seqObj "list" vs.toArray c2) := ⟨_, get?_update_seq ho3 fun _ => vs.toArray⟩
  dsimp only
  rw [hm]
  refine wpAny_bind (listUpdate_at ho3 rfl ?_ (Nat.zero_le _) (by rw [List.size_toArray, sizeLine_eq]; omega))
  show wpAny _ A (if (e1 != e1) = true then _ else _) P E _
  rw [if_neg (by simp)]
  refine wpAny_pure (h _ c2 (kas_fr F3 s3 haL ha0) ?_)
  intro p hp
  rcases List.mem_cons.mp hp with rfl | hp
  · exact ⟨hc2, haL, ha0⟩
  · have z := kas_news N2 s3 hna p hp; exact z
theorem sorted_small {l : Addr} {vs : List Value} {Q : Value → Shared → Prop} (F : Fr h₀ L s.heap m) (N : News h₀ L s.heap news) (hl : s.heap.IsList l vs.toArray) (h2 : vs.length < 2)
    (h : ∀ D h' n', Fr h₀ L h' m → News h₀ L h' ((D, listOf vs.toArray n') :: news) → (∀ q ∈ news, q.1 < D) → Q (.ref D) { s with heap := h' }) :
    wpAny (model prog w) A (call (.builtin "sorted") [.ref l]) Q E s := by
  refine Calls.call_function_entry kind_sorted plain_sorted entry_sorted (args_sorted1 _) ?_
  unfold Builtin.«sorted»
  refine wpAny_bind (m := checkCount "sorted" 1 1 _) (wpAny_pure ?_)
  refine wpAny_bind (collect_list hl ?_ (by rw [sizeLine_eq]; omega))
  refine wpAny_bind (wpAny_newList ?_ (by rw [sizeLine_eq]; omega))
  have hsz : ((s.heap.push (seqObj "list" #[] 0)).update s.heap.objs.size (Obj.mapSeq (· ++ vs.toArray))).objs.size = s.heap.objs.size + 1 := by
    rw [Heap.size_update, size_push']
  have hoL : (((s.heap.push (seqObj "list" #[] 0)).update s.heap.objs.size (Obj.mapSeq (· ++ vs.toArray))).push (seqObj "list" vs.toArray 0)).get? (s.heap.objs.size + 1) = some (seqObj "list" vs.toArray 0) := by
    rw [← hsz]; exact Heap.get?_push_size _ rfl
  have keep : ∀ b o, s.heap.get? b = some o → (((s.heap.push (seqObj "list" #[] 0)).update s.heap.objs.size (Obj.mapSeq (· ++ vs.toArray))).push (seqObj "list" vs.toArray 0)).get? b = some o := fun b o q => by
    have hlt : b < s.heap.objs.size := Heap.lt_size q
    rw [Heap.get?_push_ne _ _ _ (by rw [hsz]; exact Nat.ne_of_lt (Nat.lt_succ_of_lt hlt)), Heap.get?_update_ne _ _ _ _ (Nat.ne_of_lt hlt), Heap.get?_push_ne _ _ _ (Nat.ne_of_lt hlt)]
    exact q
  have hL : L < s.heap.objs.size := F.ns.lt
  show wpAny _ _ _ _ _ { s with heap := ((s.heap.push (seqObj "list" #[] 0)).update s.heap.objs.size (Obj.mapSeq (· ++ vs.toArray))).push (seqObj "list" vs.toArray 0) }
  rw [hsz]
  refine wpAny_bind (wpAny_holding (wpAny_call_entry slot_list_sort ⟨_, hoL, rfl⟩ entry_list_sort ?body (args_list_sort _)))
  case body =>
    refine list_sort_small (s := { s with heap := ((s.heap.push (seqObj "list" #[] 0)).update s.heap.objs.size (Obj.mapSeq (· ++ vs.toArray))).push (seqObj "list" vs.toArray 0) })
      (F.kept keep) (N.grown keep) hoL (Nat.ne_of_gt (Nat.lt_succ_of_lt hL)) (Heap.get?_none_of_le (Nat.le_trans F.above (Nat.le_succ_of_le (Nat.le_of_lt hL))))
      (fun p hp => Nat.ne_of_lt (Nat.lt_succ_of_lt (Heap.lt_size (N p hp).1))) h2 fun h' n' F' N' => ?_
    exact ⟨_, rfl, wpAny_pure ⟨_, rfl, h _ h' n' F' N' fun q hq => Nat.lt_succ_of_lt (Heap.lt_size (N q hq).1)⟩⟩
theorem sorted_ways {l : Addr} {vs : List Value} {ws : List Way} {gB : Heap} {Q : Value → Shared → Prop} (F : Fr h₀ L s.heap m) (N : News h₀ L s.heap news) (hl : s.heap.IsList l vs.toArray) (C : Cov h₀ news gB) (hp : Al2 (PairH gB) vs ws) (h64 : ws.length < 64)
    (h : ∀ D h' ys out n', Fr h₀ L h' m → News h₀ L h' ((D, listOf ys.toArray n') :: news) → (∀ q ∈ news, q.1 < D) → out.Perm ws → out.Pairwise wle → Al2 (PairH gB) ys out → Q (.ref D) { s with heap := h' }) :
    wpAny (model prog w) A (call (.builtin "sorted") [.ref l]) Q E s := by
  have hlen := hp.length
  by_cases h2 : 2 ≤ vs.length
  · exact sorted_many F N hl C hp h2 (by omega) h
  · refine sorted_small F N hl (by omega) fun D h' n' F' N' hD => h D h' vs ws n' F' N' hD (List.Perm.refl _) ?_ hp
    match ws, hlen with
    | [], _ => exact .nil
    | [_], _ => exact List.pairwise_singleton _ _
    | _ :: _ :: r, e => simp at e; omega
end
end

section
open PySem PySem.W PyProof.Rows PySem.Calls
set_option maxRecDepth 100000
set_option maxHeartbeats 0
open PyProof.Rows.LCg
section
variable {prog : Program} {w : World} {A : Around} {E : Value → Shared → Prop} {s : Shared} {env : Env} {h₀ : Heap} {body : List Stmt} {Q : Flow → Shared → Prop} {x : Str} {px : Pos}
/-- k - 1, .., 0 -/
def downItems : Nat → List Itm
  | 0 => []
  | k + 1 => .tok (fun t => .int (k : Int) t) :: downItems k
theorem downItems_length : ∀ k, (downItems k).length = k
  | 0 => rfl
  | k + 1 => congrArg (· + 1) (downItems_length k)
theorem downItems_get : ∀ (k i : Nat), i < k → (downItems k)[i]? = some (.tok (fun t => .int ((k - 1 - i : Nat) : Int) t))
  | 0, _, h => absurd h (Nat.not_lt_zero _)
  | k + 1, 0, _ => rfl
  | k + 1, i + 1, h => by
    show (downItems k)[i]? = _
    rw [downItems_get k i (by omega), show k - 1 - i = k + 1 - 1 - (i + 1) by omega]
theorem revJ {I : Addr} {n : Nat} {m₀ : Str → Option Value} {news : List (Addr × Obj)} (Inv : Nat → (Str → Option Value) → List (Addr × Obj) → Prop) (hh : A.handled = none) (F : Fr h₀ env.locals s.heap m₀) (N : News h₀ env.locals s.heap news)
    (hI : s.heap.get? I = some (rrObj n)) (hI0 : h₀.get? I = none) (hIL : I ≠ env.locals) (off : ∀ p ∈ news, p.1 ≠ I) (start : Inv n m₀ news)
    (stop : ∀ mm nw h tk, Inv 0 mm nw → Fr h₀ env.locals h mm → News h₀ env.locals h nw → Q .next { s with heap := h, toks := tk })
    (step : ∀ (k : Nat) mm nw, Inv (k + 1) mm nw → ∀ t h tk, Fr h₀ env.locals h mm → ∀ o2 : Obj, o2.cls = .type "range_iterator" → News h₀ env.locals h ((I, o2) :: nw) →
      wpAny (model prog w) A (assign (.Name x px) env (.int (k : Int) t)) (fun _ s₂ => wpAny (model prog w) A (execs body env) (UnrPostW h₀ env.locals { s with heap := h, toks := tk } [(I, o2)] (fun m' n' => Inv k m' n') Q) E s₂) E { s with heap := h, toks := tk }) :
    wpAny (model prog w) A (pyIter (.ref I)) (fun it s₂ => TurnsAt prog w A h₀ env (.Name x px) body Q E it s₂) E s := by
  have hit : IsRangeIter s.heap I ((n : Int) - 1) (n : Int) (-1) := hI
  refine wpAny_pyIter_rangeiter hit ?_
  have key : ∀ (k : Nat) mm nw, Inv k mm nw → ItemsRest prog w A E h₀ env (.Name x px) body Q s [(I, "range_iterator")] [] (downItems k) mm nw := by
    intro k
    induction k with
    | zero => intro mm nw hi; exact ItemsRest.zero fun h tk F' N' => stop mm nw h tk hi F' N'
    | succ k ih =>
      intro mm nw hi
      refine ItemsRest.tok fun t h tk F' => AllObj.cons fun o2 c2 => AllObj.nil fun N' => ?_
      refine wpAny_mono (step k mm nw hi t h tk F' o2 c2 N') (fun _ s₂ h₂ => wpAny_mono h₂ (fun f s₃ h₃ => ?_) fun _ _ x => x) fun _ _ x => x
      exact unrMono (fun m' n' q => ⟨trivial, ih m' n' q⟩) h₃
  refine ktu_core (hp := s.heap) (tk0 := s.toks) (keep := []) (KTurns.ofWalks (Walks.range hh I ((n : Int) - 1) (-1) n).bound fun i v s Q E st q => wpAny_of_eq rfl q) (downItems_length n).symm (fun i v h hp => ?_) (fun i h st => ?_) (fun b hb => ?_) (fun b hb => by simpa using hb) (fun b hb => .inl (by simpa using hb)) ?_ (fun p hp hm => off p hp (List.mem_singleton.mp hm)) ?_ F N trivial (key n m₀ news start)
  · obtain ⟨hlt, t, e⟩ := hp
    refine ⟨_, downItems_get n i hlt, t, ?_⟩
    rw [e]
    congr 1
    omega
  · exact ⟨[(I, _)], ⟨⟨rfl, rfl⟩, trivial⟩, fun p hp => by rw [List.mem_singleton.mp hp]; exact st⟩
  · have hb' : b = I := by simpa using hb
    rw [hb']
    exact ⟨List.mem_cons_self .., hI0⟩
  · intro hm
    exact hIL (List.mem_singleton.mp hm).symm
  · show IsRangeIter s.heap I ((n : Int) - 1 + ((0 : Nat) : Int) * (-1)) ((n : Int) - ((0 : Nat) : Int)) (-1)
    have e1 : (n : Int) - 1 + ((0 : Nat) : Int) * (-1) = (n : Int) - 1 := by omega
    have e2 : (n : Int) - ((0 : Nat) : Int) = (n : Int) := by omega
    rw [e1, e2]
    exact hit
end
end

section
open PySem PySem.W PyProof.Rows PySem.Calls
set_option maxRecDepth 100000
set_option maxHeartbeats 0
open PyProof.Rows.LCg
section
variable {prog : Program} {w : World} {A : Around} {E : Value → Shared → Prop} {s : Shared} {env : Env} {h₀ hh : Heap} {L : Addr} {m : Str → Option Value} {rest : List (Addr × Obj)}
/-- a new background: all that was made, but what lies at M -/
theorem backG {M : List Addr} {E : List (Addr × Obj)} (F : Fr h₀ L hh m) (N : News h₀ L hh E) (hL : L ∈ M) (nt : NoTup hh M) :
    ∃ t gB, News h₀ L hh (E ++ t) ∧ (∀ p ∈ t, p.1 ∉ M) ∧ Cov h₀ t gB ∧ KT hh gB ∧ (∀ a o, a ∉ M → hh.get? a = some o → gB.get? a = some o) ∧ ∀ a o, gB.get? a = some o → a ∉ M :=
  ⟨_, _, tl_news hL N, fun p hp => tl_off hp, tl_cov F.keep, NoTup.kt nt, fun a o na e => hideAll_get _ e na, fun a o e q => by rw [hideAll_none M q] at e; cases e⟩
/-- one name of the frame, two cells -/
theorem tupLCC {x₁ x₂ x₃ : Str} {v₁ v₂ v₃ : Value} {p₁ p₂ p₃ pos : Pos} {k} {t c₂ c₃ : Addr} {o₂ o₃ : Obj} {w₂ w₃ : Option Value} {Q : Unit → Shared → Prop} (hh : A.handled = none) (ht : IsTup s.heap t #[v₁, v₂, v₃]) (F : Fr h₀ L s.heap m)
    (N : News h₀ L s.heap ((c₃, o₃) :: (c₂, o₂) :: rest)) (hoff : ∀ p ∈ rest, p.1 ≠ c₂ ∧ p.1 ≠ c₃) (h23 : c₂ ≠ c₃) (d₂ : o₂.data = .cell w₂) (d₃ : o₃.data = .cell w₃) (hE : env.locals = L)
    (hc₂ : env.cells.lookup x₂ = some c₂) (hc₃ : env.cells.lookup x₃ = some c₃) (hk : env.scope.kind = .function) (hx₁ : env.kindOf x₁ = some .local) (hx₂ : env.kindOf x₂ = some .cell) (hx₃ : env.kindOf x₃ = some .cell)
    (h : ∀ h' tk o₂' o₃', Fr h₀ L h' (fun y => if y = x₁ then some v₁ else m y) → News h₀ L h' ((c₃, o₃') :: (c₂, o₂') :: rest) → o₂'.data = .cell (some v₂) → o₃'.data = .cell (some v₃) → Q () { s with heap := h', toks := tk }) :
    wpAny (model prog w) A (assign (.Tuple [.Name x₁ p₁, .Name x₂ p₂, .Name x₃ p₃] k pos) env (.ref t)) Q E s := by
  subst hE
  have hp : (env.scope.kind == .class || (env.scope.kind == .module && env.locals != env.globals)) = false := by rw [hk]; rfl
  refine assign_Tuple_tuple hh ht rfl rfl fun h₅ he => ?_
  have he' : ∀ b o, s.heap.get? b = some o → h₅.get? b = some o := fun b o e => he b o (Nat.ne_of_lt (Heap.lt_size e)) e
  have F₅ := F.keeps he'
  have N₅ := N.grown he'
  refine assignInOrder_cons (wpAny_assign_Name (wpAny_storeName_local hx₁ F₅.ns (fun h₁ hn₁ hs₁ => ?_) hp))
  have F₁ := F₅.set hn₁ hs₁
  have N₁ := N₅.set hs₁
  refine assignInOrder_cons (wpAny_assign_Name (stCell F₁ (News.sub (E' := (c₂, o₂) :: (c₃, o₃) :: rest) N₁ (by walk_at "mem")) (fun p hp => ?_) d₂ hc₂ hk hx₂ fun h₂ o₂' F₂ N₂ e₂ => ?_))
  · rcases List.mem_cons.mp hp with rfl | hp
    · exact h23.symm
    exact (hoff p hp).1
  refine assignInOrder_cons (wpAny_assign_Name (stCell F₂ (News.sub (E' := (c₃, o₃) :: (c₂, o₂') :: rest) N₂ (by walk_at "mem")) (fun p hp => ?_) d₃ hc₃ hk hx₃ fun h₃ o₃' F₃ N₃ e₃ => ?_))
  · rcases List.mem_cons.mp hp with rfl | hp
    · exact h23
    exact (hoff p hp).2
  exact assignInOrder_nil (h h₃ _ o₂' o₃' F₃ N₃ e₂ e₃)
end
/-- a row, as it lies -/
def RowV (h : Heap) (v : Value) (ws : List Way) : Prop := ∃ a, ∃ us : List Value, ∃ n, v = .ref a ∧ h.get? a = some (listOf us.toArray n) ∧ Al2 (PairH h) us ws
theorem rowV_keep {h h' : Heap} (k : ∀ b o, h.get? b = some o → h'.get? b = some o) {v : Value} {ws : List Way} (x : RowV h v ws) : RowV h' v ws :=
  let ⟨a, us, n, e, g, al⟩ := x; ⟨a, us, n, e, k _ _ g, al.mono fun _ _ => pair_kt (KT.of k)⟩
theorem rowV_back {h h' : Heap} {M : List Addr} (kt : KT h h') (kg : ∀ a o, a ∉ M → h.get? a = some o → h'.get? a = some o) {v : Value} {ws : List Way} (x : RowV h v ws) (hn : ∀ a, v = .ref a → a ∉ M) : RowV h' v ws :=
  let ⟨a, us, n, e, g, al⟩ := x; ⟨a, us, n, e, kg _ _ (hn a e) g, al.mono fun _ _ => pair_kt kt⟩
theorem slice_at (W : Str) (k p : Nat) (hk : k ≤ W.cps.toList.length) : Txt.slice W (some (k : Int)) (some ((k : Int) + (p : Int))) = ⟨((W.cps.toList.drop k).take p).toArray⟩ := by
  show StrLaws.sliceText W (some (k : Int)) (some ((k : Int) + (p : Int))) = _
  by_cases h : k + p ≤ W.cps.toList.length
  · rw [StrLaws.sliceText_plain ⟨by omega, by omega, by omega⟩]
    have e1 : ((k : Nat) : Int).toNat = k := by omega
    have e2 : ((k : Int) + (p : Int) - (k : Int)).toNat = p := by omega
    rw [e1, e2]
  · have hl : W.length = W.cps.toList.length := by simp [Str.length]
    have e : StrLaws.sliceText W (some (k : Int)) (some ((k : Int) + (p : Int))) = StrLaws.sliceText W (some (k : Int)) (some (W.cps.toList.length : Int)) := by
      unfold StrLaws.sliceText
      have c : Builtin.Str.strSliceIndices (some (k : Int)) (some ((k : Int) + (p : Int))) 1 W.length = Builtin.Str.strSliceIndices (some (k : Int)) (some (W.cps.toList.length : Int)) 1 W.length := by
        have a1 : ¬ ((k : Int) + (p : Int) < 0) := by omega
        have a2 : ¬ ((W.cps.toList.length : Int) < 0) := by omega
        have e1 : max (0 : Int) (min ((k : Int) + (p : Int)) (W.cps.toList.length : Int)) = W.cps.toList.length := by omega
        have e2 : max (0 : Int) (min (W.cps.toList.length : Int) (W.cps.toList.length : Int)) = W.cps.toList.length := by omega
        rw [hl]
        unfold Builtin.Str.strSliceIndices
        have p1 : (1 : Int) > 0 := by decide
        simp only [a1, a2, if_false, e1, e2, if_pos p1]
      rw [c]
    rw [e, StrLaws.sliceText_plain ⟨by omega, by omega, by omega⟩]
    have e1 : ((k : Nat) : Int).toNat = k := by omega
    have e2 : ((W.cps.toList.length : Int) - (k : Int)).toNat = W.cps.toList.length - k := by omega
    rw [e1, e2]
    have l1 : (W.cps.toList.drop k).take (W.cps.toList.length - k) = W.cps.toList.drop k := List.take_of_length_le (by simp)
    have l2 : (W.cps.toList.drop k).take p = W.cps.toList.drop k := List.take_of_length_le (by simp at h ⊢; omega)
    rw [l1, l2]
end

section
open PySem PySem.W PyProof.Rows PySem.Calls
set_option maxRecDepth 100000
set_option maxHeartbeats 0
open PyProof.Rows.LCg
theorem meant_short : ∀ k, k < 16 → (meant k).cps.toList.length ≤ 3 := by decide +kernel
/-- a row, off M -/
def RowM (h : Heap) (M : List Addr) (v : Value) (ws : List Way) : Prop := RowV h v ws ∧ ∀ a, v = .ref a → a ∉ M
theorem rowM_of {gB h : Heap} {M : List Addr} (k : ∀ b o, gB.get? b = some o → h.get? b = some o) (hn : ∀ a ∈ M, gB.get? a = none) {v : Value} {ws : List Way} (x : RowV gB v ws) : RowM h M v ws :=
  ⟨rowV_keep k x, fun a e hm => by obtain ⟨a', us, n, e', g, _⟩ := x; rw [e'] at e; cases e; rw [hn _ hm] at g; cases g⟩
section
variable {h₀ hh : Heap} {L l Rw Ro I J : Addr} {W : Str} {tw : Tok} {vs rvs ys r : List Value} {n nR nY k : Nat} {sh rest : List Itm3} {acc : List Way} {mm : Str → Option Value} {o2 o1 oI : Obj} {E : List (Addr × Obj)}
def WaysI (h₀ : Heap) (L l Rw I : Addr) (W : Str) (tw : Tok) (vs : List Value) (n : Nat) (sh : List Itm3) (k : Nat) (mm : Str → Option Value) (nw : List (Addr × Obj)) : Prop :=
  ∃ o2 o1, ∃ rvs : List Value, ∃ nR t gB, nw = (L + 1 + 1, o2) :: (L + 1, o1) :: (Rw, listOf rvs.toArray nR) :: (l, listOf vs.toArray n) :: t ∧ (∃ v, o2.data = .cell v) ∧ (∃ v, o1.data = .cell v) ∧
    mm (Str.ofString "rows") = some (.ref Rw) ∧ mm (Str.ofString "shop") = some (.ref l) ∧ mm (Str.ofString "word") = some (.str W tw) ∧ (∀ p ∈ t, p.1 ∉ [L, L + 1 + 1, L + 1, Rw, l, I]) ∧ Cov h₀ t gB ∧
    (∀ a o, gB.get? a = some o → a ∉ [L, L + 1 + 1, L + 1, Rw, l, I]) ∧ Al2 (RowV gB) rvs (rowsTo W.cps.toList (sh.map toSold) (W.cps.toList.length - k)) ∧ Al2 (KSC gB) vs sh ∧ (L + 1 + 1 : Nat) < I ∧ Rw < I ∧ l < I ∧ k ≤ W.cps.toList.length
theorem waysI_end (F : Fr h₀ L hh mm) (N : News h₀ L hh E) (hs : ∀ p ∈ (L + 1 + 1, o2) :: (L + 1, o1) :: (Rw, listOf rvs.toArray nR) :: [(l, listOf vs.toArray n)], p ∈ E) (d2 : ∃ v, o2.data = .cell v) (d1 : ∃ v, o1.data = .cell v)
    (m1 : mm (Str.ofString "rows") = some (.ref Rw)) (m2 : mm (Str.ofString "shop") = some (.ref l)) (m3 : mm (Str.ofString "word") = some (.str W tw)) (hI : ∀ o, hh.get? I = some o → o.cls ≠ .type "tuple")
    (hR : Al2 (RowM hh [L, L + 1 + 1, L + 1, Rw, l, I]) rvs (rowsTo W.cps.toList (sh.map toSold) (W.cps.toList.length - k))) (hk : Al2 (KSC hh) vs sh) (i1 : (L + 1 + 1 : Nat) < I) (i2 : Rw < I) (i3 : l < I) (hkl : k ≤ W.cps.toList.length) :
    ∃ nw, News h₀ L hh nw ∧ (∀ p ∈ nw, p.1 ≠ I) ∧ WaysI h₀ L l Rw I W tw vs n sh k mm nw := by
  have N1 := News.sub N hs
  obtain ⟨v2, d2⟩ := d2
  obtain ⟨v1, d1⟩ := d1
  have nt : NoTup hh [L, L + 1 + 1, L + 1, Rw, l, I] :=
    NoTup.consNs F.ns (NoTup.consD (N1 (_, o2) (.head _)).1 (fun xs n e => by rw [d2] at e; cases e) (NoTup.consD (N1 (_, o1) (.tail _ (.head _))).1 (fun xs n e => by rw [d1] at e; cases e)
      (NoTup.consL (N1 (Rw, _) (.tail _ (.tail _ (.head _)))).1 (by simp) (NoTup.consL (N1 (l, _) (.tail _ (.tail _ (.tail _ (.head _))))).1 (by simp)
        (fun b hb o eo hc _ => by rw [List.mem_singleton.mp hb] at eo; exact hI o eo hc)))))
  obtain ⟨t, gB, N2, off, cov, kt, kg, hg⟩ := backG F N1 (.head _) nt
  refine ⟨_, N2, fun p hp => ?_, o2, o1, rvs, nR, t, gB, rfl, ⟨_, d2⟩, ⟨_, d1⟩, m1, m2, m3, off, cov, hg, hR.mono fun _ _ x => rowV_back kt kg x.1 x.2, hk.mono fun _ _ => ksc_kt kt, i1, i2, i3, hkl⟩
  rcases List.mem_append.mp hp with hp | hp
  · rcases List.mem_cons.mp hp with rfl | hp
    · exact Nat.ne_of_lt i1
    rcases List.mem_cons.mp hp with rfl | hp
    · exact Nat.ne_of_lt (Nat.lt_trans (Nat.lt_succ_self _) i1)
    rcases List.mem_cons.mp hp with rfl | hp
    · exact Nat.ne_of_lt i2
    rw [List.mem_singleton.mp hp]; exact Nat.ne_of_lt i3
  · exact fun e => off p hp (by rw [e]; simp)
def RowI (h₀ : Heap) (L l Rw Ro I : Addr) (oI : Obj) (W : Str) (tw : Tok) (vs : List Value) (n : Nat) (rvs : List Value) (nR : Nat) (sh : List Itm3) (k : Nat) (r : List Value) (mm : Str → Option Value) (nw : List (Addr × Obj)) (J : Addr) : Prop :=
  ∃ o2 o1, ∃ ys : List Value, ∃ nY acc rest t gB, nw = (L + 1 + 1, o2) :: (L + 1, o1) :: (Ro, listOf ys.toArray nY) :: (Rw, listOf rvs.toArray nR) :: (I, oI) :: (l, listOf vs.toArray n) :: t ∧ (∃ v, o2.data = .cell v) ∧ (∃ v, o1.data = .cell v) ∧
    mm (Str.ofString "rows") = some (.ref Rw) ∧ mm (Str.ofString "shop") = some (.ref l) ∧ mm (Str.ofString "word") = some (.str W tw) ∧ mm (Str.ofString "row") = some (.ref Ro) ∧ (∃ tb, mm (Str.ofString "begin") = some (.int (k : Int) tb)) ∧
    (∀ p ∈ t, p.1 ∉ [L, L + 1 + 1, L + 1, Ro, Rw, I, l, J]) ∧ Cov h₀ t gB ∧
    (∀ a o, gB.get? a = some o → a ∉ [L, L + 1 + 1, L + 1, Ro, Rw, I, l, J]) ∧ Al2 (RowV gB) rvs (rowsTo W.cps.toList (sh.map toSold) (W.cps.toList.length - (k + 1))) ∧ Al2 (PairH gB) ys acc ∧ Al2 (KSC gB) vs sh ∧ Al2 (KSC gB) r rest ∧ (∀ e ∈ rest, e ∈ sh) ∧
    acc ++ rowOf W.cps.toList (rest.map toSold) (rowsTo W.cps.toList (sh.map toSold) (W.cps.toList.length - (k + 1))) (W.cps.toList.length - k) = rowOf W.cps.toList (sh.map toSold) (rowsTo W.cps.toList (sh.map toSold) (W.cps.toList.length - (k + 1))) (W.cps.toList.length - k) ∧
    (L + 1 + 1 : Nat) < J ∧ Ro < J ∧ Rw < J ∧ I < J ∧ l < J
theorem rowI_end (F : Fr h₀ L hh mm) (N : News h₀ L hh E) (hs : ∀ p ∈ (L + 1 + 1, o2) :: (L + 1, o1) :: (Ro, listOf ys.toArray nY) :: (Rw, listOf rvs.toArray nR) :: (I, oI) :: [(l, listOf vs.toArray n)], p ∈ E) (d2 : ∃ v, o2.data = .cell v) (d1 : ∃ v, o1.data = .cell v)
    (m1 : mm (Str.ofString "rows") = some (.ref Rw)) (m2 : mm (Str.ofString "shop") = some (.ref l)) (m3 : mm (Str.ofString "word") = some (.str W tw)) (m4 : mm (Str.ofString "row") = some (.ref Ro)) (m5 : ∃ tb, mm (Str.ofString "begin") = some (.int (k : Int) tb)) (cI : oI.cls = .type "range_iterator") (hJ : ∀ o, hh.get? J = some o → o.cls ≠ .type "tuple")
    (hR : Al2 (RowM hh [L, L + 1 + 1, L + 1, Ro, Rw, I, l, J]) rvs (rowsTo W.cps.toList (sh.map toSold) (W.cps.toList.length - (k + 1)))) (hA : Al2 (PairH hh) ys acc) (hk : Al2 (KSC hh) vs sh) (hr : Al2 (KSC hh) r rest) (hin : ∀ e ∈ rest, e ∈ sh)
    (e : acc ++ rowOf W.cps.toList (rest.map toSold) (rowsTo W.cps.toList (sh.map toSold) (W.cps.toList.length - (k + 1))) (W.cps.toList.length - k) = rowOf W.cps.toList (sh.map toSold) (rowsTo W.cps.toList (sh.map toSold) (W.cps.toList.length - (k + 1))) (W.cps.toList.length - k))
    (i1 : (L + 1 + 1 : Nat) < J) (i2 : Ro < J) (i3 : Rw < J) (i4 : I < J) (i5 : l < J) :
    ∃ nw, News h₀ L hh nw ∧ (∀ p ∈ nw, p.1 ≠ J) ∧ (l, listOf vs.toArray n) ∈ nw ∧ RowI h₀ L l Rw Ro I oI W tw vs n rvs nR sh k r mm nw J := by
  have N1 := News.sub N hs
  obtain ⟨v2, d2⟩ := d2
  obtain ⟨v1, d1⟩ := d1
  have nt : NoTup hh [L, L + 1 + 1, L + 1, Ro, Rw, I, l, J] :=
    NoTup.consNs F.ns (NoTup.consD (N1 (_, o2) (.head _)).1 (fun xs n e => by rw [d2] at e; cases e) (NoTup.consD (N1 (_, o1) (.tail _ (.head _))).1 (fun xs n e => by rw [d1] at e; cases e)
      (NoTup.consL (N1 (Ro, _) (.tail _ (.tail _ (.head _)))).1 (by simp) (NoTup.consL (N1 (Rw, _) (.tail _ (.tail _ (.tail _ (.head _))))).1 (by simp) (NoTup.consL (N1 (I, _) (.tail _ (.tail _ (.tail _ (.tail _ (.head _)))))).1 (by rw [cI]; simp) (NoTup.consL (N1 (l, _) (.tail _ (.tail _ (.tail _ (.tail _ (.tail _ (.head _))))))).1 (by simp)
        (fun b hb o eo hc _ => by rw [List.mem_singleton.mp hb] at eo; exact hJ o eo hc)))))))
  obtain ⟨t, gB, N2, off, cov, kt, kg, hg⟩ := backG F N1 (.head _) nt
  refine ⟨_, N2, fun p hp => ?_, .tail _ (.tail _ (.tail _ (.tail _ (.tail _ (.head _))))), o2, o1, ys, nY, acc, rest, t, gB, rfl, ⟨_, d2⟩, ⟨_, d1⟩, m1, m2, m3, m4, m5, off, cov, hg, hR.mono fun _ _ x => rowV_back kt kg x.1 x.2, hA.mono fun _ _ => pair_kt kt, hk.mono fun _ _ => ksc_kt kt, hr.mono fun _ _ => ksc_kt kt, hin, e, i1, i2, i3, i4, i5⟩
  rcases List.mem_append.mp hp with hp | hp
  · rcases List.mem_cons.mp hp with rfl | hp
    · exact Nat.ne_of_lt i1
    rcases List.mem_cons.mp hp with rfl | hp
    · exact Nat.ne_of_lt (Nat.lt_trans (Nat.lt_succ_self _) i1)
    rcases List.mem_cons.mp hp with rfl | hp
    · exact Nat.ne_of_lt i2
    rcases List.mem_cons.mp hp with rfl | hp
    · exact Nat.ne_of_lt i3
    rcases List.mem_cons.mp hp with rfl | hp
    · exact Nat.ne_of_lt i4
    rw [List.mem_singleton.mp hp]; exact Nat.ne_of_lt i5
  · exact fun e => off p hp (by rw [e]; simp)
end
section pure
variable (word : List Nat) (S : List Sold)
/-- no text of a row is longer than its place -/
theorem rows_len (hS : ∀ e ∈ S, e.sign.cps.size = 1 ∧ 0 < e.plain.cps.toList.length) : ∀ k, ∀ row, ∀ j, (rowsTo word S k)[j]? = some row → ∀ q : Way, q ∈ row → q.2.cps.size ≤ j
  | 0, row, j, hj, q, hq => by
    cases j with
    | zero => cases hj; rw [List.mem_singleton.mp hq]; exact Nat.le_refl _
    | succ j => cases hj
  | k + 1, row, j, hj, q, hq => by
    have hl : (rowsTo word S k).length = k + 1 := rowsTo_length word S k
    by_cases h : j < k + 1
    · rw [show rowsTo word S (k + 1) = rowsTo word S k ++ [rowOf word S (rowsTo word S k) (k + 1)] from rfl, List.getElem?_append_left (by omega)] at hj
      exact rows_len hS k row j hj q hq
    · have hj2 : j < (rowsTo word S (k + 1)).length := (List.getElem?_eq_some_iff.mp hj).1
      rw [rowsTo_length] at hj2
      obtain rfl : j = k + 1 := by omega
      rw [show rowsTo word S (k + 1) = rowsTo word S k ++ [rowOf word S (rowsTo word S k) (k + 1)] from rfl, List.getElem?_append_right (by omega), hl, Nat.sub_self] at hj
      cases hj
      obtain ⟨e, he, hq⟩ := List.mem_flatMap.mp hq
      obtain ⟨q', hq', rfl⟩ := List.mem_map.mp hq
      obtain ⟨s1, s2⟩ := hS e (List.mem_filter.mp he).1
      have : q'.2.cps.size ≤ k := by
        cases e1 : (rowsTo word S k)[k + 1 - e.plain.cps.toList.length]? with
        | none => rw [List.getD_eq_getElem?_getD, e1] at hq'; exact absurd hq' (by simp)
        | some row' =>
          rw [List.getD_eq_getElem?_getD, e1] at hq'
          exact Nat.le_trans (rows_len hS k row' _ e1 q' hq') (by omega)
      show (e.sign ++ q'.2).cps.size ≤ k + 1
      rw [Str.cps_append, Array.size_append, s1]
      omega
theorem rowOf_cons (e : Sold) (r : List Sold) (rows : List (List Way)) (k : Nat) : rowOf word (e :: r) rows k = (if meets word e (word.length - k) = true then ((rows.getD (k - e.plain.cps.toList.length) []).map fun q => (e.cost + q.1, e.sign ++ q.2)) else []) ++ rowOf word r rows k := by
  unfold rowOf
  by_cases h : meets word e (word.length - k) = true
  · rw [List.filter_cons_of_pos (p := fun e => meets word e (word.length - k)) h, List.flatMap_cons, if_pos h]
  · rw [List.filter_cons_of_neg (p := fun e => meets word e (word.length - k)) h, if_neg h, List.nil_append]
end pure
end

section
local macro_rules | `(tactic| walk_at "eval Name") => `(tactic| (k_here; (with_reducible show wpAny _ _ (eval (PySem.Expr.Name _ _) (envX _ _ _ _ _ _)) _ _ _); (with_reducible rename Fr _ _ _ _ => kF); (with_reducible rename News _ _ _ _ => kN); k_dflt (first
  | (refine' nmL kF ?k2 ?_; (case k2 => first | exact rfl | assumption); k_whole)
  | (refine' nmC kN ?c ?m ?d ?_; (case c => rfl); (case m => k_mem); (case d => assumption); k_whole)
  | (refine' nmG kF ?k1 ?k2 ?_; (case k1 => exact Top.g (by with_reducible assumption)); (case k2 => with_reducible first | exact Nm.push (by assumption) | exact Nm.pop (by assumption) | exact Nm.repl (by assumption) | exact Nm.b3 (by assumption) | exact Nm.meant (by assumption)); k_whole)
  | (refine' nmB kF ?k1 ?k2 ?k3 ?k4 ?_; (case k1 => exact Top.g (by with_reducible assumption)); (case k2 => with_reducible first | exact Nm.nlen (by assumption) | exact Nm.nint (by assumption) | exact Nm.nrange (by assumption) | exact Nm.nrev (by assumption) | exact Nm.nsorted (by assumption)); (case k3 => exact Top.b (by with_reducible assumption)); (case k4 => exact (Top.builtins (by with_reducible assumption) _ (by decide)).trans (by boot_by_name)); k_whole))))
local macro_rules | `(tactic| walk_at "eval Name") => `(tactic| (k_here; (with_reducible show wpAny _ _ (eval (PySem.Expr.Name _ _) (compEnvC _ _ _ _)) _ _ _); (with_reducible rename Fr _ _ _ _ => kF); (with_reducible rename News _ _ _ _ => kN); k_dflt (first
  | (refine' nmO kN ?m ?n ?k2 ?_; (case n => assumption); (case m => k_mem); (case k2 => exact rfl); k_whole)
  | (refine' nmC kN ?c ?m ?d ?_; (case c => rfl); (case m => k_mem); (case d => assumption); k_whole)
  | (refine' nmF kN ?c ?m ?d ?_; (case c => rfl); (case m => k_mem); (case d => assumption); k_whole)
  | (refine' nmG kF ?k1 ?k2 ?_; (case k1 => exact Top.g (by with_reducible assumption)); (case k2 => with_reducible first | exact Nm.push (by assumption) | exact Nm.pop (by assumption) | exact Nm.repl (by assumption) | exact Nm.b3 (by assumption) | exact Nm.meant (by assumption)); k_whole)
  | (refine' nmB kF ?k1 ?k2 ?k3 ?k4 ?_; (case k1 => exact Top.g (by with_reducible assumption)); (case k2 => with_reducible first | exact Nm.nlen (by assumption) | exact Nm.nint (by assumption) | exact Nm.nrange (by assumption) | exact Nm.nrev (by assumption) | exact Nm.nsorted (by assumption)); (case k3 => exact Top.b (by with_reducible assumption)); (case k4 => exact (Top.builtins (by with_reducible assumption) _ (by decide)).trans (by boot_by_name)); k_whole))))
local macro_rules | `(tactic| walk_at "storeName") => `(tactic| (k_here; (with_reducible show wpAny _ _ (storeName (envX _ _ _ _ _ _) _ _) _ _ _); (with_reducible rename Fr _ _ _ _ => kF); (with_reducible rename News _ _ _ _ => kN); k_dflt (refine' storeX_L kF kN ?_; k_whole); intro h' F' N'))
local macro_rules | `(tactic| walk_at "goA") => `(tactic| repeat' ((fail_if_success (with_reducible show wpAny _ _ (exec (Stmt.While _ _ _ _) _) _ _ _)); (fail_if_success (with_reducible show wpAny _ _ (exec (Stmt.For _ _ _ _ _) _) _ _ _)); (fail_if_success (with_reducible show wpAny _ _ (exec (Stmt.Assign _ (PySem.Expr.ListComp _ _ _ _) _) _) _ _ _)); (fail_if_success (with_reducible show wpAny _ _ (eval (PySem.Expr.ListComp _ _ _ _) _) _ _ _)); (fail_if_success (with_reducible show wpAny _ _ (call (Value.ref _) _) _ _ _)); (fail_if_success (with_reducible show wpAny _ _ (call (Value.builtin _) _) _ _ _)); (fail_if_success (with_reducible show wpAny _ _ (call (Value.type _) _) _ _ _)); (fail_if_success (with_reducible show wpAny _ _ (subscriptTail _ _ _ _) _ _ _)); (fail_if_success (with_reducible show wpAny _ _ (truthy _) _ _ _)); (fail_if_success (with_reducible show wpAny _ _ (assign (PySem.Expr.Tuple _ _ _) _ _) _ _ _)); (fail_if_success (with_reducible show wpAny _ _ (compareOp _ _ _) _ _ _)); walk1))
section
open PySem PySem.W PyProof.Rows PySem.Calls
set_option maxRecDepth 100000
set_option maxHeartbeats 0
open PyProof.Rows.LCg
theorem told_ok {prog : Program} {w : World} {A : Around} {E : Value → Shared → Prop} {s : Shared} {g : Heap} {mg mb : Str → Option Value} {l : Addr} {n : Nat} {W : Str} {tw : Tok} {vs : List Value} {sh : List Itm3} {out : List Way} {Q : Value → Shared → Prop}
    (G : GdAt mg mb g) (hg : ∀ b o, g.get? b = some o → s.heap.get? b = some o) (hlg : g.get? l = none) (hl : s.heap.get? l = some (listOf vs.toArray n)) (hdp : A.depth < 600) (hun : A.units < 6000) (hh : A.handled = none) (hvs : Al2 (KSC s.heap) vs sh) (hsh : ShopW sh) (hlen : sh.length ≤ 16)
    (hwt : wt W.cps.toList (sh.map toSold) W.cps.toList.length ≤ 2000) (hw : (ways W.cps.toList (sh.map toSold) W.cps.toList.length).length ≤ 63)
    (hout1 : out.Perm (ways W.cps.toList (sh.map toSold) W.cps.toList.length)) (hout2 : out.Pairwise wle)
    (hW : W.length ≤ 100) (hend : ∀ h' tk D ys n', (∀ b o, s.heap.get? b = some o → h'.get? b = some o) → h'.get? D = some (listOf ys.toArray n') → s.heap.get? D = none → Al2 (PairH h') ys out → Q (.ref D) { s with heap := h', toks := tk }) :
    wpAny (model prog w) A (call (.ref 126) [.str W tw, .ref l]) Q E s := by
  have Fn := G.fn_told
  generalize hD : fdAt 14 = d at Fn
  conv at hD => lhs; whnf
  subst hD
  obtain ⟨fo, pm, cdv, doc, ho, hd, hc⟩ := Fn
  k_dflt (refine' callFnC [(Str.ofString "word", .str W tw), (Str.ofString "shop", .ref l)] [(Str.ofString "done", s.heap.objs.size + 1 + 1 + 1 + 1), (Str.ofString "text", s.heap.objs.size + 1 + 1 + 1), (Str.ofString "price", s.heap.objs.size + 1 + 1), (Str.ofString "word", s.heap.objs.size + 1)] (fun y => if y = Str.ofString "shop" then some (.ref l) else none) (fun y => if y = Str.ofString "word" then some (.str W tw) else none) G hg hlg hl ho hd hc ?r ?b ?lo ?ce ?co ?ge ?k ?cl ?ml ?mc ?_; (case b => exact BindsTo.of_eq rfl); (case r => show A.depth < 1000; omega); (case lo => intro n9 x9 hx9; simp only [List.mem_cons, List.not_mem_nil, or_false] at hx9; rcases hx9 with rfl | rfl <;> first | exact .inl rfl | exact .inr ⟨rfl, rfl⟩); (case ce => decide); (case co => rfl); (case ge => rfl); (case k => rfl); (case cl => rfl); (case ml => rfl); (case mc => rfl))
  intro h₁ tk₁ cells F N Y hlL G'
  dsimp only
  clear hd hc ho
  have X : Frag.In [] (s.heap.hide l) := no_part
  have nm := G'.nms
  have fs := G'.fns
  obtain ⟨mean, T⟩ := G'.t
  w_on
  have hvs1 : Al2 (KSC (s.heap.hide l)) vs sh := hvs.mono fun _ _ => ksc_kt (NoTup.kt (M := [l]) (NoTup.consL hl (by simp) NoTup.nil))
  generalize hLs : s.heap.objs.size = L at F N Y hlL ⊢
  obtain ⟨o4, o3, o2, o1, rfl, d4, d3, d2, d1⟩ : ∃ o4 o3 o2 o1, cells = [(L + 1 + 1 + 1 + 1, o4), (L + 1 + 1 + 1, o3), (L + 1 + 1, o2), (L + 1, o1)] ∧ o4.data = .cell none ∧ o3.data = .cell none ∧ o2.data = .cell none ∧ o1.data = .cell (some (.str W tw)) := by
    cases Y with | cons d4 Y => cases Y with | cons d3 Y => cases Y with | cons d2 Y => cases Y with | cons d1 Y => cases Y; exact ⟨_, _, _, _, rfl, d4, d3, d2, d1⟩
  clear Y
  have N0 : News (s.heap.hide l) L h₁ ((L + 1 + 1 + 1 + 1, o4) :: (L + 1 + 1 + 1, o3) :: (L + 1 + 1, o2) :: (L + 1, o1) :: [(l, listOf vs.toArray n)]) := N
  clear N
  walk_at "goA"
  refine assignCompJ F (es := sh) (p := fun _ => true) (f := toSold) FoldH (fun _ _ _ _ k x => fold_kt k x) hh (by rfl) (by with_unfolding_all rfl) (by with_unfolding_all rfl) (by decide) (by rfl) (by decide) (by rfl) (by rfl) ?_
  walk_at "goA"
  with_reducible rename Fr _ _ _ _ => F1
  with_reducible rename News _ _ _ _ => N1
  have zl := N1 (l, listOf vs.toArray n) (by simp)
  refine ⟨l, vs, rfl, F1, ⟨_, zl.1, rfl, n, rfl⟩, zl.2.1, hvs1.length, by rw [hvs1.length]; omega, ?turn1, ?fin1⟩
  case turn1 =>
    intro i v e h tk C mC hv he F2 hk hn hC hCL hC₀ E'
    obtain ⟨e', he', hks⟩ := hvs1.get hv
    rw [he] at he'
    cases he'
    obtain ⟨k, sg, c⟩ := e
    obtain ⟨n0, hsg⟩ := hsh.sign _ (List.mem_of_getElem? he)
    have hk16 : k < 16 := hsh.kind _ (List.mem_of_getElem? he)
    dsimp only at hsg
    subst hsg
    obtain ⟨a, t1, t2, t3, rfl, ht⟩ := hks
    refine tupC3 hh (ht.keeps F2.keep) hn (by rfl) (by rfl) (by rfl) (by rfl) fun h2 tk2 hn2 hk2 => ?_
    refine wpAny_tests_nil ⟨rfl, ?_⟩
    rw [if_pos rfl]
    obtain ⟨oC, nC, F3, N3⟩ := turn0 F2 hn2 hk2 hCL hC₀
    have F2k := F2.keep
    clear F1 N1 F2
    walk_at "goA"
    with_reducible rename Fr _ _ _ _ => F4
    with_reducible rename News _ _ _ _ => N4
    refine b3_ok G' F4.keep (by show A.depth + 1 < 900; omega) hk16 fun h5 tk5 t5 hk5 => ?_
    have F5 := F4.keeps hk5
    have N5 := N4.grown hk5
    clear F4 N4
    try dsimp only
    walk_at "goA"
    all_goals (with_reducible rename Fr _ _ _ _ => F6)
    all_goals (with_reducible rename News _ _ _ _ => N6)
    · exact kp_end F6 N6 F2k (.tail _ (.head _)) nC (fun p hp => .tail _ (.tail _ hp))
    · exact ⟨_, _, _, _, rfl, N6.isTup (.head _)⟩
  case fin1 =>
    intro D1 ys1 h tk F2' hk hD hDn hDL hD0 hal h2 tk2 F2 hk2 hD2 _ _ _ hal2
    clear F1 F2' hk hal
    have N2 : News (s.heap.hide l) L h2 ((L + 1 + 1 + 1 + 1, o4) :: (L + 1 + 1 + 1, o3) :: (L + 1 + 1, o2) :: (L + 1, o1) :: (l, listOf vs.toArray n) :: [(D1, lst ys1)]) := by
      intro p hp
      have hp' : p ∈ [(L + 1 + 1 + 1 + 1, o4), (L + 1 + 1 + 1, o3), (L + 1 + 1, o2), (L + 1, o1), (l, listOf vs.toArray n)] ∨ p = (D1, lst ys1) := by
        simp only [List.mem_cons, List.not_mem_nil, or_false] at hp ⊢
        rcases hp with hp | hp | hp | hp | hp | hp <;> simp [hp]
      rcases hp' with hp | rfl
      · have z := N1 p hp
        exact ⟨hk2 _ _ z.2.1 z.1, z.2⟩
      · exact ⟨hD2, hDL, hD0⟩
    have hD1c : ∀ p ∈ [(L + 1 + 1 + 1 + 1, o4), (L + 1 + 1 + 1, o3), (L + 1 + 1, o2), (L + 1, o1), (l, listOf vs.toArray n)], p.1 ≠ D1 := fun p hp q => by
      have z := N1 p hp
      have hDn' : h₁.get? D1 = none := hDn
      rw [q, hDn'] at z
      cases z.1
    clear N1 hDn hD hk2
    try dsimp only
    walk_at "goA"
    generalize hS : (sh.filter fun _ => true).map toSold = S at hal2
    have hS' : S = sh.map toSold := by rw [← hS]; congr 1; exact List.filter_eq_self.mpr fun _ _ => rfl
    refine assignCompJ F2 (es := S) (p := fun e => !(Builtin.Str.occurrences W e.plain 0 W.length 1).isEmpty) (f := id) FoldH (fun _ _ _ _ k x => fold_kt k x) hh (by rfl) (by with_unfolding_all rfl) (by with_unfolding_all rfl) (by decide) (by rfl) (by decide) (by rfl) (by rfl) ?_
    walk_at "goA"
    with_reducible rename Fr _ _ _ _ => F3
    with_reducible rename News _ _ _ _ => N3
    have hSl : S.length ≤ 16 := by rw [hS', List.length_map]; exact hlen
    have zd := N3 (D1, lst ys1) (by simp)
    refine ⟨D1, ys1, rfl, F3, ⟨_, zd.1, rfl, _, rfl⟩, hDL, hal2.length, by rw [hal2.length]; omega, ?turn2, ?fin2⟩
    case turn2 =>
      intro i v e h tk C mC hv he F4 hk hn hC hCL hC₀ E'
      obtain ⟨e', he', hks⟩ := hal2.get hv
      rw [he] at he'
      cases he'
      have zw := N3 (L + 1, o1) (by simp)
      have hks2 : FoldH h v e := by
        obtain ⟨a, t1, t2, t3, e1, o, ho, hc, r⟩ := hks
        exact ⟨a, t1, t2, t3, e1, o, hk a o (fun q => by subst q; obtain ⟨o', es', ep, q1, q2, _⟩ := F3.ns; rw [q1] at ho; cases ho; obtain ⟨n', q3⟩ := r; rw [q2] at q3; cases q3) ho, hc, r⟩
      have hw1 := hk _ _ zw.2.1 zw.1
      have hwC : L + 1 ≠ C := fun q => by have hC' : h2.get? C = none := hC; rw [← q] at hC'; rw [zw.1] at hC'; cases hC'
      refine nameC hn (by rfl) (by rfl) fun h3 tk3 hn3 hk3 => ?_
      obtain ⟨oC, nC, F5, N5⟩ := turn0 F4 hn3 hk3 hCL hC₀
      have N5 := News.add N5 (hk3 _ _ hwC hw1) zw.2.1 zw.2.2
      obtain ⟨a, t1, t2, t3, rfl, ht⟩ := hks2
      have F4k := F4.keep
      have ht3 : IsTup h3 a #[.str e.plain t1, .str e.sign t2, .int e.cost t3] := tup_kt ht (fun b o hc hd x => hk3 b o (fun q => by
        subst q; obtain ⟨o', es', ep, q1, q2, _⟩ := hn; rw [q1] at x; cases x; obtain ⟨xs, n', q3⟩ := hd; rw [q2] at q3; cases q3) x)
      clear F3 N3 F4 zd
      refine wpAny_tests_one ?_
      walk_at "goA"
      try dsimp only
      refine tup_at (vs := [.str e.plain t1, .str e.sign t2, .int e.cost t3]) (k := 0) ht3 rfl (by show 3 < 10000; decide) rfl ?_
      walk_at "goA"
      refine in_str ?_
      generalize hX : (!(Builtin.Str.occurrences W e.plain 0 W.length 1).isEmpty) = X
      walk1
      refine And.intro rfl ?_
      cases X with
      | true =>
        rw [if_pos rfl]
        walk_at "goA"
        all_goals (with_reducible rename Fr _ _ _ _ => F6)
        all_goals (with_reducible rename News _ _ _ _ => N6)
        · exact kp_end F6 N6 F4k (.tail _ (.head _)) nC (fun p hp => .tail _ (.tail _ hp))
        · exact ⟨a, t1, t2, t3, rfl, ht3⟩
      | false =>
        rw [if_neg (by simp)]
        with_reducible rename Fr _ _ _ _ => F6
        with_reducible rename News _ _ _ _ => N6
        exact kp_end F6 N6 F4k (.tail _ (.head _)) nC (fun p hp => .tail _ (.tail _ hp))
    case fin2 =>
      intro D2 ys2 h tk F4' hk hD hDn hDL hD0 hal h4 tk4 F4 hk4 hD4 _ _ _ hal4
      clear F4' hk hal
      rw [List.map_id] at hal4
      generalize hS2 : S.filter (fun e => !(Builtin.Str.occurrences W e.plain 0 W.length 1).isEmpty) = S2 at hal4
      have N4 : News (s.heap.hide l) L h4 ((L + 1 + 1 + 1 + 1, o4) :: (L + 1 + 1 + 1, o3) :: (L + 1 + 1, o2) :: (L + 1, o1) :: (l, listOf vs.toArray n) :: [(D2, lst ys2)]) := by
        intro p hp
        have hp' : p ∈ [(L + 1 + 1 + 1 + 1, o4), (L + 1 + 1 + 1, o3), (L + 1 + 1, o2), (L + 1, o1), (l, listOf vs.toArray n), (D1, lst ys1)] ∨ p = (D2, lst ys2) := by
          simp only [List.mem_cons, List.not_mem_nil, or_false] at hp ⊢
          rcases hp with hp | hp | hp | hp | hp | hp <;> simp [hp]
        rcases hp' with hp | rfl
        · have z := N3 p hp
          exact ⟨hk4 _ _ z.2.1 z.1, z.2⟩
        · exact ⟨hD4, hDL, hD0⟩
      have hD2c : ∀ p ∈ [(L + 1 + 1 + 1 + 1, o4), (L + 1 + 1 + 1, o3), (L + 1 + 1, o2), (L + 1, o1), (l, listOf vs.toArray n)], p.1 ≠ D2 := fun p hp q => by
        have z := N3 p (by simp only [List.mem_cons, List.not_mem_nil, or_false] at hp ⊢; rcases hp with hp | hp | hp | hp | hp <;> simp [hp])
        have hDn' : h2.get? D2 = none := hDn
        rw [q, hDn'] at z
        cases z.1
      clear N3 F3 hDn hD hk4
      have hlL' : ∀ k : Nat, l ≠ L + k := fun k => Nat.ne_of_lt (Nat.lt_of_lt_of_le hlL (Nat.le_add_right L k))
      have hcs : ∀ c ∈ [L + 1 + 1 + 1 + 1, L + 1 + 1 + 1, L + 1 + 1], c ≠ L ∧ c ≠ D2 ∧ c ≠ l := by
        intro c hc
        simp only [List.mem_cons, List.not_mem_nil, or_false] at hc
        rcases hc with rfl | rfl | rfl
        · exact ⟨by omega, hD2c (_, o4) (by simp), (hlL' 4).symm⟩
        · exact ⟨by omega, hD2c (_, o3) (by simp), (hlL' 3).symm⟩
        · exact ⟨by omega, hD2c (_, o2) (by simp), (hlL' 2).symm⟩
      have nt4 : NoTup h4 [L, L + 1 + 1 + 1 + 1, L + 1 + 1 + 1, L + 1 + 1, L + 1] := by
        refine NoTup.consNs F4.ns (NoTup.consD (N4 (_, o4) (by simp)).1 (fun xs n e => by rw [d4] at e; cases e) (NoTup.consD (N4 (_, o3) (by simp)).1 (fun xs n e => by rw [d3] at e; cases e) (NoTup.consD (N4 (_, o2) (by simp)).1 (fun xs n e => by rw [d2] at e; cases e) (NoTup.consD (N4 (_, o1) (by simp)).1 (fun xs n e => by rw [d1] at e; cases e) NoTup.nil))))
      have hal5 := hal4.mono fun _ _ => fold_kt (NoTup.kt nt4)
      have cov4 : Cov (s.heap.hide l) (tl (s.heap.hide l) h4 [L, L + 1 + 1 + 1 + 1, L + 1 + 1 + 1, L + 1 + 1, L + 1]) (hideAll h4 [L, L + 1 + 1 + 1 + 1, L + 1 + 1 + 1, L + 1 + 1, L + 1]) := tl_cov F4.keep
      have gD2 : (hideAll h4 [L, L + 1 + 1 + 1 + 1, L + 1 + 1 + 1, L + 1 + 1, L + 1]).get? D2 = some (lst ys2) := hideAll_get _ hD4 (by
        simp only [List.mem_cons, List.not_mem_nil, or_false]
        rintro (q | q | q | q | q)
        · exact hDL q
        · exact hD2c (_, o4) (by simp) q.symm
        · exact hD2c (_, o3) (by simp) q.symm
        · exact hD2c (_, o2) (by simp) q.symm
        · exact hD2c (_, o1) (by simp) q.symm)
      have gl2 : (hideAll h4 [L, L + 1 + 1 + 1 + 1, L + 1 + 1 + 1, L + 1 + 1, L + 1]).get? l = some (listOf vs.toArray n) := hideAll_get _ (N4 (l, _) (by simp)).1 (by
        simp only [List.mem_cons, List.not_mem_nil, or_false]
        rintro (q | q | q | q | q)
        · exact hlL' 0 q
        · exact hlL' 4 q
        · exact hlL' 3 q
        · exact hlL' 2 q
        · exact hlL' 1 q)
      have N5 := tl_news (M := [L, L + 1 + 1 + 1 + 1, L + 1 + 1 + 1, L + 1 + 1, L + 1]) (.head _) (News.sub (E' := (L + 1 + 1 + 1 + 1, o4) :: (L + 1 + 1 + 1, o3) :: (L + 1 + 1, o2) :: [(L + 1, o1)]) N4 (by walk_at "mem"))
      have off5 : ∀ p ∈ tl (s.heap.hide l) h4 [L, L + 1 + 1 + 1 + 1, L + 1 + 1 + 1, L + 1 + 1, L + 1], p.1 ∉ [L, L + 1 + 1 + 1 + 1, L + 1 + 1 + 1, L + 1 + 1, L + 1] := fun p hp => tl_off hp
      generalize tl (s.heap.hide l) h4 [L, L + 1 + 1 + 1 + 1, L + 1 + 1 + 1, L + 1 + 1, L + 1] = t at N5 cov4 off5
      generalize hideAll h4 [L, L + 1 + 1 + 1 + 1, L + 1 + 1 + 1, L + 1 + 1, L + 1] = gB at hal5 cov4 gD2 gl2
      clear nt4 hal4 hD4 N4 hal2 hD1c
      have N5 : News (s.heap.hide l) L h4 ((L + 1 + 1 + 1 + 1, o4) :: (L + 1 + 1 + 1, o3) :: (L + 1 + 1, o2) :: (L + 1, o1) :: t) := N5
      try dsimp only
      walk_at "goA"
      rename_i Hp _ lHp Td _ lTd _ _ F6 N6 _
      refine unpackItemsN_ F6 N6 (N6.isTup (.head _)) hh (by rfl) ?_
      intro h7 F7 N7
      clear F6 N6
      try dsimp only
      walk_at "goA"
      rename_i Dt _ F8 N8 lDt
      have hHT : Hp ≠ Td := Nat.ne_of_lt lTd.1
      obtain ⟨_, lD8, lD9, _⟩ := lDt
      obtain ⟨lh4, lh3, lh2, lh1, lht⟩ := lHp
      obtain ⟨_, lt4, lt3, lt2, lt1, ltt⟩ := lTd
      have zH := N8 (Hp, listOf #[] 0) (.tail _ (.tail _ (.tail _ (.head _))))
      have zT := N8 (Td, listOf #[] 0) (.tail _ (.tail _ (.head _)))
      refine heappush_ok (l := Hp) (n := 0) (zs := []) (x := (.ref Dt, root)) G' F8.keep zH.2.2 zH.1 (by show A.depth + 1 < 700; omega) (by show A.units + 3 < 7000; omega) (fun _ hz => nomatch hz) (by decide) ⟨Dt, _, _, _, rfl, N8.isTup (.head _)⟩ fun h9 tk9 n9 hk9 hl9 => ?_
      have F9 := fr_after F8 zH.2.1 zH.2.2 hk9
      rw [show (sdown zlt 0 ((.ref Dt, root) : Z) ([] : List Z).length ([] ++ [(.ref Dt, root)])) = [(.ref Dt, root)] from sdown_stop (Nat.lt_irrefl 0)] at hl9
      have N9 : News (s.heap.hide l) L h9 ((Hp, listOf ([((.ref Dt, root) : Z)].map (·.1)).toArray n9) :: (Td, listOf #[] 0) :: (L + 1 + 1 + 1 + 1, o4) :: (L + 1 + 1 + 1, o3) :: (L + 1 + 1, o2) :: (L + 1, o1) :: t) := by
        refine news_after (News.sub (E' := (Hp, listOf #[] 0) :: (Td, listOf #[] 0) :: (L + 1 + 1 + 1 + 1, o4) :: (L + 1 + 1 + 1, o3) :: (L + 1 + 1, o2) :: (L + 1, o1) :: t) N8 (by walk_at "mem")) (fun p hp => ?_) hk9 hl9
        simp only [List.mem_cons] at hp
        rcases hp with rfl | rfl | rfl | rfl | rfl | hp
        · exact hHT.symm
        · exact Nat.ne_of_lt lh4
        · exact Nat.ne_of_lt lh3
        · exact Nat.ne_of_lt lh2
        · exact Nat.ne_of_lt lh1
        · exact Nat.ne_of_lt (AllLt.mem lht p hp)
      have k9 := cov4.keep F9 (News.sub N9 (by walk_at "mem"))
      have neg : ∀ a o, gB.get? a = some o → a ≠ Hp ∧ a ≠ Td := fun a o e => by
        rcases cov4 a o e with q | q
        · exact ⟨(fun x => by rw [x, zH.2.2] at q; cases q), (fun x => by rw [x, zT.2.2] at q; cases q)⟩
        · exact ⟨Nat.ne_of_lt (AllLt.mem lht _ q), Nat.ne_of_lt (AllLt.mem ltt _ q)⟩
      have nD2 : D2 ∉ [L, L + 1 + 1 + 1 + 1, L + 1 + 1 + 1, L + 1 + 1, L + 1, Hp, Td] := by
        simp only [List.mem_cons, List.not_mem_nil, or_false]
        rintro (q | q | q | q | q | q | q)
        · exact hDL q
        · exact hD2c (_, o4) (.head _) q.symm
        · exact hD2c (_, o3) (.tail _ (.head _)) q.symm
        · exact hD2c (_, o2) (.tail _ (.tail _ (.head _))) q.symm
        · exact hD2c (_, o1) (.tail _ (.tail _ (.tail _ (.head _)))) q.symm
        · exact (neg _ _ gD2).1 q
        · exact (neg _ _ gD2).2 q
      have nl2 : l ∉ [L, L + 1 + 1 + 1 + 1, L + 1 + 1 + 1, L + 1 + 1, L + 1, Hp, Td] := by
        simp only [List.mem_cons, List.not_mem_nil, or_false]
        rintro (q | q | q | q | q | q | q)
        · exact hlL' 0 q
        · exact hlL' 4 q
        · exact hlL' 3 q
        · exact hlL' 2 q
        · exact hlL' 1 q
        · exact (neg _ _ gl2).1 q
        · exact (neg _ _ gl2).2 q
      have lens : S2.length ≤ 16 := by rw [← hS2]; exact Nat.le_trans (List.length_filter_le _ _) hSl
      have SO : ShopOk S := by
        rw [hS']
        refine ⟨fun e he => ?_, fun e he => ?_, fun e he => ?_⟩
        · obtain ⟨x, hx, rfl⟩ := List.mem_map.mp he; exact meant_pos _ (hsh.kind x hx)
        · obtain ⟨x, hx, rfl⟩ := List.mem_map.mp he; exact (hsh.cost x hx).1
        · obtain ⟨x, hx, rfl⟩ := List.mem_map.mp he
          obtain ⟨n0, hn0⟩ := hsh.sign x hx
          show x.2.1.cps.size = 1 ∧ x.2.1.cps.all (· < 0x110000) = true
          rw [hn0]
          exact sign_chars _ _ (hsh.kind x hx)
      have qD := N8.isTup (.head _)
      have qD9 := (show IsTup h9 Dt _ from let ⟨o, ho, r⟩ := qD; ⟨o, hk9 Dt o (Nat.ne_of_gt lD9) ho, r⟩)
      have hzD : ∃ x y z, IsTup h9 Dt #[.int root.1 x, .str root.2.1 y, .int root.2.2 z] := ⟨_, _, _, qD9⟩
      clear qD qD9
      have J0 := toldI_end (l := l) (W := W) (tw := tw) (vs := vs) (n := n) (S := S) (s := s) (tk := tk9) (zs := [((.ref Dt, root) : Z)]) (ys := []) (told := []) (Hp := Hp) (Td := Td) (D2 := D2) F9 N9 (nH := n9) (nT := 0) (by walk_at "mem") ⟨_, d4⟩ ⟨_, d3⟩ ⟨_, d2⟩ d1 (by exact rfl) (by exact rfl) (by exact rfl) nD2 nl2 (k9 _ _ gD2) (k9 _ _ gl2) (hal5.mono fun _ _ => fold_kt (KT.of k9))
        (fun z hz => by rw [List.mem_singleton.mp hz]; obtain ⟨x, y, z, q⟩ := hzD; exact ⟨Dt, x, y, z, rfl, q⟩) trivial (inv_start _ _)
      clear N9 F9 hzD k9 hl9 hk9 N8 F8 zH zT off5 cov4 hal5 gD2 gl2 neg lht ltt
      try dsimp only
      refine wpAny_execs_cons ?_
      refine whileJ _ J0 ?_
      clear J0
      rintro k s' ⟨h, tk, m', o4, o3, o2, o1, zs, nH, ys, nT, told, t, gB, rfl, F1, N1, ⟨v4, d4⟩, ⟨v3, d3⟩, ⟨v2, d2⟩, d1, m1, m2, m3, off, cov, gD, gl, hf, hz, hp, I, rfl⟩
      have nHT := hHT
      have zlen : zs.length ≤ 2000 := by have q := (inv_length _ _ I).1; rw [List.length_map, hS'] at q; exact Nat.le_trans q hwt
      have tlen : told.length ≤ 63 := by have q := (inv_length _ _ I).2; rw [hS'] at q; exact Nat.le_trans q hw
      walk_at "goA"
      with_reducible rename Fr _ _ _ _ => F2
      with_reducible rename News _ _ _ _ => N2
      refine kgr_truthy N2 (.tail _ (.tail _ (.tail _ (.tail _ (.head _))))) rfl rfl (by rw [List.length_map]; omega) ?_
      try dsimp only
      have hWl : W.length = W.cps.toList.length := (Array.length_toList).symm
      cases zs with
      | nil =>
        rw [if_neg (by simp)]
        have et := inv_end W.cps.toList S I (by rw [hS']; exact hout1) hout2
        try dsimp only
        walk_at "goA"
        with_reducible rename Fr _ _ _ _ => F3
        with_reducible rename News _ _ _ _ => N3
        try dsimp only
        have k3 := cov.keep F3 (News.sub N3 (fun p hp => .tail _ (.tail _ (.tail _ (.tail _ (.tail _ (.tail _ hp)))))))
        have zT := N3 (Td, listOf ys.toArray nT) (.tail _ (.tail _ (.tail _ (.tail _ (.tail _ (.head _))))))
        refine hend _ _ Td ys nT (fun b o e => ?_) zT.1 ?_ (by rw [← et]; exact hp.mono fun _ _ => pair_kt (KT.of k3))
        · by_cases hb : b = l
          · subst hb; rw [hl] at e; cases e; exact k3 _ _ gl
          · exact F3.keep b o (by rw [Heap.hide_ne _ hb]; exact e)
        · have z := zT.2.2
          rwa [Heap.hide_ne _ (fun q => nl2 (by rw [← q]; simp))] at z
      | cons z0 r =>
        rw [if_pos (by simp)]
        obtain ⟨v0, p0, tx, d0⟩ := z0
        have O0 := I.ents (p0, tx, d0) (.head _)
        obtain ⟨dn, rfl⟩ : ∃ dn : Nat, d0 = (dn : Int) := ⟨d0.toNat, by have := O0.d0; dsimp only at this; omega⟩
        have hdn : dn ≤ W.cps.toList.length := by have := O0.d1; dsimp only at this; omega
        have htx : tx.length ≤ dn := by have := O0.t; dsimp only at this; exact Int.ofNat_le.mp this
        obtain ⟨a0, t1, t2, t3, e0, ht0⟩ := hz _ (.head _)
        dsimp only at e0 ht0
        subst e0
        try dsimp only
        walk_at "goA"
        with_reducible rename Fr _ _ _ _ => F3
        with_reducible rename News _ _ _ _ => N3
        refine itemI_at (k := 0) (vs := (((.ref a0, p0, tx, (dn : Int)) : Z) :: r).map (·.1)) (n := nH) (N3 (Hp, _) (.tail _ (.tail _ (.tail _ (.tail _ (.head _)))))).1 rfl rfl (by rw [List.length_map]; omega) ?_
        have k3 := cov.keep F3 (News.sub N3 (fun p hp => .tail _ (.tail _ (.tail _ (.tail _ (.tail _ (.tail _ hp)))))))
        walk_at "goA"
        try dsimp only
        refine tupCCC (c₁ := L + 1 + 1) (c₂ := L + 1 + 1 + 1) (c₃ := L + 1 + 1 + 1 + 1) hh (ht0.keeps k3) F3 N3 (fun p hp => ?_) (by refine neN ?_; omega) (by refine neN ?_; omega) (by refine neN ?_; omega) d2 d3 d4 rfl rfl rfl rfl rfl rfl rfl fun h4 o2' o3' o4' F4 N4 e2 e3 e4 => ?_
        · simp only [List.mem_cons] at hp
          rcases hp with rfl | rfl | rfl | hp
          · exact ⟨by refine neN ?_; dsimp only; omega, by refine neN ?_; dsimp only; omega, by refine neN ?_; dsimp only; omega⟩
          · exact ⟨Nat.ne_of_gt lh2, Nat.ne_of_gt lh3, Nat.ne_of_gt lh4⟩
          · exact ⟨Nat.ne_of_gt lt2, Nat.ne_of_gt lt3, Nat.ne_of_gt lt4⟩
          · have q := off p hp
            exact ⟨fun e => q (by rw [e]; simp), fun e => q (by rw [e]; simp), fun e => q (by rw [e]; simp)⟩
        clear F3 N3 k3 d2 d3 d4
        try dsimp only
        walk_at "goA"
        with_reducible rename Fr _ _ _ _ => F4
        with_reducible rename News _ _ _ _ => N4
        refine assignCompJ F4 (es := S2) (p := fun x => meets W.cps.toList x dn) (f := fun x => ((p0 + x.cost, tx ++ x.sign, (dn : Int) + (x.plain.cps.toList.length : Int)) : Ent)) TripH (fun _ _ _ _ k x => trip_kt x k) hh (by rfl) (by with_unfolding_all rfl) (by with_unfolding_all rfl) (by decide) (by rfl) (by decide) (by rfl) (by rfl) ?_
        walk_at "goA"
        with_reducible rename Fr _ _ _ _ => F5
        with_reducible rename News _ _ _ _ => N5
        have k5 := cov.keep F5 (News.sub N5 (fun p hp => .tail _ (.tail _ (.tail _ (.tail _ (.tail _ (.tail _ hp)))))))
        have nDL : D2 ≠ L := fun q => nD2 (by rw [q]; exact .head _)
        refine ⟨D2, ys2, rfl, F5, ⟨_, k5 _ _ gD, rfl, _, rfl⟩, nDL, hf.length, by rw [hf.length]; omega, ?turn3, ?fin3⟩
        case turn3 =>
          intro i v e hh5 tk5 C mC hv he F6 hk hn hC hCL hC₀ E'
          obtain ⟨e', he', hks⟩ := hf.get hv
          rw [he] at he'
          cases he'
          have zw1 := N5 (L + 1, o1) (.tail _ (.tail _ (.tail _ (.head _))))
          have zw2 := N5 (L + 1 + 1, o2') (.tail _ (.tail _ (.head _)))
          have zw3 := N5 (L + 1 + 1 + 1, o3') (.tail _ (.head _))
          have zw4 := N5 (L + 1 + 1 + 1 + 1, o4') (.head _)
          have hCn : ∀ a o, h4.get? a = some o → a ≠ C := fun a o e q => by have hC' : h4.get? C = none := hC; rw [q, hC'] at e; cases e
          obtain ⟨a, u1, u2, u3, rfl, ht⟩ := hks
          have hta : IsTup hh5 a #[.str e.plain u1, .str e.sign u2, .int e.cost u3] := tup_kt (ht.keeps k5) (fun b o hc hd x => hk b o (fun q => by
            subst q; obtain ⟨o', es', ep, q1, q2, _⟩ := F5.ns; rw [q1] at x; cases x; obtain ⟨xs, n', q3⟩ := hd; rw [q2] at q3; cases q3) x)
          refine tupC3 hh hta hn (by rfl) (by rfl) (by rfl) (by rfl) fun h7 tk7 hn7 hk7 => ?_
          obtain ⟨oC, nC, F7, N7⟩ := turn0 F6 hn7 hk7 hCL hC₀
          have N7 := News.add N7 (hk7 _ _ (hCn _ _ zw1.1) (hk _ _ zw1.2.1 zw1.1)) zw1.2.1 zw1.2.2
          have N7 := News.add N7 (hk7 _ _ (hCn _ _ zw2.1) (hk _ _ zw2.2.1 zw2.1)) zw2.2.1 zw2.2.2
          have N7 := News.add N7 (hk7 _ _ (hCn _ _ zw3.1) (hk _ _ zw3.2.1 zw3.1)) zw3.2.1 zw3.2.2
          have N7 := News.add N7 (hk7 _ _ (hCn _ _ zw4.1) (hk _ _ zw4.2.1 zw4.1)) zw4.2.1 zw4.2.2
          have F6k := F6.keep
          clear F5 N5 F6 zw1 zw2 zw3 zw4 k5
          refine wpAny_tests_one ?_
          walk_at "goA"
          try dsimp only
          refine SC.startswith3 ?_
          rw [starts_meets W e dn hdn]
          generalize hX : meets W.cps.toList e dn = X
          walk1
          refine And.intro hX.symm ?_
          have hes : e.sign.length = 1 := (SO.sign e (List.mem_filter.mp (by rw [hS2]; exact List.mem_of_getElem? he)).1).1
          cases X with
          | true =>
            rw [if_pos rfl]
            have hpe : e.plain.length = e.plain.cps.toList.length := (Array.length_toList).symm
            have hpl : e.plain.length ≤ 100 := by have q := meets_len _ hX; omega
            walk_at "goA"
            walk1
            walk_at "goA"
            rw [hpe] at *
            all_goals (with_reducible rename Fr _ _ _ _ => F8)
            all_goals (with_reducible rename News _ _ _ _ => N8)
            · exact kp_end F8 N8 F6k (.tail _ (.tail _ (.tail _ (.tail _ (.tail _ (.head _)))))) nC (fun p hp => .tail _ (.tail _ (.tail _ (.tail _ (.tail _ (.tail _ hp))))))
            · exact ⟨_, _, _, _, rfl, N8.isTup (.head _)⟩
          | false =>
            rw [if_neg (by simp)]
            with_reducible rename Fr _ _ _ _ => F8
            with_reducible rename News _ _ _ _ => N8
            exact kp_end F8 N8 F6k (.tail _ (.tail _ (.tail _ (.tail _ (.head _))))) nC (fun p hp => .tail _ (.tail _ (.tail _ (.tail _ (.tail _ hp)))))
        case fin3 =>
          intro D3 ys3 h6 tk6 F6' hk hD hDn hDL3 hD0 hal h7 tk7 F7 hk7 hD7 _ _ _ hal7
          clear F6' hk hal
          generalize hfur : (S2.filter fun x => meets W.cps.toList x dn).map (fun x => ((p0 + x.cost, tx ++ x.sign, (dn : Int) + (x.plain.cps.toList.length : Int)) : Ent)) = fur at hal7
          have efur : further W.cps.toList S (p0, tx, (dn : Int)) = fur := by
            rw [← hfur, ← hS2, occ_filter W S dn hdn]
            unfold further
            rw [Int.toNat_natCast]
          have N7 : News (s.heap.hide l) L h7 ((L + 1 + 1 + 1 + 1, o4') :: (L + 1 + 1 + 1, o3') :: (L + 1 + 1, o2') :: (L + 1, o1) :: (Hp, listOf ((((.ref a0, p0, tx, (dn : Int)) : Z) :: r).map (·.1)).toArray nH) :: (Td, listOf ys.toArray nT) :: (D3, lst ys3) :: t) := by
            intro p hp
            have hp' : p = (D3, lst ys3) ∨ p ∈ ((L + 1 + 1 + 1 + 1, o4') :: (L + 1 + 1 + 1, o3') :: (L + 1 + 1, o2') :: (L + 1, o1) :: (Hp, listOf ((((.ref a0, p0, tx, (dn : Int)) : Z) :: r).map (·.1)).toArray nH) :: (Td, listOf ys.toArray nT) :: t) := by
              revert hp
              simp only [List.mem_cons]
              intro hp
              rcases hp with hp | hp | hp | hp | hp | hp | hp | hp <;> simp only [hp, true_or, or_true]
            rcases hp' with rfl | hp'
            · exact ⟨hD7, hDL3, hD0⟩
            · have z := N5 p hp'
              exact ⟨hk7 _ _ z.2.1 z.1, z.2⟩
          have hD3n : ∀ a o, h4.get? a = some o → a ≠ D3 := fun a o e q => by have hD' : h4.get? D3 = none := hDn; rw [q, hD'] at e; cases e
          have nD3 : ∀ p ∈ ((L + 1 + 1 + 1 + 1, o4') :: (L + 1 + 1 + 1, o3') :: (L + 1 + 1, o2') :: (L + 1, o1) :: (Hp, listOf ((((.ref a0, p0, tx, (dn : Int)) : Z) :: r).map (·.1)).toArray nH) :: (Td, listOf ys.toArray nT) :: t), p.1 ≠ D3 := fun p hp => hD3n _ _ (N5 p hp).1
          have hn3 : fur.length ≤ 16 := by rw [← hfur, List.length_map]; exact Nat.le_trans (List.length_filter_le _ _) lens
          clear F5 N5 hD hDn hk7 hD7 k5 hD3n
          have offH : ∀ p ∈ ((L + 1 + 1 + 1 + 1, o4') :: (L + 1 + 1 + 1, o3') :: (L + 1 + 1, o2') :: (L + 1, o1) :: (Td, listOf ys.toArray nT) :: t), p.1 ≠ Hp := fun p hp => by
            simp only [List.mem_cons] at hp
            rcases hp with rfl | rfl | rfl | rfl | rfl | hp
            · exact Nat.ne_of_lt lh4
            · exact Nat.ne_of_lt lh3
            · exact Nat.ne_of_lt lh2
            · exact Nat.ne_of_lt lh1
            · exact nHT.symm
            · exact fun e => off p hp (by rw [e]; simp)
          have offT : ∀ p ∈ ((L + 1 + 1 + 1 + 1, o4') :: (L + 1 + 1 + 1, o3') :: (L + 1 + 1, o2') :: [(L + 1, o1)]), p.1 ≠ Td := fun p hp => by
            simp only [List.mem_cons, List.not_mem_nil, or_false] at hp
            rcases hp with rfl | rfl | rfl | rfl
            · exact Nat.ne_of_lt lt4
            · exact Nat.ne_of_lt lt3
            · exact Nat.ne_of_lt lt2
            · exact Nat.ne_of_lt lt1
          have offTt : ∀ p ∈ t, p.1 ≠ Td := fun p hp e => off p hp (by rw [e]; simp)
          have HZ : HeapL zlt (((.ref a0, p0, tx, (dn : Int)) : Z) :: r) := heapZ.mp I.heap
          have hmin := min_ok HZ
          try dsimp only
          walk_at "goA"
          walk1
          walk_at "goA"
          walk1
          walk1
          walk_at "goA"
          · have hdone := ‹(dn : Int) = (W.length : Int)›
            with_reducible rename Fr _ _ _ _ => F8
            with_reducible rename News _ _ _ _ => N8
            have k8 := cov.keep F8 (News.sub N8 (fun p hp => .tail _ (.tail _ (.tail _ (.tail _ (.tail _ (.tail _ (.tail _ hp))))))))
            have zH := N8 (Hp, _) (.tail _ (.tail _ (.tail _ (.tail _ (.head _)))))
            refine heappop_ok (l := Hp) (n := nH) (zs := ((.ref a0, p0, tx, (dn : Int)) : Z) :: r) (z0 := (.ref a0, p0, tx, (dn : Int))) (r := r) G' F8.keep zH.2.2 zH.1 (by show A.depth + 1 < 700; omega) (by show A.units + 3 < 7000; omega) (fun z hz' => (hz z hz').keeps k8) (by omega) rfl fun h10 tk10 n10 hk10 hl10 => ?_
            have F10 := fr_after F8 zH.2.1 zH.2.2 hk10
            have N10 := news_after (News.sub (E' := (Hp, listOf ((((.ref a0, p0, tx, (dn : Int)) : Z) :: r).map (·.1)).toArray nH) :: (L + 1 + 1 + 1 + 1, o4') :: (L + 1 + 1 + 1, o3') :: (L + 1 + 1, o2') :: (L + 1, o1) :: (Td, listOf ys.toArray nT) :: t) N8 (by walk_at "mem")) offH hk10 hl10
            clear F8 N8 zH k8
            obtain ⟨HP, PP⟩ := popH_ok HZ
            try dsimp only
            walk_at "goA"
            try dsimp only
            have k10 := cov.keep F10 (News.sub N10 (fun p hp => .tail _ (.tail _ (.tail _ (.tail _ (.tail _ (.tail _ hp)))))))
            refine slice2 (s := { s with heap := h10, toks := _ }) F10 N10 (ht0.keeps k10) fun Dn h11 F11 N11 lDn => ?_
            have lH := lDn (Hp, _) (.head _)
            have lT := lDn (Td, listOf ys.toArray nT) (.tail _ (.tail _ (.tail _ (.tail _ (.tail _ (.head _))))))
            clear F10 N10 k10 hk10 hl10 lDn
            try dsimp only
            walk_at "goA"
            with_reducible rename Fr _ _ _ _ => F12
            with_reducible rename News _ _ _ _ => N12
            try dsimp only
            have N13 := News.sub (E' := (Td, listOf ys.toArray nT) :: (Dn, _) :: (L + 1 + 1 + 1 + 1, o4') :: (L + 1 + 1 + 1, o3') :: (L + 1 + 1, o2') :: (L + 1, o1) :: (Hp, listOf ((popH ((.ref a0, p0, tx, (dn : Int)) : Z) r).map (·.1)).toArray n10) :: t) N12 (by walk_at "mem")
            refine app_head F12 N13 (fun p hp => ?_) (by rw [hp.length]; omega) fun h13 F13 N13' => ?_
            · rcases List.mem_cons.mp hp with rfl | hp
              · exact Nat.ne_of_gt lT
              rcases List.mem_cons.mp hp with rfl | hp
              · exact offT (_, o4') (.head _)
              rcases List.mem_cons.mp hp with rfl | hp
              · exact offT (_, o3') (.tail _ (.head _))
              rcases List.mem_cons.mp hp with rfl | hp
              · exact offT (_, o2') (.tail _ (.tail _ (.head _)))
              rcases List.mem_cons.mp hp with rfl | hp
              · exact offT (_, o1) (.tail _ (.tail _ (.tail _ (.head _))))
              rcases List.mem_cons.mp hp with rfl | hp
              · exact nHT
              exact offTt p hp
            clear N13 N12
            try dsimp only
            walk_at "goA"
            with_reducible rename Fr _ _ _ _ => F14
            have k14 := cov.keep F14 (News.sub N13' (fun p hp => .tail _ (.tail _ (.tail _ (.tail _ (.tail _ (.tail _ (.tail _ hp))))))))
            have permI : (((.ref a0, p0, tx, (dn : Int)) : Z) :: r).map (·.2) |>.Perm ((p0, tx, (dn : Int)) :: (popH ((.ref a0, p0, tx, (dn : Int)) : Z) r).map (·.2)) := ((List.Perm.map (fun z : Z => z.2) PP).symm).cons _
            obtain ⟨I2, hlt⟩ := inv_done W.cps.toList S SO I permI hmin (heapZ.mpr HP) (by rw [← hWl]; exact hdone)
            refine ⟨_, ?_, toldI_end F14 N13' (Hp := Hp) (Td := Td) (zs := popH ((.ref a0, p0, tx, (dn : Int)) : Z) r) (ys := ys ++ [.ref Dn]) (told := told ++ [(p0, tx)]) (by walk_at "mem") ⟨_, e4⟩ ⟨_, e3⟩ ⟨_, e2⟩ d1 (by exact m1) (by exact m2) (by exact m3) nD2 nl2 (k14 _ _ gD) (k14 _ _ gl) (hf.mono fun _ _ => fold_kt (KT.of k14)) (fun z hz' => (hz z (.tail _ (PP.mem_iff.mp hz'))).keeps k14) ((hp.mono fun _ _ => pair_kt (KT.of k14)).snoc ⟨Dn, _, _, rfl, N13'.isTup (.tail _ (.head _))⟩) I2⟩
            omega
          · have hdone := ‹(dn : Int) ≠ (W.length : Int)›
            with_reducible rename Fr _ _ _ _ => F8
            with_reducible rename News _ _ _ _ => N8
            have zD := N8 (D3, lst ys3) (.tail _ (.tail _ (.tail _ (.tail _ (.tail _ (.tail _ (.head _)))))))
            refine kgr_truthy N8 (.tail _ (.tail _ (.tail _ (.tail _ (.tail _ (.tail _ (.head _))))))) rfl rfl (by rw [hal7.length]; omega) ?_
            have k8 := cov.keep F8 (News.sub N8 (fun p hp => .tail _ (.tail _ (.tail _ (.tail _ (.tail _ (.tail _ (.tail _ hp))))))))
            have zH := N8 (Hp, _) (.tail _ (.tail _ (.tail _ (.tail _ (.head _)))))
            cases ys3 with
            | nil =>
              rw [if_neg (by simp)]
              have hf0 : fur = [] := by cases fur with | nil => rfl | cons _ _ => exact hal7.elim
              try dsimp only
              walk_at "goA"
              with_reducible rename Fr _ _ _ _ => F8
              refine heappop_ok (l := Hp) (n := nH) (zs := ((.ref a0, p0, tx, (dn : Int)) : Z) :: r) (z0 := (.ref a0, p0, tx, (dn : Int))) (r := r) G' F8.keep zH.2.2 zH.1 (by show A.depth + 1 < 700; omega) (by show A.units + 3 < 7000; omega) (fun z hz' => (hz z hz').keeps k8) (by omega) rfl fun h10 tk10 n10 hk10 hl10 => ?_
              with_reducible rename News _ _ _ _ => N8
              have F10 := fr_after F8 zH.2.1 zH.2.2 hk10
              have N10 := news_after (News.sub (E' := (Hp, listOf ((((.ref a0, p0, tx, (dn : Int)) : Z) :: r).map (·.1)).toArray nH) :: (L + 1 + 1 + 1 + 1, o4') :: (L + 1 + 1 + 1, o3') :: (L + 1 + 1, o2') :: (L + 1, o1) :: (Td, listOf ys.toArray nT) :: t) N8 (by walk_at "mem")) offH hk10 hl10
              clear F8 N8 zH k8
              obtain ⟨HP, PP⟩ := popH_ok HZ
              try dsimp only
              walk_at "goA"
              with_reducible rename Fr _ _ _ _ => F14
              with_reducible rename News _ _ _ _ => N14
              have k14 := cov.keep F14 (News.sub N14 (fun p hp => .tail _ (.tail _ (.tail _ (.tail _ (.tail _ (.tail _ hp)))))))
              obtain ⟨I2, hlt⟩ := inv_further W.cps.toList S (ts := ((((.ref a0, p0, tx, (dn : Int)) : Z) :: r).map (·.2))) (ts' := (popH ((.ref a0, p0, tx, (dn : Int)) : Z) r).map (·.2)) (rest := r.map (·.2)) (e := (p0, tx, (dn : Int))) SO I (List.Perm.refl _) (by rw [efur, hf0]; exact List.Perm.map (fun z : Z => z.2) PP) (heapZ.mpr HP) (by rw [← hWl]; exact hdone)
              refine ⟨_, ?_, toldI_end F14 N14 (Hp := Hp) (Td := Td) (zs := popH ((.ref a0, p0, tx, (dn : Int)) : Z) r) (ys := ys) (told := told) (by walk_at "mem") ⟨_, e4⟩ ⟨_, e3⟩ ⟨_, e2⟩ d1 (by exact m1) (by exact m2) (by exact m3) nD2 nl2 (k14 _ _ gD) (k14 _ _ gl) (hf.mono fun _ _ => fold_kt (KT.of k14)) (fun z hz' => (hz z (.tail _ (PP.mem_iff.mp hz'))).keeps k14) (hp.mono fun _ _ => pair_kt (KT.of k14)) I2⟩
              exact Nat.lt_of_succ_le (Nat.le_of_eq hlt)
            | cons v1 ysr =>
              rw [if_pos (by simp)]
              cases fur with
              | nil => exact hal7.elim
              | cons f1 furR =>
              obtain ⟨hv1, halR⟩ := hal7
              try dsimp only
              walk_at "goA"
              with_reducible rename Fr _ _ _ _ => F8
              with_reducible rename News _ _ _ _ => N8
              refine itemI_at (k := 0) (vs := v1 :: ysr) (n := (v1 :: ysr).length) zD.1 rfl rfl (by have q := halR.length; show ysr.length + 1 < 10000; have q2 : furR.length + 1 ≤ 16 := hn3; omega) ?_
              walk_at "goA"
              try dsimp only
              with_reducible rename Fr _ _ _ _ => F9
              with_reducible rename News _ _ _ _ => N9
              refine heapreplace_ok (l := Hp) (n := nH) (zs := ((.ref a0, p0, tx, (dn : Int)) : Z) :: r) (z0 := (.ref a0, p0, tx, (dn : Int))) (x := (v1, f1)) G' F9.keep zH.2.2 zH.1 (by show A.depth + 1 < 700; omega) (by show A.units + 3 < 7000; omega) (fun z hz' => (hz z hz').keeps k8) (by omega) hv1 rfl fun h10 tk10 hk10 hl10 => ?_
              have F10 := fr_after F9 zH.2.1 zH.2.2 hk10
              have N10 := news_after (News.sub (E' := (Hp, listOf ((((.ref a0, p0, tx, (dn : Int)) : Z) :: r).map (·.1)).toArray nH) :: (L + 1 + 1 + 1 + 1, o4') :: (L + 1 + 1 + 1, o3') :: (L + 1 + 1, o2') :: (L + 1, o1) :: (Td, listOf ys.toArray nT) :: t) N9 (by walk_at "mem")) offH hk10 hl10
              have hD3Hp : D3 ≠ Hp := (nD3 (Hp, _) (.tail _ (.tail _ (.tail _ (.tail _ (.head _)))))).symm
              have N10 := News.add N10 (hk10 D3 _ hD3Hp zD.1) zD.2.1 zD.2.2
              have k9 : ∀ v e, TripH h7 v e → TripH h10 v e := fun v e x => trip_kt x (fun b o hc hd eo => hk10 b o (fun q => by rw [q, zH.1] at eo; cases eo; simp at hc) eo)
              have hv1' := k9 _ _ hv1
              have halR' := halR.mono k9
              obtain ⟨HR, PR⟩ := repl_ok (x := ((v1, f1) : Z)) HZ
              have k10 := cov.keep F10 (News.sub N10 (fun p hp => .tail _ (.tail _ (.tail _ (.tail _ (.tail _ (.tail _ (.tail _ hp))))))))
              have gD3 : h10.get? D3 = some (lst (v1 :: ysr)) := hk10 D3 _ hD3Hp zD.1
              generalize sift0 zlt ((v1, f1) : Z) ((((.ref a0, p0, tx, (dn : Int)) : Z) :: r).set 0 (v1, f1)) = zs1 at N10 HR PR
              have hz1 : ∀ z ∈ zs1, TripH h10 z.1 z.2 := fun z hz' => by
                rcases List.mem_cons.mp (PR.mem_iff.mp hz') with rfl | hz''
                · exact hv1'
                · exact (hz z (.tail _ hz'')).keeps k10
              have ht0' := ht0.keeps k10
              have gD' := k10 _ _ gD
              have gl' := k10 _ _ gl
              have hf' := hf.mono fun _ _ => fold_kt (KT.of k10)
              have hp' := hp.mono fun _ _ => pair_kt (KT.of k10)
              have nD3' : D3 ∉ [L, L + 1 + 1 + 1 + 1, L + 1 + 1 + 1, L + 1 + 1, L + 1, Hp, Td] := by
                simp only [List.mem_cons, List.not_mem_nil, or_false]
                rintro (q | q | q | q | q | q | q)
                · exact hDL3 q
                · exact nD3 (_, o4') (.head _) q.symm
                · exact nD3 (_, o3') (.tail _ (.head _)) q.symm
                · exact nD3 (_, o2') (.tail _ (.tail _ (.head _))) q.symm
                · exact nD3 (_, o1) (.tail _ (.tail _ (.tail _ (.head _)))) q.symm
                · exact hD3Hp q
                · exact nD3 (Td, _) (.tail _ (.tail _ (.tail _ (.tail _ (.tail _ (.head _)))))) q.symm
              obtain ⟨t2, gB2, N11, off2, cov2, kt2, kg2⟩ := back (Hp := Hp) (Td := Td) (o4 := o4') (o3 := o3') (o2 := o2') (o1 := o1) (oH := listOf (zs1.map (·.1)).toArray nH) (oT := listOf ys.toArray nT) F10 N10 (by walk_at "mem") ⟨_, e4⟩ ⟨_, e3⟩ ⟨_, e2⟩ ⟨_, d1⟩ rfl rfl
              have gD := kg2 _ _ nD2 gD'
              have gl := kg2 _ _ nl2 gl'
              have gD3 := kg2 _ _ nD3' gD3
              have hf := hf'.mono fun _ _ => fold_kt kt2
              have hp := hp'.mono fun _ _ => pair_kt kt2
              have hz1 : ∀ z ∈ zs1, TripH gB2 z.1 z.2 := fun z h => trip_kt (hz1 z h) kt2
              have halR := halR'.mono fun _ _ x => trip_kt x kt2
              have ht0 := tup_kt ht0' kt2
              clear F9 N9 zH zD k8 hv1 hv1' halR' k9 hl10 hk10 N10 hz k10 ht0' gD' gl' hf' hp' kt2 kg2 cov off
              try dsimp only
              walk_at "goA"
              rename_i D9 h11 F11 N11 lD9
              have k11 := cov2.keep F11 (News.sub N11 (fun p hp => .tail _ (.tail _ (.tail _ (.tail _ (.tail _ (.tail _ (.tail _ hp))))))))
              refine trip_ne (e := (p0, tx, (dn : Int))) (by show A.units + 3 < 9900; omega) ⟨a0, _, _, _, rfl, ht0.keeps k11⟩ ⟨D9, _, _, _, rfl, N11.isTup (.head _)⟩ ?_
              walk1
              walk_at "goA"
              with_reducible rename Fr _ _ _ _ => F12
              with_reducible rename News _ _ _ _ => N12
              refine For_turns F12 ?_
              walk_at "goA"
              with_reducible rename Fr _ _ _ _ => F12
              with_reducible rename News _ _ _ _ => N12
              try dsimp only
              have hysr : ysr.length ≤ 15 := by have q := halR.length; have q2 : furR.length + 1 ≤ 16 := hn3; omega
              refine slice_list (s := { s with heap := h11, toks := _ }) (items := (v1 :: ysr).toArray) (lo := some 1) (hi := none) F12 N12 ⟨_, k11 _ _ gD3, rfl, _, rfl⟩ (.int 1 _) .none (fun h13 F13 N13 => ?_) (subs_slice _ _ _ _ _) (fun _ => rfl) (by rw [List.size_toArray, sizeLine_eq]; show ysr.length + 1 ≤ _; omega)
              rw [pick1] at N13
              have ltS : ∀ p ∈ ((D9, _) :: (L + 1 + 1 + 1 + 1, o4') :: (L + 1 + 1 + 1, o3') :: (L + 1 + 1, o2') :: (L + 1, o1) :: (Hp, listOf (zs1.map (·.1)).toArray nH) :: (Td, listOf ys.toArray nT) :: t2), @LT.lt Nat _ p.1 (h11.objs.size + 1) := fun p hp => Nat.lt_succ_of_lt (Heap.lt_size (N12 p hp).1)
              try dsimp only at N13 ⊢
              have ltD2 : @LT.lt Nat _ D2 (h11.objs.size + 1) := Nat.lt_succ_of_lt (Heap.lt_size (k11 _ _ gD))
              have ltl : @LT.lt Nat _ l (h11.objs.size + 1) := Nat.lt_succ_of_lt (Heap.lt_size (k11 _ _ gl))
              generalize h11.objs.size + 1 = DS at N13 ltS ltD2 ltl ⊢
              have N14 := News.sub (E' := (L + 1 + 1 + 1 + 1, o4') :: (L + 1 + 1 + 1, o3') :: (L + 1 + 1, o2') :: (L + 1, o1) :: (Hp, listOf (zs1.map (·.1)).toArray nH) :: (Td, listOf ys.toArray nT) :: (DS, { cls := .type "list", data := .seq ysr.toArray }) :: t2) N13 (by walk_at "mem")
              clear N13 N12 F12 k11 lD9
              refine listJ (ax := DS) (lo := { cls := .type "list", data := .seq ysr.toArray }) (vs := ysr) (PushI (s.heap.hide l) L l Hp Td D2 DS vs n ys2 S2 o4' o3' o2' o1 { cls := .type "list", data := .seq ysr.toArray } ys nT told (f1 :: furR) (r.map (·.2))) hh F13 N14 (.tail _ (.tail _ (.tail _ (.tail _ (.tail _ (.tail _ (.head _))))))) rfl rfl ?start ?stop ?step
              case start =>
                intro I5 hI5
                refine ⟨zs1, nH, [f1], furR, t2, gB2, rfl, m1, m2, m3, fun p hp => ?_, cov2, gD, gl, hf, hz1, hp, halR, HR, ?_, rfl, ?_, hI5 (_, o4') (.head _), hI5 (Hp, _) (.tail _ (.tail _ (.tail _ (.tail _ (.head _))))), hI5 (Td, _) (.tail _ (.tail _ (.tail _ (.tail _ (.tail _ (.head _)))))), hI5 (DS, _) (.tail _ (.tail _ (.tail _ (.tail _ (.tail _ (.tail _ (.head _)))))))⟩
                · intro q
                  have q1 := off2 p hp
                  have q2 := ltS p (.tail _ (.tail _ (.tail _ (.tail _ (.tail _ (.tail _ (.tail _ hp)))))))
                  have q3 := hI5 p (.tail _ (.tail _ (.tail _ (.tail _ (.tail _ (.tail _ (.tail _ hp)))))))
                  simp only [List.mem_cons, List.not_mem_nil, or_false] at q q1
                  rcases q with q | q | q | q | q | q | q | q | q
                  · exact q1 (.inl q)
                  · exact q1 (.inr (.inl q))
                  · exact q1 (.inr (.inr (.inl q)))
                  · exact q1 (.inr (.inr (.inr (.inl q))))
                  · exact q1 (.inr (.inr (.inr (.inr (.inl q)))))
                  · exact q1 (.inr (.inr (.inr (.inr (.inr (.inl q))))))
                  · exact q1 (.inr (.inr (.inr (.inr (.inr (.inr q))))))
                  · rw [q] at q2; exact Nat.lt_irrefl _ q2
                  · rw [q] at q3; exact Nat.lt_irrefl _ q3
                · exact List.Perm.map (fun z : Z => z.2) PR
                · have := PR.length_eq
                  rw [List.length_map]
                  show zs1.length = 1 + r.length
                  rw [this, List.length_cons]; omega
              case stop =>
                rintro I5 mm nw h15 tk15 ⟨zs5, nH5, dn5, rf5, t5, gB5, rfl, b1, b2, b3, off5, cov5, gD5, gl5, hf5, hz5, hp5, hr5, H5, P5, e5, len5, i1, i2, i3, i4⟩ F15 N15
                clear F13 N14
                have F16 : Fr (s.heap.hide l) L h15 mm := F15
                have N16 : News (s.heap.hide l) L h15 ((L + 1 + 1 + 1 + 1, o4') :: (L + 1 + 1 + 1, o3') :: (L + 1 + 1, o2') :: (L + 1, o1) :: (Hp, listOf (zs5.map (·.1)).toArray nH5) :: (Td, listOf ys.toArray nT) :: (DS, { cls := .type "list", data := .seq ysr.toArray }) :: t5) := N15
                clear F15 N15
                cases rf5 with
                | cons _ _ => exact hr5.elim
                | nil =>
                rw [List.append_nil] at e5
                subst e5
                try dsimp only
                walk_at "goA"
                have k16 := cov5.keep F16 (News.sub N16 (fun p hp => .tail _ (.tail _ (.tail _ (.tail _ (.tail _ (.tail _ (.tail _ hp))))))))
                obtain ⟨I2, hlt⟩ := inv_further W.cps.toList S (ts := ((((.ref a0, p0, tx, (dn : Int)) : Z) :: r).map (·.2))) (ts' := zs5.map (·.2)) (rest := r.map (·.2)) (e := (p0, tx, (dn : Int))) SO I (List.Perm.refl _) (by rw [efur]; exact P5) (heapZ.mpr H5) (by rw [← hWl]; exact hdone)
                refine ⟨_, ?_, toldI_end F16 N16 (Hp := Hp) (Td := Td) (zs := zs5) (ys := ys) (told := told) (by walk_at "mem") ⟨_, e4⟩ ⟨_, e3⟩ ⟨_, e2⟩ d1 b1 b2 b3 nD2 nl2 (k16 _ _ gD5) (k16 _ _ gl5) (hf5.mono fun _ _ => fold_kt (KT.of k16)) (fun z hz' => (hz5 z hz').keeps k16) (hp5.mono fun _ _ => pair_kt (KT.of k16)) I2⟩
                exact Nat.lt_of_succ_le (Nat.le_of_eq hlt)
              case step =>
                rintro I5 v5 r5 mm nw ⟨zs5, nH5, dn5, rf5, t5, gB5, rfl, b1, b2, b3, off5, cov5, gD5, gl5, hf5, hz5, hp5, hr5, H5, P5, e5, len5, i1, i2, i3, i4⟩ h15 tk15 F15 oI cI N15
                clear F13 N14
                have F16 : Fr (s.heap.hide l) L h15 mm := F15
                have N16 : News (s.heap.hide l) L h15 ((I5, oI) :: (L + 1 + 1 + 1 + 1, o4') :: (L + 1 + 1 + 1, o3') :: (L + 1 + 1, o2') :: (L + 1, o1) :: (Hp, listOf (zs5.map (·.1)).toArray nH5) :: (Td, listOf ys.toArray nT) :: (DS, { cls := .type "list", data := .seq ysr.toArray }) :: t5) := N15
                clear F15 N15
                cases rf5 with
                | nil => exact hr5.elim
                | cons e6 rf5 =>
                obtain ⟨hv5, hr5⟩ := hr5
                have hq : dn5.length + (rf5.length + 1) ≤ 16 := by have q := congrArg List.length e5; rw [List.length_append, List.length_cons] at q; rw [q]; exact hn3
                try dsimp only
                walk_at "goA"
                with_reducible rename Fr _ _ _ _ => F17
                with_reducible rename News _ _ _ _ => N17
                try dsimp only
                have k17 := cov5.keep F17 (News.sub N17 (fun p hp => .tail _ (.tail _ (.tail _ (.tail _ (.tail _ (.tail _ (.tail _ (.tail _ hp)))))))))
                have zH := N17 (Hp, _) (.tail _ (.tail _ (.tail _ (.tail _ (.tail _ (.head _))))))
                refine heappush_ok (l := Hp) (n := nH5) (zs := zs5) (x := (v5, e6)) G' F17.keep zH.2.2 zH.1 (by show A.depth + 1 < 700; omega) (by show A.units + 3 < 7000; omega) (fun z hz' => (hz5 z hz').keeps k17) (by have q : (r.map (fun z : Z => z.2)).length = r.length := List.length_map _; have q2 : r.length + 1 ≤ 2000 := zlen; omega) (hv5.keeps k17) fun h18 tk18 n18 hk18 hl18 => ?_
                have F18 := fr_after F17 zH.2.1 zH.2.2 hk18
                have N18 := news_after (News.sub (E' := (Hp, listOf (zs5.map (·.1)).toArray nH5) :: (I5, oI) :: (L + 1 + 1 + 1 + 1, o4') :: (L + 1 + 1 + 1, o3') :: (L + 1 + 1, o2') :: (L + 1, o1) :: (Td, listOf ys.toArray nT) :: (DS, { cls := .type "list", data := .seq ysr.toArray }) :: t5) N17 (by walk_at "mem")) (fun p hp => ?_) hk18 hl18
                rotate_left
                · simp only [List.mem_cons] at hp
                  rcases hp with rfl | rfl | rfl | rfl | rfl | rfl | rfl | hp
                  · exact Nat.ne_of_gt i2
                  · exact Nat.ne_of_lt lh4
                  · exact Nat.ne_of_lt lh3
                  · exact Nat.ne_of_lt lh2
                  · exact Nat.ne_of_lt lh1
                  · exact nHT.symm
                  · exact Nat.ne_of_gt (ltS (Hp, _) (.tail _ (.tail _ (.tail _ (.tail _ (.tail _ (.head _)))))))
                  · exact fun e => off5 p hp (by rw [e]; simp)
                clear F17 N17 zH k17
                obtain ⟨HQ, PQ⟩ := push_ok (x := ((v5, e6) : Z)) H5
                try dsimp only
                walk_at "goA"
                have k18 := cov5.keep F18 (News.sub N18 (fun p hp => .tail _ (.tail _ (.tail _ (.tail _ (.tail _ (.tail _ (.tail _ (.tail _ hp)))))))))
                have nDI : ∀ a : Nat, a < DS → a ∉ [L, L + 1 + 1 + 1 + 1, L + 1 + 1 + 1, L + 1 + 1, L + 1, Hp, Td] → a ∉ [L, L + 1 + 1 + 1 + 1, L + 1 + 1 + 1, L + 1 + 1, L + 1, Hp, Td, DS, I5] := fun a ha hn q => by
                  rcases List.mem_append.mp (show a ∈ [L, L + 1 + 1 + 1 + 1, L + 1 + 1 + 1, L + 1 + 1, L + 1, Hp, Td] ++ [DS, I5] from q) with q | q
                  · exact hn q
                  · rcases List.mem_cons.mp q with q | q
                    · exact Nat.ne_of_lt ha q
                    · exact Nat.ne_of_lt (Nat.lt_trans ha i4) (List.mem_singleton.mp q)
                have zI := N18 (I5, oI) (.tail _ (.head _))
                obtain ⟨nw', w1, w2, w3, w4⟩ := pushI_start (I := I5) (Hp := Hp) (Td := Td) (DS := DS) (D2 := D2) (zs := sdown zlt 0 ((v5, e6) : Z) zs5.length (zs5 ++ [(v5, e6)])) (nH := n18) (r := r5) (done := dn5 ++ [e6]) (restf := rf5) (r0 := r.map (·.2)) (fur := f1 :: furR) (lo := { cls := .type "list", data := .seq ysr.toArray }) F18 N18 (by walk_at "mem") ⟨_, e4⟩ ⟨_, e3⟩ ⟨_, e2⟩ ⟨_, d1⟩ rfl (by exact b1) (by exact b2) (by exact b3)
                  (fun o eo => by rw [zI.1] at eo; cases eo; exact cI) (nDI D2 ltD2 nD2) (nDI l ltl nl2) (k18 _ _ gD5) (k18 _ _ gl5) (hf5.mono fun _ _ => fold_kt (KT.of k18)) (fun z hz' => by
                    rcases List.mem_append.mp (PQ.mem_iff.mp hz') with q | q
                    · exact (hz5 z q).keeps k18
                    · rw [List.mem_singleton.mp q]; exact hv5.keeps k18) (hp5.mono fun _ _ => pair_kt (KT.of k18)) (hr5.mono fun _ _ x => x.keeps k18) HQ (by
                    refine (List.Perm.map (fun z : Z => z.2) PQ).trans ?_
                    rw [List.map_append, List.append_assoc]
                    refine (P5.append_right [e6]).trans ?_
                    rw [List.append_assoc]
                    exact (List.perm_append_comm).append_left dn5) (by rw [List.append_assoc]; exact e5) i1 i2 i3 i4
                exact ⟨_, _, _, nw', rfl, F18, News.add w1 zI.1 zI.2.1 zI.2.2, fun p hp q hq => by rw [List.mem_singleton.mp hq]; exact w3 p hp, w4, w2⟩
end

section
open PySem PySem.W PyProof.Rows PySem.Calls
set_option maxRecDepth 100000
set_option maxHeartbeats 0
open PyProof.Rows.LCg
section
variable {prog : Program} {w : World} {A : Around} {E : Value → Shared → Prop} {s : Shared}
theorem itemLast_at {value slice : PySem.Expr} {l : Addr} {vs : List Value} {n : Nat} {i : Int} {u : Tok} {v : Value} {Q : Value → Shared → Prop} (hl : s.heap.get? l = some (listOf vs.toArray n)) (hi : i = -1) (hv : vs[vs.length - 1]? = some v) (h : Q v s)
    (hs : subscripted slice false (.ref l) (.int i u) = operate [.ref l, .int i u] (getItem (.ref l) (.int i u)) := by with_unfolding_all rfl) :
    wpAny (model prog w) A (subscriptTail value slice (.ref l) (.int i u)) Q E s := by
  subst hi
  have hL : s.heap.IsList l vs.toArray := ⟨_, hl, rfl, n, rfl⟩
  have hk : vs.length - 1 < vs.length := (List.getElem?_eq_some_iff.mp hv).1
  refine tail_any hL.typeIs slot_list_getitem.lookup (wpAny_getItem_list_neg hL (by omega) (by rw [List.size_toArray]; omega) (by omega) ?_ h) hs
  have e : ((-1 : Int) + (vs.toArray.size : Int)).toNat = vs.length - 1 := by rw [List.size_toArray]; omega
  rw [e]
  simpa using hv
end
theorem ways_ok {prog : Program} {w : World} {A : Around} {E : Value → Shared → Prop} {s : Shared} {g : Heap} {mg mb : Str → Option Value} {l : Addr} {n : Nat} {W : Str} {tw : Tok} {vs : List Value} {sh : List Itm3} {Q : Value → Shared → Prop}
    (G : GdAt mg mb g) (hg : ∀ b o, g.get? b = some o → s.heap.get? b = some o) (hlg : g.get? l = none) (hl : s.heap.get? l = some (listOf vs.toArray n)) (hdp : A.depth < 600) (hun : A.units < 6000) (hh : A.handled = none) (hvs : Al2 (KSC s.heap) vs sh) (hsh : ShopW sh) (hlen : sh.length ≤ 16)
    (hways : ∀ k, k ≤ W.cps.toList.length → (ways W.cps.toList (sh.map toSold) k).length ≤ 63) (hW : W.length ≤ 100)
    (hend : ∀ h' tk D ys n' out, (∀ b o, s.heap.get? b = some o → h'.get? b = some o) → h'.get? D = some (listOf ys.toArray n') → s.heap.get? D = none → Al2 (PairH h') ys out → out.Perm (ways W.cps.toList (sh.map toSold) W.cps.toList.length) → out.Pairwise wle → Q (.ref D) { s with heap := h', toks := tk }) :
    wpAny (model prog w) A (call (.ref 121) [.str W tw, .ref l]) Q E s := by
  have Fn := G.fn_ways
  generalize hD : fdAt 13 = d at Fn
  conv at hD => lhs; whnf
  subst hD
  obtain ⟨fo, pm, cdv, doc, ho, hd, hc⟩ := Fn
  k_dflt (refine' callFnC [(Str.ofString "word", .str W tw), (Str.ofString "shop", .ref l)] [(Str.ofString "cost", s.heap.objs.size + 1 + 1), (Str.ofString "sign", s.heap.objs.size + 1)] (fun y => if y = Str.ofString "shop" then some (.ref l) else if y = Str.ofString "word" then some (.str W tw) else none) (fun _ => none) G hg hlg hl ho hd hc ?r ?b ?lo ?ce ?co ?ge ?k ?cl ?ml ?mc ?_; (case b => exact BindsTo.of_eq rfl); (case r => show A.depth < 1000; omega); (case lo => intro n9 x9 hx9; simp only [List.mem_cons, List.not_mem_nil, or_false] at hx9; rcases hx9 with rfl | rfl <;> first | exact .inl rfl | exact .inr ⟨rfl, rfl⟩); (case ce => decide); (case co => rfl); (case ge => rfl); (case k => rfl); (case cl => rfl); (case ml => rfl); (case mc => rfl))
  intro h₁ tk₁ cells F N Y hlL G'
  dsimp only
  clear hd hc ho
  have X : Frag.In [] (s.heap.hide l) := no_part
  have nm := G'.nms
  have fs := G'.fns
  obtain ⟨mean, T⟩ := G'.t
  w_on
  have hvs1 : Al2 (KSC (s.heap.hide l)) vs sh := hvs.mono fun _ _ => ksc_kt (NoTup.kt (M := [l]) (NoTup.consL hl (by simp) NoTup.nil))
  generalize hLs : s.heap.objs.size = L at F N Y hlL ⊢
  obtain ⟨o2, o1, rfl, d2, d1⟩ : ∃ o2 o1, cells = [(L + 1 + 1, o2), (L + 1, o1)] ∧ o2.data = .cell none ∧ o1.data = .cell none := by
    cases Y with | cons d2 Y => cases Y with | cons d1 Y => cases Y; exact ⟨_, _, rfl, d2, d1⟩
  clear Y
  have N0 : News (s.heap.hide l) L h₁ ((L + 1 + 1, o2) :: (L + 1, o1) :: [(l, listOf vs.toArray n)]) := N
  clear N
  walk_at "goA"
  rename_i D0 _ lD0 R1 _ lR1 R2 _ _ _ lR2 _ F2 N2
  try dsimp only
  refine For_turns F2 ?_
  walk_at "goA"
  walk1
  walk_at "goA"
  try dsimp only
  with_reducible rename Fr _ _ _ _ => F3
  with_reducible rename News _ _ _ _ => N3
  refine range1_rows F3 N3 fun h4 tk4 tt uu vv hr F4 N4 k4 => ?_
  clear F3 N3 k4
  try dsimp only
  walk_at "goA"
  with_reducible rename Fr _ _ _ _ => F5
  with_reducible rename News _ _ _ _ => N5
  have hWl : W.length = W.cps.toList.length := (Array.length_toList).symm
  refine reversed_range hr (by omega) ?_
  try dsimp only
  have F6 := F5.push (rrObj W.length)
  have N6 := N5.grown fun _ _ e => Heap.get?_push_of_some (rrObj W.length) e
  have I6 := next_is_new F5
  have I7 : h4.objs.size ≠ L := Nat.ne_of_gt F5.ns.lt
  have i1 : (L + 1 + 1 : Nat) < h4.objs.size := Heap.lt_size (N5 (L + 1 + 1, o2) (.tail _ (.tail _ (.tail _ (.head _))))).1
  have i2 : @LT.lt Nat _ R2 h4.objs.size := Heap.lt_size (N5 (R2, _) (.head _)).1
  have i3 : @LT.lt Nat _ l h4.objs.size := Heap.lt_size (N5 (l, listOf vs.toArray n) (.tail _ (.tail _ (.tail _ (.tail _ (.tail _ (.head _))))))).1
  have hI : (h4.push (rrObj W.length)).get? h4.objs.size = some (rrObj W.length) := Heap.get?_push_size _ rfl
  clear F5 N5 hr
  generalize h4.push (rrObj W.length) = h6 at F6 N6 hI ⊢
  generalize h4.objs.size = I at I6 I7 i1 i2 i3 hI ⊢
  have tD0 := N6.isTup (.tail _ (.tail _ (.head _)))
  have gR1 := (N6 (R1, _) (.tail _ (.head _))).1
  have e0 : W.cps.toList.length - W.length = 0 := by omega
  have nR1 : R1 ∉ [L, L + 1 + 1, L + 1, R2, l, I] := by
    obtain ⟨_, a1, a2, a3⟩ := lR1
    simp only [List.mem_cons, List.not_mem_nil, or_false]
    rintro (q | q | q | q | q | q)
    · exact (N6 (R1, _) (.tail _ (.head _))).2.1 q
    · exact Nat.ne_of_gt a1 q
    · exact Nat.ne_of_gt a2 q
    · exact Nat.ne_of_lt lR2.1 q
    · exact Nat.ne_of_gt a3 q
    · exact Nat.ne_of_lt (Nat.lt_trans lR2.1 i2) q
  obtain ⟨nw, Nw, offw, W0⟩ := waysI_end (h₀ := s.heap.hide l) (L := L) (l := l) (Rw := R2) (I := I) (W := W) (tw := tw) (vs := vs) (n := n) (sh := sh) (k := W.length) (rvs := [.ref R1]) (nR := 0) F6 N6 (by walk_at "mem") ⟨_, d2⟩ ⟨_, d1⟩ rfl rfl rfl (fun o eo => by rw [hI] at eo; cases eo; simp [rrObj])
    (by rw [e0]; exact ⟨⟨⟨R1, [.ref D0], 0, rfl, gR1, ⟨⟨D0, _, _, rfl, tD0⟩, trivial⟩⟩, fun a e => by cases e; exact nR1⟩, trivial⟩) (hvs1.mono fun _ _ => ksc_kt (KT.of F6.keep)) i1 i2 i3 (Nat.le_of_eq hWl)
  have r2 := lR2.2.2.1
  have r1 := lR2.2.2.2.1
  have r3 := lR2.2.2.2.2
  clear N6 gR1 tD0 nR1 lR1 lR2 lD0
  refine revJ (WaysI (s.heap.hide l) L l R2 I W tw vs n sh) hh F6 Nw hI I6 I7 offw W0 ?stop ?step
  case stop =>
    rintro mm nw h7 tk7 ⟨o2, o1, rvs, nR, t, gB, rfl, d2, d1, m1, m2, m3, off, cov, hg7, hR, hk, j1, j2, j3, jk⟩ F7 N7
    clear F6 Nw W0 hI
    have F8 : Fr (s.heap.hide l) L h7 mm := F7
    have N8 : News (s.heap.hide l) L h7 ((L + 1 + 1, o2) :: (L + 1, o1) :: (R2, listOf rvs.toArray nR) :: (l, listOf vs.toArray n) :: t) := N7
    clear F7 N7
    try dsimp only
    walk_at "goA"
    try dsimp only
    with_reducible rename Fr _ _ _ _ => F9
    with_reducible rename News _ _ _ _ => N9
    rw [Nat.sub_zero] at hR
    have hlr := hR.length
    rw [rowsTo_length] at hlr
    obtain ⟨v, hv, a, us, nu, rfl, ga, hal⟩ := hR.getB (i := W.cps.toList.length) (b := ways W.cps.toList (sh.map toSold) W.cps.toList.length) (by
      unfold ways
      rw [List.getD_eq_getElem?_getD, List.getElem?_eq_getElem (by rw [rowsTo_length]; exact Nat.lt_succ_self _)]; rfl)
    refine itemLast_at (N9 (R2, _) (.tail _ (.tail _ (.head _)))).1 (by rfl) (v := .ref a) (by rw [hlr]; exact hv) ?_
    walk_at "goA"
    try dsimp only
    with_reducible rename Fr _ _ _ _ => F9
    with_reducible rename News _ _ _ _ => N9
    have kB := cov.keep F9 (News.sub N9 fun p hp => .tail _ (.tail _ (.tail _ (.tail _ hp))))
    refine sorted_ways (gB := gB) F9 N9 ⟨_, kB _ _ ga, rfl, _, rfl⟩ (fun b o e => (cov b o e).imp id fun q => .tail _ (.tail _ (.tail _ (.tail _ q)))) hal (Nat.lt_succ_of_le (hways _ (Nat.le_refl _))) fun D h10 ys out n' F10 N10 hD10 hp hs hal2 => ?_
    walk_at "goA"
    try dsimp only
    have kB' := cov.keep F10 (News.sub N10 fun p hp => .tail _ (.tail _ (.tail _ (.tail _ (.tail _ hp)))))
    refine hend h10 _ D ys n' out (fun b o e => ?_) (N10 (D, _) (.head _)).1 ?_ (hal2.mono fun _ _ => pair_kt (KT.of kB')) hp hs
    · by_cases hb : b = l
      · subst hb; rw [hl] at e; cases e; exact (N10 _ (.tail _ (.tail _ (.tail _ (.tail _ (.head _)))))).1
      · exact F10.keep b o (by rw [Heap.hide_ne _ hb]; exact e)
    · have z := (N10 (D, _) (.head _)).2.2
      rwa [Heap.hide_ne _ (Nat.ne_of_gt (hD10 (l, listOf vs.toArray n) (.tail _ (.tail _ (.tail _ (.head _))))))] at z
  case step =>
    rintro k mm nw ⟨o2, o1, rvs, nR, t, gB, rfl, d2, d1, m1, m2, m3, off, cov, hg7, hR, hk, j1, j2, j3, jk⟩ tb h7 tk7 F7 oI cI N7
    clear F6 Nw W0 hI
    have F8 : Fr (s.heap.hide l) L h7 mm := F7
    have N8 : News (s.heap.hide l) L h7 ((I, oI) :: (L + 1 + 1, o2) :: (L + 1, o1) :: (R2, listOf rvs.toArray nR) :: (l, listOf vs.toArray n) :: t) := N7
    clear F7 N7
    try dsimp only
    walk_at "goA"
    try dsimp only
    rename_i _ Ro _ _ _ lRo _ _ _
    with_reducible rename Fr _ _ _ _ => F10
    with_reducible rename News _ _ _ _ => N10
    generalize hmm : (fun y => if y = Str.ofString "row" then some (Value.ref Ro) else _) = m10 at F10
    have b1 : m10 (Str.ofString "rows") = some (.ref R2) := by rw [← hmm]; exact m1
    have b2 : m10 (Str.ofString "shop") = some (.ref l) := by rw [← hmm]; exact m2
    have b3 : m10 (Str.ofString "word") = some (.str W tw) := by rw [← hmm]; exact m3
    have b4 : m10 (Str.ofString "row") = some (.ref Ro) := by rw [← hmm]; rfl
    have b5 : m10 (Str.ofString "begin") = some (.int (k : Int) tb) := by rw [← hmm]; rfl
    clear hmm m1 m2 m3
    have N11 := News.sub (E' := (L + 1 + 1, o2) :: (L + 1, o1) :: (Ro, listOf #[] 0) :: (R2, listOf rvs.toArray nR) :: (I, oI) :: (l, listOf vs.toArray n) :: t) N10 (by walk_at "mem")
    clear N10
    refine For_turns F10 ?_
    walk_at "goA"
    try dsimp only
    with_reducible rename Fr _ _ _ _ => F11
    with_reducible rename News _ _ _ _ => N11
    obtain ⟨a1, a2, a3, a4, a5, a6⟩ := lRo
    have gLt : ∀ a o, gB.get? a = some o → @LT.lt Nat _ a Ro := fun a o e => by
      rcases cov a o e with q | q
      · have z := Heap.lt_size q
        rw [Heap.hide_size, hLs] at z
        exact Nat.lt_trans z (Nat.lt_trans (Nat.lt_succ_self _) a3)
      · exact AllLt.mem a6 _ q
    refine listJ (ax := l) (lo := listOf vs.toArray n) (vs := vs) (n := n) (RowI (s.heap.hide l) L l R2 Ro I oI W tw vs n rvs nR sh k) hh F11 N11 (.tail _ (.tail _ (.tail _ (.tail _ (.tail _ (.head _)))))) rfl rfl ?start ?stop ?step
    case start =>
      intro J hJ
      have jRo : Ro < J := hJ (Ro, _) (.tail _ (.tail _ (.head _)))
      refine ⟨o2, o1, [], 0, [], sh, t, gB, rfl, d2, d1, b1, b2, b3, b4, ⟨_, b5⟩, fun p hp q => ?_, cov, fun a o e q => ?_, hR, trivial, hk, hk, fun _ h => h, rfl, hJ (_, o2) (.head _), jRo, hJ (R2, _) (.tail _ (.tail _ (.tail _ (.head _)))), hJ (I, _) (.tail _ (.tail _ (.tail _ (.tail _ (.head _))))), hJ (l, _) (.tail _ (.tail _ (.tail _ (.tail _ (.tail _ (.head _))))))⟩
      · have q1 := off p hp
        have q2 := AllLt.mem a6 p hp
        have q3 := Nat.lt_trans q2 jRo
        simp only [List.mem_cons, List.not_mem_nil, or_false] at q q1
        rcases q with q | q | q | q | q | q | q | q
        · exact q1 (.inl q)
        · exact q1 (.inr (.inl q))
        · exact q1 (.inr (.inr (.inl q)))
        · rw [q] at q2; exact Nat.lt_irrefl _ q2
        · exact q1 (.inr (.inr (.inr (.inl q))))
        · exact q1 (.inr (.inr (.inr (.inr (.inr q)))))
        · exact q1 (.inr (.inr (.inr (.inr (.inl q)))))
        · rw [q] at q3; exact Nat.lt_irrefl _ q3
      · have q1 := hg7 a o e
        have q2 := gLt a o e
        have q3 := Nat.lt_trans q2 jRo
        simp only [List.mem_cons, List.not_mem_nil, or_false] at q q1
        rcases q with q | q | q | q | q | q | q | q
        · exact q1 (.inl q)
        · exact q1 (.inr (.inl q))
        · exact q1 (.inr (.inr (.inl q)))
        · rw [q] at q2; exact Nat.lt_irrefl _ q2
        · exact q1 (.inr (.inr (.inr (.inl q))))
        · exact q1 (.inr (.inr (.inr (.inr (.inr q)))))
        · exact q1 (.inr (.inr (.inr (.inr (.inl q)))))
        · rw [q] at q3; exact Nat.lt_irrefl _ q3
    case stop =>
      rintro J mm' nw' h12 tk12 ⟨o2, o1, ys, nY, acc, rest, t', gB', rfl, d2, d1, c1, c2, c3, c4, ⟨tb', c5⟩, off', cov', hg', hR', hA, hk', hr', hin, he, x1, x2, x3, x4, x5⟩ F12 N12
      clear F11 N11
      have F13 : Fr (s.heap.hide l) L h12 mm' := F12
      have N13 : News (s.heap.hide l) L h12 ((L + 1 + 1, o2) :: (L + 1, o1) :: (Ro, listOf ys.toArray nY) :: (R2, listOf rvs.toArray nR) :: (I, oI) :: (l, listOf vs.toArray n) :: t') := N12
      clear F12 N12
      cases rest with
      | cons _ _ => exact hr'.elim
      | nil =>
      try dsimp only
      walk_at "goA"
      try dsimp only
      with_reducible rename Fr _ _ _ _ => F14
      with_reducible rename News _ _ _ _ => N14
      rw [show rowOf W.cps.toList (List.map toSold []) (rowsTo W.cps.toList (List.map toSold sh) (W.cps.toList.length - (k + 1))) (W.cps.toList.length - k) = [] from rfl, List.append_nil] at he
      have hrl := hR'.length
      rw [rowsTo_length] at hrl
      refine app_head F14 (News.sub (E' := (R2, listOf rvs.toArray nR) :: (L + 1 + 1, o2) :: (L + 1, o1) :: (Ro, listOf ys.toArray nY) :: (I, oI) :: (l, listOf vs.toArray n) :: t') N14 (by walk_at "mem")) (fun p hp => ?_) (by omega) fun h15 F15 N15 => ?_
      · simp only [List.mem_cons] at hp
        rcases hp with rfl | rfl | rfl | rfl | rfl | hp
        · exact Nat.ne_of_lt r2
        · exact Nat.ne_of_lt r1
        · exact Nat.ne_of_gt a4
        · exact Nat.ne_of_gt i2
        · exact Nat.ne_of_lt r3
        · exact fun e => off' p hp (by rw [e]; simp)
      clear N14
      try dsimp only
      walk_at "goA"
      try dsimp only
      with_reducible rename Fr _ _ _ _ => F15
      with_reducible rename News _ _ _ _ => N15
      have kB := cov'.keep F15 (News.sub N15 fun p hp => .tail _ (.tail _ (.tail _ (.tail _ (.tail _ (.tail _ hp))))))
      have e1 : W.cps.toList.length - k = W.cps.toList.length - (k + 1) + 1 := by omega
      have nRo : Ro ∉ [L, L + 1 + 1, L + 1, R2, l, I] := by
        simp only [List.mem_cons, List.not_mem_nil, or_false]
        rintro (q | q | q | q | q | q)
        · exact (N15 (Ro, _) (.tail _ (.tail _ (.tail _ (.head _))))).2.1 q
        · exact Nat.ne_of_gt a2 q
        · exact Nat.ne_of_gt a3 q
        · exact Nat.ne_of_gt a4 q
        · exact Nat.ne_of_gt a5 q
        · exact Nat.ne_of_gt a1 q
      have hn : ∀ a ∈ [L, L + 1 + 1, L + 1, R2, l, I], gB'.get? a = none := fun a ha => by
        cases q : gB'.get? a with
        | none => rfl
        | some o =>
          refine absurd ?_ (hg' a o q)
          simp only [List.mem_cons, List.not_mem_nil, or_false] at ha ⊢
          rcases ha with rfl | rfl | rfl | rfl | rfl | rfl <;> simp
      obtain ⟨nw2, w1, w2, w3⟩ := waysI_end (I := I) (Rw := R2) (l := l) (tw := tw) (vs := vs) (n := n) (sh := sh) (k := k) (rvs := rvs ++ [.ref Ro]) (nR := nR + 1) F15 N15 (by walk_at "mem") d2 d1 c1 c2 c3 (fun o eo => by rw [(N15 (I, oI) (.tail _ (.tail _ (.tail _ (.tail _ (.head _)))))).1] at eo; cases eo; rw [cI]; simp)
        (by
          rw [e1]
          refine Al2.snoc ?_ (hR'.mono fun _ _ => rowM_of kB hn)
          refine ⟨⟨Ro, ys, nY, rfl, (N15 (Ro, _) (.tail _ (.tail _ (.tail _ (.head _))))).1, ?_⟩, fun a e => by cases e; exact nRo⟩
          rw [← e1, ← he]
          exact hA.mono fun _ _ => pair_kt (KT.of kB)) (hk'.mono fun _ _ => ksc_kt (KT.of kB)) i1 i2 i3 (Nat.le_of_succ_le jk)
      have zI := N15 (I, oI) (.tail _ (.tail _ (.tail _ (.tail _ (.head _)))))
      exact ⟨_, _, _, nw2, rfl, F15, News.add w1 zI.1 zI.2.1 zI.2.2, fun p hp q hq => by rw [List.mem_singleton.mp hq]; exact w2 p hp, w3⟩
    case step =>
      rintro J v r mm' nw' ⟨o2, o1, ys, nY, acc, rest, t', gB', rfl, d2, d1, c1, c2, c3, c4, ⟨tb', c5⟩, off', cov', hg', hR', hA, hk', hr', hin, he, x1, x2, x3, x4, x5⟩ h12 tk12 F12 oJ cJ N12
      clear F11 N11
      have F13 : Fr (s.heap.hide l) L h12 mm' := F12
      have N13 : News (s.heap.hide l) L h12 ((J, oJ) :: (L + 1 + 1, o2) :: (L + 1, o1) :: (Ro, listOf ys.toArray nY) :: (R2, listOf rvs.toArray nR) :: (I, oI) :: (l, listOf vs.toArray n) :: t') := N12
      clear F12 N12
      cases rest with
      | nil => exact hr'.elim
      | cons e rest =>
      obtain ⟨hv, hr'⟩ := hr'
      obtain ⟨a, u1, u2, u3, rfl, ht⟩ := hv
      have kB := cov'.keep F13 (News.sub N13 fun p hp => .tail _ (.tail _ (.tail _ (.tail _ (.tail _ (.tail _ (.tail _ hp)))))))
      have ht1 := tup_kt ht (KT.of kB)
      obtain ⟨v2, d2⟩ := d2
      obtain ⟨v1, d1⟩ := d1
      have hS1 : e ∈ sh := hin e (.head _)
      have hk16 : e.1 < 16 := hsh.kind e hS1
      refine tupLCC (c₂ := L + 1) (c₃ := L + 1 + 1) hh ht1 F13 (News.sub (E' := (L + 1 + 1, o2) :: (L + 1, o1) :: (J, oJ) :: (Ro, listOf ys.toArray nY) :: (R2, listOf rvs.toArray nR) :: (I, oI) :: (l, listOf vs.toArray n) :: t') N13 (by walk_at "mem")) (fun p hp => ?_) (Nat.ne_of_lt (Nat.lt_succ_self _)) d1 d2 (by rfl) (by rfl) (by rfl) (by rfl) (by rfl) (by rfl) (by rfl) fun h14 tk14 o1' o2' F14 N14 e1 e2 => ?_
      · simp only [List.mem_cons] at hp
        rcases hp with rfl | rfl | rfl | rfl | rfl | hp
        · exact ⟨Nat.ne_of_gt (Nat.lt_trans (Nat.lt_succ_self _) x1), Nat.ne_of_gt x1⟩
        · exact ⟨Nat.ne_of_gt a3, Nat.ne_of_gt a2⟩
        · exact ⟨Nat.ne_of_gt r1, Nat.ne_of_gt r2⟩
        · exact ⟨Nat.ne_of_gt (Nat.lt_trans (Nat.lt_succ_self _) i1), Nat.ne_of_gt i1⟩
        · exact ⟨Nat.ne_of_lt (Nat.lt_succ_of_lt hlL), Nat.ne_of_lt (Nat.lt_succ_of_lt (Nat.lt_succ_of_lt hlL))⟩
        · exact ⟨fun e => off' p hp (by rw [e]; simp), fun e => off' p hp (by rw [e]; simp)⟩
      clear F13 N13
      generalize hmm : (fun y => if y = Str.ofString "kind" then _ else _) = m14 at F14
      have c1 : m14 (Str.ofString "rows") = some (.ref R2) := by rw [← hmm]; exact c1
      have c2 : m14 (Str.ofString "shop") = some (.ref l) := by rw [← hmm]; exact c2
      have c3 : m14 (Str.ofString "word") = some (.str W tw) := by rw [← hmm]; exact c3
      have c4 : m14 (Str.ofString "row") = some (.ref Ro) := by rw [← hmm]; exact c4
      have c5 : m14 (Str.ofString "begin") = some (.int (k : Int) tb') := by rw [← hmm]; exact c5
      have c6 : m14 (Str.ofString "kind") = some (.int (e.1 : Int) u1) := by rw [← hmm]; rfl
      clear hmm
      try dsimp only
      walk_at "goA"
      try dsimp only
      with_reducible rename Fr _ _ _ _ => F14
      with_reducible rename News _ _ _ _ => N14
      refine meant_ok (k := e.1) G' F14.keep (by show A.depth + 1 < 900; omega) hk16 fun h15 tk15 t15 hk15 => ?_
      have F15 := F14.keeps hk15
      have N15 := N14.grown hk15
      clear F14 N14
      try dsimp only
      walk_at "goA"
      try dsimp only
      with_reducible rename Fr _ _ _ _ => F16
      with_reducible rename News _ _ _ _ => N16
      generalize hmm : (fun y => if y = Str.ofString "plain" then _ else _) = m16 at F16
      have c1 : m16 (Str.ofString "rows") = some (.ref R2) := by rw [← hmm]; exact c1
      have c2 : m16 (Str.ofString "shop") = some (.ref l) := by rw [← hmm]; exact c2
      have c3 : m16 (Str.ofString "word") = some (.str W tw) := by rw [← hmm]; exact c3
      have c4 : m16 (Str.ofString "row") = some (.ref Ro) := by rw [← hmm]; exact c4
      have c5 : m16 (Str.ofString "begin") = some (.int (k : Int) tb') := by rw [← hmm]; exact c5
      have c7 : m16 (Str.ofString "plain") = some (.str (meant e.1) t15) := by rw [← hmm]; rfl
      clear hmm
      have pl : (meant e.1).length = (meant e.1).cps.toList.length := (Array.length_toList).symm
      have ps := meant_short e.1 hk16
      refine len_str (by omega) ?_
      try dsimp only
      walk_at "goA"
      try dsimp only
      refine slice_strN_ss (s := { s with heap := _, toks := _ }) F16 N16 (fun h17 t17 tk17 F17 N17 => ?_) (subs_slice _ _ _ _ _) (fun _ => rfl) (by rw [sizeLine_eq]; omega)
      clear F16 N16
      rw [pl, slice_at W k _ (by omega)]
      try dsimp only
      walk_at "goA"
      with_reducible rename Fr _ _ _ _ => F18
      with_reducible rename News _ _ _ _ => N18
      have hb : ((⟨((W.cps.toList.drop k).take (meant e.1).cps.toList.length).toArray⟩ : Str).cps.toList == (meant e.1).cps.toList) = meets W.cps.toList (toSold e) k := by
        unfold meets
        exact Bool.beq_eq_decide_eq _ _
      refine PySem.P.eq_str ?_
      rw [hb]
      have hro := rowOf_cons W.cps.toList (toSold e) (rest.map toSold) (rowsTo W.cps.toList (sh.map toSold) (W.cps.toList.length - (k + 1))) (W.cps.toList.length - k)
      rw [show W.cps.toList.length - (W.cps.toList.length - k) = k by omega] at hro
      rw [List.map_cons, hro] at he
      have kB7 := cov'.keep F18 (News.sub N18 fun p hp => .tail _ (.tail _ (.tail _ (.tail _ (.tail _ (.tail _ (.tail _ hp)))))))
      have hn : ∀ a ∈ [L, L + 1 + 1, L + 1, Ro, R2, I, l, J], gB'.get? a = none := fun a ha => by
        cases q : gB'.get? a with
        | none => rfl
        | some o => exact absurd ha (hg' a o q)
      have hS2 : ∀ e ∈ sh.map toSold, e.sign.cps.size = 1 ∧ 0 < e.plain.cps.toList.length := fun e he => by
        obtain ⟨x, hx, rfl⟩ := List.mem_map.mp he
        obtain ⟨n0, hn0⟩ := hsh.sign x hx
        refine ⟨?_, meant_pos _ (hsh.kind x hx)⟩
        show x.2.1.cps.size = 1
        rw [hn0]
        exact (sign_chars _ _ (hsh.kind x hx)).1
      have hml : (toSold e).plain = meant e.1 := rfl
      have cJ' : oJ.cls ≠ .type "tuple" := by rw [cJ]; simp
      clear hk15
      cases hX : meets W.cps.toList (toSold e) k with
      | false =>
        rw [hX, if_neg (by simp), List.nil_append] at he
        walk1
        walk_at "goA"
        have zJ := N18 (J, oJ) (.tail _ (.tail _ (.head _)))
        obtain ⟨nw', w1, w2, w3, w4⟩ := rowI_end (J := J) (I := I) (Rw := R2) (Ro := Ro) (l := l) (tw := tw) (vs := vs) (n := n) (sh := sh) (k := k) (r := r) (rest := rest) (acc := acc) (rvs := rvs) (nR := nR) (ys := ys) (nY := nY) (oI := oI) F18 N18 (by walk_at "mem") ⟨_, e2⟩ ⟨_, e1⟩ c1 c2 c3 c4 ⟨_, c5⟩ cI (fun o eo => by rw [zJ.1] at eo; cases eo; exact cJ')
          (hR'.mono fun _ _ => rowM_of kB7 hn) (hA.mono fun _ _ => pair_kt (KT.of kB7)) (hk'.mono fun _ _ => ksc_kt (KT.of kB7)) (hr'.mono fun _ _ => ksc_kt (KT.of kB7)) (fun x hx => hin x (.tail _ hx)) he x1 x2 x3 x4 x5
        exact ⟨_, _, _, nw', rfl, F18, News.add w1 zJ.1 zJ.2.1 zJ.2.2, fun p hp q hq => by rw [List.mem_singleton.mp hq]; exact w2 p hp, w3, w4⟩
      | true =>
        rw [hX, if_pos rfl] at he
        have hml2 := meets_len _ hX
        rw [hml] at he hml2
        have hmp := meant_pos _ hk16
        obtain ⟨row, hrow⟩ : ∃ row, (rowsTo W.cps.toList (sh.map toSold) (W.cps.toList.length - (k + 1)))[W.cps.toList.length - k - (meant e.1).cps.toList.length]? = some row := ⟨_, List.getElem?_eq_getElem (by rw [rowsTo_length]; omega)⟩
        have hrw : (rowsTo W.cps.toList (sh.map toSold) (W.cps.toList.length - (k + 1))).getD (W.cps.toList.length - k - (meant e.1).cps.toList.length) [] = row := by rw [List.getD_eq_getElem?_getD, hrow]; rfl
        rw [hrw] at he
        have hrow63 : acc.length + row.length ≤ 63 := by
          have q := congrArg List.length he
          rw [List.length_append, List.length_append, List.length_map] at q
          have q2 := hways (W.cps.toList.length - (k + 1) + 1) (by omega)
          rw [ways_succ] at q2
          have q3 : W.cps.toList.length - (k + 1) + 1 = W.cps.toList.length - k := by omega
          rw [q3] at q2
          omega
        have hrlen := rows_len W.cps.toList (sh.map toSold) hS2 _ _ _ hrow
        obtain ⟨v, hv, aR, us, nu, rfl, ga, hal⟩ := hR'.getB hrow
        have hrl := hR'.length
        rw [rowsTo_length] at hrl
        walk1
        walk_at "goA"
        refine wpAny_loadName_local rfl rfl F18.ns c4 ?_
        refine compJ F18 (es := row) (p := fun _ => true) (f := fun q => ((e.2.2 + q.1, e.2.1 ++ q.2) : Way)) PairH (fun _ _ _ _ k x => pair_kt k x) hh (by with_unfolding_all rfl) (by decide) (by rfl) (by decide) ?_
        walk_at "goA"
        refine len_str (by omega) ?_
        try dsimp only
        walk_at "goA"
        refine len_str (by omega) ?_
        try dsimp only
        walk_at "goA"
        try dsimp only
        with_reducible rename Fr _ _ _ _ => F19
        with_reducible rename News _ _ _ _ => N19
        refine itemI_at (k := W.cps.toList.length - k - (meant e.1).cps.toList.length) (N19 (R2, _) (.tail _ (.tail _ (.tail _ (.tail _ (.head _)))))).1 (by omega) hv (by omega) ?_
        try dsimp only
        walk_at "goA"
        try dsimp only
        have hL0 : gB'.get? L = none := hn L (.head _)
        refine ⟨aR, us, rfl, F19, ⟨_, kB7 _ _ ga, rfl, _, rfl⟩, (fun q => by rw [q, hL0] at ga; cases ga), hal.length, by rw [hal.length]; omega, ?turn, ?fin⟩
        case turn =>
          intro i v q h tk C mC hv' hq F4 hk hn4 hC hCL hC₀ E'
          obtain ⟨q', hq', hks⟩ := hal.get hv'
          rw [hq] at hq'
          cases hq'
          obtain ⟨a2, s1, s2, rfl, o, ho, hr⟩ := hks
          have ht4 : IsTup h a2 #[.int q.1 s1, .str q.2 s2] := ⟨o, hk a2 o (fun x => by rw [x, hL0] at ho; cases ho) (kB7 _ _ ho), hr⟩
          have zc2 := N19 (L + 1 + 1, o2') (.head _)
          have zc1 := N19 (L + 1, o1') (.tail _ (.head _))
          have hC' : h17.get? C = none := hC
          have nc2 : L + 1 + 1 ≠ C := fun x => by rw [← x, zc2.1] at hC'; cases hC'
          have nc1 : L + 1 ≠ C := fun x => by rw [← x, zc1.1] at hC'; cases hC'
          have hes : e.2.1.length = 1 := (hS2 (toSold e) (List.mem_map_of_mem hS1)).1
          have hbl : q.2.length ≤ 100 := by
            have z1 : q.2.cps.size ≤ _ := hrlen q (List.mem_of_getElem? hq)
            have z2 : q.2.length = q.2.cps.size := rfl
            omega
          refine tupC2 hh ht4 hn4 (by rfl) (by rfl) (by rfl) fun h3 tk3 hn3 hk3 => ?_
          refine wpAny_tests_nil ⟨rfl, ?_⟩
          rw [if_pos rfl]
          obtain ⟨oC, nC, F5, N5⟩ := turn0 F4 hn3 hk3 hCL hC₀
          have N5 := News.add (News.add N5 (hk3 _ _ nc2 (hk _ _ zc2.2.1 zc2.1)) zc2.2.1 zc2.2.2) (hk3 _ _ nc1 (hk _ _ zc1.2.1 zc1.1)) zc1.2.1 zc1.2.2
          have F4k := F4.keep
          clear F19 N19 F4 zc1 zc2
          walk_at "goA"
          all_goals (with_reducible rename Fr _ _ _ _ => F6)
          all_goals (with_reducible rename News _ _ _ _ => N6)
          · exact kp_end F6 N6 F4k (.tail _ (.tail _ (.tail _ (.head _)))) nC (fun p hp => .tail _ (.tail _ (.tail _ (.tail _ hp))))
          · exact ⟨_, _, _, rfl, N6.isTup (.head _)⟩
        case fin =>
          intro D ys5 h5 tk5 F5 hk5 hD hDn hDL hD0 hal5
          have e9 : (row.filter fun _ => true) = row := List.filter_eq_self.mpr fun _ _ => rfl
          rw [e9] at hal5
          have hlnew : (row.map (fun q => ((e.2.2 + q.1, e.2.1 ++ q.2) : Way))).length = row.length := List.length_map _
          have hq : row.map (fun q => ((e.2.2 + q.1, e.2.1 ++ q.2) : Way)) = row.map (fun q => ((toSold e).cost + q.1, (toSold e).sign ++ q.2)) := rfl
          rw [← hq, ← List.append_assoc] at he
          generalize row.map (fun q => ((e.2.2 + q.1, e.2.1 ++ q.2) : Way)) = new at he hal5 hlnew
          have hal5' : Al2 (PairH h5) ys5 new := hal5
          have N5 : News (s.heap.hide l) L h5 ((Ro, listOf ys.toArray nY) :: (L + 1 + 1, o2') :: (L + 1, o1') :: (J, oJ) :: (R2, listOf rvs.toArray nR) :: (I, oI) :: (l, listOf vs.toArray n) :: t') := fun p hp => by
            have z := News.sub (E' := (Ro, listOf ys.toArray nY) :: (L + 1 + 1, o2') :: (L + 1, o1') :: (J, oJ) :: (R2, listOf rvs.toArray nR) :: (I, oI) :: (l, listOf vs.toArray n) :: t') N19 (by walk_at "mem") p hp
            exact ⟨hk5 _ _ z.2.1 z.1, z.2⟩
          have nt5 : NoTup h5 [L, L + 1 + 1, L + 1, Ro, R2, I, l, J] :=
            NoTup.consNs F5.ns (NoTup.consD (N5 (_, o2') (.tail _ (.head _))).1 (fun xs n q => by rw [e2] at q; cases q) (NoTup.consD (N5 (_, o1') (.tail _ (.tail _ (.head _)))).1 (fun xs n q => by rw [e1] at q; cases q)
              (NoTup.consL (N5 (Ro, _) (.head _)).1 (by simp) (NoTup.consL (N5 (R2, _) (.tail _ (.tail _ (.tail _ (.tail _ (.head _)))))).1 (by simp) (NoTup.consL (N5 (I, oI) (.tail _ (.tail _ (.tail _ (.tail _ (.tail _ (.head _))))))).1 (by rw [cI]; simp) (NoTup.consL (N5 (l, _) (.tail _ (.tail _ (.tail _ (.tail _ (.tail _ (.tail _ (.head _)))))))).1 (by simp)
                (NoTup.consL (N5 (J, oJ) (.tail _ (.tail _ (.tail _ (.head _))))).1 cJ' NoTup.nil)))))))
          obtain ⟨t3, gB3, N5b, off3, cov3, kt3, _, _⟩ := backG F5 N5 (.head _) nt5
          have N5c : News (s.heap.hide l) L h5 ((Ro, listOf ys.toArray nY) :: (L + 1 + 1, o2') :: (L + 1, o1') :: (J, oJ) :: (R2, listOf rvs.toArray nR) :: (I, oI) :: (l, listOf vs.toArray n) :: (t' ++ t3)) := N5b
          clear N5 N5b nt5
          refine iadd_head F5 N5c (fun p hp => ?_) hD (by rw [hA.length, hal5'.length]; omega) fun h6 n6 F6 N6 => ?_
          · simp only [List.mem_cons] at hp
            rcases hp with rfl | rfl | rfl | rfl | rfl | rfl | hp
            · exact Nat.ne_of_lt a2
            · exact Nat.ne_of_lt a3
            · exact Nat.ne_of_gt x2
            · exact Nat.ne_of_lt a4
            · exact Nat.ne_of_lt a1
            · exact Nat.ne_of_lt a5
            · rcases List.mem_append.mp hp with hp | hp
              · exact fun e => off' p hp (by rw [e]; simp)
              · exact fun e => off3 p hp (by rw [e]; simp)
          try dsimp only
          walk_at "goA"
          try dsimp only
          with_reducible rename Fr _ _ _ _ => F7
          with_reducible rename News _ _ _ _ => N7
          have kB8 := cov'.keep F7 (News.sub N7 fun p hp => .tail _ (.tail _ (.tail _ (.tail _ (.tail _ (.tail _ (.tail _ (List.mem_append_left _ hp))))))))
          have kB9 := cov3.keep F7 (News.sub N7 fun p hp => .tail _ (.tail _ (.tail _ (.tail _ (.tail _ (.tail _ (.tail _ (List.mem_append_right _ hp))))))))
          have zJ := N7 (J, oJ) (.tail _ (.tail _ (.tail _ (.head _))))
          obtain ⟨nw', w1, w2, w3, w4⟩ := rowI_end (J := J) (I := I) (Rw := R2) (Ro := Ro) (l := l) (tw := tw) (vs := vs) (n := n) (sh := sh) (k := k) (r := r) (rest := rest) (acc := acc ++ new) (rvs := rvs) (nR := nR) (ys := ys ++ ys5) (nY := n6) (oI := oI) F7 N7 (by walk_at "mem") ⟨_, e2⟩ ⟨_, e1⟩ (by exact c1) (by exact c2) (by exact c3) (by rfl) ⟨_, by exact c5⟩ cI (fun o eo => by rw [zJ.1] at eo; cases eo; exact cJ')
            (hR'.mono fun _ _ => rowM_of kB8 hn) (Al2.app ((hal5'.mono fun _ _ => pair_kt kt3).mono fun _ _ => pair_kt (KT.of kB9)) (hA.mono fun _ _ => pair_kt (KT.of kB8))) (hk'.mono fun _ _ => ksc_kt (KT.of kB8)) (hr'.mono fun _ _ => ksc_kt (KT.of kB8)) (fun x hx => hin x (.tail _ hx)) he x1 x2 x3 x4 x5
          exact ⟨_, _, _, nw', rfl, F7, News.add w1 zJ.1 zJ.2.1 zJ.2.2, fun p hp q hq => by rw [List.mem_singleton.mp hq]; exact w2 p hp, w3, w4⟩
end

section
open PySem PySem.W PyProof.Rows PySem.Calls
set_option maxRecDepth 100000
set_option maxHeartbeats 0
open PyProof.Rows.LCg
theorem meant_pl : ∀ k, k < 16 → (meant k).cps.toList = plL.getD k [] := by decide +kernel
theorem shop_sub : ∀ (ns : List Nat) (k : Nat), k + ns.length ≤ 16 → ((shopOf k ns).map fun e => (meant e.1).cps.toList).Sublist (plL.drop k)
  | [], _, _ => List.nil_sublist _
  | n :: r, k, h => by
    have hl : plL.length = 16 := rfl
    rw [List.length_cons] at h
    have hk : k < plL.length := by omega
    have ih := shop_sub r (k + 1) (by omega)
    rw [List.drop_eq_getElem_cons hk]
    by_cases hb : n % 5 < 4
    · rw [show shopOf k (n :: r) = soldOf k n :: shopOf (k + 1) r from if_pos hb, List.map_cons]
      have e : (meant (soldOf k n).1).cps.toList = plL[k] := by
        show (meant k).cps.toList = _
        rw [meant_pl k (by omega), List.getD_eq_getElem?_getD, List.getElem?_eq_getElem hk]
        rfl
      rw [e]
      exact ih.cons_cons _
    · rw [show shopOf k (n :: r) = shopOf (k + 1) r from if_neg hb]
      exact ih.cons _
theorem shop_mem : ∀ (ns : List Nat) (k : Nat), k + ns.length ≤ 16 → (∀ n ∈ ns, n ≤ 1000000000) → ∀ e ∈ shopOf k ns, e.1 < 16 ∧ (∃ n, e.2.1 = signOf e.1 n) ∧ 0 ≤ e.2.2 ∧ e.2.2 ≤ 1000000000
  | [], _, _, _, _, he => nomatch he
  | n :: r, k, h, hn, e, he => by
    rw [List.length_cons] at h
    have ih := shop_mem r (k + 1) (by omega) (fun x hx => hn x (.tail _ hx)) e
    by_cases hb : n % 5 < 4
    · rw [show shopOf k (n :: r) = soldOf k n :: shopOf (k + 1) r from if_pos hb] at he
      rcases List.mem_cons.mp he with rfl | he
      · refine ⟨by show k < 16; omega, ⟨_, rfl⟩, ?_⟩
        have hn' := hn n (.head _)
        show 0 ≤ (if n % 5 = 3 then ((n / 5 % 4 : Nat) : Int) else ((n / 5 : Nat) : Int)) ∧ (if n % 5 = 3 then ((n / 5 % 4 : Nat) : Int) else ((n / 5 : Nat) : Int)) ≤ 1000000000
        split <;> omega
      · exact ih he
    · rw [show shopOf k (n :: r) = shopOf (k + 1) r from if_neg hb] at he
      exact ih he
theorem shopOf_length : ∀ (ns : List Nat) (k : Nat), (shopOf k ns).length ≤ ns.length
  | [], _ => Nat.le_refl _
  | n :: r, k => by
    have ih := shopOf_length r (k + 1)
    by_cases hb : n % 5 < 4
    · rw [show shopOf k (n :: r) = soldOf k n :: shopOf (k + 1) r from if_pos hb, List.length_cons, List.length_cons]; omega
    · rw [show shopOf k (n :: r) = shopOf (k + 1) r from if_neg hb, List.length_cons]; omega
theorem shopW_of (ns : List Nat) (h : ns.length ≤ 16) (hn : ∀ n ∈ ns, n ≤ 1000000000) : ShopW (shopOf 0 ns) :=
  ⟨fun e he => (shop_mem ns 0 (by omega) hn e he).1, fun e he => (shop_mem ns 0 (by omega) hn e he).2.1, fun e he => (shop_mem ns 0 (by omega) hn e he).2.2⟩
theorem word_bounds (i j k : Nat) (hi : i < 16) (hj : j < 5) (hk : k < 16) (ns : List Nat) (h : ns.length ≤ 16) (hn : ∀ n ∈ ns, n ≤ 1000000000) :
    wt (meant i ++ meant j ++ meant k).cps.toList ((shopOf 0 ns).map toSold) (meant i ++ meant j ++ meant k).cps.toList.length ≤ 2000 ∧
    (∀ d, d ≤ (meant i ++ meant j ++ meant k).cps.toList.length → (ways (meant i ++ meant j ++ meant k).cps.toList ((shopOf 0 ns).map toSold) d).length ≤ 63) ∧
    (meant i ++ meant j ++ meant k).length ≤ 100 := by
  have hlen : (meant i ++ meant j ++ meant k).length = (meant i ++ meant j ++ meant k).cps.toList.length := (Array.length_toList).symm
  have e : (meant i ++ meant j ++ meant k).cps.toList = (meant i).cps.toList ++ ((meant j).cps.toList ++ (meant k).cps.toList) := by
    rw [Str.cps_append, Str.cps_append]; simp
  have l1 := meant_short i hi
  have l2 := meant_short j (by omega)
  have l3 := meant_short k hk
  have hW : (meant i ++ meant j ++ meant k).length ≤ 100 := by rw [hlen, e, List.length_append, List.length_append]; omega
  have hm : ∀ k, k < 16 → (meant k).cps.toList ∈ plL := fun k hk => by
    rw [meant_pl k hk, List.getD_eq_getElem?_getD, List.getElem?_eq_getElem (show k < plL.length from hk)]
    exact List.getElem_mem _
  have hl5 : (meant j).cps.toList ∈ letters := by
    rw [meant_pl j (by omega)]
    have : ∀ j, j < 5 → plL.getD j [] ∈ letters := by decide
    exact this j hj
  have hne : Nonempty ((shopOf 0 ns).map toSold) := fun e he => by
    obtain ⟨x, hx, rfl⟩ := List.mem_map.mp he
    exact meant_pos _ ((shopW_of ns h hn).kind x hx)
  have hs : (((shopOf 0 ns).map toSold).map fun e => e.plain.cps.toList).Sublist plL := by
    rw [List.map_map]
    exact shop_sub ns 0 (by omega)
  obtain ⟨f1, f2⟩ := word_fine (hm i hi) hl5 (hm k hk)
  rw [← e] at f1 f2
  exact ⟨Nat.le_trans (wt_cnt _ _ hne hs) f2, fun d hd => Nat.le_trans (ways_cnt _ _ hne hs hd) (f1 _ (cntL_mem _ _ (by omega))), hW⟩
end

section
open PySem PySem.W PyProof.Rows PySem.Calls
set_option maxRecDepth 100000
set_option maxHeartbeats 0
open PyProof.Rows.LCg
section pure
variable (word : List Nat) (S : List Sold)
theorem rows_strs (hS : ∀ e ∈ S, e.sign.cps.all (· < 0x110000) = true) : ∀ k, ∀ row : List Way, ∀ j : Nat, (rowsTo word S k)[j]? = some row → ∀ q : Way, q ∈ row → q.2.cps.all (· < 0x110000) = true
  | 0, row, j, hj, q, hq => by
    cases j with
    | zero => cases hj; rw [List.mem_singleton.mp hq]; simp
    | succ j => cases hj
  | k + 1, row, j, hj, q, hq => by
    have hl : (rowsTo word S k).length = k + 1 := rowsTo_length word S k
    by_cases h : j < k + 1
    · rw [show rowsTo word S (k + 1) = rowsTo word S k ++ [rowOf word S (rowsTo word S k) (k + 1)] from rfl, List.getElem?_append_left (by omega)] at hj
      exact rows_strs hS k row j hj q hq
    · have hj2 : j < (rowsTo word S (k + 1)).length := (List.getElem?_eq_some_iff.mp hj).1
      rw [rowsTo_length] at hj2
      obtain rfl : j = k + 1 := by omega
      rw [show rowsTo word S (k + 1) = rowsTo word S k ++ [rowOf word S (rowsTo word S k) (k + 1)] from rfl, List.getElem?_append_right (by omega), hl, Nat.sub_self] at hj
      cases hj
      obtain ⟨e, he, hq⟩ := List.mem_flatMap.mp hq
      obtain ⟨q', hq', rfl⟩ := List.mem_map.mp hq
      have s1 := hS e (List.mem_filter.mp he).1
      have : q'.2.cps.all (· < 0x110000) = true := by
        cases e1 : (rowsTo word S k)[k + 1 - e.plain.cps.toList.length]? with
        | none => rw [List.getD_eq_getElem?_getD, e1] at hq'; exact absurd hq' (by simp)
        | some row' =>
          rw [List.getD_eq_getElem?_getD, e1] at hq'
          exact rows_strs hS k row' _ e1 q' hq'
      show (e.sign ++ q'.2).cps.all (· < 0x110000) = true
      rw [Str.cps_append, Array.all_append, s1, this]
      rfl
theorem ways_strs (hS : ∀ e ∈ S, e.sign.cps.all (· < 0x110000) = true) (k : Nat) (q : Way) (hq : q ∈ ways word S k) : q.2.cps.all (· < 0x110000) = true :=
  rows_strs word S hS k (ways word S k) k (by
    unfold ways
    rw [List.getD_eq_getElem?_getD, List.getElem?_eq_getElem (by rw [rowsTo_length]; exact Nat.lt_succ_self _)]; rfl) q hq
theorem wsort_ok (l : List Way) : ∃ out : List Way, out.Perm l ∧ out.Pairwise wle := by
  refine ⟨l.mergeSort (fun a b => !wlt b a), List.mergeSort_perm _ _, ?_⟩
  refine (List.pairwise_mergeSort (le := fun a b => !wlt b a) (fun a b c h1 h2 => ?_) (fun a b => ?_) l).imp fun h => ?_
  · simp only [Bool.not_eq_true'] at h1 h2 ⊢
    exact wle_trans (a := a) (b := b) (c := c) h1 h2
  · cases h : wlt b a with
    | false => simp
    | true => rw [show wlt a b = false from tot_wlt.asymm h]; rfl
  · have h2 : (!wlt _ _) = true := h
    exact (Bool.not_eq_true' _).mp h2
end pure
def datW (q : Way) : Dat := .tuple [.int q.1, .str q.2]
theorem reads_ways {h : Heap} : ∀ {ys : List Value} {ws : List Way}, Al2 (PairH h) ys ws → ∃ as, ReadsAll h ys (kqdPs (ws.map datW)) as
  | [], [], _ => ⟨_, ReadsAll.nil⟩
  | y :: ys, q :: ws, hal => by
    obtain ⟨⟨a, t1, t2, rfl, o, ho, hc, n, hd⟩, h2⟩ := hal
    obtain ⟨as, r⟩ := reads_ways h2
    refine ⟨_, ReadsAll.cons (reads_tuple_at ho hc hd (ReadsAll.cons (Reads.int q.1 t1) (ReadsAll.cons (Reads.str q.2 t2) ReadsAll.nil))) r⟩
  | [], _ :: _, h => h.elim
  | _ :: _, [], h => h.elim
section
variable {prog : Program} {w : World} {A : Around} {E : Value → Shared → Prop} {s : Shared}
theorem eq_ways {a b : Addr} {xs ys : List Value} {n n' : Nat} {ws : List Way} {Q : Value → Shared → Prop} (ha : s.heap.get? a = some (listOf xs.toArray n)) (hb : s.heap.get? b = some (listOf ys.toArray n')) (ea : Al2 (PairH s.heap) xs ws) (eb : Al2 (PairH s.heap) ys ws)
    (hs : ∀ q ∈ ws, q.2.cps.all (· < 0x110000) = true) (hu : A.units + 64 < cLine) (h : Q (.bool true) s) : wpAny (model prog w) A (compareOp .Eq (.ref a) (.ref b)) Q E s := by
  obtain ⟨as, ra⟩ := reads_ways ea
  obtain ⟨bs, rb⟩ := reads_ways eb
  have hk : kqdOk 9 (.list (ws.map datW)) = true := by
    simp only [kqdOk, List.all_eq_true]
    intro d hd
    obtain ⟨q, hq, rfl⟩ := List.mem_map.mp hd
    simp only [datW, kqdOk, List.all_cons, List.all_nil, Bool.and_true, Bool.true_and]
    exact hs q hq
  have l := kqd_lay 9 _ hk
  have e : PyData.eqv (kqdP (.list (ws.map datW))) (kqdP (.list (ws.map datW))) = true := (kqd_eqv 9 _ _ 9 hk hk).mpr rfl
  rw [kqdP] at l e
  have sh : SeqAt.shaped (.list (kqdPs (ws.map datW))) = true := by
    unfold SeqAt.shaped; rw [l.1, Bool.true_and]; exact decide_eq_true (Nat.le_trans l.2 (by decide))
  exact eq_dataH (reads_list_at ha rfl rfl (by simpa using ra)) (reads_list_at hb rfl rfl (by simpa using rb)) sh sh hu (by rw [e]; exact h)
end
theorem pick17 (vs : List Value) : slicePick vs.toArray (some 1) (some 17) none = ((vs.drop 1).take 16).toArray := by
  rw [kms_pick_eq]
  by_cases h : vs.length < 1
  · have : vs = [] := List.length_eq_zero_iff.mp (by omega)
    subst this
    rfl
  · have e1 : kms_lo (some 1) vs.length = 1 := by show (if (1 : Int) < 0 then vs.length - (-1 : Int).toNat else min (1 : Int).toNat vs.length) = 1; rw [if_neg (by decide)]; show min 1 vs.length = 1; omega
    have e2 : kms_hi (some 17) vs.length = min 17 vs.length := by show (if (17 : Int) < 0 then vs.length - (-17 : Int).toNat else min (17 : Int).toNat vs.length) = min 17 vs.length; rw [if_neg (by decide)]; rfl
    show (((vs.drop (kms_lo (some 1) vs.length)).take (kms_hi (some 17) vs.length - kms_lo (some 1) vs.length))).toArray = _
    rw [e1, e2]
    congr 1
    by_cases h2 : 17 ≤ vs.length
    · rw [Nat.min_eq_left h2]
    · rw [Nat.min_eq_right (by omega), List.take_of_length_le (by rw [List.length_drop]; omega), List.take_of_length_le (by rw [List.length_drop]; omega)]
end

section
open PySem PySem.W PyProof.Rows PySem.Calls
set_option maxRecDepth 100000
set_option maxHeartbeats 0
open PyProof.Rows.LCg
theorem fmod_nat (z : Int) (k : Nat) (hk : 0 < k) : ∃ d : Nat, d < k ∧ z.fmod (k : Int) = (d : Int) := by
  have e := Int.fmod_eq_emod_of_nonneg z (show (0 : Int) ≤ (k : Int) by omega)
  have h0 := Int.emod_nonneg z (show (k : Int) ≠ 0 by omega)
  have h1 := Int.emod_lt_of_pos z (show (0 : Int) < (k : Int) by omega)
  exact ⟨(z % (k : Int)).toNat, by omega, by rw [e]; omega⟩
theorem Al2.ci {α β : Type} {R : α → β → Prop} {a : α} {b : β} {as : List α} {bs : List β} (h : R a b) (t : Al2 R as bs) : Al2 R (a :: as) (b :: bs) := ⟨h, t⟩
theorem Al2.ni {α β : Type} {R : α → β → Prop} : Al2 R ([] : List α) ([] : List β) := trivial
theorem Al2.drop {α β : Type} {R : α → β → Prop} : ∀ (k : Nat) {as : List α} {bs : List β}, Al2 R as bs → Al2 R (as.drop k) (bs.drop k)
  | 0, _, _, h => h
  | k + 1, [], [], _ => trivial
  | k + 1, _ :: _, _ :: _, h => Al2.drop k h.2
  | _ + 1, [], _ :: _, h => h.elim
  | _ + 1, _ :: _, [], h => h.elim
theorem Al2.take {α β : Type} {R : α → β → Prop} : ∀ (k : Nat) {as : List α} {bs : List β}, Al2 R as bs → Al2 R (as.take k) (bs.take k)
  | 0, _, _, _ => trivial
  | k + 1, [], [], _ => trivial
  | k + 1, _ :: _, _ :: _, h => ⟨h.1, Al2.take k h.2⟩
  | _ + 1, [], _ :: _, h => h.elim
  | _ + 1, _ :: _, [], h => h.elim
def IntZ (v : Value) (z : Int) : Prop := ∃ t, v = .int z t
theorem ints_al2 {vs : List Value} {zs : List Int} (h : IntsAre vs zs) : Al2 IntZ vs zs := by
  induction h with
  | nil => trivial
  | cons z t _ ih => exact ⟨⟨t, rfl⟩, ih⟩
def planL : List Nat := [5, 10, 15, 25, 6, 20, 16, 10, 15, 9, 21, 11, 13, 25, 14, 5]
/-- what the first statement leaves -/
def DrawnI (s : Shared) (L l : Addr) (fl : Flow) (s' : Shared) : Prop :=
  fl = .next ∧ ∃ (d : Nat) (t : Tok) (h' : Heap) (tk : Nat) (m : Str → Option Value), d < 1280 ∧ s' = { s with heap := h', toks := tk } ∧ Fr s.heap L h' m ∧ m (Str.ofString "drawn") = some (.int (d : Int) t) ∧ m (Str.ofString "script") = some (.ref l)
theorem law_ok {prog : Program} {w : World} {A : Around} {E : Value → Shared → Prop} {s : Shared} {g : Heap} {mg mb : Str → Option Value} {l : Addr} {vs : List Value} {zs : List Int} {Q : Value → Shared → Prop}
    (G : GdAt mg mb g) (hg : ∀ b o, g.get? b = some o → s.heap.get? b = some o) (hl : s.heap.IsList l vs.toArray) (hI : IntsAre vs zs) (hlen : vs.length ≤ 63) (hdp : A.depth < 500) (hun : A.units < 5000) (hh : A.handled = none)
    (hend : ∀ h' tk, (∀ b o, s.heap.get? b = some o → h'.get? b = some o) → Q (.bool true) { s with heap := h', toks := tk }) :
    wpAny (model prog w) A (call (.ref 131) [.ref l]) Q E s := by
  have Fn := G.fn_law
  generalize hD : fdAt 15 = d at Fn
  conv at hD => lhs; whnf
  subst hD
  obtain ⟨fo, pm, cdv, doc, ho, hd, hc⟩ := Fn
  k_dflt (refine' callFn0 G hg ho hd hc ?r ?b ?lo ?ce ?co ?ge ?k ?_; (case b => exact BindsTo.of_eq rfl); (case r => show A.depth < 1000; omega); (case lo => exact locs rfl); (case ce => decide); (case co => rfl); (case ge => rfl); (case k => rfl))
  intro h₁ F N G'
  dsimp only
  clear hd hc ho
  have X : Frag.In [] s.heap := no_part
  have nm := G'.nms
  have fs := G'.fns
  obtain ⟨mean, T⟩ := G'.t
  w_on
  generalize hLs : s.heap.objs.size = L at F N ⊢
  refine wpAny_execs_cons ?_
  refine wpAny_mono (Q := DrawnI s L l) ?first ?rest fun _ _ x => x
  case first =>
    walk_at "goA"
    with_reducible rename Fr _ _ _ _ => F1
    refine wpAny_truthy_list (hl.at (F1.keep l)) (by rw [List.size_toArray]; omega) ?_
    cases hI with
    | nil =>
      rw [if_neg (by simp)]
      walk_at "goA"
      with_reducible rename Fr _ _ _ _ => F2
      exact ⟨rfl, 981, _, _, _, _, by decide, rfl, F2, rfl, rfl⟩
    | cons z t hI =>
      rw [if_pos (by simp)]
      walk_at "goA"
      with_reducible rename Fr _ _ _ _ => F1
      refine item_list_ints (hl.at (F1.keep l)) (.cons z t hI) (by decide) (by simp) (by decide) (fun t1 => ?_)
      walk_at "goA"
      refine call_int_int ?_
      walk_at "goA"
      with_reducible rename Fr _ _ _ _ => F2
      obtain ⟨d, hd, ed⟩ := fmod_nat z 1280 (by decide)
      try dsimp only at F2
      try dsimp only
      exact ⟨rfl, d, _, _, _, _, hd, rfl, F2, congrArg (fun x => some (Value.int x _)) ed, rfl⟩
  case rest =>
    rintro fl s' ⟨rfl, d, t, h', tk, m, hd, rfl, F1, m1, m2⟩
    clear F N
    have N1 : News s.heap L h' [] := fun _ hp => nomatch hp
    try dsimp only
    walk_at "goA"
    try dsimp only
    rw [show (d : Int).fmod 16 = ((d % 16 : Nat) : Int) by rw [Int.fmod_eq_emod_of_nonneg _ (by omega)]; omega]
    with_reducible rename Fr _ _ _ _ => F2
    refine meant_ok (k := d % 16) G' F2.keep (by show A.depth + 1 < 900; omega) (by omega) fun h3 tk3 t3 hk3 => ?_
    have F3 := F2.keeps hk3
    have N3 := N1.grown hk3
    clear F2 N1
    try dsimp only
    walk_at "goA"
    try dsimp only
    rw [show ((d : Int).fdiv 16).fmod 5 = ((d / 16 % 5 : Nat) : Int) by rw [Int.fmod_eq_emod_of_nonneg _ (by omega), Int.fdiv_eq_ediv_of_nonneg _ (by omega)]; omega]
    with_reducible rename Fr _ _ _ _ => F4
    with_reducible rename News _ _ _ _ => N4
    refine meant_ok (k := d / 16 % 5) G' F4.keep (by show A.depth + 1 < 900; omega) (by omega) fun h5 tk5 t5 hk5 => ?_
    have F5 := F4.keeps hk5
    have N5 := N4.grown hk5
    clear F4 N4
    have q1 : (meant (d % 16)).length ≤ 3 := Nat.le_trans (Nat.le_of_eq (Array.length_toList).symm) (meant_short (d % 16) (by omega))
    have q2 : (meant (d / 16 % 5)).length ≤ 3 := Nat.le_trans (Nat.le_of_eq (Array.length_toList).symm) (meant_short (d / 16 % 5) (by omega))
    try dsimp only
    walk_at "goA"
    try dsimp only
    rw [show (d : Int).fdiv 80 = ((d / 80 : Nat) : Int) by rw [Int.fdiv_eq_ediv_of_nonneg _ (by omega)]; omega]
    with_reducible rename Fr _ _ _ _ => F4
    with_reducible rename News _ _ _ _ => N4
    refine meant_ok (k := d / 80) G' F4.keep (by show A.depth + 1 < 900; omega) (by omega) fun h6 tk6 t6 hk6 => ?_
    have F6 := F4.keeps hk6
    have N6 := N4.grown hk6
    clear F4 N4
    have q3 : (meant (d / 80)).length ≤ 3 := Nat.le_trans (Nat.le_of_eq (Array.length_toList).symm) (meant_short (d / 80) (by omega))
    try dsimp only
    walk_at "goA"
    try dsimp only
    rename_i P _ _ _ F7 N7
    obtain ⟨pvs, hpv, N8⟩ : ∃ pvs : List Value, Al2 IntN pvs planL ∧ News s.heap L _ [(P, listOf pvs.toArray 0)] := by
      refine ⟨_, ?_, N7⟩
      exact .ci ⟨_, rfl⟩ (.ci ⟨_, rfl⟩ (.ci ⟨_, rfl⟩ (.ci ⟨_, rfl⟩ (.ci ⟨_, rfl⟩ (.ci ⟨_, rfl⟩ (.ci ⟨_, rfl⟩ (.ci ⟨_, rfl⟩ (.ci ⟨_, rfl⟩ (.ci ⟨_, rfl⟩ (.ci ⟨_, rfl⟩ (.ci ⟨_, rfl⟩ (.ci ⟨_, rfl⟩ (.ci ⟨_, rfl⟩ (.ci ⟨_, rfl⟩ (.ci ⟨_, rfl⟩ (.ni))))))))))))))))
    clear N7
    generalize hmm : (fun y => if y = Str.ofString "plan" then some (Value.ref P) else _) = m8 at F7
    have b1 : m8 (Str.ofString "plan") = some (.ref P) := by rw [← hmm]; rfl
    have b2 : m8 (Str.ofString "script") = some (.ref l) := by rw [← hmm]; exact m2
    obtain ⟨tS, b3⟩ : ∃ tS, m8 (Str.ofString "spoken") = some (.str (meant (d % 16) ++ meant (d / 16 % 5) ++ meant (d / 80)) tS) := by rw [← hmm]; exact ⟨_, rfl⟩
    clear hmm m1 m2 hk3 hk5 hk6
    refine assignCompJ F7 (es := (zs.drop 1).take 16) (p := fun _ => true) (f := fun z => (z.fmod 1000000000).toNat) (fun _ v n => IntN v n) (fun _ _ _ _ _ x => x) hh (by rfl) (by with_unfolding_all rfl) (by with_unfolding_all rfl) (by decide) (by rfl) (by decide) (by rfl) (by rfl) ?_
    walk_at "goA"
    try dsimp only
    with_reducible rename Fr _ _ _ _ => F9
    with_reducible rename News _ _ _ _ => N9
    refine slice_list (s := { s with heap := _, toks := _ }) (items := vs.toArray) (lo := some 1) (hi := some 17) F9 N9 (hl.at (F9.keep l)) (.int 1 _) (.int 17 _) (fun h10 F10 N10 => ?_) (subs_slice _ _ _ _ _) (fun _ => rfl) (by rw [List.size_toArray, sizeLine_eq]; omega)
    rw [pick17] at N10
    clear F9 N9
    try dsimp only at N10 ⊢
    have hal := Al2.take 16 (Al2.drop 1 (ints_al2 hI))
    generalize hms : (vs.drop 1).take 16 = ms at hal N10
    have hms16 : ms.length ≤ 16 := by rw [← hms]; exact List.length_take_le _ _
    generalize hes : (zs.drop 1).take 16 = es at hal ⊢
    rename_i h9
    generalize h9.objs.size + 1 = D0 at N10 ⊢
    have z0 := N10 (D0, _) (.head _)
    refine ⟨D0, ms, rfl, F10, ⟨_, z0.1, rfl, _, rfl⟩, z0.2.1, hal.length, by omega, ?turn, ?fin⟩
    case turn =>
      intro i v z h tk C mC hv he F2 hk hn hC hCL hC₀ E'
      obtain ⟨z', hz', t9, rfl⟩ := hal.get hv
      rw [he] at hz'
      cases hz'
      refine nameC hn (by rfl) (by rfl) fun h2 tk2 hn2 hk2 => ?_
      refine wpAny_tests_nil ⟨rfl, ?_⟩
      rw [if_pos rfl]
      obtain ⟨oC, nC, F3, N3⟩ := turn0 F2 hn2 hk2 hCL hC₀
      have F2k := F2.keep
      clear F2 F10 N10 z0
      walk_at "goA"
      refine call_int_int ?_
      walk_at "goA"
      all_goals (with_reducible rename Fr _ _ _ _ => F6)
      all_goals (with_reducible rename News _ _ _ _ => N6)
      · exact kp_end F6 N6 F2k (.head _) nC (fun p hp => .tail _ hp)
      · obtain ⟨d9, hd9, ed9⟩ := fmod_nat z 1000000000 (by decide)
        have ed9' : z.fmod 1000000000 = (d9 : Int) := ed9
        refine ⟨_, congrArg (fun x => Value.int x _) ?_⟩
        show z.fmod 1000000000 = (((z.fmod 1000000000).toNat : Nat) : Int)
        rw [ed9']; rfl
    case fin =>
      intro D1 ys1 h tk F2' hk hD hDn hDL hD0 hal1 h11 tk11 F11 hk11 hD11 _ _ _ hal11
      clear F2' hk hal1 hD
      have hcl := hal11.length
      have zP := N10 (P, _) (.tail _ (.head _))
      have N11 : News s.heap L h11 [(D1, lst ys1), (P, listOf pvs.toArray 0)] := fun p hp => by
        rcases List.mem_cons.mp hp with rfl | hp
        · exact ⟨hD11, hDL, hD0⟩
        · rw [List.mem_singleton.mp hp]; exact ⟨hk11 _ _ zP.2.1 zP.1, zP.2⟩
      clear N10 F10 hk11 hD11 hDn z0 zP
      try dsimp only
      walk_at "goA"
      try dsimp only
      have hys : ys1.length ≤ 16 := by
        rw [hcl, List.length_map]
        exact Nat.le_trans (List.length_filter_le _ _) (by rw [← hal.length]; exact hms16)
      have hpl : pvs.length = 16 := hpv.length
      refine len_at (vs := ys1) (n := ys1.length) (N11 (D1, _) (.head _)).1 (by omega) fun t12 tk12 => ?_
      try dsimp only
      walk_at "goA"
      try dsimp only
      with_reducible rename Fr _ _ _ _ => F12
      with_reducible rename News _ _ _ _ => N12
      have zP := N12 (P, _) (.tail _ (.head _))
      refine slice_list (s := { s with heap := _, toks := _ }) (items := pvs.toArray) (lo := some (ys1.length : Int)) (hi := none) F12 N12 ⟨_, zP.1, rfl, _, rfl⟩ (.int _ _) .none (fun h13 F13 N13 => ?_) (subs_slice _ _ _ _ _) (fun _ => rfl) (by rw [List.size_toArray, sizeLine_eq]; omega)
      rw [slicePick_from'] at N13
      clear F12 N12 zP
      try dsimp only at N13 ⊢
      walk_at "goA"
      generalize h11.objs.size + 1 = D2 at N13 ⊢
      refine add_lists (vs := ys1) (ws := pvs.drop ys1.length) F13 N13 ⟨_, (N13 (D1, _) (.tail _ (.head _))).1, rfl, _, rfl⟩ ⟨_, (N13 (D2, _) (.head _)).1, rfl, _, rfl⟩ (fun h14 F14 N14 => ?_) (by rw [sizeLine_eq, List.length_drop]; omega)
      clear F13 N13
      generalize h13.objs.size = D3 at N14 ⊢
      have halS : Al2 IntN (ys1 ++ pvs.drop ys1.length) (((es.filter fun _ => true).map fun z => (z.fmod 1000000000).toNat) ++ planL.drop ys1.length) := Al2.app (Al2.drop _ hpv) hal11
      generalize hns : ((es.filter fun _ => true).map fun z => (z.fmod 1000000000).toNat) ++ planL.drop ys1.length = ns at halS
      have hnl : ns.length ≤ 16 := by
        rw [← hns, List.length_append, ← hcl, List.length_drop]
        show ys1.length + (16 - ys1.length) ≤ 16
        omega
      have hnb : ∀ n ∈ ns, n ≤ 1000000000 := fun n hn => by
        rw [← hns] at hn
        rcases List.mem_append.mp hn with hn | hn
        · obtain ⟨z, _, rfl⟩ := List.mem_map.mp hn
          obtain ⟨d9, hd9, ed9⟩ := fmod_nat z 1000000000 (by decide)
          have ed9' : z.fmod 1000000000 = (d9 : Int) := ed9
          rw [ed9']
          show d9 ≤ _
          omega
        · have : ∀ n ∈ planL, n ≤ 1000000000 := by decide
          exact this n (List.mem_of_mem_drop hn)
      try dsimp only
      walk_at "goA"
      try dsimp only
      with_reducible rename Fr _ _ _ _ => F14
      with_reducible rename News _ _ _ _ => N14
      have z3 := N14 (D3, _) (.head _)
      refine shop_ok (l := D3) (n := 0) (vs := ys1 ++ pvs.drop ys1.length) (ns := ns) G' F14.keep z3.2.2 z3.1 (by show A.depth + 1 < 800; omega) (by show A.units + 3 < 8000; omega) hh halS hnl fun h15 tk15 D4 ys4 n4 hk15 hD4 hD4n hal4 => ?_
      have F15 := F14.keeps hk15
      have hD4n' : h14.get? D4 = none := hD4n
      have hD4L : D4 ≠ L := fun q => by
        obtain ⟨o', es', ep, q1, _⟩ := F14.ns
        rw [q, q1] at hD4n'; cases hD4n'
      have hD40 : s.heap.get? D4 = none := by
        cases q : s.heap.get? D4 with
        | none => rfl
        | some o => rw [F14.keep _ _ q] at hD4n'; cases hD4n'
      have N15 : News s.heap L h15 [(D4, listOf ys4.toArray n4)] := fun p hp => by rw [List.mem_singleton.mp hp]; exact ⟨hD4, hD4L, hD40⟩
      obtain ⟨t15, gB, N15, off15, cov15, kt15, _, _⟩ := backG F15 N15 (M := [L, D4]) (.head _) (NoTup.consNs F15.ns (NoTup.consL hD4 (by simp) NoTup.nil))
      have N15 : News s.heap L h15 ((D4, listOf ys4.toArray n4) :: t15) := N15
      have hal4 := hal4.mono fun _ _ => ksc_kt kt15
      obtain ⟨B1, B2, B3⟩ := word_bounds (d % 16) (d / 16 % 5) (d / 80) (by omega) (by omega) (by omega) ns hnl hnb
      have SW := shopW_of ns hnl hnb
      have slen : (shopOf 0 ns).length ≤ 16 := Nat.le_trans (shopOf_length ns 0) hnl
      clear F14 N14 z3 hk15 hD4 hD4n hD4n' q1 q2 q3
      generalize meant (d % 16) ++ meant (d / 16 % 5) ++ meant (d / 80) = W at *
      generalize hsh : shopOf 0 ns = sh at *
      obtain ⟨out, ho1, ho2⟩ := wsort_ok (ways W.cps.toList (sh.map toSold) W.cps.toList.length)
      try dsimp only
      walk_at "goA"
      try dsimp only
      with_reducible rename Fr _ _ _ _ => F16
      with_reducible rename News _ _ _ _ => N16
      have k16 := cov15.keep F16 (News.sub N16 fun p hp => .tail _ hp)
      have z4 := N16 (D4, _) (.head _)
      have hal16 := hal4.mono fun _ _ => ksc_kt (KT.of k16)
      refine told_ok (l := D4) (n := n4) (vs := ys4) (sh := sh) (out := out) G' F16.keep z4.2.2 z4.1 (by show A.depth + 1 < 600; omega) (by show A.units + 3 < 6000; omega) hh hal16 SW slen B1 (B2 _ (Nat.le_refl _)) ho1 ho2 B3 fun h17 tk17 D5 ys5 n5 hk17 hD5 hD5n hal5 => ?_
      have F17 := F16.keeps hk17
      have N17 := N16.grown hk17
      clear F16 N16
      try dsimp only
      walk_at "goA"
      try dsimp only
      with_reducible rename Fr _ _ _ _ => F18
      with_reducible rename News _ _ _ _ => N18
      have k18 := cov15.keep F18 (News.sub N18 fun p hp => .tail _ hp)
      have z5 := N18 (D4, _) (.head _)
      have hal18 := hal4.mono fun _ _ => ksc_kt (KT.of k18)
      refine ways_ok (l := D4) (n := n4) (vs := ys4) (sh := sh) G' F18.keep z5.2.2 z5.1 (by show A.depth + 1 < 600; omega) (by show A.units + 3 < 6000; omega) hh hal18 SW slen B2 B3 fun h19 tk19 D6 ys6 n6 out6 hk19 hD6 hD6n hal6 p6 s6 => ?_
      obtain rfl : out = out6 := sorted_unique ho2 s6 (ho1.trans p6.symm)
      have F19 := F18.keeps hk19
      try dsimp only
      refine eq_ways (ws := out) (hk19 _ _ hD5) hD6 (hal5.mono fun _ _ => pair_kt (KT.of hk19)) hal6 (fun q hq => ways_strs W.cps.toList (sh.map toSold) (fun e he => ?_) _ q (ho1.mem_iff.mp hq)) (by show A.units + 3 + 64 < 9900; omega) ?_
      · obtain ⟨x, hx, rfl⟩ := List.mem_map.mp he
        obtain ⟨n0, hn0⟩ := SW.sign x hx
        show x.2.1.cps.all (· < 0x110000) = true
        rw [hn0]
        exact (sign_chars _ _ (SW.kind x hx)).2
      exact hend h19 _ F19.keep
end

end
end Mine
end
section
open PySem PySem.W PyProof.Rows PySem.Calls
set_option maxRecDepth 100000
set_option maxHeartbeats 0
namespace Mine
theorem said_ok : PySem.Challenge.rw_mq0304_01.wellSaid = true := by kernel_rfl
theorem law_holds : PySem.Challenge.rw_mq0304_01.Holds := by
  w_on
  refine holds_law said_ok fun said => ?_
  refine holds_open (q := vw) (loose := lse) (Xt := Xt) (XP := XL vw []) (Yf := obs) (Ya := fun _ => (where_, some (dictObj (dEnts 189 prs) 650), true)) (YP := Says) (N := NN) left_ok says_of says_keeps (fun s e => xl_of s (Bool.and_eq_true_iff.mp e).1) XL.keeps (by rfl) (by rfl) (by rfl) (fun s e => recFacts_of (Bool.and_eq_true_iff.mp e).2) (by rfl) (by assumption) (by decide +kernel) ⟨rfl, rfl, rfl, rfl, rfl, by decide +kernel⟩ ?hw ?hc
  case hw => w_witness2
  intro w s₀ s₁ mg mb G Y fa o pm cd doc dV kV ho hd hcd hD hmg hg args vals as hpre hlay hrd hwl hlo
  refine Ground.open G ?_
  intro T B D TE TW
  wrow_args hpre hlay hrd hwl hlo
  clear hcd hD hd B D TE TW
  rename_i zs _ _ _ _ _ _ l vs _ hl _ _ _ hI _ hcond _
  obtain ⟨mg', y1, y2, y3⟩ := Y
  obtain rfl := ns_same T.g y1
  have GD : GdAt mg mb s₁.heap := ⟨⟨_, T⟩, y2, y3⟩
  have e1 := GD.nms.law
  have hmg' : mg (Str.ofString "law") = some (.ref fa) := hmg
  rw [e1] at hmg'
  cases hmg'
  have hlen : vs.length ≤ 63 := by have := hI.length; omega
  refine law_ok GD (fun _ _ e => e) hl hI hlen (by decide) (by decide) rfl fun h' tk hk => ?_
  exact GoodW.toG ⟨.inl ⟨_, _, [], rfl, fun _ => rfl, ReadsW.bool true, by wrow_post, fun _ => ⟨List.nodup_nil, fun _ hm => (nomatch hm)⟩⟩, hk, rfl, hg⟩
end Mine
end

set_option maxRecDepth 100000 in
set_option maxHeartbeats 0 in
theorem PySem.Challenge.cw_mq0304_01_holds : PySem.Challenge.rw_mq0304_01.Holds := by
  exact Mine.law_holds
