import PyProof.Rows.All
import Wide.All
import OpenK.AllK
import Wide.FinOn
import PySem.Challenge.RW_xb0006_01
open PySem PySem.W PyProof.Rows
set_option Elab.async false
namespace Mine
set_option maxRecDepth 100000 in
set_option maxHeartbeats 8000000 in
open_top hd for PySem.Challenge.rw_xb0006_01
end Mine

section
/-! The plain law of the max-heap: lists of ints alone, no program. -/
namespace Mine

theorem getD_set (l : List Int) (i j : Nat) (a : Int) : (l.set i a).getD j 0 = if i = j ∧ i < l.length then a else l.getD j 0 := by
  simp only [List.getD_eq_getElem?_getD, List.getElem?_set]
  by_cases h : i = j
  · subst h
    by_cases h2 : i < l.length
    · simp [h2]
    · simp [h2]
  · simp [h]
theorem getD_set_ne {l : List Int} {i j : Nat} {a : Int} (h : i ≠ j) : (l.set i a).getD j 0 = l.getD j 0 := by
  rw [getD_set, if_neg (fun x => h x.1)]
theorem getD_set_eq {l : List Int} {i : Nat} {a : Int} (h : i < l.length) : (l.set i a).getD i 0 = a := by
  rw [getD_set, if_pos ⟨rfl, h⟩]
theorem set_self {l : List Int} {i : Nat} (h : i < l.length) : l.set i (l.getD i 0) = l := by
  rw [List.getD_eq_getElem?_getD, List.getElem?_eq_getElem h]
  simp

theorem perm_swap {l : List Int} {i j : Nat} {x : Int} (hi : i < l.length) (hj : j < l.length) (h : i ≠ j) : ((l.set i (l.getD j 0)).set j x).Perm (l.set i x) := by
  rw [List.perm_iff_count]
  intro b
  have hj2 : j < (l.set i (l.getD j 0)).length := by rw [List.length_set]; exact hj
  have e : l.getD j 0 = l[j] := by rw [List.getD_eq_getElem?_getD, List.getElem?_eq_getElem hj]; rfl
  rw [List.count_set hj2, List.count_set hi, List.count_set hi, List.getElem_set_ne h]
  simp only [e]
  have c1 : (if (l[j] == b) = true then 1 else 0) ≤ List.count b l - (if (l[i] == b) = true then 1 else 0) + (if (l[j] == b) = true then 1 else 0) := by omega
  generalize (if (l[j] == b) = true then 1 else 0) = u at *
  omega

/-- every place whose parent is s or more holds no more than its parent -/
def HeapFrom (l : List Int) (s : Nat) : Prop := ∀ j, 1 ≤ j → j < l.length → s ≤ (j - 1) / 2 → l.getD j 0 ≤ l.getD ((j - 1) / 2) 0
/-- p lies below s in the tree, or is s -/
inductive Desc (s : Nat) : Nat → Prop
  | refl : Desc s s
  | left {q : Nat} : Desc s q → Desc s (2 * q + 1)
  | right {q : Nat} : Desc s q → Desc s (2 * q + 2)
theorem Desc.le {s p : Nat} (h : Desc s p) : s ≤ p := by
  induction h with
  | refl => exact Nat.le_refl _
  | left _ ih => omega
  | right _ ih => omega
theorem Desc.par {s p : Nat} (h : Desc s p) (hp : s < p) : Desc s ((p - 1) / 2) ∧ s ≤ (p - 1) / 2 := by
  cases h with
  | refl => omega
  | left h =>
    rename_i q
    have e : (2 * q + 1 - 1) / 2 = q := by omega
    rw [e]
    exact ⟨h, h.le⟩
  | right h =>
    rename_i q
    have e : (2 * q + 2 - 1) / 2 = q := by omega
    rw [e]
    exact ⟨h, h.le⟩
theorem HeapFrom.mono {l : List Int} {s t : Nat} (h : HeapFrom l s) (hst : s ≤ t) : HeapFrom l t := fun j h1 h2 h3 => h j h1 h2 (Nat.le_trans hst h3)

/-- siftdown's loop: a hole at pos, x to be put -/
structure DownInv (zs : List Int) (s : Nat) (x : Int) (pos : Nat) (ys : List Int) : Prop where
  perm : (ys.set pos x).Perm zs
  len : ys.length = zs.length
  desc : Desc s pos
  lt : pos < ys.length
  off : ∀ j, 1 ≤ j → j < ys.length → s ≤ (j - 1) / 2 → j ≠ pos → (j - 1) / 2 ≠ pos → ys.getD j 0 ≤ ys.getD ((j - 1) / 2) 0
  kid : ∀ j, 1 ≤ j → j < ys.length → (j - 1) / 2 = pos → ys.getD j 0 ≤ x
  kid2 : ∀ j, 1 ≤ j → j < ys.length → (j - 1) / 2 = pos → s < pos → ys.getD j 0 ≤ ys.getD ((pos - 1) / 2) 0

structure DownPre (zs : List Int) (s pos : Nat) : Prop where
  desc : Desc s pos
  lt : pos < zs.length
  leaf : zs.length ≤ 2 * pos + 1
  off : ∀ j, 1 ≤ j → j < zs.length → s ≤ (j - 1) / 2 → j ≠ pos → (j - 1) / 2 ≠ pos → zs.getD j 0 ≤ zs.getD ((j - 1) / 2) 0

theorem DownPre.start {zs : List Int} {s pos : Nat} (h : DownPre zs s pos) : DownInv zs s (zs.getD pos 0) pos zs where
  perm := by rw [set_self h.lt]
  len := rfl
  desc := h.desc
  lt := h.lt
  off := h.off
  kid := fun j h1 h2 h3 => by have := h.leaf; omega
  kid2 := fun j h1 h2 h3 => by have := h.leaf; omega

theorem DownInv.step {zs ys : List Int} {s pos : Nat} {x : Int} (h : DownInv zs s x pos ys) (hs : s < pos) (hx : ys.getD ((pos - 1) / 2) 0 < x) :
    DownInv zs s x ((pos - 1) / 2) (ys.set pos (ys.getD ((pos - 1) / 2) 0)) := by
  obtain ⟨hd, hle⟩ := h.desc.par hs
  have hlt := h.lt
  have hq : (pos - 1) / 2 < pos := by omega
  refine ⟨(perm_swap hlt (by omega) (by omega)).trans h.perm, by rw [List.length_set]; exact h.len, hd, by rw [List.length_set]; omega, ?_, ?_, ?_⟩
  · intro j h1 h2 h3 h4 h5
    rw [List.length_set] at h2
    by_cases e : j = pos
    · subst e; exact absurd rfl h5
    · rw [getD_set_ne (Ne.symm e)]
      by_cases e2 : (j - 1) / 2 = pos
      · rw [e2, getD_set_eq hlt]
        exact h.kid2 j h1 h2 e2 hs
      · rw [getD_set_ne (Ne.symm e2)]
        exact h.off j h1 h2 h3 e e2
  · intro j h1 h2 h3
    rw [List.length_set] at h2
    by_cases e : j = pos
    · subst e; rw [getD_set_eq hlt]; omega
    · rw [getD_set_ne (Ne.symm e)]
      have := h.off j h1 h2 (by omega) e (by omega)
      rw [h3] at this
      omega
  · intro j h1 h2 h3 h4
    rw [List.length_set] at h2
    have hp := h.off ((pos - 1) / 2) (by omega) (by omega) (hd.par h4).2 (by omega) (by omega)
    rw [getD_set_ne (show pos ≠ ((pos - 1) / 2 - 1) / 2 by omega)]
    by_cases e : j = pos
    · subst e; rw [getD_set_eq hlt]; exact hp
    · rw [getD_set_ne (Ne.symm e)]
      have := h.off j h1 h2 (by omega) e (by omega)
      rw [h3] at this
      omega

theorem DownInv.done {zs ys : List Int} {s pos : Nat} {x : Int} (h : DownInv zs s x pos ys) (hx : s < pos → x ≤ ys.getD ((pos - 1) / 2) 0) :
    (ys.set pos x).Perm zs ∧ HeapFrom (ys.set pos x) s := by
  refine ⟨h.perm, ?_⟩
  intro j h1 h2 h3
  rw [List.length_set] at h2
  by_cases e : j = pos
  · subst e
    rw [getD_set_eq h.lt, getD_set_ne (show j ≠ (j - 1) / 2 by omega)]
    exact hx (by omega)
  · rw [getD_set_ne (Ne.symm e)]
    by_cases e2 : (j - 1) / 2 = pos
    · rw [e2, getD_set_eq h.lt]
      exact h.kid j h1 h2 e2
    · rw [getD_set_ne (Ne.symm e2)]
      exact h.off j h1 h2 h3 e e2

/-- siftup's loop -/
structure UpInv (xs : List Int) (s : Nat) (x : Int) (pos : Nat) (ys : List Int) : Prop where
  perm : (ys.set pos x).Perm xs
  len : ys.length = xs.length
  desc : Desc s pos
  lt : pos < ys.length
  heap1 : HeapFrom ys (s + 1)
  heap : s < pos → HeapFrom ys s
theorem UpInv.start {xs : List Int} {s : Nat} (h1 : s < xs.length) (h : HeapFrom xs (s + 1)) : UpInv xs s (xs.getD s 0) s xs where
  perm := by rw [set_self h1]
  len := rfl
  desc := .refl
  lt := h1
  heap1 := h
  heap := fun h => absurd h (Nat.lt_irrefl _)
theorem UpInv.step {xs ys : List Int} {s pos c : Nat} {x : Int} (h : UpInv xs s x pos ys) (hc : c = 2 * pos + 1 ∨ c = 2 * pos + 2) (hl : c < ys.length)
    (hm : ∀ j, (j = 2 * pos + 1 ∨ j = 2 * pos + 2) → j < ys.length → ys.getD j 0 ≤ ys.getD c 0) : UpInv xs s x c (ys.set pos (ys.getD c 0)) := by
  have hlt := h.lt
  have hle := h.desc.le
  have hh : HeapFrom (ys.set pos (ys.getD c 0)) s := by
    intro j h1 h2 h3
    rw [List.length_set] at h2
    by_cases e : (j - 1) / 2 = pos
    · rw [e, getD_set_eq hlt, getD_set_ne (show pos ≠ j by omega)]
      exact hm j (by omega) h2
    · rw [getD_set_ne (Ne.symm e)]
      by_cases e2 : j = pos
      · subst e2
        rw [getD_set_eq hlt]
        have hs := h.heap (by omega)
        have a1 := hs c (by omega) hl (by omega)
        have a2 := hs j h1 h2 h3
        rw [show (c - 1) / 2 = j by omega] at a1
        omega
      · rw [getD_set_ne (Ne.symm e2)]
        by_cases e3 : s < pos
        · exact h.heap e3 j h1 h2 h3
        · exact h.heap1 j h1 h2 (by omega)
  refine ⟨(perm_swap hlt hl (by omega)).trans h.perm, by rw [List.length_set]; exact h.len, ?_, by rw [List.length_set]; exact hl, hh.mono (Nat.le_succ _), fun _ => hh⟩
  rcases hc with rfl | rfl
  · exact h.desc.left
  · exact h.desc.right
theorem UpInv.done {xs ys : List Int} {s pos : Nat} {x : Int} (h : UpInv xs s x pos ys) (hl : ys.length ≤ 2 * pos + 1) : DownPre (ys.set pos x) s pos := by
  refine ⟨h.desc, by rw [List.length_set]; exact h.lt, by rw [List.length_set]; exact hl, ?_⟩
  intro j h1 h2 h3 h4 h5
  rw [List.length_set] at h2
  rw [getD_set_ne (Ne.symm h4), getD_set_ne (Ne.symm h5)]
  have := h.desc.le
  by_cases e3 : s < pos
  · exact h.heap e3 j h1 h2 h3
  · exact h.heap1 j h1 h2 (by omega)

theorem heap_half {l : List Int} {n : Nat} (h : l.length / 2 ≤ n) : HeapFrom l n := fun j h1 h2 h3 => by omega
/-- the top is the greatest -/
theorem heap_top {l : List Int} (h : HeapFrom l 0) : ∀ j, j < l.length → l.getD j 0 ≤ l.getD 0 0 := by
  intro j
  induction j using Nat.strongRecOn with
  | ind j ih =>
    intro hj
    by_cases e : j = 0
    · subst e; exact Int.le_refl _
    · have a := h j (by omega) hj (Nat.zero_le _)
      have b := ih ((j - 1) / 2) (by omega) (by omega)
      omega
theorem heap_top_mem {l : List Int} (h : HeapFrom l 0) : ∀ x ∈ l, x ≤ l.getD 0 0 := by
  intro x hx
  obtain ⟨j, hj, rfl⟩ := List.mem_iff_getElem.mp hx
  have := heap_top h j hj
  rw [List.getD_eq_getElem?_getD, List.getElem?_eq_getElem hj] at this
  exact this
theorem getD0_mem {l : List Int} (h : 0 < l.length) : l.getD 0 0 ∈ l := by
  cases l with
  | nil => exact absurd h (Nat.lt_irrefl _)
  | cons a r => exact .head _

/-- what is left of a heap when its last goes to the top -/
theorem heap_put0 {l : List Int} (x : Int) (h : HeapFrom l 0) : HeapFrom (l.set 0 x) 1 := by
  intro j h1 h2 h3
  rw [List.length_set] at h2
  rw [getD_set_ne (show 0 ≠ j by omega), getD_set_ne (show 0 ≠ (j - 1) / 2 by omega)]
  exact h j h1 h2 (Nat.zero_le _)
theorem heap_dropLast {l : List Int} {s : Nat} (h : HeapFrom l s) : HeapFrom l.dropLast s := by
  intro j h1 h2 h3
  rw [List.length_dropLast] at h2
  have e : ∀ i, i < l.length - 1 → l.dropLast.getD i 0 = l.getD i 0 := by
    intro i hi
    rw [List.getD_eq_getElem?_getD, List.getD_eq_getElem?_getD, List.getElem?_dropLast, if_pos hi]
  rw [e j h2, e _ (by omega)]
  exact h j h1 (by omega) h3
theorem getD0_dropLast {l : List Int} (h : 0 < l.dropLast.length) : l.dropLast.getD 0 0 = l.getD 0 0 := by
  rw [List.length_dropLast] at h
  rw [List.getD_eq_getElem?_getD, List.getD_eq_getElem?_getD, List.getElem?_dropLast, if_pos h]
theorem pop_perm {l d : List Int} (h : 0 < l.dropLast.length) (hd : d.Perm (l.dropLast.set 0 (l.getLastD 0))) : (l.getD 0 0 :: d).Perm l := by
  rw [← getD0_dropLast h]
  have hne : l ≠ [] := by intro e; subst e; simp at h
  have e : l.dropLast ++ [l.getLastD 0] = l := by
    rw [List.getLastD_eq_getLast?, List.getLast?_eq_some_getLast hne]
    exact List.dropLast_concat_getLast hne
  generalize l.dropLast = q at *
  generalize l.getLastD 0 = y at *
  subst e
  cases q with
  | nil => exact absurd h (Nat.lt_irrefl _)
  | cons a r =>
    show (a :: d).Perm (a :: (r ++ [y]))
    refine List.Perm.cons a (hd.trans ?_)
    show (y :: r).Perm (r ++ [y])
    exact (List.perm_append_singleton y r).symm
theorem put_perm {l d : List Int} {x : Int} (h : 0 < l.length) (hd : d.Perm (l.set 0 x)) : (l.getD 0 0 :: d).Perm (x :: l) := by
  cases l with
  | nil => exact absurd h (Nat.lt_irrefl _)
  | cons a r =>
    show (a :: d).Perm (x :: a :: r)
    exact (List.Perm.cons a hd).trans (List.Perm.swap x a r)
end Mine
end

section
/-! A def's contract: one list of ints in the ledger, turned. -/
namespace Mine
open PySem PySem.W PySem.Spec PySem.Calls PyProof.Rows

def Says (prog : Program) (w : World) (K : Frag) (p : Program) (loose : List Str) (mean : ExcName → Option Value) (mg mb : Str → Option Value) (f : Addr) (need : Nat) (x : Addr) (args : List Value) (ns : List Int) (Post : Value → List Int → Prop) : Prop :=
  ∀ (dp un : Nat) (gd : Option (List Code)) (cn : Str) (cs : Scope) (a : Addr) (ccd : Value) (cl : List (Str × Addr)) (outer : List Env) (A₀ : Around) (base h₀ : Heap) (L : Addr) (m : Str → Option Value) (rest : List (Addr × Obj)) (vs : List Value) (c : Nat) (s : Shared)
    (Q E : Value → Shared → Prop),
    Below A₀ base outer h₀ → Fr h₀ L s.heap m → K.In h₀ → News h₀ L s.heap ((x, listOf vs.toArray c) :: rest) → (∀ p ∈ rest, p.1 ≠ x) → Top p loose mean mg mb h₀ → cs.kind = .function → IntsAre vs ns → dp + need < recursionLimit →
    (∀ (v : Value) (ns' : List Int) (vs' : List Value) (c' : Nat) (h' : Heap) (tk' : Nat), Fr h₀ L h' m → News h₀ L h' ((x, listOf vs'.toArray c') :: rest) → IntsAre vs' ns' → Post v ns' → Q v { s with heap := h', toks := tk' }) →
    wpAny (model prog w) (ktrTop dp un gd cn cs L a ccd cl outer) (call (.ref f) (.ref x :: args)) Q E s
theorem Says.use {prog : Program} {w : World} {K : Frag} {p : Program} {loose : List Str} {mean : ExcName → Option Value} {mg mb : Str → Option Value} {f : Addr} {need : Nat} {x : Addr} {args : List Value} {ns : List Int} {Post : Value → List Int → Prop}
    {dp un : Nat} {gd : Option (List Code)} {cn : Str} {cs : Scope} {a : Addr} {ccd : Value} {cl : List (Str × Addr)} {outer : List Env} {A₀ : Around} {base h₀ : Heap} {L : Addr} {m : Str → Option Value} {rest : List (Addr × Obj)} {vs : List Value} {c : Nat} {s : Shared}
    {Q E : Value → Shared → Prop} (H : Says prog w K p loose mean mg mb f need x args ns Post)
    (B : Below A₀ base outer h₀) (F : Fr h₀ L s.heap m) (X : K.In h₀) (N : News h₀ L s.heap ((x, listOf vs.toArray c) :: rest)) (hoff : ∀ p ∈ rest, p.1 ≠ x) (T : Top p loose mean mg mb h₀) (hk : cs.kind = .function) (hI : IntsAre vs ns) (hd : dp + need < recursionLimit)
    (h : ∀ (v : Value) (ns' : List Int) (vs' : List Value) (c' : Nat) (h' : Heap) (tk' : Nat), Fr h₀ L h' m → News h₀ L h' ((x, listOf vs'.toArray c') :: rest) → IntsAre vs' ns' → Post v ns' → Q v { s with heap := h', toks := tk' }) :
    wpAny (model prog w) (ktrTop dp un gd cn cs L a ccd cl outer) (call (.ref f) (.ref x :: args)) Q E s :=
  H dp un gd cn cs a ccd cl outer A₀ base h₀ L m rest vs c s Q E B F X N hoff T hk hI hd h
end Mine
end

section
namespace Mine
open PySem PySem.W PySem.Spec PySem.Calls PyProof.Rows

local macro_rules | `(tactic| k_all) => `(tactic| assumption)
local macro_rules | `(tactic| l_idx) => `(tactic| (rw [show ((2 : Int) ^ (1 : Int).toNat) = 2 from rfl, Int.fdiv_eq_ediv_of_nonneg _ (by decide)]; omega))

theorem par_int {pos : Int} (h : 0 < pos) : ((pos - 1).fdiv (2 ^ (1 : Int).toNat)).toNat = (pos.toNat - 1) / 2 := by
  rw [show ((2 : Int) ^ (1 : Int).toNat) = 2 from rfl, Int.fdiv_eq_ediv_of_nonneg _ (by decide)]
  omega
theorem par_ge {pos x : Int} {ys : List Int} (h : 0 < pos) (hx : ¬ ys.getD ((pos - 1).fdiv (2 ^ (1 : Int).toNat)).toNat 0 < x) : x ≤ ys.getD ((pos.toNat - 1) / 2) 0 := by
  rw [par_int h] at hx
  omega
theorem down_turn {zs ys : List Int} {sp : Nat} {x pos : Int} (h1 : pos < ys.length) (h2 : ys.length ≤ 63) (h : DownInv zs sp x pos.toNat ys) (hs : (sp : Int) < pos)
    (hx : ys.getD ((pos - 1).fdiv (2 ^ (1 : Int).toNat)).toNat 0 < x) :
    0 ≤ (pos - 1).fdiv (2 ^ (1 : Int).toNat) ∧ (pos - 1).fdiv (2 ^ (1 : Int).toNat) < ((ys.set pos.toNat (ys.getD ((pos - 1).fdiv (2 ^ (1 : Int).toNat)).toNat 0)).length : Int) ∧
    (ys.set pos.toNat (ys.getD ((pos - 1).fdiv (2 ^ (1 : Int).toNat)).toNat 0)).length ≤ 63 ∧
    DownInv zs sp x ((pos - 1).fdiv (2 ^ (1 : Int).toNat)).toNat (ys.set pos.toNat (ys.getD ((pos - 1).fdiv (2 ^ (1 : Int).toNat)).toNat 0)) := by
  have e := par_int (show 0 < pos by omega)
  have e2 : (pos - 1).fdiv (2 ^ (1 : Int).toNat) = ((((pos.toNat - 1) / 2 : Nat)) : Int) := by
    have : 0 ≤ (pos - 1).fdiv (2 ^ (1 : Int).toNat) := by
      rw [show ((2 : Int) ^ (1 : Int).toNat) = 2 from rfl, Int.fdiv_eq_ediv_of_nonneg _ (by decide)]; omega
    omega
  rw [e] at hx ⊢
  refine ⟨by omega, by rw [List.length_set]; omega, by rw [List.length_set]; exact h2, h.step (by omega) hx⟩

set_option maxRecDepth 100000 in
set_option maxHeartbeats 8000000 in
theorem down_says {w : World} {p : Program} {loose : List Str} {mean : ExcName → Option Value} {mg mb : Str → Option Value} (x : Addr) (sp pos : Int) (t₁ t₂ : Tok) (zs : List Int) (h0 : 0 ≤ sp) (h0' : 0 ≤ pos) (hpre : DownPre zs sp.toNat pos.toNat) (hz : zs.length ≤ 63) :
    Says PySem.Challenge.rw_xb0006_01.row.prog w (hd.heap_39 w.params) p loose mean mg mb 42 1 x [.int sp t₁, .int pos t₂] zs (fun v ns' => v = .none ∧ ns'.Perm zs ∧ HeapFrom ns' sp.toNat) := by
  k_with_none
  k_with "exec While Compare cons nil" => k_while_given ["startpos", "newitem", "heap"] (fun sp x zs _ pos ys => 0 ≤ pos ∧ pos < (ys.length : Int) ∧ ys.length ≤ 63 ∧ DownInv zs sp.toNat x pos.toNat ys) (fun _ _ _ _ pos _ => pos.toNat) "pos" "heap"
  k_with "state" => exact down_turn (by assumption) (by assumption) (by assumption) (by omega) (by assumption)
  k_with "state" => exact ⟨by omega, by omega, hz, hpre.start⟩
  k_with "measure" => (rw [par_int (by omega)]; omega)
  k_fill
  unfold Says
  intro dp un gd cn cs a ccd cl outer A₀ base h₀ L m rest vs c s Q E B F X N hoff T hk hI hd hret
  have hl1 := hpre.lt
  refine wpAny_call ?_
  k_dflt ktr_enter
  k_steps
  all_goals first
    | exact hret _ _ _ _ _ _ (by assumption) (by assumption) (by assumption) ⟨rfl, DownInv.done (by assumption) (fun h => absurd h (by omega))⟩
    | exact hret _ _ _ _ _ _ (by assumption) (by assumption) (by assumption) ⟨rfl, DownInv.done (by assumption) (fun h => par_ge (by omega) (by assumption))⟩
end Mine
end

section
namespace Mine
open PySem PySem.W PySem.Spec PySem.Calls PyProof.Rows

local macro_rules | `(tactic| k_all) => `(tactic| assumption)

theorem up_turn {xs ys : List Int} {sp : Nat} {x pos child c : Int} (h0 : 0 ≤ pos) (e : child = 2 * pos + 1) (hl : ys.length = xs.length) (h2 : ys.length ≤ 63) (h : UpInv xs sp x pos.toNat ys)
    (hc : c = child ∨ c = child + 1) (hlt : c < (xs.length : Int)) (hm : ∀ j, (j = child.toNat ∨ j = (child + 1).toNat) → j < ys.length → ys.getD j 0 ≤ ys.getD c.toNat 0) :
    0 ≤ c ∧ 2 * c + 1 = 2 * c + 1 ∧ c < ((ys.set pos.toNat (ys.getD c.toNat 0)).length : Int) ∧ (ys.set pos.toNat (ys.getD c.toNat 0)).length = xs.length ∧ (ys.set pos.toNat (ys.getD c.toNat 0)).length ≤ 63 ∧
    UpInv xs sp x c.toNat (ys.set pos.toNat (ys.getD c.toNat 0)) := by
  rw [List.length_set]
  refine ⟨by omega, rfl, by omega, hl, h2, h.step (by omega) (by omega) fun j hj hj2 => hm j (by omega) hj2⟩
theorem up_right {xs ys : List Int} {sp : Nat} {x pos child : Int} (h0 : 0 ≤ pos) (e : child = 2 * pos + 1) (hl : ys.length = xs.length) (h2 : ys.length ≤ 63) (h : UpInv xs sp x pos.toNat ys)
    (hlt : child + 1 < (xs.length : Int)) (hm : ¬ ys.getD (child + 1).toNat 0 < ys.getD child.toNat 0) :
    0 ≤ child + 1 ∧ 2 * (child + 1) + 1 = 2 * (child + 1) + 1 ∧ child + 1 < ((ys.set pos.toNat (ys.getD (child + 1).toNat 0)).length : Int) ∧ (ys.set pos.toNat (ys.getD (child + 1).toNat 0)).length = xs.length ∧ (ys.set pos.toNat (ys.getD (child + 1).toNat 0)).length ≤ 63 ∧
    UpInv xs sp x (child + 1).toNat (ys.set pos.toNat (ys.getD (child + 1).toNat 0)) :=
  up_turn (c := child + 1) h0 e hl h2 h (.inr rfl) hlt fun j hj _ => by rcases hj with rfl | rfl <;> omega
theorem up_left {xs ys : List Int} {sp : Nat} {x pos child : Int} (h0 : 0 ≤ pos) (e : child = 2 * pos + 1) (hl : ys.length = xs.length) (h2 : ys.length ≤ 63) (h : UpInv xs sp x pos.toNat ys)
    (hlt : child < (xs.length : Int)) (hm : child + 1 < (xs.length : Int) → ys.getD (child + 1).toNat 0 < ys.getD child.toNat 0) :
    0 ≤ child ∧ 2 * child + 1 = 2 * child + 1 ∧ child < ((ys.set pos.toNat (ys.getD (child).toNat 0)).length : Int) ∧ (ys.set pos.toNat (ys.getD (child).toNat 0)).length = xs.length ∧ (ys.set pos.toNat (ys.getD (child).toNat 0)).length ≤ 63 ∧
    UpInv xs sp x (child).toNat (ys.set pos.toNat (ys.getD (child).toNat 0)) :=
  up_turn (c := child) h0 e hl h2 h (.inl rfl) hlt fun j hj hj2 => by
    rcases hj with rfl | rfl
    · exact Int.le_refl _
    · have := hm (by omega); omega

set_option maxRecDepth 100000 in
set_option maxHeartbeats 8000000 in
theorem up_says {w : World} {p : Program} {loose : List Str} {mean : ExcName → Option Value} {mg mb : Str → Option Value} (x : Addr) (sp : Int) (t₁ : Tok) (xs : List Int) (h0 : 0 ≤ sp) (h1 : sp < xs.length) (hpre : HeapFrom xs (sp.toNat + 1)) (hz : xs.length ≤ 63) :
    Says PySem.Challenge.rw_xb0006_01.row.prog w (hd.heap_39 w.params) p loose mean mg mb 49 2 x [.int sp t₁] xs (fun v ns' => v = .none ∧ ns'.Perm xs ∧ HeapFrom ns' sp.toNat) := by
  k_with_none
  k_with "exec While Compare cons nil" => k_while_given ["startpos", "newitem", "heap"] (fun sp x xs _ pos child ys => 0 ≤ pos ∧ child = 2 * pos + 1 ∧ pos < (ys.length : Int) ∧ ys.length = xs.length ∧ ys.length ≤ 63 ∧ UpInv xs sp.toNat x pos.toNat ys) (fun _ _ xs _ pos _ _ => xs.length - pos.toNat) "pos" "childpos" "heap"
  k_with "state" => exact up_left (by assumption) (by assumption) (by assumption) (by assumption) (by assumption) (by assumption) (fun _ => by assumption)
  k_with "state" => exact up_left (by assumption) (by assumption) (by assumption) (by assumption) (by assumption) (by assumption) (fun h => absurd h (by assumption))
  k_with "state" => exact up_right (by assumption) (by assumption) (by assumption) (by assumption) (by assumption) (by assumption) (by assumption)
  k_with "state" => exact ⟨h0, rfl, h1, rfl, hz, UpInv.start (by omega) hpre⟩
  k_with "call ref" => (k_dflt (refine' Says.use (down_says _ _ _ _ _ _ ?z0 ?z1 ?zp ?zz) ?B ?F ?X ?N ?o ?T ?k ?I ?d ?_; (case B => k_asm); (case F => k_asm); (case X => k_asm); (case N => k_asm); (case o => assumption); (case T => k_asm); (case I => assumption); (case k => rfl); (case d => ktr_room); (case z0 => assumption); (case z1 => assumption); (case zz => (rw [List.length_set]; assumption)); (case zp => exact UpInv.done (by assumption) (by omega))); intro v' ns' vs' c' h' tk' F' N' I' P'; obtain ⟨e', P1', P2'⟩ := P'; subst e'; (try dsimp only))
  k_fill
  unfold Says
  intro dp un gd cn cs a ccd cl outer A₀ base h₀ L m rest vs c s Q E B F X N hoff T hk hI hd hret
  refine wpAny_call ?_
  k_dflt ktr_enter
  k_steps
  all_goals exact hret _ _ _ _ _ _ (by assumption) (by assumption) (by assumption) ⟨rfl, P1'.trans (UpInv.perm (by assumption)), P2'⟩
end Mine
end

section
/-! reversed(range(b)); a loop over such an iterator -/
set_option maxRecDepth 100000
namespace Mine
open PySem PySem.W PySem.Spec PySem.Calls PyProof.Rows PyProof.V

theorem owner_reversed_F : isSubtype (.type "range_iterator") (.type "reversed") = pure false := by rw [isSubtype_type]; kernel_rfl
section
variable {prog : Program} {w : World} {A : Around} {E : Value → Shared → Prop} {s : Shared}
theorem size01 {b : Int} (h0 : 0 ≤ b) : Builtin.Range.rangeSize 0 b 1 = b := by
  unfold Builtin.Range.rangeSize
  simp only [show ((1 : Int) > 0) by decide, if_true, Int.ediv_one]
  split <;> omega
theorem small01 {b : Int} (h0 : 0 ≤ b) (h1 : b < 2 ^ 62) : (Builtin.Range.rangeFitsLong 0 && Builtin.Range.rangeFitsLong b && Builtin.Range.rangeFitsLong 1 && Builtin.Range.rangeFitsLong (-1) && Builtin.Range.rangeFitsLong (0 - 1) && Builtin.Range.rangeFitsLong (Builtin.Range.rangeSize 0 b 1)) = true := by
  rw [size01 h0]
  simp only [Builtin.Range.rangeFitsLong, Bool.and_eq_true, decide_eq_true_eq]
  omega
theorem meets_range_reversed (r : Addr) (b : Int) (t u v : Tok) (h0 : 0 ≤ b) (h1 : b < 2 ^ 62) :
    Meets (Builtin.«range.__reversed__» ⟨[.ref r], []⟩) (fun _ R s => IsRange s.heap r 0 b 1 t u v ∧ R (.ok (.ret (Value.ref s.heap.objs.size))) { s with heap := s.heap.push { cls := .type "range_iterator", data := .fields #[rawInt (b - 1), rawInt b, rawInt (-1)] } }) :=
  .of_wp fun prog w A R s h => by
    obtain ⟨hl, h⟩ := h
    have e := small01 h0 h1
    have e2 := size01 h0
    unfold Builtin.«range.__reversed__»
    refine wpAny_bind (wpAny_of_eq (a := Value.ref r) rfl ?_)
    unfold Builtin.Range.rangeFields
    refine wpAny_bind (wpAny_bind (wpAny_field hl rfl (x := .int 0 t) rfl ?_))
    refine wpAny_bind (wpAny_of_eq (a := some (0 : Int)) rfl ?_)
    refine wpAny_bind (wpAny_field hl rfl (x := .int b u) rfl ?_)
    refine wpAny_bind (wpAny_of_eq (a := some b) rfl ?_)
    refine wpAny_bind (wpAny_field hl rfl (x := .int 1 v) rfl ?_)
    refine wpAny_bind (wpAny_of_eq (a := some (1 : Int)) rfl ?_)
    refine wpAny_pure ?_
    dsimp only
    rw [e]
    simp only [Bool.not_true, Bool.false_eq_true, if_false, if_true]
    rw [e2, show (0 : Int) + (b - 1) * 1 = b - 1 by omega]
    exact wpAny_bind (wpAny_newObj_type (wpAny_pure ⟨_, rfl, h⟩))

theorem call_range_reversed {r : Addr} {b : Int} {t u v : Tok} {Q : Value → Shared → Prop} (hr : IsRange s.heap r 0 b 1 t u v) (h0 : 0 ≤ b) (h1 : b < 2 ^ 62)
    (h : Q (.ref s.heap.objs.size) { s with heap := s.heap.push { cls := .type "range_iterator", data := .fields #[rawInt (b - 1), rawInt b, rawInt (-1)] } }) : wpAny (model prog w) A (call (.builtin "range.__reversed__") [.ref r]) Q E s :=
  call_meets F.slot_range_reversed ⟨_, hr, rfl⟩ F.entry_range_reversed (F.args_range_reversed_1 _) (meets_range_reversed r b t u v h0 h1) ⟨hr, h⟩

theorem code_reversed_newR {r : Addr} {b : Int} {t u v : Tok} {Q₁ : Value → Shared → Prop} (hr : IsRange s.heap r 0 b 1 t u v) (h0 : 0 ≤ b) (h1 : b < 2 ^ 62)
    (h : Q₁ (.ref s.heap.objs.size) { s with heap := s.heap.push { cls := .type "range_iterator", data := .fields #[rawInt (b - 1), rawInt b, rawInt (-1)] } }) :
    codeAny (model prog w) A (.call (.builtin "reversed.__new__") ⟨[.type "reversed", .ref r], []⟩) (wants Q₁ E) s := by
  have hT : s.TypeIs (.ref r) "range" := ⟨_, hr, rfl⟩
  refine codeAny_of_tree ?_
  show wpAny _ A.in1 (do checkBuiltinCall "reversed.__new__" ⟨[.type "reversed", .ref r], []⟩; again (.builtin "reversed.__new__" ⟨[.type "reversed", .ref r], []⟩)) _ _ s
  refine wpAny_bind (wpAny_of_eq (F.newCall_reversed_1 _) (wpAny_pure ⟨plainId_quiet F.plain_reversed_new _, codeAny_builtin F.entry_reversed_new ?_⟩))
  rw [Around.under_plainId F.plain_reversed_new _]
  unfold Builtin.«reversed.__new__»
  refine wpAny_bind (wpAny_of_eq (newClass_reversed _) ?_)
  try dsimp only
  refine wpAny_bind (wpAny_of_eq (a := ()) (by first | rfl | kernel_rfl) ?_)
  refine wpAny_bind (wpAny_of_eq (a := ()) (by first | rfl | kernel_rfl) ?_)
  try dsimp only
  refine wpAny_bind (wpAny_specialOf hT F.slot_range_reversed.lookup ?_)
  try dsimp only
  refine wpAny_bind (wpAny_of_eq (F.slot_range_reversed.bind _) ?_)
  try dsimp only
  first
  | rw [if_neg (show ¬ ((Value.builtin "range.__reversed__" == Value.none) = true) from Bool.false_ne_true)]
  | (show wpAny _ _ (if (Value.builtin "range.__reversed__" == Value.none) = true then _ else _) _ _ _; rw [if_neg (show ¬ ((Value.builtin "range.__reversed__" == Value.none) = true) from Bool.false_ne_true)])
  refine wpAny_bind (wpAny_rule ?_)
  refine wpAny_bind (m := runValue (.call (.builtin "range.__reversed__") ⟨[.ref r], []⟩)) (show wpAny _ _ (call (.builtin "range.__reversed__") [.ref r]) _ _ _ from call_range_reversed hr h0 h1 ?_)
  first
  | exact wpAny_pure h
  | exact wpAny_bind (wpAny_pure (wpAny_pure h))

theorem call_reversed_range {r : Addr} {b : Int} {t u v : Tok} {Q : Value → Shared → Prop} (hr : IsRange s.heap r 0 b 1 t u v) (h0 : 0 ≤ b) (h1 : b < 2 ^ 62)
    (h : Q (.ref s.heap.objs.size) { s with heap := s.heap.push { cls := .type "range_iterator", data := .fields #[rawInt (b - 1), rawInt b, rawInt (-1)] } }) : wpAny (model prog w) A (call (.type "reversed") [.ref r]) Q E s := by
  refine callType_other (U := "range_iterator") (Q₁ := fun obj s₁ => obj = .ref s.heap.objs.size ∧ s₁ = { s with heap := s.heap.push { cls := .type "range_iterator", data := .fields #[rawInt (b - 1), rawInt b, rawInt (-1)] } }) (by decide +kernel) F.create_reversed ⟨_, _, F.mro_reversed⟩ F.made_reversed owner_reversed_F (F.typeCall_reversed_1 _) (code_reversed_newR hr h0 h1 ⟨rfl, rfl⟩) ?_
  rintro obj s₁ ⟨rfl, rfl⟩
  exact ⟨⟨_, Heap.get?_push_size _ rfl, rfl⟩, h⟩

theorem rev_range {h₀ : Heap} {L : Addr} {m : Str → Option Value} {news : List (Addr × Obj)} {r : Addr} {b : Int} {t u v : Tok} {Q : Value → Shared → Prop} (F : Fr h₀ L s.heap m) (N : News h₀ L s.heap news) (hr : IsRange s.heap r 0 b 1 t u v) (h0 : 0 ≤ b) (h1 : b < 2 ^ 62)
    (h : ∀ I h', Fr h₀ L h' m → News h₀ L h' news → IsRangeIter h' I (b - 1) b (-1) → h₀.get? I = none → L ≠ I → (∀ p ∈ news, p.1 ≠ I) → Q (.ref I) { s with heap := h' }) : wpAny (model prog w) A (call (.type "reversed") [.ref r]) Q E s := by
  refine call_reversed_range hr h0 h1 (h _ _ (F.push _) (fun p hp => ⟨Heap.get?_push_of_some _ (N p hp).1, (N p hp).2⟩) (Heap.get?_push_size _ rfl) (next_is_new F) (Nat.ne_of_lt F.ns.lt) fun p hp => Nat.ne_of_lt (Heap.lt_size (N p hp).1))
end

section
variable {prog : Program} {w : World} {A : Around} {E : Value → Shared → Prop} {s : Shared} {env : Env} {h₀ : Heap} {x : Str} {body : List Stmt} {Q : Flow → Shared → Prop}
theorem kst_iterD {σ : Type} {I : Addr} {a₀ : Int} {n : Nat} {m₀ : Str → Option Value} (Led : σ → List (Addr × Obj)) (ps : σ → List (Str × Value)) (Facts : σ → Prop) (stored : List Str) (P : List Int → σ → Prop) (c₀ : σ)
    (hh : A.handled = none) (hI : IsRangeIter s.heap I a₀ (n : Int) (-1)) (hIn : h₀.get? I = none) (hIL : env.locals ≠ I) (hIo : ∀ p ∈ Led c₀, p.1 ≠ I) (F : Fr h₀ env.locals s.heap m₀) (N : News h₀ env.locals s.heap (Led c₀)) (hf : Facts c₀) (hk : ∀ p ∈ ps c₀, m₀ p.1 = some p.2) (hp : P [] c₀)
    (turn : ∀ (c : σ) (pre : List Int) (k : Int) t (u : Str → Option Value) h tk own, k = a₀ - (pre.length : Int) → pre.length < n → OwnOff own ((Led c₀).map (·.1)) → Facts c → P pre c →
      Fr h₀ env.locals h (fun y => if y = x then some (.int k t) else kstB (fun z => if stored.contains z then u z else m₀ z) (ps c) y) → News h₀ env.locals h (Led c ++ own) →
      wpAny (model prog w) A (execs body env) (InvPostN h₀ env.locals (KstS Led ps Facts x stored m₀ P (pre ++ [k])) own ((Led c₀).map (·.1)) { s with heap := h, toks := tk } Q) E { s with heap := h, toks := tk })
    (done : ∀ (c : σ) (u : Str → Option Value) h tk, Facts c → P (downKs a₀ n) c → Fr h₀ env.locals h (fun y => if y = x then u y else kstB (fun z => if stored.contains z then u z else m₀ z) (ps c) y) → News h₀ env.locals h (Led c) → Q .next { s with heap := h, toks := tk }) :
    wpAny (model prog w) A (pyIter (.ref I)) (fun it s₂ => LoopAtV prog w A h₀ env x body Q E it s₂) E s := by
  refine wpAny_pyIter_rangeiter hI ?_
  have W : Walks prog w A I [I] [I] n (fun i v => i < n ∧ ∃ t, v = .int (a₀ + i * (-1)) t)
      (fun i h => IsRangeIter h I (a₀ + (i : Nat) * (-1)) ((n : Int) - (i : Nat)) (-1)) := (Walks.range hh I a₀ (-1) n).bound
  refine loop_invN (fun i m nx => KstS Led ps Facts x stored m₀ P ((downKs a₀ n).take i) m nx) W ?_ ?_ ?_ ?_ (by show IsRangeIter _ _ _ _ _; simpa using hI) F N ⟨c₀, rfl, hf, hk, fun _ _ _ _ => rfl, by simpa using hp⟩ ?_ ?_
  · intro hm
    exact hIL (List.mem_singleton.mp hm)
  · intro b hb
    rw [List.mem_singleton.mp hb]
    exact hIn
  · intro p hp hI
    exact hIo p hp (List.mem_singleton.mp hI)
  · intro p hp hI
    exact hIo p hp (List.mem_singleton.mp hI)
  · rintro i v m₁ nx h tk own hi ⟨_, t, rfl⟩ _ hoff ⟨c, rfl, hf', h1, h2, hp'⟩ F₁ N₁
    have e1 : a₀ + (i : Int) * (-1) = a₀ - (i : Int) := by omega
    rw [e1] at F₁
    have hk' : (downKs a₀ n)[i]? = some (a₀ - (i : Int)) := by simp [downKs, hi]
    have hs : (downKs a₀ n).take (i + 1) = (downKs a₀ n).take i ++ [a₀ - (i : Int)] := by simp [List.take_add_one, hk']
    have hlen : ((downKs a₀ n).take i).length = i := by rw [List.length_take, downKs_length]; omega
    rw [hs]
    exact turn c _ _ t m₁ h tk own (by rw [hlen]) (by rw [hlen]; exact hi) hoff hf' hp' (kst_fr h1 h2 F₁) N₁
  · rintro m₁ nx h tk ⟨c, rfl, hf', h1, h2, hp'⟩ F₁ N₁
    have hl : (downKs a₀ n).take n = downKs a₀ n := List.take_of_length_le (Nat.le_of_eq (downKs_length _ _))
    rw [hl] at hp'
    exact done c m₁ h tk hf' hp' (kst_frOut h1 h2 F₁) N₁
end
end Mine
end

section
namespace Mine
open PySem PySem.W PySem.Spec PySem.Calls PyProof.Rows

local macro_rules | `(tactic| k_all) => `(tactic| assumption)
theorem fdiv2 (n : Nat) : ((n : Int)).fdiv 2 = ((n / 2 : Nat) : Int) := by
  rw [Int.fdiv_eq_ediv_of_nonneg _ (by decide)]
  omega
theorem ify_start {xs : List Int} : xs.Perm xs ∧ HeapFrom xs (xs.length / 2 - ([] : List Int).length) := ⟨.refl _, heap_half (by simp)⟩
theorem ify_turn {xs ys zs pre : List Int} {k : Int} (h : ys.Perm xs) (hk : k = ((xs.length / 2 : Nat) : Int) - 1 - (pre.length : Int)) (hlt : pre.length < xs.length / 2) (h1 : zs.Perm ys) (h2 : HeapFrom zs k.toNat) :
    zs.Perm xs ∧ HeapFrom zs (xs.length / 2 - (pre ++ [k]).length) := by
  refine ⟨h1.trans h, ?_⟩
  rw [List.length_append, List.length_singleton]
  have e : xs.length / 2 - (pre.length + 1) = k.toNat := by omega
  rw [e]
  exact h2
theorem ify_pre {xs ys pre : List Int} {k : Int} (h : HeapFrom ys (xs.length / 2 - pre.length)) (hk : k = ((xs.length / 2 : Nat) : Int) - 1 - (pre.length : Int)) (hlt : pre.length < xs.length / 2) : HeapFrom ys (k.toNat + 1) := by
  have e : k.toNat + 1 = xs.length / 2 - pre.length := by omega
  rw [e]
  exact h
theorem off_append {rest own : List (Addr × Obj)} {x : Addr} {adr : List Addr} (h1 : ∀ p ∈ rest, p.1 ≠ x) (h2 : OwnOff own adr) (hx : x ∈ adr) : ∀ p ∈ rest ++ own, p.1 ≠ x :=
  List.forall_mem_append.mpr ⟨h1, fun p hp => h2 p hp x hx⟩

set_option maxRecDepth 100000 in
set_option maxHeartbeats 8000000 in
theorem ify_says {w : World} {p : Program} {loose : List Str} {mean : ExcName → Option Value} {mg mb : Str → Option Value} (x : Addr) (xs : List Int) (hz : xs.length ≤ 63) :
    Says PySem.Challenge.rw_xb0006_01.row.prog w (hd.heap_39 w.params) p loose mean mg mb 35 3 x [] xs (fun v ns' => v = .none ∧ ns'.Perm xs ∧ HeapFrom ns' 0) := by
  k_with_none
  k_with "call type:reversed" => (k_dflt (refine' rev_range ?F ?N ?r ?h0 ?h1 ?_; (case F => k_asm); (case N => k_asm); (case r => assumption); (case h0 => (rw [fdiv2]; omega)); (case h1 => (rw [fdiv2]; omega))); intro I' h' F' N' hI' hIn' hIL' hIo')
  k_with "pyIter ref" => (
    (rename IntsAre _ _ => hI); (rename Fr _ _ _ _ => lF'); (rename News _ _ _ _ => lN');
    (rw [fdiv2] at hI');
    (refine' kst_iterD (σ := List Value × List Int × Nat) (fun c => (x, W.listOf c.1.toArray c.2.2) :: rest) (fun _ => []) (fun c => IntsAre c.1 c.2.1) [] (fun pre c => c.2.1.Perm xs ∧ HeapFrom c.2.1 (xs.length / 2 - pre.length)) (vs, xs, c) (by rfl) hI' hIn' hIL' hIo' lF' lN' hI (fun _ hp => nomatch hp) ify_start ?turn ?done);
    (case' turn =>
      (rintro ⟨vs1, ns1, c1⟩ pre k t u h tk own hk1 hlt1 hoff1 hI1 ⟨hP1, hH1⟩ F1 N1)
      (dsimp only [kstB] at F1; simp only [List.cons_append] at N1; dsimp only at hI1 hP1 hH1)
      (have hlen1 := hP1.length_eq)
      (clear lF' lN'))
    (case' done =>
      (rintro ⟨vs1, ns1, c1⟩ u h tk hI1 ⟨hP1, hH1⟩ F1 N1)
      (dsimp only [kstB] at F1 N1 hI1 hP1 hH1)
      (rw [downKs_length, Nat.sub_self] at hH1)
      (clear lF' lN')))
  k_with "call ref" => (k_dflt (refine' Says.use (up_says _ _ _ _ ?z0 ?z1 ?zp ?zz) ?B ?F ?X ?N ?o ?T ?k ?I ?d ?_; (case B => k_asm); (case F => k_asm); (case X => k_asm); (case N => k_asm); (case o => exact off_append hoff hoff1 (List.Mem.head _)); (case T => k_asm); (case I => assumption); (case k => rfl); (case d => ktr_room); (case z0 => omega); (case z1 => omega); (case zz => omega); (case zp => exact ify_pre hH1 hk1 hlt1)); intro v' ns' vs' c' h' tk' F' N' I' P'; obtain ⟨e', P1', P2'⟩ := P'; subst e'; (try dsimp only))
  k_with "state" => exact ify_turn hP1 hk1 hlt1 P1' P2'
  k_fill
  unfold Says
  intro dp un gd cn cs a ccd cl outer A₀ base h₀ L m rest vs c s Q E B F X N hoff T hk hI hd hret
  refine wpAny_call ?_
  k_dflt ktr_enter
  k_steps
  all_goals exact hret _ _ _ _ _ _ (by assumption) (by assumption) (by assumption) ⟨rfl, hP1, hH1⟩
end Mine
end

section
namespace Mine
open PySem PySem.W PySem.Spec PySem.Calls PyProof.Rows

local macro_rules | `(tactic| k_all) => `(tactic| assumption)
def PopPost (xs : List Int) (v : Value) (ns' : List Int) : Prop := (∃ t, v = .int (xs.getD 0 0) t) ∧ HeapFrom ns' 0 ∧ (xs.getD 0 0 :: ns').Perm xs
theorem pop_post1 {xs ns' : List Int} {t : Tok} (hd : 0 < xs.dropLast.length) (h1 : ns'.Perm (xs.dropLast.set (Int.toNat 0) (xs.getLastD 0))) (h2 : HeapFrom ns' (Int.toNat 0)) : PopPost xs (.int (xs.dropLast.getD (Int.toNat 0) 0) t) ns' :=
  ⟨⟨t, congrArg (fun i => Value.int i t) (getD0_dropLast hd)⟩, h2, pop_perm hd h1⟩
theorem pop_post2 {xs : List Int} {t : Tok} (hne : 0 < xs.length) (hd : ¬ 0 < xs.dropLast.length) : PopPost xs (.int (xs.getLastD 0) t) xs.dropLast := by
  rw [List.length_dropLast] at hd
  match xs, hne with
  | [a], _ => exact ⟨⟨t, rfl⟩, fun j h1 h2 => absurd h2 (Nat.not_lt_zero _), .refl _⟩
  | a :: b :: r, _ => simp at hd
def ReplPost (xs : List Int) (item : Int) (v : Value) (ns' : List Int) : Prop := (∃ t, v = .int (xs.getD 0 0) t) ∧ HeapFrom ns' 0 ∧ (xs.getD 0 0 :: ns').Perm (item :: xs)
theorem repl_post {xs ns' : List Int} {item : Int} {t : Tok} (hd : 0 < xs.length) (h1 : ns'.Perm (xs.set (Int.toNat 0) item)) (h2 : HeapFrom ns' (Int.toNat 0)) : ReplPost xs item (.int (xs.getD (Int.toNat 0) 0) t) ns' :=
  ⟨⟨t, rfl⟩, h2, put_perm hd h1⟩

set_option maxRecDepth 100000 in
set_option maxHeartbeats 8000000 in
theorem pop_says {w : World} {p : Program} {loose : List Str} {mean : ExcName → Option Value} {mg mb : Str → Option Value} (x : Addr) (xs : List Int) (hne : 0 < xs.length) (hpre : HeapFrom xs 0) (hz : xs.length ≤ 63) :
    Says PySem.Challenge.rw_xb0006_01.row.prog w (hd.heap_39 w.params) p loose mean mg mb 21 3 x [] xs (PopPost xs) := by
  k_with_none
  k_with "call ref" => (k_dflt (refine' Says.use (up_says _ _ _ _ ?z0 ?z1 ?zp ?zz) ?B ?F ?X ?N ?o ?T ?k ?I ?d ?_; (case B => k_asm); (case F => k_asm); (case X => k_asm); (case N => k_asm); (case o => assumption); (case T => k_asm); (case I => assumption); (case k => rfl); (case d => ktr_room); (case z0 => decide); (case z1 => (rw [List.length_set]; omega)); (case zz => (rw [List.length_set, List.length_dropLast]; omega)); (case zp => exact heap_put0 _ (heap_dropLast hpre))); intro v' ns' vs' c' h' tk' F' N' I' P'; obtain ⟨e', P1', P2'⟩ := P'; subst e'; (try dsimp only))
  k_fill
  unfold Says
  intro dp un gd cn cs a ccd cl outer A₀ base h₀ L m rest vs c s Q E B F X N hoff T hk hI hd hret
  have hlv : 0 < vs.length := by rw [hI.length]; exact hne
  have hlz : vs.length ≤ 63 := by rw [hI.length]; exact hz
  have hdl : xs.dropLast.length ≤ 63 := by rw [List.length_dropLast]; omega
  refine wpAny_call ?_
  k_dflt ktr_enter
  k_steps
  · exact hret _ _ _ _ _ _ (by assumption) (by assumption) (by assumption) (pop_post1 (by assumption) P1' P2')
  · exact hret _ _ _ _ _ _ (by assumption) (by assumption) (by assumption) (pop_post2 hne (by assumption))
set_option maxRecDepth 100000 in
set_option maxHeartbeats 8000000 in
theorem repl_says {w : World} {p : Program} {loose : List Str} {mean : ExcName → Option Value} {mg mb : Str → Option Value} (x : Addr) (item : Int) (tI : Tok) (xs : List Int) (hne : 0 < xs.length) (hpre : HeapFrom xs 0) (hz : xs.length ≤ 63) :
    Says PySem.Challenge.rw_xb0006_01.row.prog w (hd.heap_39 w.params) p loose mean mg mb 28 3 x [.int item tI] xs (ReplPost xs item) := by
  k_with_none
  k_with "call ref" => (k_dflt (refine' Says.use (up_says _ _ _ _ ?z0 ?z1 ?zp ?zz) ?B ?F ?X ?N ?o ?T ?k ?I ?d ?_; (case B => k_asm); (case F => k_asm); (case X => k_asm); (case N => k_asm); (case o => assumption); (case T => k_asm); (case I => assumption); (case k => rfl); (case d => ktr_room); (case z0 => decide); (case z1 => (rw [List.length_set]; omega)); (case zz => (rw [List.length_set]; exact hz)); (case zp => exact heap_put0 _ hpre)); intro v' ns' vs' c' h' tk' F' N' I' P'; obtain ⟨e', P1', P2'⟩ := P'; subst e'; (try dsimp only))
  k_fill
  unfold Says
  intro dp un gd cn cs a ccd cl outer A₀ base h₀ L m rest vs c s Q E B F X N hoff T hk hI hd hret
  have hlv : 0 < vs.length := by rw [hI.length]; exact hne
  have hlz : vs.length ≤ 63 := by rw [hI.length]; exact hz
  refine wpAny_call ?_
  k_dflt ktr_enter
  k_steps
  · exact hret _ _ _ _ _ _ (by assumption) (by assumption) (by assumption) (repl_post hne P1' P2')
end Mine
end

section
/-! The law's own loop: a for over a range whose turns change the ledger's addresses; the lambda, made for the first time or again. -/
set_option maxRecDepth 100000
namespace Mine
open PySem PySem.W PySem.Spec PySem.Calls PyProof.Rows PyProof.V

section
variable {prog : Program} {w : World} {A : Around} {E : Value → Shared → Prop} {s : Shared} {env : Env} {h₀ : Heap} {x : Str} {body : List Stmt} {Q : Flow → Shared → Prop}
def rIt (n i : Nat) : Obj := { cls := .type "range_iterator", dict := none, data := .fields #[rawInt (0 + (i : Int) * 1), rawInt ((n : Int) - (i : Int)), rawInt 1], slots := #[] }
def MEnd (h₀ : Heap) (L I : Addr) (it : Obj) (J : (Str → Option Value) → List (Addr × Obj) → Prop) (s₁ s₂ : Shared) : Prop :=
  ∃ h' tk m' news' nx, s₂ = { s₁ with heap := h', toks := tk } ∧ Fr h₀ L h' m' ∧ News h₀ L h' news' ∧ (I, it) ∈ news' ∧ (∀ p ∈ nx, p ∈ news') ∧ (∀ p ∈ nx, p.1 ≠ I) ∧ J m' nx
def MPost (h₀ : Heap) (L I : Addr) (it : Obj) (J : (Str → Option Value) → List (Addr × Obj) → Prop) (s₁ : Shared) (Q : Flow → Shared → Prop) (f : Flow) (s₂ : Shared) : Prop :=
  match f with
  | .ret v => Q (.ret v) s₂
  | .brk => Q .next s₂
  | _ => MEnd h₀ L I it J s₁ s₂
theorem main_loop {r : Addr} {n : Nat} {t₀ u₀ v₀ : Tok} {m₀ : Str → Option Value} {news : List (Addr × Obj)} (J : Nat → (Str → Option Value) → List (Addr × Obj) → Prop)
    (hh : A.handled = none) (hr : IsRange s.heap r 0 (n : Int) 1 t₀ u₀ v₀) (hn : n ≤ 63) (F : Fr h₀ env.locals s.heap m₀) (N : News h₀ env.locals s.heap news) (hj : J 0 m₀ news)
    (turn : ∀ i t m₁ news₁ h tk I it, i < n → J i m₁ news₁ → (∀ p ∈ news₁, p.1 ≠ I) → Fr h₀ env.locals h (fun y => if y = x then some (.int (i : Nat) t) else m₁ y) → News h₀ env.locals h ((I, it) :: news₁) →
      wpAny (model prog w) A (execs body env) (MPost h₀ env.locals I it (J (i + 1)) { s with heap := h, toks := tk } Q) E { s with heap := h, toks := tk })
    (done : ∀ m₁ news₁ h tk, J n m₁ news₁ → Fr h₀ env.locals h m₁ → News h₀ env.locals h news₁ → Q .next { s with heap := h, toks := tk }) :
    wpAny (model prog w) A (pyIter (.ref r)) (fun it s₂ => LoopAtV prog w A h₀ env x body Q E it s₂) E s := by
  have hn' : Builtin.Range.rangeSize 0 (n : Int) 1 = (n : Int) := size01 (by omega)
  refine wpAny_pyIter_range hr (small_one (by omega) (by omega) (by omega) (by omega)) ?_
  have W : Walks prog w A s.heap.objs.size [s.heap.objs.size] [s.heap.objs.size] n (fun i v => i < n ∧ ∃ t, v = .int (0 + i * 1) t)
      (fun i h => IsRangeIter h s.heap.objs.size (0 + (i : Nat) * 1) ((n : Int) - (i : Nat)) 1) := (Walks.range hh _ 0 1 n).bound
  refine ⟨_, _, _, n, _, _, m₀, news, J, rfl, W, ?_, ?_, ?_, (by show IsRangeIter _ _ _ _ _; rw [hn']; simpa using Heap.get?_push_size _ rfl), F.push _, (fun p hp => ⟨Heap.get?_push_of_some _ (N p hp).1, (N p hp).2⟩), hj, ?_, ?_⟩
  · intro hm
    exact absurd F.ns.lt ((List.mem_singleton.mp hm) ▸ Nat.lt_irrefl _)
  · intro b hb
    rw [List.mem_singleton.mp hb]
    exact next_is_new F
  · intro p hp hI
    exact absurd (Heap.lt_size (N p hp).1) ((List.mem_singleton.mp hI) ▸ Nat.lt_irrefl _)
  · rintro i v m₁ news₁ s₁ own ⟨hh', tk', rfl⟩ hin ⟨_, t, rfl⟩ hJ hoff hown hget hall hst F₁ N₁
    have e1 : (0 : Int) + (i : Int) * 1 = (i : Int) := by omega
    rw [e1] at F₁
    have hmem := hall _ (List.mem_singleton.mpr rfl) (next_is_new F) _ hst
    have hoff' : ∀ p ∈ news₁, p.1 ≠ s.heap.objs.size := fun p hp e => hoff p hp (List.mem_singleton.mpr e)
    have N₂ : News h₀ env.locals hh' ((s.heap.objs.size, rIt n (i + 1)) :: news₁) := fun p hp => by
      rcases List.mem_cons.mp hp with rfl | hp
      · exact N₁ _ (List.mem_append_left _ hmem)
      · exact N₁ _ (List.mem_append_right _ hp)
    refine wpAny_mono (turn i t m₁ news₁ hh' tk' s.heap.objs.size (rIt n (i + 1)) hin hJ hoff' F₁ N₂) (fun f s₂ p => ?_) fun _ _ e => e
    have fin : MEnd h₀ env.locals s.heap.objs.size (rIt n (i + 1)) (J (i + 1)) { s with heap := hh', toks := tk' } s₂ →
        LoopStepU h₀ env.locals [s.heap.objs.size] own (J (i + 1)) { s with heap := hh', toks := tk' } .next s₂ := by
      rintro ⟨h', tk, m', news', nx, e, F', N', hI, hn, ho, hm⟩
      refine ⟨rfl, h', tk, m', nx, e, F', fun p hp => ?_, fun p hp hq => ho p hp (List.mem_singleton.mp hq), hm⟩
      rcases List.mem_append.mp hp with hp | hp
      · have h1 := List.mem_singleton.mp (hown p hp)
        have h2 : hh'.get? p.1 = some p.2 := hget p hp
        have h3 := N' _ hI
        have h4 : p = (s.heap.objs.size, (rIt n (i + 1))) := by
          refine Prod.ext h1 ?_
          have h5 : hh'.get? s.heap.objs.size = _ := hst
          rw [h1, h5] at h2
          exact (Option.some.inj h2).symm
        rw [h4]
        exact h3
      · exact N' p (hn p hp)
    cases f with
    | ret v => exact .ret p
    | brk => exact .brk p
    | next => exact .next (fin p)
    | cont => exact .cont (fin p)
  · rintro h' tk m' news' F' N' _ hJ
    exact done m' news' h' tk hJ F' N'
end

/-- the law's code's table of nested codes: empty, or the lambda's code in it -/
inductive TabSt (line col : Nat) (qual : Str) : List (Addr × Obj) → Prop
  | fresh : TabSt line col qual [(58, tabObj #[])]
  | made {c' : Addr} {oc : Obj} {vs : Array Value} {t : Tok} : oc.data = .fields vs → vs[1]? = some (.str qual t) → TabSt line col qual [(58, tabObj #[rawInt line, rawInt col, .ref c']), (c', oc)]

/-- the ledger is pre, then tb -/
inductive SplitAt (tb : List (Addr × Obj)) : List (Addr × Obj) → List (Addr × Obj) → Prop
  | nil : SplitAt tb tb []
  | cons {e : Addr × Obj} {news pre : List (Addr × Obj)} : SplitAt tb news pre → SplitAt tb (e :: news) (e :: pre)
theorem SplitAt.eq {tb news pre : List (Addr × Obj)} (h : SplitAt tb news pre) : news = pre ++ tb := by
  induction h with
  | nil => rfl
  | cons _ ih => rw [ih]; rfl

section
variable {M : Model} {A : Around} {E : Value → Shared → Prop} {s : Shared} {h₀ : Heap} {L a c : Addr} {m mg mb : Str → Option Value} {cn : Str} {cs : Scope} {ccd : Value} {cl : List (Str × Addr)}
  {p : Program} {loose : List Str} {mean : ExcName → Option Value} {name qual : Str} {params : Arguments} {body : Expr} {scope : Scope} {pos : Pos} {firstLine : Nat} {clos : List (Str × Addr)}
theorem lam_any {Q : Value → Shared → Prop} {news pre tb : List (Addr × Obj)} {l9 c9 : Nat} {q9 : Str} (F : Fr h₀ L s.heap m) (N : News h₀ L s.heap news) (hsp : SplitAt tb news pre) (T : Top p loose mean mg mb h₀) (C : CodeHd h₀ c 58) (hcd : ccd = .ref c)
    (hT : TabSt l9 c9 q9 tb) (el9 : l9 = pos.line) (ec9 : c9 = pos.col) (eq9 : q9 = qual) (hpt : ∀ q ∈ pre, ∀ r ∈ tb, r.1 ≠ q.1) (hcl : closureFor scope (envX cn cs L a ccd cl) = pure clos)
    (h : ∀ f c' oc vs t ctv h' tk, Fr h₀ L h' m →
      News h₀ L h' ((f, kla_obj name qual params body scope clos ((mg "__name__").getD .none) c' ctv) :: (c', oc) :: (58, tabObj #[rawInt l9, rawInt c9, .ref c']) :: pre) →
      TabSt l9 c9 q9 [(58, tabObj #[rawInt l9, rawInt c9, .ref c']), (c', oc)] → oc.data = .fields vs → vs[1]? = some (.str qual t) → (∀ q ∈ pre, q.1 < f) → 58 < f → c' < f → (∀ q ∈ pre, q.1 ≠ c') → (∀ q ∈ pre, q.1 ≠ 58) → Q (.ref f) { s with heap := h', toks := tk }) :
    wpAny M A (makeFunction name qual params (.expr body) scope (envX cn cs L a ccd cl) [] [] [] pos firstLine) Q E s := by
  subst el9 ec9 eq9
  have e9 := hsp.eq
  subst e9
  cases hT with
  | fresh =>
    have h58 : ∀ q ∈ pre, q.1 ≠ 58 := fun q hq => Ne.symm (hpt q hq _ (.head _))
    have N1 : News h₀ L s.heap ((58, tabObj #[]) :: pre) := fun q hq => N q ((List.mem_cons.mp hq).elim (fun e => e ▸ List.mem_append_right _ (.head _)) fun hq => List.mem_append_left _ hq)
    refine kla_nest (ps := #[]) F N1 T C hcd (UpdF.head h58) True.intro rfl hcl fun f c' oc vs t ctv h' tk F' N' d1 d2 l1 l2 => ?_
    refine h f c' oc vs t ctv h' tk F' ?_ (.made d1 d2) d1 d2 (fun q hq => Nat.lt_trans (l1 q (.tail _ hq)) l2) (Nat.lt_trans (l1 _ (.head _)) l2) l2 (fun q hq => Nat.ne_of_lt (l1 q (.tail _ hq))) h58
    exact N'
  | made d1 d2 =>
    rename_i c' oc vs t
    have h58 : ∀ q ∈ pre, q.1 ≠ 58 := fun q hq => Ne.symm (hpt q hq _ (.head _))
    have hc' : ∀ q ∈ pre, q.1 ≠ c' := fun q hq => Ne.symm (hpt q hq _ (.tail _ (.head _)))
    refine kla_hit (c' := c') F N T C hcd (List.mem_append_right _ (.head _)) (by simp [TriplesOk, rawInt]) (by simp [codeAmong, rawInt]) hcl fun f ctv h' tk F' N' l1 => ?_
    refine h f c' oc vs t ctv h' tk F' (fun q hq => N' q ?_) (.made d1 d2) d1 d2 (fun q hq => l1 q (List.mem_append_left _ hq)) (l1 _ (List.mem_append_right _ (.head _))) (l1 _ (List.mem_append_right _ (.tail _ (.head _)))) hc' h58
    simp only [List.mem_cons, List.mem_append, List.not_mem_nil, or_false] at hq ⊢
    rcases hq with hq | hq | hq | hq <;> simp [hq]
end

theorem kf_ints_of {vs : List Value} {ns : List Int} (h : IntsAre vs ns) : kf_ints vs = true := by
  induction h with
  | nil => rfl
  | cons _ _ _ ih => exact ih
theorem kf_at_of {k : Int} {vs : List Value} {ns : List Int} (h : IntsAre vs ns) (hk : k ∈ ns) : kf_at k vs = some (ns.idxOf k) := by
  induction h with
  | nil => cases hk
  | cons n t _ ih =>
    rename_i vs ns _
    have e : isInt k (.int n t) = (n == k) := rfl
    unfold kf_at
    rw [e, List.idxOf_cons]
    by_cases q : n = k
    · subst q; simp
    · have qb : (n == k) = false := by simpa using q
      rcases List.mem_cons.mp hk with rfl | hk
      · exact absurd rfl q
      · rw [qb, ih hk]; rfl
theorem index_any {prog : Program} {w : World} {A : Around} {E : Value → Shared → Prop} {s : Shared} {h₀ : Heap} {L D : Addr} {news : List (Addr × Obj)} {vs : List Value} {ns : List Int} {n : Nat} {k : Int} {t : Tok} {Q : Value → Shared → Prop}
    (N : News h₀ L s.heap news) (hm : (D, W.listOf vs.toArray n) ∈ news) (hi : IntsAre vs ns) (hk : k ∈ ns) (hz : ns.length ≤ 63)
    (h : Q (.int (ns.idxOf k : Nat) s.toks) { s with toks := s.toks + 1 }) : wpAny (model prog w) A (call (.builtin "list.index") [.ref D, .int k t]) Q E s :=
  kf_index N hm (kf_ints_of hi) (kf_at_of hi hk) rfl (by rw [sizeLine_eq]; show vs.length ≤ _; rw [hi.length]; omega) h

theorem Says.useF {prog : Program} {w : World} {K : Frag} {p : Program} {loose : List Str} {mean : ExcName → Option Value} {mg mb : Str → Option Value} {f : Addr} {need : Nat} {x : Addr} {args : List Value} {ns : List Int} {Post : Value → List Int → Prop}
    {dp un : Nat} {gd : Option (List Code)} {cn : Str} {cs : Scope} {a : Addr} {ccd : Value} {cl : List (Str × Addr)} {outer : List Env} {A₀ : Around} {base h₀ : Heap} {L : Addr} {m : Str → Option Value} {news : List (Addr × Obj)} {vs : List Value} {c : Nat} {s : Shared} {g : Obj → List (Addr × Obj)}
    {Q E : Value → Shared → Prop} (H : Says prog w K p loose mean mg mb f need x args ns Post)
    (B : Below A₀ base outer h₀) (F : Fr h₀ L s.heap m) (X : K.In h₀) (N : News h₀ L s.heap news) (U : UpdF x (W.listOf vs.toArray c) news g) (T : Top p loose mean mg mb h₀) (hk : cs.kind = .function) (hI : IntsAre vs ns) (hd : dp + need < recursionLimit)
    (h : ∀ (v : Value) (ns' : List Int) (vs' : List Value) (c' : Nat) (h' : Heap) (tk' : Nat), Fr h₀ L h' m → News h₀ L h' (g (W.listOf vs'.toArray c')) → IntsAre vs' ns' → Post v ns' → Q v { s with heap := h', toks := tk' }) :
    wpAny (model prog w) (ktrTop dp un gd cn cs L a ccd cl outer) (call (.ref f) (.ref x :: args)) Q E s := by
  obtain ⟨own, rest, rfl, hg, h1, h2⟩ := U.split
  have N1 : News h₀ L s.heap ((x, W.listOf vs.toArray c) :: (own ++ rest)) := fun p hp => N p (by
    simp only [List.mem_cons, List.mem_append] at hp ⊢
    rcases hp with hp | hp | hp <;> simp [hp])
  refine H.use B F X N1 (List.forall_mem_append.mpr ⟨h1, h2⟩) T hk hI hd fun v ns' vs' c' h' tk' F' N' hI' hp => h v ns' vs' c' h' tk' F' ?_ hI' hp
  intro q hq
  rw [hg] at hq
  refine N' q ?_
  simp only [List.mem_cons, List.mem_append] at hq ⊢
  rcases hq with hq | hq | hq <;> simp [hq]
end Mine
end

section
/-! pop of an empty list; an exception that leaves a lambda's frame (a frame with free names) -/
set_option maxRecDepth 100000
namespace Mine
open PySem PySem.W PySem.Spec PySem.Calls PyProof.Rows PyProof.V

theorem pop_empty {prog : Program} {w : World} {A : Around} {E : Value → Shared → Prop} {s : Shared} {h₀ : Heap} {L D : Addr} {news : List (Addr × Obj)} {n : Nat} {Q : Value → Shared → Prop} (hA : A.handled = none) (N : News h₀ L s.heap news) (hm : (D, W.listOf #[] n) ∈ news)
    (hE : ∀ h' tk e, Heap.NewExc s.heap h' e "IndexError" → E (.ref e) { s with heap := h', toks := tk }) : wpAny (model prog w) A (call (.builtin "list.pop") [.ref D]) Q E s := by
  have ho := (N _ hm).1
  refine wpAny_call_entry PySem.F.slot_list_pop ⟨_, ho, rfl⟩ PySem.F.entry_list_pop ?_ (PySem.F.args_list_pop_1 _)
  unfold Builtin.«list.pop»
  refine wpAny_bind (wpAny_of_eq (a := (Value.ref D, [])) rfl ?_)
  dsimp only
  refine wpAny_bind (wpAny_pure ?_)
  rw [if_neg (by decide)]
  refine wpAny_bind (wpAny_listItems ho rfl ?_)
  rw [if_pos (by rfl)]
  first
    | exact wpAny_bind (wpAny_rule (by exact_raiseError plainExc_IndexError hA hE))
    | exact wpAny_bind (wpAny_rule (wpAny_bind (by exact_raiseError plainExc_IndexError hA hE)))

section
variable {M : Model} {A : Around} {E : Value → Shared → Prop} {s' : Shared} {base g g₂ : Heap} {outer : List Env} {L a e : Addr} {m : Str → Option Value} {name : Str} {scope : Scope} {cd : Value} {cl : List (Str × Addr)} {Q : Unit → Shared → Prop} {news : List (Addr × Obj)}
theorem framesX {b : Addr} (hm : b ∈ (envX name scope L a cd cl :: outer).filterMap (·.frame)) : b = L ∨ b ∈ outer.filterMap (·.frame) := by
  obtain ⟨env, he, hf⟩ := List.mem_filterMap.mp hm
  rcases List.mem_cons.mp he with rfl | he
  · exact .inl (Option.some.inj hf).symm
  · exact .inr (List.mem_filterMap.mpr ⟨env, he, hf⟩)
theorem leave_onX {cls : Value} (K : Below A base outer g) (F : Fr g L g₂ m) (R : RaisedSN base g₂ (envX name scope L a cd cl :: outer) e cls news s'.heap) (hsm : g₂.UpToSlots s'.heap)
    (hQ : ∀ h', RaisedSN base g outer e cls news h' → g.UpToSlots h' → Q () { s' with heap := h' }) :
    wpAny M (A.deeper (envX name scope L a cd cl)) (leaving (envX name scope L a cd cl) (.ref e)) Q E s' := by
  obtain ⟨B, a0, hB, hBG, hl, hfl⟩ := R
  refine wpAny_leaves_onW (Around.frames_deeper K.stack) rfl hfl fun h' x1 x2 => hQ h' ⟨B, a0, hB, fun b o q nm => hBG b o (F.keep b o q) fun hm => ?_, fun q hq => ⟨(hl q hq).1, kts_none F.keep (hl q hq).2.1, (hl q hq).2.2⟩, x1⟩ ((Heap.UpToSlots.of_keeps F.keep).trans (hsm.trans x2))
  rcases framesX hm with z | z
  · rw [z, kts_self F] at q
    cases q
  · exact nm z
end

section
variable {prog : Program} {w : World} {A₀ A : Around} {s : Shared} {base h₀ : Heap} {env : Env} {L : Addr} {m : Str → Option Value} {news : List (Addr × Obj)} {K : Frag} {p : Program} {loose : List Str} {mean : ExcName → Option Value} {mg mb : Str → Option Value}
    {R : Result → Shared → Prop} {name qual : Str} {params : Arguments} {body : List Stmt} {scope : Scope} {dV kV doc pm cdv ct oc : Value} {an od : Option Addr} {osl : Array (Option Value)} {f : Addr} {args : Args} {binds : List (Str × Value)}
/-- a def with a try in it, called from a frame of any make (its names may be cells) -/
theorem code_tryX (B : Below A₀ base [] h₀) (F : Fr h₀ L s.heap m) (X₀ : K.In h₀) (N : News h₀ L s.heap news) (T : Top p loose mean mg mb h₀) (hA : A.frames = some [env]) (hf : env.frame = some L) (hke : env.scope.kind = .function)
    (ho : K.lookup f = some ⟨oc, od, .func (fnOf name qual params body scope dV kV doc pm an cdv ct), osl⟩) (hcd : codeIn K cdv qual = true) (hroom : A.depth < recursionLimit)
    (hbind : BindsTo s (fnOf name qual params body scope dV kV doc pm an cdv ct) args binds) (hloc : ∀ y ∈ binds, scope.names.lookup y.1 = some .local)
    (h : ∀ g L' h₁, Fr h₀ L g m → Fr g L' h₁ (fun y => binds.reverse.lookup y) → News g L' h₁ news → Below A base [env] g → K.In g → Top p loose mean mg mb g → KtsDicts ([env].filterMap (·.frame)) g →
      wpAny (model prog w) (A.deeper (envOf qual scope L' f cdv)) (execs body (envOf qual scope L' f cdv))
        (fun fl s' => LeaveS0 ([env].filterMap (·.frame)) h₀ L m g R (match fl with | .ret v => v | _ => .none) s')
        (fun e s' => wpAny (model prog w) (A.deeper (envOf qual scope L' f cdv)) (leaving (envOf qual scope L' f cdv) e) (fun _ s'' => R (.error e) s'') (fun e' s'' => R (.error e') s'') s')
        { s with heap := h₁, toks := s.toks + binds.length })
    (hco : scope.isCoroutine = false) (hgen : scope.isGenerator = false) (hk : scope.kind = .function)
    (hcell : ∀ x ∈ scope.names, x.2 ≠ .cell) : codeAny (model prog w) A (.call (.ref f) args) R s := by
  have X := X₀.keeps F.keep
  have onlyL : ∀ b, b ∈ [env].filterMap (·.frame) → b = L := fun b hb => by
    obtain ⟨e, he, hfe⟩ := List.mem_filterMap.mp hb
    rw [List.mem_singleton.mp he, hf] at hfe
    exact (Option.some.inj hfe).symm
  obtain ⟨FG, BG, st, _⟩ := groundX (R := R) B F N hA hf hke
  obtain ⟨oL, es, ep, hLg, hLd, hLk, hLf⟩ := id FG.ns
  have D : KtsDicts ([env].filterMap (·.frame)) (hideAll s.heap (news.map (·.1))) := fun b hb => by
    rw [onlyL b hb]
    exact ⟨oL, es, ep, hLg, hLd⟩
  refine codeAny_call_def (fd := fnOf name qual params body scope dV kV doc pm an cdv ct) (body := body) (binds := binds) hroom (X _ _ ho) rfl (T.nolimit.keeps F.keep) (codeRec_of X hcd) rfl hbind hcell hloc (fun h₁ hns hk₁ => ?_) hco hgen hk
  have F₁ : Fr (hideAll s.heap (news.map (·.1))) s.heap.objs.size h₁ (fun y => binds.reverse.lookup y) := ⟨hns, fun b o e => hk₁ b o (of_hideAll _ e), Nat.le_of_eq (hideAll_size _ _)⟩
  have N₁ : News (hideAll s.heap (news.map (·.1))) s.heap.objs.size h₁ news := fun p hp => ⟨hk₁ _ _ (N p hp).1, Nat.ne_of_lt (Heap.lt_size (N p hp).1), hideAll_none _ (List.mem_map_of_mem hp)⟩
  refine wpAny_mono (h _ _ h₁ FG F₁ N₁ BG (X₀.keeps st) (T.keeps st) D) (fun fl s' hl => ?_) fun _ _ y => y
  obtain ⟨g', L', m', news', T', F', N', k⟩ := hl
  obtain ⟨sl, hs⟩ := T'.up hLg
  have notL : ∀ b o, h₀.get? b = some o → b ∉ [env].filterMap (·.frame) := fun b o e q => by
    rw [onlyL b q, kts_self F] at e
    cases e
  refine k ⟨⟨_, es, ep, F'.keep _ _ hs, hLd, hLk, hLf⟩, fun b o e => F'.keep b o (T'.other b o (st b o e) (notL b o e)), F.above⟩ fun p hp => ⟨(N' p hp).1, fun q => ?_, ?_⟩
  · have := (N' p hp).2.2
    rw [q, hs] at this
    cases this
  · cases q : h₀.get? p.1 with
    | none => rfl
    | some o =>
      have := (N' p hp).2.2
      rw [T'.other _ _ (st _ _ q) (notL _ _ q)] at this
      cases this
end
end Mine
end

section
namespace Mine
open PySem PySem.W PySem.Spec PySem.Calls PyProof.Rows

def lawBody : List Stmt := match PySem.Challenge.pw_xb0006_01.main.body with
  | [_, _, _, _, _, _, _, _, .FunctionDef _ _ b _ _ _ _ _ _ _] => b
  | _ => []
def lawScope : Scope := match PySem.Challenge.pw_xb0006_01.main.body with
  | [_, _, _, _, _, _, _, _, .FunctionDef _ _ _ _ _ _ s _ _ _] => s
  | _ => default
def lawTurn : List Stmt := match lawBody with
  | _ :: _ :: .For _ _ b _ _ :: _ => b
  | _ => []

/-- what holds between the turns -/
def J (S sl : Addr) (ns : List Int) (_i : Nat) (m : Str → Option Value) (nx : List (Addr × Obj)) : Prop :=
  ∃ (ar ah : Addr) (vr vh : List Value) (rs hs : List Int) (cr ch : Nat) (o1 o2 o3 : Obj) (v1 v2 : Option Value) (tb : List (Addr × Obj)),
    nx = (ar, W.listOf vr.toArray cr) :: (ah, W.listOf vh.toArray ch) :: (S + 1 + 1 + 1, o1) :: (S + 1 + 1, o2) :: (S + 1, o3) :: tb ∧
    TabSt 65 29 ((Str.ofString "law" ++ ".<locals>.") ++ "<lambda>") tb ∧ o1.data = .cell v1 ∧ o2.data = .cell v2 ∧ o3.data = .cell (some (.ref ah)) ∧
    IntsAre vr rs ∧ IntsAre vh hs ∧ m "row" = some (.ref ar) ∧ m "script" = some (.ref sl) ∧
    (@Ne Nat (S + 1 + 1 + 1) ar ∧ @Ne Nat (S + 1 + 1) ar ∧ @Ne Nat (S + 1) ar ∧ @LT.lt Nat _ (S + 1 + 1 + 1) ah ∧ @Ne Nat ar ah) ∧ (∀ q ∈ tb, q.1 ≠ ar) ∧ (∀ q ∈ tb, q.1 ≠ ah) ∧ (∀ q ∈ tb, q.1 ≠ S + 1 + 1 + 1) ∧ (∀ q ∈ tb, q.1 ≠ S + 1 + 1) ∧ (∀ q ∈ tb, q.1 ≠ S + 1) ∧
    HeapFrom hs 0 ∧ hs.Perm rs ∧ rs.length ≤ ns.length

theorem m_row {sl ar : Addr} {m : Str → Option Value} {x : Str} {v : Option Value} (h1 : m "row" = some (.ref ar)) (h2 : m "script" = some (.ref sl)) (hx : x = Str.ofString "k") :
    (fun y => if y = x then v else m y) = fun y => if y = Str.ofString "k" then v else if y = Str.ofString "row" then some (.ref ar) else if y = Str.ofString "script" then some (.ref sl) else m y := by
  subst hx
  funext y
  by_cases e1 : y = Str.ofString "k"
  · rw [if_pos e1, if_pos e1]
  · rw [if_neg e1, if_neg e1]
    by_cases e2 : y = Str.ofString "row"
    · rw [if_pos e2, e2]; exact h1
    · rw [if_neg e2]
      by_cases e3 : y = Str.ofString "script"
      · rw [if_pos e3, e3]; exact h2
      · rw [if_neg e3]

def AllNe (d : Nat) : List (Addr × Obj) → Prop
  | [] => True
  | p :: r => @Ne Nat p.1 d ∧ AllNe d r
theorem allNe_of {d : Addr} : ∀ {l : List (Addr × Obj)}, (∀ p ∈ l, p.1 ≠ d) → AllNe d l
  | [], _ => trivial
  | p :: _, h => ⟨h p (.head _), allNe_of fun q hq => h q (.tail _ hq)⟩
theorem ne_same {prog : Program} {w : World} {A : Around} {E : Value → Shared → Prop} {s : Shared} {a b : Addr} {vs us : List Value} {ns ms : List Int} {Q : Value → Shared → Prop} (hl : s.heap.IsList a vs.toArray) (hi : IntsAre vs ns) (hl' : s.heap.IsList b us.toArray) (hi' : IntsAre us ms) (hu : A.units + 64 < cLine) (he : ns = ms)
    (h : Q (.bool false) s) : wpAny (model prog w) A (compareOp .NotEq (.ref a) (.ref b)) Q E s :=
  ne_intsK hl hi hl' hi' hu (by rw [decide_eq_true he]; exact h)
theorem heap_no {l : List Int} {k : Int} (h : HeapFrom l 0) (h1 : 1 ≤ k) (h2 : k < 1 + (((l.length : Int) - 1).toNat : Int)) : ¬ l.getD ((k - 1).fdiv 2).toNat 0 < l.getD k.toNat 0 := by
  have e : ((k - 1).fdiv 2).toNat = (k.toNat - 1) / 2 := by
    rw [Int.fdiv_eq_ediv_of_nonneg _ (by decide)]
    omega
  rw [e]
  have := h k.toNat (by omega) (by omega) (Nat.zero_le _)
  omega
theorem idx_lo {k : Int} (h : 1 ≤ k) : 0 ≤ (k - 1).fdiv 2 := by
  rw [Int.fdiv_eq_ediv_of_nonneg _ (by decide)]; omega
theorem idx_hi {k : Int} {n : Nat} (h1 : 1 ≤ k) (h2 : k < 1 + (((n : Int) - 1).toNat : Int)) : (k - 1).fdiv 2 < (n : Int) := by
  rw [Int.fdiv_eq_ediv_of_nonneg _ (by decide)]; omega
theorem idx_fit {k : Int} {n : Nat} (h1 : 1 ≤ k) (h2 : k < 1 + (((n : Int) - 1).toNat : Int)) (h3 : n ≤ 63) : (k - 1).fdiv 2 < 2 ^ 63 := by
  have := idx_hi h1 h2; omega
theorem jdx_lo {k : Int} (h : 1 ≤ k) : 0 ≤ k := by omega
theorem jdx_hi {k : Int} {n : Nat} (h1 : 1 ≤ k) (h2 : k < 1 + (((n : Int) - 1).toNat : Int)) : k < (n : Int) := by omega
theorem jdx_fit {k : Int} {n : Nat} (h1 : 1 ≤ k) (h2 : k < 1 + (((n : Int) - 1).toNat : Int)) (h3 : n ≤ 63) : k < 2 ^ 63 := by omega
theorem lt_false {prog : Program} {w : World} {A : Around} {E : Value → Shared → Prop} {s : Shared} {a b : Int} {t u : Tok} {Q : Value → Shared → Prop} (h : ¬ a < b) (hq : Q (.bool false) s) : wpAny (model prog w) A (compareOp .Lt (.int a t) (.int b u)) Q E s :=
  lt_int (by rw [decide_eq_false h]; exact hq)
theorem fold_same (ks : List Int) (l : List Int) : ks.foldl (fun l _ => l) l = l := by
  induction ks with
  | nil => rfl
  | cons _ _ ih => exact ih
section
variable {prog : Program} {w : World} {A : Around} {E : Value → Shared → Prop} {s : Shared} {a b : Int} {t u : Tok} {Q : Value → Shared → Prop}
theorem eq_yes (h : a = b) (hq : Q (.bool true) s) : wpAny (model prog w) A (compareOp .Eq (.int a t) (.int b u)) Q E s := eq_int (by subst h; simpa using hq)
theorem eq_not (h : a ≠ b) (hq : Q (.bool false) s) : wpAny (model prog w) A (compareOp .Eq (.int a t) (.int b u)) Q E s := eq_int (by rw [beq_eq_false_iff_ne.mpr h]; exact hq)
theorem gt_yes (h : b < a) (hq : Q (.bool true) s) : wpAny (model prog w) A (compareOp .Gt (.int a t) (.int b u)) Q E s := gt_int (by rw [decide_eq_true h]; exact hq)
theorem gt_not (h : ¬ b < a) (hq : Q (.bool false) s) : wpAny (model prog w) A (compareOp .Gt (.int a t) (.int b u)) Q E s := gt_int (by rw [decide_eq_false h]; exact hq)
theorem ne_not (h : a = b) (hq : Q (.bool false) s) : wpAny (model prog w) A (compareOp .NotEq (.int a t) (.int b u)) Q E s := ne_int (by subst h; simpa using hq)
end
theorem top_eq {hs rs : List Int} {M : Int} (hP : hs.Perm rs) (hH : HeapFrom hs 0) (hne : 0 < rs.length) (h1 : M ∈ rs) (h2 : ∀ a, a ∈ rs → a ≤ M) : hs.getD 0 0 = M := by
  have hl : 0 < hs.length := by rw [hP.length_eq]; exact hne
  exact Int.le_antisymm (h2 _ (hP.mem_iff.mp (getD0_mem hl))) (heap_top_mem hH _ (hP.mem_iff.mpr h1))
theorem succ_nn (n : Nat) : (0 : Int) ≤ (n : Int) + 1 := by omega
theorem pos_of_perm {hs rs : List Int} (hP : hs.Perm rs) (hne : 0 < rs.length) : 0 < hs.length := by rw [hP.length_eq]; exact hne
theorem len_of_perm {hs rs ns : List Int} (hP : hs.Perm rs) (h : rs.length ≤ ns.length) (hn : ns.length ≤ 63) : hs.length ≤ 63 := by rw [hP.length_eq]; omega
theorem cut_perm {rs : List Int} {M : Int} (h : M ∈ rs) : (M :: (rs.take ((rs.idxOf M : Nat) : Int).toNat ++ rs.drop (((rs.idxOf M : Nat) : Int) + 1).toNat)).Perm rs := by
  have e1 : ((rs.idxOf M : Nat) : Int).toNat = rs.idxOf M := by omega
  have e2 : (((rs.idxOf M : Nat) : Int) + 1).toNat = rs.idxOf M + 1 := by omega
  rw [e1, e2, ← List.eraseIdx_eq_take_drop_succ]
  have hl : rs.idxOf M < rs.length := List.idxOf_lt_length_iff.mpr h
  have e3 := List.perm_cons_erase h
  rw [List.erase_eq_eraseIdx_of_idxOf (i := rs.idxOf M) rfl] at e3
  exact e3.symm
theorem row_pop {hs rs ns' : List Int} {M : Int} (hP : hs.Perm rs) (h : M ∈ rs) (ht : hs.getD 0 0 = M) (hp : (hs.getD 0 0 :: ns').Perm hs) :
    ns'.Perm ((rs.take ((rs.idxOf M : Nat) : Int).toNat ++ rs.drop (((rs.idxOf M : Nat) : Int) + 1).toNat) ++ []) := by
  rw [List.append_nil]
  rw [ht] at hp
  exact ((hp.trans hP).trans (cut_perm h).symm).cons_inv
theorem row_put {hs rs ns' : List Int} {M x : Int} (hP : hs.Perm rs) (h : M ∈ rs) (ht : hs.getD 0 0 = M) (hp : (hs.getD 0 0 :: ns').Perm (x :: hs)) :
    ns'.Perm ((rs.take ((rs.idxOf M : Nat) : Int).toNat ++ rs.drop (((rs.idxOf M : Nat) : Int) + 1).toNat) ++ [x]) := by
  rw [ht] at hp
  have e : (x :: hs).Perm (M :: ((rs.take ((rs.idxOf M : Nat) : Int).toNat ++ rs.drop (((rs.idxOf M : Nat) : Int) + 1).toNat) ++ [x])) :=
    ((List.Perm.cons x (hP.trans (cut_perm h).symm)).trans (List.Perm.swap M x _)).trans (List.Perm.cons M (List.perm_append_singleton x _).symm)
  exact (hp.trans e).cons_inv
theorem pop_len {hs rs ns ns' : List Int} {a : Int} (hp : (a :: ns').Perm hs) (hP : hs.Perm rs) (h : rs.length ≤ ns.length) (hn : ns.length ≤ 63) : ns'.length ≤ 63 := by
  have := hp.length_eq; have := hP.length_eq; simp only [List.length_cons] at *; omega
theorem put_len {hs rs ns ns' : List Int} {a b : Int} (hp : (a :: ns').Perm (b :: hs)) (hP : hs.Perm rs) (h : rs.length ≤ ns.length) (hn : ns.length ≤ 63) : ns'.length ≤ 63 := by
  have := hp.length_eq; have := hP.length_eq; simp only [List.length_cons] at *; omega
theorem pop_open {xs ns' : List Int} {v : Value} (h : PopPost xs v ns') : ∃ t, v = .int (xs.getD 0 0) t ∧ HeapFrom ns' 0 ∧ (xs.getD 0 0 :: ns').Perm xs := let ⟨⟨t, e⟩, a, b⟩ := h; ⟨t, e, a, b⟩
theorem repl_open {xs ns' : List Int} {x : Int} {v : Value} (h : ReplPost xs x v ns') : ∃ t, v = .int (xs.getD 0 0) t ∧ HeapFrom ns' 0 ∧ (xs.getD 0 0 :: ns').Perm (x :: xs) := let ⟨⟨t, e⟩, a, b⟩ := h; ⟨t, e, a, b⟩
theorem lt64 {l : List Int} (h : l.length ≤ 63) : l.length < 64 := Nat.lt_succ_of_le h
theorem lt64_perm {l r : List Int} (hp : l.Perm r) (h : l.length ≤ 63) : r.length < 64 := by rw [← hp.length_eq]; omega
theorem pos_of_dec {rs : List Int} (h : decide (rs = []) = false) : 0 < rs.length := by
  have := of_decide_eq_false h
  cases rs with
  | nil => exact absurd rfl this
  | cons _ _ => exact Nat.succ_pos _
theorem nil_of_dec {rs hs : List Int} (h : decide (rs = []) = true) (hP : hs.Perm rs) : rs = [] ∧ hs = [] := by
  have := of_decide_eq_true h
  subst this
  exact ⟨rfl, hP.eq_nil⟩
theorem off1_all {D : Addr} : ∀ {l : List (Addr × Obj)}, LCg.Off1 D l → ∀ q ∈ l, q.1 ≠ D
  | [], _, _, hq => nomatch hq
  | _ :: _, h, _, hq => (List.mem_cons.mp hq).elim (fun e => e ▸ h.1) fun hq => off1_all h.2 _ hq
theorem allLt_all {D : Addr} : ∀ {l : List (Addr × Obj)}, AllLt D l → ∀ q ∈ l, q.1 ≠ D
  | [], _, _, hq => nomatch hq
  | _ :: _, h, _, hq => (List.mem_cons.mp hq).elim (fun e => e ▸ Nat.ne_of_lt h.1) fun hq => allLt_all h.2 _ hq
theorem mend_J {h₀ h' : Heap} {S I sl ar ah : Addr} {it o1 o2 o3 : Obj} {ns rs hs : List Int} {i cr ch tk : Nat} {vr vh : List Value} {m' : Str → Option Value} {news' tb : List (Addr × Obj)} {v1 v2 : Option Value} {s₁ s₂ : Shared} {Q : Flow → Shared → Prop}
    (F : Fr h₀ S h' m') (N : News h₀ S h' news') (es : s₂ = { s₁ with heap := h', toks := tk }) (mr : m' "row" = some (.ref ar)) (ms : m' "script" = some (.ref sl)) (eI : (I, it) ∈ news')
    (e3 : (S + 1 + 1 + 1, o1) ∈ news') (e4 : (S + 1 + 1, o2) ∈ news') (e5 : (S + 1, o3) ∈ news') (d1 : o1.data = .cell v1) (d2 : o2.data = .cell v2) (d3 : o3.data = .cell (some (.ref ah)))
    (e1 : (ar, W.listOf vr.toArray cr) ∈ news') (e2 : (ah, W.listOf vh.toArray ch) ∈ news') (hIr : IntsAre vr rs) (hIh : IntsAre vh hs)
    (hT : TabSt 65 29 ((Str.ofString "law" ++ ".<locals>.") ++ "<lambda>") tb) (e6 : ∀ q ∈ tb, q ∈ news')
    (n1 : @Ne Nat (S + 1 + 1 + 1) ar) (n2 : @Ne Nat (S + 1 + 1) ar) (n3 : @Ne Nat (S + 1) ar) (n4 : @LT.lt Nat _ (S + 1 + 1 + 1) ah) (n5 : @Ne Nat ar ah)
    (b1 : ∀ q ∈ tb, q.1 ≠ ar) (b2 : ∀ q ∈ tb, q.1 ≠ ah) (b3 : ∀ q ∈ tb, q.1 ≠ S + 1 + 1 + 1) (b4 : ∀ q ∈ tb, q.1 ≠ S + 1 + 1) (b5 : ∀ q ∈ tb, q.1 ≠ S + 1)
    (i1 : @Ne Nat ar I) (i2 : @Ne Nat ah I) (i3 : @Ne Nat (S + 1 + 1 + 1) I) (i4 : @Ne Nat (S + 1 + 1) I) (i5 : @Ne Nat (S + 1) I) (i6 : ∀ q ∈ tb, q.1 ≠ I)
    (hH : HeapFrom hs 0) (hP : hs.Perm rs) (hlr : rs.length ≤ ns.length) : MPost h₀ S I it (J S sl ns (i + 1)) s₁ Q .next s₂ := by
  refine ⟨h', tk, m', news', _, es, F, N, eI, ?_, ?_, ar, ah, vr, vh, rs, hs, cr, ch, o1, o2, o3, v1, v2, tb, rfl, hT, d1, d2, d3, hIr, hIh, mr, ms, ⟨n1, n2, n3, n4, n5⟩, b1, b2, b3, b4, b5, hH, hP, hlr⟩
  · exact List.forall_mem_cons.mpr ⟨e1, List.forall_mem_cons.mpr ⟨e2, List.forall_mem_cons.mpr ⟨e3, List.forall_mem_cons.mpr ⟨e4, List.forall_mem_cons.mpr ⟨e5, e6⟩⟩⟩⟩⟩
  · exact List.forall_mem_cons.mpr ⟨i1, List.forall_mem_cons.mpr ⟨i2, List.forall_mem_cons.mpr ⟨i3, List.forall_mem_cons.mpr ⟨i4, List.forall_mem_cons.mpr ⟨i5, i6⟩⟩⟩⟩⟩
theorem len0 {ns : List Int} {k : Nat} : (List.map (fun z : Int => z.fdiv 4) (ns.take k)).length ≤ ns.length := by
  rw [List.length_map, List.length_take]; omega
theorem len1 {rs hs ns ns' row : List Int} {a : Int} (h : ns'.Perm row) (hp : (a :: ns').Perm hs) (hP : hs.Perm rs) (hl : rs.length ≤ ns.length) : row.length ≤ ns.length := by
  have := h.length_eq; have := hp.length_eq; have := hP.length_eq; simp only [List.length_cons] at *; omega
theorem len2 {rs hs ns ns' row : List Int} {a b : Int} (h : ns'.Perm row) (hp : (a :: ns').Perm (b :: hs)) (hP : hs.Perm rs) (hl : rs.length ≤ ns.length) : row.length ≤ ns.length := by
  have := h.length_eq; have := hp.length_eq; have := hP.length_eq; simp only [List.length_cons] at *; omega

end Mine
end

section
namespace Mine
open PySem PySem.W PySem.Spec PySem.Calls PyProof.Rows
local macro_rules | `(tactic| k_all) => `(tactic| assumption)
local macro_rules | `(tactic| k_ne) => `(tactic| (refine neN ?_; (try dsimp only); first | assumption | exact Ne.symm (by assumption)))
local macro_rules | `(tactic| walk_at "MPost next") => `(tactic| k_extra "my mend")
local macro_rules | `(tactic| walk_at "callWith ref") => `(tactic| (k_here; k_dflt (refine' callWith_K ?k1 ?k2 ?_; (case k1 => k_asm); (case k2 => k_is); k_whole)))
local macro_rules | `(tactic| walk_at "call ref") => `(tactic| k_extra "my call")
local macro_rules | `(tactic| walk_at "call builtin:max") => `(tactic| k_extra "my max")
local macro_rules | `(tactic| walk_at "call builtin:list.index") => `(tactic| k_extra "my index")
local macro_rules | `(tactic| walk_at "call builtin:sorted") => `(tactic| k_extra "my sorted")
local macro_rules | `(tactic| walk_at "compareOp NotEq ref ref") => `(tactic| k_extra "my ne")
local macro_rules | `(tactic| walk_at "subscriptTail Name BinOp ref int") => `(tactic| k_extra "my item")
local macro_rules | `(tactic| walk_at "subscriptTail Name Name ref int") => `(tactic| k_extra "my item")
local macro_rules | `(tactic| walk_at "compareOp Lt int int") => `(tactic| k_extra "my lt")
local macro_rules | `(tactic| walk_at "CompEnd none") => `(tactic| k_extra "my compend")
local macro_rules | `(tactic| walk_at "subscriptTail Name Slice ref ref") => `(tactic| k_extra "my slice")
local macro_rules | `(tactic| walk_at "call builtin:list.pop") => `(tactic| k_extra "my pop")
local macro_rules | `(tactic| walk_at "leaving ref") => `(tactic| k_extra "my leaving")
local macro_rules | `(tactic| walk_at "compareOp Eq int int") => `(tactic| k_extra "my eqint")
local macro_rules | `(tactic| walk_at "compareOp Gt int int") => `(tactic| k_extra "my gtint")
local macro_rules | `(tactic| walk_at "compareOp NotEq int int") => `(tactic| k_extra "my neint")
local macro_rules | `(tactic| walk_at "eval Lambda") => `(tactic| k_extra "my lambda")
set_option maxRecDepth 100000 in
set_option maxHeartbeats 8000000 in
theorem turn_says {w : World} {p : Program} {loose : List Str} {mean : ExcName → Option Value} {mg mb : Str → Option Value} {h₀ : Heap} {S fa sl : Addr} {vs : List Value} {ns : List Int} {Q : Flow → Shared → Prop} {E : Value → Shared → Prop} {s : Shared} {i : Nat} {t : Tok} {m₁ : Str → Option Value} {news₁ : List (Addr × Obj)} {h : Heap} {tk : Nat} {I : Addr} {it : Obj}
    (B : Below callerA h₀ [] h₀) (T : Top p loose mean mg mb h₀) (C : CodeHd h₀ 60 58) (hl : h₀.IsList sl vs.toArray) (hi : IntsAre vs ns) (hn : ns.length ≤ 63) (hin : i < ns.length) (hJ : J S sl ns i m₁ news₁) (hoff : ∀ p ∈ news₁, p.1 ≠ I)
    (F : Fr h₀ S h (fun y => if y = Str.ofString "k" then some (.int (i : Nat) t) else m₁ y)) (N : News h₀ S h ((I, it) :: news₁)) (X : (hd.heap_39 w.params).In h₀) :
    wpAny (model PySem.Challenge.rw_xb0006_01.row.prog w) (callerA.deeper (envOfC (Str.ofString "law") lawScope S fa (.ref 60))) (execs lawTurn (envOfC (Str.ofString "law") lawScope S fa (.ref 60)))
      (MPost h₀ S I it (J S sl ns (i + 1)) { s with heap := h, toks := tk } Q) E { s with heap := h, toks := tk } := by
  revert X
  k_fill
  intro X
  k_with_none
  k_with "my call" => ((show wpAny _ _ (PySem.call (Value.ref 56) _) _ _ _); k_dflt (refine wpAny_call ?_; refine' code_tryX (by k_asm) (by k_asm) (by k_asm) (by k_asm) (by k_asm) (by exact rfl) (by exact rfl) (by exact rfl) (by k_is) (by k_is) (by k_room) (by exact BindsTo.of_eq rfl) (by exact locs rfl) ?_ (by exact rfl) (by exact rfl) (by exact rfl) (by decide); k_whole; intro g' L' h' FG' F' N' B' X' T' D'; (try dsimp only); (try k_fold)))
  k_with "my call" => ((show wpAny _ _ (PySem.call (Value.ref 35) _) _ _ _); k_dflt (refine' Says.useF (ify_says _ _ ?_) (by k_asm) (by k_asm) (by k_asm) (by k_asm) (by k_updF) (by k_asm) (by rfl) (by assumption) (by ktr_room) ?_; focus (k_extra "my len")); intro v' ns' vs' c' h' tk' F' N' I' P'; obtain ⟨e', P1', P2'⟩ := P'; subst e'; (have hlen9 := P1'.length_eq); (simp only [List.length_map, List.length_take] at hlen9); (have hz9 : ns'.length ≤ 63 := by omega); (try dsimp only at N'); (try dsimp only))
  k_with "my call" => ((show wpAny _ _ (PySem.call (Value.ref 21) _) _ _ _); k_dflt (refine' Says.useF (pop_says _ _ (pos_of_perm hP hne') hH (len_of_perm hP hlr hn)) (by k_asm) (by k_asm) (by k_asm) (by k_asm) (by k_updF) (by k_asm) (by rfl) (by assumption) (by ktr_room) ?_); intro v' ns' vs' c' h' tk' F' N' I' P'; obtain ⟨t', e', P2', P1'⟩ := pop_open P'; subst e'; (have hz9 := pop_len P1' hP hlr hn); (have hr9 := row_pop hP hM1 (top_eq hP hH hne' hM1 hM2) P1'); (try dsimp only at N'); (try dsimp only))
  k_with "my call" => ((show wpAny _ _ (PySem.call (Value.ref 28) _) _ _ _); k_dflt (refine' Says.useF (repl_says _ _ _ _ (pos_of_perm hP hne') hH (len_of_perm hP hlr hn)) (by k_asm) (by k_asm) (by k_asm) (by k_asm) (by k_updF) (by k_asm) (by rfl) (by assumption) (by ktr_room) ?_); intro v' ns' vs' c' h' tk' F' N' I' P'; obtain ⟨t', e', P2', P1'⟩ := repl_open P'; subst e'; (have hz9 := put_len P1' hP hlr hn); (have hr9 := row_put hP hM1 (top_eq hP hH hne' hM1 hM2) P1'); (try dsimp only at N'); (try dsimp only))
  k_with "my len" => first | exact lt64 hz9 | exact lt64_perm hr9 hz9 | omega | (simp only [List.length_map, List.length_take] at *; omega)
  k_with "my sorted" => ((with_unfolding_all refine' kso_sorted (by k_asm) (by k_asm) (by kso_list) (by l_ints) (by k_extra "my len") ?_; k_whole); intro D' v' n' c' h' F' N' l1 i' e' p' o' b'; (try k_lt l1))
  k_with "my ne" => (with_unfolding_all refine' ne_same (by is_list) (by l_ints) (by is_list) (by l_ints) (by units_room) (by k_extra "my eq") ?_; k_whole)
  k_with "my eq" => exact fold_same _ _
  k_with "my eq" => exact ksm_same (List.Perm.trans (by assumption) (List.Perm.symm (by assumption))) (by assumption) (by assumption)
  k_with "my eq" => exact ksm_same (List.Perm.trans (by assumption) (List.Perm.trans P1' (List.Perm.symm (by assumption)))) (by assumption) (by assumption)
  k_with "my eq" => exact ksm_same (List.Perm.trans (by assumption) (List.Perm.trans hr9 (List.Perm.symm (by assumption)))) (by assumption) (by assumption)
  k_with "my idx" => first | exact idx_lo (by assumption) | exact idx_hi (by assumption) (by assumption) | exact idx_fit (by assumption) (by assumption) hz9 | exact jdx_lo (by assumption) | exact jdx_hi (by assumption) (by assumption) | exact jdx_fit (by assumption) (by assumption) hz9
  k_with "my item" => (k_dflt (refine' ksa_sub (by k_asm) (by k_mem) (by with_reducible assumption) (by k_extra "my idx") (by k_extra "my idx") (by k_extra "my idx") ?_ (by with_unfolding_all rfl); k_whole); intro _)
  k_with "my lt" => (refine lt_false (heap_no P2' (by assumption) (by assumption)) ?_)
  k_with "my eqint" => first | (refine eq_yes (by assumption) ?_) | (refine eq_not (by assumption) ?_)
  k_with "my gtint" => first | (refine gt_yes (by assumption) ?_) | (refine gt_not (by assumption) ?_)
  k_with "my neint" => (refine ne_not (top_eq hP hH hne' hM1 hM2) ?_)
  k_with "my pop" => (k_dflt (refine' pop_empty (by rfl) (by k_asm) (by k_mem) ?_); intro h' tk' e' x')
  k_with "my leaving" => (refine' leave_onX (by assumption) (by assumption) (by assumption) (by assumption) ?_; k_whole; intro h' S' U'; (try dsimp only at S' U' ⊢))
  k_with "my slice" => (k_dflt (refine' kmk_slice_ints (by k_asm) (by k_asm) (by kmk_list) (by kmk_part) (by kmk_part) hIr (kmk_upto hIr (Int.natCast_nonneg _)) rfl ?_ (by with_unfolding_all rfl) (by kmk_pure) (kmk_sz hIr hrz)); intro D' ws' h' F' N' l1 hI' hC' hL'; (try k_lt l1))
  k_with "my slice" => (k_dflt (refine' kmk_slice_ints (by k_asm) (by k_asm) (by kmk_list) (by kmk_part) (by kmk_part) hIr (kmk_from hIr (succ_nn _)) rfl ?_ (by with_unfolding_all rfl) (by kmk_pure) (kmk_sz hIr hrz)); intro D' ws' h' F' N' l1 hI' hC' hL'; (try k_lt l1))
  k_with "my compend" => (refine' LCg.CompEnd.intro (by assumption) (by assumption) _ (by kcf_all) (by first | assumption | (simp only [LCg.Off3, and_true]; done) | (simp only [LCg.Off3, and_true]; assumption)) (by first | lcg_src | assumption) (kci_no rfl rfl))
  k_with "my max" => ((have hne' := pos_of_dec (by assumption)); (rename News _ _ _ _ => lN'); (rename Fr _ _ _ _ => lF'); (refine' max_list_N (by rfl) lF' lN' (by is_list) hIr hne' ?_); (clear lF' lN'); intro h' M t' tk' F' N' hM1 hM2)
  k_with "my index" => (k_dflt (refine' index_any (by k_asm) (by k_mem) hIr (by assumption) (by omega) ?_))
  k_with "my mend" => ((repeat (rename _ ∧ _ => hc; obtain ⟨_, _⟩ := hc)); (rename News _ _ _ _ => lN'); (rename Fr _ _ _ _ => lF'); (k_dflt (refine' mend_J (ns := ns) (i := i) lF' lN' (by exact rfl) (by exact rfl) (by exact rfl) (by k_mem) (by k_mem) (by k_mem) (by k_mem) (by assumption) (by assumption) (by assumption) (by k_mem) (by k_mem) (by first | assumption | exact IntsAre.nil) (by first | assumption | exact IntsAre.nil) ?_ ?_ ?_ ?_ ?_ ?_ ?_ ?_ ?_ ?_ ?_ ?_ ?_ ?_ ?_ ?_ ?_ ?_ ?_ ?_ ?_)); (rotate_left 1); (first | exact hT9' | exact hT); (focus kcf_all); (iterate 5 (focus (first | assumption | exact Ne.symm (by assumption) | exact Nat.ne_of_lt (by assumption) | exact Nat.ne_of_gt (by assumption)))); (iterate 5 (focus (first | assumption | exact off1_all (by assumption) | exact allLt_all (by assumption) | (repeat (first | exact List.forall_mem_nil _ | (refine List.forall_mem_cons.mpr ⟨by (dsimp only; (first | assumption | exact Ne.symm (by assumption) | exact Nat.ne_of_lt (by assumption) | exact Nat.ne_of_gt (by assumption))), ?_⟩)))))); (iterate 5 (focus (first | assumption | exact Ne.symm (by assumption) | exact Nat.ne_of_lt (by assumption) | exact Nat.ne_of_gt (by assumption)))); (focus (first | assumption | exact off1_all (by assumption) | exact allLt_all (by assumption) | (repeat (first | exact List.forall_mem_nil _ | (refine List.forall_mem_cons.mpr ⟨by (dsimp only; (first | assumption | exact Ne.symm (by assumption) | exact Nat.ne_of_lt (by assumption) | exact Nat.ne_of_gt (by assumption))), ?_⟩))))); (first | exact P2' | exact hH); (first | exact hr9 | exact P1' | exact hP); (first | exact len0 | exact hlr | exact len1 hr9 P1' hP hlr | exact len2 hr9 P1' hP hlr))
  k_with "my lambda" => ((try clear q2); (try (have hnil := nil_of_dec (by assumption) hP; obtain ⟨hn1, hn2⟩ := hnil; subst hn1; subst hn2; cases hIr; cases hIh)); k_dflt (refine' kla_eval (by exact rfl) ?_); k_dflt (refine' lam_any (tb := tb) (by k_asm) (by k_asm) (by (repeat' (first | exact SplitAt.nil | refine' SplitAt.cons ?_))) (by k_asm) C (by exact rfl) hT (by exact rfl) (by exact rfl) (by exact rfl) (by (repeat (first | exact List.forall_mem_nil _ | (refine List.forall_mem_cons.mpr ⟨by (dsimp only; k_all), ?_⟩)))) (by exact rfl) ?_); intro f' c9' oc9' vs9' t9' ctv' h' tk' F' N' hT9' dc1' dc2' lf1' lf2' lf3' lc1' lc2'; (try dsimp only at N'); (replace lf1' := allLt_of lf1'); (replace lc1' := allNe_of lc1'); (replace lc2' := allNe_of lc2'); (simp only [AllLt, AllNe, and_true] at lf1' lc1' lc2'))
  obtain ⟨ar, ah, vr, vh, rs, hs, cr, ch, o1, o2, o3, v1, v2, tb, rfl, hT, d1, d2, d3, hIr, hIh, mr, ms, ⟨la1, la2, la3, l2, l3⟩, b1, b2, b3, b4, b5, hH, hP, hlr⟩ := hJ
  rw [m_row mr ms rfl] at F
  have hoff1 : @Ne Nat ar I := hoff _ (.head _)
  have hoff2 : @Ne Nat ah I := hoff _ (.tail _ (.head _))
  have hoff3 : @Ne Nat (S + 1 + 1 + 1) I := hoff _ (.tail _ (.tail _ (.head _)))
  have hoff4 : @Ne Nat (S + 1 + 1) I := hoff _ (.tail _ (.tail _ (.tail _ (.head _))))
  have hoff5 : @Ne Nat (S + 1) I := hoff _ (.tail _ (.tail _ (.tail _ (.tail _ (.head _)))))
  have hoff6 : ∀ q ∈ tb, q.1 ≠ I := fun q hq => hoff q (.tail _ (.tail _ (.tail _ (.tail _ (.tail _ hq)))))
  have hMark := kstMark
  have hrz : rs.length ≤ sizeLine := by rw [sizeLine_eq]; omega
  have q9 := fmod_lo (ns.getD ((i : Nat) : Int).toNat 0) (n := 4) (by decide)
  clear hoff
  (conv => pattern (occs := *) lawScope <;> whnf)
  (conv => pattern lawTurn; whnf)
  by_cases q0 : (ns.getD ((i : Nat) : Int).toNat 0).fmod 4 = 0
  · clear q9
    k_steps
  · by_cases q1 : (ns.getD ((i : Nat) : Int).toNat 0).fmod 4 = 1
    · have q2 : ¬ 1 < (ns.getD ((i : Nat) : Int).toNat 0).fmod 4 := by omega
      clear q9
      k_steps
    · have q2 : 1 < (ns.getD ((i : Nat) : Int).toNat 0).fmod 4 := by omega
      clear q9
      k_steps
end Mine
end

section
/-! the law's last loop: a list emptied into another -/
set_option maxRecDepth 100000
namespace Mine
open PySem PySem.W PySem.Spec PySem.Calls PyProof.Rows PyProof.V
def lawTail : List Stmt := match lawBody with
  | _ :: _ :: _ :: r => r
  | _ => []
def WP (rs os hs : List Int) : Prop := HeapFrom hs 0 ∧ (os ++ hs).Perm rs ∧ os.Pairwise (fun x y => y ≤ x) ∧ ∀ a ∈ os, ∀ b ∈ hs, b ≤ a
theorem wp_zero {rs hs : List Int} (h : HeapFrom hs 0) (hp : hs.Perm rs) : WP rs [] hs := ⟨h, hp, .nil, fun _ ha => nomatch ha⟩
theorem wp_step {rs os hs ns' : List Int} (h : WP rs os hs) (hn : 0 < hs.length) (h1 : HeapFrom ns' 0) (hp : (hs.getD 0 0 :: ns').Perm hs) : WP rs (os ++ [hs.getD 0 0]) ns' := by
  obtain ⟨a, b, c, d⟩ := h
  refine ⟨h1, ?_, ?_, ?_⟩
  · rw [List.append_assoc]
    exact (List.Perm.append_left os hp).trans b
  · refine List.pairwise_append.mpr ⟨c, List.pairwise_singleton _ _, fun x hx y hy => ?_⟩
    rw [List.mem_singleton.mp hy]
    exact d x hx _ (getD0_mem hn)
  · intro x hx y hy
    have hy' : y ∈ hs := hp.mem_iff.mp (.tail _ hy)
    rcases List.mem_append.mp hx with hx | hx
    · exact d x hx y hy'
    · rw [List.mem_singleton.mp hx]
      exact heap_top_mem a y hy'
theorem wp_len {rs os hs ns ns' : List Int} {a : Int} (h : WP rs os hs) (hl : rs.length ≤ ns.length) (hn : ns.length ≤ 63) (hp : (a :: ns').Perm hs) : ns'.length < hs.length := by
  have := hp.length_eq; simp only [List.length_cons] at this; omega
theorem wp_63 {rs os hs ns : List Int} (h : WP rs os hs) (hl : rs.length ≤ ns.length) (hn : ns.length ≤ 63) : os.length + hs.length ≤ 63 := by
  have := h.2.1.length_eq; simp only [List.length_append] at this; omega
theorem wp_done {rs os hs r : List Int} (h : WP rs os hs) (he : hs = []) (hp : r.Perm rs) (hs : r.Pairwise (fun x y => y ≤ x)) : os = r := by
  obtain ⟨_, b, c, _⟩ := h
  subst he
  rw [List.append_nil] at b
  exact List.Perm.eq_of_pairwise (fun x y _ _ h1 h2 => Int.le_antisymm h2 h1) c hs (b.trans hp.symm)
section
variable {prog : Program} {w : World} {A : Around} {E : Value → Shared → Prop} {s : Shared} {env : Env} {h₀ : Heap} {L : Addr} {Q : Flow → Shared → Prop}
def WEnd (h₀ : Heap) (L out ah : Addr) (r0 : Addr × Obj) (rest : List (Addr × Obj)) (m : Str → Option Value) (rs hs : List Int) (s s₂ : Shared) : Prop :=
  ∃ os' vo' co' hs' vh' ch' h' tk news', s₂ = { s with heap := h', toks := tk } ∧ Fr h₀ L h' m ∧ News h₀ L h' news' ∧ (out, W.listOf (List.toArray vo') co') ∈ news' ∧ r0 ∈ news' ∧ (ah, W.listOf (List.toArray vh') ch') ∈ news' ∧
    (∀ p ∈ rest, p ∈ news') ∧ IntsAre vo' os' ∧ IntsAre vh' hs' ∧ WP rs os' hs' ∧ hs'.length < hs.length
def WPost (h₀ : Heap) (L out ah : Addr) (r0 : Addr × Obj) (rest : List (Addr × Obj)) (m : Str → Option Value) (rs hs : List Int) (s : Shared) (Q : Flow → Shared → Prop) (f : Flow) (s₂ : Shared) : Prop :=
  match f with
  | .ret v => Q (.ret v) s₂
  | .brk => Q .next s₂
  | _ => WEnd h₀ L out ah r0 rest m rs hs s s₂
theorem two_while {test : Expr} {body : List Stmt} {pos : Pos} {m : Str → Option Value} {out ah : Addr} {r0 : Addr × Obj} {rest : List (Addr × Obj)} {rs os hs : List Int} {vo vh : List Value} {co ch : Nat}
    (F : Fr h₀ L s.heap m) (N : News h₀ L s.heap ((out, W.listOf vo.toArray co) :: r0 :: (ah, W.listOf vh.toArray ch) :: rest)) (hIo : IntsAre vo os) (hIh : IntsAre vh hs) (hP : WP rs os hs)
    (turn : ∀ os vo co hs vh ch h tk, IntsAre vo os → IntsAre vh hs → WP rs os hs → Fr h₀ L h m → News h₀ L h ((out, W.listOf (List.toArray vo) co) :: r0 :: (ah, W.listOf (List.toArray vh) ch) :: rest) →
      wpAny (model prog w) A (isTrue test env (eval test env)) (fun b s₂ =>
        if b = true then wpAny (model prog w) A (execs body env) (WPost h₀ L out ah r0 rest m rs hs s Q) E s₂ else Q .next s₂) E { s with heap := h, toks := tk })
    (hE : PassesOwn (model prog w) A env E := by passes_own) :
    wpAny (model prog w) A (exec (.While test body [] pos) env) Q E s := by
  refine While_inv2 (fun n m' nx => m' = m ∧ ∃ os vo co hs vh ch, nx = ((out, W.listOf (List.toArray vo) co) :: r0 :: (ah, W.listOf (List.toArray vh) ch) :: rest) ∧ hs.length = n ∧ IntsAre vo os ∧ IntsAre vh hs ∧ WP rs os hs) F N ⟨rfl, os, vo, co, hs, vh, ch, rfl, rfl, hIo, hIh, hP⟩ ?_ hE
  rintro n m₁ nx h tk F₁ N₁ ⟨rfl, os, vo, co, hs, vh, ch, rfl, rfl, i1, i2, hP⟩
  refine wpAny_mono (turn os vo co hs vh ch h tk i1 i2 hP F₁ N₁) (fun b s₂ p => ?_) fun _ _ x => x
  have fin : ∀ s₃, WEnd h₀ L out ah r0 rest m₁ rs hs s s₃ → ∃ h' tk m₂ news₂ n', s₃ = { s with heap := h', toks := tk } ∧ Fr h₀ L h' m₂ ∧ News h₀ L h' news₂ ∧ n' < hs.length ∧
      (m₂ = m₁ ∧ ∃ os vo co hs vh ch, news₂ = ((out, W.listOf (List.toArray vo) co) :: r0 :: (ah, W.listOf (List.toArray vh) ch) :: rest) ∧ hs.length = n' ∧ IntsAre vo os ∧ IntsAre vh hs ∧ WP rs os hs) := by
    rintro s₃ ⟨os', vo', co', hs', vh', ch', h', tk', news', e, F', N', e1, e2, e3, e4, j1, j2, hP', hl⟩
    refine ⟨h', tk', m₁, _, hs'.length, e, F', fun p hp => N' p ?_, hl, rfl, os', vo', co', hs', vh', ch', rfl, rfl, j1, j2, hP'⟩
    rcases List.mem_cons.mp hp with rfl | hp
    · exact e1
    rcases List.mem_cons.mp hp with rfl | hp
    · exact e2
    rcases List.mem_cons.mp hp with rfl | hp
    · exact e3
    · exact e4 p hp
  cases b with
  | false => simpa using p
  | true =>
    simp only [if_true] at p ⊢
    refine wpAny_mono p (fun f s₃ q => ?_) fun _ _ x => x
    cases f with
    | ret v => exact q
    | brk => exact q
    | next => exact fin s₃ q
    | cont => exact fin s₃ q
theorem wend {out ah : Addr} {r0 : Addr × Obj} {rest news' : List (Addr × Obj)} {m : Str → Option Value} {rs hs os' hs' : List Int} {vo' vh' : List Value} {co' ch' : Nat} {h' : Heap} {tk : Nat} {s s₂ : Shared}
    (F : Fr h₀ L h' m) (N : News h₀ L h' news') (es : s₂ = { s with heap := h', toks := tk }) (e1 : (out, W.listOf (List.toArray vo') co') ∈ news') (e2 : r0 ∈ news') (e3 : (ah, W.listOf (List.toArray vh') ch') ∈ news')
    (e4 : ∀ p ∈ rest, p ∈ news') (i2 : IntsAre vh' hs') (hP : WP rs os' hs') (i1 : IntsAre vo' os') (hl : hs'.length < hs.length) : WPost h₀ L out ah r0 rest m rs hs s Q .next s₂ :=
  ⟨os', vo', co', hs', vh', ch', h', tk, news', es, F, N, e1, e2, e3, e4, i1, i2, hP, hl⟩
theorem eq_same {a b : Addr} {vs us : List Value} {ns ms : List Int} {Q : Value → Shared → Prop} (hl : s.heap.IsList a vs.toArray) (hi : IntsAre vs ns) (hl' : s.heap.IsList b us.toArray) (hi' : IntsAre us ms) (hu : A.units + 64 < cLine) (he : ns = ms)
    (h : Q (.bool true) s) : wpAny (model prog w) A (compareOp .Eq (.ref a) (.ref b)) Q E s :=
  eq_intsK hl hi hl' hi' hu (by rw [decide_eq_true he]; exact h)
end
theorem m_row0 {sl ar : Addr} {m : Str → Option Value} (h1 : m "row" = some (.ref ar)) (h2 : m "script" = some (.ref sl)) :
    m = fun y => if y = Str.ofString "row" then some (.ref ar) else if y = Str.ofString "script" then some (.ref sl) else m y := by
  funext y
  by_cases e2 : y = Str.ofString "row"
  · rw [if_pos e2, e2]; exact h1
  · rw [if_neg e2]
    by_cases e3 : y = Str.ofString "script"
    · rw [if_pos e3, e3]; exact h2
    · rw [if_neg e3]
end Mine
end

section
namespace Mine
open PySem PySem.W PySem.Spec PySem.Calls PyProof.Rows
local macro_rules | `(tactic| k_all) => `(tactic| assumption)
local macro_rules | `(tactic| k_ne) => `(tactic| (refine neN ?_; (try dsimp only); first | assumption | exact Ne.symm (by assumption)))
local macro_rules | `(tactic| walk_at "WPost cons next") => `(tactic| k_extra "my wend")
local macro_rules | `(tactic| walk_at "callWith ref") => `(tactic| (k_here; k_dflt (refine' callWith_K ?k1 ?k2 ?_; (case k1 => k_asm); (case k2 => k_is); k_whole)))
local macro_rules | `(tactic| walk_at "call ref") => `(tactic| k_extra "my call")
local macro_rules | `(tactic| walk_at "compareOp Eq ref ref") => `(tactic| k_extra "my eqr")
local macro_rules | `(tactic| walk_at "exec While Compare cons nil") => `(tactic| k_extra "my while")
local macro_rules | `(tactic| walk_at "call builtin:sorted") => `(tactic| k_extra "my sorted")
set_option maxRecDepth 100000 in
set_option maxHeartbeats 8000000 in
theorem rest_says {w : World} {p : Program} {loose : List Str} {mean : ExcName → Option Value} {mg mb : Str → Option Value} {h₀ : Heap} {S fa sl : Addr} {ns : List Int} {Q : Flow → Shared → Prop} {E : Value → Shared → Prop} {s : Shared} {n : Nat} {m₁ : Str → Option Value} {news₁ : List (Addr × Obj)} {h : Heap} {tk : Nat}
    (B : Below callerA h₀ [] h₀) (T : Top p loose mean mg mb h₀) (hn : ns.length ≤ 63) (hJ : J S sl ns n m₁ news₁)
    (F : Fr h₀ S h m₁) (N : News h₀ S h news₁) (X : (hd.heap_39 w.params).In h₀)
    (hE : PassesOwn (model PySem.Challenge.rw_xb0006_01.row.prog w) (callerA.deeper (envOfC (Str.ofString "law") lawScope S fa (.ref 60))) (envOfC (Str.ofString "law") lawScope S fa (.ref 60)) E)
    (hQ : ∀ h' tk m' tb, TabSt 65 29 ((Str.ofString "law" ++ ".<locals>.") ++ "<lambda>") tb → Fr h₀ S h' m' → News h₀ S h' tb → Q (.ret (.bool true)) { s with heap := h', toks := tk }) :
    wpAny (model PySem.Challenge.rw_xb0006_01.row.prog w) (callerA.deeper (envOfC (Str.ofString "law") lawScope S fa (.ref 60))) (execs lawTail (envOfC (Str.ofString "law") lawScope S fa (.ref 60))) Q E { s with heap := h, toks := tk } := by
  revert X
  k_fill
  intro X
  k_with_none
  k_with "my while" => ((rename News _ _ _ _ => lN'); (rename Fr _ _ _ _ => lF'); (k_dflt (refine' two_while lF' lN' IntsAre.nil hIh (wp_zero hH hP) ?_ hE)); (clear lF' lN'); intro os9 vo9 co9 hs9 vh9 ch9 h9 tk9 hIo9 hIh9 hW9 F9 N9; (have hl9 := wp_63 hW9 hlr hn); (have hlo9 := IntsAre.length hIo9); (have hlh9 := IntsAre.length hIh9); (have hz9 : os9.length ≤ 63 := by omega); (have hzh9 : hs9.length ≤ 63 := by omega))
  k_with "my call" => ((show wpAny _ _ (PySem.call (Value.ref 21) _) _ _ _); (have hne9 := pos_of_dec (by assumption)); k_dflt (refine' Says.useF (pop_says _ _ hne9 hW9.1 hzh9) (by k_asm) (by k_asm) (by k_asm) (by k_asm) (by k_updF) (by k_asm) (by rfl) (by assumption) (by ktr_room) ?_); intro v' ns' vs' c' h' tk' F' N' I' P'; obtain ⟨t', e', P2', P1'⟩ := pop_open P'; subst e'; (have hW8 := wp_step hW9 hne9 P2' P1'); (have hlt9 := wp_len hW9 hlr hn P1'); (try dsimp only at N'); (try dsimp only))
  k_with "my eqr" => (with_unfolding_all refine' eq_same (by is_list) (by l_ints) (by is_list) (by l_ints) (by units_room) (by k_extra "my eq") ?_; k_whole)
  k_with "my eq" => exact wp_done hW9 (of_decide_eq_true (by assumption)) (by assumption) (by assumption)
  k_with "my wend" => ((rename News _ _ _ _ => lN'); (rename Fr _ _ _ _ => lF'); (try simp only [List.push_toArray] at lN'); (k_dflt (refine' wend lF' lN' (by exact rfl) (by k_mem) (by k_mem) (by k_mem) ?_ (by assumption) hW8 ?_ hlt9)); (focus kcf_all); (first | assumption | l_ints))
  obtain ⟨ar, ah, vr, vh, rs, hs, cr, ch, o1, o2, o3, v1, v2, tb, rfl, hT, d1, d2, d3, hIr, hIh, mr, ms, ⟨la1, la2, la3, l2, l3⟩, b1, b2, b3, b4, b5, hH, hP, hlr⟩ := hJ
  rw [m_row0 mr ms] at F
  have hMark := kstMark
  have hrz : rs.length ≤ 63 := by omega
  have hrz2 : rs.length < 64 := by omega
  have hn1 : @Ne Nat (S + 1 + 1 + 1) ah := Nat.ne_of_lt l2
  have hn2 : @Ne Nat (S + 1 + 1) ah := Nat.ne_of_lt (Nat.lt_of_succ_lt l2)
  have hn3 : @Ne Nat (S + 1) ah := Nat.ne_of_lt (Nat.lt_of_succ_lt (Nat.lt_of_succ_lt l2))
  (conv => pattern (occs := *) lawScope <;> whnf)
  (conv at hE => pattern (occs := *) lawScope <;> whnf)
  (conv => pattern lawTail; whnf)
  k_steps
  rename News _ _ _ _ => lN'
  rename Fr _ _ _ _ => lF'
  exact hQ _ _ _ tb hT lF' (fun p hp => lN' p (by simp [hp]))
end Mine
end

section
set_option maxRecDepth 100000
namespace Mine
open PySem PySem.W PySem.Spec PySem.Calls PyProof.Rows
theorem j_start {S sl ar ah : Addr} {ns : List Int} {o1 o2 o3 : Obj} {v1 v2 : Option Value} {m : Str → Option Value} (d1 : o1.data = .cell v1) (d2 : o2.data = .cell v2) (d3 : o3.data = .cell (some (.ref ah)))
    (mr : m "row" = some (.ref ar)) (ms : m "script" = some (.ref sl)) (l2 : @LT.lt Nat _ (S + 1 + 1 + 1) ah) (l3 : @LT.lt Nat _ ah ar) (h58 : @LT.lt Nat _ 58 S) :
    J S sl ns 0 m [(ar, W.listOf #[] 0), (ah, W.listOf #[] 0), (S + 1 + 1 + 1, o1), (S + 1 + 1, o2), (S + 1, o3), (58, tabObj #[])] := by
  have a1 : @LT.lt Nat _ (S + 1 + 1 + 1) ar := Nat.lt_trans l2 l3
  have a2 : @LT.lt Nat _ (S + 1 + 1) ar := Nat.lt_of_succ_lt a1
  have a3 : @LT.lt Nat _ (S + 1) ar := Nat.lt_of_succ_lt a2
  have a4 : @LT.lt Nat _ S ar := Nat.lt_of_succ_lt a3
  have a5 : @LT.lt Nat _ S ah := Nat.lt_of_succ_lt (Nat.lt_of_succ_lt (Nat.lt_of_succ_lt l2))
  have one : ∀ {d : Addr}, @LT.lt Nat _ 58 d → ∀ q ∈ [((58 : Addr), tabObj #[])], q.1 ≠ d := fun hd q hq => by
    rw [List.mem_singleton.mp hq]; exact Nat.ne_of_lt hd
  exact ⟨ar, ah, [], [], [], [], 0, 0, o1, o2, o3, v1, v2, [(58, tabObj #[])], rfl, .fresh, d1, d2, d3, .nil, .nil, mr, ms,
    ⟨Nat.ne_of_lt a1, Nat.ne_of_lt a2, Nat.ne_of_lt a3, l2, (Nat.ne_of_lt l3).symm⟩, one (Nat.lt_trans h58 a4), one (Nat.lt_trans h58 a5),
    one (Nat.lt_succ_of_lt (Nat.lt_succ_of_lt (Nat.lt_succ_of_lt h58))), one (Nat.lt_succ_of_lt (Nat.lt_succ_of_lt h58)), one (Nat.lt_succ_of_lt h58),
    fun j h1 h2 => absurd h2 (Nat.not_lt_zero _), .refl _, Nat.zero_le _⟩
theorem law_all {w : World} {p : Program} {loose : List Str} {mean : ExcName → Option Value} {mg mb : Str → Option Value} {h₀ : Heap} {S fa sl r : Addr} {vs : List Value} {ns : List Int} {Q Q' : Flow → Shared → Prop} {E : Value → Shared → Prop} {s : Shared} {t u v : Tok} {m₀ : Str → Option Value} {news : List (Addr × Obj)}
    (B : Below callerA h₀ [] h₀) (T : Top p loose mean mg mb h₀) (C : CodeHd h₀ 60 58) (hl : h₀.IsList sl vs.toArray) (hi : IntsAre vs ns) (hn : ns.length ≤ 63) (X : (hd.heap_39 w.params).In h₀)
    (F : Fr h₀ S s.heap m₀) (N : News h₀ S s.heap news) (hr : IsRange s.heap r 0 (ns.length : Int) 1 t u v) (hJ : J S sl ns 0 m₀ news)
    (hE : PassesOwn (model PySem.Challenge.rw_xb0006_01.row.prog w) (callerA.deeper (envOfC (Str.ofString "law") lawScope S fa (.ref 60))) (envOfC (Str.ofString "law") lawScope S fa (.ref 60)) E)
    (hnext : ∀ s', wpAny (model PySem.Challenge.rw_xb0006_01.row.prog w) (callerA.deeper (envOfC (Str.ofString "law") lawScope S fa (.ref 60))) (execs lawTail (envOfC (Str.ofString "law") lawScope S fa (.ref 60))) Q E s' → Q' .next s')
    (hQ : ∀ h' tk m' tb, TabSt 65 29 ((Str.ofString "law" ++ ".<locals>.") ++ "<lambda>") tb → Fr h₀ S h' m' → News h₀ S h' tb → Q (.ret (.bool true)) { s with heap := h', toks := tk }) :
    wpAny (model PySem.Challenge.rw_xb0006_01.row.prog w) (callerA.deeper (envOfC (Str.ofString "law") lawScope S fa (.ref 60))) (pyIter (.ref r))
      (fun it s₂ => LoopAtV PySem.Challenge.rw_xb0006_01.row.prog w (callerA.deeper (envOfC (Str.ofString "law") lawScope S fa (.ref 60))) h₀ (envOfC (Str.ofString "law") lawScope S fa (.ref 60)) (Str.ofString "k") lawTurn Q' E it s₂) E s :=
  main_loop (env := envOfC (Str.ofString "law") lawScope S fa (.ref 60)) (J S sl ns) rfl hr hn F N hJ
    (fun _ _ _ _ _ _ _ _ hin hj hoff F' N' => turn_says B T C hl hi hn hin hj hoff F' N' X)
    (fun _ _ _ _ hj F' N' => hnext _ (rest_says B T hn hj F' N' X hE hQ))
end Mine
end

namespace Mine
open PySem PySem.W PySem.Spec PySem.Calls PyProof.Rows
end Mine
open PySem PySem.W PySem.Spec PySem.Calls PyProof.Rows Mine
local macro_rules | `(tactic| walk_at "pyIter ref") => `(tactic| k_extra "my loop")
set_option maxRecDepth 100000 in
set_option maxHeartbeats 8000000 in
theorem PySem.Challenge.cw_xb0006_01_holds : PySem.Challenge.rw_xb0006_01.Holds := by
  refine hd (by
    k_with_none
    k_with "my loop" => ((rename News _ _ _ _ => lN'); (rename Fr _ _ _ _ => lF'); (k_dflt (refine' law_all (by k_asm) (by k_asm) codeHd lifted (by assumption) (by omega) (by k_asm) lF' lN' (by assumption) ?_ ?_ (fun _ hq => hq) ?_)); (focus (k_dflt (refine' j_start (by assumption) (by assumption) (by assumption) (by exact rfl) (by exact rfl) ?_ ?_ ?_)); all_goals omega); (focus passes_own); intro h' tk m' tb hT F' N'; cases hT; (all_goals (try dsimp only)))
    k_go0; (all_goals try k_fold)
    k_steps)
