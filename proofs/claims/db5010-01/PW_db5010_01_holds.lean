import PyProof.Rows.All
import Wide.All
import OpenK.AllK
import Wide.FinOn
import PySem.Challenge.RW_db5010_01
open PySem PySem.W PyProof.Rows
set_option Elab.async false
set_option rowWalk.seconds 0
namespace Mine
local macro_rules | `(tactic| o_head ($f:ident $k $a $e $t)) => match t with
  | `($p:num :: []) => `(tactic| o_head ($f $k $a $e ($p :: 353 :: [])))
  | _ => Lean.Macro.throwUnsupported
set_option maxRecDepth 100000 in
set_option maxHeartbeats 8000000 in
open_top hd for PySem.Challenge.rw_db5010_01
end Mine
namespace Mine

/-- the least of a row of ints -/
def mn : List Int → Int
  | [] => 0
  | [a] => a
  | a :: b :: r => min a (mn (b :: r))

theorem mn_mem : ∀ {l : List Int}, l ≠ [] → mn l ∈ l
  | [], h => absurd rfl h
  | [a], _ => by simp [mn]
  | a :: b :: r, _ => by
    have ih := mn_mem (l := b :: r) (by simp)
    show min a (mn (b :: r)) ∈ a :: b :: r
    by_cases h : a ≤ mn (b :: r)
    · rw [Int.min_eq_left h]; exact List.mem_cons_self ..
    · rw [Int.min_eq_right (by omega)]; exact List.mem_cons_of_mem _ ih
theorem mn_le : ∀ {l : List Int} {x : Int}, x ∈ l → mn l ≤ x
  | [a], x, h => by simp at h; simp [mn, h]
  | a :: b :: r, x, h => by
    show min a (mn (b :: r)) ≤ x
    rcases List.mem_cons.mp h with rfl | h
    · exact Int.min_le_left _ _
    · exact Int.le_trans (Int.min_le_right _ _) (mn_le h)
theorem mn_of {l : List Int} {x : Int} (h1 : x ∈ l) (h2 : ∀ a ∈ l, x ≤ a) : x = mn l :=
  Int.le_antisymm (h2 _ (mn_mem (by intro e; rw [e] at h1; cases h1))) (mn_le h1)

/-- the item at a place -/
abbrev at_ (c : List Int) (k : Int) : Int := c.getD k.toNat 0
abbrev put (c : List Int) (k v : Int) : List Int := c.set k.toNat v

/-- an amount's size, hidden from omega -/
def Small (n : Int) : Prop := Builtin.Int.intBits n ≤ 1048600
theorem Small.mul {a b : Int} (h : Small a) (h0 : -(2 ^ 63) ≤ b) (h1 : b < 2 ^ 63) : IntMulOk a b := mulOk_of_bits (m := 1048600) (n := 64) h (PySem.intBits_le_64 (by omega) (by omega)) (by decide)

def Within (ks : List Int) (n : Nat) : Prop := ∀ k ∈ ks, 0 ≤ k ∧ k < (n : Int)
def InTop (c : List Int) : Prop := ∀ x ∈ c, 0 ≤ x ∧ x ≤ 4294967295
theorem Within.lo {ks : List Int} {n : Nat} {k : Int} (h : Within ks n) (m : k ∈ ks) : 0 ≤ k := (h k m).1
theorem Within.hi {ks : List Int} {n : Nat} {k : Int} (h : Within ks n) (m : k ∈ ks) : k < (n : Int) := (h k m).2
theorem within_lo {ks : List Int} {n : Nat} {k : Int} (m : k ∈ ks) (h : Within ks n) : 0 ≤ k := (h k m).1
theorem within_hi {ks : List Int} {n : Nat} {k : Int} (m : k ∈ ks) (h : Within ks n) : k < (n : Int) := (h k m).2
theorem at_mem {c : List Int} {k : Int} (h0 : 0 ≤ k) (h1 : k < (c.length : Int)) : at_ c k ∈ c := by
  have h : k.toNat < c.length := by omega
  show c.getD k.toNat 0 ∈ c
  rw [List.getD_eq_getElem?_getD, List.getElem?_eq_getElem h]
  exact List.getElem_mem h
theorem InTop.at {c : List Int} {k : Int} (h : InTop c) (h0 : 0 ≤ k) (h1 : k < (c.length : Int)) : 0 ≤ at_ c k ∧ at_ c k ≤ 4294967295 := h _ (at_mem h0 h1)
theorem InTop.put {c : List Int} {k v : Int} (h : InTop c) (hv : 0 ≤ v ∧ v ≤ 4294967295) : InTop (put c k v) := by
  intro x hx
  rcases List.mem_or_eq_of_mem_set hx with hx | hx
  · exact h x hx
  · rw [hx]; exact hv
theorem put_len (c : List Int) (k v : Int) : (put c k v).length = c.length := List.length_set ..
theorem at_put_self {c : List Int} {k v : Int} (h0 : 0 ≤ k) (h1 : k < (c.length : Int)) : at_ (put c k v) k = v := by
  have h : k.toNat < c.length := by omega
  simp [at_, put, List.getD_eq_getElem?_getD, h]
theorem at_put_ne {c : List Int} {k j v : Int} (h0 : 0 ≤ k) (h1 : 0 ≤ j) (h : j ≠ k) : at_ (put c k v) j = at_ c j := by
  have h' : k.toNat ≠ j.toNat := by omega
  simp [at_, put, List.getD_eq_getElem?_getD, List.getElem?_set_ne h']

/-! ## a take -/
def lowGo (t : Int) : List Int → List Int → List Int × Bool
  | c, [] => (c, true)
  | c, k :: ks =>
    if at_ c k = 4294967295 then lowGo t c ks
    else if at_ c k < t ∨ 4294967295 < at_ c k - t then (c, false)
    else lowGo t (put c k (at_ c k - t)) ks
theorem lowGo_top {t k : Int} {c ks : List Int} (h : at_ c k = 4294967295) : lowGo t c (k :: ks) = lowGo t c ks := by
  rw [lowGo, if_pos h]
theorem lowGo_bad {t k : Int} {c ks : List Int} (h : at_ c k ≠ 4294967295) (h2 : at_ c k < t ∨ 4294967295 < at_ c k - t) : lowGo t c (k :: ks) = (c, false) := by
  rw [lowGo, if_neg h, if_pos h2]
theorem lowGo_put {t k : Int} {c ks : List Int} (h : at_ c k ≠ 4294967295) (h2 : ¬ at_ c k < t) (h3 : ¬ 4294967295 < at_ c k - t) : lowGo t c (k :: ks) = lowGo t (put c k (at_ c k - t)) ks := by
  rw [lowGo, if_neg h, if_neg (by omega)]
theorem lowGo_put2 {t k : Int} {c ks : List Int} (h : at_ c k < 4294967295) (h2 : 0 ≤ at_ c k - t) (h3 : at_ c k - t ≤ 4294967295) : lowGo t c (k :: ks) = lowGo t (put c k (at_ c k - t)) ks := lowGo_put (by omega) (by omega) (by omega)
theorem lowGo_hi {t k : Int} {c ks : List Int} (h : at_ c k < 4294967295) (h3 : ¬ at_ c k - t ≤ 4294967295) : lowGo t c (k :: ks) = (c, false) := lowGo_bad (by omega) (.inr (by omega))
theorem lowGo_lo {t k : Int} {c ks : List Int} (h : at_ c k < 4294967295) (h3 : ¬ 0 ≤ at_ c k - t) : lowGo t c (k :: ks) = (c, false) := lowGo_bad (by omega) (.inl (by omega))
theorem lowGo_full {t k : Int} {c ks : List Int} (hb : 0 ≤ at_ c k ∧ at_ c k ≤ 4294967295) (h : ¬ at_ c k < 4294967295) : lowGo t c (k :: ks) = lowGo t c ks := lowGo_top (by omega)
theorem low_ok {x t : Int} (h2 : ¬ x < t) (h3 : ¬ 4294967295 < x - t) : 0 ≤ x - t ∧ x - t ≤ 4294967295 := by omega
theorem lowGo_len (t : Int) : ∀ (ks c : List Int), (lowGo t c ks).1.length = c.length
  | [], c => rfl
  | k :: ks, c => by
    unfold lowGo
    split
    · exact lowGo_len t ks c
    · split
      · rfl
      · rw [lowGo_len t ks]; exact put_len ..
theorem lowGo_inTop (t : Int) : ∀ (ks c : List Int), InTop c → InTop (lowGo t c ks).1
  | [], c, h => h
  | k :: ks, c, h => by
    unfold lowGo
    split
    · exact lowGo_inTop t ks c h
    · split
      · exact h
      · exact lowGo_inTop t ks _ (h.put (by omega))

def leastAt (c ks : List Int) : Int := mn (ks.map (at_ c))
/-- a take: the row behind it, and what it tells (what is left of the least, what was taken) -/
def lowered (c ks : List Int) (amt : Int) : List Int × Option (Int × Int) :=
  if leastAt c ks = 4294967295 ∨ leastAt c ks = 0 then (c, some (leastAt c ks, 0))
  else
    let t := min amt (leastAt c ks)
    if (lowGo t c ks).2 = true then ((lowGo t c ks).1, some (leastAt c ks - t, t)) else ((lowGo t c ks).1, none)
theorem min_if (a b : Int) : (if b < a then b else a) = min a b := by
  by_cases h : b < a
  · rw [if_pos h, Int.min_eq_right (Int.le_of_lt h)]
  · rw [if_neg h, Int.min_eq_left (Int.not_lt.mp h)]
theorem lowered_stop {c ks : List Int} {amt M : Int} (hM : M = leastAt c ks) (h : M = 4294967295 ∨ M = 0) : lowered c ks amt = (c, some (M, 0)) := by
  unfold lowered
  rw [← hM, if_pos h]
theorem lowered_none {c ks c' : List Int} {amt M : Int} (hM : M = leastAt c ks) (h : M ≠ 4294967295) (h' : M ≠ 0) (hg : (c', false) = lowGo (if M < amt then M else amt) c ks) : lowered c ks amt = (c', none) := by
  unfold lowered
  rw [← hM, if_neg (by omega)]
  rw [min_if] at hg
  simp only [← hg]
  rfl
theorem lowered_some {c ks c' : List Int} {amt M : Int} (hM : M = leastAt c ks) (h : M ≠ 4294967295) (h' : M ≠ 0) (hg : (c', true) = lowGo (if M < amt then M else amt) c ks) : lowered c ks amt = (c', some (M - (if M < amt then M else amt), if M < amt then M else amt)) := by
  unfold lowered
  rw [← hM, if_neg (by omega)]
  rw [min_if] at hg ⊢
  simp only [← hg]
  rfl
theorem lowered_noneT {c ks c' : List Int} {amt M tt : Int} (hM : M = leastAt c ks) (h : M ≠ 4294967295) (h' : M ≠ 0) (ht : tt = min amt M) (hg : (c', false) = lowGo tt c ks) : lowered c ks amt = (c', none) :=
  lowered_none hM h h' (by rw [min_if, ← ht]; exact hg)
theorem lowered_someT {c ks c' : List Int} {amt M tt : Int} (hM : M = leastAt c ks) (h : M ≠ 4294967295) (h' : M ≠ 0) (ht : tt = min amt M) (hg : (c', true) = lowGo tt c ks) : lowered c ks amt = (c', some (M - tt, tt)) := by
  have e := lowered_some (amt := amt) hM h h' (c' := c') (by rw [min_if, ← ht]; exact hg)
  rw [min_if, ← ht] at e
  exact e
theorem lowered_len (c ks : List Int) (amt : Int) : (lowered c ks amt).1.length = c.length := by
  unfold lowered
  split
  · rfl
  · dsimp only
    split <;> exact lowGo_len ..
theorem lowered_inTop {c ks : List Int} {amt : Int} (h : InTop c) : InTop (lowered c ks amt).1 := by
  unfold lowered
  split
  · exact h
  · dsimp only
    split <;> exact lowGo_inTop _ _ _ h

/-! ## an add -/
def addGo (st : List Int) (amt : Int) : List Int → List Int → List Int × Bool
  | c, [] => (c, true)
  | c, k :: ks =>
    if 4294967295 < at_ st k + amt then addGo st amt (put c k 4294967295) ks
    else if at_ c k + amt < 0 ∨ 4294967295 < at_ c k + amt then (c, false)
    else addGo st amt (put c k (at_ c k + amt)) ks
theorem addGo_len (st : List Int) (amt : Int) : ∀ (ks c : List Int), (addGo st amt c ks).1.length = c.length
  | [], c => rfl
  | k :: ks, c => by
    unfold addGo
    split
    · rw [addGo_len st amt ks]; exact put_len ..
    · split
      · rfl
      · rw [addGo_len st amt ks]; exact put_len ..
theorem addGo_inTop (st : List Int) (amt : Int) : ∀ (ks c : List Int), InTop c → InTop (addGo st amt c ks).1
  | [], c, h => h
  | k :: ks, c, h => by
    unfold addGo
    split
    · exact addGo_inTop st amt ks _ (h.put (by omega))
    · split
      · exact h
      · exact addGo_inTop st amt ks _ (h.put (by omega))
def raised (c ks : List Int) (amt : Int) : List Int × Option Int :=
  if (addGo c amt c ks).2 = true then ((addGo c amt c ks).1, some (mn (ks.map fun k => min (at_ c k + amt) 4294967295))) else ((addGo c amt c ks).1, none)
theorem raised_len (c ks : List Int) (amt : Int) : (raised c ks amt).1.length = c.length := by
  unfold raised; split <;> exact addGo_len ..
theorem raised_inTop {c ks : List Int} {amt : Int} (h : InTop c) : InTop (raised c ks amt).1 := by
  unfold raised; split <;> exact addGo_inTop _ _ _ _ h

/-- how often a place stands in a row -/
def cnt (k : Int) : List Int → Int
  | [] => 0
  | a :: r => (if a = k then 1 else 0) + cnt k r
theorem cnt_append (k : Int) : ∀ a b : List Int, cnt k (a ++ b) = cnt k a + cnt k b
  | [], b => by simp [cnt]
  | x :: a, b => by simp only [List.cons_append, cnt, cnt_append k a b]; omega
theorem cnt_filter (k : Int) : ∀ a : List Int, ((a.filter fun x => decide (x = k)).length : Int) = cnt k a
  | [] => rfl
  | x :: a => by
    have ih := cnt_filter k a
    by_cases h : x = k
    · simp only [List.filter_cons, h, decide_true, if_true, List.length_cons, cnt]
      omega
    · simp only [List.filter_cons, h, decide_false, cnt]
      simp only [Bool.false_eq_true, if_false]
      omega
theorem cnt_bound (k : Int) : ∀ a : List Int, 0 ≤ cnt k a ∧ cnt k a ≤ (a.length : Int)
  | [] => by simp [cnt]
  | x :: a => by
    have ih := cnt_bound k a
    simp only [cnt, List.length_cons]
    split <;> omega
/-- what the counters are behind the first places, where none was refused -/
def Moved (st : List Int) (amt : Int) (pre c : List Int) : Prop := c.length = st.length ∧ ∀ k, 0 ≤ k → k < (st.length : Int) → ¬ 4294967295 < at_ st k + amt → at_ c k = at_ st k + amt * cnt k pre
theorem Moved.nil (st : List Int) (amt : Int) : Moved st amt [] st := ⟨rfl, fun k _ _ _ => by simp [cnt]⟩
theorem Moved.over {st pre c : List Int} {amt k : Int} (h : Moved st amt pre c) (h0 : 0 ≤ k) (_h1 : k < (st.length : Int)) (ho : 4294967295 < at_ st k + amt) : Moved st amt (pre ++ [k]) (put c k 4294967295) := by
  refine ⟨(put_len ..).trans h.1, fun j j0 j1 jn => ?_⟩
  have hne : j ≠ k := fun e => by subst e; exact jn ho
  rw [at_put_ne h0 j0 hne, cnt_append, h.2 j j0 j1 jn]
  have : cnt j [k] = 0 := by simp [cnt, Ne.symm hne]
  rw [this, Int.add_zero]
theorem Moved.step {st pre c : List Int} {amt k : Int} (h : Moved st amt pre c) (h0 : 0 ≤ k) (h1 : k < (st.length : Int)) (hn : ¬ 4294967295 < at_ st k + amt) : at_ c k + amt = at_ st k + amt * cnt k (pre ++ [k]) := by
  rw [h.2 k h0 h1 hn, cnt_append]
  have : cnt k [k] = 1 := by simp [cnt]
  rw [this, Int.mul_add, Int.mul_one]; omega
theorem Moved.put {st pre c : List Int} {amt k : Int} (h : Moved st amt pre c) (h0 : 0 ≤ k) (h1 : k < (st.length : Int)) (hn : ¬ 4294967295 < at_ st k + amt) : Moved st amt (pre ++ [k]) (put c k (at_ c k + amt)) := by
  refine ⟨(put_len ..).trans h.1, fun j j0 j1 jn => ?_⟩
  by_cases e : j = k
  · subst e
    rw [at_put_self h0 (by rw [h.1]; exact h1)]
    exact h.step h0 h1 hn
  · rw [at_put_ne h0 j0 e, cnt_append, h.2 j j0 j1 jn]
    have : cnt j [k] = 0 := by simp [cnt, Ne.symm e]
    rw [this, Int.add_zero]


/-- the row of sums behind the first i turns of an add -/
def valsAt (i : Nat) (vals : List Int) : List Int := (vals.take i).map (fun v => min v 4294967295) ++ vals.drop i
theorem valsAt_zero (vals : List Int) : valsAt 0 vals = vals := by simp [valsAt]
theorem valsAt_len (i : Nat) (vals : List Int) : (valsAt i vals).length = vals.length := by simp [valsAt]; omega
theorem valsAt_all (vals : List Int) : valsAt vals.length vals = vals.map (fun v => min v 4294967295) := by simp [valsAt]
theorem valsAt_get {i : Nat} {vals : List Int} {v : Int} (h : vals[i]? = some v) : (valsAt i vals)[i]? = some v := by
  have hi : i < vals.length := (List.getElem?_eq_some_iff.mp h).1
  unfold valsAt
  rw [List.getElem?_append_right (by simp; omega)]
  simp
  have e : i - min i vals.length = 0 := by omega
  rw [e, Nat.add_zero]; exact h
theorem valsAt_succ {i : Nat} {vals : List Int} {v : Int} (h : vals[i]? = some v) : valsAt (i + 1) vals = (valsAt i vals).set i (min v 4294967295) := by
  have hi : i < vals.length := (List.getElem?_eq_some_iff.mp h).1
  have hv : vals[i] = v := (List.getElem?_eq_some_iff.mp h).2
  unfold valsAt
  have hl : ((vals.take i).map (fun v => min v 4294967295)).length = i := by simp; omega
  rw [List.set_append_right _ _ (by rw [hl]; exact Nat.le_refl _), hl, Nat.sub_self, List.drop_eq_getElem_cons hi, List.set_cons_zero, List.take_add_one, h]
  simp
theorem valsAt_keep {i : Nat} {vals : List Int} {v : Int} (h : vals[i]? = some v) (hv : ¬ 4294967295 < v) : valsAt (i + 1) vals = valsAt i vals := by
  rw [valsAt_succ h]
  have e : min v 4294967295 = v := Int.min_eq_left (by omega)
  rw [e]
  have hg := valsAt_get h
  apply List.ext_getElem?
  intro j
  by_cases e : i = j
  · subst e
    rw [List.getElem?_set_self (by rw [valsAt_len]; exact (List.getElem?_eq_some_iff.mp h).1)]
    exact hg.symm
  · rw [List.getElem?_set_ne e]

theorem valsAt_over {i : Nat} {vals : List Int} {v : Int} (h : vals[i]? = some v) (hv : 4294967295 < v) : valsAt (i + 1) vals = (valsAt i vals).set ((i : Int)).toNat 4294967295 := by
  rw [valsAt_succ h, Int.toNat_natCast, Int.min_eq_right (Int.le_of_lt hv)]
theorem addGo_over {st c ks : List Int} {amt k : Int} (h : 4294967295 < at_ st k + amt) : addGo st amt c (k :: ks) = addGo st amt (put c k 4294967295) ks := by rw [addGo, if_pos h]
theorem addGo_bad {st c ks : List Int} {amt k : Int} (h : ¬ 4294967295 < at_ st k + amt) (h2 : at_ c k + amt < 0 ∨ 4294967295 < at_ c k + amt) : addGo st amt c (k :: ks) = (c, false) := by rw [addGo, if_neg h, if_pos h2]
theorem addGo_put {st c ks : List Int} {amt k : Int} (h : ¬ 4294967295 < at_ st k + amt) (h2 : ¬ at_ c k + amt < 0) (h3 : ¬ 4294967295 < at_ c k + amt) : addGo st amt c (k :: ks) = addGo st amt (put c k (at_ c k + amt)) ks := by
  rw [addGo, if_neg h, if_neg (by omega)]
theorem raised_none {c ks c' : List Int} {amt : Int} (hg : (c', false) = addGo c amt c ks) : raised c ks amt = (c', none) := by
  unfold raised
  simp only [← hg]
  rfl
theorem raised_some {c ks c' : List Int} {amt : Int} (hg : (c', true) = addGo c amt c ks) : raised c ks amt = (c', some (mn (ks.map fun k => min (at_ c k + amt) 4294967295))) := by
  unfold raised
  simp only [← hg]
  rfl
theorem split_at {ks : List Int} {i : Nat} {p : Int} (h : ks[i]? = some p) : ks = ks.take i ++ p :: ks.drop (i + 1) := by
  obtain ⟨hi, e⟩ := List.getElem?_eq_some_iff.mp h
  rw [← e, ← List.drop_eq_getElem_cons hi, List.take_append_drop]
theorem drop_at {ks : List Int} {i : Nat} {p : Int} (h : ks[i]? = some p) : ks.drop i = p :: ks.drop (i + 1) := by
  obtain ⟨hi, e⟩ := List.getElem?_eq_some_iff.mp h
  rw [← e, ← List.drop_eq_getElem_cons hi]

/-- the places of a row that are one place, as the law's comprehension picks them -/
def pick (p : Int) (l : List Int) (k : Int) : List Int := if k = p then l ++ [k] else l
theorem pick_eq {p k : Int} {l : List Int} (h : k = p) : pick p l k = l ++ [k] := if_pos h
theorem pick_ne {p k : Int} {l : List Int} (h : k ≠ p) : pick p l k = l := if_neg h
theorem pick_len (p : Int) (l : List Int) (k : Int) : (pick p l k).length ≤ l.length + 1 := by
  unfold pick
  split <;> simp
theorem pick_fold (p : Int) : ∀ (ks l : List Int), ((ks.foldl (pick p) l).length : Int) = l.length + cnt p ks
  | [], l => by simp [cnt]
  | k :: ks, l => by
    rw [List.foldl_cons, pick_fold p ks, cnt]
    unfold pick
    split
    · rw [List.length_append, List.length_singleton]; omega
    · omega
theorem take_at {ks : List Int} {i : Nat} {p : Int} (h : ks[i]? = some p) : ks.take (i + 1) = ks.take i ++ [p] := by rw [List.take_add_one, h]; rfl
/-- what the law reckons where the counter moves is what the counter is, and the amount -/
theorem Moved.take {st c ks : List Int} {amt p : Int} {i : Nat} (h : Moved st amt (ks.take i) c) (hp : ks[i]? = some p) (h0 : 0 ≤ p) (h1 : p < (st.length : Int)) (hn : ¬ 4294967295 < at_ st p + amt) :
    at_ st p + amt * cnt p (ks.take (i + 1)) = at_ c p + amt := by
  rw [take_at hp]; exact (h.step h0 h1 hn).symm
end Mine
namespace Mine

/-- a turn's end: the frame and the ledger that J speaks of -/
def TurnEnd (h₀ : Heap) (L : Addr) (J : (Str → Option Value) → List (Addr × Obj) → Prop) (own : List (Addr × Obj)) (s₁ s₂ : Shared) : Prop :=
  ∃ h' tk m' nx, s₂ = { s₁ with heap := h', toks := tk } ∧ Fr h₀ L h' m' ∧ News h₀ L h' (nx ++ own) ∧ J m' nx
def TurnQ (h₀ : Heap) (L : Addr) (J : (Str → Option Value) → List (Addr × Obj) → Prop) (own : List (Addr × Obj)) (s₁ : Shared) (Q : Flow → Shared → Prop) (f : Flow) (s₂ : Shared) : Prop :=
  match f with
  | .ret v => Q (.ret v) s₂
  | .brk => Q .next s₂
  | .next => TurnEnd h₀ L J own s₁ s₂
  | .cont => TurnEnd h₀ L J own s₁ s₂

/-- what stays of the filter's attributes -/
structure CM where
  (g0 g1 g2 g3 g4 g5 g6 g7 g8 g9 g10 g11 : Int)
  (k0 k1 k2 k3 k4 k5 k6 k7 k8 k9 k10 k11 : Tok)
  (v0 v1 v2 v3 v5 v9 : Value)
  (t4 t7 t8 : Tok)
  (bits depth : Int)
  (fn : Addr)
abbrev CM.ents (c : CM) (els : Int) (t6 : Tok) (bl : Addr) : List DictEntry := [⟨c.g0, .str "_filepath" c.k0, c.v0⟩, ⟨c.g1, .str "_on_disk" c.k1, c.v1⟩, ⟨c.g2, .str "_type" c.k2, c.v2⟩, ⟨c.g3, .str "_typecode" c.k3, c.v3⟩, ⟨c.g4, .str "_bloom_length" c.k4, .int c.bits c.t4⟩, ⟨c.g5, .str "_est_elements" c.k5, c.v5⟩, ⟨c.g6, .str "_els_added" c.k6, .int els t6⟩, ⟨c.g7, .str "_number_hashes" c.k7, .int c.depth c.t7⟩, ⟨c.g8, .str "_num_bits" c.k8, .int c.bits c.t8⟩, ⟨c.g9, .str "_fpr" c.k9, c.v9⟩, ⟨c.g10, .str "_hash_func" c.k10, .ref c.fn⟩, ⟨c.g11, .str "_bloom" c.k11, .ref bl⟩]
def Stop (P : Prop) : Prop := P
theorem Stop.out {P : Prop} (h : Stop P) : P := h
theorem Stop.go {P : Prop} (h : P) : Stop P := h
theorem news_sub {h₀ : Heap} {L : Addr} {h : Heap} {l l' : List (Addr × Obj)} (N : News h₀ L h l) (hs : ∀ p ∈ l', p ∈ l) : News h₀ L h l' := kst_newsOf N hs

section
variable {prog : Program} {w : World} {A : Around} {E : Value → Shared → Prop} {s : Shared} {env : Env} {h₀ : Heap} {L : Addr} {x : Str} {body : List Stmt} {Q : Flow → Shared → Prop}
/-- a loop over a list of ints that the ledger holds -/
theorem my_iter {l : Addr} {vs : List Value} {ns : List Int} {nn : Nat} {m₀ : Str → Option Value} {news : List (Addr × Obj)} (J : List Int → (Str → Option Value) → List (Addr × Obj) → Prop)
    (hL : env.locals = L) (hh : A.handled = none) (hi : IntsAre vs ns) (F : Fr h₀ L s.heap m₀) (N : News h₀ L s.heap news) (hl : (l, listOf vs.toArray nn) ∈ news) (hj : J [] m₀ news)
    (hJ : ∀ pre m nx, J pre m nx → nx.map (·.1) = news.map (·.1) ∧ (l, listOf vs.toArray nn) ∈ nx)
    (turn : ∀ pre n post t m₁ nx h tk own, ns = pre ++ n :: post → n ∈ ns → OwnOff own (news.map (·.1)) → J pre m₁ nx → Fr h₀ L h (fun y => if y = x then some (.int n t) else m₁ y) → News h₀ L h (nx ++ own) →
      wpAny (model prog w) A (execs body env) (TurnQ h₀ L (J (pre ++ [n])) own s Q) E { s with heap := h, toks := tk })
    (done : ∀ m₁ nx h tk, J ns m₁ nx → Fr h₀ L h m₁ → News h₀ L h nx → Q .next { s with heap := h, toks := tk }) :
    wpAny (model prog w) A (pyIter (.ref l)) (fun it s₂ => LoopAtV prog w A h₀ env x body Q E it s₂) E s := by
  subst hL
  refine iter_invNL (fun i m nx => J (ns.take i) m nx) hh hl hi F N (by simpa using hj) ?_ ?_
  · rintro i n t m₁ nx h tk own hn _ hoff _ hp F₁ N₁
    have hs : ns.take (i + 1) = ns.take i ++ [n] := by simp [List.take_add_one, hn]
    have e : ns = ns.take i ++ n :: ns.drop (i + 1) := by
      have ht := List.take_append_drop (i + 1) ns
      rw [hs, List.append_assoc] at ht
      exact ht.symm
    rw [hs]
    refine wpAny_mono (turn _ n _ t m₁ nx h tk own e (List.mem_of_getElem? hn) hoff hp F₁ N₁) (fun f s₂ p => ?_) fun _ _ z => z
    have up : TurnEnd h₀ env.locals (J (ns.take i ++ [n])) own s s₂ → InvEndN h₀ env.locals (fun m' nx => (l, listOf vs.toArray nn) ∈ nx ∧ J (ns.take i ++ [n]) m' nx) own (news.map (·.1)) { s with heap := h, toks := tk } s₂ := by
      rintro ⟨h', tk', m', nx', rfl, F', N', hj'⟩
      have hq := hJ _ _ _ hj'
      exact ⟨h', tk', m', nx' ++ own, nx', rfl, F', N', fun p hp => List.mem_append_left _ hp, fun p hp => List.mem_append_right _ hp, hq.1, hq.2, hj'⟩
    cases f with
    | ret v => exact p
    | brk => exact p
    | next => exact up p
    | cont => exact up p
  · rintro m₁ nx h tk _ hp F₁ N₁
    rw [List.take_length] at hp
    exact done m₁ nx h tk hp F₁ N₁

/-- a loop over range(n) -/
theorem my_range {r : Addr} {n : Nat} {t₀ u₀ v₀ : Tok} {m₀ : Str → Option Value} {news : List (Addr × Obj)} (J : Nat → (Str → Option Value) → List (Addr × Obj) → Prop)
    (hL : env.locals = L) (hh : A.handled = none) (hr : IsRange s.heap r 0 (n : Int) 1 t₀ u₀ v₀) (hsmall : Builtin.Range.small 0 (n : Int) 1 = true) (hn : Builtin.Range.rangeSize 0 (n : Int) 1 = (n : Int)) (F : Fr h₀ L s.heap m₀) (N : News h₀ L s.heap news) (hj : J 0 m₀ news)
    (hJ : ∀ i m nx, J i m nx → nx.map (·.1) = news.map (·.1))
    (turn : ∀ i t m₁ nx h tk own, i < n → OwnOff own (news.map (·.1)) → J i m₁ nx → Fr h₀ L h (fun y => if y = x then some (.int (i : Int) t) else m₁ y) → News h₀ L h (nx ++ own) →
      wpAny (model prog w) A (execs body env) (TurnQ h₀ L (J (i + 1)) own s Q) E { s with heap := h, toks := tk })
    (done : ∀ m₁ nx h tk, J n m₁ nx → Fr h₀ L h m₁ → News h₀ L h nx → Q .next { s with heap := h, toks := tk }) :
    wpAny (model prog w) A (pyIter (.ref r)) (fun it s₂ => LoopAtV prog w A h₀ env x body Q E it s₂) E s := by
  subst hL
  refine wpAny_pyIter_range hr hsmall ?_
  have W := (Walks.range (prog := prog) (w := w) hh s.heap.objs.size 0 1 n).bound
  refine loop_invN J W ?_ ?_ ?_ ?_ (by show IsRangeIter _ _ _ _ _; rw [hn]; simpa using Heap.get?_push_size _ rfl) (F.push _) (fun p hp => ⟨Heap.get?_push_of_some _ (N p hp).1, (N p hp).2⟩) hj ?_ ?_
  · intro hm
    exact absurd F.ns.lt ((List.mem_singleton.mp hm) ▸ Nat.lt_irrefl _)
  · intro b hb
    rw [List.mem_singleton.mp hb]
    exact next_is_new F
  · intro p hp hI
    exact absurd (Heap.lt_size (N p hp).1) ((List.mem_singleton.mp hI) ▸ Nat.lt_irrefl _)
  · intro p hp hI
    exact absurd (Heap.lt_size (N p hp).1) ((List.mem_singleton.mp hI) ▸ Nat.lt_irrefl _)
  · rintro i v m₁ nx h tk own hi ⟨_, t, rfl⟩ _ hoff hp F₁ N₁
    have e1 : (0 : Int) + (i : Int) * 1 = (i : Int) := by omega
    rw [e1] at F₁
    refine wpAny_mono (turn i t m₁ nx h tk own hi hoff hp F₁ N₁) (fun f s₂ q => ?_) fun _ _ z => z
    have up : TurnEnd h₀ env.locals (J (i + 1)) own s s₂ → InvEndN h₀ env.locals (J (i + 1)) own (news.map (·.1)) { s with heap := h, toks := tk } s₂ := by
      rintro ⟨h', tk', m', nx', rfl, F', N', hj'⟩
      exact ⟨h', tk', m', nx' ++ own, nx', rfl, F', N', fun p hp => List.mem_append_left _ hp, fun p hp => List.mem_append_right _ hp, hJ _ _ _ hj', hj'⟩
    cases f with
    | ret v => exact q
    | brk => exact q
    | next => exact up q
    | cont => exact up q
  · rintro m₁ nx h tk hp F₁ N₁
    exact done m₁ nx h tk hp F₁ N₁
theorem turn_fr {h : Heap} {m₀ m₁ : Str → Option Value} {v : Value} (hm : ∀ z, z ≠ x → m₁ z = m₀ z) (F : Fr h₀ L h (fun y => if y = x then some v else m₁ y)) : Fr h₀ L h (fun y => if y = x then some v else m₀ y) := by
  have e : (fun y => if y = x then some v else m₁ y) = fun y => if y = x then some v else m₀ y := by
    funext y
    by_cases hy : y = x
    · rw [if_pos hy, if_pos hy]
    · rw [if_neg hy, if_neg hy]; exact hm y hy
  rw [← e]; exact F
theorem done_fr {h : Heap} {m₀ m₁ : Str → Option Value} (hm : ∀ z, z ≠ x → m₁ z = m₀ z) (F : Fr h₀ L h m₁) : Fr h₀ L h (fun y => if y = x then m₁ y else m₀ y) := by
  have e : (fun y => if y = x then m₁ y else m₀ y) = m₁ := by
    funext y
    by_cases hy : y = x
    · rw [if_pos hy]
    · rw [if_neg hy]; exact (hm y hy).symm
  rw [e]; exact F

/-- a loop over a list of ints; each turn changes one other list of ints at most; P: what the items taken so far made of it -/
theorem iter_cells {l lc : Addr} {vs cv : List Value} {ns c₀ : List Int} {nn nc : Nat} {m₀ : Str → Option Value} {tl news : List (Addr × Obj)} (P : List Int → List Int → Prop)
    (hL : env.locals = L) (hh : A.handled = none) (hi : IntsAre vs ns) (hc : IntsAre cv c₀) (F : Fr h₀ L s.heap m₀) (N : News h₀ L s.heap news) (hs : ∀ p ∈ (lc, listOf cv.toArray nc) :: tl, p ∈ news) (hl : (l, listOf vs.toArray nn) ∈ tl) (h0 : P [] c₀)
    (turn : ∀ pre n post t c cv' h tk own, ns = pre ++ n :: post → n ∈ ns → OwnOff own (lc :: tl.map (·.1)) → IntsAre cv' c → P pre c → Fr h₀ L h (fun y => if y = x then some (.int n t) else m₀ y) → News h₀ L h ((lc, listOf cv'.toArray nc) :: (tl ++ own)) →
      wpAny (model prog w) A (execs body env) (TurnQ h₀ L (fun m' nx => ∃ cv' c', nx = (lc, listOf cv'.toArray nc) :: tl ∧ IntsAre cv' c' ∧ (∀ z, z ≠ x → m' z = m₀ z) ∧ P (pre ++ [n]) c') own s Q) E { s with heap := h, toks := tk })
    (done : ∀ (u : Str → Option Value) c cv' h tk, IntsAre cv' c → P ns c → Fr h₀ L h (fun z => if z = x then u z else m₀ z) → News h₀ L h ((lc, listOf cv'.toArray nc) :: tl) → Q .next { s with heap := h, toks := tk }) :
    wpAny (model prog w) A (pyIter (.ref l)) (fun it s₂ => LoopAtV prog w A h₀ env x body Q E it s₂) E s := by
  refine my_iter (fun pre m' nx => ∃ cv' c', nx = (lc, listOf cv'.toArray nc) :: tl ∧ IntsAre cv' c' ∧ (∀ z, z ≠ x → m' z = m₀ z) ∧ P pre c') hL hh hi F (news_sub N hs) (List.mem_cons_of_mem _ hl) ⟨cv, c₀, rfl, hc, fun _ _ => rfl, h0⟩ ?_ ?_ ?_
  · rintro pre m nx ⟨cv', c', rfl, _⟩
    exact ⟨rfl, List.mem_cons_of_mem _ hl⟩
  · rintro pre n post t m₁ nx h tk own e hn hoff ⟨cv', c', rfl, hi', hm, hp⟩ F₁ N₁
    exact turn pre n post t c' cv' h tk own e hn hoff hi' hp (turn_fr hm F₁) N₁
  · rintro m₁ nx h tk ⟨cv', c', rfl, hi', hm, hp⟩ F₁ N₁
    exact done m₁ c' cv' h tk hi' hp (done_fr hm F₁) N₁
theorem turn_end {lc : Addr} {nc : Nat} {tl own : List (Addr × Obj)} {m₀ : Str → Option Value} {P : List Int → Prop} {cv' : List Value} {c' : List Int} {v : Value} {h' : Heap} {tk' : Nat}
    (hi : IntsAre cv' c') (hp : P c') (F : Fr h₀ L h' (fun y => if y = x then some v else m₀ y)) (N : News h₀ L h' ((lc, listOf cv'.toArray nc) :: (tl ++ own))) :
    TurnEnd h₀ L (fun m' nx => ∃ cv' c', nx = (lc, listOf cv'.toArray nc) :: tl ∧ IntsAre cv' c' ∧ (∀ z, z ≠ x → m' z = m₀ z) ∧ P c') own s { s with heap := h', toks := tk' } :=
  ⟨h', tk', _, _, rfl, F, N, cv', c', rfl, hi, fun z hz => if_neg hz, hp⟩
theorem TurnQ.next {J : (Str → Option Value) → List (Addr × Obj) → Prop} {own nx news : List (Addr × Obj)} {m' : Str → Option Value} {h' : Heap} {tk : Nat} (F : Fr h₀ L h' m') (N : News h₀ L h' news) (hs : ∀ p ∈ nx ++ own, p ∈ news) (hj : J m' nx) : TurnQ h₀ L J own s Q .next { s with heap := h', toks := tk } :=
  ⟨h', tk, m', nx, rfl, F, news_sub N hs, hj⟩
end
theorem range_lo {k : Int} {n : Nat} (h : k ∈ rangeKs 0 n) : 0 ≤ k := by
  simp only [rangeKs, List.mem_map, List.mem_range] at h
  obtain ⟨a, _, rfl⟩ := h
  omega
theorem range_hi {k : Int} {n : Nat} (h : k ∈ rangeKs 0 n) : k < (n : Int) := by
  simp only [rangeKs, List.mem_map, List.mem_range] at h
  obtain ⟨a, _, rfl⟩ := h
  omega
theorem idx_hi {k : Int} {n : Nat} (h : k < 0 + (((n : Int) - 0).toNat : Int)) : k < (n : Int) := by omega
theorem idx_fit {k : Int} {n : Nat} (h : k < (n : Int)) (hn : n ≤ 9) : k < 2 ^ 63 := by omega
theorem n_le9 {n : Nat} (h : n ≤ 3) : n ≤ 9 := Nat.le_trans h (by decide)
theorem fmods_lo {k b : Int} {α : Type} {g : α → Int} {l : List α} (h : k ∈ List.map (fun a => (g a).fmod b) l) (hb : 0 < b) : 0 ≤ k := by
  simp only [List.mem_map] at h
  obtain ⟨a, _, rfl⟩ := h
  exact fmod_lo _ hb
theorem fmods_hi {k b : Int} {α : Type} {g : α → Int} {l : List α} (h : k ∈ List.map (fun a => (g a).fmod b) l) (hb : 0 < b) : k < b := by
  simp only [List.mem_map] at h
  obtain ⟨a, _, rfl⟩ := h
  exact fmod_hi _ hb
theorem map_range {α : Type} (f : Int → α) (ks : List Int) : List.map (fun k' : Int => f (ks.getD k'.toNat 0)) (rangeKs 0 ((ks.length : Int) - 0).toNat) = ks.map f := by
  have e : ((ks.length : Int) - 0).toNat = ks.length := by omega
  rw [e]
  apply List.ext_getElem
  · simp [rangeKs]
  · intro i h1 h2
    have h3 : i < ks.length := by simpa using h2
    simp [rangeKs, List.getD_eq_getElem?_getD, h3]
theorem map_comp {α β γ : Type} (f : β → γ) (g : α → β) (l : List α) : List.map f (List.map g l) = List.map (fun a => f (g a)) l := by simp
theorem sub_one {α : Type} {a : α} {l l' : List α} (h : ∀ p ∈ l, p ∈ l') : ∀ p ∈ l, p ∈ a :: l' := fun p hp => .tail _ (h p hp)
theorem sub_cons {α : Type} {a : α} {l l' : List α} (h : ∀ p ∈ l, p ∈ l') : ∀ p ∈ a :: l, p ∈ a :: l' := fun p hp => by
  rcases List.mem_cons.mp hp with rfl | hp
  · exact .head _
  · exact .tail _ (h p hp)
theorem sub_app {α : Type} {l l' : List α} : ∀ p ∈ l, p ∈ l ++ l' := fun _ hp => List.mem_append_left _ hp
theorem sub_refl {α : Type} {l : List α} : ∀ p ∈ l, p ∈ l := fun _ hp => hp
theorem sub_five {α : Type} {a b c d e x y z w : α} {l l' : List α} : ∀ p ∈ x :: y :: z :: w :: l, p ∈ a :: b :: c :: d :: e :: x :: y :: z :: w :: (l ++ l') :=
  sub_one (sub_one (sub_one (sub_one (sub_one (sub_cons (sub_cons (sub_cons (sub_cons sub_app))))))))
theorem sub_five' {α : Type} {a b c d e x y z w : α} {l : List α} : ∀ p ∈ x :: y :: z :: w :: l, p ∈ a :: b :: c :: d :: e :: x :: y :: z :: w :: l :=
  sub_one (sub_one (sub_one (sub_one (sub_one sub_refl))))
theorem sub_rem {α : Type} {x dx bl lp d c1 c2 : α} {l l' : List α} : ∀ p ∈ x :: dx :: bl :: lp :: l, p ∈ bl :: d :: c1 :: c2 :: x :: dx :: lp :: (l ++ l') := by
  intro p hp
  simp only [List.mem_cons, List.mem_append] at hp ⊢
  rcases hp with h | h | h | h | h <;> simp [h]
theorem sub_rem' {α : Type} {x dx bl lp d c1 c2 : α} {l : List α} : ∀ p ∈ x :: dx :: bl :: lp :: l, p ∈ bl :: d :: c1 :: c2 :: x :: dx :: lp :: l := by
  intro p hp
  simp only [List.mem_cons] at hp ⊢
  rcases hp with h | h | h | h | h <;> simp [h]
theorem go_next {α : Type} {R : α} {ks pre post : List Int} {n : Int} {f : List Int → α} (hpre : ks = pre ++ n :: post) (h : f post = R) : ∀ post2, ks = pre ++ [n] ++ post2 → f post2 = R := by
  intro post2 e
  rw [hpre, List.append_assoc] at e
  have e2 := List.append_cancel_left e
  have e3 : post = post2 := by simpa using e2
  rw [← e3]; exact h
theorem rest_ne {d d' : Addr} {rest : List (Addr × Obj)} (h : AllLt d rest) (hle : @LE.le Nat _ d d') : ∀ p ∈ rest, p.1 ≠ d' := fun p hp => Nat.ne_of_lt (Nat.lt_of_lt_of_le (tb_ltOf h p hp) hle)
theorem off1_ne {D : Addr} : ∀ {l : List (Addr × Obj)}, LCg.Off1 D l → ∀ p ∈ l, p.1 ≠ D
  | [], _ => fun _ hp => nomatch hp
  | q :: r, h => fun p hp => by
    rcases List.mem_cons.mp hp with rfl | hp
    · exact h.1
    · exact off1_ne h.2 p hp
theorem all_app {P : Addr × Obj → Prop} {a b : List (Addr × Obj)} (h1 : ∀ p ∈ a, P p) (h2 : ∀ p ∈ b, P p) : ∀ p ∈ a ++ b, P p := fun p hp => (List.mem_append.mp hp).elim (h1 p) (h2 p)
theorem ownOff_app {own rest : List (Addr × Obj)} {adr : List Addr} (h1 : OwnOff rest adr) (h2 : OwnOff own adr) : OwnOff (rest ++ own) adr := fun p hp => (List.mem_append.mp hp).elim (h1 p) (h2 p)
theorem ownOff_sub {own : List (Addr × Obj)} {adr adr' : List Addr} (h : OwnOff own adr) (hs : ∀ a ∈ adr', a ∈ adr) : OwnOff own adr' := fun p hp b hb => h p hp b (hs b hb)

end Mine
namespace Mine
section
variable {prog : Program} {w : World} {A : Around} {E : Value → Shared → Prop} {s : Shared} {env : Env} {h₀ : Heap} {L : Addr} {body : List Stmt} {Q : Flow → Shared → Prop}
/-- for i, v in enumerate(l): a turn may change the list itself where it has passed -/
theorem enum_call {xi xv : Str} {pi pv pt : Pos} {x1 : Nat} {l : Addr} {nn n : Nat} {m₀ : Str → Option Value} {news : List (Addr × Obj)} (J : Nat → (Str → Option Value) → List (Addr × Obj) → Prop)
    (hL : env.locals = L) (hh : A.handled = none) (hxi : env.kindOf xi = some .local) (hxv : env.kindOf xv = some .local)
    (hp : (env.scope.kind == .class || (env.scope.kind == .module && env.locals != env.globals)) = false)
    (F : Fr h₀ L s.heap m₀) (N : News h₀ L s.heap news) (hj : J 0 m₀ news)
    (hJ : ∀ i m nx, J i m nx → nx.map (·.1) = news.map (·.1) ∧ ∃ vs : List Value, (l, listOf vs.toArray nn) ∈ nx ∧ vs.length = n)
    (turn : ∀ i m₁ nx (vs : List Value) x t h tk own, i < n → J i m₁ nx → (l, listOf vs.toArray nn) ∈ nx → vs[i]? = some x → OwnOff own (news.map (·.1)) → Fr h₀ L h (fun y => if y = xv then some x else if y = xi then some (.int (i : Int) t) else m₁ y) → News h₀ L h (nx ++ own) →
      wpAny (model prog w) A (execs body env) (TurnQ h₀ L (J (i + 1)) own s Q) E { s with heap := h, toks := tk })
    (done : ∀ m₁ nx h tk, J n m₁ nx → Fr h₀ L h m₁ → News h₀ L h nx → Q .next { s with heap := h, toks := tk })
    (hE : PassesOwn (model prog w) A env E) :
    wpAny (model prog w) A (call (.type "enumerate") [.ref l]) (fun x s₁ => wpAny (model prog w) A (pyIter x) (fun it s₂ => codeAny (model prog w) A (.forLoop (.Tuple [.Name xi pi, .Name xv pv] x1 pt) it body [] env) (fun r s' => match r with | .ok f => Q f s' | .error e => cameBackBy (model prog w) A env E e s') s₂) E s₁) E s := by
  subst hL
  obtain ⟨_, vs0, hl0, hn0⟩ := hJ _ _ _ hj
  have hls : s.heap.IsList l vs0.toArray := ⟨_, (N _ hl0).1, rfl, nn, rfl⟩
  have hLs : @LT.lt Nat _ env.locals s.heap.objs.size := F.ns.lt
  have hab : @LE.le Nat _ h₀.objs.size env.locals := F.above
  have hlt : @LT.lt Nat _ l s.heap.objs.size := Heap.lt_size (N _ hl0).1
  refine call_enumerate_list hls fun h' he hit hsz hk => wpAny_pyIter_enum he ?_
  generalize hee : s.heap.objs.size + 1 = e at he
  generalize hii : s.heap.objs.size = it at he hit hk hee hlt hLs
  have hei : e ≠ it := by omega
  have heL : e ≠ env.locals := fun q => by have : @Eq Nat e env.locals := q; omega
  have hiL : it ≠ env.locals := fun q => by have : @Eq Nat it env.locals := q; omega
  have hne : h₀.get? e = none := Heap.get?_none_of_le (by omega)
  have hni : h₀.get? it = none := Heap.get?_none_of_le (by omega)
  have hoffn : ∀ p ∈ news, @LT.lt Nat _ p.1 it := fun p hp => by rw [← hii]; exact Heap.lt_size (N p hp).1
  refine codeAny_forLoop_any
    (fun k s' => ∃ h' tk m nx i old, s' = { s with heap := h', toks := tk } ∧ IsEnum h' e it ((i : Nat) : Int) old ∧ h'.IsListIter it l i ∧ Fr h₀ env.locals h' m ∧ News h₀ env.locals h' nx ∧ J i m nx ∧ i ≤ n ∧ k = n + 1 - i) ?_ (n + 1)
    ⟨h', s.toks, m₀, news, 0, .none, rfl, he, hit, F.keeps hk, N.grown hk, hj, Nat.zero_le _, rfl⟩
  rintro k s' ⟨H, tk, m, nx, i, old, rfl, he', hit', F', N', hJi, hi, rfl⟩
  obtain ⟨hadr, vs, hlv, hlen⟩ := hJ _ _ _ hJi
  have hl' : H.IsList l vs.toArray := ⟨_, (N' _ hlv).1, rfl, nn, rfl⟩
  have hlit : @LT.lt Nat _ l it := by
    have : l ∈ nx.map (·.1) := List.mem_map.mpr ⟨_, hlv, rfl⟩
    rw [hadr] at this
    obtain ⟨q, hq, e1⟩ := List.mem_map.mp this
    rw [← e1]; exact hoffn q hq
  have hnx : ∀ p ∈ nx, @LT.lt Nat _ p.1 it := fun p hp => by
    have : p.1 ∈ nx.map (·.1) := List.mem_map.mpr ⟨_, hp, rfl⟩
    rw [hadr] at this
    obtain ⟨q, hq, e1⟩ := List.mem_map.mp this
    rw [← e1]; exact hoffn q hq
  have hle : l ≠ e := fun q => by have : @Eq Nat l e := q; omega
  have hli : l ≠ it := fun q => by have : @Eq Nat l it := q; omega
  cases hv : vs.toArray[i]? with
  | none =>
    have hsz : i = n := Nat.le_antisymm hi (by simpa [hlen] using hv)
    subst hsz
    refine wpAny_pyNext_enum_end hh he' hit' hl' hv fun h₁ he₁ => wpAny_execs_nil ?_
    replace he₁ : Heap.ExtBut it H h₁ := he₁
    refine done m nx h₁ tk hJi ⟨F'.ns.extBut he₁ (Ne.symm hiL), fun b o q => he₁ b o (fun z => by rw [z, hni] at q; cases q) (F'.keep b o q), F'.above⟩ fun p hp => ⟨he₁ _ _ (Nat.ne_of_lt (hnx p hp)) (N' p hp).1, (N' p hp).2⟩
  | some v =>
    have hlt' : i < n := by have := (Array.getElem?_eq_some_iff.mp hv).1; simpa [hlen] using this
    have hv' : vs[i]? = some v := by simpa using hv
    have heH : e < H.objs.size := Heap.lt_size he'
    have hLH : env.locals < H.objs.size := F'.ns.lt
    obtain ⟨oi, hoi, _⟩ := id hit'
    have hiH : it < H.objs.size := Heap.lt_size hoi
    refine wpAny_pyNext_enum_item he' hit' hl' hv hei fun h₁ heo hit₁ ht₁ hz₁ hk₁ => ?_
    refine wpAny_letOwnedTupleGo_enum heo fun h₂ he₂ hs₂ => ?_
    replace hs₂ : Heap.SameBut e h₁ h₂ := hs₂
    have ht₂ : h₂.IsTuple H.objs.size #[.int i tk, v] := ⟨_, (hs₂.2 _ (Nat.ne_of_gt heH)).trans ht₁, rfl, _, rfl⟩
    have hz₂ : h₂.objs.size = H.objs.size + 1 := hs₂.1.trans hz₁
    refine wpAny_assign_Tuple hh ht₂ rfl rfl fun h₃ hx₃ => ?_
    replace hx₃ : Heap.ExtBut h₂.objs.size h₂ h₃ := hx₃
    have old₃ : ∀ b o, b < H.objs.size → h₂.get? b = some o → h₃.get? b = some o := fun b o hb x => hx₃ b o (by rw [hz₂]; exact Nat.ne_of_lt (Nat.lt_succ_of_lt hb)) x
    have up₃ : ∀ b o, b ≠ e → b ≠ it → H.get? b = some o → h₃.get? b = some o := fun b o hbe hbi x => old₃ b o (Heap.lt_size x) (hs₂.extBut b o hbe (hk₁ b o hbe hbi x))
    have F₃ : Fr h₀ env.locals h₃ m := ⟨F'.ns.at fun o x => up₃ _ o (Ne.symm heL) (Ne.symm hiL) x, fun b o q => up₃ b o (fun z => by rw [z, hne] at q; cases q) (fun z => by rw [z, hni] at q; cases q) (F'.keep b o q), F'.above⟩
    have N₃ : News h₀ env.locals h₃ nx := fun p hp => ⟨up₃ _ _ (fun z => by have h1 := hnx p hp; have h2 : @Eq Nat p.1 e := z; omega) (Nat.ne_of_lt (hnx p hp)) (N' p hp).1, (N' p hp).2⟩
    have he₃ := old₃ e _ heH he₂
    obtain ⟨oi₁, hoi₁, hoic, hoid⟩ := hit₁
    have hi₃ : h₃.get? it = some oi₁ := old₃ it _ hiH (hs₂.extBut it oi₁ (Ne.symm hei) hoi₁)
    show wpAny _ A (do holding [v] (assign (.Name xi pi) env (.int i tk)); do holding [] (assign (.Name xv pv) env v); pure ()) _ _ _
    refine wpAny_bind (wpAny_holding (wpAny_assign_Name (wpAny_storeName_local hxi F₃.ns (fun h₄ hn₄ hs₄ => ?_) hp)))
    replace hs₄ : Heap.SameBut env.locals h₃ h₄ := hs₄
    refine wpAny_bind (wpAny_holding (wpAny_assign_Name (wpAny_storeName_local hxv hn₄ (fun h₅ hn₅ hs₅ => wpAny_pure ?_) hp)))
    replace hs₅ : Heap.SameBut env.locals h₄ h₅ := hs₅
    have F₅ := (F₃.set hn₄ hs₄).set hn₅ hs₅
    have N₅ := (N₃.set hs₄).set hs₅
    have he₅ := (hs₅.2 e heL).trans ((hs₄.2 e heL).trans he₃)
    have hi₅ := (hs₅.2 it hiL).trans ((hs₄.2 it hiL).trans hi₃)
    have own : News h₀ env.locals h₅ [(e, _), (it, oi₁)] := fun p hp => by
      rcases List.mem_cons.mp hp with rfl | hp
      · exact ⟨he₅, heL, hne⟩
      · rw [List.mem_singleton.mp hp]; exact ⟨hi₅, hiL, hni⟩
    have hown : OwnOff [(e, ({ cls := .type "enumerate", dict := none, data := .fields #[.none, .bool false, .ref it, rawInt ((i : Int) + 1), .none, v], slots := #[] } : Obj)), (it, oi₁)] (news.map (·.1)) := fun p hp b hb z => by
      obtain ⟨q, hq, rfl⟩ := List.mem_map.mp hb
      have h1 := hoffn q hq
      rcases List.mem_cons.mp hp with rfl | hp
      · have h2 : @Eq Nat e q.1 := z; omega
      · rw [List.mem_singleton.mp hp] at z; have h2 : @Eq Nat it q.1 := z; omega
    refine wpAny_mono (wpAny_passesOwn hE (turn i m nx vs v tk h₅ _ _ hlt' hJi hlv hv' hown F₅ fun p hp => (List.mem_append.mp hp).elim (N₅ p) (own p))) (fun f s₃ p => ?_) fun _ _ x => x
    have fin : TurnEnd h₀ env.locals (J (i + 1)) [(e, ({ cls := .type "enumerate", dict := none, data := .fields #[.none, .bool false, .ref it, rawInt ((i : Int) + 1), .none, v], slots := #[] } : Obj)), (it, oi₁)] s s₃ →
        ∃ m', m' < n + 1 - i ∧ ∃ h' tk m nx i old, s₃ = { s with heap := h', toks := tk } ∧ IsEnum h' e it ((i : Nat) : Int) old ∧ h'.IsListIter it l i ∧ Fr h₀ env.locals h' m ∧ News h₀ env.locals h' nx ∧ J i m nx ∧ i ≤ n ∧ m' = n + 1 - i := by
      rintro ⟨h₆, tk₆, m₆, nx₆, rfl, F₆, N₆, hJ₆⟩
      refine ⟨n + 1 - (i + 1), by omega, h₆, tk₆, m₆, nx₆, i + 1, v, rfl, ?_, ⟨oi₁, (N₆ _ (List.mem_append_right _ (.tail _ (.head _)))).1, hoic, hoid⟩, F₆, fun p hp => N₆ p (List.mem_append_left _ hp), hJ₆, hlt', rfl⟩
      have : ((i + 1 : Nat) : Int) = (i : Int) + 1 := by push_cast; rfl
      rw [this]
      exact (N₆ _ (List.mem_append_right _ (.head _))).1
    cases f with
    | ret v => exact p
    | brk => exact p
    | next => exact fin p
    | cont => exact fin p
end
end Mine
namespace Mine
open PySem PySem.W PySem.Calls PyProof.Rows
/-- the frames of a stack -/
abbrev fr (l : List Env) : List Addr := l.filterMap (·.frame)
theorem mem_fr {env : Env} {outer : List Env} {L b : Addr} (hf : env.frame = some L) (h : b ∈ fr (env :: outer)) : b = L ∨ b ∈ fr outer := by
  simp only [fr, List.filterMap_cons, hf, List.mem_cons] at h
  exact h
theorem none_up {g G : Heap} (k : g.StaysIn G) {b : Addr} (e : G.get? b = none) : g.get? b = none := by
  cases q : g.get? b with
  | none => rfl
  | some o => rw [k b o q] at e; cases e
theorem fr_none {g h : Heap} {L : Addr} {m : Str → Option Value} (F : Fr g L h m) : g.get? L = none := Heap.get?_none_of_le F.above

section
variable {M : Model} {A₀ : Around} {E : Value → Shared → Prop} {s' : Shared} {base g g₂ h : Heap} {outer : List Env} {env : Env} {L e t : Addr} {m : Str → Option Value} {Q : Unit → Shared → Prop} {news : List (Addr × Obj)} {cls : Value} {vs : List Value}
/-- an exception that was just made leaves its frame, of whatever make the frame is -/
theorem raise_any (K : Below A₀ base outer g) (hf : env.frame = some L) (hk : env.scope.kind = .function) (hx : Heap.MadeExcOf h s'.heap e cls vs) (F : Fr g L h m) (N : News g L h news)
    (hQ : ∀ h' t, RaisedS base g outer e cls t vs news h' → g.UpToSlots h' → Q () { s' with heap := h' }) :
    wpAny M (A₀.deeper env) (leaving env (.ref e)) Q E s' := by
  have hst : (A₀.deeper env).frames = some (env :: outer) := Around.frames_deeper K.stack
  have ff : h.FunFrames base (env :: outer) :=
    Heap.FunFrames.cons (by rw [hk]; decide) hf F.ns (none_up K.stays (fr_none F)) (K.frames.of_keeps fun b o q _ => ⟨o, F.keep b o q, rfl⟩)
  have out : ∀ b o, base.get? b = some o → b ∉ fr (env :: outer) := fun b o q hm => by rw [(ff.mem hm).1] at q; cases q
  have stay : base.StaysIn (hideAll h (fr (env :: outer))) := fun b o q => hideAll_get _ (F.keep b o (K.stays b o q)) (out b o q)
  have sg : ∀ b o, g.get? b = some o → b ∉ fr outer → (hideAll h (fr (env :: outer))).get? b = some o := fun b o q n => hideAll_get _ (F.keep b o q) fun hm => by
    rcases mem_fr hf hm with z | z
    · rw [z, fr_none F] at q; cases q
    · exact n z
  have ln : ∀ q ∈ news, (hideAll h (fr (env :: outer))).get? q.1 = some q.2 ∧ g.get? q.1 = none ∧ base.get? q.1 = none := fun q hq => by
    have n := N q hq
    refine ⟨hideAll_get _ n.1 fun hm => ?_, n.2.2, none_up K.stays n.2.2⟩
    rcases mem_fr hf hm with z | z
    · exact n.2.1 z
    · obtain ⟨_, o, ho, _⟩ := K.frames.mem z
      rw [n.2.2] at ho; cases ho
  refine wpAny_leaves_madeW hst hf (fun b o q => of_hideAll _ q) (funFrames_hide ff fun en he a ha => List.mem_filterMap.mpr ⟨en, he, ha⟩) hx fun h' t x1 x2 x3 x4 => ?_
  exact hQ h' t ⟨⟨_, stay, sg, ln, x1, x3⟩, x2⟩ (((Heap.UpToSlots.of_keeps F.keep).trans (Heap.UpToSlots.of_keeps hx.keeps)).trans x4)
/-- an exception that came from a callee leaves the frame -/
theorem on_any (K : Below A₀ base outer g) (hf : env.frame = some L) (F : Fr g L g₂ m) (R : RaisedS base g₂ (env :: outer) e cls t vs news s'.heap) (U : g₂.UpToSlots s'.heap)
    (hQ : ∀ h', RaisedS base g outer e cls t vs news h' → g.UpToSlots h' → Q () { s' with heap := h' }) :
    wpAny M (A₀.deeper env) (leaving env (.ref e)) Q E s' := by
  obtain ⟨⟨B, b1, b2, b3, b4, b5⟩, tp⟩ := R
  refine wpAny_leaves_onW (Around.frames_deeper K.stack) hf b4 fun h' x1 x2 => hQ h' ⟨⟨B, b1, fun b o q n => b2 b o (F.keep b o q) fun hm => ?_, fun q hq => ⟨(b3 q hq).1, none_up F.keep (b3 q hq).2.1, (b3 q hq).2.2⟩, x1, b5⟩, tp.of_slots x2⟩ ((Heap.UpToSlots.of_keeps F.keep).trans (U.trans x2))
  rcases mem_fr hf hm with z | z
  · rw [z, fr_none F] at q; cases q
  · exact n z
end
theorem raised_sub {base G : Heap} {l : List Env} {e : Addr} {cls : Value} {t : Addr} {vs : List Value} {news news' : List (Addr × Obj)} {h : Heap} (R : RaisedS base G l e cls t vs news h) (hs : ∀ p ∈ news', p ∈ news) : RaisedS base G l e cls t vs news' h := by
  obtain ⟨⟨B, b1, b2, b3, b4, b5⟩, tp⟩ := R
  exact ⟨⟨B, b1, b2, fun q hq => b3 q (hs q hq), b4, b5⟩, tp⟩

end Mine
namespace Mine
set_option maxRecDepth 100000
set_option maxHeartbeats 8000000
local macro_rules | `(tactic| l_idx) => `(tactic| first | exact within_lo (by with_reducible assumption) (by with_reducible assumption) | exact within_hi (by with_reducible assumption) (by with_reducible assumption) | (refine Int.lt_of_lt_of_le (within_hi (by with_reducible assumption) (by with_reducible assumption)) ?_; omega))
local macro_rules | `(tactic| walk_at "ENTER C") => `(tactic| (refine' code_defC ?k1 ?k2 ?k3 ?k4 ?k5 ?kA ?kF ?kK ?k6 ?k7 ?k8 ?k9 ?kB ?kD ?_ ?c2 ?c3 ?c4; (case kA => exact rfl); (case kF => exact rfl); (case kK => assumption); (case k1 => k_asm); (case k2 => k_asm); (case k3 => k_asm); (case k4 => k_asm); (case k5 => k_asm); (case k6 => k_is); (case k7 => k_is); (case k8 => ktr_room); (case k9 => first | exact BindsTo.of_eq rfl | exact binds_K (by k_in) rfl (by k_is) rfl rfl rfl | fail "k_enter: no rule for these arguments"); (case kB => exact rfl); (case kD => decide +kernel); (case c2 => exact rfl); (case c3 => exact rfl); (case c4 => exact rfl); k_whole; intro g' L' h' tk' cells' FG' F' N' Y' B' X' T' l1; (try k_lt l1); k_cells Y'; (try simp only [List.cons_append, List.nil_append] at N'); (try dsimp only); (try k_lift B'); (try k_fold)))
local macro_rules | `(tactic| walk_at "TurnQ") => `(tactic| dsimp only [TurnQ])
abbrev tup2 (a b : Value) : Obj := { cls := .type "tuple", data := .seq #[a, b] }
def LowRet (news : List (Addr × Obj)) (v : Value) : Option (Int × Int) → Prop
  | none => v = .none ∧ news = []
  | some (a, b) => ∃ D t u, v = .ref D ∧ news = [(D, tup2 (.int a t) (.int b u))]
theorem iter_cells2 {prog : Program} {w : World} {A : Around} {E : Value → Shared → Prop} {s : Shared} {env : Env} {h₀ : Heap} {L : Addr} {x : Str} {body : List Stmt} {Q : Flow → Shared → Prop} {l lc : Addr} {vs cv : List Value} {ns c₀ : List Int} {nn nc : Nat} {m₀ : Str → Option Value} {d k : Addr × Obj} {rest : List (Addr × Obj)} (P : List Int → List Int → Prop)
    (hL : env.locals = L) (hh : A.handled = none) (hi : IntsAre vs ns) (hc : IntsAre cv c₀) (F : Fr h₀ L s.heap m₀) (N : News h₀ L s.heap (d :: k :: (lc, listOf cv.toArray nc) :: (l, listOf vs.toArray nn) :: rest)) (h0 : P [] c₀)
    (turn : ∀ pre n post t c cv' h tk own, ns = pre ++ n :: post → n ∈ ns → OwnOff own [lc, k.1] → IntsAre cv' c → P pre c → Fr h₀ L h (fun y => if y = x then some (.int n t) else m₀ y) → News h₀ L h ((lc, listOf cv'.toArray nc) :: k :: (l, listOf vs.toArray nn) :: (rest ++ own)) →
      wpAny (model prog w) A (execs body env) (TurnQ h₀ L (fun m' nx => ∃ cv' c', nx = (lc, listOf cv'.toArray nc) :: k :: (l, listOf vs.toArray nn) :: rest ∧ IntsAre cv' c' ∧ (∀ z, z ≠ x → m' z = m₀ z) ∧ P (pre ++ [n]) c') own s Q) E { s with heap := h, toks := tk })
    (done : ∀ (u : Str → Option Value) c cv' h tk, IntsAre cv' c → P ns c → Fr h₀ L h (fun z => if z = x then u z else m₀ z) → News h₀ L h ((lc, listOf cv'.toArray nc) :: k :: (l, listOf vs.toArray nn) :: rest) → Q .next { s with heap := h, toks := tk }) :
    wpAny (model prog w) A (pyIter (.ref l)) (fun it s₂ => LoopAtV prog w A h₀ env x body Q E it s₂) E s := by
  refine iter_cells (tl := k :: (l, listOf vs.toArray nn) :: rest) P hL hh hi hc F N ?_ (.tail _ (.head _)) h0 ?_ done
  · intro p hp
    rcases List.mem_cons.mp hp with rfl | hp
    · exact .tail _ (.tail _ (.head _))
    · rcases List.mem_cons.mp hp with rfl | hp
      · exact .tail _ (.head _)
      · exact .tail _ (.tail _ (.tail _ hp))
  · intro pre n post t c cv' h tk own e hn hoff hi' hp F' N'
    exact turn pre n post t c cv' h tk own e hn (ownOff_sub hoff (by simp)) hi' hp F' N'
def LowK (h₀ : Heap) (L : Addr) (m : Str → Option Value) (s : Shared) (Q : Value → Shared → Prop) (lc : Addr × Nat) (lp : Addr × Obj) (rest : List (Addr × Obj)) (R : List Int × Option (Int × Int)) : Prop :=
  ∀ (v : Value) (h' : Heap) (tk' : Nat) (tl : List (Addr × Obj)) (cv' : List Value), Fr h₀ L h' m → News h₀ L h' (tl ++ (lc.1, listOf cv'.toArray lc.2) :: lp :: rest) → IntsAre cv' R.1 → LowRet tl v R.2 → Q v { s with heap := h', toks := tk' }
section
variable {h₀ h' : Heap} {L lc D : Addr} {nc tk' : Nat} {m : Str → Option Value} {s : Shared} {Q : Value → Shared → Prop} {lp d k : Addr × Obj} {rest own : List (Addr × Obj)} {R : List Int × Option (Int × Int)} {c : List Int} {cv : List Value} {x y : Int} {t u : Tok}
theorem low_end2 (hret : LowK h₀ L m s Q (lc, nc) lp rest R) (e : R = (c, some (x, y))) (hc : IntsAre cv c) (F : Fr h₀ L h' m) (N : News h₀ L h' ((D, tup2 (.int x t) (.int y u)) :: d :: k :: (lc, listOf cv.toArray nc) :: lp :: rest)) : Q (.ref D) { s with heap := h', toks := tk' } := by
  subst e
  refine hret _ _ _ [(D, tup2 (.int x t) (.int y u))] cv F (news_sub N ?_) hc ⟨D, t, u, rfl, rfl⟩
  intro p hp
  rcases List.mem_cons.mp hp with rfl | hp
  · exact .head _
  · exact .tail _ (.tail _ (.tail _ hp))
theorem low_end1 (hret : LowK h₀ L m s Q (lc, nc) lp rest R) (e : R = (c, some (x, y))) (hc : IntsAre cv c) (F : Fr h₀ L h' m) (N : News h₀ L h' ((D, tup2 (.int x t) (.int y u)) :: (lc, listOf cv.toArray nc) :: k :: lp :: rest)) : Q (.ref D) { s with heap := h', toks := tk' } := by
  subst e
  refine hret _ _ _ [(D, tup2 (.int x t) (.int y u))] cv F (news_sub N ?_) hc ⟨D, t, u, rfl, rfl⟩
  intro p hp
  rcases List.mem_cons.mp hp with rfl | hp
  · exact .head _
  · rcases List.mem_cons.mp hp with rfl | hp
    · exact .tail _ (.head _)
    · exact .tail _ (.tail _ (.tail _ hp))
theorem low_end0 (hret : LowK h₀ L m s Q (lc, nc) lp rest R) (e : R = (c, none)) (hc : IntsAre cv c) (F : Fr h₀ L h' m) (N : News h₀ L h' ((lc, listOf cv.toArray nc) :: k :: lp :: (rest ++ own))) : Q .none { s with heap := h', toks := tk' } := by
  subst e
  refine hret _ _ _ [] cv F (news_sub N ?_) hc ⟨rfl, rfl⟩
  intro p hp
  rcases List.mem_cons.mp hp with rfl | hp
  · exact .head _
  · rcases List.mem_cons.mp hp with rfl | hp
    · exact .tail _ (.tail _ (.head _))
    · exact .tail _ (.tail _ (.tail _ (List.mem_append_left _ hp)))
end
theorem lowered_c {w : World} {loose : List Str} {mean : ExcName → Option Value} {mg mb : Str → Option Value}
   (dp un : Nat) (gd : Option (List Code)) (cn : Str) (cs : Scope) (a : Addr) (ccd : Value) (cl : List (Str × Addr)) (outer : List Env) (A₀ : Around) (base h₀ : Heap) (L : Addr) (m : Str → Option Value) (s : Shared) (Q E : Value → Shared → Prop)
   (lc lp : Addr) (cv pv : List Value) (nc np : Nat) (cells places : List Int) (amt : Int) (t : Tok) (rest : List (Addr × Obj))
   (B : Below A₀ base outer h₀) (F : Fr h₀ L s.heap m) (X : (hd.heap_39 w.params).In h₀) (N : News h₀ L s.heap ((lc, listOf cv.toArray nc) :: (lp, listOf pv.toArray np) :: rest))
   (T : Top topProg loose mean mg mb h₀) (hk : cs.kind = .function) (hd : dp + 1 < recursionLimit) (hu : un + 8 < cLine)
   (hc : IntsAre cv cells) (hp : IntsAre pv places) (hne : @Ne Nat lc lp) (hoff : OwnOff rest [lc]) (hlen : places.length ≤ 3) (hlen0 : 0 < places.length) (hclen : cells.length ≤ 9)
   (hr : Within places cells.length) (hcb : InTop cells)
   (hret : LowK h₀ L m s Q (lc, nc) (lp, listOf pv.toArray np) rest (lowered cells places amt)) :
   wpAny (model Challenge.rw_db5010_01.row.prog w) (ktrTop dp un gd cn cs L a ccd cl outer) (call (.ref 422) [.ref lc, .ref lp, .int amt t]) Q E s := by
  (w_top off; revert X; k_fill; intro X)
  refine wpAny_call ?_
  k_dflt (walk_at "ENTER C")
  k_steps
  all_goals ((rename _ ∈ List.map _ places => hm1); (rename ∀ a, a ∈ List.map _ places → _ => hm2); (have hM : _ = leastAt cells places := mn_of hm1 hm2); subst hM)
  · exact low_end2 hret (lowered_stop rfl (by omega)) hc (by assumption) (by assumption)
  · exact low_end2 hret (lowered_stop rfl (by omega)) hc (by assumption) (by assumption)
  · (rename Fr _ _ _ _ => lF'); (rename News _ _ _ _ => lN')
    refine For_invVF lF' (by exact rfl) (by exact rfl) ?_
    walk1
    (rename _ ≠ (4294967295 : Int) => hz1)
    (rename _ ≠ (0 : Int) => hz2)
    refine iter_cells2 (fun pre c => (∀ post, places = pre ++ post → lowGo (if leastAt cells places < amt then leastAt cells places else amt) c post = lowGo (if leastAt cells places < amt then leastAt cells places else amt) cells places) ∧ c.length = cells.length ∧ InTop c) (by rfl) (by rfl) hp hc lF' lN' ⟨fun post e => by rw [e]; rfl, rfl, hcb⟩ ?_ ?_
    · rintro pre n post t c cv' h tk own hpre hn hoff' hi' ⟨hgo, hcl, hct⟩ F' N'
      clear lF' lN'
      have hoff'' := ownOff_app hoff (ownOff_sub hoff' (by simp) : OwnOff own [lc])
      have hn0 := hr.lo hn
      have hn1 := hr.hi hn
      rw [← hcl] at hn1
      have hg := hgo _ hpre
      k_steps
      · exact low_end0 hret (lowered_none rfl hz1 hz2 ((lowGo_bad (by assumption) (.inl (by assumption))).symm.trans hg)) hi' (by assumption) (by assumption)
      · exact low_end0 hret (lowered_none rfl hz1 hz2 ((lowGo_bad (by assumption) (.inr (by assumption))).symm.trans hg)) hi' (by assumption) (by assumption)
      · exact turn_end (by assumption) ⟨go_next hpre ((lowGo_put (by assumption) (by assumption) (by assumption)).symm.trans hg), (put_len ..).trans hcl, hct.put (low_ok (by assumption) (by assumption))⟩ (by assumption) (by assumption)
      · exact turn_end hi' ⟨go_next hpre ((lowGo_top (by assumption)).symm.trans hg), hcl, hct⟩ (by assumption) (by assumption)
    · rintro u c cv' h tk hi' ⟨hgo, hcl, hct⟩ F' N'
      clear lF' lN'
      have hg := hgo [] (by simp)
      k_steps
      exact low_end1 hret (lowered_some rfl hz1 hz2 hg) hi' (by assumption) (by assumption)
end Mine
namespace Mine
set_option maxRecDepth 100000
set_option maxHeartbeats 1000000
local macro_rules | `(tactic| l_idx) => `(tactic| first | exact within_lo (by with_reducible assumption) (by with_reducible assumption) | exact within_hi (by with_reducible assumption) (by with_reducible assumption) | (refine Int.lt_of_lt_of_le (within_hi (by with_reducible assumption) (by with_reducible assumption)) ?_; omega))
local macro_rules | `(tactic| k_ne) => `(tactic| (refine neN ?_; (try dsimp only); with_reducible assumption))
local macro_rules | `(tactic| k_all) => `(tactic| with_reducible assumption)
local macro_rules | `(tactic| k_all) => `(tactic| first | (refine all_app ?ka ?kb; (case ka => k_all); (case kb => k_all)) | exact rest_ne (by tbn_find) (by (try dsimp only); omega) | exact OwnOff.ne (by assumption) (by k_memK))
local macro_rules | `(tactic| walk_at "exec For") => `(tactic| (k_here; refine Stop.out ?_))
local macro_rules | `(tactic| walk_at "exec For Name Call cons nil") => `(tactic| (k_here; refine Stop.out ?_))
local macro_rules | `(tactic| walk_at "exec For Name Name cons nil") => `(tactic| (k_here; refine Stop.out ?_))
local macro_rules | `(tactic| walk_at "exec For Tuple Call cons nil") => `(tactic| (k_here; refine Stop.out ?_))
local macro_rules | `(tactic| walk_at "exec For Tuple Call cons nil cons nil") => `(tactic| (k_here; refine Stop.out ?_))
local macro_rules | `(tactic| walk_at "LEN9") => `(tactic| first | with_reducible assumption | exact n_le9 (by with_reducible assumption))
local macro_rules | `(tactic| walk_at "IDXN") => `(tactic| first
  | with_reducible assumption
  | exact within_hi (by with_reducible assumption) (by with_reducible assumption)
  | exact idx_hi (by with_reducible assumption)
  | exact range_hi (by with_reducible assumption)
  | exact fmods_hi (by with_reducible assumption) (by omega))
local macro_rules | `(tactic| walk_at "IDX") => `(tactic| first
  | with_reducible assumption
  | exact within_lo (by with_reducible assumption) (by with_reducible assumption)
  | exact range_lo (by with_reducible assumption)
  | exact fmods_lo (by with_reducible assumption) (by omega)
  | walk_at "IDXN"
  | (law_purse 20000 => omega))
local macro_rules | `(tactic| walk_at "IDXF") => `(tactic| first | exact idx_fit (by walk_at "IDXN") (by walk_at "LEN9") | (law_purse 20000 => omega))
local macro_rules | `(tactic| walk_at "setItem ref int") => `(tactic| (k_here; (with_reducible show wpAny _ _ (setItem (Value.ref _) (Value.int _ _) (Value.int _ _)) _ _ _); k_dflt (refine' ksa_set ?k1 ?k2 ?k3 ?k4 ?k5 ?k6 ?k7 ?_; (case k1 => k_asm); (case k2 => k_asm); (case k3 => k_upd); (case k4 => with_reducible assumption); (case k5 => walk_at "IDX"); (case k6 => walk_at "IDX"); (case k7 => walk_at "IDXF"); k_whole); intro h' F' N' hi' hl' hs'; (try k_sweep)))
local macro_rules | `(tactic| walk_at "getItem ref int") => `(tactic| (k_here; (with_reducible show wpAny _ _ (getItem (Value.ref _) (Value.int _ _)) _ _ _); k_dflt (refine' ksa_get ?k1 ?k2 ?k3 ?k4 ?k5 ?k6 ?_; (case k1 => k_asm); (case k2 => k_mem); (case k3 => with_reducible assumption); (case k4 => walk_at "IDX"); (case k5 => walk_at "IDX"); (case k6 => walk_at "IDXF"); k_whole); intro _))
local macro_rules | `(tactic| walk_at "SUB") => `(tactic| (k_here; (with_reducible show wpAny _ _ (subscriptTail _ _ (Value.ref _) (Value.int _ _)) _ _ _); k_dflt (refine' ksa_sub ?k1 ?k2 ?k3 ?k4 ?k5 ?k6 ?_ ?k7; (case k1 => k_asm); (case k2 => k_mem); (case k3 => with_reducible assumption); (case k4 => walk_at "IDX"); (case k5 => walk_at "IDX"); (case k6 => walk_at "IDXF"); (case k7 => with_unfolding_all rfl); k_whole); intro _))
local macro_rules | `(tactic| walk_at "subscriptTail Name Name ref int") => `(tactic| first | walk_at "SUB" | (k_here; refine Stop.out ?_))
local macro_rules | `(tactic| walk_at "subscriptTail Attribute") => `(tactic| first | walk_at "SUB" | (k_here; refine Stop.out ?_))
local macro_rules | `(tactic| walk_at "subscriptTail Attribute Name") => `(tactic| first | walk_at "SUB" | (k_here; refine Stop.out ?_))
local macro_rules | `(tactic| walk_at "subscriptTail Attribute Name ref") => `(tactic| first | walk_at "SUB" | (k_here; refine Stop.out ?_))
local macro_rules | `(tactic| walk_at "subscriptTail Attribute Name Name") => `(tactic| first | walk_at "SUB" | (k_here; refine Stop.out ?_))
local macro_rules | `(tactic| walk_at "subscriptTail Attribute Name Name ref int") => `(tactic| first | walk_at "SUB" | (k_here; refine Stop.out ?_))
local macro_rules | `(tactic| walk_at "subscriptTail Attribute Name Name ref") => `(tactic| first | walk_at "SUB" | (k_here; refine Stop.out ?_))
local macro_rules | `(tactic| walk_at "subscriptTail Attribute Name ref int") => `(tactic| first | walk_at "SUB" | (k_here; refine Stop.out ?_))
local macro_rules | `(tactic| walk_at "subscriptTail") => `(tactic| first | walk_at "SUB" | (k_here; refine Stop.out ?_))
local macro_rules | `(tactic| walk_at "call type:enumerate") => `(tactic| (k_here; refine Stop.out ?_))
local macro_rules | `(tactic| walk_at "TurnQ") => `(tactic| dsimp only [TurnQ])
local macro_rules | `(tactic| walk_at "exec Raise some none") => `(tactic| (k_here; refine Stop.out ?_))
local macro_rules | `(tactic| walk_at "RAISE") => `(tactic| (k_here; k_dflt (refine' Raise_madeB PySem.F.excCall_OverflowError PySem.F.excRaise_OverflowError ?hh ?hx; (case hh => rfl))))
local macro_rules | `(tactic| walk_at "leaving ref") => `(tactic| (k_here; k_dflt (refine' raise_any ?k1 ?f ?kk ?k0 ?k2 ?k3 ?_; (case f => exact rfl); (case kk => exact rfl); (case k0 => exact Heap.MadeExc.of (by assumption)); (case k1 => assumption); (case k2 => assumption); (case k3 => k_asm); k_whole); intro h' t' R' U'; (try dsimp only at R' U' ⊢); refine Stop.out ?_))
local macro_rules | `(tactic| k_room) => `(tactic| ktr_room)
local macro_rules | `(tactic| walk_at "ENTER C") => `(tactic| (refine' code_defC ?k1 ?k2 ?k3 ?k4 ?k5 ?kA ?kF ?kK ?k6 ?k7 ?k8 ?k9 ?kB ?kD ?_ ?c2 ?c3 ?c4; (case kA => exact rfl); (case kF => exact rfl); (case kK => assumption); (case k1 => k_asm); (case k2 => k_asm); (case k3 => k_asm); (case k4 => k_asm); (case k5 => k_asm); (case k6 => k_is); (case k7 => k_is); (case k8 => ktr_room); (case k9 => first | exact BindsTo.of_eq rfl | exact binds_K (by k_in) rfl (by k_is) rfl rfl rfl | fail "k_enter: no rule for these arguments"); (case kB => exact rfl); (case kD => decide +kernel); (case c2 => exact rfl); (case c3 => exact rfl); (case c4 => exact rfl); k_whole; intro g' L' h' tk' cells' FG' F' N' Y' B' X' T' l1; (try k_lt l1); k_cells Y'; (try simp only [List.cons_append, List.nil_append] at N'); (try dsimp only); (try k_lift B'); (try k_fold)))
local macro_rules | `(tactic| walk_at "TurnQ") => `(tactic| dsimp only [TurnQ])
local macro_rules | `(tactic| walk_at "ENTER P") => `(tactic| (refine' code_def ?k1 ?k2 ?k3 ?k4 ?k5 ?kA ?kF ?kK ?k6 ?k7 ?k8 ?k9 ?kB ?_ ?c2 ?c3 ?c4 ?c5; (case kA => exact rfl); (case kF => exact rfl); (case kK => assumption); (case k1 => k_asm); (case k2 => k_asm); (case k3 => k_asm); (case k4 => k_asm); (case k5 => k_asm); (case k6 => k_is); (case k7 => k_is); (case k8 => ktr_room); (case k9 => first | exact BindsTo.of_eq rfl | exact binds_K (by k_in) rfl (by k_is) rfl rfl rfl | fail "k_enter: no rule for these arguments"); (case c5 => decide); (case kB => exact locs rfl); (case c2 => exact rfl); (case c3 => exact rfl); (case c4 => exact rfl); k_whole; intro g' L' h' FG' F' N' B' X' T'; (try dsimp only); (try k_lift B'); (try k_fold)))
/-- the loop of an add -/
theorem add_loop {prog : Program} {w : World} {A : Around} {E : Value → Shared → Prop} {s : Shared} {env : Env} {h₀ : Heap} {L : Addr} {body : List Stmt} {Q : Flow → Shared → Prop} {xi xv xk : Str} {pi pv pt : Pos} {x1 : Nat} {D D' bl dx lp : Addr} {nz nc : Nat} {od ol : Obj}
    {m₀ : Str → Option Value} {rest : List (Addr × Obj)} {c1 c2 c3 ox : Addr × Obj} {ys zs cv : List Value} {pl cells : List Int} {amt : Int}
    (hL : env.locals = L) (hh : A.handled = none) (hxi : env.kindOf xi = some .local) (hxv : env.kindOf xv = some .local)
    (hp : (env.scope.kind == .class || (env.scope.kind == .module && env.locals != env.globals)) = false) (n1 : xi ≠ xv) (n2 : xk ≠ xi) (n3 : xk ≠ xv)
    (F : Fr h₀ L s.heap m₀) (N : News h₀ L s.heap ((D, listOf zs.toArray nz) :: (D', LCg.lst ys) :: c1 :: c2 :: c3 :: ox :: (dx, od) :: (bl, listOf cv.toArray nc) :: (lp, ol) :: rest))
    (hoff0 : OwnOff rest [ox.1, dx, bl]) (ho : D' ≠ D ∧ c1.1 ≠ D ∧ c2.1 ≠ D ∧ c3.1 ≠ D ∧ ox.1 ≠ D ∧ dx ≠ D ∧ bl ≠ D ∧ lp ≠ D ∧ LCg.Off1 D rest) (ho' : c1.1 ≠ D' ∧ c2.1 ≠ D' ∧ c3.1 ≠ D' ∧ ox.1 ≠ D' ∧ dx ≠ D' ∧ bl ≠ D' ∧ lp ≠ D' ∧ LCg.Off1 D' rest)
    (hb1 : @Ne Nat c1.1 bl) (hb2 : @Ne Nat c2.1 bl) (hb3 : @Ne Nat c3.1 bl) (hb4 : @Ne Nat ox.1 bl) (hb5 : @Ne Nat dx bl) (hb6 : @Ne Nat lp bl)
    (hc : IntsAre cv cells) (hI1 : IntsAre ys pl) (hI2 : IntsAre zs (pl.map fun k => at_ cells k + amt)) (hcb : InTop cells)
    (turn : ∀ (i : Nat) p c zs' cv' (u : Str → Option Value) t tv h tk own, pl[i]? = some p → p ∈ pl → (i : Int) < pl.length → (∀ q ∈ rest ++ own, q.1 ≠ D) → (∀ q ∈ rest ++ own, q.1 ≠ bl) → @Ne Nat D' D → @Ne Nat c1.1 D → @Ne Nat c2.1 D → @Ne Nat c3.1 D → @Ne Nat ox.1 D → @Ne Nat dx D → @Ne Nat bl D → @Ne Nat D bl → @Ne Nat lp D → @Ne Nat D' bl → @Ne Nat c1.1 bl → @Ne Nat c2.1 bl → @Ne Nat c3.1 bl → @Ne Nat ox.1 bl → @Ne Nat dx bl → @Ne Nat lp bl → IntsAre cv' c → IntsAre zs' (valsAt i (pl.map fun k => at_ cells k + amt)) →
      addGo cells amt c (p :: pl.drop (i + 1)) = addGo cells amt cells pl → c.length = cells.length → InTop c →
      Fr h₀ L h (fun y => if y = xv then some (.int (at_ cells p + amt) tv) else if y = xi then some (.int (i : Int) t) else if y = xk then u y else m₀ y) →
      News h₀ L h ((D, listOf zs'.toArray nz) :: (D', LCg.lst ys) :: c1 :: c2 :: c3 :: ox :: (dx, od) :: (bl, listOf cv'.toArray nc) :: (lp, ol) :: (rest ++ own)) →
      wpAny (model prog w) A (execs body env) (TurnQ h₀ L (fun m' nx => ∃ zs' cv' c, nx = (D, listOf zs'.toArray nz) :: (D', LCg.lst ys) :: c1 :: c2 :: c3 :: ox :: (dx, od) :: (bl, listOf cv'.toArray nc) :: (lp, ol) :: rest ∧ IntsAre cv' c ∧ IntsAre zs' (valsAt (i + 1) (pl.map fun k => at_ cells k + amt)) ∧
        addGo cells amt c (pl.drop (i + 1)) = addGo cells amt cells pl ∧ c.length = cells.length ∧ InTop c ∧ ∀ z, z ≠ xi → z ≠ xv → z ≠ xk → m' z = m₀ z) own s Q) E { s with heap := h, toks := tk })
    (done : ∀ c zs' cv' (u : Str → Option Value) h tk, IntsAre cv' c → IntsAre zs' (pl.map fun k => min (at_ cells k + amt) 4294967295) → (c, true) = addGo cells amt cells pl → c.length = cells.length → InTop c →
      Fr h₀ L h (fun y => if y = xv then u y else if y = xi then u y else if y = xk then u y else m₀ y) →
      News h₀ L h ((D, listOf zs'.toArray nz) :: (D', LCg.lst ys) :: c1 :: c2 :: c3 :: ox :: (dx, od) :: (bl, listOf cv'.toArray nc) :: (lp, ol) :: rest) → Q .next { s with heap := h, toks := tk })
    (hE : PassesOwn (model prog w) A env E) :
    wpAny (model prog w) A (call (.type "enumerate") [.ref D]) (fun x s₁ => wpAny (model prog w) A (pyIter x) (fun it s₂ => codeAny (model prog w) A (.forLoop (.Tuple [.Name xi pi, .Name xv pv] x1 pt) it body [] env) (fun r s' => match r with | .ok f => Q f s' | .error e => cameBackBy (model prog w) A env E e s') s₂) E s₁) E s := by
  refine enum_call (n := pl.length) (nn := nz) (fun i m' nx => ∃ zs' cv' c, nx = (D, listOf zs'.toArray nz) :: (D', LCg.lst ys) :: c1 :: c2 :: c3 :: ox :: (dx, od) :: (bl, listOf cv'.toArray nc) :: (lp, ol) :: rest ∧ IntsAre cv' c ∧ IntsAre zs' (valsAt i (pl.map fun k => at_ cells k + amt)) ∧
        addGo cells amt c (pl.drop i) = addGo cells amt cells pl ∧ c.length = cells.length ∧ InTop c ∧ ∀ z, z ≠ xi → z ≠ xv → z ≠ xk → m' z = m₀ z) hL hh hxi hxv hp F N
    ⟨zs, cv, cells, rfl, hc, by rw [valsAt_zero]; exact hI2, rfl, rfl, hcb, fun _ _ _ _ => rfl⟩ ?_ ?_ ?_ hE
  · rintro i m nx ⟨zs', cv', c, rfl, _, hz, _⟩
    exact ⟨rfl, zs', .head _, by rw [hz.length, valsAt_len, List.length_map]⟩
  · rintro i m₁ nx vs x t h tk own hi ⟨zs', cv', c, rfl, hc', hz, hgo, hcl, hct, hm⟩ hmem hx hoff F₁ N₁
    obtain ⟨p, hp⟩ : ∃ p, pl[i]? = some p := ⟨pl[i], by simp [hi]⟩
    have hg : (pl.map fun k => at_ cells k + amt)[i]? = some (at_ cells p + amt) := by simp [hp]
    obtain ⟨tv, hv⟩ := hz.get i _ (valsAt_get hg)
    have hvs : vs = zs' := by
      rcases List.mem_cons.mp hmem with e | e
      · have := congrArg (fun q : Addr × Obj => q.2.data) e
        simpa using this
      · have h1 := N₁ _ (List.mem_append_left _ hmem)
        have h2 := N₁ _ (List.mem_append_left _ (List.Mem.head _))
        have h3 := h1.1.symm.trans h2.1
        have h4 := congrArg (fun q : Option Obj => q.map (·.data)) h3
        simpa using h4
    subst hvs
    rw [hv] at hx
    cases hx
    refine turn i p c vs cv' m₁ t tv h tk own hp (List.mem_of_getElem? hp) (by omega) (all_app (off1_ne ho.2.2.2.2.2.2.2.2) (hoff.ne (by simp))) (all_app (hoff0.ne (by simp)) (hoff.ne (by simp))) ho.1 ho.2.1 ho.2.2.1 ho.2.2.2.1 ho.2.2.2.2.1 ho.2.2.2.2.2.1 ho.2.2.2.2.2.2.1 (Ne.symm ho.2.2.2.2.2.2.1) ho.2.2.2.2.2.2.2.1 (Ne.symm ho'.2.2.2.2.2.1) hb1 hb2 hb3 hb4 hb5 hb6 hc' hz (by rw [← drop_at hp]; exact hgo) hcl hct ?_ (by simpa only [List.cons_append] using N₁)
    have e : (fun y => if y = xv then some (Value.int (at_ cells p + amt) tv) else if y = xi then some (Value.int (i : Int) t) else m₁ y) = (fun y => if y = xv then some (Value.int (at_ cells p + amt) tv) else if y = xi then some (Value.int (i : Int) t) else if y = xk then m₁ y else m₀ y) := by
      funext y
      by_cases h1 : y = xv
      · simp [h1]
      · by_cases h2 : y = xi
        · simp [h1, h2]
        · by_cases h3 : y = xk
          · simp [h1, h2, h3]
          · simp only [h1, h2, h3, if_false]; exact hm y h2 h1 h3
    rw [← e]; exact F₁
  · rintro m₁ nx h tk ⟨zs', cv', c, rfl, hc', hz, hgo, hcl, hct, hm⟩ F₁ N₁
    refine done c zs' cv' m₁ h tk hc' ?_ ?_ hcl hct ?_ N₁
    · have e := valsAt_all (pl.map fun k => at_ cells k + amt)
      rw [List.length_map, List.map_map] at e
      rw [e] at hz
      exact hz
    · rw [List.drop_length] at hgo; exact hgo
    · have e : (fun y => if y = xv then m₁ y else if y = xi then m₁ y else if y = xk then m₁ y else m₀ y) = m₁ := by
        funext y
        by_cases h1 : y = xv
        · simp [h1]
        · by_cases h2 : y = xi
          · simp [h2]
          · by_cases h3 : y = xk
            · simp [h3]
            · simp only [h1, h2, h3, if_false]; exact (hm y h2 h1 h3).symm
      rw [e]; exact F₁
theorem add_c {w : World} {loose : List Str} {mean : ExcName → Option Value} {mg mb : Str → Option Value}
   (dp un : Nat) (gd : Option (List Code)) (cn : Str) (cs : Scope) (a : Addr) (ccd : Value) (cl : List (Str × Addr)) (outer : List Env) (A₀ : Around) (base h₀ : Heap) (L : Addr) (m : Str → Option Value) (s : Shared) (Q E : Value → Shared → Prop)
   (x dx bl lp : Addr) (cv pv : List Value) (nc np : Nat) (cells ks : List Int) (els amt : Int) (t t6 : Tok) (c : CM) (rest : List (Addr × Obj))
   (B : Below A₀ base outer h₀) (F : Fr h₀ L s.heap m) (X : (hd.heap_39 w.params).In h₀) (T : Top topProg loose mean mg mb h₀) (hk : cs.kind = .function) (hd : dp + 3 < recursionLimit) (hu : un + 24 < cLine)
   (N : News h₀ L s.heap ((x, instObj 396 dx) :: (dx, dictOf (c.ents els t6 bl) 12) :: (bl, listOf cv.toArray nc) :: (lp, listOf pv.toArray np) :: rest))
   (hc : IntsAre cv cells) (hp : IntsAre pv ks) (hord : @Ne Nat dx x ∧ @Ne Nat dx bl ∧ @Ne Nat dx lp ∧ @Ne Nat x bl ∧ @Ne Nat x lp ∧ @Ne Nat bl lp) (hoff : OwnOff rest [x, dx, bl])
   (hdep : c.depth = (ks.length : Int)) (hbit : c.bits = (cells.length : Int)) (hlen : ks.length ≤ 3) (hlen0 : 0 < ks.length) (hclen : cells.length ≤ 9) (hclen0 : 0 < cells.length)
   (hcb : InTop cells) (hbits : Small amt)
   (hexc : ∀ g h' e te vs tk' cv' c', Fr h₀ L g m → RaisedS base g (envX cn cs L a ccd cl :: outer) e (.type "OverflowError") te vs ((x, instObj 396 dx) :: (dx, dictOf (c.ents els t6 bl) 12) :: (bl, listOf cv'.toArray nc) :: (lp, listOf pv.toArray np) :: rest) h' → g.UpToSlots h' →
     IntsAre cv' c' → raised cells (ks.map fun k => Int.fmod k (cells.length : Int)) amt = (c', none) → E (.ref e) { s with heap := h', toks := tk' })
   (hret : ∀ h' tk' cv' c' els' t6' v tv, Fr h₀ L h' m → News h₀ L h' ((x, instObj 396 dx) :: (dx, dictOf (c.ents els' t6' bl) 12) :: (bl, listOf cv'.toArray nc) :: (lp, listOf pv.toArray np) :: rest) →
     IntsAre cv' c' → raised cells (ks.map fun k => Int.fmod k (cells.length : Int)) amt = (c', some v) → els' = min (els + amt) 18446744073709551615 → Q (.int v tv) { s with heap := h', toks := tk' }) :
   wpAny (model Challenge.rw_db5010_01.row.prog w) (ktrTop dp un gd cn cs L a ccd cl outer) (call (.ref 344) [.ref x, .ref lp, .int amt t]) Q E s := by
  obtain ⟨g0, g1, g2, g3, g4, g5, g6, g7, g8, g9, g10, g11, k0, k1, k2, k3, k4, k5, k6, k7, k8, k9, k10, k11, v0, v1, v2, v3, v5, v9, t4, t7, t8, bits, depth, fn⟩ := c
  dsimp only [CM.ents] at N hexc hret hdep hbit
  subst hbit hdep
  obtain ⟨q1, q2, q3, q4, q5, q6⟩ := hord
  have q7 := q1.symm
  have q8 := q2.symm
  have q9 := q3.symm
  have q10 := q4.symm
  have q11 := q5.symm
  have q12 := q6.symm
  (w_top off; revert X; k_fill; intro X)
  refine wpAny_call ?_
  k_dflt (walk_at "ENTER C")
  k_steps
  refine Stop.go (wpAny_For ?_ (fun _ => rfl))
  k_steps
  refine Stop.go ?_
  have e := map_range (fun k => Int.fmod k (cells.length : Int)) ks
  (rename Fr _ _ _ _ => lF'); (rename News _ _ _ _ => lN')
  simp only [e] at *
  generalize hpl : List.map (fun k => Int.fmod k (cells.length : Int)) ks = places at *
  rename IntsAre _ places => hI1
  rename IntsAre _ (List.map _ places) => hI2
  have hplen : places.length = ks.length := by rw [← hpl, List.length_map]
  have hpw : Within places cells.length := by
    rw [← hpl]
    intro k hk
    obtain ⟨a, _, rfl⟩ := List.mem_map.mp hk
    exact ⟨fmod_lo _ (by omega), fmod_hi _ (by omega)⟩
  clear e
  refine add_loop (xk := "k") (pl := places) (cells := cells) (amt := amt) (by exact rfl) (by rfl) (by exact rfl) (by exact rfl) (by exact rfl) (by decide) (by decide) (by decide) lF' lN' hoff (by assumption) (by assumption) (by dsimp only; omega) (by dsimp only; omega) (by dsimp only; omega) (by dsimp only; omega) (by omega) (by omega) hc hI1 hI2 hcb ?_ ?_ (by passes_own)
  · rintro i p c zs' cv' u ti tv h tk own hpi hpm hi hrD hrb e1 e2 e3 e4 e5 e6 e7 e8 e9 f1 f2 f3 f4 f5 f6 f7 hc' hz hgo hcl hct F' N'
    clear lF' lN'
    repeat (rename _ ∧ _ => hx; clear hx)
    dsimp only at e2 e3 e4 e5 f2 f3 f4 f5
    have hq : p = places.getD ((i : Int)).toNat 0 := by rw [Int.toNat_natCast, List.getD_eq_getElem?_getD, hpi]; rfl
    have hp0 := hpw.lo hpm
    have hp1 := hpw.hi hpm
    rw [← hcl] at hp1
    have hi0 : 0 ≤ (i : Int) := Int.natCast_nonneg i
    have hcl9 : c.length ≤ 9 := by rw [hcl]; exact hclen
    have hpl9 : places.length ≤ 9 := by rw [hplen]; exact n_le9 hlen
    subst hq
    have hzl : (i : Int) < ((valsAt i (places.map fun k => at_ cells k + amt)).length : Int) := by rw [valsAt_len, List.length_map]; exact hi
    have hz9 : (valsAt i (places.map fun k => at_ cells k + amt)).length ≤ 9 := by rw [valsAt_len, List.length_map]; exact hpl9
    have hgv : (places.map fun k => at_ cells k + amt)[i]? = some (at_ cells (places.getD ((i : Int)).toNat 0) + amt) := by rw [List.getElem?_map, hpi]; rfl
    k_steps
    · refine' ⟨_, _, _, _, rfl, ?tF, ?tN, _, _, _, rfl, ?tC, ?tZ, (addGo_over (by with_reducible assumption)).symm.trans hgo, (put_len ..).trans hcl, hct.put (by omega), ?tM⟩
      case tF => assumption
      case tN => assumption
      case tC => assumption
      case tZ => rw [valsAt_over hgv (by with_reducible assumption)]; assumption
      case tM =>
        intro z z1 z2 z3
        simp only [z1, z2, z3, if_false]
    · refine' ⟨_, _, _, _, rfl, ?tF, ?tN, _, _, _, rfl, ?tC, ?tZ, (addGo_put (by with_reducible assumption) (Int.not_lt.mpr (by with_reducible assumption)) (Int.not_lt.mpr (by with_reducible assumption))).symm.trans hgo, (put_len ..).trans hcl, hct.put ⟨by with_reducible assumption, by with_reducible assumption⟩, ?tM⟩
      case tF => assumption
      case tN => assumption
      case tC => assumption
      case tZ => rw [valsAt_keep hgv (by with_reducible assumption)]; exact hz
      case tM =>
        intro z z1 z2 z3
        simp only [z1, z2, z3, if_false]
    · refine Stop.go ?_
      walk_at "RAISE"
      k_steps
      refine Stop.go ?_
      exact hexc _ _ _ _ _ _ _ _ (by assumption) (raised_sub (by assumption) sub_five) (by assumption) hc' (raised_none ((addGo_bad (by with_reducible assumption) (.inr (Int.not_le.mp (by with_reducible assumption)))).symm.trans hgo))
    · refine Stop.go ?_
      walk_at "RAISE"
      k_steps
      refine Stop.go ?_
      exact hexc _ _ _ _ _ _ _ _ (by assumption) (raised_sub (by assumption) sub_five) (by assumption) hc' (raised_none ((addGo_bad (by with_reducible assumption) (.inl (Int.not_le.mp (by with_reducible assumption)))).symm.trans hgo))
  · rintro c zs' cv' u h tk hc' hz hgo hcl hct F' N'
    clear lF' lN'
    k_steps
    (rename _ ∈ List.map _ places => hm1); (rename ∀ a, a ∈ List.map _ places → _ => hm2)
    have hM : _ = mn (places.map fun k => min (at_ cells k + amt) 4294967295) := mn_of hm1 hm2
    subst hM
    (rename News h₀ L _ _ => kN); (rename Fr h₀ L _ m => kF)
    exact hret _ _ _ _ _ _ _ _ kF (news_sub kN sub_five') hc' (raised_some hgo) (min_if _ _)
end Mine
namespace Mine
set_option maxRecDepth 100000
set_option maxHeartbeats 1000000
local macro_rules | `(tactic| l_idx) => `(tactic| first | exact within_lo (by with_reducible assumption) (by with_reducible assumption) | exact within_hi (by with_reducible assumption) (by with_reducible assumption) | (refine Int.lt_of_lt_of_le (within_hi (by with_reducible assumption) (by with_reducible assumption)) ?_; omega))
local macro_rules | `(tactic| k_ne) => `(tactic| (refine neN ?_; (try dsimp only); with_reducible assumption))
local macro_rules | `(tactic| k_all) => `(tactic| with_reducible assumption)
local macro_rules | `(tactic| k_all) => `(tactic| first | (refine all_app ?ka ?kb; (case ka => k_all); (case kb => k_all)) | exact rest_ne (by tbn_find) (by (try dsimp only); omega) | exact OwnOff.ne (by assumption) (by k_memK))
local macro_rules | `(tactic| walk_at "exec For") => `(tactic| (k_here; refine Stop.out ?_))
local macro_rules | `(tactic| walk_at "exec For Name Call cons nil") => `(tactic| (k_here; refine Stop.out ?_))
local macro_rules | `(tactic| walk_at "exec For Name Name cons nil") => `(tactic| (k_here; refine Stop.out ?_))
local macro_rules | `(tactic| walk_at "exec For Tuple Call cons nil") => `(tactic| (k_here; refine Stop.out ?_))
local macro_rules | `(tactic| walk_at "exec For Tuple Call cons nil cons nil") => `(tactic| (k_here; refine Stop.out ?_))
local macro_rules | `(tactic| walk_at "LEN9") => `(tactic| first | with_reducible assumption | exact n_le9 (by with_reducible assumption))
local macro_rules | `(tactic| walk_at "IDXN") => `(tactic| first
  | with_reducible assumption
  | exact within_hi (by with_reducible assumption) (by with_reducible assumption)
  | exact idx_hi (by with_reducible assumption)
  | exact range_hi (by with_reducible assumption)
  | exact fmods_hi (by with_reducible assumption) (by omega))
local macro_rules | `(tactic| walk_at "IDX") => `(tactic| first
  | with_reducible assumption
  | exact within_lo (by with_reducible assumption) (by with_reducible assumption)
  | exact range_lo (by with_reducible assumption)
  | exact fmods_lo (by with_reducible assumption) (by omega)
  | walk_at "IDXN"
  | (law_purse 20000 => omega))
local macro_rules | `(tactic| walk_at "IDXF") => `(tactic| first | exact idx_fit (by walk_at "IDXN") (by walk_at "LEN9") | (law_purse 20000 => omega))
local macro_rules | `(tactic| walk_at "setItem ref int") => `(tactic| (k_here; (with_reducible show wpAny _ _ (setItem (Value.ref _) (Value.int _ _) (Value.int _ _)) _ _ _); k_dflt (refine' ksa_set ?k1 ?k2 ?k3 ?k4 ?k5 ?k6 ?k7 ?_; (case k1 => k_asm); (case k2 => k_asm); (case k3 => k_upd); (case k4 => with_reducible assumption); (case k5 => walk_at "IDX"); (case k6 => walk_at "IDX"); (case k7 => walk_at "IDXF"); k_whole); intro h' F' N' hi' hl' hs'; (try k_sweep)))
local macro_rules | `(tactic| walk_at "getItem ref int") => `(tactic| (k_here; (with_reducible show wpAny _ _ (getItem (Value.ref _) (Value.int _ _)) _ _ _); k_dflt (refine' ksa_get ?k1 ?k2 ?k3 ?k4 ?k5 ?k6 ?_; (case k1 => k_asm); (case k2 => k_mem); (case k3 => with_reducible assumption); (case k4 => walk_at "IDX"); (case k5 => walk_at "IDX"); (case k6 => walk_at "IDXF"); k_whole); intro _))
local macro_rules | `(tactic| walk_at "SUB") => `(tactic| (k_here; (with_reducible show wpAny _ _ (subscriptTail _ _ (Value.ref _) (Value.int _ _)) _ _ _); k_dflt (refine' ksa_sub ?k1 ?k2 ?k3 ?k4 ?k5 ?k6 ?_ ?k7; (case k1 => k_asm); (case k2 => k_mem); (case k3 => with_reducible assumption); (case k4 => walk_at "IDX"); (case k5 => walk_at "IDX"); (case k6 => walk_at "IDXF"); (case k7 => with_unfolding_all rfl); k_whole); intro _))
local macro_rules | `(tactic| walk_at "subscriptTail Name Name ref int") => `(tactic| first | walk_at "SUB" | (k_here; refine Stop.out ?_))
local macro_rules | `(tactic| walk_at "subscriptTail Attribute") => `(tactic| first | walk_at "SUB" | (k_here; refine Stop.out ?_))
local macro_rules | `(tactic| walk_at "subscriptTail Attribute Name") => `(tactic| first | walk_at "SUB" | (k_here; refine Stop.out ?_))
local macro_rules | `(tactic| walk_at "subscriptTail Attribute Name ref") => `(tactic| first | walk_at "SUB" | (k_here; refine Stop.out ?_))
local macro_rules | `(tactic| walk_at "subscriptTail Attribute Name Name") => `(tactic| first | walk_at "SUB" | (k_here; refine Stop.out ?_))
local macro_rules | `(tactic| walk_at "subscriptTail Attribute Name Name ref int") => `(tactic| first | walk_at "SUB" | (k_here; refine Stop.out ?_))
local macro_rules | `(tactic| walk_at "subscriptTail Attribute Name Name ref") => `(tactic| first | walk_at "SUB" | (k_here; refine Stop.out ?_))
local macro_rules | `(tactic| walk_at "subscriptTail Attribute Name ref int") => `(tactic| first | walk_at "SUB" | (k_here; refine Stop.out ?_))
local macro_rules | `(tactic| walk_at "subscriptTail") => `(tactic| first | walk_at "SUB" | (k_here; refine Stop.out ?_))
local macro_rules | `(tactic| walk_at "call type:enumerate") => `(tactic| (k_here; refine Stop.out ?_))
local macro_rules | `(tactic| walk_at "TurnQ") => `(tactic| dsimp only [TurnQ])
local macro_rules | `(tactic| walk_at "exec Raise some none") => `(tactic| (k_here; refine Stop.out ?_))
local macro_rules | `(tactic| walk_at "RAISE") => `(tactic| (k_here; k_dflt (refine' Raise_madeB PySem.F.excCall_OverflowError PySem.F.excRaise_OverflowError ?hh ?hx; (case hh => rfl))))
local macro_rules | `(tactic| walk_at "leaving ref") => `(tactic| (k_here; k_dflt (refine' raise_any ?k1 ?f ?kk ?k0 ?k2 ?k3 ?_; (case f => exact rfl); (case kk => exact rfl); (case k0 => exact Heap.MadeExc.of (by assumption)); (case k1 => assumption); (case k2 => assumption); (case k3 => k_asm); k_whole); intro h' t' R' U'; (try dsimp only at R' U' ⊢); refine Stop.out ?_))
local macro_rules | `(tactic| k_room) => `(tactic| ktr_room)
local macro_rules | `(tactic| walk_at "ENTER C") => `(tactic| (refine' code_defC ?k1 ?k2 ?k3 ?k4 ?k5 ?kA ?kF ?kK ?k6 ?k7 ?k8 ?k9 ?kB ?kD ?_ ?c2 ?c3 ?c4; (case kA => exact rfl); (case kF => exact rfl); (case kK => assumption); (case k1 => k_asm); (case k2 => k_asm); (case k3 => k_asm); (case k4 => k_asm); (case k5 => k_asm); (case k6 => k_is); (case k7 => k_is); (case k8 => ktr_room); (case k9 => first | exact BindsTo.of_eq rfl | exact binds_K (by k_in) rfl (by k_is) rfl rfl rfl | fail "k_enter: no rule for these arguments"); (case kB => exact rfl); (case kD => decide +kernel); (case c2 => exact rfl); (case c3 => exact rfl); (case c4 => exact rfl); k_whole; intro g' L' h' tk' cells' FG' F' N' Y' B' X' T' l1; (try k_lt l1); k_cells Y'; (try simp only [List.cons_append, List.nil_append] at N'); (try dsimp only); (try k_lift B'); (try k_fold)))
local macro_rules | `(tactic| walk_at "TurnQ") => `(tactic| dsimp only [TurnQ])
local macro_rules | `(tactic| walk_at "ENTER P") => `(tactic| (refine' code_def ?k1 ?k2 ?k3 ?k4 ?k5 ?kA ?kF ?kK ?k6 ?k7 ?k8 ?k9 ?kB ?_ ?c2 ?c3 ?c4 ?c5; (case kA => exact rfl); (case kF => exact rfl); (case kK => assumption); (case k1 => k_asm); (case k2 => k_asm); (case k3 => k_asm); (case k4 => k_asm); (case k5 => k_asm); (case k6 => k_is); (case k7 => k_is); (case k8 => ktr_room); (case k9 => first | exact BindsTo.of_eq rfl | exact binds_K (by k_in) rfl (by k_is) rfl rfl rfl | fail "k_enter: no rule for these arguments"); (case c5 => decide); (case kB => exact locs rfl); (case c2 => exact rfl); (case c3 => exact rfl); (case c4 => exact rfl); k_whole; intro g' L' h' FG' F' N' B' X' T'; (try dsimp only); (try k_lift B'); (try k_fold)))
/-- the loop of a take -/
theorem rem_loop {prog : Program} {w : World} {A : Around} {E : Value → Shared → Prop} {s : Shared} {env : Env} {h₀ : Heap} {L : Addr} {x : Str} {body : List Stmt} {Q : Flow → Shared → Prop} {D D' bl dx lp : Addr} {nc : Nat} {od ol : Obj}
    {m₀ : Str → Option Value} {rest : List (Addr × Obj)} {c1 c2 ox : Addr × Obj} {ys zs cv : List Value} {pl cells : List Int} {tt : Int}
    (hL : env.locals = L) (hh : A.handled = none)
    (F : Fr h₀ L s.heap m₀) (N : News h₀ L s.heap ((D, LCg.lst zs) :: (D', LCg.lst ys) :: c1 :: c2 :: ox :: (dx, od) :: (bl, listOf cv.toArray nc) :: (lp, ol) :: rest))
    (hoff0 : OwnOff rest [ox.1, dx, bl]) (ho' : c1.1 ≠ D' ∧ c2.1 ≠ D' ∧ ox.1 ≠ D' ∧ dx ≠ D' ∧ bl ≠ D' ∧ lp ≠ D' ∧ LCg.Off1 D' rest)
    (hb1 : @Ne Nat c1.1 bl) (hb2 : @Ne Nat c2.1 bl) (hb4 : @Ne Nat ox.1 bl) (hb5 : @Ne Nat dx bl) (hb6 : @Ne Nat lp bl)
    (hc : IntsAre cv cells) (hI1 : IntsAre ys pl) (hcb : InTop cells)
    (turn : ∀ n post c cv' t h tk own, n ∈ pl → (∀ q ∈ rest ++ own, q.1 ≠ bl) → @Ne Nat D' bl → @Ne Nat c1.1 bl → @Ne Nat c2.1 bl → @Ne Nat ox.1 bl → @Ne Nat dx bl → @Ne Nat lp bl → IntsAre cv' c →
      lowGo tt c (n :: post) = lowGo tt cells pl → c.length = cells.length → InTop c → Fr h₀ L h (fun y => if y = x then some (.int n t) else m₀ y) →
      News h₀ L h ((bl, listOf cv'.toArray nc) :: (D', LCg.lst ys) :: c1 :: c2 :: ox :: (dx, od) :: (lp, ol) :: (rest ++ own)) →
      wpAny (model prog w) A (execs body env) (TurnQ h₀ L (fun m' nx => ∃ cv' c', nx = (bl, listOf cv'.toArray nc) :: (D', LCg.lst ys) :: c1 :: c2 :: ox :: (dx, od) :: (lp, ol) :: rest ∧ IntsAre cv' c' ∧ (∀ z, z ≠ x → m' z = m₀ z) ∧
        lowGo tt c' post = lowGo tt cells pl ∧ c'.length = cells.length ∧ InTop c') own s Q) E { s with heap := h, toks := tk })
    (done : ∀ c cv' (u : Str → Option Value) h tk, IntsAre cv' c → (c, true) = lowGo tt cells pl → c.length = cells.length → InTop c → Fr h₀ L h (fun y => if y = x then u y else m₀ y) →
      News h₀ L h ((bl, listOf cv'.toArray nc) :: (D', LCg.lst ys) :: c1 :: c2 :: ox :: (dx, od) :: (lp, ol) :: rest) → Q .next { s with heap := h, toks := tk }) :
    wpAny (model prog w) A (pyIter (.ref D')) (fun it s₂ => LoopAtV prog w A h₀ env x body Q E it s₂) E s := by
  refine iter_cells (l := D') (nn := ys.length) (lc := bl) (nc := nc) (tl := (D', LCg.lst ys) :: c1 :: c2 :: ox :: (dx, od) :: (lp, ol) :: rest) (fun pre c => (∀ post, pl = pre ++ post → lowGo tt c post = lowGo tt cells pl) ∧ c.length = cells.length ∧ InTop c) hL hh hI1 hc F N ?_ (.head _) ⟨fun post e => by rw [e]; rfl, rfl, hcb⟩ ?_ ?_
  · intro p hp
    simp only [List.mem_cons] at hp ⊢
    rcases hp with h | h | h | h | h | h | h | h <;> simp [h]
  · rintro pre n post t c cv' h tk own hpre hn hoff hi' ⟨hgo, hcl, hct⟩ F' N'
    refine wpAny_mono (turn n post c cv' t h tk own hn (all_app (hoff0.ne (by simp)) (hoff.ne (by simp))) (Ne.symm ho'.2.2.2.2.1) hb1 hb2 hb4 hb5 hb6 hi' (hgo _ hpre) hcl hct F' N') (fun f s₂ p => ?_) fun _ _ z => z
    have up : ∀ {own : List (Addr × Obj)}, TurnEnd h₀ L (fun m' nx => ∃ cv' c', nx = (bl, listOf cv'.toArray nc) :: (D', LCg.lst ys) :: c1 :: c2 :: ox :: (dx, od) :: (lp, ol) :: rest ∧ IntsAre cv' c' ∧ (∀ z, z ≠ x → m' z = m₀ z) ∧
        lowGo tt c' post = lowGo tt cells pl ∧ c'.length = cells.length ∧ InTop c') own s s₂ → TurnEnd h₀ L (fun m' nx => ∃ cv' c', nx = (bl, listOf cv'.toArray nc) :: (D', LCg.lst ys) :: c1 :: c2 :: ox :: (dx, od) :: (lp, ol) :: rest ∧ IntsAre cv' c' ∧ (∀ z, z ≠ x → m' z = m₀ z) ∧
        (∀ post, pl = pre ++ [n] ++ post → lowGo tt c' post = lowGo tt cells pl) ∧ c'.length = cells.length ∧ InTop c') own s s₂ := by
      rintro own ⟨h', tk', m', nx, e, F₂, N₂, cv₂, c₂, e2, i2, m2, g2, l2, t2⟩
      exact ⟨h', tk', m', nx, e, F₂, N₂, cv₂, c₂, e2, i2, m2, go_next hpre g2, l2, t2⟩
    cases f with
    | ret v => exact p
    | brk => exact p
    | next => exact up p
    | cont => exact up p
  · rintro u c cv' h tk hi' ⟨hgo, hcl, hct⟩ F' N'
    exact done c cv' u h tk hi' (hgo [] (by simp)) hcl hct F' N'
theorem rem_c {w : World} {loose : List Str} {mean : ExcName → Option Value} {mg mb : Str → Option Value}
   (dp un : Nat) (gd : Option (List Code)) (cn : Str) (cs : Scope) (a : Addr) (ccd : Value) (cl : List (Str × Addr)) (outer : List Env) (A₀ : Around) (base h₀ : Heap) (L : Addr) (m : Str → Option Value) (s : Shared) (Q E : Value → Shared → Prop)
   (x dx bl lp : Addr) (cv pv : List Value) (nc np : Nat) (cells ks : List Int) (els amt : Int) (t t6 : Tok) (c : CM) (rest : List (Addr × Obj))
   (B : Below A₀ base outer h₀) (F : Fr h₀ L s.heap m) (X : (hd.heap_39 w.params).In h₀) (T : Top topProg loose mean mg mb h₀) (hk : cs.kind = .function) (hd : dp + 3 < recursionLimit) (hu : un + 24 < cLine)
   (N : News h₀ L s.heap ((x, instObj 396 dx) :: (dx, dictOf (c.ents els t6 bl) 12) :: (bl, listOf cv.toArray nc) :: (lp, listOf pv.toArray np) :: rest))
   (hc : IntsAre cv cells) (hp : IntsAre pv ks) (hord : @Ne Nat dx x ∧ @Ne Nat dx bl ∧ @Ne Nat dx lp ∧ @Ne Nat x bl ∧ @Ne Nat x lp ∧ @Ne Nat bl lp) (hoff : OwnOff rest [x, dx, bl])
   (hdep : c.depth = (ks.length : Int)) (hbit : c.bits = (cells.length : Int)) (hlen : ks.length ≤ 3) (hlen0 : 0 < ks.length) (hclen : cells.length ≤ 9) (hclen0 : 0 < cells.length)
   (hcb : InTop cells) (hbits : Small amt)
   (hexc : ∀ g h' e te vs tk' cv' c', Fr h₀ L g m → RaisedS base g (envX cn cs L a ccd cl :: outer) e (.type "OverflowError") te vs ((x, instObj 396 dx) :: (dx, dictOf (c.ents els t6 bl) 12) :: (bl, listOf cv'.toArray nc) :: (lp, listOf pv.toArray np) :: rest) h' → g.UpToSlots h' →
     IntsAre cv' c' → lowered cells (ks.map fun k => Int.fmod k (cells.length : Int)) amt = (c', none) → E (.ref e) { s with heap := h', toks := tk' })
   (hret : ∀ h' tk' cv' c' els' t6' v tv tk0, Fr h₀ L h' m → News h₀ L h' ((x, instObj 396 dx) :: (dx, dictOf (c.ents els' t6' bl) 12) :: (bl, listOf cv'.toArray nc) :: (lp, listOf pv.toArray np) :: rest) →
     IntsAre cv' c' → lowered cells (ks.map fun k => Int.fmod k (cells.length : Int)) amt = (c', some (v, tk0)) → els' = els - tk0 → Q (.int v tv) { s with heap := h', toks := tk' }) :
   wpAny (model Challenge.rw_db5010_01.row.prog w) (ktrTop dp un gd cn cs L a ccd cl outer) (call (.ref 372) [.ref x, .ref lp, .int amt t]) Q E s := by
  obtain ⟨g0, g1, g2, g3, g4, g5, g6, g7, g8, g9, g10, g11, k0, k1, k2, k3, k4, k5, k6, k7, k8, k9, k10, k11, v0, v1, v2, v3, v5, v9, t4, t7, t8, bits, depth, fn⟩ := c
  dsimp only [CM.ents] at N hexc hret hdep hbit
  subst hbit hdep
  obtain ⟨q1, q2, q3, q4, q5, q6⟩ := hord
  have q7 := q1.symm
  have q8 := q2.symm
  have q9 := q3.symm
  have q10 := q4.symm
  have q11 := q5.symm
  have q12 := q6.symm
  (w_top off; revert X; k_fill; intro X)
  refine wpAny_call ?_
  k_dflt (walk_at "ENTER C")
  k_steps
  all_goals (
    have e := map_range (fun k => Int.fmod k (cells.length : Int)) ks
    simp only [e] at *
    generalize hpl : List.map (fun k => Int.fmod k (cells.length : Int)) ks = places at *
    have hplen : places.length = ks.length := by rw [← hpl, List.length_map]
    have hpw : Within places cells.length := by
      rw [← hpl]
      intro k hk
      obtain ⟨a, _, rfl⟩ := List.mem_map.mp hk
      exact ⟨fmod_lo _ (by omega), fmod_hi _ (by omega)⟩
    clear e hpl
    (rename _ ∈ List.map _ places => hm1); (rename ∀ a, a ∈ List.map _ places → _ => hm2)
    have hM : _ = leastAt cells places := mn_of hm1 hm2
    subst hM)
  · (rename News h₀ L _ _ => kN); (rename Fr h₀ L _ m => kF); rename leastAt cells places = 4294967295 => hz
    exact hret _ _ _ _ els _ _ _ 0 kF (news_sub kN (sub_one (sub_one (sub_one (sub_one sub_refl))))) hc (by rw [lowered_stop rfl (.inl hz), hz]) (by omega)
  · (rename News h₀ L _ _ => kN); (rename Fr h₀ L _ m => kF); rename leastAt cells places = 0 => hz
    exact hret _ _ _ _ els _ _ _ 0 kF (news_sub kN (sub_one (sub_one (sub_one (sub_one sub_refl))))) hc (by rw [lowered_stop rfl (.inr hz), hz]) (by omega)
  all_goals (
    refine Stop.go ?_
    (rename Fr _ _ _ _ => lF'); (rename News _ _ _ _ => lN')
    rename IntsAre _ places => hI1
    rename _ ≠ (4294967295 : Int) => hz1
    rename _ ≠ (0 : Int) => hz2
    refine For_invVF lF' (by exact rfl) (by exact rfl) ?_
    walk1)
  · (rename amt < _ => hlt)
    have ht : amt = min amt (leastAt cells places) := by omega
    refine rem_loop (tt := amt) (pl := places) (cells := cells) (by rfl) (by rfl) lF' lN' hoff (by assumption) (by dsimp only; omega) (by dsimp only; omega) (by dsimp only; omega) (by omega) (by omega) hc hI1 hcb ?_ ?_
    · rintro n post c cv' t h tk own hn hrb e1 e2 e3 e4 e5 e6 hc' hgo hcl hct F' N'
      clear lF' lN'
      repeat (rename _ ∧ _ => hx; clear hx)
      dsimp only at e2 e3 e4
      have hn0 := hpw.lo hn
      have hn1 := hpw.hi hn
      rw [← hcl] at hn1
      have hcl9 : c.length ≤ 9 := by rw [hcl]; exact hclen
      have hb := hct.at hn0 hn1
      k_steps
      · exact turn_end (by assumption) ⟨(lowGo_put2 (by with_reducible assumption) (by with_reducible assumption) (by with_reducible assumption)).symm.trans hgo, (put_len ..).trans hcl, hct.put ⟨by with_reducible assumption, by with_reducible assumption⟩⟩ (by assumption) (by assumption)
      · refine Stop.go ?_
        walk_at "RAISE"
        k_steps
        refine Stop.go ?_
        exact hexc _ _ _ _ _ _ _ _ (by assumption) (raised_sub (by assumption) sub_rem) (by assumption) hc' (lowered_noneT rfl hz1 hz2 ht ((lowGo_hi (by with_reducible assumption) (by with_reducible assumption)).symm.trans hgo))
      · refine Stop.go ?_
        walk_at "RAISE"
        k_steps
        refine Stop.go ?_
        exact hexc _ _ _ _ _ _ _ _ (by assumption) (raised_sub (by assumption) sub_rem) (by assumption) hc' (lowered_noneT rfl hz1 hz2 ht ((lowGo_lo (by with_reducible assumption) (by with_reducible assumption)).symm.trans hgo))
      · exact turn_end hc' ⟨(lowGo_full hb (by with_reducible assumption)).symm.trans hgo, hcl, hct⟩ (by assumption) (by assumption)
    · rintro c cv' u h tk hc' hgo hcl hct F' N'
      clear lF' lN'
      k_steps
      (rename News h₀ L _ _ => kN); (rename Fr h₀ L _ m => kF)
      exact hret _ _ _ _ _ _ _ _ _ kF (news_sub kN sub_rem') hc' (lowered_someT rfl hz1 hz2 ht hgo) rfl
  · (rename ¬ amt < _ => hlt)
    have ht : leastAt cells places = min amt (leastAt cells places) := by omega
    refine rem_loop (tt := leastAt cells places) (pl := places) (cells := cells) (by rfl) (by rfl) lF' lN' hoff (by assumption) (by dsimp only; omega) (by dsimp only; omega) (by dsimp only; omega) (by omega) (by omega) hc hI1 hcb ?_ ?_
    · rintro n post c cv' t h tk own hn hrb e1 e2 e3 e4 e5 e6 hc' hgo hcl hct F' N'
      clear lF' lN'
      repeat (rename _ ∧ _ => hx; clear hx)
      dsimp only at e2 e3 e4
      have hn0 := hpw.lo hn
      have hn1 := hpw.hi hn
      rw [← hcl] at hn1
      have hcl9 : c.length ≤ 9 := by rw [hcl]; exact hclen
      have hb := hct.at hn0 hn1
      k_steps
      · exact turn_end (by assumption) ⟨(lowGo_put2 (by with_reducible assumption) (by with_reducible assumption) (by with_reducible assumption)).symm.trans hgo, (put_len ..).trans hcl, hct.put ⟨by with_reducible assumption, by with_reducible assumption⟩⟩ (by assumption) (by assumption)
      · refine Stop.go ?_
        walk_at "RAISE"
        k_steps
        refine Stop.go ?_
        exact hexc _ _ _ _ _ _ _ _ (by assumption) (raised_sub (by assumption) sub_rem) (by assumption) hc' (lowered_noneT rfl hz1 hz2 ht ((lowGo_hi (by with_reducible assumption) (by with_reducible assumption)).symm.trans hgo))
      · refine Stop.go ?_
        walk_at "RAISE"
        k_steps
        refine Stop.go ?_
        exact hexc _ _ _ _ _ _ _ _ (by assumption) (raised_sub (by assumption) sub_rem) (by assumption) hc' (lowered_noneT rfl hz1 hz2 ht ((lowGo_lo (by with_reducible assumption) (by with_reducible assumption)).symm.trans hgo))
      · exact turn_end hc' ⟨(lowGo_full hb (by with_reducible assumption)).symm.trans hgo, hcl, hct⟩ (by assumption) (by assumption)
    · rintro c cv' u h tk hc' hgo hcl hct F' N'
      clear lF' lN'
      k_steps
      (rename News h₀ L _ _ => kN); (rename Fr h₀ L _ m => kF)
      exact hret _ _ _ _ _ _ _ _ _ kF (news_sub kN sub_rem') hc' (lowered_someT rfl hz1 hz2 ht hgo) rfl
end Mine
namespace Mine
set_option maxRecDepth 100000
set_option maxHeartbeats 1000000
local macro_rules | `(tactic| l_idx) => `(tactic| first | exact within_lo (by with_reducible assumption) (by with_reducible assumption) | exact within_hi (by with_reducible assumption) (by with_reducible assumption) | (refine Int.lt_of_lt_of_le (within_hi (by with_reducible assumption) (by with_reducible assumption)) ?_; omega))
local macro_rules | `(tactic| k_ne) => `(tactic| (refine neN ?_; (try dsimp only); with_reducible assumption))
local macro_rules | `(tactic| k_all) => `(tactic| with_reducible assumption)
local macro_rules | `(tactic| k_all) => `(tactic| first | (refine all_app ?ka ?kb; (case ka => k_all); (case kb => k_all)) | exact rest_ne (by tbn_find) (by (try dsimp only); omega) | exact OwnOff.ne (by assumption) (by k_memK))
local macro_rules | `(tactic| walk_at "exec For") => `(tactic| (k_here; refine Stop.out ?_))
local macro_rules | `(tactic| walk_at "exec For Name Call cons nil") => `(tactic| (k_here; refine Stop.out ?_))
local macro_rules | `(tactic| walk_at "exec For Name Name cons nil") => `(tactic| (k_here; refine Stop.out ?_))
local macro_rules | `(tactic| walk_at "exec For Tuple Call cons nil") => `(tactic| (k_here; refine Stop.out ?_))
local macro_rules | `(tactic| walk_at "exec For Tuple Call cons nil cons nil") => `(tactic| (k_here; refine Stop.out ?_))
local macro_rules | `(tactic| walk_at "LEN9") => `(tactic| first | with_reducible assumption | exact n_le9 (by with_reducible assumption))
local macro_rules | `(tactic| walk_at "IDXN") => `(tactic| first
  | with_reducible assumption
  | exact within_hi (by with_reducible assumption) (by with_reducible assumption)
  | exact idx_hi (by with_reducible assumption)
  | exact range_hi (by with_reducible assumption)
  | exact fmods_hi (by with_reducible assumption) (by omega))
local macro_rules | `(tactic| walk_at "IDX") => `(tactic| first
  | with_reducible assumption
  | exact within_lo (by with_reducible assumption) (by with_reducible assumption)
  | exact range_lo (by with_reducible assumption)
  | exact fmods_lo (by with_reducible assumption) (by omega)
  | walk_at "IDXN"
  | (law_purse 20000 => omega))
local macro_rules | `(tactic| walk_at "IDXF") => `(tactic| first | exact idx_fit (by walk_at "IDXN") (by walk_at "LEN9") | (law_purse 20000 => omega))
local macro_rules | `(tactic| walk_at "setItem ref int") => `(tactic| (k_here; (with_reducible show wpAny _ _ (setItem (Value.ref _) (Value.int _ _) (Value.int _ _)) _ _ _); k_dflt (refine' ksa_set ?k1 ?k2 ?k3 ?k4 ?k5 ?k6 ?k7 ?_; (case k1 => k_asm); (case k2 => k_asm); (case k3 => k_upd); (case k4 => with_reducible assumption); (case k5 => walk_at "IDX"); (case k6 => walk_at "IDX"); (case k7 => walk_at "IDXF"); k_whole); intro h' F' N' hi' hl' hs'; (try k_sweep)))
local macro_rules | `(tactic| walk_at "getItem ref int") => `(tactic| (k_here; (with_reducible show wpAny _ _ (getItem (Value.ref _) (Value.int _ _)) _ _ _); k_dflt (refine' ksa_get ?k1 ?k2 ?k3 ?k4 ?k5 ?k6 ?_; (case k1 => k_asm); (case k2 => k_mem); (case k3 => with_reducible assumption); (case k4 => walk_at "IDX"); (case k5 => walk_at "IDX"); (case k6 => walk_at "IDXF"); k_whole); intro _))
local macro_rules | `(tactic| walk_at "SUB") => `(tactic| (k_here; (with_reducible show wpAny _ _ (subscriptTail _ _ (Value.ref _) (Value.int _ _)) _ _ _); k_dflt (refine' ksa_sub ?k1 ?k2 ?k3 ?k4 ?k5 ?k6 ?_ ?k7; (case k1 => k_asm); (case k2 => k_mem); (case k3 => with_reducible assumption); (case k4 => walk_at "IDX"); (case k5 => walk_at "IDX"); (case k6 => walk_at "IDXF"); (case k7 => with_unfolding_all rfl); k_whole); intro _))
local macro_rules | `(tactic| walk_at "subscriptTail Name Name ref int") => `(tactic| first | walk_at "SUB" | (k_here; refine Stop.out ?_))
local macro_rules | `(tactic| walk_at "subscriptTail Attribute") => `(tactic| first | walk_at "SUB" | (k_here; refine Stop.out ?_))
local macro_rules | `(tactic| walk_at "subscriptTail Attribute Name") => `(tactic| first | walk_at "SUB" | (k_here; refine Stop.out ?_))
local macro_rules | `(tactic| walk_at "subscriptTail Attribute Name ref") => `(tactic| first | walk_at "SUB" | (k_here; refine Stop.out ?_))
local macro_rules | `(tactic| walk_at "subscriptTail Attribute Name Name") => `(tactic| first | walk_at "SUB" | (k_here; refine Stop.out ?_))
local macro_rules | `(tactic| walk_at "subscriptTail Attribute Name Name ref int") => `(tactic| first | walk_at "SUB" | (k_here; refine Stop.out ?_))
local macro_rules | `(tactic| walk_at "subscriptTail Attribute Name Name ref") => `(tactic| first | walk_at "SUB" | (k_here; refine Stop.out ?_))
local macro_rules | `(tactic| walk_at "subscriptTail Attribute Name ref int") => `(tactic| first | walk_at "SUB" | (k_here; refine Stop.out ?_))
local macro_rules | `(tactic| walk_at "subscriptTail") => `(tactic| first | walk_at "SUB" | (k_here; refine Stop.out ?_))
local macro_rules | `(tactic| walk_at "call type:enumerate") => `(tactic| (k_here; refine Stop.out ?_))
local macro_rules | `(tactic| walk_at "TurnQ") => `(tactic| dsimp only [TurnQ])
local macro_rules | `(tactic| walk_at "exec Raise some none") => `(tactic| (k_here; refine Stop.out ?_))
local macro_rules | `(tactic| walk_at "RAISE") => `(tactic| (k_here; k_dflt (refine' Raise_madeB PySem.F.excCall_OverflowError PySem.F.excRaise_OverflowError ?hh ?hx; (case hh => rfl))))
local macro_rules | `(tactic| walk_at "leaving ref") => `(tactic| (k_here; k_dflt (refine' raise_any ?k1 ?f ?kk ?k0 ?k2 ?k3 ?_; (case f => exact rfl); (case kk => exact rfl); (case k0 => exact Heap.MadeExc.of (by assumption)); (case k1 => assumption); (case k2 => assumption); (case k3 => k_asm); k_whole); intro h' t' R' U'; (try dsimp only at R' U' ⊢); refine Stop.out ?_))
local macro_rules | `(tactic| k_room) => `(tactic| ktr_room)
local macro_rules | `(tactic| walk_at "pyIter ref") => `(tactic| (k_here; refine Stop.out ?_))
local macro_rules | `(tactic| walk_at "CompSrcT") => `(tactic| (k_here; refine Stop.out ?_))
local macro_rules | `(tactic| walk_at "ENTER C") => `(tactic| (refine' code_defC ?k1 ?k2 ?k3 ?k4 ?k5 ?kA ?kF ?kK ?k6 ?k7 ?k8 ?k9 ?kB ?kD ?_ ?c2 ?c3 ?c4; (case kA => exact rfl); (case kF => exact rfl); (case kK => assumption); (case k1 => k_asm); (case k2 => k_asm); (case k3 => k_asm); (case k4 => k_asm); (case k5 => k_asm); (case k6 => k_is); (case k7 => k_is); (case k8 => ktr_room); (case k9 => first | exact BindsTo.of_eq rfl | exact binds_K (by k_in) rfl (by k_is) rfl rfl rfl | fail "k_enter: no rule for these arguments"); (case kB => exact rfl); (case kD => decide +kernel); (case c2 => exact rfl); (case c3 => exact rfl); (case c4 => exact rfl); k_whole; intro g' L' h' tk' cells' FG' F' N' Y' B' X' T' l1; (try k_lt l1); k_cells Y'; (try simp only [List.cons_append, List.nil_append] at N'); (try dsimp only); (try k_lift B'); (try k_fold)))
local macro_rules | `(tactic| walk_at "TurnQ") => `(tactic| dsimp only [TurnQ])
local macro_rules | `(tactic| walk_at "ENTER P") => `(tactic| (refine' code_def ?k1 ?k2 ?k3 ?k4 ?k5 ?kA ?kF ?kK ?k6 ?k7 ?k8 ?k9 ?kB ?_ ?c2 ?c3 ?c4 ?c5; (case kA => exact rfl); (case kF => exact rfl); (case kK => assumption); (case k1 => k_asm); (case k2 => k_asm); (case k3 => k_asm); (case k4 => k_asm); (case k5 => k_asm); (case k6 => k_is); (case k7 => k_is); (case k8 => ktr_room); (case k9 => first | exact BindsTo.of_eq rfl | exact binds_K (by k_in) rfl (by k_is) rfl rfl rfl | fail "k_enter: no rule for these arguments"); (case c5 => decide); (case kB => exact locs rfl); (case c2 => exact rfl); (case c3 => exact rfl); (case c4 => exact rfl); k_whole; intro g' L' h' FG' F' N' B' X' T'; (try dsimp only); (try k_lift B'); (try k_fold)))
/-- the loop of the law's add -/
theorem rai_loop {prog : Program} {w : World} {A : Around} {E : Value → Shared → Prop} {s : Shared} {env : Env} {h₀ : Heap} {L : Addr} {x xm : Str} {body : List Stmt} {Q : Flow → Shared → Prop} {D aP lc lp r : Addr} {nc : Nat} {oD oP ol : Obj} {t₀ u₀ v₀ : Tok}
    {m₀ : Str → Option Value} {rest : List (Addr × Obj)} {c2 c3 : Addr × Obj} {cv : List Value} {pl cells : List Int} {amt : Int} {vP : Option Value}
    (hL : env.locals = L) (hh : A.handled = none) (hr : IsRange s.heap r 0 (pl.length : Int) 1 t₀ u₀ v₀) (hsmall : Builtin.Range.small 0 (pl.length : Int) 1 = true) (hn : Builtin.Range.rangeSize 0 (pl.length : Int) 1 = (pl.length : Int)) (hxm : xm ≠ x)
    (F : Fr h₀ L s.heap m₀) (N : News h₀ L s.heap ((D, oD) :: (aP, oP) :: c2 :: c3 :: (lc, listOf cv.toArray nc) :: (lp, ol) :: rest)) (hoP : oP.data = .cell vP) (hpw : Within pl cells.length)
    (hc : IntsAre cv cells) (hcb : InTop cells)
    (turn : ∀ (i : Nat) p c cv' op vp (u : Str → Option Value) t h tk own, pl[i]? = some p → p ∈ pl → (i : Int) < (pl.length : Int) → OwnOff own [D, aP, c2.1, c3.1, lc, lp] → op.data = .cell vp → IntsAre cv' c →
      addGo cells amt c (p :: pl.drop (i + 1)) = addGo cells amt cells pl → Moved cells amt (pl.take i) c → c.length = cells.length → InTop c → Fr h₀ L h (fun y => if y = x then some (.int (i : Int) t) else if y = xm then u y else m₀ y) →
      News h₀ L h ((D, oD) :: (aP, op) :: c2 :: c3 :: (lc, listOf cv'.toArray nc) :: (lp, ol) :: (rest ++ own)) →
      wpAny (model prog w) A (execs body env) (TurnQ h₀ L (fun m' nx => ∃ op vp cv' c', nx = (D, oD) :: (aP, op) :: c2 :: c3 :: (lc, listOf cv'.toArray nc) :: (lp, ol) :: rest ∧ op.data = Data.cell vp ∧ IntsAre cv' c' ∧ (∀ z, z ≠ x → z ≠ xm → m' z = m₀ z) ∧
        addGo cells amt c' (pl.drop (i + 1)) = addGo cells amt cells pl ∧ Moved cells amt (pl.take (i + 1)) c' ∧ c'.length = cells.length ∧ InTop c') own s Q) E { s with heap := h, toks := tk })
    (done : ∀ c cv' op vp (u : Str → Option Value) h tk, op.data = .cell vp → IntsAre cv' c → (c, true) = addGo cells amt cells pl → c.length = cells.length → InTop c → Fr h₀ L h (fun y => if y = x then u y else if y = xm then u y else m₀ y) →
      News h₀ L h ((D, oD) :: (aP, op) :: c2 :: c3 :: (lc, listOf cv'.toArray nc) :: (lp, ol) :: rest) → Q .next { s with heap := h, toks := tk }) :
    wpAny (model prog w) A (pyIter (.ref r)) (fun it s₂ => LoopAtV prog w A h₀ env x body Q E it s₂) E s := by
  refine my_range (fun i m' nx => ∃ op vp cv' c', nx = (D, oD) :: (aP, op) :: c2 :: c3 :: (lc, listOf cv'.toArray nc) :: (lp, ol) :: rest ∧ op.data = Data.cell vp ∧ IntsAre cv' c' ∧ (∀ z, z ≠ x → z ≠ xm → m' z = m₀ z) ∧
        addGo cells amt c' (pl.drop i) = addGo cells amt cells pl ∧ Moved cells amt (pl.take i) c' ∧ c'.length = cells.length ∧ InTop c') hL hh hr hsmall hn F N ⟨oP, vP, cv, cells, rfl, hoP, hc, fun _ _ _ => rfl, rfl, Moved.nil _ _, rfl, hcb⟩ ?_ ?_ ?_
  · rintro i m nx ⟨op, vp, cv', c', rfl, _⟩
    rfl
  · rintro i t m₁ nx h tk own hi hoff ⟨op, vp, cv', c, rfl, hop, hi', hm, hgo, hmv, hcl, hct⟩ F₁ N₁
    obtain ⟨p, hp⟩ : ∃ p, pl[i]? = some p := ⟨pl[i], by simp [hi]⟩
    refine turn i p c cv' op vp m₁ t h tk own hp (List.mem_of_getElem? hp) (by omega) (ownOff_sub hoff (by simp)) hop hi' (by rw [← drop_at hp]; exact hgo) hmv hcl hct ?_ (by simpa only [List.cons_append] using N₁)
    have e : (fun y => if y = x then some (Value.int (i : Int) t) else m₁ y) = (fun y => if y = x then some (Value.int (i : Int) t) else if y = xm then m₁ y else m₀ y) := by
      funext y
      by_cases h1 : y = x
      · simp [h1]
      · by_cases h2 : y = xm
        · simp [h2]
        · simp only [h1, h2, if_false]; exact hm y h1 h2
    rw [← e]; exact F₁
  · rintro m₁ nx h tk ⟨op, vp, cv', c, rfl, hop, hi', hm, hgo, hmv, hcl, hct⟩ F₁ N₁
    refine done c cv' op vp m₁ h tk hop hi' (by rw [List.drop_length] at hgo; exact hgo) hcl hct ?_ N₁
    have e : (fun y => if y = x then m₁ y else if y = xm then m₁ y else m₀ y) = m₁ := by
      funext y
      by_cases h1 : y = x
      · simp [h1]
      · by_cases h2 : y = xm
        · simp [h2]
        · simp only [h1, h2, if_false]; exact (hm y h1 h2).symm
    rw [e]; exact F₁
theorem range_small {n : Nat} (h : n ≤ 3) : Builtin.Range.small 0 (n : Int) 1 = true := small_one (by decide) (by decide) (by omega) (by omega)
theorem range_size (n : Nat) : Builtin.Range.rangeSize 0 (n : Int) 1 = (n : Int) := by rw [rangeSize_nat]; omega
theorem sub_five'' {α : Type} {a b c d e x y : α} {l : List α} : ∀ p ∈ x :: y :: l, p ∈ a :: b :: c :: d :: e :: x :: y :: l := fun p hp => .tail _ (.tail _ (.tail _ (.tail _ (.tail _ hp))))
section
variable {h₀ h' : Heap} {L I C D : Addr} {m : Str → Option Value} {s₁ : Shared} {oI oC oD : Obj} {S : List (Addr × Obj) → Prop} {tk : Nat} {all news : List (Addr × Obj)} {l r : List Int} {a : Int} {t : Tok} {v : Value}
theorem ci_el_end (F : Fr h₀ L h' m) (N : News h₀ L h' ((I, oI) :: (C, oC) :: (D, oD) :: news)) (off : LCg.Off3 I C D news) (hS : S news) (e : r = l ++ [a]) :
    LCg.CompEnd h₀ L m s₁ I oI C oC D oD S (fun y news' => KCiEl news l r y news') (.int a t) { s₁ with heap := h', toks := tk } := LCg.CompEnd.intro F N news (fun _ hp => hp) off hS (kci_el e rfl rfl)
theorem ci_no_end (F : Fr h₀ L h' m) (N : News h₀ L h' ((I, oI) :: (C, oC) :: (D, oD) :: news)) (off : LCg.Off3 I C D news) (hS : S news) (e : r = l) :
    LCg.CompEnd h₀ L m s₁ I oI C oC D oD S (fun _ news' => KCiNo news l r news') v { s₁ with heap := h', toks := tk } := LCg.CompEnd.intro F N news (fun _ hp => hp) off hS (kci_no e rfl)
theorem ints_size {vs : List Value} {ks : List Int} (h : IntsAre vs ks) (hk : ks.length ≤ 9) : vs.toArray.size ≤ sizeLine := by rw [PySem.sizeLine_eq, List.size_toArray, h.length]; omega
theorem take_le {ks : List Int} {n : Nat} (h : ks.length ≤ 3) : (ks.take n).length ≤ 9 := by rw [List.length_take]; omega
end
theorem pick_size {q : Int} {ks : List Int} {ys : List Value} {i : Nat} (h : IntsAre ys (List.foldl (pick q) [] (ks.take ((i : Int) + 1).toNat))) : (ys.toArray.size : Int) = cnt q (ks.take (i + 1)) := by
  have e : ((i : Int) + 1).toNat = i + 1 := by omega
  rw [e] at h
  rw [List.size_toArray, h.length, pick_fold]; simp
theorem cnt_fit (q : Int) {n : Nat} {ks : List Int} (h : ks.length ≤ 3) : -(2 ^ 63) ≤ cnt q (ks.take n) ∧ cnt q (ks.take n) < 2 ^ 63 ∧ cnt q (ks.take n) ≤ 16384 := by
  have h1 := cnt_bound q (ks.take n)
  rw [List.length_take] at h1
  omega
def RaiRet (v : Value) : Option Int → Prop
  | none => v = .none
  | some x => ∃ t, v = .int x t
def RaiK (h₀ : Heap) (L : Addr) (m : Str → Option Value) (s : Shared) (Q : Value → Shared → Prop) (lc : Addr × Nat) (lp : Addr × Obj) (rest : List (Addr × Obj)) (R : List Int × Option Int) : Prop :=
  ∀ (v : Value) (h' : Heap) (tk' : Nat) (cv' : List Value), Fr h₀ L h' m → News h₀ L h' ((lc.1, listOf cv'.toArray lc.2) :: lp :: rest) → IntsAre cv' R.1 → RaiRet v R.2 → Q v { s with heap := h', toks := tk' }
theorem rai_none {h₀ h' : Heap} {L lc : Addr} {nc tk' : Nat} {m : Str → Option Value} {s : Shared} {Q : Value → Shared → Prop} {lp : Addr × Obj} {rest all : List (Addr × Obj)} {R : List Int × Option Int} {c : List Int} {cv : List Value}
    (hret : RaiK h₀ L m s Q (lc, nc) lp rest R) (e : R = (c, none)) (hc : IntsAre cv c) (F : Fr h₀ L h' m) (N : News h₀ L h' all) (sub : ∀ p ∈ (lc, listOf cv.toArray nc) :: lp :: rest, p ∈ all) : Q .none { s with heap := h', toks := tk' } := by
  subst e
  exact hret _ _ _ cv F (news_sub N sub) hc rfl
theorem raised_c {w : World} {loose : List Str} {mean : ExcName → Option Value} {mg mb : Str → Option Value}
   (dp un : Nat) (gd : Option (List Code)) (cn : Str) (cs : Scope) (a : Addr) (ccd : Value) (cl : List (Str × Addr)) (outer : List Env) (A₀ : Around) (base h₀ : Heap) (L : Addr) (m : Str → Option Value) (s : Shared) (Q E : Value → Shared → Prop)
   (lc lp : Addr) (cv pv : List Value) (nc np : Nat) (cells places : List Int) (amt : Int) (t : Tok) (rest : List (Addr × Obj))
   (B : Below A₀ base outer h₀) (F : Fr h₀ L s.heap m) (X : (hd.heap_39 w.params).In h₀) (T : Top topProg loose mean mg mb h₀) (hk : cs.kind = .function) (hd : dp + 3 < recursionLimit) (hu : un + 24 < cLine)
   (N : News h₀ L s.heap ((lc, listOf cv.toArray nc) :: (lp, listOf pv.toArray np) :: rest))
   (hc : IntsAre cv cells) (hp : IntsAre pv places) (hne : @Ne Nat lc lp) (hoff : OwnOff rest [lc]) (hlen : places.length ≤ 3) (hlen0 : 0 < places.length) (hclen : cells.length ≤ 9)
   (hr : Within places cells.length) (hcb : InTop cells) (hbits : Small amt)
   (hret : RaiK h₀ L m s Q (lc, nc) (lp, listOf pv.toArray np) rest (raised cells places amt)) :
   wpAny (model Challenge.rw_db5010_01.row.prog w) (ktrTop dp un gd cn cs L a ccd cl outer) (call (.ref 417) [.ref lc, .ref lp, .int amt t]) Q E s := by
  (w_top off; revert X; k_fill; intro X)
  refine wpAny_call ?_
  k_dflt (walk_at "ENTER C")
  k_steps
  refine Stop.go ?_
  (rename Fr _ _ _ _ => lF'); (rename News _ _ _ _ => lN')
  refine For_invVF lF' (by exact rfl) (by exact rfl) ?_
  k_steps
  refine Stop.go ?_
  rename IsRange _ _ _ _ _ _ _ _ => hrg
  (rename Fr _ _ _ _ => lF2); (rename News _ _ _ _ => lN2)
  refine rai_loop (xm := "moved") (pl := places) (cells := cells) (amt := amt) (by rfl) (by rfl) hrg ?_ ?_ (by decide) lF2 lN2 (by assumption) hr hc hcb ?_ ?_
  · exact range_small hlen
  · exact range_size _
  · rintro i p c cv' op vp u ti h tk own hpi hpm hi hoff1 hop hc' hgo hmv hcl hct F' N'
    clear lF2 lN2
    have hq : p = places.getD ((i : Int)).toNat 0 := by rw [Int.toNat_natCast, List.getD_eq_getElem?_getD, hpi]; rfl
    have hp0 := hr.lo hpm
    have hp1 := hr.hi hpm
    have hp1' := hp1
    rw [← hcl] at hp1'
    have hi0 : 0 ≤ (i : Int) := Int.natCast_nonneg i
    have hcl9 : c.length ≤ 9 := by rw [hcl]; exact hclen
    have hpl9 : places.length ≤ 9 := n_le9 hlen
    subst hq
    k_steps
    · refine' ⟨_, _, _, _, rfl, ?tF, ?tN, _, _, _, _, rfl, ?tO, ?tC, ?tZ, (addGo_over (by with_reducible assumption)).symm.trans hgo, ?tMv, (put_len ..).trans hcl, hct.put (by decide)⟩
      case tF => assumption
      case tN => assumption
      case tO => assumption
      case tC => with_reducible assumption
      case tZ => intro z h1 h2; simp only [if_neg h1, if_neg h2]
      case tMv => rw [take_at hpi]; exact hmv.over hp0 hp1 (by with_reducible assumption)
    · refine Stop.go ?_
      rename IntsAre _ (List.take _ places) => hIt
      refine LCt.CompSrcT.ledger (by rfl) (by k_asm) (by k_asm) (by k_mem) ?_ ?_
      · exact ints_size hIt (take_le hlen)
      · intro g'
        refine' kci_list (pick (places.getD ((i : Int)).toNat 0)) hIt (fun k' t' I' oI' C' oC' D' m' ys' l' h' tk' E' hk' hI' hC' hx' F' N' off' ne' => ?_) ?_ ?_
        · intro hMark'
          k_steps
          · exact ci_el_end (by assumption) (by assumption) off' (by first | lcg_src | assumption) (pick_eq (by assumption))
          · exact ci_no_end (by assumption) (by assumption) off' (by first | lcg_src | assumption) (pick_ne (by assumption))
        · intro ys hys hyl
          k_steps
          have hys' : (ys.toArray.size : Int) = cnt (places.getD ((i : Int)).toNat 0) (places.take (i + 1)) := pick_size hys
          have hcb9 := cnt_fit (places.getD ((i : Int)).toNat 0) (n := i + 1) hlen
          refine kun_lenL (News.isList (by assumption) (by k_mem)) hys' hcb9.2.2 ?_
          refine PyProof.Rows.mul_int (hm := Small.mul hbits hcb9.1 hcb9.2.1) ?_
          have hsum := Moved.take hmv hpi hp0 hp1 (by with_reducible assumption)
          generalize amt * cnt (places.getD ((i : Int)).toNat 0) (places.take (i + 1)) = pr at hsum ⊢
          clear hcb9 hys' hyl hys
          k_steps
          · exact rai_none hret (raised_none ((addGo_bad (by with_reducible assumption) (.inl (by rw [← hsum]; with_reducible assumption))).symm.trans hgo)) hc' (by assumption) (by assumption) (by kcf_all)
          · exact rai_none hret (raised_none ((addGo_bad (by with_reducible assumption) (.inr (by rw [← hsum]; with_reducible assumption))).symm.trans hgo)) hc' (by assumption) (by assumption) (by kcf_all)
          · have ho1 : ¬ at_ c (places.getD ((i : Int)).toNat 0) + amt < 0 := by rw [← hsum]; with_reducible assumption
            have ho2 : ¬ 4294967295 < at_ c (places.getD ((i : Int)).toNat 0) + amt := by rw [← hsum]; with_reducible assumption
            (rename Fr _ _ _ _ => lF'); (rename News _ _ _ _ => lN')
            rename IntsAre (List.set _ _ _) _ => hCs
            rw [hsum] at hCs lN'
            refine' ⟨_, _, _, _, rfl, lF', news_sub lN' ?tN, _, _, _, _, rfl, ?tO, hCs, ?tZ, (addGo_put (by with_reducible assumption) ho1 ho2).symm.trans hgo, ?tMv, (put_len ..).trans hcl, hct.put ⟨Int.not_lt.mp ho1, Int.not_lt.mp ho2⟩⟩
            case tO => assumption
            case tN => intro p hp; exact .tail _ (.tail _ hp)
            case tZ => intro z h1 h2; simp only [if_neg h1, if_neg h2]
            case tMv => rw [take_at hpi]; exact hmv.put hp0 hp1 (by with_reducible assumption)
        · intro l k
          exact pick_len _ l k
  · rintro c cv' op vp u h tk hop hc' hgo hcl hct F' N'
    clear lF2 lN2
    have hcl9 : c.length ≤ 9 := by rw [hcl]; exact hclen
    k_steps
    (rename _ ∈ List.map _ places => hm1); (rename ∀ a, a ∈ List.map _ places → _ => hm2)
    rename (Fr h₀ _ _ _) => kF1
    rename (News h₀ _ _ _) => kN1
    refine hret _ _ _ cv' kF1 (news_sub kN1 sub_five'') (by rw [raised_some hgo]; exact hc') ?_
    rw [raised_some hgo]
    exact ⟨_, congrArg (fun z => Value.int z _) ((mn_of hm1 hm2).trans (congrArg mn (List.map_congr_left fun k _ => min_if _ _)))⟩
end Mine
namespace Mine
set_option maxRecDepth 100000
set_option maxHeartbeats 1000000
abbrev genScope : Scope := { kind := ScopeKind.function, names := [(".0", NameKind.local), ("x", NameKind.local), ("self", NameKind.free)], isGenerator := true, isCoroutine := false }
/-- a call where the frames below are not known -/
theorem callV_free {prog : Program} {w : World} {A : Around} {K : Frag} {h₀ : Heap} {L : Addr} {m : Str → Option Value} {s : Shared} {R : Result → Shared → Prop} {name qual : Str} {params : Arguments} {body : List Stmt} {scope : Scope} {dV kV doc pm cdv ct oc : Value} {an od : Option Addr} {osl : Array (Option Value)} {f : Addr} {args : Args} {binds : List (Str × Value)}
    (F : Fr h₀ L s.heap m) (X₀ : K.In h₀) (hlim : h₀.NoLimit) (hroom : A.depth < recursionLimit)
    (ho : K.lookup f = some ⟨oc, od, .func (fnOf name qual params body scope dV kV doc pm an cdv ct), osl⟩) (hcd : codeIn K cdv qual = true)
    (hbind : BindsTo s (fnOf name qual params body scope dV kV doc pm an cdv ct) args binds) (hloc : ∀ y ∈ binds, scope.names.lookup y.1 = some .local)
    (h : ∀ (h₁ : Heap) (L' : Addr), h₁.Ns L' (fun x => binds.reverse.lookup x) → (∀ b o, s.heap.get? b = some o → h₁.get? b = some o) →
      wpAny (model prog w) (A.deeper (envOf qual scope L' f cdv)) (execs body (envOf qual scope L' f cdv)) (fun fl s' => R (.ok (.ret (match fl with | .ret v => v | _ => .none))) s')
        (fun e s' => wpAny (model prog w) (A.deeper (envOf qual scope L' f cdv)) (leaving (envOf qual scope L' f cdv) e) (fun _ s'' => R (.error e) s'') (fun e' s'' => R (.error e') s'') s')
        { s with heap := h₁, toks := s.toks + binds.length })
    (hcell : ∀ x ∈ scope.names, x.2 ≠ .cell) (hco : scope.isCoroutine = false) (hgen : scope.isGenerator = false) (hk : scope.kind = .function) :
    codeAny (model prog w) A (.call (.ref f) args) R s :=
  codeAny_call_def (fd := fnOf name qual params body scope dV kV doc pm an cdv ct) (body := body) (binds := binds) hroom ((X₀.keeps F.keep) _ _ ho) rfl (hlim.keeps F.keep) (codeRec_of (X₀.keeps F.keep) hcd) rfl hbind hcell hloc (fun h₁ hns hk => h h₁ s.heap.objs.size hns hk) hco hgen hk
/-- what one turn of the generator in check_alt gives -/
theorem elem_c {w : World} {loose : List Str} {mean : ExcName → Option Value} {mg mb : Str → Option Value} {dp un : Nat} {fr : Option (List Env)} {gd : Option (List Code)} {h₀ : Heap} {L C ca : Addr} {m m₂ : Str → Option Value} {s : Shared} {E : Value → Shared → Prop}
   {c : CM} {x dx bl : Addr} {cv : List Value} {nc : Nat} {cells : List Int} {els k : Int} {t t6 : Tok} {rest : List (Addr × Obj)} {oc : Obj} {code : Value} {bi : Addr} {env : Env} {p1 p2 p3 p4 p5 p6 p7 : Pos}
   (hroom : dp + 1 < recursionLimit) (F : Fr h₀ L s.heap m) (X : (hd.heap_39 w.params).In h₀) (T : Top topProg loose mean mg mb h₀)
   (N : News h₀ L s.heap ((x, instObj 396 dx) :: (dx, dictOf (c.ents els t6 bl) 12) :: (bl, listOf cv.toArray nc) :: (ca, oc) :: rest)) (hoc : oc.data = .cell (some (.ref x)))
   (hns : s.heap.Ns C m₂) (hx : m₂ "x" = some (.int k t)) (hc : IntsAre cv cells) (hbit : c.bits = (cells.length : Int)) (hclen : cells.length ≤ 9) (hclen0 : 0 < cells.length) :
   wpAny (model Challenge.rw_db5010_01.row.prog w) ⟨none, dp, fr, gd, un⟩ (eval (((Expr.Name "self" p1).Attribute "_bloom" p2).Subscript ((Expr.Name "x" p3).BinOp .Mod ((Expr.Name "self" p4).Attribute "number_bits" p5) p6) p7) (genEnv genScope [("self", ca)] C code bi env))
     (fun y s₃ => (∃ t, y = .int (at_ cells (k.fmod c.bits)) t) ∧ Keeps s s₃) E s := by
  (w_top off; revert X; k_fill; intro X)
  have hself : ∀ {Q : Value → Shared → Prop} {E : Value → Shared → Prop} {p : Pos} {tk : Nat} {h' : Heap}, News h₀ L h' ((x, instObj 396 dx) :: (dx, dictOf (c.ents els t6 bl) 12) :: (bl, listOf cv.toArray nc) :: (ca, oc) :: rest) → Q (.ref x) { s with heap := h', toks := tk } →
      wpAny (model Challenge.rw_db5010_01.row.prog w) ⟨none, dp, fr, gd, un⟩ (eval (.Name "self" p) (genEnv genScope [("self", ca)] C code bi env)) Q E { s with heap := h', toks := tk } := fun N' hq =>
    wpAny_Name (wpAny_loadName_free rfl rfl rfl ⟨oc, N'.get (by k_mem), hoc⟩ hq (by decide)) (by decide)
  refine Subscript_ ?_
  refine Attribute_Name_ ?_
  refine hself N ?_
  walk1
  refine wpAny_BinOp ?_
  refine wpAny_Name (wpAny_loadName_local rfl rfl hns hx ?_) (by decide)
  refine Attribute_Name_ ?_
  refine hself N ?_
  (refine' get_prop ?k1 ?k2 ?k3 ?k4 ?k5 ?k6 ?k7 ?k8 ?k9 ?_; (case k1 => k_asm); (case k2 => k_asm); (case k3 => k_inst); (case k4 => k_is); (case k5 => k_is); (case k6 => k_is); (case k7 => k_is); (case k8 => k_is); (case k9 => k_is))
  refine' callV_free (binds := [("self", .ref x)]) ?k1 ?k2 ?k3 ?k4 ?k5 ?k6 ?k7 ?k8 ?_ ?c1 ?c2 ?c3 ?c4
  case k1 => k_asm
  case k2 => k_asm
  case k3 => exact T.nolimit
  case k4 => exact Nat.lt_of_succ_lt hroom
  case k5 => k_is
  case k6 => k_is
  case k7 => exact BindsTo.of_eq (by rfl)
  case k8 => intro y hy; rw [List.mem_singleton.mp hy]; rfl
  case c1 => decide
  case c2 => rfl
  case c3 => rfl
  case c4 => rfl
  · intro h₁ L' hns1 hk1
    have F1 : Fr h₀ L h₁ m := F.keeps hk1
    have N1 := N.grown hk1
    refine wpAny_execs_cons (wpAny_Return_some ?_)
    refine Attribute_Name_ ?_
    refine wpAny_Name (wpAny_loadName_local rfl rfl hns1 rfl ?_) (by decide)
    clear F N hns
    walk1
    dsimp only
    refine handed_on rfl ?_
    have hb0 : c.bits ≠ 0 := by omega
    refine PyProof.Rows.mod_int' hb0 ?_
    have hf0 : 0 ≤ k.fmod c.bits := fmod_lo _ (by omega)
    have hf1 : k.fmod c.bits < (cells.length : Int) := by rw [← hbit]; exact fmod_hi _ (by omega)
    refine ksa_sub N1 (by k_mem) hc hf0 hf1 (by omega) (fun t' => ⟨⟨_, rfl⟩, _, _, rfl, hk1⟩)
end Mine
namespace Mine
set_option maxRecDepth 100000
set_option maxHeartbeats 1000000
/-- a generator that was made, its walk and what stays -/
structure GenR (prog : Program) (w : World) (A : Around) (h₀ : Heap) (L : Addr) (m : Str → Option Value) (news : List (Addr × Obj)) (vals : List Int) (a : Addr) (s : Shared) : Prop where
  fr : Fr h₀ L s.heap m
  led : News h₀ L s.heap news
  bare : AllBare s.gens
  walk : ∃ fp wr g n P St, WalksS prog w A.in4 a fp wr (GenOnlyQ g) n P St ∧ St 0 s ∧ (∀ b ∈ fp, b < s.heap.objs.size) ∧ n = vals.length ∧ (∀ j v, P j v → ∃ t, v = .int (vals.getD j 0) t) ∧ L ∉ wr ∧ (∀ b ∈ wr, h₀.get? b = none) ∧ (∀ p ∈ news, p.1 ∉ wr)
theorem min_gen {prog : Program} {w : World} {A : Around} {h₀ : Heap} {L : Addr} {m : Str → Option Value} {news : List (Addr × Obj)} {vals : List Int} {a : Addr} {s : Shared} {Q E : Value → Shared → Prop}
    (R : GenR prog w A h₀ L m news vals a s) (hv : 0 < vals.length)
    (h : ∀ M t h' gs tk, M = mn vals → Fr h₀ L h' m → News h₀ L h' news → AllBare gs → Q (.int M t) { s with heap := h', gens := gs, toks := tk }) :
    wpAny (model prog w) A (call (.builtin "min") [.ref a]) Q E s := by
  obtain ⟨F, N, G, fp, wr, g, n, P, St, W, hst, hfp, hn, hP, hL, h0, hnw⟩ := R
  have W := W.in4_1
  refine call_min_walkS (W.self 0 _ _ _ hst ⟨a, _, _, _, _, _, _, _, rfl, W, hst, hfp, by omega, CmpOf.ints_lt (fun j => vals.getD j 0) hP, fun v s' hv' hm => ?_⟩)
  obtain ⟨t, rfl⟩ := hP _ v hv'
  have hb := argBest_lt (fun j => vals.getD j 0) (n - 1)
  have e : s' = { s with heap := s'.heap, gens := s'.gens, toks := s'.toks } := by
    obtain ⟨h1, g1, d1, o1, t1⟩ := s'
    have e1 := hm.drawn
    have e2 := hm.os
    simp only at e1 e2
    subst e1 e2
    rfl
  rw [e]
  have hj : argBest (fun i j => decide (vals.getD i 0 < vals.getD j 0)) (n - 1) < vals.length := by omega
  refine h _ _ _ _ _ (mn_of ?_ fun y hy => ?_) ⟨F.ns.at' fun o q => hm.heap _ _ hL q, fun b o q => hm.heap _ _ (fun z => by rw [h0 b z] at q; cases q) (F.keep b o q), F.above⟩ (fun p hp => ⟨hm.heap _ _ (hnw p hp) (N p hp).1, (N p hp).2⟩) (G.movedS hm)
  · show vals.getD (argBest _ _) 0 ∈ vals
    rw [List.getD_eq_getElem?_getD, List.getElem?_eq_getElem hj]; exact List.getElem_mem hj
  · obtain ⟨i, hi, rfl⟩ := List.getElem_of_mem hy
    have := hb.2 i (by omega)
    simpa [List.getD_eq_getElem?_getD, List.getElem?_eq_getElem hi] using this

theorem passing_all (n : Nat) : passing (fun _ => true) n 0 = List.range n := by unfold passing; rw [List.drop_zero]; exact List.filter_eq_self.mpr (fun _ _ => rfl)
theorem grown_news {h₀ h h' : Heap} {L P : Addr} {ps ps' : Array Value} {pre post : List (Addr × Obj)} (hx : Heap.ExtBut P h h') (hP : h'.get? P = some (tabObj ps')) (N : News h₀ L h (pre ++ (P, tabObj ps) :: post)) (h1 : ∀ p ∈ pre, p.1 ≠ P) (h2 : ∀ p ∈ post, p.1 ≠ P) :
    News h₀ L h' (pre ++ (P, tabObj ps') :: post) := fun p hp => by
  rcases List.mem_append.mp hp with hp | hp
  · have n := N p (List.mem_append_left _ hp)
    exact ⟨hx _ _ (h1 p hp) n.1, n.2⟩
  · rcases List.mem_cons.mp hp with rfl | hp
    · have n := N (P, tabObj ps) (List.mem_append_right _ (.head _))
      exact ⟨hP, n.2⟩
    · have n := N p (List.mem_append_right _ (.tail _ hp))
      exact ⟨hx _ _ (h2 p hp) n.1, n.2⟩
/-- the generator of check_alt is made -/
theorem gen_eval {w : World} {loose : List Str} {mean : ExcName → Option Value} {mg mb : Str → Option Value} {A : Around} {h₀ : Heap} {L ca : Addr} {m : Str → Option Value} {s : Shared} {Q E : Value → Shared → Prop} {env : Env} {iter : Expr}
   {c : CM} {x dx bl lp : Addr} {cv pv : List Value} {nc np : Nat} {cells ks : List Int} {els : Int} {t6 : Tok} {rest : List (Addr × Obj)} {oc : Obj} {p1 p2 p3 p4 p5 p6 p7 px pos : Pos} {ps : Array Value}
   (hh : A.handled = none) (hroom : A.depth + 8 < recursionLimit) (hcode : env.code = .ref 357) (hglob : env.globals = mainGlobals) (hclos : closureFor genScope env = pure ([("self", ca)] : List (Str × Addr)))
   (hit : ∀ {Q : Value → Shared → Prop} {E : Value → Shared → Prop}, Q (.ref lp) s → wpAny (model Challenge.rw_db5010_01.row.prog w) A (eval iter env) Q E s) (hfold : ∀ x, genFold iter env x = pure x)
   (F : Fr h₀ L s.heap m) (X : (hd.heap_39 w.params).In h₀) (T : Top topProg loose mean mg mb h₀) (G : AllBare s.gens)
   (N : News h₀ L s.heap ((x, instObj 396 dx) :: (dx, dictOf (c.ents els t6 bl) 12) :: (bl, listOf cv.toArray nc) :: (ca, oc) :: (lp, listOf pv.toArray np) :: (353, tabObj ps) :: rest)) (hoc : oc.data = .cell (some (.ref x)))
   (CH : CodeHd h₀ 357 353) (ht : TriplesOk ps.toList) (hcp : IntsAre pv ks) (hc : IntsAre cv cells) (hbit : c.bits = (cells.length : Int)) (hclen : cells.length ≤ 9) (hclen0 : 0 < cells.length)
   (hP : @Ne Nat x 353 ∧ @Ne Nat dx 353 ∧ @Ne Nat bl 353 ∧ @Ne Nat ca 353 ∧ @Ne Nat lp 353) (hoff : OwnOff rest [353])
   (h : ∀ a h' gs tk ps', TriplesOk ps'.toList → GenR Challenge.rw_db5010_01.row.prog w A h₀ L m ((x, instObj 396 dx) :: (dx, dictOf (c.ents els t6 bl) 12) :: (bl, listOf cv.toArray nc) :: (ca, oc) :: (lp, listOf pv.toArray np) :: (353, tabObj ps') :: rest) (ks.map fun k => at_ cells (k.fmod c.bits)) a { s with heap := h', gens := gs, toks := tk } →
      Q (.ref a) { s with heap := h', gens := gs, toks := tk }) :
   wpAny (model Challenge.rw_db5010_01.row.prog w) A (eval (Expr.GeneratorExp (((Expr.Name "self" p1).Attribute "_bloom" p2).Subscript ((Expr.Name "x" p3).BinOp .Mod ((Expr.Name "self" p4).Attribute "number_bits" p5) p6) p7) [⟨Expr.Name "x" px, iter, [], 0⟩] genScope pos) env) Q E s := by
  refine wpAny_GeneratorExp_walksQD hh rfl hclos (by decide) rfl rfl rfl (by omega) (hit ?_) hfold
  have hl : s.heap.IsList lp pv.toArray := ⟨_, (N (lp, listOf pv.toArray np) (by k_mem)).1, rfl, np, rfl⟩
  refine wpAny_pyIter_list hl ?_
  generalize hI : s.heap.objs.size = I
  have hLI : @LT.lt Nat _ L I := hI ▸ F.ns.lt
  have hab : @LE.le Nat _ h₀.objs.size L := F.above
  have hI0 : h₀.get? I = none := Heap.get?_none_of_le (by omega)
  have hnI : ∀ p ∈ ((x, instObj 396 dx) :: (dx, dictOf (c.ents els t6 bl) 12) :: (bl, listOf cv.toArray nc) :: (ca, oc) :: (lp, listOf pv.toArray np) :: (353, tabObj ps) :: rest), @LT.lt Nat _ p.1 I := fun p hp => hI ▸ Heap.lt_size (N p hp).1
  -- the state with the iterator
  generalize hs2 : s.heap.push { cls := .type "list_iterator", data := .fields #[.ref lp, .int 0 0] } = h2
  have k2 : ∀ b o, s.heap.get? b = some o → h2.get? b = some o := fun b o q => hs2 ▸ Heap.get?_push_of_some _ q
  have hi2 : h2.IsListIter I lp 0 := ⟨_, by rw [← hs2, ← hI]; exact Heap.get?_push_size _ rfl, rfl, rfl⟩
  have F2 : Fr h₀ L h2 m := F.keeps k2
  have N2 := N.grown k2
  have hz2 : h2.objs.size = I + 1 := by rw [← hs2, Heap.size_push, hI]
  refine ⟨T.nolimit.keeps F2.keep, ?_⟩
  obtain ⟨bm, ob, b1, b2, b3, b4, b5, b6⟩ := T.bmain
  have m353 := N2 (353, tabObj ps) (by k_mem)
  -- what comes behind the code object
  have fin : ∀ (cv' : Value) (h3 : Heap) (tk3 : Nat) (ps' : Array Value), TriplesOk ps'.toList → Heap.ExtBut 353 h2 h3 → h2.objs.size ≤ h3.objs.size → h3.get? 353 = some (tabObj ps') →
      wpAny (model Challenge.rw_db5010_01.row.prog w) A (builtinsFor env.globals env.builtins) (fun bi s₄ =>
        ∃ I' fp wr n₀ P St₀ pz F, Value.ref I = .ref I' ∧ (∀ A' : Around, A'.handled = none → Walks Challenge.rw_db5010_01.row.prog w A' I' fp wr n₀ P St₀) ∧ St₀ 0 s₄.heap ∧ (∀ b ∈ fp, b < s₄.heap.objs.size) ∧ s₄.heap.NoLimit ∧ cStatics ∉ wr ∧
          (∀ href : Heap, (∀ b o, s₄.heap.get? b = some o → href.get? b = some o) →
            QuietGenD Challenge.rw_db5010_01.row.prog w (genEnv genScope [("self", ca)] s₄.heap.objs.size cv' bi env) "x" [] (((Expr.Name "self" p1).Attribute "_bloom" p2).Subscript ((Expr.Name "x" p3).BinOp .Mod ((Expr.Name "self" p4).Attribute "number_bits" p5) p6) p7) (List.range s₄.heap.objs.size) wr P pz F href (A.depth + 1) (A.units + 8)) ∧
          (∀ a h₅ tk gs, gs.bare = true → s₄.heap.objs.size < a → h₅.objs.size = a + 1 → (∀ b o, s₄.heap.get? b = some o → h₅.get? b = some o) →
            WalksS Challenge.rw_db5010_01.row.prog w A.in4 a (a :: s₄.heap.objs.size :: List.range s₄.heap.objs.size) (s₄.heap.objs.size :: wr) (GenOnlyQ s₄.gens.size) (passing pz n₀ 0).length
              (fun j y => ∃ i, (passing pz n₀ 0)[j]? = some i ∧ F i y) (GenAt Challenge.rw_db5010_01.row.prog w A.in4 a s₄.gens.size s₄.heap.objs.size (List.range s₄.heap.objs.size) wr pz n₀ F) →
            GenAt Challenge.rw_db5010_01.row.prog w A.in4 a s₄.gens.size s₄.heap.objs.size (List.range s₄.heap.objs.size) wr pz n₀ F 0 { s₄ with gens := s₄.gens.push gs, toks := tk, heap := h₅ } →
            Q (.ref a) { s₄ with gens := s₄.gens.push gs, toks := tk, heap := h₅ })) E { s with heap := h3, toks := tk3 } := by
    intro cv' h3 tk3 ps' ht' hx hz h353
    have n353 : h₀.get? 353 = none := m353.2.2
    have F3 : Fr h₀ L h3 m := ⟨F2.ns.extBut hx (Ne.symm m353.2.1), fun b o q => hx b o (fun z => by rw [z, n353] at q; cases q) (F2.keep b o q), F2.above⟩
    have N3 : News h₀ L h3 ((x, instObj 396 dx) :: (dx, dictOf (c.ents els t6 bl) 12) :: (bl, listOf cv.toArray nc) :: (ca, oc) :: (lp, listOf pv.toArray np) :: (353, tabObj ps') :: rest) := by
      refine grown_news (ps := ps) (pre := [(x, instObj 396 dx), (dx, dictOf (c.ents els t6 bl) 12), (bl, listOf cv.toArray nc), (ca, oc), (lp, listOf pv.toArray np)]) hx h353 N2 ?_ fun p hp => hoff p hp 353 (.head _)
      intro p hp
      simp only [List.mem_cons, List.not_mem_nil, or_false] at hp
      rcases hp with rfl | rfl | rfl | rfl | rfl
      · exact hP.1
      · exact hP.2.1
      · exact hP.2.2.1
      · exact hP.2.2.2.1
      · exact hP.2.2.2.2
    have hnI3 : ∀ p ∈ ((x, instObj 396 dx) :: (dx, dictOf (c.ents els t6 bl) 12) :: (bl, listOf cv.toArray nc) :: (ca, oc) :: (lp, listOf pv.toArray np) :: (353, tabObj ps') :: rest), @LT.lt Nat _ p.1 I := fun p hp => by
      simp only [List.mem_cons] at hp
      rcases hp with rfl | rfl | rfl | rfl | rfl | rfl | hp
      · exact hnI (x, _) (.head _)
      · exact hnI (dx, _) (.tail _ (.head _))
      · exact hnI (bl, _) (.tail _ (.tail _ (.head _)))
      · exact hnI (ca, oc) (.tail _ (.tail _ (.tail _ (.head _))))
      · exact hnI (lp, _) (.tail _ (.tail _ (.tail _ (.tail _ (.head _)))))
      · exact hnI (353, tabObj ps) (.tail _ (.tail _ (.tail _ (.tail _ (.tail _ (.head _))))))
      · exact hnI p (.tail _ (.tail _ (.tail _ (.tail _ (.tail _ (.tail _ hp))))))
    have h353I : @LT.lt Nat _ 353 I := hnI3 (353, tabObj ps') (by k_mem)
    have hlpI : @LT.lt Nat _ lp I := hnI3 (lp, listOf pv.toArray np) (by k_mem)
    have hI3 : @LT.lt Nat _ I h3.objs.size := by omega
    have hi3 : h3.IsListIter I lp 0 := hi2.at fun o q => hx _ o (fun z => by have : @Eq Nat I 353 := z; omega) q
    have hl3 : h3.IsList lp pv.toArray := ⟨_, (N3 (lp, listOf pv.toArray np) (by k_mem)).1, rfl, np, rfl⟩
    have hlim3 : h3.NoLimit := T.nolimit.keeps F3.keep
    have hcs : cStatics ∉ [I] := fun hm => by
      obtain ⟨mc, hns, _⟩ := T.nolimit
      have h1 : @LT.lt Nat _ cStatics h₀.objs.size := hns.lt
      have h2 : @Eq Nat cStatics I := List.mem_singleton.mp hm
      omega
    refine wpAny_builtinsFor (hglob ▸ T.g.keeps F3.keep) b1 b2 (F3.keep _ _ b3) b4 b5 b6 ?_
    refine ⟨I, [I, lp], [I], pv.toArray.size, _, _, fun _ => true, fun i y => ∃ k t, ks[i]? = some k ∧ y = .int (at_ cells (k.fmod c.bits)) t, rfl, fun A' hA => Walks.list hA I lp (fun z => by have : @Eq Nat lp I := z; omega) pv.toArray, ⟨hi3, hl3⟩, ?_, hlim3, hcs, ?_, ?_⟩
    · intro b hb
      simp only [List.mem_cons, List.not_mem_nil, or_false] at hb
      rcases hb with rfl | rfl
      · exact hI3
      · exact Nat.lt_trans hlpI hI3
    · intro href hhref
      refine ⟨fun A' E' i v s₂ m₂ _ _ _ _ _ _ _ => wpAny_pure ⟨rfl, _, _, rfl, fun _ _ q => q⟩, fun A' E' i v s₂ m₂ hA hdp _ hPv _ hns hxv hkp => ?_⟩
      obtain ⟨k, t, rfl, hk⟩ := IntsAre.at hcp i v (by simpa using hPv)
      obtain ⟨hd', dp', fr', gd', un'⟩ := A'
      simp only at hA hdp
      subst hA
      have up : ∀ b o, b ≠ I → h3.get? b = some o → s₂.heap.get? b = some o := fun b o hb q => hkp b (List.mem_range.mpr (Heap.lt_size q)) (fun hm => hb (List.mem_singleton.mp hm)) o (hhref b o q)
      have F4 : Fr h₀ L s₂.heap m := ⟨F3.ns.at' fun o q => up _ o (fun z => by have : @Eq Nat L I := z; omega) q, fun b o q => up b o (fun z => by rw [z, hI0] at q; cases q) (F3.keep b o q), F3.above⟩
      have N4 : News h₀ L s₂.heap _ := fun p hp => ⟨up _ _ (fun z => by have h1 := hnI3 p hp; have h2 : @Eq Nat p.1 I := z; omega) (N3 p hp).1, (N3 p hp).2⟩
      exact wpAny_mono (elem_c (by omega) F4 X T N4 hoc hns hxv hc hbit hclen hclen0) (fun y s₃ q => ⟨⟨k, q.1.choose, hk, q.1.choose_spec⟩, q.2⟩) fun _ _ q => q
    · intro a h₅ tk gs hgb hag hsz hk5 W hat
      have hlen := hcp.length
      refine h a h₅ _ tk ps' ht' ⟨F3.keeps hk5, N3.grown hk5, G.push hgb, _, _, _, _, _, _, W, hat, ?_, ?_, ?_, ?_, ?_, ?_⟩
      · intro b hb
        show b < h₅.objs.size
        rw [hsz]
        rcases List.mem_cons.mp hb with rfl | hb
        · exact Nat.lt_succ_self _
        · rcases List.mem_cons.mp hb with rfl | hb
          · exact Nat.lt_succ_of_lt hag
          · exact Nat.lt_succ_of_lt (Nat.lt_trans (List.mem_range.mp hb) hag)
      · rw [passing_all]; simp [hlen]
      · rintro j v ⟨i, hi, k, t, hk, rfl⟩
        refine ⟨t, ?_⟩
        have e : j = i := by
          rw [passing_all] at hi
          obtain ⟨h1, h2⟩ := List.getElem?_eq_some_iff.mp hi
          rw [← h2, List.getElem_range]
        subst e
        simp [List.getD_eq_getElem?_getD, hk]
      · intro hm
        rcases List.mem_cons.mp hm with e | hm
        · have : @Eq Nat L h3.objs.size := e
          omega
        · have : @Eq Nat L I := List.mem_singleton.mp hm
          omega
      · intro b hb
        refine Heap.get?_none_of_le ?_
        rcases List.mem_cons.mp hb with rfl | hb
        · show @LE.le Nat _ h₀.objs.size h3.objs.size
          omega
        · rw [List.mem_singleton.mp hb]
          omega
      · intro p hp hm
        have h1 := hnI3 p hp
        rcases List.mem_cons.mp hm with e | hm
        · have : @Eq Nat p.1 h3.objs.size := e
          omega
        · have : @Eq Nat p.1 I := List.mem_singleton.mp hm
          omega
  cases hf : codeAmong pos ps.toList with
  | none =>
    refine wpAny_genexprCodeX hcode ((CH.keeps F2.keep).code m353.1 ht) ((CH.keeps F2.keep).tab m353.1) hf fun c' h3 tk3 hx hge hlt hcd hrec htb _ => ?_
    exact fin _ h3 tk3 _ (by obtain ⟨_, _, _, _, _, _, _, _, _, _, _, _, _, _, _, _, _, e1, e2, e3, _⟩ := hcd; have := htb.2.symm.trans e1; cases this; cases e2; exact e3) hx (Nat.le_trans hge (Nat.le_of_lt hlt)) htb.2
  | some cv' =>
    exact wpAny_genexprCode_hit hcode ((CH.keeps F2.keep).code m353.1 ht) hf (fin cv' h2 _ ps ht (fun b o _ q => q) (Nat.le_refl _) m353.1)
end Mine
namespace Mine
set_option maxRecDepth 100000
set_option maxHeartbeats 1000000
local macro_rules | `(tactic| l_idx) => `(tactic| first | exact within_lo (by with_reducible assumption) (by with_reducible assumption) | exact within_hi (by with_reducible assumption) (by with_reducible assumption) | (refine Int.lt_of_lt_of_le (within_hi (by with_reducible assumption) (by with_reducible assumption)) ?_; omega))
local macro_rules | `(tactic| k_ne) => `(tactic| (refine neN ?_; (try dsimp only); with_reducible assumption))
local macro_rules | `(tactic| k_all) => `(tactic| with_reducible assumption)
local macro_rules | `(tactic| k_all) => `(tactic| first | (refine all_app ?ka ?kb; (case ka => k_all); (case kb => k_all)) | exact rest_ne (by tbn_find) (by (try dsimp only); omega) | exact OwnOff.ne (by assumption) (by k_memK))
local macro_rules | `(tactic| walk_at "exec For") => `(tactic| (k_here; refine Stop.out ?_))
local macro_rules | `(tactic| walk_at "exec For Name Call cons nil") => `(tactic| (k_here; refine Stop.out ?_))
local macro_rules | `(tactic| walk_at "exec For Name Name cons nil") => `(tactic| (k_here; refine Stop.out ?_))
local macro_rules | `(tactic| walk_at "exec For Tuple Call cons nil") => `(tactic| (k_here; refine Stop.out ?_))
local macro_rules | `(tactic| walk_at "exec For Tuple Call cons nil cons nil") => `(tactic| (k_here; refine Stop.out ?_))
local macro_rules | `(tactic| walk_at "LEN9") => `(tactic| first | with_reducible assumption | exact n_le9 (by with_reducible assumption))
local macro_rules | `(tactic| walk_at "IDXN") => `(tactic| first
  | with_reducible assumption
  | exact within_hi (by with_reducible assumption) (by with_reducible assumption)
  | exact idx_hi (by with_reducible assumption)
  | exact range_hi (by with_reducible assumption)
  | exact fmods_hi (by with_reducible assumption) (by omega))
local macro_rules | `(tactic| walk_at "IDX") => `(tactic| first
  | with_reducible assumption
  | exact within_lo (by with_reducible assumption) (by with_reducible assumption)
  | exact range_lo (by with_reducible assumption)
  | exact fmods_lo (by with_reducible assumption) (by omega)
  | walk_at "IDXN"
  | (law_purse 20000 => omega))
local macro_rules | `(tactic| walk_at "IDXF") => `(tactic| first | exact idx_fit (by walk_at "IDXN") (by walk_at "LEN9") | (law_purse 20000 => omega))
local macro_rules | `(tactic| walk_at "setItem ref int") => `(tactic| (k_here; (with_reducible show wpAny _ _ (setItem (Value.ref _) (Value.int _ _) (Value.int _ _)) _ _ _); k_dflt (refine' ksa_set ?k1 ?k2 ?k3 ?k4 ?k5 ?k6 ?k7 ?_; (case k1 => k_asm); (case k2 => k_asm); (case k3 => k_upd); (case k4 => with_reducible assumption); (case k5 => walk_at "IDX"); (case k6 => walk_at "IDX"); (case k7 => walk_at "IDXF"); k_whole); intro h' F' N' hi' hl' hs'; (try k_sweep)))
local macro_rules | `(tactic| walk_at "getItem ref int") => `(tactic| (k_here; (with_reducible show wpAny _ _ (getItem (Value.ref _) (Value.int _ _)) _ _ _); k_dflt (refine' ksa_get ?k1 ?k2 ?k3 ?k4 ?k5 ?k6 ?_; (case k1 => k_asm); (case k2 => k_mem); (case k3 => with_reducible assumption); (case k4 => walk_at "IDX"); (case k5 => walk_at "IDX"); (case k6 => walk_at "IDXF"); k_whole); intro _))
local macro_rules | `(tactic| walk_at "SUB") => `(tactic| (k_here; (with_reducible show wpAny _ _ (subscriptTail _ _ (Value.ref _) (Value.int _ _)) _ _ _); k_dflt (refine' ksa_sub ?k1 ?k2 ?k3 ?k4 ?k5 ?k6 ?_ ?k7; (case k1 => k_asm); (case k2 => k_mem); (case k3 => with_reducible assumption); (case k4 => walk_at "IDX"); (case k5 => walk_at "IDX"); (case k6 => walk_at "IDXF"); (case k7 => with_unfolding_all rfl); k_whole); intro _))
local macro_rules | `(tactic| walk_at "subscriptTail Name Name ref int") => `(tactic| first | walk_at "SUB" | (k_here; refine Stop.out ?_))
local macro_rules | `(tactic| walk_at "subscriptTail Attribute") => `(tactic| first | walk_at "SUB" | (k_here; refine Stop.out ?_))
local macro_rules | `(tactic| walk_at "subscriptTail Attribute Name") => `(tactic| first | walk_at "SUB" | (k_here; refine Stop.out ?_))
local macro_rules | `(tactic| walk_at "subscriptTail Attribute Name ref") => `(tactic| first | walk_at "SUB" | (k_here; refine Stop.out ?_))
local macro_rules | `(tactic| walk_at "subscriptTail Attribute Name Name") => `(tactic| first | walk_at "SUB" | (k_here; refine Stop.out ?_))
local macro_rules | `(tactic| walk_at "subscriptTail Attribute Name Name ref int") => `(tactic| first | walk_at "SUB" | (k_here; refine Stop.out ?_))
local macro_rules | `(tactic| walk_at "subscriptTail Attribute Name Name ref") => `(tactic| first | walk_at "SUB" | (k_here; refine Stop.out ?_))
local macro_rules | `(tactic| walk_at "subscriptTail Attribute Name ref int") => `(tactic| first | walk_at "SUB" | (k_here; refine Stop.out ?_))
local macro_rules | `(tactic| walk_at "subscriptTail") => `(tactic| first | walk_at "SUB" | (k_here; refine Stop.out ?_))
local macro_rules | `(tactic| walk_at "call type:enumerate") => `(tactic| (k_here; refine Stop.out ?_))
local macro_rules | `(tactic| walk_at "TurnQ") => `(tactic| dsimp only [TurnQ])
local macro_rules | `(tactic| walk_at "exec Raise some none") => `(tactic| (k_here; refine Stop.out ?_))
local macro_rules | `(tactic| walk_at "RAISE") => `(tactic| (k_here; k_dflt (refine' Raise_madeB PySem.F.excCall_OverflowError PySem.F.excRaise_OverflowError ?hh ?hx; (case hh => rfl))))
local macro_rules | `(tactic| walk_at "leaving ref") => `(tactic| (k_here; k_dflt (refine' raise_any ?k1 ?f ?kk ?k0 ?k2 ?k3 ?_; (case f => exact rfl); (case kk => exact rfl); (case k0 => exact Heap.MadeExc.of (by assumption)); (case k1 => assumption); (case k2 => assumption); (case k3 => k_asm); k_whole); intro h' t' R' U'; (try dsimp only at R' U' ⊢); refine Stop.out ?_))
local macro_rules | `(tactic| k_room) => `(tactic| ktr_room)
local macro_rules | `(tactic| walk_at "ENTER C") => `(tactic| (refine' code_defC ?k1 ?k2 ?k3 ?k4 ?k5 ?kA ?kF ?kK ?k6 ?k7 ?k8 ?k9 ?kB ?kD ?_ ?c2 ?c3 ?c4; (case kA => exact rfl); (case kF => exact rfl); (case kK => assumption); (case k1 => k_asm); (case k2 => k_asm); (case k3 => k_asm); (case k4 => k_asm); (case k5 => k_asm); (case k6 => k_is); (case k7 => k_is); (case k8 => ktr_room); (case k9 => first | exact BindsTo.of_eq rfl | exact binds_K (by k_in) rfl (by k_is) rfl rfl rfl | fail "k_enter: no rule for these arguments"); (case kB => exact rfl); (case kD => decide +kernel); (case c2 => exact rfl); (case c3 => exact rfl); (case c4 => exact rfl); k_whole; intro g' L' h' tk' cells' FG' F' N' Y' B' X' T' l1; (try k_lt l1); k_cells Y'; (try simp only [List.cons_append, List.nil_append] at N'); (try dsimp only); (try k_lift B'); (try k_fold)))
local macro_rules | `(tactic| walk_at "TurnQ") => `(tactic| dsimp only [TurnQ])
local macro_rules | `(tactic| walk_at "ENTER P") => `(tactic| (refine' code_def ?k1 ?k2 ?k3 ?k4 ?k5 ?kA ?kF ?kK ?k6 ?k7 ?k8 ?k9 ?kB ?_ ?c2 ?c3 ?c4 ?c5; (case kA => exact rfl); (case kF => exact rfl); (case kK => assumption); (case k1 => k_asm); (case k2 => k_asm); (case k3 => k_asm); (case k4 => k_asm); (case k5 => k_asm); (case k6 => k_is); (case k7 => k_is); (case k8 => ktr_room); (case k9 => first | exact BindsTo.of_eq rfl | exact binds_K (by k_in) rfl (by k_is) rfl rfl rfl | fail "k_enter: no rule for these arguments"); (case c5 => decide); (case kB => exact locs rfl); (case c2 => exact rfl); (case c3 => exact rfl); (case c4 => exact rfl); k_whole; intro g' L' h' FG' F' N' B' X' T'; (try dsimp only); (try k_lift B'); (try k_fold)))
local macro_rules | `(tactic| walk_at "eval GeneratorExp") => `(tactic| (k_here; refine Stop.out ?_))
local macro_rules | `(tactic| walk_at "call builtin:min") => `(tactic| (k_here; refine Stop.out ?_))
theorem chk_c {w : World} {loose : List Str} {mean : ExcName → Option Value} {mg mb : Str → Option Value}
   (dp un : Nat) (gd : Option (List Code)) (cn : Str) (cs : Scope) (a : Addr) (ccd : Value) (cl : List (Str × Addr)) (outer : List Env) (A₀ : Around) (base h₀ : Heap) (L : Addr) (m : Str → Option Value) (s : Shared) (Q E : Value → Shared → Prop)
   (c : CM) (x dx bl lp : Addr) (cv pv : List Value) (nc np : Nat) (cells ks : List Int) (els : Int) (t6 : Tok) (rest : List (Addr × Obj)) (ps : Array Value)
   (B : Below A₀ base outer h₀) (F : Fr h₀ L s.heap m) (X : (hd.heap_39 w.params).In h₀) (T : Top topProg loose mean mg mb h₀) (hk : cs.kind = .function) (hd : dp + 12 < recursionLimit) (hu : un + 24 < cLine)
   (N : News h₀ L s.heap ((x, instObj 396 dx) :: (dx, dictOf (c.ents els t6 bl) 12) :: (bl, listOf cv.toArray nc) :: (lp, listOf pv.toArray np) :: (353, tabObj ps) :: rest))
   (G : AllBare s.gens) (CH : CodeHd h₀ 357 353) (ht : TriplesOk ps.toList)
   (hc : IntsAre cv cells) (hp : IntsAre pv ks) (hP : @Ne Nat x 353 ∧ @Ne Nat dx 353 ∧ @Ne Nat bl 353 ∧ @Ne Nat lp 353) (hoff : OwnOff rest [353])
   (hbit : c.bits = (cells.length : Int)) (hlen0 : 0 < ks.length) (hclen : cells.length ≤ 9) (hclen0 : 0 < cells.length)
   (hret : ∀ t h' gs tk ps', TriplesOk ps'.toList → Fr h₀ L h' m → News h₀ L h' ((x, instObj 396 dx) :: (dx, dictOf (c.ents els t6 bl) 12) :: (bl, listOf cv.toArray nc) :: (lp, listOf pv.toArray np) :: (353, tabObj ps') :: rest) → AllBare gs →
      Q (.int (mn (ks.map fun k => at_ cells (k.fmod c.bits))) t) { s with heap := h', gens := gs, toks := tk }) :
   wpAny (model Challenge.rw_db5010_01.row.prog w) (ktrTop dp un gd cn cs L a ccd cl outer) (call (.ref 358) [.ref x, .ref lp]) Q E s := by
  (w_top off; revert X; k_fill; intro X)
  refine wpAny_call ?_
  k_dflt (walk_at "ENTER C")
  k_steps
  refine Stop.go ?_
  (rename Fr _ _ _ _ => lF'); (rename News _ _ _ _ => lN')
  refine gen_eval (by rfl) (by show dp + _ + _ < _; omega) (by rfl) (by rfl) (by rfl) ?_ (by with_unfolding_all exact fun _ => rfl) lF' (by assumption) (by assumption) G (news_sub lN' (by kcf_all)) (by assumption) (CH.keeps (Fr.keep (h₀ := h₀) (L := L) (by assumption))) ht hp hc hbit hclen hclen0 ?_ hoff ?_
  · intro Q2 E2 hq
    walk1
    exact hq
  · refine ⟨hP.1, hP.2.1, hP.2.2.1, ?_, hP.2.2.2⟩
    (rename _ ∧ _ ∧ _ ∧ _ ∧ _ ∧ AllLt _ rest => hl1)
    have hl2 : @LT.lt Nat _ 353 _ := hl1.2.2.2.2.1
    exact Nat.ne_of_gt (Nat.lt_succ_of_lt hl2)
  · intro a1 h1 gs1 tk1 ps1 ht1 R
    k_steps
    try refine Stop.go ?_
    refine min_gen R (by rw [List.length_map]; exact hlen0) ?_
    intro M1 t1 h2 gs2 tk2 hM1 F2 N2 G2
    clear R
    subst hM1
    k_steps
    refine hret _ _ _ _ _ ht1 (by assumption) (news_sub (by assumption) (by kcf_all)) G2
end Mine
namespace Mine
set_option maxRecDepth 100000
set_option maxHeartbeats 1000000
theorem cellsFrom_none : ∀ {names : List (Str × NameKind)} (_ : ∀ z ∈ names, z.2 ≠ .cell) (n : Nat) (acc : List (Str × Addr)), cellsFrom n names acc = acc
  | [], _, _, _ => rfl
  | (a, k) :: r, h, n, acc => by
    have hk : (k == NameKind.cell) = false := beq_eq_false_iff_ne.mpr (h (a, k) (.head _))
    unfold cellsFrom
    rw [hk]
    exact cellsFrom_none (fun z hz => h z (.tail _ hz)) n acc
theorem pushCells_none : ∀ {names : List (Str × NameKind)} (_ : ∀ z ∈ names, z.2 ≠ .cell) (h : Heap), pushCells h names = h
  | [], _, _ => rfl
  | (a, k) :: r, h, g => by
    have hk : (k == NameKind.cell) = false := beq_eq_false_iff_ne.mpr (h (a, k) (.head _))
    unfold pushCells
    rw [hk]
    exact pushCells_none (fun z hz => h z (.tail _ hz)) g
/-- a frame with one cell of its own behind those that it closes over, and one local -/
theorem newEnv_two {M : Model} {A : Around} {E : Value → Shared → Prop} {s : Shared} {scope : Scope} {globals : Addr} {cl : List (Str × Addr)} {x y : Str} {v u : Value} {qual : Str} {func : Option Addr} {code : Value} {builtins : Addr} {names : List (Str × NameKind)} {Q : Env → Shared → Prop}
    (hk : scope.kind = .function) (hn : scope.names = (x, .cell) :: names) (hno : ∀ z ∈ names, z.2 ≠ .cell) (hy : scope.names.lookup y = some .local)
    (hQ : ∀ h' tk, h'.Ns s.heap.objs.size (fun z => if z = y then some u else none) → h'.IsCell (s.heap.objs.size + 1) (some v) → (∀ b o, s.heap.get? b = some o → h'.get? b = some o) →
      Q (newEnv scope s.heap.objs.size globals ((x, s.heap.objs.size + 1) :: cl) qual func code none builtins) { s with heap := h', toks := tk }) :
    wpAny M A (newFunctionEnv scope globals cl [(x, v), (y, u)] qual func code none builtins) Q E s := by
  simp only [newFunctionEnv, Option.isSome_none, Bool.false_eq_true, if_false]
  refine wpAny_bind (wpAny_alloc ?_)
  refine wpAny_bind (wpAny_layCells _ (fun name kind cells => by cases hkc : kind == NameKind.cell <;> simp [hkc]) _ _ _ _ ?_)
  generalize hh1 : s.heap.push { cls := .type "frame", data := .dict #[] } = h1
  have z1 : h1.objs.size = s.heap.objs.size + 1 := by rw [← hh1, Heap.size_push]
  have n1 : h1.Ns s.heap.objs.size (fun _ => none) := by rw [← hh1]; exact Heap.Ns.new s.heap (.type "frame")
  have k1 : ∀ b o, s.heap.get? b = some o → h1.get? b = some o := fun b o q => by rw [← hh1]; exact Heap.get?_push_of_some _ q
  have e1 : cellsFrom h1.objs.size scope.names cl = (x, s.heap.objs.size + 1) :: cl := by
    rw [hn, z1]; unfold cellsFrom; simp only [beq_self_eq_true, if_true]; exact cellsFrom_none hno _ _
  have e2 : pushCells h1 scope.names = h1.push { cls := .type "cell", data := .cell none } := by
    rw [hn]; unfold pushCells; simp only [beq_self_eq_true, if_true]; exact pushCells_none hno _
  show wpAny M A _ Q E { s with heap := pushCells h1 scope.names }
  rw [show cellsFrom ({ s with heap := h1 } : Shared).heap.objs.size scope.names cl = _ from e1, e2]
  generalize hh2 : h1.push { cls := .type "cell", data := .cell none } = h2
  have k2 : ∀ b o, h1.get? b = some o → h2.get? b = some o := fun b o q => by rw [← hh2]; exact Heap.get?_push_of_some _ q
  have c2 : h2.IsCell (s.heap.objs.size + 1) none := ⟨_, by rw [← hh2, ← z1]; exact Heap.get?_push_size _ rfl, rfl⟩
  have n2 : h2.Ns s.heap.objs.size (fun _ => none) := n1.keeps k2
  refine wpAny_bind ?_
  rw [List.forIn_cons]
  have hx : scope.names.lookup x = some .cell := by rw [hn]; simp
  have hne : s.heap.objs.size ≠ s.heap.objs.size + 1 := Nat.ne_of_lt (Nat.lt_succ_self _)
  refine wpAny_bind (wpAny_bind (wpAny_storeName_cell (env := newEnv scope s.heap.objs.size globals ((x, s.heap.objs.size + 1) :: cl) qual func code none builtins) hk hx (by simp [newEnv]) c2 fun h3 c3 s3 => ?_))
  refine wpAny_pure ?_
  show wpAny M A (forIn [(y, u)] _ _) _ _ _
  rw [List.forIn_cons]
  have n3 : h3.Ns s.heap.objs.size (fun _ => none) := n2.sameBut s3 hne
  refine wpAny_bind (wpAny_bind (wpAny_storeName_local (env := newEnv scope s.heap.objs.size globals ((x, s.heap.objs.size + 1) :: cl) qual func code none builtins) hy n3 (fun h4 n4 s4 => ?_) (by simp [newEnv, hk])))
  refine wpAny_pure ?_
  show wpAny M A (forIn [] _ _) _ _ _
  rw [List.forIn_nil]
  refine wpAny_pure (wpAny_pure (hQ h4 _ n4 (c3.sameBut s4 hne.symm) fun b o q => ?_))
  have hb : b < s.heap.objs.size := Heap.lt_size q
  exact s4.extBut b o (Nat.ne_of_lt hb) (s3.extBut b o (Nat.ne_of_lt (Nat.lt_succ_of_lt hb)) (k2 _ _ (k1 _ _ q)))
section
variable {prog : Program} {w : World} {A₀ A : Around} {s : Shared} {base h₀ : Heap} {outer : List Env} {L : Addr} {m : Str → Option Value} {env : Env} {news : List (Addr × Obj)} {K : Frag} {p : Program} {loose : List Str} {mean : ExcName → Option Value} {mg mb : Str → Option Value}
/-- entering a closure that has one cell of its own -/
theorem code_one {R : Result → Shared → Prop} {name qual : Str} {params : Arguments} {body : List Stmt} {scope : Scope} {cl : List (Str × Addr)} {doc pm ctv : Value} {c' f : Addr} {args : Args} {x y : Str} {v u : Value} {names : List (Str × NameKind)}
    (B : Below A₀ base outer h₀) (F : Fr h₀ L s.heap m) (X₀ : K.In h₀) (N : News h₀ L s.heap news) (T : Top p loose mean mg mb h₀) (hA : A.frames = some (env :: outer)) (hf : env.frame = some L) (hke : env.scope.kind = .function)
    (ho : (f, fnMade name qual params body scope cl doc pm c' ctv) ∈ news) (hcd : s.heap.CodeRec (.ref c') qual) (hroom : A.depth < recursionLimit)
    (hbind : BindsTo s (fnX name qual params body scope cl .none .none doc pm none (.ref c') ctv) args [(x, v), (y, u)])
    (hn : scope.names = (x, .cell) :: names) (hno : ∀ z ∈ names, z.2 ≠ .cell) (hy : scope.names.lookup y = some .local)
    (h : ∀ g L' h₁ tk oc, Fr h₀ L g m → Fr g L' h₁ (fun z => if z = y then some u else none) → News g L' h₁ ((L' + 1, oc) :: news) → oc.data = .cell (some v) → Below A base (env :: outer) g → K.In g → Top p loose mean mg mb g → (∀ p ∈ news, p.1 < L') →
      wpAny (model prog w) (A.deeper (envX qual scope L' f (.ref c') ((x, L' + 1) :: cl))) (execs body (envX qual scope L' f (.ref c') ((x, L' + 1) :: cl)))
        (fun fl s' => LeaveK h₀ L m g R (match fl with | .ret v => v | _ => .none) s')
        (fun e s' => wpAny (model prog w) (A.deeper (envX qual scope L' f (.ref c') ((x, L' + 1) :: cl))) (leaving (envX qual scope L' f (.ref c') ((x, L' + 1) :: cl)) e) (fun _ s'' => R (.error e) s'') (fun e' s'' => R (.error e') s'') s')
        { s with heap := h₁, toks := tk })
    (hco : scope.isCoroutine = false) (hgen : scope.isGenerator = false) (hk : scope.kind = .function) : codeAny (model prog w) A (.call (.ref f) args) R s := by
  obtain ⟨FG, BG, st, lv⟩ := groundX (R := R) B F N hA hf hke
  refine codeAny_call_function hroom (N _ ho).1 rfl hco hgen rfl hcd (hbind _ _ _ _ ?_)
  refine newEnv_two hk hn hno hy fun h₁ tk hns hc hk₁ => ?_
  refine ⟨(T.nolimit.keeps F.keep).keeps hk₁, codeAny_func ?_⟩
  obtain ⟨oc, hoc, hod⟩ := hc
  refine wpAny_mono (h _ s.heap.objs.size h₁ tk oc FG ⟨hns, fun b o e => hk₁ b o (of_hideAll _ e), Nat.le_of_eq (hideAll_size _ _)⟩ (fun q hq => ?_) hod BG (X₀.keeps st) (T.keeps st) (fun q hq => Heap.lt_size (N q hq).1)) (fun fl s' hl => lv _ _ hl) fun _ _ y => y
  rcases List.mem_cons.mp hq with rfl | hq
  · refine ⟨hoc, Nat.ne_of_gt (Nat.lt_succ_self _), ?_⟩
    cases q : (hideAll s.heap (news.map (·.1))).get? (s.heap.objs.size + 1) with
    | none => rfl
    | some o => exact absurd (Heap.lt_size (of_hideAll _ q)) (Nat.not_lt.mpr (Nat.le_succ _))
  · exact ⟨hk₁ _ _ (N q hq).1, Nat.ne_of_lt (Heap.lt_size (N q hq).1), hideAll_none _ (List.mem_map_of_mem hq)⟩
end
def isWord (key : Str) : Value → Bool
  | .str y _ => y == key
  | _ => false
theorem index_five {prog : Program} {w : World} {A : Around} {E : Value → Shared → Prop} {s : Shared} {h₀ : Heap} {L : Addr} {news : List (Addr × Obj)} {l : Addr} {n : Nat} {a0 a1 a2 a3 a4 key : Str} {s0 s1 s2 s3 s4 t : Tok} (j : Nat) {Q : Value → Shared → Prop}
    (N : News h₀ L s.heap news) (hm : (l, listOf [.str a0 s0, .str a1 s1, .str a2 s2, .str a3 s3, .str a4 s4].toArray n) ∈ news) (hj : j < 5)
    (hit : isWord key ([Value.str a0 s0, .str a1 s1, .str a2 s2, .str a3 s3, .str a4 s4].toArray[j]) = true) (hno : ∀ m (hm : m < 5), m < j → isWord key ([Value.str a0 s0, .str a1 s1, .str a2 s2, .str a3 s3, .str a4 s4].toArray[m]) = false)
    (h : Q (.int (j : Int) s.toks) { s with toks := s.toks + 1 }) : wpAny (model prog w) A (call (.builtin "list.index") [.ref l, .str key t]) Q E s := by
  have ho := (N _ hm).1
  refine call_meets PySem.F.slot_list_index ⟨_, ho, rfl⟩ PySem.F.entry_list_index (PySem.F.args_list_index_2 _ _)
    (MeetsSeq.list_index l [Value.str a0 s0, .str a1 s1, .str a2 s2, .str a3 s3, .str a4 s4].toArray n (.str key t) (isWord key) ?_ j hj (by omega) hit hno) ⟨ho, h⟩
  intro y hy
  simp only [List.mem_toArray, List.mem_cons, List.not_mem_nil, or_false] at hy
  rcases hy with rfl | rfl | rfl | rfl | rfl <;> exact eqGives_str _ _ _ _
def wd : Nat → Str
  | 0 => "k0"
  | 1 => "k1"
  | 2 => "k2"
  | 3 => "k3"
  | _ => "k4"
theorem index_word {prog : Program} {w : World} {A : Around} {E : Value → Shared → Prop} {s : Shared} {h₀ : Heap} {L : Addr} {news : List (Addr × Obj)} {l : Addr} {n : Nat} {s0 s1 s2 s3 s4 t : Tok} (j : Nat) (ji : Int) (hji : (j : Int) = ji) {Q : Value → Shared → Prop}
    (N : News h₀ L s.heap news) (hm : (l, listOf [.str "k0" s0, .str "k1" s1, .str "k2" s2, .str "k3" s3, .str "k4" s4].toArray n) ∈ news) (hj : j < 5)
    (h : Q (.int ji s.toks) { s with toks := s.toks + 1 }) : wpAny (model prog w) A (call (.builtin "list.index") [.ref l, .str (wd j) t]) Q E s := by
  subst hji
  refine index_five j N hm hj ?_ ?_ h
  · rcases j with _ | _ | _ | _ | _ | j
    · rfl
    · rfl
    · rfl
    · rfl
    · rfl
    · omega
  · intro m hm' hlt
    rcases j with _ | _ | _ | _ | _ | j <;> rcases m with _ | _ | _ | _ | _ | m <;> first | omega | (show ((_ : Str) == _) = false; decide)
end Mine
namespace Mine
set_option maxRecDepth 100000
set_option maxHeartbeats 1000000
local macro_rules | `(tactic| l_idx) => `(tactic| first | exact within_lo (by with_reducible assumption) (by with_reducible assumption) | exact within_hi (by with_reducible assumption) (by with_reducible assumption) | (refine Int.lt_of_lt_of_le (within_hi (by with_reducible assumption) (by with_reducible assumption)) ?_; omega))
local macro_rules | `(tactic| k_ne) => `(tactic| (refine neN ?_; (try dsimp only); with_reducible assumption))
local macro_rules | `(tactic| k_all) => `(tactic| with_reducible assumption)
local macro_rules | `(tactic| k_all) => `(tactic| first | (refine all_app ?ka ?kb; (case ka => k_all); (case kb => k_all)) | exact rest_ne (by tbn_find) (by (try dsimp only); omega) | exact OwnOff.ne (by assumption) (by k_memK))
local macro_rules | `(tactic| walk_at "exec For") => `(tactic| (k_here; refine Stop.out ?_))
local macro_rules | `(tactic| walk_at "exec For Name Call cons nil") => `(tactic| (k_here; refine Stop.out ?_))
local macro_rules | `(tactic| walk_at "exec For Name Name cons nil") => `(tactic| (k_here; refine Stop.out ?_))
local macro_rules | `(tactic| walk_at "exec For Tuple Call cons nil") => `(tactic| (k_here; refine Stop.out ?_))
local macro_rules | `(tactic| walk_at "exec For Tuple Call cons nil cons nil") => `(tactic| (k_here; refine Stop.out ?_))
local macro_rules | `(tactic| walk_at "LEN9") => `(tactic| first | with_reducible assumption | exact n_le9 (by with_reducible assumption))
local macro_rules | `(tactic| walk_at "IDXN") => `(tactic| first
  | with_reducible assumption
  | exact within_hi (by with_reducible assumption) (by with_reducible assumption)
  | exact idx_hi (by with_reducible assumption)
  | exact range_hi (by with_reducible assumption)
  | exact fmods_hi (by with_reducible assumption) (by omega))
local macro_rules | `(tactic| walk_at "IDX") => `(tactic| first
  | with_reducible assumption
  | exact within_lo (by with_reducible assumption) (by with_reducible assumption)
  | exact range_lo (by with_reducible assumption)
  | exact fmods_lo (by with_reducible assumption) (by omega)
  | walk_at "IDXN"
  | (law_purse 20000 => omega))
local macro_rules | `(tactic| walk_at "IDXF") => `(tactic| first | exact idx_fit (by walk_at "IDXN") (by walk_at "LEN9") | (law_purse 20000 => omega))
local macro_rules | `(tactic| walk_at "setItem ref int") => `(tactic| (k_here; (with_reducible show wpAny _ _ (setItem (Value.ref _) (Value.int _ _) (Value.int _ _)) _ _ _); k_dflt (refine' ksa_set ?k1 ?k2 ?k3 ?k4 ?k5 ?k6 ?k7 ?_; (case k1 => k_asm); (case k2 => k_asm); (case k3 => k_upd); (case k4 => with_reducible assumption); (case k5 => walk_at "IDX"); (case k6 => walk_at "IDX"); (case k7 => walk_at "IDXF"); k_whole); intro h' F' N' hi' hl' hs'; (try k_sweep)))
local macro_rules | `(tactic| walk_at "getItem ref int") => `(tactic| (k_here; (with_reducible show wpAny _ _ (getItem (Value.ref _) (Value.int _ _)) _ _ _); k_dflt (refine' ksa_get ?k1 ?k2 ?k3 ?k4 ?k5 ?k6 ?_; (case k1 => k_asm); (case k2 => k_mem); (case k3 => with_reducible assumption); (case k4 => walk_at "IDX"); (case k5 => walk_at "IDX"); (case k6 => walk_at "IDXF"); k_whole); intro _))
local macro_rules | `(tactic| walk_at "SUB") => `(tactic| (k_here; (with_reducible show wpAny _ _ (subscriptTail _ _ (Value.ref _) (Value.int _ _)) _ _ _); k_dflt (refine' ksa_sub ?k1 ?k2 ?k3 ?k4 ?k5 ?k6 ?_ ?k7; (case k1 => k_asm); (case k2 => k_mem); (case k3 => with_reducible assumption); (case k4 => walk_at "IDX"); (case k5 => walk_at "IDX"); (case k6 => walk_at "IDXF"); (case k7 => with_unfolding_all rfl); k_whole); intro _))
local macro_rules | `(tactic| walk_at "subscriptTail Name Name ref int") => `(tactic| walk_at "SUB")
local macro_rules | `(tactic| walk_at "subscriptTail Attribute") => `(tactic| walk_at "SUB")
local macro_rules | `(tactic| walk_at "subscriptTail Attribute Name") => `(tactic| walk_at "SUB")
local macro_rules | `(tactic| walk_at "subscriptTail Attribute Name ref") => `(tactic| walk_at "SUB")
local macro_rules | `(tactic| walk_at "subscriptTail Attribute Name Name") => `(tactic| walk_at "SUB")
local macro_rules | `(tactic| walk_at "subscriptTail Attribute Name Name ref int") => `(tactic| walk_at "SUB")
local macro_rules | `(tactic| walk_at "subscriptTail Attribute Name Name ref") => `(tactic| walk_at "SUB")
local macro_rules | `(tactic| walk_at "subscriptTail Attribute Name ref int") => `(tactic| walk_at "SUB")
local macro_rules | `(tactic| walk_at "subscriptTail") => `(tactic| walk_at "SUB")
local macro_rules | `(tactic| walk_at "call type:enumerate") => `(tactic| (k_here; refine Stop.out ?_))
local macro_rules | `(tactic| walk_at "TurnQ") => `(tactic| dsimp only [TurnQ])
local macro_rules | `(tactic| walk_at "exec Raise some none") => `(tactic| (k_here; refine Stop.out ?_))
local macro_rules | `(tactic| walk_at "RAISE") => `(tactic| (k_here; k_dflt (refine' Raise_madeB PySem.F.excCall_OverflowError PySem.F.excRaise_OverflowError ?hh ?hx; (case hh => rfl))))
local macro_rules | `(tactic| walk_at "leaving ref") => `(tactic| (k_here; k_dflt (refine' raise_any ?k1 ?f ?kk ?k0 ?k2 ?k3 ?_; (case f => exact rfl); (case kk => exact rfl); (case k0 => exact Heap.MadeExc.of (by assumption)); (case k1 => assumption); (case k2 => assumption); (case k3 => k_asm); k_whole); intro h' t' R' U'; (try dsimp only at R' U' ⊢); refine Stop.out ?_))
local macro_rules | `(tactic| k_room) => `(tactic| ktr_room)
local macro_rules | `(tactic| walk_at "ENTER C") => `(tactic| (refine' code_defC ?k1 ?k2 ?k3 ?k4 ?k5 ?kA ?kF ?kK ?k6 ?k7 ?k8 ?k9 ?kB ?kD ?_ ?c2 ?c3 ?c4; (case kA => exact rfl); (case kF => exact rfl); (case kK => assumption); (case k1 => k_asm); (case k2 => k_asm); (case k3 => k_asm); (case k4 => k_asm); (case k5 => k_asm); (case k6 => k_is); (case k7 => k_is); (case k8 => ktr_room); (case k9 => first | exact BindsTo.of_eq rfl | exact binds_K (by k_in) rfl (by k_is) rfl rfl rfl | fail "k_enter: no rule for these arguments"); (case kB => exact rfl); (case kD => decide +kernel); (case c2 => exact rfl); (case c3 => exact rfl); (case c4 => exact rfl); k_whole; intro g' L' h' tk' cells' FG' F' N' Y' B' X' T' l1; (try k_lt l1); k_cells Y'; (try simp only [List.cons_append, List.nil_append] at N'); (try dsimp only); (try k_lift B'); (try k_fold)))
local macro_rules | `(tactic| walk_at "TurnQ") => `(tactic| dsimp only [TurnQ])
local macro_rules | `(tactic| walk_at "ENTER P") => `(tactic| (refine' code_def ?k1 ?k2 ?k3 ?k4 ?k5 ?kA ?kF ?kK ?k6 ?k7 ?k8 ?k9 ?kB ?_ ?c2 ?c3 ?c4 ?c5; (case kA => exact rfl); (case kF => exact rfl); (case kK => assumption); (case k1 => k_asm); (case k2 => k_asm); (case k3 => k_asm); (case k4 => k_asm); (case k5 => k_asm); (case k6 => k_is); (case k7 => k_is); (case k8 => ktr_room); (case k9 => first | exact BindsTo.of_eq rfl | exact binds_K (by k_in) rfl (by k_is) rfl rfl rfl | fail "k_enter: no rule for these arguments"); (case c5 => decide); (case kB => exact locs rfl); (case c2 => exact rfl); (case c3 => exact rfl); (case c4 => exact rfl); k_whole; intro g' L' h' FG' F' N' B' X' T'; (try dsimp only); (try k_lift B'); (try k_fold)))
def lawStmt : Stmt := Challenge.rw_db5010_01.row.prog.main.body.getLastD (.Pass default)
def lawBody : List Stmt := match lawStmt with | .FunctionDef _ _ b _ _ _ _ _ _ _ => b | _ => []
def readStmt : Stmt := (lawBody.drop 4).headD (.Pass default)
def deedStmt : Stmt := (lawBody.drop 9).headD (.Pass default)
def mkFn (d : Stmt) (qual : Str) (clos : List (Str × Addr)) (doc pm : Value) (c' : Addr) (ctv : Value) : Obj := match d with | .FunctionDef name params body _ _ _ scope _ _ _ => fnMade name qual params body scope clos doc pm c' ctv | _ => default
local macro_rules | `(tactic| walk_at "call builtin:list.index") => `(tactic| (k_here; k_dflt (first | refine index_word 0 0 rfl (by k_asm) (by k_mem) (by decide) ?_ | refine index_word 1 1 rfl (by k_asm) (by k_mem) (by decide) ?_ | refine index_word 2 2 rfl (by k_asm) (by k_mem) (by decide) ?_ | refine index_word 3 3 rfl (by k_asm) (by k_mem) (by decide) ?_ | refine index_word 4 4 rfl (by k_asm) (by k_mem) (by decide) ?_)))
theorem map_modr {depth : Int} {ks : List Int} (h : (ks.length : Int) = depth) : List.map (fun k' : Int => ks.getD (k'.fmod depth).toNat 0) (rangeKs 0 (depth - 0).toNat) = ks := by
  subst h
  have e : ((ks.length : Int) - 0).toNat = ks.length := by omega
  rw [e]
  apply List.ext_getElem
  · simp [rangeKs]
  · intro i h1 h2
    have h3 : ((i : Int)).fmod (ks.length : Int) = (i : Int) := by rw [Int.fmod_eq_emod_of_nonneg _ (by omega)]; exact Int.emod_eq_of_lt (by omega) (by omega)
    simp only [rangeKs, List.getElem_map, List.getElem_range, Int.zero_add, h3, Int.toNat_natCast, List.getD_eq_getElem?_getD, List.getElem?_eq_getElem h2, Option.getD_some]
theorem ints_modr {depth : Int} {ks : List Int} {ys : List Value} (h : (ks.length : Int) = depth) (hi : IntsAre ys (List.map (fun k' : Int => ks.getD (k'.fmod depth).toNat 0) (rangeKs 0 (depth - 0).toNat))) : IntsAre ys ks := by rwa [map_modr h] at hi
theorem sub_read {α : Type} {a b1 b2 b3 b4 b5 b6 b7 b8 b9 c1 c2 c3 c4 : α} {l : List α} : ∀ p ∈ a :: l, p ∈ a :: b1 :: b2 :: b3 :: b4 :: b5 :: b6 :: b7 :: b8 :: b9 :: c1 :: c2 :: c3 :: c4 :: l := fun p hp => by
  rcases List.mem_cons.mp hp with rfl | hp
  · exact .head _
  · exact .tail _ (.tail _ (.tail _ (.tail _ (.tail _ (.tail _ (.tail _ (.tail _ (.tail _ (.tail _ (.tail _ (.tail _ (.tail _ (.tail _ hp)))))))))))))
theorem fn_mem {h₀ h : Heap} {L f : Addr} {oF o : Obj} {l : List (Addr × Obj)} (_N : News h₀ L h ((f, oF) :: l)) (e : oF = o) : (f, o) ∈ (f, oF) :: l := e ▸ .head _
theorem read_c {w : World} {loose : List Str} {mean : ExcName → Option Value} {mg mb : Str → Option Value}
   (dp un : Nat) (gd : Option (List Code)) (cn : Str) (cs : Scope) (a : Addr) (ccd : Value) (cl : List (Str × Addr)) (outer : List Env) (A₀ : Around) (base h₀ : Heap) (L : Addr) (m : Str → Option Value) (s : Shared) (Q E : Value → Shared → Prop)
   (f c' cd cr cw lr lw r0 r1 r2 r3 r4 : Addr) (oF oc' od or ow : Obj) (vs : Array Value) (tq : Tok) (doc pm ctv : Value) (s0 s1 s2 s3 s4 td tm : Tok) (depth : Int) (nr nw n0 n1 n2 n3 n4 : Nat) (v0 v1 v2 v3 v4 : List Value) (k0 k1 k2 k3 k4 : List Int) (rest : List (Addr × Obj))
   (B : Below A₀ base outer h₀) (F : Fr h₀ L s.heap m) (X : (hd.heap_39 w.params).In h₀) (T : Top topProg loose mean mg mb h₀) (hk : cs.kind = .function) (hd : dp + 12 < recursionLimit) (hu : un + 24 < cLine)
   (CH : CodeHd h₀ 357 353)
   (N : News h₀ L s.heap ((f, oF) :: (c', oc') :: (cd, od) :: (cr, or) :: (cw, ow) :: (lr, listOf [.ref r0, .ref r1, .ref r2, .ref r3, .ref r4].toArray nr) :: (lw, listOf [.str "k0" s0, .str "k1" s1, .str "k2" s2, .str "k3" s3, .str "k4" s4].toArray nw) ::
      (r0, listOf v0.toArray n0) :: (r1, listOf v1.toArray n1) :: (r2, listOf v2.toArray n2) :: (r3, listOf v3.toArray n3) :: (r4, listOf v4.toArray n4) :: rest))
   (hoF : oF = mkFn readStmt "law.<locals>.reading" [("words", cw), ("rows", cr), ("depth", cd)] doc pm c' ctv)
   (hc1 : oc'.data = .fields vs) (hc2 : vs[1]? = some (.str "law.<locals>.reading" tq)) (hd1 : od.data = .cell (some (.int depth td))) (hd2 : or.data = .cell (some (.ref lr))) (hd3 : ow.data = .cell (some (.ref lw)))
   (i0 : IntsAre v0 k0) (i1 : IntsAre v1 k1) (i2 : IntsAre v2 k2) (i3 : IntsAre v3 k3) (i4 : IntsAre v4 k4)
   (hl0 : (k0.length : Int) = depth) (hl1 : (k1.length : Int) = depth) (hl2 : (k2.length : Int) = depth) (hl3 : (k3.length : Int) = depth) (hl4 : (k4.length : Int) = depth) (hdep : 1 ≤ depth ∧ depth ≤ 3)
   (key : Value) (ks : List Int) (hsel : (key = .str "k0" s0 ∧ ks = k0) ∨ (key = .str "k1" s1 ∧ ks = k1) ∨ (key = .str "k2" s2 ∧ ks = k2) ∨ (key = .str "k3" s3 ∧ ks = k3) ∨ (key = .str "k4" s4 ∧ ks = k4))
   (hret : ∀ D h' tk ys n, Fr h₀ L h' m → News h₀ L h' ((D, listOf ys.toArray n) :: rest) → LCg.Off1 D rest → IntsAre ys ks → Q (.ref D) { s with heap := h', toks := tk }) :
   wpAny (model Challenge.rw_db5010_01.row.prog w) (ktrTop dp un gd cn cs L a ccd cl outer) (call (.ref f) [key, .int depth tm]) Q E s := by
  (w_top off; revert X; k_fill; intro X)
  conv at hoF => rhs; whnf
  have hmem := fn_mem N hoF
  rcases hsel with ⟨rfl, rfl⟩ | ⟨rfl, rfl⟩ | ⟨rfl, rfl⟩ | ⟨rfl, rfl⟩ | ⟨rfl, rfl⟩
  all_goals (
    refine wpAny_call ?_
    refine' code_one ?k1 ?k2 ?k3 ?k4 ?k5 ?kA ?kF ?kK ?k6 ?k7 ?k8 ?k9 ?ka ?kb ?kc ?_ ?c2 ?c3 ?c4
    case kA => exact rfl
    case kF => exact rfl
    case kK => assumption
    case k1 => k_asm
    case k2 => k_asm
    case k3 => k_asm
    case k4 => k_asm
    case k5 => k_asm
    case k6 => exact hmem
    case k7 => exact codeRec_news (by k_asm) (by k_mem) (by assumption) (by assumption)
    case k8 => ktr_room
    case k9 => exact BindsTo.of_eq rfl
    case ka => exact rfl
    case kb => decide
    case kc => exact rfl
    case c2 => exact rfl
    case c3 => exact rfl
    case c4 => exact rfl
    intro g' L' h' tk' ok' FG' F' N' dk' B' X' T' l'
    clear hmem hoF
    (try dsimp only); (try k_lift B'); (try k_fold)
    (try k_lt l')
    k_steps
    (rename Fr h₀ _ _ _ => lF'); (rename News h₀ _ _ _ => lN')
    rename_i o1' _ _
    (rename IntsAre _ (List.map _ (rangeKs _ _)) => lI')
    exact hret _ _ _ _ _ lF' (news_sub lN' sub_read) o1'.2.2.2.2.2.2.2.2.2.2.2.2.2 (ints_modr (by assumption) lI'))
end Mine
namespace Mine
set_option maxRecDepth 100000
set_option maxHeartbeats 1000000
local macro_rules | `(tactic| l_idx) => `(tactic| first | exact within_lo (by with_reducible assumption) (by with_reducible assumption) | exact within_hi (by with_reducible assumption) (by with_reducible assumption) | (refine Int.lt_of_lt_of_le (within_hi (by with_reducible assumption) (by with_reducible assumption)) ?_; omega))
local macro_rules | `(tactic| k_ne) => `(tactic| (refine neN ?_; (try dsimp only); with_reducible assumption))
local macro_rules | `(tactic| k_all) => `(tactic| with_reducible assumption)
local macro_rules | `(tactic| k_all) => `(tactic| first | (refine all_app ?ka ?kb; (case ka => k_all); (case kb => k_all)) | exact rest_ne (by tbn_find) (by (try dsimp only); omega) | exact OwnOff.ne (by assumption) (by k_memK))
local macro_rules | `(tactic| walk_at "exec For") => `(tactic| (k_here; refine Stop.out ?_))
local macro_rules | `(tactic| walk_at "exec For Name Call cons nil") => `(tactic| (k_here; refine Stop.out ?_))
local macro_rules | `(tactic| walk_at "exec For Name Name cons nil") => `(tactic| (k_here; refine Stop.out ?_))
local macro_rules | `(tactic| walk_at "exec For Tuple Call cons nil") => `(tactic| (k_here; refine Stop.out ?_))
local macro_rules | `(tactic| walk_at "exec For Tuple Call cons nil cons nil") => `(tactic| (k_here; refine Stop.out ?_))
local macro_rules | `(tactic| walk_at "LEN9") => `(tactic| first | with_reducible assumption | exact n_le9 (by with_reducible assumption))
local macro_rules | `(tactic| walk_at "IDXN") => `(tactic| first
  | with_reducible assumption
  | exact within_hi (by with_reducible assumption) (by with_reducible assumption)
  | exact idx_hi (by with_reducible assumption)
  | exact range_hi (by with_reducible assumption)
  | exact fmods_hi (by with_reducible assumption) (by omega))
local macro_rules | `(tactic| walk_at "IDX") => `(tactic| first
  | with_reducible assumption
  | exact within_lo (by with_reducible assumption) (by with_reducible assumption)
  | exact range_lo (by with_reducible assumption)
  | exact fmods_lo (by with_reducible assumption) (by omega)
  | walk_at "IDXN"
  | (law_purse 20000 => omega))
local macro_rules | `(tactic| walk_at "IDXF") => `(tactic| first | exact idx_fit (by walk_at "IDXN") (by walk_at "LEN9") | (law_purse 20000 => omega))
local macro_rules | `(tactic| walk_at "setItem ref int") => `(tactic| (k_here; (with_reducible show wpAny _ _ (setItem (Value.ref _) (Value.int _ _) (Value.int _ _)) _ _ _); k_dflt (refine' ksa_set ?k1 ?k2 ?k3 ?k4 ?k5 ?k6 ?k7 ?_; (case k1 => k_asm); (case k2 => k_asm); (case k3 => k_upd); (case k4 => with_reducible assumption); (case k5 => walk_at "IDX"); (case k6 => walk_at "IDX"); (case k7 => walk_at "IDXF"); k_whole); intro h' F' N' hi' hl' hs'; (try k_sweep)))
local macro_rules | `(tactic| walk_at "getItem ref int") => `(tactic| (k_here; (with_reducible show wpAny _ _ (getItem (Value.ref _) (Value.int _ _)) _ _ _); k_dflt (refine' ksa_get ?k1 ?k2 ?k3 ?k4 ?k5 ?k6 ?_; (case k1 => k_asm); (case k2 => k_mem); (case k3 => with_reducible assumption); (case k4 => walk_at "IDX"); (case k5 => walk_at "IDX"); (case k6 => walk_at "IDXF"); k_whole); intro _))
local macro_rules | `(tactic| walk_at "SUB") => `(tactic| (k_here; (with_reducible show wpAny _ _ (subscriptTail _ _ (Value.ref _) (Value.int _ _)) _ _ _); k_dflt (refine' ksa_sub ?k1 ?k2 ?k3 ?k4 ?k5 ?k6 ?_ ?k7; (case k1 => k_asm); (case k2 => k_mem); (case k3 => with_reducible assumption); (case k4 => walk_at "IDX"); (case k5 => walk_at "IDX"); (case k6 => walk_at "IDXF"); (case k7 => with_unfolding_all rfl); k_whole); intro _))
local macro_rules | `(tactic| walk_at "subscriptTail Name Name ref int") => `(tactic| first | walk_at "SUB" | (k_here; refine Stop.out ?_))
local macro_rules | `(tactic| walk_at "subscriptTail Attribute") => `(tactic| first | walk_at "SUB" | (k_here; refine Stop.out ?_))
local macro_rules | `(tactic| walk_at "subscriptTail Attribute Name") => `(tactic| first | walk_at "SUB" | (k_here; refine Stop.out ?_))
local macro_rules | `(tactic| walk_at "subscriptTail Attribute Name ref") => `(tactic| first | walk_at "SUB" | (k_here; refine Stop.out ?_))
local macro_rules | `(tactic| walk_at "subscriptTail Attribute Name Name") => `(tactic| first | walk_at "SUB" | (k_here; refine Stop.out ?_))
local macro_rules | `(tactic| walk_at "subscriptTail Attribute Name Name ref int") => `(tactic| first | walk_at "SUB" | (k_here; refine Stop.out ?_))
local macro_rules | `(tactic| walk_at "subscriptTail Attribute Name Name ref") => `(tactic| first | walk_at "SUB" | (k_here; refine Stop.out ?_))
local macro_rules | `(tactic| walk_at "subscriptTail Attribute Name ref int") => `(tactic| first | walk_at "SUB" | (k_here; refine Stop.out ?_))
local macro_rules | `(tactic| walk_at "subscriptTail") => `(tactic| first | walk_at "SUB" | (k_here; refine Stop.out ?_))
local macro_rules | `(tactic| walk_at "call type:enumerate") => `(tactic| (k_here; refine Stop.out ?_))
local macro_rules | `(tactic| walk_at "TurnQ") => `(tactic| dsimp only [TurnQ])
local macro_rules | `(tactic| walk_at "exec Raise some none") => `(tactic| (k_here; refine Stop.out ?_))
local macro_rules | `(tactic| walk_at "RAISE") => `(tactic| (k_here; k_dflt (refine' Raise_madeB PySem.F.excCall_OverflowError PySem.F.excRaise_OverflowError ?hh ?hx; (case hh => rfl))))
local macro_rules | `(tactic| walk_at "leaving ref") => `(tactic| (k_here; k_dflt (refine' raise_any ?k1 ?f ?kk ?k0 ?k2 ?k3 ?_; (case f => exact rfl); (case kk => exact rfl); (case k0 => exact Heap.MadeExc.of (by assumption)); (case k1 => assumption); (case k2 => assumption); (case k3 => k_asm); k_whole); intro h' t' R' U'; (try dsimp only at R' U' ⊢); refine Stop.out ?_))
local macro_rules | `(tactic| k_room) => `(tactic| ktr_room)
local macro_rules | `(tactic| walk_at "ENTER C") => `(tactic| (refine' code_defC ?k1 ?k2 ?k3 ?k4 ?k5 ?kA ?kF ?kK ?k6 ?k7 ?k8 ?k9 ?kB ?kD ?_ ?c2 ?c3 ?c4; (case kA => exact rfl); (case kF => exact rfl); (case kK => assumption); (case k1 => k_asm); (case k2 => k_asm); (case k3 => k_asm); (case k4 => k_asm); (case k5 => k_asm); (case k6 => k_is); (case k7 => k_is); (case k8 => ktr_room); (case k9 => first | exact BindsTo.of_eq rfl | exact binds_K (by k_in) rfl (by k_is) rfl rfl rfl | fail "k_enter: no rule for these arguments"); (case kB => exact rfl); (case kD => decide +kernel); (case c2 => exact rfl); (case c3 => exact rfl); (case c4 => exact rfl); k_whole; intro g' L' h' tk' cells' FG' F' N' Y' B' X' T' l1; (try k_lt l1); k_cells Y'; (try simp only [List.cons_append, List.nil_append] at N'); (try dsimp only); (try k_lift B'); (try k_fold)))
local macro_rules | `(tactic| walk_at "TurnQ") => `(tactic| dsimp only [TurnQ])
local macro_rules | `(tactic| walk_at "ENTER P") => `(tactic| (refine' code_def ?k1 ?k2 ?k3 ?k4 ?k5 ?kA ?kF ?kK ?k6 ?k7 ?k8 ?k9 ?kB ?_ ?c2 ?c3 ?c4 ?c5; (case kA => exact rfl); (case kF => exact rfl); (case kK => assumption); (case k1 => k_asm); (case k2 => k_asm); (case k3 => k_asm); (case k4 => k_asm); (case k5 => k_asm); (case k6 => k_is); (case k7 => k_is); (case k8 => ktr_room); (case k9 => first | exact BindsTo.of_eq rfl | exact binds_K (by k_in) rfl (by k_is) rfl rfl rfl | fail "k_enter: no rule for these arguments"); (case c5 => decide); (case kB => exact locs rfl); (case c2 => exact rfl); (case c3 => exact rfl); (case c4 => exact rfl); k_whole; intro g' L' h' FG' F' N' B' X' T'; (try dsimp only); (try k_lift B'); (try k_fold)))
/-- a call of the reading at any ledger that holds the rest gives a fresh list -/
structure ReadsAs (w : World) (loose : List Str) (mean : ExcName → Option Value) (mg mb : Str → Option Value) (f : Addr) (key : Value) (ks : List Int) (rest : List (Addr × Obj)) : Prop where
  fn : ∀ {h₀ h : Heap} {L : Addr} {pre : List (Addr × Obj)}, News h₀ L h (pre ++ rest) → FnAt f h
  call : ∀ (dp un : Nat) (gd : Option (List Code)) (cn : Str) (cs : Scope) (a : Addr) (ccd : Value) (cl : List (Str × Addr)) (outer : List Env) (A₀ : Around) (base h₀ : Heap) (L : Addr) (m : Str → Option Value) (s : Shared) (Q E : Value → Shared → Prop) (tm : Tok) (pre : List (Addr × Obj)),
    Below A₀ base outer h₀ → Fr h₀ L s.heap m → (hd.heap_39 w.params).In h₀ → Top topProg loose mean mg mb h₀ → cs.kind = .function → dp + 12 < recursionLimit → un + 24 < cLine → CodeHd h₀ 357 353 → News h₀ L s.heap (pre ++ rest) →
    (∀ D h' tk ys n, Fr h₀ L h' m → News h₀ L h' ((D, listOf ys.toArray n) :: (pre ++ rest)) → LCg.Off1 D (pre ++ rest) → IntsAre ys ks → Q (.ref D) { s with heap := h', toks := tk }) →
    wpAny (model Challenge.rw_db5010_01.row.prog w) (ktrTop dp un gd cn cs L a ccd cl outer) (call (.ref f) [key, .int (ks.length : Int) tm]) Q E s
local macro_rules | `(tactic| walk_at "callWith ref") => `(tactic| (k_here; k_dflt (refine callWith_F (ReadsAs.fn (pre := [_, _]) (by with_reducible assumption) (by k_asm)) ?_)))
local macro_rules | `(tactic| walk_at "FnAt") => `(tactic| (k_dflt (exact ReadsAs.fn (pre := [_, _]) (by with_reducible assumption) (by k_asm))))
local macro_rules | `(tactic| walk_at "call ref") => `(tactic| (k_here; refine Stop.out ?_))
theorem hash_c {w : World} {loose : List Str} {mean : ExcName → Option Value} {mg mb : Str → Option Value}
   (dp un : Nat) (gd : Option (List Code)) (cn : Str) (cs : Scope) (a : Addr) (ccd : Value) (cl : List (Str × Addr)) (outer : List Env) (A₀ : Around) (base h₀ : Heap) (L : Addr) (m : Str → Option Value) (s : Shared) (Q E : Value → Shared → Prop)
   (x dx bl : Addr) (ks : List Int) (els : Int) (t6 : Tok) (c : CM) (pre rest : List (Addr × Obj)) (key : Value)
   (B : Below A₀ base outer h₀) (F : Fr h₀ L s.heap m) (X : (hd.heap_39 w.params).In h₀) (T : Top topProg loose mean mg mb h₀) (hk : cs.kind = .function) (hd : dp + 14 < recursionLimit) (hu : un + 36 < cLine)
   (N : News h₀ L s.heap ((x, instObj 396 dx) :: (dx, dictOf (c.ents els t6 bl) 12) :: rest)) (CH : CodeHd h₀ 357 353) (R : ReadsAs w loose mean mg mb c.fn key ks rest) (hdep : c.depth = (ks.length : Int))
   (hret : ∀ D h' tk ys n, Fr h₀ L h' m → News h₀ L h' ((D, listOf ys.toArray n) :: (x, instObj 396 dx) :: (dx, dictOf (c.ents els t6 bl) 12) :: rest) → LCg.Off1 D ((x, instObj 396 dx) :: (dx, dictOf (c.ents els t6 bl) 12) :: rest) → IntsAre ys ks → Q (.ref D) { s with heap := h', toks := tk }) :
   wpAny (model Challenge.rw_db5010_01.row.prog w) (ktrTop dp un gd cn cs L a ccd cl outer) (call (.ref 212) [.ref x, key]) Q E s := by
  (w_top off; revert X; k_fill; intro X)
  refine wpAny_call ?_
  k_dflt (walk_at "ENTER P")
  k_steps
  refine Stop.go ?_
  (rename Fr _ _ _ _ => lF'); (rename News _ _ _ _ => lN')
  rw [hdep]
  refine R.call (dp + 1) _ _ _ _ _ _ _ _ _ _ _ _ _ _ _ _ _ [_, _] (by assumption) lF' (by assumption) (by assumption) rfl (by omega) ?_ (CH.keeps (Fr.keep (h₀ := h₀) (L := L) (by assumption))) lN' ?_
  · show un + 3 + 24 < _
    omega
  · intro D h1 tk1 ys n1 F1 N1 o1 i1
    clear lF' lN'
    k_steps
    exact hret D _ _ ys n1 (by assumption) (by assumption) o1 i1
theorem ReadsAs.cons {w : World} {loose : List Str} {mean : ExcName → Option Value} {mg mb : Str → Option Value} {f : Addr} {key : Value} {ks : List Int} {rest : List (Addr × Obj)} {q : Addr × Obj} (R : ReadsAs w loose mean mg mb f key ks rest) : ReadsAs w loose mean mg mb f key ks (q :: rest) :=
  ⟨fun {_ _ _ pre} N => R.fn (pre := pre ++ [q]) (by simpa using N), fun dp un gd cn cs a ccd cl outer A₀ base h₀ L m s Q E tm pre B F X T hk hd hu CH N h => R.call dp un gd cn cs a ccd cl outer A₀ base h₀ L m s Q E tm (pre ++ [q]) B F X T hk hd hu CH (by simpa using N) fun D h' tk ys n F' N' o' i' => h D h' tk ys n F' (by simpa using N') (by simpa using o') i'⟩
theorem addw_c {w : World} {loose : List Str} {mean : ExcName → Option Value} {mg mb : Str → Option Value}
   (dp un : Nat) (gd : Option (List Code)) (cn : Str) (cs : Scope) (a : Addr) (ccd : Value) (cl : List (Str × Addr)) (outer : List Env) (A₀ : Around) (base h₀ : Heap) (L : Addr) (m : Str → Option Value) (s : Shared) (Q E : Value → Shared → Prop)
   (x dx bl : Addr) (cv : List Value) (nc : Nat) (cells ks : List Int) (els amt : Int) (t t6 : Tok) (c : CM) (rest : List (Addr × Obj)) (key : Value)
   (B : Below A₀ base outer h₀) (F : Fr h₀ L s.heap m) (X : (hd.heap_39 w.params).In h₀) (T : Top topProg loose mean mg mb h₀) (hk : cs.kind = .function) (hd : dp + 16 < recursionLimit) (hu : un + 48 < cLine)
   (N : News h₀ L s.heap ((x, instObj 396 dx) :: (dx, dictOf (c.ents els t6 bl) 12) :: (bl, listOf cv.toArray nc) :: rest)) (CH : CodeHd h₀ 357 353) (R : ReadsAs w loose mean mg mb c.fn key ks rest)
   (hc : IntsAre cv cells) (hord : @Ne Nat dx x ∧ @Ne Nat dx bl ∧ @Ne Nat x bl) (hoff : OwnOff rest [x, dx, bl])
   (hdep : c.depth = (ks.length : Int)) (hbit : c.bits = (cells.length : Int)) (hlen : ks.length ≤ 3) (hlen0 : 0 < ks.length) (hclen : cells.length ≤ 9) (hclen0 : 0 < cells.length)
   (hcb : InTop cells) (hbits : Small amt)
   (hexc : ∀ g h' e te vs tk' cv' c', Fr h₀ L g m → RaisedS base g (envX cn cs L a ccd cl :: outer) e (.type "OverflowError") te vs ((x, instObj 396 dx) :: (dx, dictOf (c.ents els t6 bl) 12) :: (bl, listOf cv'.toArray nc) :: rest) h' → g.UpToSlots h' →
     IntsAre cv' c' → raised cells (ks.map fun k => Int.fmod k (cells.length : Int)) amt = (c', none) → E (.ref e) { s with heap := h', toks := tk' })
   (hret : ∀ h' tk' cv' c' els' t6' v tv, Fr h₀ L h' m → News h₀ L h' ((x, instObj 396 dx) :: (dx, dictOf (c.ents els' t6' bl) 12) :: (bl, listOf cv'.toArray nc) :: rest) →
     IntsAre cv' c' → raised cells (ks.map fun k => Int.fmod k (cells.length : Int)) amt = (c', some v) → els' = min (els + amt) 18446744073709551615 → Q (.int v tv) { s with heap := h', toks := tk' }) :
   wpAny (model Challenge.rw_db5010_01.row.prog w) (ktrTop dp un gd cn cs L a ccd cl outer) (call (.ref 338) [.ref x, key, .int amt t]) Q E s := by
  (w_top off; revert X; k_fill; intro X)
  refine wpAny_call ?_
  k_dflt (walk_at "ENTER P")
  k_steps
  refine Stop.go ?_
  (rename Fr _ _ _ _ => lF'); (rename News _ _ _ _ => lN')
  refine hash_c (dp + 1) _ _ _ _ _ _ _ _ _ _ _ _ _ _ _ _ x dx bl ks els t6 c [] ((bl, listOf cv.toArray nc) :: rest) key (by assumption) lF' (by assumption) (by assumption) rfl (by omega) ?_ lN' (CH.keeps (Fr.keep (h₀ := h₀) (L := L) (by assumption))) R.cons hdep ?_
  · show un + 3 + 36 < _
    omega
  · intro D h1 tk1 ys n1 F1 N1 o1 i1
    clear lF' lN'
    obtain ⟨oD1, oD2, oD3, oD4⟩ := o1
    k_steps
    refine Stop.go ?_
    refine add_c (dp + 1) _ _ _ _ _ _ _ _ _ _ _ _ _ _ _ _ x dx bl D cv ys nc n1 cells ks els amt t t6 c rest (by assumption) F1 (by assumption) (by assumption) rfl (by omega) ?_ (news_sub N1 (by kcf_all)) hc i1 ⟨hord.1, hord.2.1, oD2, hord.2.2, oD1, oD3⟩ hoff hdep hbit hlen hlen0 hclen hclen0 hcb hbits ?_ ?_
    · show un + 3 + 24 < _
      omega
    · intro g h2 e te vs tk2 cv2 c2 Fg Rs Us ic2 hr2
      clear N1 F1
      show wpAny _ _ _ _ _ _
      exact on_any (by assumption) rfl Fg Rs Us (fun h3 R3 U3 => hexc _ h3 e te vs tk2 cv2 c2 (by assumption) (raised_sub R3 (by kcf_all)) U3 ic2 hr2)
    · intro h2 tk2 cv2 c2 els2 t62 v tv F2 N2 ic2 hr2 he2
      clear N1 F1
      k_steps
      exact hret _ _ cv2 c2 els2 t62 v tv (by assumption) (news_sub (by assumption) (by kcf_all)) ic2 hr2 he2
theorem remw_c {w : World} {loose : List Str} {mean : ExcName → Option Value} {mg mb : Str → Option Value}
   (dp un : Nat) (gd : Option (List Code)) (cn : Str) (cs : Scope) (a : Addr) (ccd : Value) (cl : List (Str × Addr)) (outer : List Env) (A₀ : Around) (base h₀ : Heap) (L : Addr) (m : Str → Option Value) (s : Shared) (Q E : Value → Shared → Prop)
   (x dx bl : Addr) (cv : List Value) (nc : Nat) (cells ks : List Int) (els amt : Int) (t t6 : Tok) (c : CM) (rest : List (Addr × Obj)) (key : Value)
   (B : Below A₀ base outer h₀) (F : Fr h₀ L s.heap m) (X : (hd.heap_39 w.params).In h₀) (T : Top topProg loose mean mg mb h₀) (hk : cs.kind = .function) (hd : dp + 16 < recursionLimit) (hu : un + 48 < cLine)
   (N : News h₀ L s.heap ((x, instObj 396 dx) :: (dx, dictOf (c.ents els t6 bl) 12) :: (bl, listOf cv.toArray nc) :: rest)) (CH : CodeHd h₀ 357 353) (R : ReadsAs w loose mean mg mb c.fn key ks rest)
   (hc : IntsAre cv cells) (hord : @Ne Nat dx x ∧ @Ne Nat dx bl ∧ @Ne Nat x bl) (hoff : OwnOff rest [x, dx, bl])
   (hdep : c.depth = (ks.length : Int)) (hbit : c.bits = (cells.length : Int)) (hlen : ks.length ≤ 3) (hlen0 : 0 < ks.length) (hclen : cells.length ≤ 9) (hclen0 : 0 < cells.length)
   (hcb : InTop cells) (hbits : Small amt)
   (hexc : ∀ g h' e te vs tk' cv' c', Fr h₀ L g m → RaisedS base g (envX cn cs L a ccd cl :: outer) e (.type "OverflowError") te vs ((x, instObj 396 dx) :: (dx, dictOf (c.ents els t6 bl) 12) :: (bl, listOf cv'.toArray nc) :: rest) h' → g.UpToSlots h' →
     IntsAre cv' c' → lowered cells (ks.map fun k => Int.fmod k (cells.length : Int)) amt = (c', none) → E (.ref e) { s with heap := h', toks := tk' })
   (hret : ∀ h' tk' cv' c' els' t6' v tv tk0, Fr h₀ L h' m → News h₀ L h' ((x, instObj 396 dx) :: (dx, dictOf (c.ents els' t6' bl) 12) :: (bl, listOf cv'.toArray nc) :: rest) →
     IntsAre cv' c' → lowered cells (ks.map fun k => Int.fmod k (cells.length : Int)) amt = (c', some (v, tk0)) → els' = els - tk0 → Q (.int v tv) { s with heap := h', toks := tk' }) :
   wpAny (model Challenge.rw_db5010_01.row.prog w) (ktrTop dp un gd cn cs L a ccd cl outer) (call (.ref 366) [.ref x, key, .int amt t]) Q E s := by
  (w_top off; revert X; k_fill; intro X)
  refine wpAny_call ?_
  k_dflt (walk_at "ENTER P")
  k_steps
  refine Stop.go ?_
  (rename Fr _ _ _ _ => lF'); (rename News _ _ _ _ => lN')
  refine hash_c (dp + 1) _ _ _ _ _ _ _ _ _ _ _ _ _ _ _ _ x dx bl ks els t6 c [] ((bl, listOf cv.toArray nc) :: rest) key (by assumption) lF' (by assumption) (by assumption) rfl (by omega) ?_ lN' (CH.keeps (Fr.keep (h₀ := h₀) (L := L) (by assumption))) R.cons hdep ?_
  · show un + 3 + 36 < _
    omega
  · intro D h1 tk1 ys n1 F1 N1 o1 i1
    clear lF' lN'
    obtain ⟨oD1, oD2, oD3, oD4⟩ := o1
    k_steps
    refine Stop.go ?_
    refine rem_c (dp + 1) _ _ _ _ _ _ _ _ _ _ _ _ _ _ _ _ x dx bl D cv ys nc n1 cells ks els amt t t6 c rest (by assumption) F1 (by assumption) (by assumption) rfl (by omega) ?_ (news_sub N1 (by kcf_all)) hc i1 ⟨hord.1, hord.2.1, oD2, hord.2.2, oD1, oD3⟩ hoff hdep hbit hlen hlen0 hclen hclen0 hcb hbits ?_ ?_
    · show un + 3 + 24 < _
      omega
    · intro g h2 e te vs tk2 cv2 c2 Fg Rs Us ic2 hr2
      clear N1 F1
      show wpAny _ _ _ _ _ _
      exact on_any (by assumption) rfl Fg Rs Us (fun h3 R3 U3 => hexc _ h3 e te vs tk2 cv2 c2 (by assumption) (raised_sub R3 (by kcf_all)) U3 ic2 hr2)
    · intro h2 tk2 cv2 c2 els2 t62 v tv tk0 F2 N2 ic2 hr2 he2
      clear N1 F1
      k_steps
      exact hret _ _ cv2 c2 els2 t62 v tv tk0 (by assumption) (news_sub (by assumption) (by kcf_all)) ic2 hr2 he2
end Mine
namespace Mine
set_option maxRecDepth 100000
set_option maxHeartbeats 1000000
local macro_rules | `(tactic| l_idx) => `(tactic| first | exact within_lo (by with_reducible assumption) (by with_reducible assumption) | exact within_hi (by with_reducible assumption) (by with_reducible assumption) | (refine Int.lt_of_lt_of_le (within_hi (by with_reducible assumption) (by with_reducible assumption)) ?_; omega))
local macro_rules | `(tactic| k_ne) => `(tactic| (refine neN ?_; (try dsimp only); with_reducible assumption))
local macro_rules | `(tactic| k_all) => `(tactic| with_reducible assumption)
local macro_rules | `(tactic| k_all) => `(tactic| first | (refine all_app ?ka ?kb; (case ka => k_all); (case kb => k_all)) | exact rest_ne (by tbn_find) (by (try dsimp only); omega) | exact OwnOff.ne (by assumption) (by k_memK))
local macro_rules | `(tactic| walk_at "exec For") => `(tactic| (k_here; refine Stop.out ?_))
local macro_rules | `(tactic| walk_at "exec For Name Call cons nil") => `(tactic| (k_here; refine Stop.out ?_))
local macro_rules | `(tactic| walk_at "exec For Name Name cons nil") => `(tactic| (k_here; refine Stop.out ?_))
local macro_rules | `(tactic| walk_at "exec For Tuple Call cons nil") => `(tactic| (k_here; refine Stop.out ?_))
local macro_rules | `(tactic| walk_at "exec For Tuple Call cons nil cons nil") => `(tactic| (k_here; refine Stop.out ?_))
local macro_rules | `(tactic| walk_at "LEN9") => `(tactic| first | with_reducible assumption | exact n_le9 (by with_reducible assumption))
local macro_rules | `(tactic| walk_at "IDXN") => `(tactic| first
  | with_reducible assumption
  | exact within_hi (by with_reducible assumption) (by with_reducible assumption)
  | exact idx_hi (by with_reducible assumption)
  | exact range_hi (by with_reducible assumption)
  | exact fmods_hi (by with_reducible assumption) (by omega))
local macro_rules | `(tactic| walk_at "IDX") => `(tactic| first
  | with_reducible assumption
  | exact within_lo (by with_reducible assumption) (by with_reducible assumption)
  | exact range_lo (by with_reducible assumption)
  | exact fmods_lo (by with_reducible assumption) (by omega)
  | walk_at "IDXN"
  | (law_purse 20000 => omega))
local macro_rules | `(tactic| walk_at "IDXF") => `(tactic| first | exact idx_fit (by walk_at "IDXN") (by walk_at "LEN9") | (law_purse 20000 => omega))
local macro_rules | `(tactic| walk_at "setItem ref int") => `(tactic| (k_here; (with_reducible show wpAny _ _ (setItem (Value.ref _) (Value.int _ _) (Value.int _ _)) _ _ _); k_dflt (refine' ksa_set ?k1 ?k2 ?k3 ?k4 ?k5 ?k6 ?k7 ?_; (case k1 => k_asm); (case k2 => k_asm); (case k3 => k_upd); (case k4 => with_reducible assumption); (case k5 => walk_at "IDX"); (case k6 => walk_at "IDX"); (case k7 => walk_at "IDXF"); k_whole); intro h' F' N' hi' hl' hs'; (try k_sweep)))
local macro_rules | `(tactic| walk_at "getItem ref int") => `(tactic| (k_here; (with_reducible show wpAny _ _ (getItem (Value.ref _) (Value.int _ _)) _ _ _); k_dflt (refine' ksa_get ?k1 ?k2 ?k3 ?k4 ?k5 ?k6 ?_; (case k1 => k_asm); (case k2 => k_mem); (case k3 => with_reducible assumption); (case k4 => walk_at "IDX"); (case k5 => walk_at "IDX"); (case k6 => walk_at "IDXF"); k_whole); intro _))
local macro_rules | `(tactic| walk_at "SUB") => `(tactic| (k_here; (with_reducible show wpAny _ _ (subscriptTail _ _ (Value.ref _) (Value.int _ _)) _ _ _); k_dflt (refine' ksa_sub ?k1 ?k2 ?k3 ?k4 ?k5 ?k6 ?_ ?k7; (case k1 => k_asm); (case k2 => k_mem); (case k3 => with_reducible assumption); (case k4 => walk_at "IDX"); (case k5 => walk_at "IDX"); (case k6 => walk_at "IDXF"); (case k7 => with_unfolding_all rfl); k_whole); intro _))
local macro_rules | `(tactic| walk_at "subscriptTail Name Name ref int") => `(tactic| first | walk_at "SUB" | (k_here; refine Stop.out ?_))
local macro_rules | `(tactic| walk_at "subscriptTail Attribute") => `(tactic| first | walk_at "SUB" | (k_here; refine Stop.out ?_))
local macro_rules | `(tactic| walk_at "subscriptTail Attribute Name") => `(tactic| first | walk_at "SUB" | (k_here; refine Stop.out ?_))
local macro_rules | `(tactic| walk_at "subscriptTail Attribute Name ref") => `(tactic| first | walk_at "SUB" | (k_here; refine Stop.out ?_))
local macro_rules | `(tactic| walk_at "subscriptTail Attribute Name Name") => `(tactic| first | walk_at "SUB" | (k_here; refine Stop.out ?_))
local macro_rules | `(tactic| walk_at "subscriptTail Attribute Name Name ref int") => `(tactic| first | walk_at "SUB" | (k_here; refine Stop.out ?_))
local macro_rules | `(tactic| walk_at "subscriptTail Attribute Name Name ref") => `(tactic| first | walk_at "SUB" | (k_here; refine Stop.out ?_))
local macro_rules | `(tactic| walk_at "subscriptTail Attribute Name ref int") => `(tactic| first | walk_at "SUB" | (k_here; refine Stop.out ?_))
local macro_rules | `(tactic| walk_at "subscriptTail") => `(tactic| first | walk_at "SUB" | (k_here; refine Stop.out ?_))
local macro_rules | `(tactic| walk_at "call type:enumerate") => `(tactic| (k_here; refine Stop.out ?_))
local macro_rules | `(tactic| walk_at "TurnQ") => `(tactic| dsimp only [TurnQ])
local macro_rules | `(tactic| walk_at "exec Raise some none") => `(tactic| (k_here; refine Stop.out ?_))
local macro_rules | `(tactic| walk_at "RAISE") => `(tactic| (k_here; k_dflt (refine' Raise_madeB PySem.F.excCall_OverflowError PySem.F.excRaise_OverflowError ?hh ?hx; (case hh => rfl))))
local macro_rules | `(tactic| walk_at "leaving ref") => `(tactic| (k_here; k_dflt (refine' raise_any ?k1 ?f ?kk ?k0 ?k2 ?k3 ?_; (case f => exact rfl); (case kk => exact rfl); (case k0 => exact Heap.MadeExc.of (by assumption)); (case k1 => assumption); (case k2 => assumption); (case k3 => k_asm); k_whole); intro h' t' R' U'; (try dsimp only at R' U' ⊢); refine Stop.out ?_))
local macro_rules | `(tactic| k_room) => `(tactic| ktr_room)
local macro_rules | `(tactic| walk_at "ENTER C") => `(tactic| (refine' code_defC ?k1 ?k2 ?k3 ?k4 ?k5 ?kA ?kF ?kK ?k6 ?k7 ?k8 ?k9 ?kB ?kD ?_ ?c2 ?c3 ?c4; (case kA => exact rfl); (case kF => exact rfl); (case kK => assumption); (case k1 => k_asm); (case k2 => k_asm); (case k3 => k_asm); (case k4 => k_asm); (case k5 => k_asm); (case k6 => k_is); (case k7 => k_is); (case k8 => ktr_room); (case k9 => first | exact BindsTo.of_eq rfl | exact binds_K (by k_in) rfl (by k_is) rfl rfl rfl | fail "k_enter: no rule for these arguments"); (case kB => exact rfl); (case kD => decide +kernel); (case c2 => exact rfl); (case c3 => exact rfl); (case c4 => exact rfl); k_whole; intro g' L' h' tk' cells' FG' F' N' Y' B' X' T' l1; (try k_lt l1); k_cells Y'; (try simp only [List.cons_append, List.nil_append] at N'); (try dsimp only); (try k_lift B'); (try k_fold)))
local macro_rules | `(tactic| walk_at "TurnQ") => `(tactic| dsimp only [TurnQ])
local macro_rules | `(tactic| walk_at "ENTER P") => `(tactic| (refine' code_def ?k1 ?k2 ?k3 ?k4 ?k5 ?kA ?kF ?kK ?k6 ?k7 ?k8 ?k9 ?kB ?_ ?c2 ?c3 ?c4 ?c5; (case kA => exact rfl); (case kF => exact rfl); (case kK => assumption); (case k1 => k_asm); (case k2 => k_asm); (case k3 => k_asm); (case k4 => k_asm); (case k5 => k_asm); (case k6 => k_is); (case k7 => k_is); (case k8 => ktr_room); (case k9 => first | exact BindsTo.of_eq rfl | exact binds_K (by k_in) rfl (by k_is) rfl rfl rfl | fail "k_enter: no rule for these arguments"); (case c5 => decide); (case kB => exact locs rfl); (case c2 => exact rfl); (case c3 => exact rfl); (case c4 => exact rfl); k_whole; intro g' L' h' FG' F' N' B' X' T'; (try dsimp only); (try k_lift B'); (try k_fold)))
local macro_rules | `(tactic| walk_at "callWith ref") => `(tactic| (k_here; k_dflt (refine callWith_F (ReadsAs.fn (pre := [_, _]) (by with_reducible assumption) (by k_asm)) ?_)))
local macro_rules | `(tactic| walk_at "FnAt") => `(tactic| (k_dflt (exact ReadsAs.fn (pre := [_, _]) (by with_reducible assumption) (by k_asm))))
local macro_rules | `(tactic| walk_at "call ref") => `(tactic| (k_here; refine Stop.out ?_))
theorem chkw_c {w : World} {loose : List Str} {mean : ExcName → Option Value} {mg mb : Str → Option Value}
   (dp un : Nat) (gd : Option (List Code)) (cn : Str) (cs : Scope) (a : Addr) (ccd : Value) (cl : List (Str × Addr)) (outer : List Env) (A₀ : Around) (base h₀ : Heap) (L : Addr) (m : Str → Option Value) (s : Shared) (Q E : Value → Shared → Prop)
   (c : CM) (x dx bl : Addr) (cv : List Value) (nc : Nat) (cells ks : List Int) (els : Int) (t6 : Tok) (rest : List (Addr × Obj)) (ps : Array Value) (key : Value)
   (B : Below A₀ base outer h₀) (F : Fr h₀ L s.heap m) (X : (hd.heap_39 w.params).In h₀) (T : Top topProg loose mean mg mb h₀) (hk : cs.kind = .function) (hd : dp + 20 < recursionLimit) (hu : un + 48 < cLine)
   (N : News h₀ L s.heap ((x, instObj 396 dx) :: (dx, dictOf (c.ents els t6 bl) 12) :: (bl, listOf cv.toArray nc) :: (353, tabObj ps) :: rest)) (R : ReadsAs w loose mean mg mb c.fn key ks rest)
   (G : AllBare s.gens) (CH : CodeHd h₀ 357 353) (ht : TriplesOk ps.toList)
   (hc : IntsAre cv cells) (hP : @Ne Nat x 353 ∧ @Ne Nat dx 353 ∧ @Ne Nat bl 353) (hoff : OwnOff rest [353])
   (hdep : c.depth = (ks.length : Int)) (hbit : c.bits = (cells.length : Int)) (hlen0 : 0 < ks.length) (hclen : cells.length ≤ 9) (hclen0 : 0 < cells.length)
   (hret : ∀ t h' gs tk ps', TriplesOk ps'.toList → Fr h₀ L h' m → News h₀ L h' ((x, instObj 396 dx) :: (dx, dictOf (c.ents els t6 bl) 12) :: (bl, listOf cv.toArray nc) :: (353, tabObj ps') :: rest) → AllBare gs →
      Q (.int (mn (ks.map fun k => at_ cells (k.fmod c.bits))) t) { s with heap := h', gens := gs, toks := tk }) :
   wpAny (model Challenge.rw_db5010_01.row.prog w) (ktrTop dp un gd cn cs L a ccd cl outer) (call (.ref 351) [.ref x, key]) Q E s := by
  (w_top off; revert X; k_fill; intro X)
  refine wpAny_call ?_
  k_dflt (walk_at "ENTER P")
  k_steps
  refine Stop.go ?_
  (rename Fr _ _ _ _ => lF'); (rename News _ _ _ _ => lN')
  refine hash_c (dp + 1) _ _ _ _ _ _ _ _ _ _ _ _ _ _ _ _ x dx bl ks els t6 c [] ((bl, listOf cv.toArray nc) :: (353, tabObj ps) :: rest) key (by assumption) lF' (by assumption) (by assumption) rfl (by omega) ?_ lN' (CH.keeps (Fr.keep (h₀ := h₀) (L := L) (by assumption))) R.cons.cons hdep ?_
  · show un + 3 + 36 < _
    omega
  · intro D h1 tk1 ys n1 F1 N1 o1 i1
    clear lF' lN'
    obtain ⟨oD1, oD2, oD3, oD4, oD5⟩ := o1
    k_steps
    refine Stop.go ?_
    refine chk_c (dp + 1) _ _ _ _ _ _ _ _ _ _ _ _ _ _ _ _ c x dx bl D cv ys nc n1 cells ks els t6 rest ps (by assumption) F1 (by assumption) (by assumption) rfl (by omega) ?_ (news_sub N1 (by kcf_all)) G (CH.keeps (Fr.keep (h₀ := h₀) (L := L) (by assumption))) ht hc i1 ⟨hP.1, hP.2.1, hP.2.2, Ne.symm oD4⟩ hoff hbit hlen0 hclen hclen0 ?_
    · show un + 3 + 24 < _
      omega
    · intro t2 h2 gs2 tk2 ps2 ht2 F2 N2 G2
      clear N1 F1
      k_steps
      exact hret t2 _ gs2 _ ps2 ht2 (by assumption) (news_sub (by assumption) (by kcf_all)) G2
theorem has_c {w : World} {loose : List Str} {mean : ExcName → Option Value} {mg mb : Str → Option Value}
   (dp un : Nat) (gd : Option (List Code)) (cn : Str) (cs : Scope) (a : Addr) (ccd : Value) (cl : List (Str × Addr)) (outer : List Env) (A₀ : Around) (base h₀ : Heap) (L : Addr) (m : Str → Option Value) (s : Shared) (Q E : Value → Shared → Prop)
   (c : CM) (x dx bl : Addr) (cv : List Value) (nc : Nat) (cells ks : List Int) (els : Int) (t6 : Tok) (rest : List (Addr × Obj)) (ps : Array Value) (key : Value)
   (B : Below A₀ base outer h₀) (F : Fr h₀ L s.heap m) (X : (hd.heap_39 w.params).In h₀) (T : Top topProg loose mean mg mb h₀) (hk : cs.kind = .function) (hd : dp + 24 < recursionLimit) (hu : un + 64 < cLine)
   (N : News h₀ L s.heap ((x, instObj 396 dx) :: (dx, dictOf (c.ents els t6 bl) 12) :: (bl, listOf cv.toArray nc) :: (353, tabObj ps) :: rest)) (R : ReadsAs w loose mean mg mb c.fn key ks rest)
   (G : AllBare s.gens) (CH : CodeHd h₀ 357 353) (ht : TriplesOk ps.toList)
   (hc : IntsAre cv cells) (hP : @Ne Nat x 353 ∧ @Ne Nat dx 353 ∧ @Ne Nat bl 353) (hoff : OwnOff rest [353])
   (hdep : c.depth = (ks.length : Int)) (hbit : c.bits = (cells.length : Int)) (hlen0 : 0 < ks.length) (hclen : cells.length ≤ 9) (hclen0 : 0 < cells.length)
   (hret : ∀ t h' gs tk ps', TriplesOk ps'.toList → Fr h₀ L h' m → News h₀ L h' ((x, instObj 396 dx) :: (dx, dictOf (c.ents els t6 bl) 12) :: (bl, listOf cv.toArray nc) :: (353, tabObj ps') :: rest) → AllBare gs →
      Q (.int (mn (ks.map fun k => at_ cells (k.fmod c.bits))) t) { s with heap := h', gens := gs, toks := tk }) :
   wpAny (model Challenge.rw_db5010_01.row.prog w) (ktrTop dp un gd cn cs L a ccd cl outer) (call (.ref 116) [.ref x, key]) Q E s := by
  (w_top off; revert X; k_fill; intro X)
  refine wpAny_call ?_
  k_dflt (walk_at "ENTER P")
  k_steps
  refine Stop.go ?_
  (rename Fr _ _ _ _ => lF'); (rename News _ _ _ _ => lN')
  refine chkw_c (dp + 1) _ _ _ _ _ _ _ _ _ _ _ _ _ _ _ _ c x dx bl cv nc cells ks els t6 rest ps key (by assumption) lF' (by assumption) (by assumption) rfl (by omega) ?_ lN' R G (CH.keeps (Fr.keep (h₀ := h₀) (L := L) (by assumption))) ht hc hP hoff hdep hbit hlen0 hclen hclen0 ?_
  · show un + 3 + 48 < _
    omega
  · intro t2 h2 gs2 tk2 ps2 ht2 F2 N2 G2
    clear lF' lN'
    k_steps
    exact hret t2 _ gs2 _ ps2 ht2 (by assumption) (by assumption) G2
end Mine
namespace Mine
set_option maxRecDepth 100000
set_option maxHeartbeats 1000000
theorem read_as {w : World} {loose : List Str} {mean : ExcName → Option Value} {mg mb : Str → Option Value}
   (f c' cd cr cw lr lw r0 r1 r2 r3 r4 : Addr) (oF oc' od or ow : Obj) (vs : Array Value) (tq : Tok) (doc pm ctv : Value) (s0 s1 s2 s3 s4 td : Tok) (depth : Int) (nr nw n0 n1 n2 n3 n4 : Nat) (v0 v1 v2 v3 v4 : List Value) (k0 k1 k2 k3 k4 : List Int) (rest : List (Addr × Obj))
   (hoF : oF = mkFn readStmt "law.<locals>.reading" [("words", cw), ("rows", cr), ("depth", cd)] doc pm c' ctv)
   (hc1 : oc'.data = .fields vs) (hc2 : vs[1]? = some (.str "law.<locals>.reading" tq)) (hd1 : od.data = .cell (some (.int depth td))) (hd2 : or.data = .cell (some (.ref lr))) (hd3 : ow.data = .cell (some (.ref lw)))
   (i0 : IntsAre v0 k0) (i1 : IntsAre v1 k1) (i2 : IntsAre v2 k2) (i3 : IntsAre v3 k3) (i4 : IntsAre v4 k4)
   (hl0 : (k0.length : Int) = depth) (hl1 : (k1.length : Int) = depth) (hl2 : (k2.length : Int) = depth) (hl3 : (k3.length : Int) = depth) (hl4 : (k4.length : Int) = depth) (hdep : 1 ≤ depth ∧ depth ≤ 3)
   (key : Value) (ks : List Int) (hsel : (key = .str "k0" s0 ∧ ks = k0) ∨ (key = .str "k1" s1 ∧ ks = k1) ∨ (key = .str "k2" s2 ∧ ks = k2) ∨ (key = .str "k3" s3 ∧ ks = k3) ∨ (key = .str "k4" s4 ∧ ks = k4))
   (hsub : ∀ p ∈ ((f, oF) :: (c', oc') :: (cd, od) :: (cr, or) :: (cw, ow) :: (lr, listOf [.ref r0, .ref r1, .ref r2, .ref r3, .ref r4].toArray nr) :: (lw, listOf [.str "k0" s0, .str "k1" s1, .str "k2" s2, .str "k3" s3, .str "k4" s4].toArray nw) ::
         (r0, listOf v0.toArray n0) :: (r1, listOf v1.toArray n1) :: (r2, listOf v2.toArray n2) :: (r3, listOf v3.toArray n3) :: (r4, listOf v4.toArray n4) :: [] : List (Addr × Obj)), p ∈ rest) : ReadsAs w loose mean mg mb f key ks rest := by
  have hks : (ks.length : Int) = depth := by
    rcases hsel with h | h | h | h | h <;> (rw [h.2]; assumption)
  refine ⟨fun {h₀ h L pre} N => ?_, ?_⟩
  · have hg := (N _ (List.mem_append_right pre (hsub (f, oF) (.head _)))).1
    conv at hoF => rhs; whnf
    rw [hoF] at hg
    exact ⟨_, _, _, _, hg⟩
  · intro dp un gd cn cs a ccd cl outer A₀ base h₀ L m s Q E tm pre B F X T hk hd hu CH N hret
    rw [hks]
    exact read_c dp un gd cn cs a ccd cl outer A₀ base h₀ L m s Q E f c' cd cr cw lr lw r0 r1 r2 r3 r4 oF oc' od or ow vs tq doc pm ctv s0 s1 s2 s3 s4 td tm depth nr nw n0 n1 n2 n3 n4 v0 v1 v2 v3 v4 k0 k1 k2 k3 k4 (pre ++ rest)
      B F X T hk hd hu CH (news_sub N (fun p hp => (List.mem_append.mp (show p ∈ ((f, oF) :: (c', oc') :: (cd, od) :: (cr, or) :: (cw, ow) :: (lr, listOf [.ref r0, .ref r1, .ref r2, .ref r3, .ref r4].toArray nr) :: (lw, listOf [.str "k0" s0, .str "k1" s1, .str "k2" s2, .str "k3" s3, .str "k4" s4].toArray nw) ::
            (r0, listOf v0.toArray n0) :: (r1, listOf v1.toArray n1) :: (r2, listOf v2.toArray n2) :: (r3, listOf v3.toArray n3) :: (r4, listOf v4.toArray n4) :: [] : List (Addr × Obj)) ++ (pre ++ rest) from hp)).elim (fun h => List.mem_append_right _ (hsub p h)) id)) hoF hc1 hc2 hd1 hd2 hd3 i0 i1 i2 i3 i4 hl0 hl1 hl2 hl3 hl4 hdep key ks hsel hret
end Mine
namespace Mine
open PySem PySem.W PySem.Calls PyProof.Rows
section
variable {prog : Program} {w : World} {A₀ : Around} {E : Value → Shared → Prop} {s' : Shared} {base g G B h₅ : Heap} {outer : List Env} {env : Env} {L e t : Addr} {m : Str → Option Value} {news : List (Addr × Obj)} {vs : List Value} {Q : Flow → Shared → Prop}
  {p : Program} {loose : List Str} {mean : ExcName → Option Value} {mg mb : Str → Option Value} {KF : Frag}
/-- the ground behind a catch: the frames below have had their slots written -/
theorem ground_any (hf : env.frame = some L) (K : Below A₀ base outer g) (F : Fr g L G m) (hBG : ∀ b o, G.get? b = some o → b ∉ fr (env :: outer) → B.get? b = some o) (hBh : B.StaysIn h₅) (U : G.UpToSlots h₅) :
    ∃ g', KtsTurn (fr outer) g g' ∧ Fr g' L h₅ m ∧ Below A₀ base outer g' := by
  have there : ∀ b ∈ fr outer, ∃ o, g.get? b = some o ∧ ∀ x, o.data ≠ .fields x := fun b hb => by
    obtain ⟨_, o, ho, hd⟩ := K.frames.mem hb
    exact ⟨o, ho, hd⟩
  obtain ⟨T, S⟩ := kts_turn_at (h := h₅) (fs := fr outer) (g := g) (fun b hb => let ⟨o, ho, _⟩ := there b hb; ⟨o, ho⟩)
    (fun b o q n => hBh b o (hBG b o (F.keep b o q) fun hm => (mem_fr hf hm).elim (fun z => by rw [z, fr_none F] at q; cases q) n))
    (fun b o q hm => by
      obtain ⟨o', ho', hd⟩ := there b hm
      rw [q] at ho'; cases ho'
      exact U b o (F.keep b o q) hd)
  refine ⟨_, T, ⟨U.ns F.ns, S, T.size ▸ F.above⟩, K.stack, fun b o q => T.other b o (K.stays b o q) fun hm => ?_, K.frames.of_keeps fun b o q _ => ?_⟩
  · rw [(K.frames.mem hm).1] at q; cases q
  · obtain ⟨sl, hs⟩ := T.up q
    exact ⟨_, hs, rfl⟩
theorem fresh_any (hf : env.frame = some L) (F : Fr g L G m) (hBG : ∀ b o, G.get? b = some o → b ∉ fr (env :: outer) → B.get? b = some o) {b : Addr} (hb : B.get? b = none) (hn : ∀ o, g.get? b = some o → b ∈ fr outer → False) : g.get? b = none := by
  cases q : g.get? b with
  | none => rfl
  | some o =>
    have := hBG b o (F.keep b o q) fun hm => (mem_fr hf hm).elim (fun z => by rw [z, fr_none F] at q; cases q) (hn o q)
    rw [hb] at this; cases this
end
section
variable {prog : Program} {w : World} {A₀ : Around} {E : Value → Shared → Prop} {s' : Shared} {base g G : Heap} {outer : List Env} {L a e t : Addr} {m : Str → Option Value} {news : List (Addr × Obj)} {vs : List Value} {Q : Flow → Shared → Prop}
  {p : Program} {loose : List Str} {mean : ExcName → Option Value} {mg mb : Str → Option Value} {KF : Frag} {cn : Str} {cs : Scope} {ccd : Value} {cl : List (Str × Addr)} {b₀ : Stmt} {suite : List Stmt} {pos np : Pos} {rest : List ExceptHandler} {x : Str} {X T' : String}
/-- a builtin's exception from a callee is caught in a closure's frame, by an except without a name -/
theorem caught_any (R : RaisedS base G (envX cn cs L a ccd cl :: outer) e (.type X) t vs news s'.heap) (F : Fr g L G m) (K : Below A₀ base outer g) (U : G.UpToSlots s'.heap) (XB : KF.In base) (TB : Top p loose mean mg mb base) (D : KtsDicts (fr outer) g)
    (ex : nsIn KF mainGlobals x = some none) (hv : bootBuiltins x = some (.type T')) (hn' : x ≠ "__name__")
    (hexc : isSubtype (.type T') (.type "BaseException") = pure true) (hnt : isSubtype (.type ((Manifest.find? T').elim "type" fun y => y.metatype)) (.type "tuple") = pure false) (hsub : isSubtype (.type X) (.type T') = pure true)
    (k : ∀ h' g', KtsTurn (fr outer) g g' → Fr g' L h' m → News g' L h' news → Below A₀ base outer g' → KF.In g' → Top p loose mean mg mb g' → KtsDicts (fr outer) g' →
      wpAny (model prog w) ((A₀.deeper (envX cn cs L a ccd cl)).mark (some (.ref e))) (execs (b₀ :: suite) (envX cn cs L a ccd cl)) Q E { s' with heap := h' })
    (hk : cs.kind = .function) (hx : (envX cn cs L a ccd cl).kindOf x = some .globalImplicit) (hd : (x == ("__debug__" : Str)) = false)
    (hE : PassesOwnAt (model prog w) ((A₀.deeper (envX cn cs L a ccd cl)).mark (some (.ref e))) (A₀.deeper (envX cn cs L a ccd cl)) (envX cn cs L a ccd cl) E) :
    wpAny (model prog w) (A₀.deeper (envX cn cs L a ccd cl)) (noteFrame (.ref e) (envX cn cs L a ccd cl))
      (fun _ s₂ => wpAny (model prog w) (A₀.deeper (envX cn cs L a ccd cl)) (setFlight (.ref e) none) (fun _ s₃ =>
        wpAny (model prog w) (A₀.deeper (envX cn cs L a ccd cl)) (handleBy (.ref e) (envX cn cs L a ccd cl) (.ExceptHandler (some (.Name x np)) none (b₀ :: suite) pos :: rest)) Q E s₃) E s₂) E s' := by
  obtain ⟨⟨B, hB, hBG, hl, hfl, hnew⟩, htup⟩ := R
  have hBL : B.get? L = none := by
    obtain ⟨_, ⟨L', _, hf', hn0, _⟩, _⟩ := hfl.2.2.1
    have : L = L' := Option.some.inj hf'
    rw [this]; exact hn0
  refine wpAny_looks_onW (Around.frames_deeper K.stack) rfl hfl fun h4 held4 u4 => ?_
  refine wpAny_landsW held4 fun h5 held5 u5 => ?_
  have U5 := U.trans (u4.trans u5)
  obtain ⟨g5, T5, F5, K5⟩ := ground_any (env := envX cn cs L a ccd cl) rfl K F hBG held5.1 U5
  obtain ⟨ob, hob, hobc⟩ := held5.there
  refine wpAny_handleBy_builtin (X := X) (T := T') (b := true) hexc hnt hsub (nameX_B F5 (XB.keeps K5.stays) (topRead_of (TB.keeps K5.stays)) ex hv hn' ⟨rfl, ⟨ob, hob, hobc⟩, ?_⟩ hk hx hd)
  refine lands_againW held5 fun h6 fl6 u6 => ?_
  obtain ⟨g6, T6, F6, K6⟩ := ground_any (env := envX cn cs L a ccd cl) rfl K F hBG fl6.1 (U5.trans u6)
  have N6 : News g6 L h6 news := fun q hq => ⟨fl6.1 _ _ (hl q hq).1, (fun z => by have h1 := (hl q hq).1; rw [z, hBL] at h1; cases h1), T6.none_ _ (none_up F.keep (hl q hq).2.1)⟩
  exact wpAny_passesOwnAt hE (k h6 g6 T6 F6 N6 K6 (XB.keeps K6.stays) (TB.keeps K6.stays) (D.turn T6))
end
section
variable {prog : Program} {w : World} {A₀ A : Around} {s : Shared} {base h₀ : Heap} {L a : Addr} {m : Str → Option Value} {cn : Str} {cs : Scope} {ccd : Value} {cl : List (Str × Addr)} {news : List (Addr × Obj)} {K : Frag} {p : Program} {loose : List Str} {mean : ExcName → Option Value} {mg mb : Str → Option Value}
/-- entering a closure whose body catches: its leave allows that the frame below had its slots written -/
theorem code_try {R : Result → Shared → Prop} {name qual : Str} {params : Arguments} {body : List Stmt} {scope : Scope} {clos : List (Str × Addr)} {doc pm ctv : Value} {c' f : Addr} {args : Args} {binds : List (Str × Value)}
    (B : Below A₀ base [] h₀) (F : Fr h₀ L s.heap m) (X₀ : K.In h₀) (N : News h₀ L s.heap news) (T : Top p loose mean mg mb h₀) (hA : A.frames = some [envX cn cs L a ccd cl]) (hck : cs.kind = .function)
    (ho : (f, fnMade name qual params body scope clos doc pm c' ctv) ∈ news) (hcd : s.heap.CodeRec (.ref c') qual) (hroom : A.depth < recursionLimit)
    (hbind : BindsTo s (fnX name qual params body scope clos .none .none doc pm none (.ref c') ctv) args binds) (hloc : ∀ y ∈ binds, scope.names.lookup y.1 = some .local)
    (h : ∀ g L' h₁, Fr h₀ L g m → Fr g L' h₁ (fun y => binds.reverse.lookup y) → News g L' h₁ news → Below A base [envX cn cs L a ccd cl] g → K.In g → Top p loose mean mg mb g → KtsDicts (fr [envX cn cs L a ccd cl]) g → (∀ q ∈ news, q.1 < L') →
      wpAny (model prog w) (A.deeper (envX qual scope L' f (.ref c') clos)) (execs body (envX qual scope L' f (.ref c') clos))
        (fun fl s' => LeaveS0 (fr [envX cn cs L a ccd cl]) h₀ L m g R (match fl with | .ret v => v | _ => .none) s')
        (fun e s' => wpAny (model prog w) (A.deeper (envX qual scope L' f (.ref c') clos)) (leaving (envX qual scope L' f (.ref c') clos) e) (fun _ s'' => R (.error e) s'') (fun e' s'' => R (.error e') s'') s')
        { s with heap := h₁, toks := s.toks + binds.length })
    (hco : scope.isCoroutine = false) (hgen : scope.isGenerator = false) (hk : scope.kind = .function) (hcell : ∀ x ∈ scope.names, x.2 ≠ .cell) : codeAny (model prog w) A (.call (.ref f) args) R s := by
  obtain ⟨FG, BG, st, _⟩ := groundX (R := R) B F N hA rfl hck
  refine codeAny_call_def (fd := fnX name qual params body scope clos .none .none doc pm none (.ref c') ctv) (body := body) (binds := binds) hroom (N _ ho).1 rfl (T.nolimit.keeps F.keep) hcd rfl hbind hcell hloc (fun h₁ hns hk₁ => ?_) hco hgen hk
  obtain ⟨oL, es, ep, hLg, hLd, hLk, hLf⟩ := id FG.ns
  have only : ∀ b, b ∈ fr [envX cn cs L a ccd cl] → b = L := fun b hb => (mem_fr (env := envX cn cs L a ccd cl) (outer := []) rfl hb).elim id fun z => nomatch z
  refine wpAny_mono (h _ s.heap.objs.size h₁ FG ⟨hns, fun b o q => hk₁ b o (of_hideAll _ q), Nat.le_of_eq (hideAll_size _ _)⟩
    (fun q hq => ⟨hk₁ _ _ (N q hq).1, Nat.ne_of_lt (Heap.lt_size (N q hq).1), hideAll_none _ (List.mem_map_of_mem hq)⟩) BG (X₀.keeps st) (T.keeps st) (fun b hb => ⟨oL, es, ep, only b hb ▸ hLg, hLd⟩) (fun q hq => Heap.lt_size (N q hq).1)) (fun fl s' hl => ?_) fun _ _ y => y
  obtain ⟨g', L', m', news', T', F', N', k⟩ := hl
  obtain ⟨sl, hs⟩ := T'.up hLg
  refine k ⟨⟨_, es, ep, F'.keep _ _ hs, hLd, hLk, hLf⟩, fun b o q => F'.keep b o (T'.other b o (st b o q) fun hm => by rw [only b hm, fr_none F] at q; cases q), F.above⟩ fun q hq => ⟨(N' q hq).1, fun z => ?_, ?_⟩
  · have h1 := (N' q hq).2.2
    rw [z, hs] at h1; cases h1
  · cases r : h₀.get? q.1 with
    | none => rfl
    | some o =>
      obtain ⟨sl', hs'⟩ := T'.up (st _ _ r)
      have h1 := (N' q hq).2.2
      rw [hs'] at h1; cases h1
end
end Mine
namespace Mine
section
variable {M : Model} {A : Around} {env : Env} {Q : Flow → Shared → Prop} {E : Value → Shared → Prop} {R : Shared → Prop} {rest : List Stmt}
theorem cut_go (hr : ∀ s', R s' → wpAny M A (execs rest env) Q E s') {Γ : Ctx} (hΓ : Γ.In A) : ∀ (pre : List Stmt) (p : Pos) (s : Shared),
    Sem.wp M Γ (execs pre env) (fun f _ s' => (match f with | .next => R s' | f => Q f s')) (fun e _ s' => E e s') p s → Sem.wp M Γ (execs (pre ++ rest) env) (fun f _ s' => Q f s') (fun e _ s' => E e s') p s
  | [], p, s, h => hr s h Γ p hΓ
  | st :: pre, p, s, h => by
    show Sem.wp M Γ (execs (st :: (pre ++ rest)) env) _ _ p s
    rw [execs_cons, Sem.wp_bind'] at h ⊢
    refine Sem.wp_mono M Γ _ (fun f p' s' h' => ?_) (fun _ _ _ h' => h') _ _ h
    cases f with
    | next => exact cut_go hr hΓ pre p' s' h'
    | brk => exact h'
    | cont => exact h'
    | ret v => exact h'
/-- a body in two parts, with what holds between them -/
theorem cut_execs (R : Shared → Prop) (n : Nat) {body : List Stmt} {s : Shared} (hpre : wpAny M A (execs (body.take n) env) (fun f s' => (match f with | .next => R s' | f => Q f s')) E s)
    (hr : ∀ s', R s' → wpAny M A (execs (body.drop n) env) Q E s') : wpAny M A (execs body env) Q E s := by
  have h : wpAny M A (execs (body.take n ++ body.drop n) env) Q E s := fun Γ p hΓ => cut_go hr hΓ _ p s (hpre Γ p hΓ)
  rwa [List.take_append_drop] at h
end
section
variable {h₀ h : Heap} {L : Addr} {m : Str → Option Value}
/-- a name of the frame, brought to the front -/
theorem fr_pin {x : Str} {v : Value} (F : Fr h₀ L h m) (hx : m x = some v) : Fr h₀ L h (fun y => if y = x then some v else m y) := by
  have e : (fun y => if y = x then some v else m y) = m := by
    funext y
    by_cases hy : y = x
    · rw [if_pos hy, hy, hx]
    · rw [if_neg hy]
  rw [e]; exact F
theorem own_cons {a : Addr} {o : Obj} {rest : List (Addr × Obj)} {adr : List Addr} (h1 : ∀ b ∈ adr, a ≠ b) (h2 : OwnOff rest adr) : OwnOff ((a, o) :: rest) adr := fun p hp b hb => by
  rcases List.mem_cons.mp hp with rfl | hp
  · exact h1 b hb
  · exact h2 p hp b hb
end
end Mine
namespace Mine
set_option maxRecDepth 100000
set_option maxHeartbeats 2000000
local macro_rules | `(tactic| l_idx) => `(tactic| first | exact within_lo (by with_reducible assumption) (by with_reducible assumption) | exact within_hi (by with_reducible assumption) (by with_reducible assumption) | (refine Int.lt_of_lt_of_le (within_hi (by with_reducible assumption) (by with_reducible assumption)) ?_; omega))
local macro_rules | `(tactic| k_ne) => `(tactic| (refine neN ?_; (try dsimp only); with_reducible assumption))
local macro_rules | `(tactic| k_all) => `(tactic| with_reducible assumption)
local macro_rules | `(tactic| k_all) => `(tactic| first | (refine all_app ?ka ?kb; (case ka => k_all); (case kb => k_all)) | exact rest_ne (by tbn_find) (by (try dsimp only); omega) | exact OwnOff.ne (by assumption) (by k_memK))
local macro_rules | `(tactic| walk_at "exec For") => `(tactic| (k_here; refine Stop.out ?_))
local macro_rules | `(tactic| walk_at "exec For Name Call cons nil") => `(tactic| (k_here; refine Stop.out ?_))
local macro_rules | `(tactic| walk_at "exec For Name Name cons nil") => `(tactic| (k_here; refine Stop.out ?_))
local macro_rules | `(tactic| walk_at "exec For Tuple Call cons nil") => `(tactic| (k_here; refine Stop.out ?_))
local macro_rules | `(tactic| walk_at "exec For Tuple Call cons nil cons nil") => `(tactic| (k_here; refine Stop.out ?_))
local macro_rules | `(tactic| walk_at "LEN9") => `(tactic| first | with_reducible assumption | exact n_le9 (by with_reducible assumption))
local macro_rules | `(tactic| walk_at "IDXN") => `(tactic| first
  | with_reducible assumption
  | exact within_hi (by with_reducible assumption) (by with_reducible assumption)
  | exact idx_hi (by with_reducible assumption)
  | exact range_hi (by with_reducible assumption)
  | exact fmods_hi (by with_reducible assumption) (by omega))
local macro_rules | `(tactic| walk_at "IDX") => `(tactic| first
  | with_reducible assumption
  | exact within_lo (by with_reducible assumption) (by with_reducible assumption)
  | exact range_lo (by with_reducible assumption)
  | exact fmods_lo (by with_reducible assumption) (by omega)
  | walk_at "IDXN"
  | (law_purse 20000 => omega))
local macro_rules | `(tactic| walk_at "IDXF") => `(tactic| first | exact idx_fit (by walk_at "IDXN") (by walk_at "LEN9") | (law_purse 20000 => omega))
local macro_rules | `(tactic| walk_at "setItem ref int") => `(tactic| (k_here; (with_reducible show wpAny _ _ (setItem (Value.ref _) (Value.int _ _) (Value.int _ _)) _ _ _); k_dflt (refine' ksa_set ?k1 ?k2 ?k3 ?k4 ?k5 ?k6 ?k7 ?_; (case k1 => k_asm); (case k2 => k_asm); (case k3 => k_upd); (case k4 => with_reducible assumption); (case k5 => walk_at "IDX"); (case k6 => walk_at "IDX"); (case k7 => walk_at "IDXF"); k_whole); intro h' F' N' hi' hl' hs'; (try k_sweep)))
local macro_rules | `(tactic| walk_at "getItem ref int") => `(tactic| (k_here; (with_reducible show wpAny _ _ (getItem (Value.ref _) (Value.int _ _)) _ _ _); k_dflt (refine' ksa_get ?k1 ?k2 ?k3 ?k4 ?k5 ?k6 ?_; (case k1 => k_asm); (case k2 => k_mem); (case k3 => with_reducible assumption); (case k4 => walk_at "IDX"); (case k5 => walk_at "IDX"); (case k6 => walk_at "IDXF"); k_whole); intro _))
local macro_rules | `(tactic| walk_at "SUB") => `(tactic| (k_here; (with_reducible show wpAny _ _ (subscriptTail _ _ (Value.ref _) (Value.int _ _)) _ _ _); k_dflt (refine' ksa_sub ?k1 ?k2 ?k3 ?k4 ?k5 ?k6 ?_ ?k7; (case k1 => k_asm); (case k2 => k_mem); (case k3 => with_reducible assumption); (case k4 => walk_at "IDX"); (case k5 => walk_at "IDX"); (case k6 => walk_at "IDXF"); (case k7 => with_unfolding_all rfl); k_whole); intro _))
local macro_rules | `(tactic| walk_at "subscriptTail Name Name ref int") => `(tactic| walk_at "SUB")
local macro_rules | `(tactic| walk_at "subscriptTail Attribute") => `(tactic| walk_at "SUB")
local macro_rules | `(tactic| walk_at "subscriptTail Attribute Name") => `(tactic| walk_at "SUB")
local macro_rules | `(tactic| walk_at "subscriptTail Attribute Name ref") => `(tactic| walk_at "SUB")
local macro_rules | `(tactic| walk_at "subscriptTail Attribute Name Name") => `(tactic| walk_at "SUB")
local macro_rules | `(tactic| walk_at "subscriptTail Attribute Name Name ref int") => `(tactic| walk_at "SUB")
local macro_rules | `(tactic| walk_at "subscriptTail Attribute Name Name ref") => `(tactic| walk_at "SUB")
local macro_rules | `(tactic| walk_at "subscriptTail Attribute Name ref int") => `(tactic| walk_at "SUB")
local macro_rules | `(tactic| walk_at "subscriptTail") => `(tactic| walk_at "SUB")
local macro_rules | `(tactic| walk_at "call type:enumerate") => `(tactic| (k_here; refine Stop.out ?_))
local macro_rules | `(tactic| walk_at "TurnQ") => `(tactic| dsimp only [TurnQ])
local macro_rules | `(tactic| walk_at "exec Raise some none") => `(tactic| (k_here; refine Stop.out ?_))
local macro_rules | `(tactic| walk_at "RAISE") => `(tactic| (k_here; k_dflt (refine' Raise_madeB PySem.F.excCall_OverflowError PySem.F.excRaise_OverflowError ?hh ?hx; (case hh => rfl))))
local macro_rules | `(tactic| walk_at "leaving ref") => `(tactic| (k_here; k_dflt (refine' raise_any ?k1 ?f ?kk ?k0 ?k2 ?k3 ?_; (case f => exact rfl); (case kk => exact rfl); (case k0 => exact Heap.MadeExc.of (by assumption)); (case k1 => assumption); (case k2 => assumption); (case k3 => k_asm); k_whole); intro h' t' R' U'; (try dsimp only at R' U' ⊢); refine Stop.out ?_))
local macro_rules | `(tactic| k_room) => `(tactic| ktr_room)
local macro_rules | `(tactic| walk_at "ENTER C") => `(tactic| (refine' code_defC ?k1 ?k2 ?k3 ?k4 ?k5 ?kA ?kF ?kK ?k6 ?k7 ?k8 ?k9 ?kB ?kD ?_ ?c2 ?c3 ?c4; (case kA => exact rfl); (case kF => exact rfl); (case kK => assumption); (case k1 => k_asm); (case k2 => k_asm); (case k3 => k_asm); (case k4 => k_asm); (case k5 => k_asm); (case k6 => k_is); (case k7 => k_is); (case k8 => ktr_room); (case k9 => first | exact BindsTo.of_eq rfl | exact binds_K (by k_in) rfl (by k_is) rfl rfl rfl | fail "k_enter: no rule for these arguments"); (case kB => exact rfl); (case kD => decide +kernel); (case c2 => exact rfl); (case c3 => exact rfl); (case c4 => exact rfl); k_whole; intro g' L' h' tk' cells' FG' F' N' Y' B' X' T' l1; (try k_lt l1); k_cells Y'; (try simp only [List.cons_append, List.nil_append] at N'); (try dsimp only); (try k_lift B'); (try k_fold)))
local macro_rules | `(tactic| walk_at "TurnQ") => `(tactic| dsimp only [TurnQ])
local macro_rules | `(tactic| walk_at "ENTER P") => `(tactic| (refine' code_def ?k1 ?k2 ?k3 ?k4 ?k5 ?kA ?kF ?kK ?k6 ?k7 ?k8 ?k9 ?kB ?_ ?c2 ?c3 ?c4 ?c5; (case kA => exact rfl); (case kF => exact rfl); (case kK => assumption); (case k1 => k_asm); (case k2 => k_asm); (case k3 => k_asm); (case k4 => k_asm); (case k5 => k_asm); (case k6 => k_is); (case k7 => k_is); (case k8 => ktr_room); (case k9 => first | exact BindsTo.of_eq rfl | exact binds_K (by k_in) rfl (by k_is) rfl rfl rfl | fail "k_enter: no rule for these arguments"); (case c5 => decide); (case kB => exact locs rfl); (case c2 => exact rfl); (case c3 => exact rfl); (case c4 => exact rfl); k_whole; intro g' L' h' FG' F' N' B' X' T'; (try dsimp only); (try k_lift B'); (try k_fold)))
theorem sub_pick {prog : Program} {w : World} {A : Around} {E : Value → Shared → Prop} {s : Shared} {h₀ : Heap} {L l : Addr} {news : List (Addr × Obj)} {rv : List Value} {n : Nat} {k : Int} {u : Tok} {v : Value} {value slice : PySem.Expr} {Q : Value → Shared → Prop}
    (N : News h₀ L s.heap news) (hm : (l, listOf rv.toArray n) ∈ news) (hx : rv[k.toNat]? = some v) (h0 : 0 ≤ k) (h1 : k < 5) (h : Q v s)
    (hs : subscripted slice false (.ref l) (.int k u) = operate [.ref l, .int k u] (getItem (.ref l) (.int k u)) := by with_unfolding_all rfl) :
    wpAny (model prog w) A (subscriptTail value slice (.ref l) (.int k u)) Q E s :=
  have hl : s.heap.IsList l rv.toArray := ⟨_, (N _ hm).1, rfl, n, rfl⟩
  tail_any hl.typeIs slot_list_getitem.lookup (wpAny_getItem_list hl h0 (by omega) (by simpa using hx) h) hs
local macro_rules | `(tactic| walk_at "subscriptTail Name Name ref int") => `(tactic| first | (k_here; k_dflt (refine' sub_pick ?k1 ?k2 ?k3 ?k4 ?k5 ?_ ?k6; (case k1 => k_asm); (case k2 => k_mem); (case k3 => with_reducible assumption); (case k4 => with_reducible assumption); (case k5 => with_reducible assumption); (case k6 => with_unfolding_all rfl))) | walk_at "SUB")
local macro_rules | `(tactic| walk_at "call ref") => `(tactic| (k_here; refine Stop.out ?_))
local macro_rules | `(tactic| walk_at "exec Try") => `(tactic| (k_here; refine Stop.out ?_))
local macro_rules | `(tactic| walk_at "setItem ref int") => `(tactic| (k_here; refine Stop.out ?_))

local macro_rules | `(tactic| walk_at "call type:list") => `(tactic| (k_here; (with_reducible show wpAny _ _ (call (Value.type _) [Value.ref _]) _ _ _); k_dflt (refine' list_copyK ?k1 ?k2 ?k3 ?_ ?z; (case k1 => k_asm); (case k2 => k_asm); (case k3 => exact News.isList (by k_asm) (by k_mem)); (case z => exact ints_size (by with_reducible assumption) (by walk_at "LEN9")); k_whole); intro D' c' h' F' N' l1; (try k_lt l1); (try k_sweep)))
abbrev dU (f c' cb cc ck ce cr cw lr lw ra lp : Addr) (oF oc' ob occ ock oce ocr ocw : Obj) (rv wv va pv : List Value) (nr nw na np : Nat) (rest : List (Addr × Obj)) : List (Addr × Obj) :=
  (f, oF) :: (c', oc') :: (cb, ob) :: (cc, occ) :: (ck, ock) :: (ce, oce) :: (cr, ocr) :: (cw, ocw) :: (lr, listOf rv.toArray nr) :: (lw, listOf wv.toArray nw) :: (ra, listOf va.toArray na) :: (lp, listOf pv.toArray np) :: rest
def Apart (lc le x dx bl : Addr) : Prop := (@Ne Nat lc le ∧ @Ne Nat lc x ∧ @Ne Nat lc dx ∧ @Ne Nat lc bl ∧ @Ne Nat lc 353) ∧ (@Ne Nat le x ∧ @Ne Nat le dx ∧ @Ne Nat le bl ∧ @Ne Nat le 353) ∧ (@Ne Nat x dx ∧ @Ne Nat x bl ∧ @Ne Nat x 353) ∧ (@Ne Nat dx bl ∧ @Ne Nat dx 353) ∧ @Ne Nat bl 353
section
variable {lc le x dx bl : Addr} {o1 o2 o3 o4 o5 : Obj} {U : List (Addr × Obj)}
theorem off_sub {own : List (Addr × Obj)} {adr adr' : List Addr} (h : OwnOff own adr) (hs : adr' ⊆ adr) : OwnOff own adr' := fun p hp b hb => h p hp b (hs hb)
theorem own_one {a b : Addr} {o : Obj} {r : List (Addr × Obj)} (h1 : @Ne Nat a b) (h2 : OwnOff r [b]) : OwnOff ((a, o) :: r) [b] := own_cons (fun c hc => by rw [List.mem_singleton.mp hc]; exact h1) h2
theorem own_three {a b b2 b3 : Addr} {o : Obj} {r : List (Addr × Obj)} (h1 : @Ne Nat a b) (h1' : @Ne Nat a b2) (h1'' : @Ne Nat a b3) (h2 : OwnOff r [b, b2, b3]) : OwnOff ((a, o) :: r) [b, b2, b3] := own_cons (fun c hc => by
  simp only [List.mem_cons, List.not_mem_nil, or_false] at hc
  rcases hc with rfl | rfl | rfl
  · exact h1
  · exact h1'
  · exact h1'') h2
theorem off_lc (h : Apart lc le x dx bl) (hU : OwnOff U [lc, le, x, dx, bl, 353]) : OwnOff ((le, o1) :: (x, o2) :: (dx, o3) :: (bl, o4) :: (353, o5) :: U) [lc] :=
  own_one h.1.1.symm (own_one h.1.2.1.symm (own_one h.1.2.2.1.symm (own_one h.1.2.2.2.1.symm (own_one h.1.2.2.2.2.symm (off_sub hU (by simp))))))
theorem off_le (h : Apart lc le x dx bl) (hU : OwnOff U [lc, le, x, dx, bl, 353]) : OwnOff ((lc, o1) :: (x, o2) :: (dx, o3) :: (bl, o4) :: (353, o5) :: U) [le] :=
  own_one h.1.1 (own_one h.2.1.1.symm (own_one h.2.1.2.1.symm (own_one h.2.1.2.2.1.symm (own_one h.2.1.2.2.2.symm (off_sub hU (by simp))))))
theorem off_add (h : Apart lc le x dx bl) (hU : OwnOff U [lc, le, x, dx, bl, 353]) : OwnOff ((lc, o1) :: (le, o2) :: (353, o3) :: U) [x, dx, bl] :=
  own_three h.1.2.1 h.1.2.2.1 h.1.2.2.2.1 (own_three h.2.1.1 h.2.1.2.1 h.2.1.2.2.1 (own_three h.2.2.1.2.2.symm h.2.2.2.1.2.symm h.2.2.2.2.symm (off_sub hU (by simp))))
theorem off_chk (h : Apart lc le x dx bl) (hU : OwnOff U [lc, le, x, dx, bl, 353]) : OwnOff ((lc, o1) :: (le, o2) :: U) [353] :=
  own_one h.1.2.2.2.2 (own_one h.2.1.2.2.2 (off_sub hU (by simp)))
theorem within_fmods (ks : List Int) {n : Nat} (h : 0 < n) : Within (ks.map fun k => k.fmod (n : Int)) n := fun k hk => by
  obtain ⟨a, _, rfl⟩ := List.mem_map.mp hk
  exact ⟨fmod_lo _ (by omega), fmod_hi _ (by omega)⟩
end
/-- between the try and what follows it -/
def Mid (w : World) (loose : List Str) (mean : ExcName → Option Value) (mg mb : Str → Option Value) (A : Around) (base : Heap) (outer : List Env) (g : Heap) (L : Addr) (s : Shared) (lc le x dx bl : Addr) (c : CM) (nc ne nb : Nat) (ps : Array Value) (n : Nat) (at' : Int) (ta : Tok) (U : List (Addr × Obj)) (s' : Shared) : Prop :=
  ∃ g' h' tk' m' cv' bv' c' els' te' t6' fb av dv, s' = { s with heap := h', toks := tk' } ∧ KtsTurn (fr outer) g g' ∧ Fr g' L h' m' ∧ News g' L h' ((lc, listOf cv'.toArray nc) :: (le, listOf [.int els' te'].toArray ne) :: (x, instObj 396 dx) :: (dx, dictOf (c.ents els' t6' bl) 12) :: (bl, listOf bv'.toArray nb) :: (353, tabObj ps) :: U) ∧
    Below A base outer g' ∧ (hd.heap_39 w.params).In g' ∧ Top topProg loose mean mg mb g' ∧ IntsAre cv' c' ∧ IntsAre bv' c' ∧ c'.length = n ∧ InTop c' ∧
    m' "at" = some (.int at' ta) ∧ m' "failed" = some (.bool fb) ∧ m' "answer" = some av ∧ m' "due" = some dv ∧ ((fb = true ∧ av = .none ∧ dv = .none) ∨ (fb = false ∧ ∃ v t1 t2, av = .int v t1 ∧ dv = .int v t2))
def Outc : Bool → List Int → List Int → Int → Int → List Int → Int → Option Int → Prop
  | true, cells, pl, amt, els, d, e', none => raised cells pl amt = (d, none) ∧ e' = els
  | true, cells, pl, amt, els, d, e', some v => raised cells pl amt = (d, some v) ∧ e' = min (els + amt) 18446744073709551615
  | false, cells, pl, amt, els, d, e', none => lowered cells pl amt = (d, none) ∧ e' = els
  | false, cells, pl, amt, els, d, e', some v => ∃ t, lowered cells pl amt = (d, some (v, t)) ∧ e' = els - t
theorem Outc.len {rb : Bool} {cells pl : List Int} {amt els : Int} {d : List Int} {e' : Int} {o : Option Int} (h : Outc rb cells pl amt els d e' o) : d.length = cells.length := by
  cases rb <;> cases o
  · have := lowered_len cells pl amt; rw [h.1] at this; exact this
  · obtain ⟨t, h, _⟩ := h; have := lowered_len cells pl amt; rw [h] at this; exact this
  · have := raised_len cells pl amt; rw [h.1] at this; exact this
  · have := raised_len cells pl amt; rw [h.1] at this; exact this
theorem Outc.top {rb : Bool} {cells pl : List Int} {amt els : Int} {d : List Int} {e' : Int} {o : Option Int} (h : Outc rb cells pl amt els d e' o) (hc : InTop cells) : InTop d := by
  cases rb <;> cases o
  · have := lowered_inTop (ks := pl) (amt := amt) hc; rw [h.1] at this; exact this
  · obtain ⟨t, h, _⟩ := h; have := lowered_inTop (ks := pl) (amt := amt) hc; rw [h] at this; exact this
  · have := raised_inTop (ks := pl) (amt := amt) hc; rw [h.1] at this; exact this
  · have := raised_inTop (ks := pl) (amt := amt) hc; rw [h.1] at this; exact this
/-- ahead of the try -/
def Mid0 (g : Heap) (L : Addr) (s : Shared) (lc le lp x dx bl : Addr) (c : CM) (nc ne nb : Nat) (bv : List Value) (cells pl : List Int) (els amt : Int) (t6 : Tok) (ps : Array Value) (rb bb : Bool) (at' : Int) (ta tt : Tok) (U : List (Addr × Obj)) (s' : Shared) : Prop :=
  ∃ h' tk' m' cv' d' els' te' o dv, s' = { s with heap := h', toks := tk' } ∧ Fr g L h' m' ∧ News g L h' ((lc, listOf cv'.toArray nc) :: (le, listOf [.int els' te'].toArray ne) :: (x, instObj 396 dx) :: (dx, dictOf (c.ents els t6 bl) 12) :: (bl, listOf bv.toArray nb) :: (353, tabObj ps) :: U) ∧
    IntsAre cv' d' ∧ Outc rb cells pl amt els d' els' o ∧ RaiRet dv o ∧
    m' "at" = some (.int at' ta) ∧ m' "raising" = some (.bool rb) ∧ m' "row" = some (.ref lp) ∧ m' "amount" = some (.int amt tt) ∧ m' "byword" = some (.bool bb) ∧ m' "failed" = some (.bool false) ∧ m' "answer" = some .none ∧ m' "due" = some dv
theorem least_pos {ka d : List Int} {bits : Int} {n : Nat} (h0 : 0 < ka.length) (hb : bits = (n : Int)) (hl : d.length = n) (hn : 0 < n) (ht : InTop d) : 0 ≤ mn (ka.map fun k => at_ d (k.fmod bits)) := by
  have hm := mn_mem (l := ka.map fun k => at_ d (k.fmod bits)) (by intro e; have := congrArg List.length e; simp at this; rw [this] at h0; simp at h0)
  obtain ⟨a, _, ha⟩ := List.mem_map.mp hm
  rw [← ha]
  exact (ht.at (fmod_lo _ (by omega)) (by rw [hl, ← hb]; exact fmod_hi _ (by omega))).1
theorem q_bool {Q : Value → Shared → Prop} {M : Int} {s : Shared} (h : 0 ≤ M) (hq : Q (.bool true) s) : Q (.bool ((M != 0) == decide (0 < M))) s := by
  have e : ((M != 0) == decide (0 < M)) = true := by
    by_cases h0 : M = 0
    · subst h0; rfl
    · have h1 : (M != 0) = true := bne_iff_ne.mpr h0
      rw [h1, decide_eq_true (by omega)]; rfl
  rw [e]; exact hq
theorem ch_of {w : World} {h : Heap} (X : (hd.heap_39 w.params).In h) : CodeHd h 357 353 := codeHd_of_K X (by kernel_rfl)
theorem deed_c {w : World} {loose : List Str} {mean : ExcName → Option Value} {mg mb : Str → Option Value}
   (dp un : Nat) (gd : Option (List Code)) (cn : Str) (cs : Scope) (a : Addr) (ccd : Value) (cl : List (Str × Addr)) (A₀ : Around) (h₀ : Heap) (L : Addr) (m : Str → Option Value) (s : Shared) (Q E : Value → Shared → Prop)
   (f c' cb cc ck ce cr cw lc le lr lw x dx bl ra lp : Addr) (oF oc' ob occ ock oce ocr ocw : Obj) (vs : Array Value) (tq : Tok) (doc pm ctv key : Value) (tb te ta tt : Tok) (c : CM) (nr nw nc ne nb na np : Nat) (rv wv cv bv va pv : List Value) (cells ks ka : List Int) (els amt at' : Int) (t6 : Tok) (ps : Array Value) (rb bb : Bool) (rest : List (Addr × Obj))
   (B : Below A₀ h₀ [] h₀) (F : Fr h₀ L s.heap m) (X : (hd.heap_39 w.params).In h₀) (T : Top topProg loose mean mg mb h₀) (hk : cs.kind = .function) (hd : dp + 32 < recursionLimit) (hu : un + 96 < cLine)
   (G : AllBare s.gens) (ht : TriplesOk ps.toList)
   (N : News h₀ L s.heap ((lc, listOf cv.toArray nc) :: (le, listOf [.int els te].toArray ne) :: (x, instObj 396 dx) :: (dx, dictOf (c.ents els t6 bl) 12) :: (bl, listOf bv.toArray nb) :: (353, tabObj ps) ::
      dU f c' cb cc ck ce cr cw lr lw ra lp oF oc' ob occ ock oce ocr ocw rv wv va pv nr nw na np rest))
   (hoF : oF = mkFn deedStmt "law.<locals>.deed" [("words", cw), ("rows", cr), ("elements", ce), ("counting", ck), ("cells", cc), ("bits", cb)] doc pm c' ctv)
   (hc1 : oc'.data = .fields vs) (hc2 : vs[1]? = some (.str "law.<locals>.deed" tq)) (hd1 : ob.data = .cell (some (.int c.bits tb))) (hd2 : occ.data = .cell (some (.ref lc))) (hd3 : ock.data = .cell (some (.ref x))) (hd4 : oce.data = .cell (some (.ref le))) (hd5 : ocr.data = .cell (some (.ref lr))) (hd6 : ocw.data = .cell (some (.ref lw)))
   (hat0 : 0 ≤ at') (hat1 : at' < 5) (hrv : rv[at'.toNat]? = some (.ref ra)) (hwv : wv[at'.toNat]? = some key) (R : ReadsAs w loose mean mg mb c.fn key ka rest)
   (hcv : IntsAre cv cells) (hbv : IntsAre bv cells) (hva : IntsAre va ka) (hpv : IntsAre pv ks) (hbb : bb = true → ks = ka)
   (hap : Apart lc le x dx bl) (hoff : OwnOff (dU f c' cb cc ck ce cr cw lr lw ra lp oF oc' ob occ ock oce ocr ocw rv wv va pv nr nw na np rest) [lc, le, x, dx, bl, 353])
   (hdep : c.depth = (ks.length : Int)) (hdep2 : c.depth = (ka.length : Int)) (hbit : c.bits = (cells.length : Int)) (hlen : ks.length ≤ 3) (hlen0 : 0 < ks.length) (hclen : cells.length ≤ 9) (hclen0 : 0 < cells.length)
   (hcb : InTop cells) (hbits : Small amt)
   (hret : ∀ h' gs tk' cv' bv' d' els' te' t6' ps', TriplesOk ps'.toList → Fr h₀ L h' m → News h₀ L h' ((lc, listOf cv'.toArray nc) :: (le, listOf [.int els' te'].toArray ne) :: (x, instObj 396 dx) :: (dx, dictOf (c.ents els' t6' bl) 12) :: (bl, listOf bv'.toArray nb) :: (353, tabObj ps') ::
      dU f c' cb cc ck ce cr cw lr lw ra lp oF oc' ob occ ock oce ocr ocw rv wv va pv nr nw na np rest) → IntsAre cv' d' → IntsAre bv' d' → d'.length = cells.length → InTop d' → AllBare gs → Q (.bool true) { s with heap := h', gens := gs, toks := tk' }) :
   wpAny (model Challenge.rw_db5010_01.row.prog w) (ktrTop dp un gd cn cs L a ccd cl []) (call (.ref f) [.bool rb, .int at' ta, .ref lp, .int amt tt, .bool bb]) Q E s := by
  (w_top off; revert X; k_fill; intro X)
  have CH := ch_of X
  conv at hoF => rhs; whnf
  have hmem := fn_mem (news_sub N (l' := (f, oF) :: []) (by kcf_all)) hoF
  have hm2 : ∀ p ∈ [(f, oF)], p ∈ (lc, listOf cv.toArray nc) :: (le, listOf [.int els te].toArray ne) :: (x, instObj 396 dx) :: (dx, dictOf (c.ents els t6 bl) 12) :: (bl, listOf bv.toArray nb) :: (353, tabObj ps) :: dU f c' cb cc ck ce cr cw lr lw ra lp oF oc' ob occ ock oce ocr ocw rv wv va pv nr nw na np rest := by kcf_all
  replace hmem := hm2 _ hmem
  clear hm2
  refine wpAny_call ?_
  refine' code_try ?k1 ?k2 ?k3 ?k4 ?k5 ?kA ?kK ?k6 ?k7 ?k8 ?k9 ?kB ?_ ?c2 ?c3 ?c4 ?c5
  case kA => exact rfl
  case kK => assumption
  case k1 => k_asm
  case k2 => k_asm
  case k3 => k_asm
  case k4 => k_asm
  case k5 => k_asm
  case k6 => exact hmem
  case k7 => exact codeRec_news (by k_asm) (by k_mem) (by assumption) (by assumption)
  case k8 => ktr_room
  case k9 => exact BindsTo.of_eq rfl
  case kB => exact locs rfl
  case c2 => exact rfl
  case c3 => exact rfl
  case c4 => exact rfl
  case c5 => decide
  intro g' L' h' FG' F' N' B' X' T' D' l'
  clear hmem hoF
  dsimp only
  (try k_lift B'); (try k_fold)
  (try k_lt l')
  have KT0 := KtsTurn.refl (fs := fr [envX cn cs L a ccd cl]) (g := g')
  refine cut_execs (Mid0 g' L' s lc le lp x dx bl c nc ne nb bv cells (ks.map fun k => k.fmod (cells.length : Int)) els amt t6 ps rb bb at' ta tt (dU f c' cb cc ck ce cr cw lr lw ra lp oF oc' ob occ ock oce ocr ocw rv wv va pv nr nw na np rest)) 4 ?head ?tail
  case head =>
    dsimp only [List.take]
    obtain ⟨U, hU⟩ : ∃ U, U = dU f c' cb cc ck ce cr cw lr lw ra lp oF oc' ob occ ock oce ocr ocw rv wv va pv nr nw na np rest := ⟨_, rfl⟩
    cases rb
    case false =>
      k_steps
      refine Stop.go ?_
      (rename Fr g' _ _ _ => lF1); (rename News g' _ _ _ => lN1); (rename IntsAre _ (List.map _ ks) => hpl); (rename lc ≠ _ ∧ _ => ho1)
      rw [hbit] at hpl
      refine lowered_c (dp + 1) _ _ _ _ _ _ _ _ _ _ _ _ _ _ _ _ lc _ cv _ nc _ cells (ks.map fun k => k.fmod (cells.length : Int)) amt tt ((le, listOf [.int els te].toArray ne) :: (x, instObj 396 dx) :: (dx, dictOf (c.ents els t6 bl) 12) :: (bl, listOf bv.toArray nb) :: (353, tabObj ps) :: U) (by assumption) lF1 (by assumption) (by rw [hU]; exact news_sub lN1 (by kcf_all)) (by assumption) rfl (by omega) ?_ hcv hpl ?_ ?_ (by rw [List.length_map]; exact hlen) (by rw [List.length_map]; exact hlen0) hclen ?_ hcb ?_
      · show un + 3 + 8 < _
        omega
      · exact ho1.1
      · rw [hU]; exact off_lc hap hoff
      · exact within_fmods ks hclen0
      · intro v h2 tk2 tl cv2 F2 N2 ic2 hv
        rw [hU] at N2
        clear lF1 lN1
        generalize hR : lowered cells (ks.map fun k => k.fmod (cells.length : Int)) amt = RR at ic2 hv
        obtain ⟨d2, _ | ⟨x2, y2⟩⟩ := RR
        · obtain ⟨hv', htl⟩ := hv
          subst hv' htl
          dsimp only [List.cons_append, List.nil_append] at N2
          k_steps
          exact ⟨_, _, _, cv2, d2, els, te, none, .none, rfl, by assumption, news_sub (by assumption) (by kcf_all), ic2, ⟨hR, rfl⟩, rfl, rfl, rfl, rfl, rfl, rfl, rfl, rfl, rfl⟩
        · obtain ⟨D2, t2, u2, hv', htl⟩ := hv
          subst hv' htl
          dsimp only [List.cons_append, List.nil_append] at N2
          k_steps
          refine Stop.go ?_
          (rename Fr g' _ _ _ => lF1); (rename News g' _ _ _ => lN1)
          have N0 := news_sub lN1 (l' := (le, listOf [Value.int els te].toArray ne) :: (lc, listOf cv2.toArray nc) :: (x, instObj 396 dx) :: (dx, dictOf (c.ents els t6 bl) 12) :: (bl, listOf bv.toArray nb) :: (353, tabObj ps) :: U) (by rw [hU]; kcf_all)
          refine ksa_set lF1 N0 (Upd.head ((off_le hap (hU ▸ hoff)).ne (.head _))) (IntsAre.cons _ _ .nil) (by decide) (by show (0 : Int) < ((1 : Nat) : Int); decide) (by decide) ?_
          clear lN1 N0
          intro h3 F3 N3 _ _ _
          rw [hU] at N3
          replace N3 : News g' L' h3 ((le, listOf [Value.int (els - y2) _].toArray ne) :: _) := N3
          clear lF1
          k_steps
          exact ⟨_, _, _, cv2, d2, _, _, some x2, _, rfl, by assumption, news_sub (by assumption) (by kcf_all), ic2, ⟨y2, hR, rfl⟩, ⟨_, rfl⟩, rfl, rfl, rfl, rfl, rfl, rfl, rfl, rfl⟩
    case true =>
      k_steps
      refine Stop.go ?_
      (rename Fr g' _ _ _ => lF1); (rename News g' _ _ _ => lN1); (rename IntsAre _ (List.map _ ks) => hpl); (rename lc ≠ _ ∧ _ => ho1)
      rw [hbit] at hpl
      refine raised_c (dp + 1) _ _ _ _ _ _ _ _ _ _ _ _ _ _ _ _ lc _ cv _ nc _ cells (ks.map fun k => k.fmod (cells.length : Int)) amt tt ((le, listOf [.int els te].toArray ne) :: (x, instObj 396 dx) :: (dx, dictOf (c.ents els t6 bl) 12) :: (bl, listOf bv.toArray nb) :: (353, tabObj ps) :: U) (by assumption) lF1 (by assumption) (by assumption) rfl (by omega) ?_ (by rw [hU]; exact news_sub lN1 (by kcf_all)) hcv hpl ?_ ?_ (by rw [List.length_map]; exact hlen) (by rw [List.length_map]; exact hlen0) hclen ?_ hcb hbits ?_
      · show un + 3 + 24 < _
        omega
      · exact ho1.1
      · rw [hU]; exact off_lc hap hoff
      · exact within_fmods ks hclen0
      · intro v h2 tk2 cv2 F2 N2 ic2 hv
        rw [hU] at N2
        clear lF1 lN1
        generalize hR : raised cells (ks.map fun k => k.fmod (cells.length : Int)) amt = RR at ic2 hv
        obtain ⟨d2, _ | x2⟩ := RR
        · have hv' : v = .none := hv
          subst hv'
          k_steps
          exact ⟨_, _, _, cv2, d2, els, te, none, .none, rfl, by assumption, news_sub (by assumption) (by kcf_all), ic2, ⟨hR, rfl⟩, rfl, rfl, rfl, rfl, rfl, rfl, rfl, rfl, rfl⟩
        · obtain ⟨t2, hv'⟩ := hv
          subst hv'
          k_steps
          refine Stop.go ?_
          (rename Fr g' _ _ _ => lF1); (rename News g' _ _ _ => lN1)
          rw [min_if]
          have N0 := news_sub lN1 (l' := (le, listOf [Value.int els te].toArray ne) :: (lc, listOf cv2.toArray nc) :: (x, instObj 396 dx) :: (dx, dictOf (c.ents els t6 bl) 12) :: (bl, listOf bv.toArray nb) :: (353, tabObj ps) :: U) (by rw [hU]; kcf_all)
          refine ksa_set lF1 N0 (Upd.head ((off_le hap (hU ▸ hoff)).ne (.head _))) (IntsAre.cons _ _ .nil) (by decide) (by show (0 : Int) < ((1 : Nat) : Int); decide) (by decide) ?_
          clear lN1 N0
          intro h3 F3 N3 _ _ _
          rw [hU] at N3
          replace N3 : News g' L' h3 ((le, listOf [Value.int (min (els + amt) 18446744073709551615) _].toArray ne) :: _) := N3
          clear lF1
          k_steps
          exact ⟨_, _, _, cv2, d2, _, _, some x2, _, rfl, by assumption, news_sub (by assumption) (by kcf_all), ic2, ⟨hR, rfl⟩, ⟨_, rfl⟩, rfl, rfl, rfl, rfl, rfl, rfl, rfl, rfl⟩
  case tail =>
    rintro s1 ⟨h1, tk1, m1, cv1, d1, els1, te1, o, dv, rfl, F1, N1, ic1, hout, hdv, n1, n2, n3, n4, n5, n6, n7, n8⟩
    clear F' N'
    dsimp only [List.drop]
    refine cut_execs (Mid w loose mean mg mb (ktrTop dp un gd cn cs L a ccd cl []) h₀ [envX cn cs L a ccd cl] g' L' s lc le x dx bl c nc ne nb ps cells.length at' ta (dU f c' cb cc ck ce cr cw lr lw ra lp oF oc' ob occ ock oce ocr ocw rv wv va pv nr nw na np rest)) 1 ?tri ?fin
    case tri =>
      dsimp only [List.take]
      have hdl : d1.length = cells.length := hout.len
      have hdt : InTop d1 := hout.top hcb
      have F2 := fr_pin (x := "at") (fr_pin (x := "raising") (fr_pin (x := "row") (fr_pin (x := "amount") (fr_pin (x := "byword") (fr_pin (x := "failed") (fr_pin (x := "answer") (fr_pin (x := "due") F1 n8) n7) n6) n5) n4) n3) n2) n1
      clear F1 n1 n2 n3 n4 n5 n6 n7 n8
      obtain ⟨U, hU⟩ : ∃ U, U = dU f c' cb cc ck ce cr cw lr lw ra lp oF oc' ob occ ock oce ocr ocw rv wv va pv nr nw na np rest := ⟨_, rfl⟩
      have RU : ReadsAs w loose mean mg mb c.fn key ka U := by rw [hU]; exact R.cons.cons.cons.cons.cons.cons.cons.cons.cons.cons.cons.cons
      k_steps
      refine Stop.go ?_
      refine wpAny_Try_except ?_
      cases bb
      case false =>
        cases rb
        case false =>
          k_steps
          refine Stop.go ?_
          (rename Fr g' _ _ _ => lF1); (rename News g' _ _ _ => lN1); (rename lc < _ ∧ _ => hlt)
          refine rem_c (dp + 1) _ _ _ _ _ _ _ _ _ _ _ _ _ _ _ _ x dx bl _ bv pv nb _ cells ks els amt tt t6 c ((lc, listOf cv1.toArray nc) :: (le, listOf [.int els1 te1].toArray ne) :: (353, tabObj ps) :: U) (by assumption) lF1 (by assumption) (by assumption) rfl (by omega) ?_ (news_sub lN1 (by rw [hU]; kcf_all)) hbv hpv ⟨hap.2.2.1.1.symm, hap.2.2.2.1.1, Nat.ne_of_lt hlt.2.2.2.1, hap.2.2.1.2.1, Nat.ne_of_lt hlt.2.2.1, Nat.ne_of_lt hlt.2.2.2.2.1⟩ (off_add hap (hU ▸ hoff)) hdep hbit hlen hlen0 hclen hclen0 hcb hbits ?_ ?_
          · show un + 3 + 24 < _
            omega
          · intro g2 h2 e te2 vs2 tk2 cv2 c2 Fg Rs Us ic2 hr2
            clear lN1 lF1
            show wpAny _ _ _ _ _ _
            cases o with
            | some v2 =>
              obtain ⟨_, hq1, _⟩ := hout
              rw [hr2] at hq1; cases hq1
            | none =>
              obtain ⟨hq1, hq2⟩ := hout
              rw [hr2] at hq1; cases hq1
              subst hq2
              have hdv' : dv = .none := hdv
              subst hdv'
              rw [hU] at Rs
              refine caught_any (X := "OverflowError") (T' := "OverflowError") Rs Fg B' Us X T D' (by k_is) PyProof.Rows.Boot.«OverflowError» (by decide) PySem.F.isExc_OverflowError PySem.F.notTuple_OverflowError (by kts_sub) ?_ rfl rfl rfl ?_
              · intro h3 g3 KT3 F3 N3 B3 X3 T3 D3
                k_steps
                exact ⟨g3, _, _, _, cv1, _, d1, _, _, _, true, _, _, rfl, KT3, by assumption, news_sub (by assumption) (by kcf_all), B3, X3, T3, ic1, ic2, hdl, hdt, rfl, rfl, rfl, rfl, .inl ⟨rfl, rfl, rfl⟩⟩
              · passes_own
          · intro h2 tk2 cv2 c2 els2 t62 v tv tk0 F3 N3 ic2 hr2 he2
            rw [hU] at N3
            clear lN1 lF1
            cases o with
            | none =>
              obtain ⟨hq1, _⟩ := hout
              rw [hr2] at hq1; cases hq1
            | some v2 =>
              obtain ⟨tq2, hq1, hq2⟩ := hout
              rw [hr2] at hq1
              cases hq1
              subst hq2 he2
              obtain ⟨t2, rfl⟩ := hdv
              k_steps
              exact ⟨g', _, _, _, cv1, _, d1, _, _, _, false, _, _, rfl, KT0, by assumption, news_sub (by assumption) (by kcf_all), B', X', T', ic1, ic2, hdl, hdt, rfl, rfl, rfl, rfl, .inr ⟨rfl, _, _, _, rfl, rfl⟩⟩
        case true =>
          k_steps
          refine Stop.go ?_
          (rename Fr g' _ _ _ => lF1); (rename News g' _ _ _ => lN1); (rename lc < _ ∧ _ => hlt)
          refine add_c (dp + 1) _ _ _ _ _ _ _ _ _ _ _ _ _ _ _ _ x dx bl _ bv pv nb _ cells ks els amt tt t6 c ((lc, listOf cv1.toArray nc) :: (le, listOf [.int els1 te1].toArray ne) :: (353, tabObj ps) :: U) (by assumption) lF1 (by assumption) (by assumption) rfl (by omega) ?_ (news_sub lN1 (by rw [hU]; kcf_all)) hbv hpv ⟨hap.2.2.1.1.symm, hap.2.2.2.1.1, Nat.ne_of_lt hlt.2.2.2.1, hap.2.2.1.2.1, Nat.ne_of_lt hlt.2.2.1, Nat.ne_of_lt hlt.2.2.2.2.1⟩ (off_add hap (hU ▸ hoff)) hdep hbit hlen hlen0 hclen hclen0 hcb hbits ?_ ?_
          · show un + 3 + 24 < _
            omega
          · intro g2 h2 e te2 vs2 tk2 cv2 c2 Fg Rs Us ic2 hr2
            clear lN1 lF1
            show wpAny _ _ _ _ _ _
            cases o with
            | some v2 =>
              obtain ⟨hq1, _⟩ := hout
              rw [hr2] at hq1; cases hq1
            | none =>
              obtain ⟨hq1, hq2⟩ := hout
              rw [hr2] at hq1; cases hq1
              subst hq2
              have hdv' : dv = .none := hdv
              subst hdv'
              rw [hU] at Rs
              refine caught_any (X := "OverflowError") (T' := "OverflowError") Rs Fg B' Us X T D' (by k_is) PyProof.Rows.Boot.«OverflowError» (by decide) PySem.F.isExc_OverflowError PySem.F.notTuple_OverflowError (by kts_sub) ?_ rfl rfl rfl ?_
              · intro h3 g3 KT3 F3 N3 B3 X3 T3 D3
                k_steps
                exact ⟨g3, _, _, _, cv1, _, d1, _, _, _, true, _, _, rfl, KT3, by assumption, news_sub (by assumption) (by kcf_all), B3, X3, T3, ic1, ic2, hdl, hdt, rfl, rfl, rfl, rfl, .inl ⟨rfl, rfl, rfl⟩⟩
              · passes_own
          · intro h2 tk2 cv2 c2 els2 t62 v tv F3 N3 ic2 hr2 he2
            rw [hU] at N3
            clear lN1 lF1
            cases o with
            | none =>
              obtain ⟨hq1, _⟩ := hout
              rw [hr2] at hq1; cases hq1
            | some v2 =>
              obtain ⟨hq1, hq2⟩ := hout
              rw [hr2] at hq1
              cases hq1
              subst hq2 he2
              obtain ⟨t2, rfl⟩ := hdv
              k_steps
              exact ⟨g', _, _, _, cv1, _, d1, _, _, _, false, _, _, rfl, KT0, by assumption, news_sub (by assumption) (by kcf_all), B', X', T', ic1, ic2, hdl, hdt, rfl, rfl, rfl, rfl, .inr ⟨rfl, _, _, _, rfl, rfl⟩⟩
      case true =>
        have hka := hbb rfl
        subst hka
        cases rb
        case false =>
          k_steps
          refine Stop.go ?_
          (rename Fr g' _ _ _ => lF1); (rename News g' _ _ _ => lN1)
          refine remw_c (dp + 1) _ _ _ _ _ _ _ _ _ _ _ _ _ _ _ _ x dx bl bv nb cells ks els amt tt t6 c ((lc, listOf cv1.toArray nc) :: (le, listOf [.int els1 te1].toArray ne) :: (353, tabObj ps) :: U) key (by assumption) lF1 (by assumption) (by assumption) rfl (by omega) ?_ (news_sub lN1 (by rw [hU]; kcf_all)) (ch_of (by assumption)) RU.cons.cons.cons hbv ⟨hap.2.2.1.1.symm, hap.2.2.2.1.1, hap.2.2.1.2.1⟩ (off_add hap (hU ▸ hoff)) hdep hbit hlen hlen0 hclen hclen0 hcb hbits ?_ ?_
          · show un + 3 + 48 < _
            omega
          · intro g2 h2 e te2 vs2 tk2 cv2 c2 Fg Rs Us ic2 hr2
            clear lN1 lF1
            show wpAny _ _ _ _ _ _
            cases o with
            | some v2 =>
              obtain ⟨_, hq1, _⟩ := hout
              rw [hr2] at hq1; cases hq1
            | none =>
              obtain ⟨hq1, hq2⟩ := hout
              rw [hr2] at hq1; cases hq1
              subst hq2
              have hdv' : dv = .none := hdv
              subst hdv'
              rw [hU] at Rs
              refine caught_any (X := "OverflowError") (T' := "OverflowError") Rs Fg B' Us X T D' (by k_is) PyProof.Rows.Boot.«OverflowError» (by decide) PySem.F.isExc_OverflowError PySem.F.notTuple_OverflowError (by kts_sub) ?_ rfl rfl rfl ?_
              · intro h3 g3 KT3 F3 N3 B3 X3 T3 D3
                k_steps
                exact ⟨g3, _, _, _, cv1, _, d1, _, _, _, true, _, _, rfl, KT3, by assumption, news_sub (by assumption) (by kcf_all), B3, X3, T3, ic1, ic2, hdl, hdt, rfl, rfl, rfl, rfl, .inl ⟨rfl, rfl, rfl⟩⟩
              · passes_own
          · intro h2 tk2 cv2 c2 els2 t62 v tv tk0 F3 N3 ic2 hr2 he2
            rw [hU] at N3
            clear lN1 lF1
            cases o with
            | none =>
              obtain ⟨hq1, _⟩ := hout
              rw [hr2] at hq1; cases hq1
            | some v2 =>
              obtain ⟨tq2, hq1, hq2⟩ := hout
              rw [hr2] at hq1
              cases hq1
              subst hq2 he2
              obtain ⟨t2, rfl⟩ := hdv
              k_steps
              exact ⟨g', _, _, _, cv1, _, d1, _, _, _, false, _, _, rfl, KT0, by assumption, news_sub (by assumption) (by kcf_all), B', X', T', ic1, ic2, hdl, hdt, rfl, rfl, rfl, rfl, .inr ⟨rfl, _, _, _, rfl, rfl⟩⟩
        case true =>
          k_steps
          refine Stop.go ?_
          (rename Fr g' _ _ _ => lF1); (rename News g' _ _ _ => lN1)
          refine addw_c (dp + 1) _ _ _ _ _ _ _ _ _ _ _ _ _ _ _ _ x dx bl bv nb cells ks els amt tt t6 c ((lc, listOf cv1.toArray nc) :: (le, listOf [.int els1 te1].toArray ne) :: (353, tabObj ps) :: U) key (by assumption) lF1 (by assumption) (by assumption) rfl (by omega) ?_ (news_sub lN1 (by rw [hU]; kcf_all)) (ch_of (by assumption)) RU.cons.cons.cons hbv ⟨hap.2.2.1.1.symm, hap.2.2.2.1.1, hap.2.2.1.2.1⟩ (off_add hap (hU ▸ hoff)) hdep hbit hlen hlen0 hclen hclen0 hcb hbits ?_ ?_
          · show un + 3 + 48 < _
            omega
          · intro g2 h2 e te2 vs2 tk2 cv2 c2 Fg Rs Us ic2 hr2
            clear lN1 lF1
            show wpAny _ _ _ _ _ _
            cases o with
            | some v2 =>
              obtain ⟨hq1, _⟩ := hout
              rw [hr2] at hq1; cases hq1
            | none =>
              obtain ⟨hq1, hq2⟩ := hout
              rw [hr2] at hq1; cases hq1
              subst hq2
              have hdv' : dv = .none := hdv
              subst hdv'
              rw [hU] at Rs
              refine caught_any (X := "OverflowError") (T' := "OverflowError") Rs Fg B' Us X T D' (by k_is) PyProof.Rows.Boot.«OverflowError» (by decide) PySem.F.isExc_OverflowError PySem.F.notTuple_OverflowError (by kts_sub) ?_ rfl rfl rfl ?_
              · intro h3 g3 KT3 F3 N3 B3 X3 T3 D3
                k_steps
                exact ⟨g3, _, _, _, cv1, _, d1, _, _, _, true, _, _, rfl, KT3, by assumption, news_sub (by assumption) (by kcf_all), B3, X3, T3, ic1, ic2, hdl, hdt, rfl, rfl, rfl, rfl, .inl ⟨rfl, rfl, rfl⟩⟩
              · passes_own
          · intro h2 tk2 cv2 c2 els2 t62 v tv F3 N3 ic2 hr2 he2
            rw [hU] at N3
            clear lN1 lF1
            cases o with
            | none =>
              obtain ⟨hq1, _⟩ := hout
              rw [hr2] at hq1; cases hq1
            | some v2 =>
              obtain ⟨hq1, hq2⟩ := hout
              rw [hr2] at hq1
              cases hq1
              subst hq2 he2
              obtain ⟨t2, rfl⟩ := hdv
              k_steps
              exact ⟨g', _, _, _, cv1, _, d1, _, _, _, false, _, _, rfl, KT0, by assumption, news_sub (by assumption) (by kcf_all), B', X', T', ic1, ic2, hdl, hdt, rfl, rfl, rfl, rfl, .inr ⟨rfl, _, _, _, rfl, rfl⟩⟩
    case fin =>
      rintro s2 ⟨g2, h2, tk2, m2, cv2, bv2, d2, els2, te2, t62, fb, av, dv2, rfl, KT2, F2, N2, B2, X2, T2, ic2, ib2, hd2l, hd2t, n1, n2, n3, n4, hpair⟩
      clear hout hdv n8 n7 n6 n5 ic1 N1 F1 KT0 D' T' X' B' FG'
      have F3 := fr_pin (x := "at") (fr_pin (x := "failed") (fr_pin (x := "answer") (fr_pin (x := "due") F2 n4) n3) n2) n1
      clear F2 n1 n2 n3 n4
      dsimp only [List.drop]
      have hd2n : d2.length ≤ 9 := by omega
      obtain ⟨U, hU⟩ : ∃ U, U = dU f c' cb cc ck ce cr cw lr lw ra lp oF oc' ob occ ock oce ocr ocw rv wv va pv nr nw na np rest := ⟨_, rfl⟩
      have RU : ReadsAs w loose mean mg mb c.fn key ka U := by rw [hU]; exact R.cons.cons.cons.cons.cons.cons.cons.cons.cons.cons.cons.cons
      rcases hpair with ⟨rfl, rfl, rfl⟩ | ⟨rfl, v, t1, t2, rfl, rfl⟩
      · k_steps
        · exact absurd rfl (‹els2 ≠ [els2].getD (Int.toNat 0) 0›)
        refine Stop.go ?_
        (rename Fr g2 _ _ _ => lF1); (rename News g2 _ _ _ => lN1); (rename _ ∈ List.map _ ka => hm1); (rename ∀ a, a ∈ List.map _ ka → _ => hm2)
        have hM := mn_of hm1 hm2
        subst hM
        refine chkw_c (dp + 1) _ _ _ _ _ _ _ _ _ _ _ _ _ _ _ _ c x dx bl bv2 nb d2 ka els2 t62 ((lc, listOf cv2.toArray nc) :: (le, listOf [.int els2 te2].toArray ne) :: U) ps key (by assumption) lF1 (by assumption) (by assumption) rfl (by omega) ?_ (news_sub lN1 (by rw [hU]; kcf_all)) RU.cons.cons G (ch_of (by assumption)) ht ib2 ⟨hap.2.2.1.2.2, hap.2.2.2.1.2, hap.2.2.2.2⟩ (off_chk hap (hU ▸ hoff)) hdep2 (hbit.trans (by rw [hd2l])) (by omega) hd2n (by omega) ?_
        · show un + 3 + 48 < _
          omega
        · intro t3 h3 gs3 tk3 ps3 ht3 F4 N4 G4
          clear lF1 lN1
          rw [hU] at N4
          k_steps
          · refine Stop.go ?_
            refine has_c (dp + 1) _ _ _ _ _ _ _ _ _ _ _ _ _ _ _ _ c x dx bl bv2 nb d2 ka els2 t62 ((lc, listOf cv2.toArray nc) :: (le, listOf [.int els2 te2].toArray ne) :: U) ps3 key (by assumption) F4 (by assumption) (by assumption) rfl (by omega) ?_ (by rw [hU]; exact N4) RU.cons.cons G4 (ch_of (by assumption)) ht3 ib2 ⟨hap.2.2.1.2.2, hap.2.2.2.1.2, hap.2.2.2.2⟩ (off_chk hap (hU ▸ hoff)) hdep2 (hbit.trans (by rw [hd2l])) (by omega) hd2n (by omega) ?_
            · show un + 3 + 64 < _
              omega
            · intro t4 h4 gs4 tk4 ps4 ht4 F5 N5 G5
              clear F4 N4
              rw [hU] at N5
              have hM0 : 0 ≤ mn (ka.map fun k => at_ d2 (k.fmod c.bits)) := least_pos (by omega) hbit hd2l hclen0 hd2t
              k_steps
              exact q_bool (Q := Q) hM0 (hret _ _ _ cv2 bv2 d2 els2 te2 t62 ps4 ht4 (by assumption) (news_sub (by assumption) (by kcf_all)) ic2 ib2 hd2l hd2t G5)
          · exact absurd rfl (show mn (List.map (fun k => at_ d2 (k.fmod c.bits)) ka) ≠ mn (List.map (fun k' => d2.getD (k'.fmod c.bits).toNat 0) ka) from by assumption)
      · k_steps
        · exact absurd rfl (‹v ≠ v›)
        · exact absurd rfl (‹els2 ≠ [els2].getD (Int.toNat 0) 0›)
        refine Stop.go ?_
        (rename Fr g2 _ _ _ => lF1); (rename News g2 _ _ _ => lN1); (rename _ ∈ List.map _ ka => hm1); (rename ∀ a, a ∈ List.map _ ka → _ => hm2)
        have hM := mn_of hm1 hm2
        subst hM
        refine chkw_c (dp + 1) _ _ _ _ _ _ _ _ _ _ _ _ _ _ _ _ c x dx bl bv2 nb d2 ka els2 t62 ((lc, listOf cv2.toArray nc) :: (le, listOf [.int els2 te2].toArray ne) :: U) ps key (by assumption) lF1 (by assumption) (by assumption) rfl (by omega) ?_ (news_sub lN1 (by rw [hU]; kcf_all)) RU.cons.cons G (ch_of (by assumption)) ht ib2 ⟨hap.2.2.1.2.2, hap.2.2.2.1.2, hap.2.2.2.2⟩ (off_chk hap (hU ▸ hoff)) hdep2 (hbit.trans (by rw [hd2l])) (by omega) hd2n (by omega) ?_
        · show un + 3 + 48 < _
          omega
        · intro t3 h3 gs3 tk3 ps3 ht3 F4 N4 G4
          clear lF1 lN1
          rw [hU] at N4
          k_steps
          · refine Stop.go ?_
            refine has_c (dp + 1) _ _ _ _ _ _ _ _ _ _ _ _ _ _ _ _ c x dx bl bv2 nb d2 ka els2 t62 ((lc, listOf cv2.toArray nc) :: (le, listOf [.int els2 te2].toArray ne) :: U) ps3 key (by assumption) F4 (by assumption) (by assumption) rfl (by omega) ?_ (by rw [hU]; exact N4) RU.cons.cons G4 (ch_of (by assumption)) ht3 ib2 ⟨hap.2.2.1.2.2, hap.2.2.2.1.2, hap.2.2.2.2⟩ (off_chk hap (hU ▸ hoff)) hdep2 (hbit.trans (by rw [hd2l])) (by omega) hd2n (by omega) ?_
            · show un + 3 + 64 < _
              omega
            · intro t4 h4 gs4 tk4 ps4 ht4 F5 N5 G5
              clear F4 N4
              rw [hU] at N5
              have hM0 : 0 ≤ mn (ka.map fun k => at_ d2 (k.fmod c.bits)) := least_pos (by omega) hbit hd2l hclen0 hd2t
              k_steps
              exact q_bool (Q := Q) hM0 (hret _ _ _ cv2 bv2 d2 els2 te2 t62 ps4 ht4 (by assumption) (news_sub (by assumption) (by kcf_all)) ic2 ib2 hd2l hd2t G5)
          · exact absurd rfl (show mn (List.map (fun k => at_ d2 (k.fmod c.bits)) ka) ≠ mn (List.map (fun k' => d2.getD (k'.fmod c.bits).toNat 0) ka) from by assumption)
end Mine
namespace Mine
set_option maxRecDepth 100000
set_option maxHeartbeats 1000000
local macro_rules | `(tactic| l_idx) => `(tactic| first | exact within_lo (by with_reducible assumption) (by with_reducible assumption) | exact within_hi (by with_reducible assumption) (by with_reducible assumption) | (refine Int.lt_of_lt_of_le (within_hi (by with_reducible assumption) (by with_reducible assumption)) ?_; omega))
local macro_rules | `(tactic| k_ne) => `(tactic| (refine neN ?_; (try dsimp only); with_reducible assumption))
local macro_rules | `(tactic| k_all) => `(tactic| with_reducible assumption)
local macro_rules | `(tactic| k_all) => `(tactic| first | (refine all_app ?ka ?kb; (case ka => k_all); (case kb => k_all)) | exact rest_ne (by tbn_find) (by (try dsimp only); omega) | exact OwnOff.ne (by assumption) (by k_memK))
local macro_rules | `(tactic| walk_at "exec For") => `(tactic| (k_here; refine Stop.out ?_))
local macro_rules | `(tactic| walk_at "exec For Name Call cons nil") => `(tactic| (k_here; refine Stop.out ?_))
local macro_rules | `(tactic| walk_at "exec For Name Name cons nil") => `(tactic| (k_here; refine Stop.out ?_))
local macro_rules | `(tactic| walk_at "exec For Tuple Call cons nil") => `(tactic| (k_here; refine Stop.out ?_))
local macro_rules | `(tactic| walk_at "exec For Tuple Call cons nil cons nil") => `(tactic| (k_here; refine Stop.out ?_))
local macro_rules | `(tactic| walk_at "LEN9") => `(tactic| first | with_reducible assumption | exact n_le9 (by with_reducible assumption))
local macro_rules | `(tactic| walk_at "IDXN") => `(tactic| first
  | with_reducible assumption
  | exact within_hi (by with_reducible assumption) (by with_reducible assumption)
  | exact idx_hi (by with_reducible assumption)
  | exact range_hi (by with_reducible assumption)
  | exact fmods_hi (by with_reducible assumption) (by omega))
local macro_rules | `(tactic| walk_at "IDX") => `(tactic| first
  | with_reducible assumption
  | exact within_lo (by with_reducible assumption) (by with_reducible assumption)
  | exact range_lo (by with_reducible assumption)
  | exact fmods_lo (by with_reducible assumption) (by omega)
  | walk_at "IDXN"
  | (law_purse 20000 => omega))
local macro_rules | `(tactic| walk_at "IDXF") => `(tactic| first | exact idx_fit (by walk_at "IDXN") (by walk_at "LEN9") | (law_purse 20000 => omega))
local macro_rules | `(tactic| walk_at "setItem ref int") => `(tactic| (k_here; (with_reducible show wpAny _ _ (setItem (Value.ref _) (Value.int _ _) (Value.int _ _)) _ _ _); k_dflt (refine' ksa_set ?k1 ?k2 ?k3 ?k4 ?k5 ?k6 ?k7 ?_; (case k1 => k_asm); (case k2 => k_asm); (case k3 => k_upd); (case k4 => with_reducible assumption); (case k5 => walk_at "IDX"); (case k6 => walk_at "IDX"); (case k7 => walk_at "IDXF"); k_whole); intro h' F' N' hi' hl' hs'; (try k_sweep)))
local macro_rules | `(tactic| walk_at "getItem ref int") => `(tactic| (k_here; (with_reducible show wpAny _ _ (getItem (Value.ref _) (Value.int _ _)) _ _ _); k_dflt (refine' ksa_get ?k1 ?k2 ?k3 ?k4 ?k5 ?k6 ?_; (case k1 => k_asm); (case k2 => k_mem); (case k3 => with_reducible assumption); (case k4 => walk_at "IDX"); (case k5 => walk_at "IDX"); (case k6 => walk_at "IDXF"); k_whole); intro _))
local macro_rules | `(tactic| walk_at "SUB") => `(tactic| (k_here; (with_reducible show wpAny _ _ (subscriptTail _ _ (Value.ref _) (Value.int _ _)) _ _ _); k_dflt (refine' ksa_sub ?k1 ?k2 ?k3 ?k4 ?k5 ?k6 ?_ ?k7; (case k1 => k_asm); (case k2 => k_mem); (case k3 => with_reducible assumption); (case k4 => walk_at "IDX"); (case k5 => walk_at "IDX"); (case k6 => walk_at "IDXF"); (case k7 => with_unfolding_all rfl); k_whole); intro _))
local macro_rules | `(tactic| walk_at "subscriptTail Name Name ref int") => `(tactic| first | walk_at "SUB" | (k_here; refine Stop.out ?_))
local macro_rules | `(tactic| walk_at "subscriptTail Attribute") => `(tactic| first | walk_at "SUB" | (k_here; refine Stop.out ?_))
local macro_rules | `(tactic| walk_at "subscriptTail Attribute Name") => `(tactic| first | walk_at "SUB" | (k_here; refine Stop.out ?_))
local macro_rules | `(tactic| walk_at "subscriptTail Attribute Name ref") => `(tactic| first | walk_at "SUB" | (k_here; refine Stop.out ?_))
local macro_rules | `(tactic| walk_at "subscriptTail Attribute Name Name") => `(tactic| first | walk_at "SUB" | (k_here; refine Stop.out ?_))
local macro_rules | `(tactic| walk_at "subscriptTail Attribute Name Name ref int") => `(tactic| first | walk_at "SUB" | (k_here; refine Stop.out ?_))
local macro_rules | `(tactic| walk_at "subscriptTail Attribute Name Name ref") => `(tactic| first | walk_at "SUB" | (k_here; refine Stop.out ?_))
local macro_rules | `(tactic| walk_at "subscriptTail Attribute Name ref int") => `(tactic| first | walk_at "SUB" | (k_here; refine Stop.out ?_))
local macro_rules | `(tactic| walk_at "subscriptTail") => `(tactic| first | walk_at "SUB" | (k_here; refine Stop.out ?_))
local macro_rules | `(tactic| walk_at "call type:enumerate") => `(tactic| (k_here; refine Stop.out ?_))
local macro_rules | `(tactic| walk_at "TurnQ") => `(tactic| dsimp only [TurnQ])
local macro_rules | `(tactic| walk_at "exec Raise some none") => `(tactic| (k_here; refine Stop.out ?_))
local macro_rules | `(tactic| walk_at "RAISE") => `(tactic| (k_here; k_dflt (refine' Raise_madeB PySem.F.excCall_OverflowError PySem.F.excRaise_OverflowError ?hh ?hx; (case hh => rfl))))
local macro_rules | `(tactic| walk_at "leaving ref") => `(tactic| (k_here; k_dflt (refine' raise_any ?k1 ?f ?kk ?k0 ?k2 ?k3 ?_; (case f => exact rfl); (case kk => exact rfl); (case k0 => exact Heap.MadeExc.of (by assumption)); (case k1 => assumption); (case k2 => assumption); (case k3 => k_asm); k_whole); intro h' t' R' U'; (try dsimp only at R' U' ⊢); refine Stop.out ?_))
local macro_rules | `(tactic| k_room) => `(tactic| ktr_room)
local macro_rules | `(tactic| walk_at "ENTER C") => `(tactic| (refine' code_defC ?k1 ?k2 ?k3 ?k4 ?k5 ?kA ?kF ?kK ?k6 ?k7 ?k8 ?k9 ?kB ?kD ?_ ?c2 ?c3 ?c4; (case kA => exact rfl); (case kF => exact rfl); (case kK => assumption); (case k1 => k_asm); (case k2 => k_asm); (case k3 => k_asm); (case k4 => k_asm); (case k5 => k_asm); (case k6 => k_is); (case k7 => k_is); (case k8 => ktr_room); (case k9 => first | exact BindsTo.of_eq rfl | exact binds_K (by k_in) rfl (by k_is) rfl rfl rfl | fail "k_enter: no rule for these arguments"); (case kB => exact rfl); (case kD => decide +kernel); (case c2 => exact rfl); (case c3 => exact rfl); (case c4 => exact rfl); k_whole; intro g' L' h' tk' cells' FG' F' N' Y' B' X' T' l1; (try k_lt l1); k_cells Y'; (try simp only [List.cons_append, List.nil_append] at N'); (try dsimp only); (try k_lift B'); (try k_fold)))
local macro_rules | `(tactic| walk_at "TurnQ") => `(tactic| dsimp only [TurnQ])
local macro_rules | `(tactic| walk_at "ENTER P") => `(tactic| (refine' code_def ?k1 ?k2 ?k3 ?k4 ?k5 ?kA ?kF ?kK ?k6 ?k7 ?k8 ?k9 ?kB ?_ ?c2 ?c3 ?c4 ?c5; (case kA => exact rfl); (case kF => exact rfl); (case kK => assumption); (case k1 => k_asm); (case k2 => k_asm); (case k3 => k_asm); (case k4 => k_asm); (case k5 => k_asm); (case k6 => k_is); (case k7 => k_is); (case k8 => ktr_room); (case k9 => first | exact BindsTo.of_eq rfl | exact binds_K (by k_in) rfl (by k_is) rfl rfl rfl | fail "k_enter: no rule for these arguments"); (case c5 => decide); (case kB => exact locs rfl); (case c2 => exact rfl); (case c3 => exact rfl); (case c4 => exact rfl); k_whole; intro g' L' h' FG' F' N' B' X' T'; (try dsimp only); (try k_lift B'); (try k_fold)))

/-- a number of the script, or what stands in for it -/
def numb (ns : List Int) (k : Int) : Int := if k < (ns.length : Int) then ns.getD k.toNat 0 else k * 53 + 7
theorem numb_small {ns : List Int} {k : Int} (h : (PyData.list (ns.map PyData.int)).layable0 = true) (h0 : 0 ≤ k) (h1 : k < 1000) : Small (numb ns k) := by
  unfold numb Small
  split
  · exact Nat.le_trans (kbm_getD (d := 0) h (by decide)) (by decide)
  · exact Nat.le_trans (PySem.intBits_le_64 (by omega) (by omega)) (by decide)
theorem sub_script {prog : Program} {w : World} {A : Around} {E : Value → Shared → Prop} {s : Shared} {l : Addr} {vs : List Value} {ns : List Int} {k : Int} {u : Tok} {value slice : PySem.Expr} {Q : Value → Shared → Prop}
    (hl : s.heap.IsList l vs.toArray) (hi : IntsAre vs ns) (h0 : 0 ≤ k) (h1 : k < (ns.length : Int)) (h2 : k < 1000) (h : ∀ t, Q (.int (ns.getD k.toNat 0) t) s)
    (hs : subscripted slice false (.ref l) (.int k u) = operate [.ref l, .int k u] (getItem (.ref l) (.int k u)) := by with_unfolding_all rfl) :
    wpAny (model prog w) A (subscriptTail value slice (.ref l) (.int k u)) Q E s := by
  have hk : k.toNat < ns.length := by omega
  have hn : ns[k.toNat]? = some (ns.getD k.toNat 0) := by rw [List.getD_eq_getElem?_getD, List.getElem?_eq_getElem hk, Option.getD_some]
  obtain ⟨t, ht⟩ := hi.get _ _ hn
  exact tail_any hl.typeIs slot_list_getitem.lookup (wpAny_getItem_list hl h0 (by omega) (by simpa using ht) (h t)) hs
theorem number_c {w : World} {loose : List Str} {mean : ExcName → Option Value} {mg mb : Str → Option Value}
   (dp un : Nat) (gd : Option (List Code)) (cn : Str) (cs : Scope) (a : Addr) (ccd : Value) (cl : List (Str × Addr)) (outer : List Env) (A₀ : Around) (base h₀ : Heap) (L : Addr) (m : Str → Option Value) (s : Shared) (Q E : Value → Shared → Prop)
   (ls : Addr) (vs : List Value) (ns : List Int) (k : Int) (t : Tok) (news : List (Addr × Obj))
   (B : Below A₀ base outer h₀) (F : Fr h₀ L s.heap m) (X : (hd.heap_39 w.params).In h₀) (T : Top topProg loose mean mg mb h₀) (hk : cs.kind = .function) (hd : dp + 3 < recursionLimit) (hu : un + 24 < cLine)
   (N : News h₀ L s.heap news) (hls : h₀.IsList ls vs.toArray) (hi : IntsAre vs ns) (hlen : ns.length ≤ 63) (h0 : 0 ≤ k) (h1 : k < 1000)
   (hret : ∀ t' h' tk', Fr h₀ L h' m → News h₀ L h' news → Q (.int (numb ns k) t') { s with heap := h', toks := tk' }) :
   wpAny (model Challenge.rw_db5010_01.row.prog w) (ktrTop dp un gd cn cs L a ccd cl outer) (call (.ref 412) [.ref ls, .int k t]) Q E s := by
  (w_top off; revert X; k_fill; intro X)
  refine wpAny_call ?_
  k_dflt (walk_at "ENTER P")
  have hls' := Fr.lst (h₀ := h₀) (L := L) (m := m) (by assumption) hls
  k_steps
  · refine Stop.go ?_
    (rename Fr _ _ _ _ => lF')
    refine sub_script (Fr.lst lF' hls') hi h0 (by assumption) h1 ?_
    intro t'
    k_steps
    have e : ns.getD k.toNat 0 = numb ns k := (if_pos (by assumption)).symm
    rw [e]
    exact hret _ _ _ (by assumption) (by assumption)
  · have e : k * 53 + 7 = numb ns k := (if_neg (by assumption)).symm
    rw [e]
    exact hret _ _ _ (by assumption) (by assumption)
end Mine
namespace Mine
set_option maxRecDepth 100000
set_option maxHeartbeats 1000000
/-- the names' table of a comprehension, with one cell of its own -/
theorem newEnv_comp {M : Model} {A : Around} {E : Value → Shared → Prop} {s : Shared} {scope : Scope} {globals : Addr} {cl : List (Str × Addr)} {x : Str} {qual : Str} {env : Env} {names : List (Str × NameKind)} {Q : Env → Shared → Prop}
    (hn : scope.names = ((".0" : Str), NameKind.local) :: (x, NameKind.cell) :: names) (hno : ∀ z ∈ names, z.2 ≠ .cell)
    (hQ : ∀ h', h'.Ns s.heap.objs.size (fun _ => none) → h'.IsCell (s.heap.objs.size + 1) none → (∀ b o, s.heap.get? b = some o → h'.get? b = some o) →
      Q { scope := scope, locals := s.heap.objs.size, globals := globals, cells := (x, s.heap.objs.size + 1) :: cl, qual := qual, func := none, code := env.code, frame := env.frame, builtins := env.builtins } { s with heap := h' }) :
    wpAny M A (newFunctionEnv scope globals cl [] qual none .none (some env)) Q E s := by
  simp only [newFunctionEnv, Option.isSome_some, if_true]
  refine wpAny_bind (wpAny_alloc ?_)
  refine wpAny_bind (wpAny_layCells _ (fun name kind cells => by cases hkc : kind == NameKind.cell <;> simp [hkc]) _ _ _ _ ?_)
  generalize hh1 : s.heap.push { cls := .type "dict", data := .dict #[] } = h1
  have z1 : h1.objs.size = s.heap.objs.size + 1 := by rw [← hh1, Heap.size_push]
  have n1 : h1.Ns s.heap.objs.size (fun _ => none) := by rw [← hh1]; exact Heap.Ns.new s.heap (.type "dict")
  have k1 : ∀ b o, s.heap.get? b = some o → h1.get? b = some o := fun b o q => by rw [← hh1]; exact Heap.get?_push_of_some _ q
  have e1 : cellsFrom h1.objs.size scope.names cl = (x, s.heap.objs.size + 1) :: cl := by
    rw [hn, z1]; unfold cellsFrom; simp only [show (NameKind.local == NameKind.cell) = false from rfl, Bool.false_eq_true, if_false]
    unfold cellsFrom; simp only [beq_self_eq_true, if_true]; exact cellsFrom_none hno _ _
  have e2 : pushCells h1 scope.names = h1.push { cls := .type "cell", data := .cell none } := by
    rw [hn]; unfold pushCells; simp only [show (NameKind.local == NameKind.cell) = false from rfl, Bool.false_eq_true, if_false]
    unfold pushCells; simp only [beq_self_eq_true, if_true]; exact pushCells_none hno _
  show wpAny M A _ Q E { s with heap := pushCells h1 scope.names }
  rw [show cellsFrom ({ s with heap := h1 } : Shared).heap.objs.size scope.names cl = _ from e1, e2]
  refine wpAny_bind ?_
  rw [List.forIn_nil]
  refine wpAny_pure (wpAny_pure (hQ _ (n1.keeps fun b o q => Heap.get?_push_of_some _ q) ⟨_, by rw [← z1]; exact Heap.get?_push_size _ rfl, rfl⟩ fun b o q => Heap.get?_push_of_some _ (k1 _ _ q)))
def Off4 (I C K D : Addr) (news : List (Addr × Obj)) : Prop := ∀ p ∈ news, @Ne Nat p.1 I ∧ @Ne Nat p.1 C ∧ @Ne Nat p.1 K ∧ @Ne Nat p.1 D
section
variable {prog : Program} {w : World} {A : Around} {E : Value → Shared → Prop} {s : Shared} {h₀ : Heap} {L : Addr} {m : Str → Option Value} {env : Env}
/-- a comprehension over a range whose name is a cell (a block within it closes over it) -/
theorem ListComp_cell {elt iter : Expr} {x : Str} {px : Pos} {scope : Scope} {cl : List (Str × Addr)} {pos : Pos} {n : Nat} {Q : Value → Shared → Prop} {names : List (Str × NameKind)} (J : Nat → List Value → List (Addr × Obj) → Prop) (_F₀ : Fr h₀ L s.heap m)
    (hclos : closureFor scope env = pure cl) (hn : scope.names = ((".0" : Str), NameKind.local) :: (x, NameKind.cell) :: names) (hno : ∀ z ∈ names, z.2 ≠ .cell) (hnl : ∀ y ∈ scope.names, y.2 = .local → scope.names.lookup y.1 = some .local) (hx0 : (x == (".0" : Str)) = false) (hkind : scope.kind = .function)
    (h : wpAny (model prog w) A (eval iter env) (fun xv s₁ => Stop (∃ r t u v news, xv = .ref r ∧ A.handled = none ∧ Fr h₀ L s₁.heap m ∧ News h₀ L s₁.heap news ∧ IsRange s₁.heap r 0 (n : Int) 1 t u v ∧ Builtin.Range.small 0 (n : Int) 1 = true ∧ Builtin.Range.rangeSize 0 (n : Int) 1 = (n : Int) ∧ n ≤ sizeLine ∧ J 0 [] news ∧
      (∀ (i : Nat) I oI C oC K oK D ys news' t h tk (E' : Value → Shared → Prop), i < n → J i ys news' → oK.data = .cell (some (.int (i : Int) t)) → Fr h₀ L h m → News h₀ L h ((I, oI) :: (C, oC) :: (K, oK) :: (D, LCg.lst ys) :: news') → Off4 I C K D news' → (@Ne Nat I C ∧ @Ne Nat I K ∧ @Ne Nat I D ∧ @Ne Nat C K ∧ @Ne Nat C D ∧ @Ne Nat K D) →
        wpAny (model prog w) A (eval elt (compEnvC scope ((x, K) :: cl) C env)) (fun y s₂ => Stop (∃ h' tk' news'', s₂ = { s₁ with heap := h', toks := tk' } ∧ Fr h₀ L h' m ∧ News h₀ L h' ((I, oI) :: (C, oC) :: (K, oK) :: (D, LCg.lst ys) :: news'') ∧ Off4 I C K D news'' ∧ J (i + 1) (ys ++ [y]) news'')) E' { s₁ with heap := h, toks := tk }) ∧
      (∀ D h tk ys news', J n ys news' → Fr h₀ L h m → News h₀ L h ((D, LCg.lst ys) :: news') → (∀ p ∈ news', @Ne Nat p.1 D) → Q (.ref D) { s₁ with heap := h, toks := tk }))) E s)
    (hs : ∀ x, foldedSetIterable iter env x = pure x := by intro _; rfl) :
    wpAny (model prog w) A (eval (.ListComp elt [⟨.Name x px, iter, [], 0⟩] scope pos) env) Q E s := by
  rw [eval_ListComp]
  refine wpAny_comprehension_free (use := none) rfl hs hclos hkind hnl (wpAny_mono h (fun xv s₁ h₁ => ?_) fun _ _ e => e)
  obtain ⟨r, t, u, v, news, rfl, hh, F, N, hr, hsm, hrs, hsz, hj, turn, fin⟩ := Stop.out h₁
  refine wpAny_pyIter_range hr hsm ?_
  generalize hI : s₁.heap.objs.size = I
  generalize hs2 : s₁.heap.push _ = h2
  have W := LCg.range_walks (prog := prog) (w := w) (I := I) hh 0 n
  have st2 : IsRangeIter h2 I (0 + ((0 : Nat) : Int) * 1) ((n : Int) - ((0 : Nat) : Int)) 1 := by
    show IsRangeIter _ _ _ _ _
    rw [← hs2, ← hI, hrs]
    simpa using Heap.get?_push_size _ rfl
  have k2 : ∀ b o, s₁.heap.get? b = some o → h2.get? b = some o := fun b o q => hs2 ▸ Heap.get?_push_of_some _ q
  have z2 : h2.objs.size = I + 1 := by rw [← hs2, Heap.size_push, hI]
  have hLI : @LT.lt Nat _ L I := hI ▸ F.ns.lt
  have hab : @LE.le Nat _ h₀.objs.size L := F.above
  have hnI : ∀ p ∈ news, @LT.lt Nat _ p.1 I := fun p hp => hI ▸ Heap.lt_size (N p hp).1
  have F2 : Fr h₀ L h2 m := F.keeps k2
  have N2 : News h₀ L h2 news := N.grown k2
  refine wpAny_newObj_type ?_
  generalize hs3 : h2.push { cls := .type "list", dict := none, data := .seq ([] : List Value).toArray } = h3
  rw [z2]
  have k3 : ∀ b o, h2.get? b = some o → h3.get? b = some o := fun b o q => hs3 ▸ Heap.get?_push_of_some _ q
  have z3 : h3.objs.size = I + 1 + 1 := by rw [← hs3, Heap.size_push, z2]
  have d3 : h3.get? (I + 1) = some (LCg.lst []) := by rw [← hs3, ← z2]; exact Heap.get?_push_size _ rfl
  refine newEnv_comp hn hno fun h4 n4 c4 k4 => ?_
  rw [show ({ s₁ with heap := h3 } : Shared).heap.objs.size = I + 1 + 1 from z3] at n4 c4 ⊢
  obtain ⟨oC, hoC, nsC⟩ := LCg.ns_obj n4
  obtain ⟨oK, hoK, dK⟩ := c4
  have k24 : ∀ b o, h2.get? b = some o → h4.get? b = some o := fun b o q => k4 _ _ (k3 _ _ q)
  have new0 : ∀ b, @LE.le Nat _ I b → h₀.get? b = none := fun b hb => Heap.get?_none_of_le (by show @LE.le Nat _ _ _; omega)
  have neL : ∀ b, @LE.le Nat _ I b → b ≠ L := fun b hb q => by have : @Eq Nat b L := q; omega
  generalize hD : I + 1 = D at *
  generalize hC : D + 1 = C at *
  generalize hK : C + 1 = K at *
  have eID : @Ne Nat I D := by omega
  have eIC : @Ne Nat I C := by omega
  have eIK : @Ne Nat I K := by omega
  have eCK : @Ne Nat C K := by omega
  have eCD : @Ne Nat C D := by omega
  have eKD : @Ne Nat K D := by omega
  have off0 : Off4 I C K D news := fun p hp => by have := hnI p hp; exact ⟨by omega, by omega, by omega, by omega⟩
  have N4 : News h₀ L h4 ((C, oC) :: (K, oK) :: (D, LCg.lst []) :: news) := fun p hp => by
    simp only [List.mem_cons] at hp
    rcases hp with rfl | rfl | rfl | hp
    · exact ⟨hoC, neL _ (by omega), new0 _ (by omega)⟩
    · exact ⟨hoK, neL _ (by omega), new0 _ (by omega)⟩
    · exact ⟨k4 _ _ d3, neL _ (by omega), new0 _ (by omega)⟩
    · exact ⟨k24 _ _ (N2 p hp).1, (N2 p hp).2⟩
  have stk : ∀ i h h', IsRangeIter h I (0 + ((i : Nat) : Int) * 1) ((n : Int) - ((i : Nat) : Int)) 1 → (∀ o, h.get? I = some o → h'.get? I = some o) → IsRangeIter h' I (0 + ((i : Nat) : Int) * 1) ((n : Int) - ((i : Nat) : Int)) 1 := fun i h h' st k => k _ st
  have loop : codeAny (model prog w) A (.compLoop (.ListComp elt [⟨.Name x px, iter, [], 0⟩] scope pos) 0 (.ref I) (.ref D) (compEnvC scope ((x, K) :: cl) C env)) (compPost (model prog w) A E none Q (.ref D) C) { s₁ with heap := h4 } := by
    refine codeAny_compLoop_tests
      (fun k s' => ∃ h' tk i ys oK' v' news', s' = { s₁ with heap := h', toks := tk } ∧ i ≤ n ∧ k = n + 1 - i ∧ ys.length = i ∧ IsRangeIter h' I (0 + ((i : Nat) : Int) * 1) ((n : Int) - ((i : Nat) : Int)) 1 ∧ Fr h₀ L h' m ∧ oK'.data = .cell v' ∧
        News h₀ L h' ((C, oC) :: (K, oK') :: (D, LCg.lst ys) :: news') ∧ Off4 I C K D news' ∧ J i ys news') ?_ (n + 1)
      ⟨h4, s₁.toks, 0, [], oK, none, news, rfl, Nat.zero_le _, rfl, rfl, stk 0 _ _ st2 fun o q => k24 _ _ q, F2.keeps k24, dK, N4, off0, hj⟩
    rintro k s' ⟨h', tk, i, ys, oK', v', news', rfl, hi, rfl, hyl, hst, F', hdK, N', off', hJ⟩
    have sub : ∀ (hq : Heap), (∀ b o, b ∉ [I] → h'.get? b = some o → hq.get? b = some o) → Fr h₀ L hq m ∧ News h₀ L hq ((C, oC) :: (K, oK') :: (D, LCg.lst ys) :: news') := fun hq kq =>
      ⟨LCg.fr_but F' kq (fun q => neL I (by omega) q.symm) (new0 I (Nat.le_refl _)), LCg.news_but N' kq fun p hp => by
        simp only [List.mem_cons] at hp
        rcases hp with rfl | rfl | rfl | hp
        · exact eIC.symm
        · exact eIK.symm
        · exact eID.symm
        · exact (off' p hp).1⟩
    by_cases hlt : i < n
    · refine W.item i _ _ _ hlt hst fun v h₂ tk₂ hPv hst₂ hk₂ => ?_
      obtain ⟨tv, rfl⟩ := hPv
      obtain ⟨F₂, N₂⟩ := sub h₂ hk₂
      have hxk : (relabel scope env).names.lookup x = some .cell := by
        unfold relabel
        rw [hn]
        simp [List.lookup_cons, hx0]
      refine wpAny_assign_Name (wpAny_storeName_cell (env := compEnvC scope ((x, K) :: cl) C env) hkind hxk (by simp [compEnvC]) ⟨oK', (N₂ (K, oK') (by simp)).1, hdK⟩ fun h₃ c₃ s₃ => ?_)
      refine wpAny_tests_nil ?_
      simp only [if_true]
      obtain ⟨oK₃, hoK₃, hdK₃⟩ := c₃
      have hst₃ : h₃.get? I = some _ := s₃.extBut I _ eIK hst₂
      have F₃ : Fr h₀ L h₃ m := F₂.change s₃ (neL _ (by omega)) (new0 _ (by omega))
      have N₃ : News h₀ L h₃ ((I, _) :: (C, oC) :: (K, oK₃) :: (D, LCg.lst ys) :: news') := fun p hp => by
        simp only [List.mem_cons] at hp
        rcases hp with rfl | rfl | rfl | rfl | hp
        · exact ⟨hst₃, neL _ (Nat.le_refl _), new0 _ (Nat.le_refl _)⟩
        · have z := N₂ (C, oC) (by simp); exact ⟨s₃.extBut _ _ eCK z.1, z.2⟩
        · exact ⟨hoK₃, neL _ (by omega), new0 _ (by omega)⟩
        · have z := N₂ (D, LCg.lst ys) (by simp); exact ⟨s₃.extBut _ _ eKD.symm z.1, z.2⟩
        · have z := N₂ p (by simp [hp]); exact ⟨s₃.extBut _ _ (off' p hp).2.2.1 z.1, z.2⟩
      have hdK₄ : oK₃.data = .cell (some (.int (i : Int) tv)) := by rw [hdK₃]; simp
      refine wpAny_mono (turn i I _ C oC K oK₃ D ys news' tv h₃ _ _ hlt hJ hdK₄ F₃ N₃ off' ⟨eIC, eIK, eID, eCK, eCD, eKD⟩) (fun y s₄ h₄ => ?_) fun _ _ e => e
      obtain ⟨h₄, tk₄, news₄, rfl, F₄, N₄, off₄, hJ₄⟩ := Stop.out h₄
      refine append_at (hsz := by show ys.toArray.size ≤ sizeLine; rw [List.size_toArray, hyl]; exact Nat.le_trans hi hsz) (N₄ (D, LCg.lst ys) (by simp)).1 fun h₅ hs₅ hD₅ => ?_
      refine ⟨n + 1 - (i + 1), by omega, h₅, tk₄, i + 1, ys ++ [y], oK₃, _, news₄, rfl, hlt, rfl, by rw [List.length_append, List.length_singleton, hyl], ?_, F₄.change hs₅ (neL _ (by omega)) (new0 _ (by omega)), hdK₄, fun p hp => ?_, off₄, hJ₄⟩
      · exact hs₅.extBut _ _ eID (N₄ (I, _) (by simp)).1
      · simp only [List.mem_cons] at hp
        rcases hp with rfl | rfl | rfl | hp
        · have z := N₄ (C, oC) (by simp); exact ⟨hs₅.extBut _ _ eCD z.1, z.2⟩
        · have z := N₄ (K, oK₃) (by simp); exact ⟨hs₅.extBut _ _ eKD z.1, z.2⟩
        · exact ⟨hD₅.trans (congrArg some (LCg.lst_snoc ys y)), neL _ (by omega), new0 _ (by omega)⟩
        · have z := N₄ p (by simp [hp]); exact ⟨hs₅.extBut _ _ (off₄ p hp).2.2.2 z.1, z.2⟩
    · obtain rfl : i = n := Nat.le_antisymm hi (Nat.not_lt.mp hlt)
      refine W.done _ _ _ hst fun h₂ tk₂ hk₂ => ?_
      obtain ⟨F₂, N₂⟩ := sub h₂ hk₂
      refine ⟨_, nsC.ns (N₂ (C, oC) (by simp)).1, fun h'' hs'' => fin D h'' tk₂ ys news' hJ (F₂.change hs'' (neL _ (by omega)) (new0 _ (by omega))) (fun p hp => ?_) fun p hp => (off' p hp).2.2.2⟩
      rcases List.mem_cons.mp hp with rfl | hp
      · have z := N₂ (D, LCg.lst ys) (by simp); exact ⟨hs''.extBut _ _ eCD.symm z.1, z.2⟩
      · have z := N₂ p (by simp [hp]); exact ⟨hs''.extBut _ _ (off' p hp).2.1 z.1, z.2⟩
  exact codeAny_compStart_list loop (W.self 0 _ _ _ (stk 0 _ _ st2 fun o q => k24 _ _ q) loop)
end
end Mine
namespace Mine
set_option maxRecDepth 100000
set_option maxHeartbeats 1000000
local macro_rules | `(tactic| l_idx) => `(tactic| first | exact within_lo (by with_reducible assumption) (by with_reducible assumption) | exact within_hi (by with_reducible assumption) (by with_reducible assumption) | (refine Int.lt_of_lt_of_le (within_hi (by with_reducible assumption) (by with_reducible assumption)) ?_; omega))
local macro_rules | `(tactic| k_ne) => `(tactic| (refine neN ?_; (try dsimp only); with_reducible assumption))
local macro_rules | `(tactic| k_all) => `(tactic| with_reducible assumption)
local macro_rules | `(tactic| k_all) => `(tactic| first | (refine all_app ?ka ?kb; (case ka => k_all); (case kb => k_all)) | exact rest_ne (by tbn_find) (by (try dsimp only); omega) | exact OwnOff.ne (by assumption) (by k_memK))
local macro_rules | `(tactic| walk_at "exec For") => `(tactic| (k_here; refine Stop.out ?_))
local macro_rules | `(tactic| walk_at "exec For Name Call cons nil") => `(tactic| (k_here; refine Stop.out ?_))
local macro_rules | `(tactic| walk_at "exec For Name Name cons nil") => `(tactic| (k_here; refine Stop.out ?_))
local macro_rules | `(tactic| walk_at "exec For Tuple Call cons nil") => `(tactic| (k_here; refine Stop.out ?_))
local macro_rules | `(tactic| walk_at "exec For Tuple Call cons nil cons nil") => `(tactic| (k_here; refine Stop.out ?_))
local macro_rules | `(tactic| walk_at "LEN9") => `(tactic| first | with_reducible assumption | exact n_le9 (by with_reducible assumption))
local macro_rules | `(tactic| walk_at "IDXN") => `(tactic| first
  | with_reducible assumption
  | exact within_hi (by with_reducible assumption) (by with_reducible assumption)
  | exact idx_hi (by with_reducible assumption)
  | exact range_hi (by with_reducible assumption)
  | exact fmods_hi (by with_reducible assumption) (by omega))
local macro_rules | `(tactic| walk_at "IDX") => `(tactic| first
  | with_reducible assumption
  | exact within_lo (by with_reducible assumption) (by with_reducible assumption)
  | exact range_lo (by with_reducible assumption)
  | exact fmods_lo (by with_reducible assumption) (by omega)
  | walk_at "IDXN"
  | (law_purse 20000 => omega))
local macro_rules | `(tactic| walk_at "IDXF") => `(tactic| first | exact idx_fit (by walk_at "IDXN") (by walk_at "LEN9") | (law_purse 20000 => omega))
local macro_rules | `(tactic| walk_at "setItem ref int") => `(tactic| (k_here; (with_reducible show wpAny _ _ (setItem (Value.ref _) (Value.int _ _) (Value.int _ _)) _ _ _); k_dflt (refine' ksa_set ?k1 ?k2 ?k3 ?k4 ?k5 ?k6 ?k7 ?_; (case k1 => k_asm); (case k2 => k_asm); (case k3 => k_upd); (case k4 => with_reducible assumption); (case k5 => walk_at "IDX"); (case k6 => walk_at "IDX"); (case k7 => walk_at "IDXF"); k_whole); intro h' F' N' hi' hl' hs'; (try k_sweep)))
local macro_rules | `(tactic| walk_at "getItem ref int") => `(tactic| (k_here; (with_reducible show wpAny _ _ (getItem (Value.ref _) (Value.int _ _)) _ _ _); k_dflt (refine' ksa_get ?k1 ?k2 ?k3 ?k4 ?k5 ?k6 ?_; (case k1 => k_asm); (case k2 => k_mem); (case k3 => with_reducible assumption); (case k4 => walk_at "IDX"); (case k5 => walk_at "IDX"); (case k6 => walk_at "IDXF"); k_whole); intro _))
local macro_rules | `(tactic| walk_at "SUB") => `(tactic| (k_here; (with_reducible show wpAny _ _ (subscriptTail _ _ (Value.ref _) (Value.int _ _)) _ _ _); k_dflt (refine' ksa_sub ?k1 ?k2 ?k3 ?k4 ?k5 ?k6 ?_ ?k7; (case k1 => k_asm); (case k2 => k_mem); (case k3 => with_reducible assumption); (case k4 => walk_at "IDX"); (case k5 => walk_at "IDX"); (case k6 => walk_at "IDXF"); (case k7 => with_unfolding_all rfl); k_whole); intro _))
local macro_rules | `(tactic| walk_at "subscriptTail Name Name ref int") => `(tactic| first | walk_at "SUB" | (k_here; refine Stop.out ?_))
local macro_rules | `(tactic| walk_at "subscriptTail Attribute") => `(tactic| first | walk_at "SUB" | (k_here; refine Stop.out ?_))
local macro_rules | `(tactic| walk_at "subscriptTail Attribute Name") => `(tactic| first | walk_at "SUB" | (k_here; refine Stop.out ?_))
local macro_rules | `(tactic| walk_at "subscriptTail Attribute Name ref") => `(tactic| first | walk_at "SUB" | (k_here; refine Stop.out ?_))
local macro_rules | `(tactic| walk_at "subscriptTail Attribute Name Name") => `(tactic| first | walk_at "SUB" | (k_here; refine Stop.out ?_))
local macro_rules | `(tactic| walk_at "subscriptTail Attribute Name Name ref int") => `(tactic| first | walk_at "SUB" | (k_here; refine Stop.out ?_))
local macro_rules | `(tactic| walk_at "subscriptTail Attribute Name Name ref") => `(tactic| first | walk_at "SUB" | (k_here; refine Stop.out ?_))
local macro_rules | `(tactic| walk_at "subscriptTail Attribute Name ref int") => `(tactic| first | walk_at "SUB" | (k_here; refine Stop.out ?_))
local macro_rules | `(tactic| walk_at "subscriptTail") => `(tactic| first | walk_at "SUB" | (k_here; refine Stop.out ?_))
local macro_rules | `(tactic| walk_at "call type:enumerate") => `(tactic| (k_here; refine Stop.out ?_))
local macro_rules | `(tactic| walk_at "TurnQ") => `(tactic| dsimp only [TurnQ])
local macro_rules | `(tactic| walk_at "exec Raise some none") => `(tactic| (k_here; refine Stop.out ?_))
local macro_rules | `(tactic| walk_at "RAISE") => `(tactic| (k_here; k_dflt (refine' Raise_madeB PySem.F.excCall_OverflowError PySem.F.excRaise_OverflowError ?hh ?hx; (case hh => rfl))))
local macro_rules | `(tactic| walk_at "leaving ref") => `(tactic| (k_here; k_dflt (refine' raise_any ?k1 ?f ?kk ?k0 ?k2 ?k3 ?_; (case f => exact rfl); (case kk => exact rfl); (case k0 => exact Heap.MadeExc.of (by assumption)); (case k1 => assumption); (case k2 => assumption); (case k3 => k_asm); k_whole); intro h' t' R' U'; (try dsimp only at R' U' ⊢); refine Stop.out ?_))
local macro_rules | `(tactic| k_room) => `(tactic| ktr_room)
local macro_rules | `(tactic| walk_at "ENTER C") => `(tactic| (refine' code_defC ?k1 ?k2 ?k3 ?k4 ?k5 ?kA ?kF ?kK ?k6 ?k7 ?k8 ?k9 ?kB ?kD ?_ ?c2 ?c3 ?c4; (case kA => exact rfl); (case kF => exact rfl); (case kK => assumption); (case k1 => k_asm); (case k2 => k_asm); (case k3 => k_asm); (case k4 => k_asm); (case k5 => k_asm); (case k6 => k_is); (case k7 => k_is); (case k8 => ktr_room); (case k9 => first | exact BindsTo.of_eq rfl | exact binds_K (by k_in) rfl (by k_is) rfl rfl rfl | fail "k_enter: no rule for these arguments"); (case kB => exact rfl); (case kD => decide +kernel); (case c2 => exact rfl); (case c3 => exact rfl); (case c4 => exact rfl); k_whole; intro g' L' h' tk' cells' FG' F' N' Y' B' X' T' l1; (try k_lt l1); k_cells Y'; (try simp only [List.cons_append, List.nil_append] at N'); (try dsimp only); (try k_lift B'); (try k_fold)))
local macro_rules | `(tactic| walk_at "TurnQ") => `(tactic| dsimp only [TurnQ])
local macro_rules | `(tactic| walk_at "ENTER P") => `(tactic| (refine' code_def ?k1 ?k2 ?k3 ?k4 ?k5 ?kA ?kF ?kK ?k6 ?k7 ?k8 ?k9 ?kB ?_ ?c2 ?c3 ?c4 ?c5; (case kA => exact rfl); (case kF => exact rfl); (case kK => assumption); (case k1 => k_asm); (case k2 => k_asm); (case k3 => k_asm); (case k4 => k_asm); (case k5 => k_asm); (case k6 => k_is); (case k7 => k_is); (case k8 => ktr_room); (case k9 => first | exact BindsTo.of_eq rfl | exact binds_K (by k_in) rfl (by k_is) rfl rfl rfl | fail "k_enter: no rule for these arguments"); (case c5 => decide); (case kB => exact locs rfl); (case c2 => exact rfl); (case c3 => exact rfl); (case c4 => exact rfl); k_whole; intro g' L' h' FG' F' N' B' X' T'; (try dsimp only); (try k_lift B'); (try k_fold)))

local macro_rules | `(tactic| walk_at "ENTER S") => `(tactic| (refine' ks_code_super ?k1 ?k2 ?k3 ?k4 ?k5 ?kA ?kF ?kK ?k6 ?k7 ?k8 ?k9 ?kB ?_ ?c1 ?c2 ?c3 ?c4; (case kA => exact rfl); (case kF => exact rfl); (case kK => first | assumption | exact rfl); (case k1 => k_asm); (case k2 => k_asm); (case k3 => k_asm); (case k4 => k_asm); (case k5 => k_asm); (case k6 => k_is); (case k7 => k_is); (case k8 => ktr_room); (case k9 => first | exact BindsTo.of_eq rfl | exact binds_K (by k_in) rfl (by k_is) rfl rfl rfl); (case kB => exact locs rfl); (case c1 => decide); (case c2 => exact rfl); (case c3 => exact rfl); (case c4 => exact rfl); intro g' L' h' FG' F' N' B' X' T' l1; (try k_lt l1); (try dsimp only); (try k_lift B')))
local macro_rules | `(tactic| walk_at "binaryOp Mult int int") => `(tactic| (k_here; refine Stop.out ?_))
local macro_rules | `(tactic| walk_at "binaryOp Pow int int") => `(tactic| (k_here; refine PyProof.Rows.pow_int (by decide) (by decide +kernel) ?_))
local macro_rules | `(tactic| walk_at "binaryOp FloorDiv int int") => `(tactic| (k_here; refine Stop.out ?_))
local macro_rules | `(tactic| walk_at "wpAt") => `(tactic| (refine Stop.out ?_))
local macro_rules | `(tactic| k_enter) => `(tactic| first | walk_at "ENTER P" | walk_at "ENTER C")
def Shape (e b d : Int) : Prop := (e = 2 ∧ b = 6 ∧ d = 2) ∨ (e = 3 ∧ b = 4 ∧ d = 1) ∨ (e = 2 ∧ b = 9 ∧ d = 3) ∨ (e = 4 ∧ b = 5 ∧ d = 1) ∨ (e = 3 ∧ b = 8 ∧ d = 2) ∨ (e = 1 ∧ b = 3 ∧ d = 2)

theorem shape_noPy {e b d : Int} (h : Shape e b d) (a : Int) : Builtin.divisionGoesByPylong a e = false := PyProof.noPylong_small (by rcases h with h | h | h | h | h | h <;> omega)
theorem shape_hashes {e b d : Int} (h : Shape e b d) : (Int.fdiv (13862943611198906 * b) e + 10000000000000000).fdiv (2 * 10000000000000000) = d := by
  rcases h with ⟨rfl, rfl, rfl⟩ | ⟨rfl, rfl, rfl⟩ | ⟨rfl, rfl, rfl⟩ | ⟨rfl, rfl, rfl⟩ | ⟨rfl, rfl, rfl⟩ | ⟨rfl, rfl, rfl⟩ <;> decide
theorem shape_mul {e b d : Int} (h : Shape e b d) : IntMulOk 13862943611198906 b := mulOk_of_bits (m := 64) (n := 64) (PySem.intBits_le_64 (by decide) (by decide)) (by rcases h with h | h | h | h | h | h <;> exact PySem.intBits_le_64 (by omega) (by omega)) (by decide)
theorem pow16 : (10 : Int) ^ Int.toNat 16 = 10000000000000000 := by decide +kernel
theorem pow_mul : IntMulOk 2 (10 ^ Int.toNat 16) := by rw [pow16]; exact mulOk_of_bits (m := 64) (n := 64) (PySem.intBits_le_64 (by decide) (by decide)) (PySem.intBits_le_64 (by decide) (by decide)) (by decide)
theorem shape_hashes' {e b d : Int} (h : Shape e b d) : (Int.fdiv (13862943611198906 * b) e + 10 ^ Int.toNat 16).fdiv (2 * 10 ^ Int.toNat 16) = d := by
  rw [pow16]; exact shape_hashes h
theorem pow_ne : (2 : Int) * 10 ^ Int.toNat 16 ≠ 0 := by rw [pow16]; decide
theorem pow_noPy (a : Int) : Builtin.divisionGoesByPylong a (2 * 10 ^ Int.toNat 16) = false := by rw [pow16]; exact PyProof.noPylong_of_log2 (by decide +kernel)
theorem floordiv_is {prog : Program} {w : World} {A : Around} {E : Value → Shared → Prop} {s : Shared} {a b v : Int} {t u : Tok} {Q : Value → Shared → Prop} (hv : a.fdiv b = v) (hb : b ≠ 0) (hp : Builtin.divisionGoesByPylong a b = false) (h : Q (.int v s.toks) { s with toks := s.toks + 1 }) :
    wpAny (model prog w) A (binaryOp .FloorDiv (.int a t) (.int b u)) Q E s := PyProof.Rows.floordiv_int hb (by rw [hv]; exact h) (.inl hp)
theorem opt_c {w : World} {loose : List Str} {mean : ExcName → Option Value} {mg mb : Str → Option Value}
   (dp un : Nat) (gd : Option (List Code)) (cn : Str) (cs : Scope) (a : Addr) (ccd : Value) (cl : List (Str × Addr)) (outer : List Env) (A₀ : Around) (base h₀ : Heap) (L : Addr) (m : Str → Option Value) (s : Shared) (R : Result → Shared → Prop)
   (e b d : Int) (te tb : Tok) (news : List (Addr × Obj))
   (B : Below A₀ base outer h₀) (F : Fr h₀ L s.heap m) (X : (hd.heap_39 w.params).In h₀) (T : Top topProg loose mean mg mb h₀) (hk : cs.kind = .function) (hd : dp + 3 < recursionLimit) (hu : un + 24 < cLine)
   (N : News h₀ L s.heap news) (hsh : Shape e b d)
   (hret : ∀ D t1 t2 t3 h' tk', Fr h₀ L h' m → News h₀ L h' ((D, { cls := .type "tuple", data := .seq #[.int b t1, .int d t2, .int b t3] }) :: news) → (∀ p ∈ news, @LT.lt Nat _ p.1 D) → R (.ok (.ret (.ref D))) { s with heap := h', toks := tk' }) :
   codeAny (model Challenge.rw_db5010_01.row.prog w) (ktrTop dp un gd cn cs L a ccd cl outer) (.call (.ref 268) ⟨[.ref 396, .int e te, .int b tb], []⟩) R s := by
  (w_top off; revert X; k_fill; intro X)
  have he1 : 0 < e := by rcases hsh with h | h | h | h | h | h <;> omega
  have he0 : e ≠ 0 := by omega
  have hb1 : 0 ≤ b := by rcases hsh with h | h | h | h | h | h <;> omega
  have hd1 : d ≠ 0 := by rcases hsh with h | h | h | h | h | h <;> omega
  k_dflt (walk_at "ENTER P")
  k_steps
  refine Stop.go ?_
  refine PyProof.Rows.mul_int (hm := shape_mul hsh) ?_
  k_steps
  refine Stop.go ?_
  refine PyProof.Rows.floordiv_int he0 ?_ (.inl (shape_noPy hsh _))
  k_steps
  refine Stop.go ?_
  refine PyProof.Rows.mul_int (hm := pow_mul) ?_
  k_steps
  refine Stop.go ?_
  refine floordiv_is (shape_hashes' hsh) pow_ne (pow_noPy _) ?_
  k_steps
  · exact absurd (by assumption) hd1
  · (rename _ < _ ∧ _ => hl)
    exact hret _ _ _ _ _ _ (by assumption) (news_sub (by assumption) (by kcf_all)) (fun p hp => tb_ltOf (by first | exact hl.2.2 | exact hl.2.2.2 | exact hl.2) p hp)
end Mine
namespace Mine
set_option maxRecDepth 100000
set_option maxHeartbeats 1000000
local macro_rules | `(tactic| l_idx) => `(tactic| first | exact within_lo (by with_reducible assumption) (by with_reducible assumption) | exact within_hi (by with_reducible assumption) (by with_reducible assumption) | (refine Int.lt_of_lt_of_le (within_hi (by with_reducible assumption) (by with_reducible assumption)) ?_; omega))
local macro_rules | `(tactic| k_ne) => `(tactic| (refine neN ?_; (try dsimp only); with_reducible assumption))
local macro_rules | `(tactic| k_all) => `(tactic| with_reducible assumption)
local macro_rules | `(tactic| k_all) => `(tactic| first | (refine all_app ?ka ?kb; (case ka => k_all); (case kb => k_all)) | exact rest_ne (by tbn_find) (by (try dsimp only); omega) | exact OwnOff.ne (by assumption) (by k_memK))
local macro_rules | `(tactic| walk_at "exec For") => `(tactic| (k_here; refine Stop.out ?_))
local macro_rules | `(tactic| walk_at "exec For Name Call cons nil") => `(tactic| (k_here; refine Stop.out ?_))
local macro_rules | `(tactic| walk_at "exec For Name Name cons nil") => `(tactic| (k_here; refine Stop.out ?_))
local macro_rules | `(tactic| walk_at "exec For Tuple Call cons nil") => `(tactic| (k_here; refine Stop.out ?_))
local macro_rules | `(tactic| walk_at "exec For Tuple Call cons nil cons nil") => `(tactic| (k_here; refine Stop.out ?_))
local macro_rules | `(tactic| walk_at "LEN9") => `(tactic| first | with_reducible assumption | exact n_le9 (by with_reducible assumption))
local macro_rules | `(tactic| walk_at "IDXN") => `(tactic| first
  | with_reducible assumption
  | exact within_hi (by with_reducible assumption) (by with_reducible assumption)
  | exact idx_hi (by with_reducible assumption)
  | exact range_hi (by with_reducible assumption)
  | exact fmods_hi (by with_reducible assumption) (by omega))
local macro_rules | `(tactic| walk_at "IDX") => `(tactic| first
  | with_reducible assumption
  | exact within_lo (by with_reducible assumption) (by with_reducible assumption)
  | exact range_lo (by with_reducible assumption)
  | exact fmods_lo (by with_reducible assumption) (by omega)
  | walk_at "IDXN"
  | (law_purse 20000 => omega))
local macro_rules | `(tactic| walk_at "IDXF") => `(tactic| first | exact idx_fit (by walk_at "IDXN") (by walk_at "LEN9") | (law_purse 20000 => omega))
local macro_rules | `(tactic| walk_at "setItem ref int") => `(tactic| (k_here; (with_reducible show wpAny _ _ (setItem (Value.ref _) (Value.int _ _) (Value.int _ _)) _ _ _); k_dflt (refine' ksa_set ?k1 ?k2 ?k3 ?k4 ?k5 ?k6 ?k7 ?_; (case k1 => k_asm); (case k2 => k_asm); (case k3 => k_upd); (case k4 => with_reducible assumption); (case k5 => walk_at "IDX"); (case k6 => walk_at "IDX"); (case k7 => walk_at "IDXF"); k_whole); intro h' F' N' hi' hl' hs'; (try k_sweep)))
local macro_rules | `(tactic| walk_at "getItem ref int") => `(tactic| (k_here; (with_reducible show wpAny _ _ (getItem (Value.ref _) (Value.int _ _)) _ _ _); k_dflt (refine' ksa_get ?k1 ?k2 ?k3 ?k4 ?k5 ?k6 ?_; (case k1 => k_asm); (case k2 => k_mem); (case k3 => with_reducible assumption); (case k4 => walk_at "IDX"); (case k5 => walk_at "IDX"); (case k6 => walk_at "IDXF"); k_whole); intro _))
local macro_rules | `(tactic| walk_at "SUB") => `(tactic| (k_here; (with_reducible show wpAny _ _ (subscriptTail _ _ (Value.ref _) (Value.int _ _)) _ _ _); k_dflt (refine' ksa_sub ?k1 ?k2 ?k3 ?k4 ?k5 ?k6 ?_ ?k7; (case k1 => k_asm); (case k2 => k_mem); (case k3 => with_reducible assumption); (case k4 => walk_at "IDX"); (case k5 => walk_at "IDX"); (case k6 => walk_at "IDXF"); (case k7 => with_unfolding_all rfl); k_whole); intro _))
local macro_rules | `(tactic| walk_at "subscriptTail Name Name ref int") => `(tactic| first | walk_at "SUB" | (k_here; refine Stop.out ?_))
local macro_rules | `(tactic| walk_at "subscriptTail Attribute") => `(tactic| first | walk_at "SUB" | (k_here; refine Stop.out ?_))
local macro_rules | `(tactic| walk_at "subscriptTail Attribute Name") => `(tactic| first | walk_at "SUB" | (k_here; refine Stop.out ?_))
local macro_rules | `(tactic| walk_at "subscriptTail Attribute Name ref") => `(tactic| first | walk_at "SUB" | (k_here; refine Stop.out ?_))
local macro_rules | `(tactic| walk_at "subscriptTail Attribute Name Name") => `(tactic| first | walk_at "SUB" | (k_here; refine Stop.out ?_))
local macro_rules | `(tactic| walk_at "subscriptTail Attribute Name Name ref int") => `(tactic| first | walk_at "SUB" | (k_here; refine Stop.out ?_))
local macro_rules | `(tactic| walk_at "subscriptTail Attribute Name Name ref") => `(tactic| first | walk_at "SUB" | (k_here; refine Stop.out ?_))
local macro_rules | `(tactic| walk_at "subscriptTail Attribute Name ref int") => `(tactic| first | walk_at "SUB" | (k_here; refine Stop.out ?_))
local macro_rules | `(tactic| walk_at "subscriptTail") => `(tactic| first | walk_at "SUB" | (k_here; refine Stop.out ?_))
local macro_rules | `(tactic| walk_at "call type:enumerate") => `(tactic| (k_here; refine Stop.out ?_))
local macro_rules | `(tactic| walk_at "TurnQ") => `(tactic| dsimp only [TurnQ])
local macro_rules | `(tactic| walk_at "exec Raise some none") => `(tactic| (k_here; refine Stop.out ?_))
local macro_rules | `(tactic| walk_at "RAISE") => `(tactic| (k_here; k_dflt (refine' Raise_madeB PySem.F.excCall_OverflowError PySem.F.excRaise_OverflowError ?hh ?hx; (case hh => rfl))))
local macro_rules | `(tactic| walk_at "leaving ref") => `(tactic| (k_here; k_dflt (refine' raise_any ?k1 ?f ?kk ?k0 ?k2 ?k3 ?_; (case f => exact rfl); (case kk => exact rfl); (case k0 => exact Heap.MadeExc.of (by assumption)); (case k1 => assumption); (case k2 => assumption); (case k3 => k_asm); k_whole); intro h' t' R' U'; (try dsimp only at R' U' ⊢); refine Stop.out ?_))
local macro_rules | `(tactic| k_room) => `(tactic| ktr_room)
local macro_rules | `(tactic| walk_at "ENTER C") => `(tactic| (refine' code_defC ?k1 ?k2 ?k3 ?k4 ?k5 ?kA ?kF ?kK ?k6 ?k7 ?k8 ?k9 ?kB ?kD ?_ ?c2 ?c3 ?c4; (case kA => exact rfl); (case kF => exact rfl); (case kK => assumption); (case k1 => k_asm); (case k2 => k_asm); (case k3 => k_asm); (case k4 => k_asm); (case k5 => k_asm); (case k6 => k_is); (case k7 => k_is); (case k8 => ktr_room); (case k9 => first | exact BindsTo.of_eq rfl | exact binds_K (by k_in) rfl (by k_is) rfl rfl rfl | fail "k_enter: no rule for these arguments"); (case kB => exact rfl); (case kD => decide +kernel); (case c2 => exact rfl); (case c3 => exact rfl); (case c4 => exact rfl); k_whole; intro g' L' h' tk' cells' FG' F' N' Y' B' X' T' l1; (try k_lt l1); k_cells Y'; (try simp only [List.cons_append, List.nil_append] at N'); (try dsimp only); (try k_lift B'); (try k_fold)))
local macro_rules | `(tactic| walk_at "TurnQ") => `(tactic| dsimp only [TurnQ])
local macro_rules | `(tactic| walk_at "ENTER P") => `(tactic| (refine' code_def ?k1 ?k2 ?k3 ?k4 ?k5 ?kA ?kF ?kK ?k6 ?k7 ?k8 ?k9 ?kB ?_ ?c2 ?c3 ?c4 ?c5; (case kA => exact rfl); (case kF => exact rfl); (case kK => assumption); (case k1 => k_asm); (case k2 => k_asm); (case k3 => k_asm); (case k4 => k_asm); (case k5 => k_asm); (case k6 => k_is); (case k7 => k_is); (case k8 => ktr_room); (case k9 => first | exact BindsTo.of_eq rfl | exact binds_K (by k_in) rfl (by k_is) rfl rfl rfl | fail "k_enter: no rule for these arguments"); (case c5 => decide); (case kB => exact locs rfl); (case c2 => exact rfl); (case c3 => exact rfl); (case c4 => exact rfl); k_whole; intro g' L' h' FG' F' N' B' X' T'; (try dsimp only); (try k_lift B'); (try k_fold)))

local macro_rules | `(tactic| walk_at "ENTER S") => `(tactic| (refine' ks_code_super ?k1 ?k2 ?k3 ?k4 ?k5 ?kA ?kF ?kK ?k6 ?k7 ?k8 ?k9 ?kB ?_ ?c1 ?c2 ?c3 ?c4; (case kA => exact rfl); (case kF => exact rfl); (case kK => first | assumption | exact rfl); (case k1 => k_asm); (case k2 => k_asm); (case k3 => k_asm); (case k4 => k_asm); (case k5 => k_asm); (case k6 => k_is); (case k7 => k_is); (case k8 => ktr_room); (case k9 => first | exact BindsTo.of_eq rfl | exact binds_K (by k_in) rfl (by k_is) rfl rfl rfl); (case kB => exact locs rfl); (case c1 => decide); (case c2 => exact rfl); (case c3 => exact rfl); (case c4 => exact rfl); intro g' L' h' FG' F' N' B' X' T' l1; (try k_lt l1); (try dsimp only); (try k_lift B')))
local macro_rules | `(tactic| walk_at "wpAt") => `(tactic| (refine Stop.out ?_))
local macro_rules | `(tactic| k_enter) => `(tactic| first | walk_at "ENTER P" | walk_at "ENTER C")
local macro_rules | `(tactic| walk_at "call ref") => `(tactic| (k_here; (with_reducible show wpAny _ _ (PySem.call (Value.ref _) [Value.int _ _, Value.int _ _]) _ _ _); refine Stop.out ?_))
theorem ints_zeros (t : Tok) : ∀ n : Nat, IntsAre (List.replicate n [Value.int 0 t]).flatten (List.replicate n 0)
  | 0 => .nil
  | n + 1 => by
    rw [List.replicate_succ, List.replicate_succ, List.flatten_cons]
    exact .cons 0 t (ints_zeros t n)
theorem make_c {w : World} {loose : List Str} {mean : ExcName → Option Value} {mg mb : Str → Option Value}
   (dp un : Nat) (gd : Option (List Code)) (cn : Str) (cs : Scope) (a : Addr) (ccd : Value) (cl : List (Str × Addr)) (outer : List Env) (A₀ : Around) (base h₀ : Heap) (L : Addr) (m : Str → Option Value) (s : Shared) (Q E : Value → Shared → Prop)
   (e b d : Int) (te tb : Tok) (f : Addr) (news : List (Addr × Obj))
   (B : Below A₀ base outer h₀) (F : Fr h₀ L s.heap m) (X : (hd.heap_39 w.params).In h₀) (T : Top topProg loose mean mg mb h₀) (hk : cs.kind = .function) (hd : dp + 12 < recursionLimit) (hu : un + 48 < cLine)
   (N : News h₀ L s.heap news) (hsh : Shape e b d)
   (hret : ∀ (c : CM) x dx bl bv nb els t6 h' tk', c.bits = b → c.depth = d → c.fn = f → els = 0 → IntsAre bv (List.replicate b.toNat 0) → Fr h₀ L h' m → News h₀ L h' ((bl, listOf bv.toArray nb) :: (dx, dictOf (c.ents els t6 bl) 12) :: (x, instObj 396 dx) :: news) →
     (∀ p ∈ news, @LT.lt Nat _ p.1 x ∧ @LT.lt Nat _ p.1 dx ∧ @LT.lt Nat _ p.1 bl) → (@Ne Nat x dx ∧ @Ne Nat x bl ∧ @Ne Nat dx bl) → Q (.ref x) { s with heap := h', toks := tk' }) :
   wpAny (model Challenge.rw_db5010_01.row.prog w) (ktrTop dp un gd cn cs L a ccd cl outer) (call (.ref 396) [.int e te, .int b tb] [("hash_function", .ref f)]) Q E s := by
  (w_top off; revert X; k_fill; intro X)
  have he1 : 0 < e := by rcases hsh with h | h | h | h | h | h <;> omega
  have he0 : e ≠ 0 := by omega
  have hb1 : 0 ≤ b := by rcases hsh with h | h | h | h | h | h <;> omega
  have hb9 : b ≤ 9 := by rcases hsh with h | h | h | h | h | h <;> omega
  k_here
  refine' call_cls ?k1 ?k2 ?k3 ?k4 ?k5 ?k6 ?_
  case k1 => k_asm
  case k2 => k_asm
  case k3 => k_asm
  case k4 => k_is
  case k5 => k_is
  case k6 => k_is
  intro x' d' h' F' N' l1 l2
  have lo1 : ∀ p ∈ news, @LT.lt Nat _ p.1 d' := l1
  have lo2 : @LT.lt Nat _ d' x' := l2
  have l1n : ∀ p ∈ news, p.1 ≠ d' := fun p hp => Nat.ne_of_lt (l1 p hp)
  have l2n : ∀ p ∈ news, p.1 ≠ x' := fun p hp => Nat.ne_of_lt (Nat.lt_trans (l1 p hp) l2)
  have l3n : @Ne Nat x' d' := Nat.ne_of_gt l2
  have l4n : @Ne Nat d' x' := Nat.ne_of_lt l2
  walk_at "ENTER S"
  refine ks_wpAt_execs_cons ?_
  refine wpAt_of_wpAny ?_
  k_steps
  refine Stop.go ?_
  dsimp only
  refine ks_wpAt_execs_cons ?_
  refine ks_wpAt_Expr_any ?_
  refine ks_wpAt_MethodCall ?_
  refine ks_node (by k_asm) (by k_asm) (by k_asm) (by k_asm) (by k_is) (by rfl) (by rfl) (by k_inst) (by k_is) (by rfl) (by first | rfl | decide +kernel) (by k_is) (by k_is) (by k_is) (by k_is) (by decide) (by rfl) (by rfl) (by rfl) (by rfl) (by decide +kernel) (by first | boot_by_name | rfl | kernel_rfl) ?_
  intro so' h' F' N' l1
  (try k_lt l1)
  k_steps
  refine Stop.go ?_
  (rename Fr _ _ _ _ => lF1); (rename News _ _ _ _ => lN1)
  refine' call_meth ?k1 ?k2 ?_
  case k1 => k_asm
  case k2 => k_mem
  refine opt_c _ _ _ _ _ _ _ _ _ _ _ _ _ _ _ _ e b d te tb _ (by assumption) lF1 (by assumption) (by assumption) rfl ?_ ?_ lN1 hsh ?_
  · first | (show dp + 2 + 3 < _; omega) | (show dp + 3 + 3 < _; omega) | (show dp + 4 + 3 < _; omega) | (show dp + 5 + 3 < _; omega) | (show dp + 6 + 3 < _; omega) | (show dp + 7 + 3 < _; omega) | (show dp + 8 + 3 < _; omega)
  · first | (show un + 3 + 3 + 24 < _; omega) | (show un + 4 + 3 + 24 < _; omega) | (show un + 5 + 3 + 24 < _; omega) | (show un + 6 + 3 + 24 < _; omega) | (show un + 7 + 3 + 24 < _; omega) | (show un + 8 + 3 + 24 < _; omega) | (show un + 9 + 3 + 24 < _; omega) | (show un + 10 + 3 + 24 < _; omega) | (show un + 11 + 3 + 24 < _; omega) | (show un + 12 + 3 + 24 < _; omega) | (show un + 13 + 3 + 24 < _; omega) | (show un + 14 + 3 + 24 < _; omega) | (show un + 15 + 3 + 24 < _; omega) | (show un + 16 + 3 + 24 < _; omega) | (show un + 17 + 3 + 24 < _; omega) | (show un + 18 + 3 + 24 < _; omega) | (show un + 19 + 3 + 24 < _; omega) | (show un + 20 + 3 + 24 < _; omega) | (show un + 21 + 3 + 24 < _; omega) | (show un + 22 + 3 + 24 < _; omega) | (show un + 23 + 3 + 24 < _; omega)
  · intro D t1 t2 t3 h1 tk1 F1 N1 ho1
    clear lF1 lN1
    k_lt ho1
    k_steps
    refine Stop.go ?_
    refine wpAt_of_wpAny ?_
    k_steps
    (rename Fr h₀ L _ _ => kF); (rename News h₀ L _ _ => kN); (rename _ < _ ∧ _ => hl)
    have hl' := hl.2.2.2.2.2
    refine hret ⟨_, _, _, _, _, _, _, _, _, _, _, _, _, _, _, _, _, _, _, _, _, _, _, _, _, _, _, _, _, _, _, _, _, b, d, f⟩ x' d' _ _ _ 0 _ _ _ rfl rfl rfl rfl (ints_zeros _ _) kF (news_sub kN (by kcf_all)) (fun p hp => ⟨Nat.lt_trans (lo1 p hp) lo2, lo1 p hp, Nat.lt_trans (lo1 p hp) ?_⟩) ⟨Nat.ne_of_gt lo2, ?_, ?_⟩
    · exact hl'.2.1
    · exact Nat.ne_of_lt hl'.1
    · exact Nat.ne_of_lt hl'.2.1
end Mine
namespace Mine
/-- a turn's end, where generators may have been made -/
def EndG (h₀ : Heap) (L : Addr) (J : (Str → Option Value) → List (Addr × Obj) → Array GenState → Prop) (own : List (Addr × Obj)) (s s₂ : Shared) : Prop :=
  ∃ h' gs tk m' nx, s₂ = { s with heap := h', gens := gs, toks := tk } ∧ Fr h₀ L h' m' ∧ News h₀ L h' (nx ++ own) ∧ J m' nx gs
def TurnG (h₀ : Heap) (L : Addr) (J : (Str → Option Value) → List (Addr × Obj) → Array GenState → Prop) (own : List (Addr × Obj)) (s : Shared) (Q : Flow → Shared → Prop) (f : Flow) (s₂ : Shared) : Prop :=
  match f with
  | .ret v => Q (.ret v) s₂
  | .brk => Q .next s₂
  | .next => EndG h₀ L J own s s₂
  | .cont => EndG h₀ L J own s s₂
theorem range_obj {h : Heap} {I : Addr} {a b c : Int} (st : IsRangeIter h I a b c) : ∃ o, h.get? I = some o ∧ ∀ h' : Heap, h'.get? I = some o → IsRangeIter h' I a b c := ⟨_, st, fun _ e => e⟩
section
variable {prog : Program} {w : World} {A : Around} {E : Value → Shared → Prop} {s : Shared} {env : Env} {h₀ : Heap} {L : Addr} {body : List Stmt} {Q : Flow → Shared → Prop}
/-- for x in range(n), the body may make generators -/
theorem range_any {x : Str} {px : Pos} {r : Addr} {n : Nat} {t₀ u₀ v₀ : Tok} {m₀ : Str → Option Value} {news : List (Addr × Obj)} (J : Nat → (Str → Option Value) → List (Addr × Obj) → Array GenState → Prop)
    (hL : env.locals = L) (hh : A.handled = none) (hx : env.kindOf x = some .local) (hp : (env.scope.kind == .class || (env.scope.kind == .module && env.locals != env.globals)) = false)
    (hr : IsRange s.heap r 0 (n : Int) 1 t₀ u₀ v₀) (hsmall : Builtin.Range.small 0 (n : Int) 1 = true) (hn : Builtin.Range.rangeSize 0 (n : Int) 1 = (n : Int))
    (F : Fr h₀ L s.heap m₀) (N : News h₀ L s.heap news) (hj : J 0 m₀ news s.gens)
    (hJ : ∀ i m nx g, J i m nx g → nx.map (·.1) = news.map (·.1))
    (turn : ∀ i m₁ nx gs t h tk own, i < n → OwnOff own (news.map (·.1)) → J i m₁ nx gs → Fr h₀ L h (fun y => if y = x then some (.int (i : Int) t) else m₁ y) → News h₀ L h (nx ++ own) →
      wpAny (model prog w) A (execs body env) (TurnG h₀ L (J (i + 1)) own s Q) E { s with heap := h, gens := gs, toks := tk })
    (done : ∀ m₁ nx gs h tk, J n m₁ nx gs → Fr h₀ L h m₁ → News h₀ L h nx → Q .next { s with heap := h, gens := gs, toks := tk })
    (hE : PassesOwn (model prog w) A env E) :
    wpAny (model prog w) A (pyIter (.ref r)) (fun it s₂ => codeAny (model prog w) A (.forLoop (.Name x px) it body [] env) (fun r s' => match r with | .ok f => Q f s' | .error e => cameBackBy (model prog w) A env E e s') s₂) E s := by
  subst hL
  refine wpAny_pyIter_range hr hsmall ?_
  generalize hI : s.heap.objs.size = I
  generalize hs2 : s.heap.push _ = h2
  have W := LCg.range_walks (prog := prog) (w := w) (I := I) hh 0 n
  have st2 : IsRangeIter h2 I (0 + ((0 : Nat) : Int) * 1) ((n : Int) - ((0 : Nat) : Int)) 1 := by
    show IsRangeIter _ _ _ _ _
    rw [← hs2, ← hI, hn]
    simpa using Heap.get?_push_size _ rfl
  have k2 : ∀ b o, s.heap.get? b = some o → h2.get? b = some o := fun b o q => hs2 ▸ Heap.get?_push_of_some _ q
  have hLI : @LT.lt Nat _ env.locals I := hI ▸ F.ns.lt
  have hab : @LE.le Nat _ h₀.objs.size env.locals := F.above
  have hI0 : h₀.get? I = none := Heap.get?_none_of_le (by show @LE.le Nat _ _ _; omega)
  have hIL : I ≠ env.locals := fun q => by have : @Eq Nat I env.locals := q; omega
  have hoffn : ∀ p ∈ news, @LT.lt Nat _ p.1 I := fun p hp => by rw [← hI]; exact Heap.lt_size (N p hp).1
  have adr : ∀ i m nx g, J i m nx g → ∀ p ∈ nx, @LT.lt Nat _ p.1 I := fun i m nx g hj p hp => by
    have h1 : p.1 ∈ nx.map (·.1) := List.mem_map.mpr ⟨_, hp, rfl⟩
    rw [hJ i m nx g hj] at h1
    obtain ⟨q, hq, e1⟩ := List.mem_map.mp h1
    rw [← e1]; exact hoffn q hq
  refine codeAny_forLoop_any
    (fun k s' => ∃ h' gs tk m nx i, s' = { s with heap := h', gens := gs, toks := tk } ∧ IsRangeIter h' I (0 + ((i : Nat) : Int) * 1) ((n : Int) - ((i : Nat) : Int)) 1 ∧ Fr h₀ env.locals h' m ∧ News h₀ env.locals h' nx ∧ J i m nx gs ∧ i ≤ n ∧ k = n + 1 - i) ?_ (n + 1)
    ⟨h2, s.gens, s.toks, m₀, news, 0, rfl, st2, F.keeps k2, N.grown k2, hj, Nat.zero_le _, rfl⟩
  rintro k s' ⟨h', gs, tk, m, nx, i, rfl, st', F', N', hJi, hi, rfl⟩
  have sub : ∀ (hq : Heap), (∀ b o, b ∉ [I] → h'.get? b = some o → hq.get? b = some o) → Fr h₀ env.locals hq m ∧ News h₀ env.locals hq nx := fun hq kq =>
    ⟨LCg.fr_but F' kq (fun q => hIL q.symm) hI0, LCg.news_but N' kq fun p hp => Nat.ne_of_lt (adr _ _ _ _ hJi p hp)⟩
  by_cases hlt : i < n
  · refine W.item i _ _ _ hlt st' fun v h₂ tk₂ hPv hst₂ hk₂ => ?_
    obtain ⟨tv, rfl⟩ := hPv
    obtain ⟨F₂, N₂⟩ := sub h₂ hk₂
    refine (show wpAny (model prog w) A (pure ()) _ _ _ from wpAny_pure ?_)
    refine wpAny_assign_Name (wpAny_storeName_local hx F₂.ns (fun h₃ hn₃ hs₃ => ?_) hp)
    have F₃ := F₂.set hn₃ hs₃
    have N₃ := N₂.set hs₃
    obtain ⟨oI, hoI, hback⟩ := range_obj hst₂
    have hst₃ : h₃.get? I = some oI := (hs₃.2 I hIL).trans hoI
    have e0 : (0 : Int) + (i : Int) = (i : Int) := by omega
    rw [e0] at F₃
    refine wpAny_mono (wpAny_passesOwn hE (turn i m nx gs tv h₃ _ [(I, oI)] hlt (fun p hp b hb z => ?_) hJi F₃ fun p hp => ?_)) (fun f s₃ p => ?_) fun _ _ x => x
    · rw [List.mem_singleton.mp hp] at z
      obtain ⟨q, hq, rfl⟩ := List.mem_map.mp hb
      have h1 := hoffn q hq
      have h2 : @Eq Nat I q.1 := z
      omega
    · rcases List.mem_append.mp hp with hp | hp
      · exact N₃ p hp
      · rw [List.mem_singleton.mp hp]; exact ⟨hst₃, hIL, hI0⟩
    · have fin : EndG h₀ env.locals (J (i + 1)) [(I, oI)] s s₃ → ∃ m', m' < n + 1 - i ∧ ∃ h' gs tk m nx i, s₃ = { s with heap := h', gens := gs, toks := tk } ∧ IsRangeIter h' I (0 + ((i : Nat) : Int) * 1) ((n : Int) - ((i : Nat) : Int)) 1 ∧ Fr h₀ env.locals h' m ∧ News h₀ env.locals h' nx ∧ J i m nx gs ∧ i ≤ n ∧ m' = n + 1 - i := by
        rintro ⟨h₆, gs₆, tk₆, m₆, nx₆, rfl, F₆, N₆, hJ₆⟩
        exact ⟨n + 1 - (i + 1), by omega, h₆, gs₆, tk₆, m₆, nx₆, i + 1, rfl, hback _ (N₆ (I, oI) (List.mem_append_right _ (.head _))).1, F₆, fun p hp => N₆ p (List.mem_append_left _ hp), hJ₆, hlt, rfl⟩
      cases f with
      | ret v => exact p
      | brk => exact p
      | next => exact fin p
      | cont => exact fin p
  · obtain rfl : i = n := Nat.le_antisymm hi (Nat.not_lt.mp hlt)
    refine W.done _ _ _ st' fun h₂ tk₂ hk₂ => wpAny_execs_nil ?_
    obtain ⟨F₂, N₂⟩ := sub h₂ hk₂
    exact done m nx gs h₂ tk₂ hJi F₂ N₂
end
end Mine
namespace Mine
set_option maxRecDepth 100000
set_option maxHeartbeats 8000000
local macro_rules | `(tactic| l_idx) => `(tactic| first | exact within_lo (by with_reducible assumption) (by with_reducible assumption) | exact within_hi (by with_reducible assumption) (by with_reducible assumption) | (refine Int.lt_of_lt_of_le (within_hi (by with_reducible assumption) (by with_reducible assumption)) ?_; omega))
local macro_rules | `(tactic| k_ne) => `(tactic| (refine neN ?_; (try dsimp only); with_reducible assumption))
local macro_rules | `(tactic| k_all) => `(tactic| with_reducible assumption)
local macro_rules | `(tactic| k_all) => `(tactic| first | (refine all_app ?ka ?kb; (case ka => k_all); (case kb => k_all)) | exact rest_ne (by tbn_find) (by (try dsimp only); omega) | exact OwnOff.ne (by assumption) (by k_memK))
local macro_rules | `(tactic| walk_at "exec For") => `(tactic| (k_here; refine Stop.out ?_))
local macro_rules | `(tactic| walk_at "exec For Name Call cons nil") => `(tactic| (k_here; refine Stop.out ?_))
local macro_rules | `(tactic| walk_at "exec For Name Name cons nil") => `(tactic| (k_here; refine Stop.out ?_))
local macro_rules | `(tactic| walk_at "exec For Tuple Call cons nil") => `(tactic| (k_here; refine Stop.out ?_))
local macro_rules | `(tactic| walk_at "exec For Tuple Call cons nil cons nil") => `(tactic| (k_here; refine Stop.out ?_))
local macro_rules | `(tactic| walk_at "LEN9") => `(tactic| first | with_reducible assumption | exact n_le9 (by with_reducible assumption))
local macro_rules | `(tactic| walk_at "IDXN") => `(tactic| first
  | with_reducible assumption
  | exact within_hi (by with_reducible assumption) (by with_reducible assumption)
  | exact idx_hi (by with_reducible assumption)
  | exact range_hi (by with_reducible assumption)
  | exact fmods_hi (by with_reducible assumption) (by omega))
local macro_rules | `(tactic| walk_at "IDX") => `(tactic| first
  | with_reducible assumption
  | exact within_lo (by with_reducible assumption) (by with_reducible assumption)
  | exact range_lo (by with_reducible assumption)
  | exact fmods_lo (by with_reducible assumption) (by omega)
  | walk_at "IDXN"
  | (law_purse 20000 => omega))
local macro_rules | `(tactic| walk_at "IDXF") => `(tactic| first | exact idx_fit (by walk_at "IDXN") (by walk_at "LEN9") | (law_purse 20000 => omega))
local macro_rules | `(tactic| walk_at "setItem ref int") => `(tactic| (k_here; (with_reducible show wpAny _ _ (setItem (Value.ref _) (Value.int _ _) (Value.int _ _)) _ _ _); k_dflt (refine' ksa_set ?k1 ?k2 ?k3 ?k4 ?k5 ?k6 ?k7 ?_; (case k1 => k_asm); (case k2 => k_asm); (case k3 => k_upd); (case k4 => with_reducible assumption); (case k5 => walk_at "IDX"); (case k6 => walk_at "IDX"); (case k7 => walk_at "IDXF"); k_whole); intro h' F' N' hi' hl' hs'; (try k_sweep)))
local macro_rules | `(tactic| walk_at "getItem ref int") => `(tactic| (k_here; (with_reducible show wpAny _ _ (getItem (Value.ref _) (Value.int _ _)) _ _ _); k_dflt (refine' ksa_get ?k1 ?k2 ?k3 ?k4 ?k5 ?k6 ?_; (case k1 => k_asm); (case k2 => k_mem); (case k3 => with_reducible assumption); (case k4 => walk_at "IDX"); (case k5 => walk_at "IDX"); (case k6 => walk_at "IDXF"); k_whole); intro _))
local macro_rules | `(tactic| walk_at "SUB") => `(tactic| (k_here; (with_reducible show wpAny _ _ (subscriptTail _ _ (Value.ref _) (Value.int _ _)) _ _ _); k_dflt (refine' ksa_sub ?k1 ?k2 ?k3 ?k4 ?k5 ?k6 ?_ ?k7; (case k1 => k_asm); (case k2 => k_mem); (case k3 => with_reducible assumption); (case k4 => walk_at "IDX"); (case k5 => walk_at "IDX"); (case k6 => walk_at "IDXF"); (case k7 => with_unfolding_all rfl); k_whole); intro _))
local macro_rules | `(tactic| walk_at "subscriptTail Name Name ref int") => `(tactic| walk_at "SUB")
local macro_rules | `(tactic| walk_at "subscriptTail Attribute") => `(tactic| walk_at "SUB")
local macro_rules | `(tactic| walk_at "subscriptTail Attribute Name") => `(tactic| walk_at "SUB")
local macro_rules | `(tactic| walk_at "subscriptTail Attribute Name ref") => `(tactic| walk_at "SUB")
local macro_rules | `(tactic| walk_at "subscriptTail Attribute Name Name") => `(tactic| walk_at "SUB")
local macro_rules | `(tactic| walk_at "subscriptTail Attribute Name Name ref int") => `(tactic| walk_at "SUB")
local macro_rules | `(tactic| walk_at "subscriptTail Attribute Name Name ref") => `(tactic| walk_at "SUB")
local macro_rules | `(tactic| walk_at "subscriptTail Attribute Name ref int") => `(tactic| walk_at "SUB")
local macro_rules | `(tactic| walk_at "subscriptTail") => `(tactic| walk_at "SUB")
local macro_rules | `(tactic| walk_at "call type:enumerate") => `(tactic| (k_here; refine Stop.out ?_))
local macro_rules | `(tactic| walk_at "TurnQ") => `(tactic| dsimp only [TurnQ])
local macro_rules | `(tactic| walk_at "exec Raise some none") => `(tactic| (k_here; refine Stop.out ?_))
local macro_rules | `(tactic| walk_at "RAISE") => `(tactic| (k_here; k_dflt (refine' Raise_madeB PySem.F.excCall_OverflowError PySem.F.excRaise_OverflowError ?hh ?hx; (case hh => rfl))))
local macro_rules | `(tactic| walk_at "leaving ref") => `(tactic| (k_here; k_dflt (refine' raise_any ?k1 ?f ?kk ?k0 ?k2 ?k3 ?_; (case f => exact rfl); (case kk => exact rfl); (case k0 => exact Heap.MadeExc.of (by assumption)); (case k1 => assumption); (case k2 => assumption); (case k3 => k_asm); k_whole); intro h' t' R' U'; (try dsimp only at R' U' ⊢); refine Stop.out ?_))
local macro_rules | `(tactic| k_room) => `(tactic| ktr_room)
local macro_rules | `(tactic| walk_at "ENTER C") => `(tactic| (refine' code_defC ?k1 ?k2 ?k3 ?k4 ?k5 ?kA ?kF ?kK ?k6 ?k7 ?k8 ?k9 ?kB ?kD ?_ ?c2 ?c3 ?c4; (case kA => exact rfl); (case kF => exact rfl); (case kK => assumption); (case k1 => k_asm); (case k2 => k_asm); (case k3 => k_asm); (case k4 => k_asm); (case k5 => k_asm); (case k6 => k_is); (case k7 => k_is); (case k8 => ktr_room); (case k9 => first | exact BindsTo.of_eq rfl | exact binds_K (by k_in) rfl (by k_is) rfl rfl rfl | fail "k_enter: no rule for these arguments"); (case kB => exact rfl); (case kD => decide +kernel); (case c2 => exact rfl); (case c3 => exact rfl); (case c4 => exact rfl); k_whole; intro g' L' h' tk' cells' FG' F' N' Y' B' X' T' l1; (try k_lt l1); k_cells Y'; (try simp only [List.cons_append, List.nil_append] at N'); (try dsimp only); (try k_lift B'); (try k_fold)))
local macro_rules | `(tactic| walk_at "TurnQ") => `(tactic| dsimp only [TurnQ])
local macro_rules | `(tactic| walk_at "ENTER P") => `(tactic| (refine' code_def ?k1 ?k2 ?k3 ?k4 ?k5 ?kA ?kF ?kK ?k6 ?k7 ?k8 ?k9 ?kB ?_ ?c2 ?c3 ?c4 ?c5; (case kA => exact rfl); (case kF => exact rfl); (case kK => assumption); (case k1 => k_asm); (case k2 => k_asm); (case k3 => k_asm); (case k4 => k_asm); (case k5 => k_asm); (case k6 => k_is); (case k7 => k_is); (case k8 => ktr_room); (case k9 => first | exact BindsTo.of_eq rfl | exact binds_K (by k_in) rfl (by k_is) rfl rfl rfl | fail "k_enter: no rule for these arguments"); (case c5 => decide); (case kB => exact locs rfl); (case c2 => exact rfl); (case c3 => exact rfl); (case c4 => exact rfl); k_whole; intro g' L' h' FG' F' N' B' X' T'; (try dsimp only); (try k_lift B'); (try k_fold)))
local macro_rules | `(tactic| walk_at "subscriptTail Name Name ref int") => `(tactic| first | (k_here; k_dflt (refine' sub_pick ?k1 ?k2 ?k3 ?k4 ?k5 ?_ ?k6; (case k1 => k_asm); (case k2 => k_mem); (case k3 => with_reducible assumption); (case k4 => with_reducible assumption); (case k5 => with_reducible assumption); (case k6 => with_unfolding_all rfl))) | walk_at "SUB")
local macro_rules | `(tactic| walk_at "call ref") => `(tactic| (k_here; refine Stop.out ?_))
local macro_rules | `(tactic| walk_at "exec Try") => `(tactic| (k_here; refine Stop.out ?_))
local macro_rules | `(tactic| walk_at "setItem ref int") => `(tactic| (k_here; refine Stop.out ?_))

local macro_rules | `(tactic| walk_at "call type:list") => `(tactic| (k_here; (with_reducible show wpAny _ _ (call (Value.type _) [Value.ref _]) _ _ _); k_dflt (refine' list_copyK ?k1 ?k2 ?k3 ?_ ?z; (case k1 => k_asm); (case k2 => k_asm); (case k3 => exact News.isList (by k_asm) (by k_mem)); (case z => exact ints_size (by with_reducible assumption) (by walk_at "LEN9")); k_whole); intro D' c' h' F' N' l1; (try k_lt l1); (try k_sweep)))

theorem ne_cell {h₀ h : Heap} {L a b : Addr} {oa ob : Obj} {news : List (Addr × Obj)} {v : Option Value} (N : News h₀ L h news) (ha : (a, oa) ∈ news) (hb : (b, ob) ∈ news) (hd : ob.data = .cell v) (hne : ∀ v, oa.data ≠ .cell v) : @Ne Nat a b := fun e => by
  have e' : a = b := e
  subst e'
  have h1 := (N _ ha).1
  rw [(N _ hb).1] at h1
  cases h1
  exact hne _ hd
theorem ne_tab {h₀ h : Heap} {L a b : Addr} {oa : Obj} {ps : Array Value} {news : List (Addr × Obj)} (N : News h₀ L h news) (ha : (a, oa) ∈ news) (hb : (b, tabObj ps) ∈ news) (hne : oa.cls ≠ .none) : @Ne Nat a b := fun e => by
  have e' : a = b := e
  subst e'
  have h1 := (N _ ha).1
  rw [(N _ hb).1] at h1
  cases h1
  exact hne rfl
local macro_rules | `(tactic| k_ne) => `(tactic| first | (refine neN ?_; (try dsimp only); with_reducible assumption) | (refine neN ?_; (try dsimp only); refine' ne_cell ?n ?a ?b ?d ?e; (case n => k_asm); (case a => k_mem); (case b => k_mem); (case d => k_asm); (case e => (intro v hv; cases hv))) | (refine neN ?_; (try dsimp only); refine' ne_tab ?n ?a ?b ?e; (case n => k_asm); (case a => k_mem); (case b => k_mem); (case e => (intro hv; cases hv))) | (refine neN ?_; (try dsimp only); omega))
def scopeOf (d : Stmt) : Scope := match d with | .FunctionDef _ _ _ _ _ _ scope _ _ _ => scope | _ => default
abbrev cel (o : Obj) (v : Option Value) : Prop := o.data = .cell v
/-- a row of hashes -/
def rowOf (ns : List Int) (d : Int) (j : Int) : List Int := (rangeKs 0 (d - 0).toNat).map fun k => numb ns (1 + j * 3 + k)
abbrev lawV (pt : Array Value) (f c' rf rc c1 c2 c3 c4 c5 c6 c7 c8 lr lw r0 r1 r2 r3 r4 : Addr) (oF oC oRF oRC o1 o2 o3 o4 o5 o6 o7 o8 : Obj) (s0 s1 s2 s3 s4 : Tok) (nr nw n0 n1 n2 n3 n4 : Nat) (v0 v1 v2 v3 v4 : List Value) : List (Addr × Obj) :=
  (424, tabObj pt) :: (f, oF) :: (c', oC) :: (rf, oRF) :: (rc, oRC) :: (c1, o1) :: (c2, o2) :: (c3, o3) :: (c4, o4) :: (c5, o5) :: (c6, o6) :: (c7, o7) :: (c8, o8) :: (lr, listOf [.ref r0, .ref r1, .ref r2, .ref r3, .ref r4].toArray nr) :: (lw, listOf [.str "k0" s0, .str "k1" s1, .str "k2" s2, .str "k3" s3, .str "k4" s4].toArray nw) :: (r0, listOf v0.toArray n0) :: (r1, listOf v1.toArray n1) :: (r2, listOf v2.toArray n2) :: (r3, listOf v3.toArray n3) :: (r4, listOf v4.toArray n4) :: []
abbrev lawS (cM : CM) (lc le x dx bl : Addr) (nc ne nb : Nat) (cv bv : List Value) (els : Int) (te t6 : Tok) (ps : Array Value) (rest : List (Addr × Obj)) : List (Addr × Obj) :=
  (lc, listOf cv.toArray nc) :: (le, listOf [.int els te].toArray ne) :: (x, instObj 396 dx) :: (dx, dictOf (cM.ents els t6 bl) 12) :: (bl, listOf bv.toArray nb) :: (353, tabObj ps) :: rest
theorem row_len (ns : List Int) {d : Int} (hd : 0 ≤ d) (j : Int) : ((rowOf ns d j).length : Int) = d := by
  unfold rowOf
  rw [List.length_map, rangeKs_length]; omega
theorem reads5 {w : World} {loose : List Str} {mean : ExcName → Option Value} {mg mb : Str → Option Value}
   (cM : CM) (f c' rf rc c1 c2 c3 c4 c5 c6 c7 c8 lr lw r0 r1 r2 r3 r4 : Addr) (oF oC oRF oRC o1 o2 o3 o4 o5 o6 o7 o8 : Obj) (s0 s1 s2 s3 s4 td tqR : Tok) (nr nw n0 n1 n2 n3 n4 : Nat) (v0 v1 v2 v3 v4 : List Value) (vR pt : Array Value) (docR pmR ctR : Value) (ns : List Int) (d : Int)
   (hc5 : cel o5 (some (.int d td))) (hc7 : cel o7 (some (.ref lr))) (hc8 : cel o8 (some (.ref lw)))
   (hoR : oRF = mkFn readStmt "law.<locals>.reading" [("words", c8), ("rows", c7), ("depth", c5)] docR pmR rc ctR) (hoRC : oRC.data = .fields vR) (hoRC2 : vR[1]? = some (.str "law.<locals>.reading" tqR))
   (i0 : IntsAre v0 (rowOf ns d 0)) (i1 : IntsAre v1 (rowOf ns d 1)) (i2 : IntsAre v2 (rowOf ns d 2)) (i3 : IntsAre v3 (rowOf ns d 3)) (i4 : IntsAre v4 (rowOf ns d 4))
   (hmf : cM.fn = rf) (hd1 : 1 ≤ d) (hd3 : d ≤ 3) (at' : Int) (h0 : 0 ≤ at') (h5 : at' < 5) :
   ∃ ra va na key, [Value.ref r0, .ref r1, .ref r2, .ref r3, .ref r4][at'.toNat]? = some (.ref ra) ∧ [Value.str "k0" s0, .str "k1" s1, .str "k2" s2, .str "k3" s3, .str "k4" s4][at'.toNat]? = some key ∧ (ra, listOf va.toArray na) ∈ lawV pt f c' rf rc c1 c2 c3 c4 c5 c6 c7 c8 lr lw r0 r1 r2 r3 r4 oF oC oRF oRC o1 o2 o3 o4 o5 o6 o7 o8 s0 s1 s2 s3 s4 nr nw n0 n1 n2 n3 n4 v0 v1 v2 v3 v4 ∧ IntsAre va (rowOf ns d at') ∧
     ∀ W, ReadsAs w loose mean mg mb cM.fn key (rowOf ns d at') (lawV pt f c' rf rc c1 c2 c3 c4 c5 c6 c7 c8 lr lw r0 r1 r2 r3 r4 oF oC oRF oRC o1 o2 o3 o4 o5 o6 o7 o8 s0 s1 s2 s3 s4 nr nw n0 n1 n2 n3 n4 v0 v1 v2 v3 v4 ++ W) := by
  have key : ∀ W key ks, ((key = .str "k0" s0 ∧ ks = rowOf ns d 0) ∨ (key = .str "k1" s1 ∧ ks = rowOf ns d 1) ∨ (key = .str "k2" s2 ∧ ks = rowOf ns d 2) ∨ (key = .str "k3" s3 ∧ ks = rowOf ns d 3) ∨ (key = .str "k4" s4 ∧ ks = rowOf ns d 4)) → ReadsAs w loose mean mg mb cM.fn key ks (lawV pt f c' rf rc c1 c2 c3 c4 c5 c6 c7 c8 lr lw r0 r1 r2 r3 r4 oF oC oRF oRC o1 o2 o3 o4 o5 o6 o7 o8 s0 s1 s2 s3 s4 nr nw n0 n1 n2 n3 n4 v0 v1 v2 v3 v4 ++ W) := fun W key ks hsel => by
    rw [hmf]
    exact read_as rf rc c5 c7 c8 lr lw r0 r1 r2 r3 r4 oRF oRC o5 o7 o8 vR tqR docR pmR ctR s0 s1 s2 s3 s4 td d nr nw n0 n1 n2 n3 n4 v0 v1 v2 v3 v4 _ _ _ _ _ _ hoR hoRC hoRC2 hc5 hc7 hc8 i0 i1 i2 i3 i4 (row_len ns (by omega) _) (row_len ns (by omega) _) (row_len ns (by omega) _) (row_len ns (by omega) _) (row_len ns (by omega) _) ⟨hd1, hd3⟩ key ks hsel (by kcf_all)
  obtain rfl | rfl | rfl | rfl | rfl : at' = 0 ∨ at' = 1 ∨ at' = 2 ∨ at' = 3 ∨ at' = 4 := by omega
  · exact ⟨r0, v0, n0, _, rfl, rfl, by k_mem, i0, fun W => key W _ _ (.inl ⟨rfl, rfl⟩)⟩
  · exact ⟨r1, v1, n1, _, rfl, rfl, by k_mem, i1, fun W => key W _ _ (.inr (.inl ⟨rfl, rfl⟩))⟩
  · exact ⟨r2, v2, n2, _, rfl, rfl, by k_mem, i2, fun W => key W _ _ (.inr (.inr (.inl ⟨rfl, rfl⟩)))⟩
  · exact ⟨r3, v3, n3, _, rfl, rfl, by k_mem, i3, fun W => key W _ _ (.inr (.inr (.inr (.inl ⟨rfl, rfl⟩))))⟩
  · exact ⟨r4, v4, n4, _, rfl, rfl, by k_mem, i4, fun W => key W _ _ (.inr (.inr (.inr (.inr ⟨rfl, rfl⟩))))⟩
theorem small_of {x : Int} (h0 : -(2 ^ 63) ≤ x) (h1 : x < 2 ^ 63) : Small x := Nat.le_trans (PySem.intBits_le_64 (by omega) (by omega)) (by decide)
theorem small_neg {x : Int} (h : Small x) : Small (-x) := by
  unfold Small Builtin.Int.intBits at *
  simpa using h
theorem menu_small {r z th : Int} {k : Nat} (hr : Small r) (hz : 0 ≤ z ∧ z < 5) (hth : 0 ≤ th ∧ th ≤ 4294967295) : Small ([1 + z, -(1 + z), r, -r, 4294967295 - th, -th, th, 4294967295 + (1 + z)].getD k 0) := by
  have key : ∀ (l : List Int) (k : Nat), (∀ x ∈ l, Small x) → Small (l.getD k 0) := fun l k h => by
    by_cases hk : k < l.length
    · rw [List.getD_eq_getElem?_getD, List.getElem?_eq_getElem hk]; exact h _ (List.getElem_mem hk)
    · rw [List.getD_eq_getElem?_getD, List.getElem?_eq_none (by omega)]; exact small_of (by decide) (by decide)
  refine key _ _ fun x hx => ?_
  simp only [List.mem_cons, List.not_mem_nil, or_false] at hx
  rcases hx with rfl | rfl | rfl | rfl | rfl | rfl | rfl | rfl
  · exact small_of (by omega) (by omega)
  · exact small_of (by omega) (by omega)
  · exact hr
  · exact small_neg hr
  · exact small_of (by omega) (by omega)
  · exact small_of (by omega) (by omega)
  · exact small_of (by omega) (by omega)
  · exact small_of (by omega) (by omega)
theorem endG {h₀ h' : Heap} {L : Addr} {J : (Str → Option Value) → List (Addr × Obj) → Array GenState → Prop} {own nx : List (Addr × Obj)} {s : Shared} {Q : Flow → Shared → Prop} {gs : Array GenState} {tk : Nat} {m' : Str → Option Value} (F : Fr h₀ L h' m') (N : News h₀ L h' (nx ++ own)) (hJ : J m' nx gs) :
    TurnG h₀ L J own s Q .next { s with heap := h', gens := gs, toks := tk } := ⟨h', gs, tk, m', nx, rfl, F, N, hJ⟩
def DeedFn (h₀ : Heap) (L f : Addr) (oF : Obj) : Prop := ∀ (h : Heap) (l : List (Addr × Obj)), News h₀ L h l → (f, oF) ∈ l → FnAt f h
theorem DeedFn.at {h₀ h : Heap} {L f : Addr} {oF : Obj} {l : List (Addr × Obj)} (D : DeedFn h₀ L f oF) (N : News h₀ L h l) (hm : (f, oF) ∈ l) : FnAt f h := D h l N hm
local macro_rules | `(tactic| walk_at "callWith ref") => `(tactic| (k_here; k_dflt (refine callWith_F (DeedFn.at (by with_reducible assumption) (by k_asm) (by k_mem)) ?_)))
local macro_rules | `(tactic| walk_at "FnAt") => `(tactic| (k_dflt (exact DeedFn.at (by with_reducible assumption) (by k_asm) (by k_mem))))
local macro_rules | `(tactic| walk_at "CompSrc") => `(tactic| ((with_reducible show LCg.CompSrc _ _ _ _ _ _ _ (Expr.Subscript (Expr.List _ _) _ _) _ _ _ _ _ _); refine Stop.out ?_))
theorem kcf_drop {h₀ h' : Heap} {L I C D : Addr} {m : Str → Option Value} {s₁ : Shared} {oI oC oD : Obj} {S : List (Addr × Obj) → Prop} {tk : Nat} {all news : List (Addr × Obj)} {r : Int} {t : Tok} (F : Fr h₀ L h' m) (N : News h₀ L h' all) (sub : ∀ p ∈ (I, oI) :: (C, oC) :: (D, oD) :: news, p ∈ all) (off : LCg.Off3 I C D news) (hS : S news) :
    LCg.CompEnd h₀ L m s₁ I oI C oC D oD S (fun y news' => KCfEl news r y news') (.int r t) { s₁ with heap := h', toks := tk } := LCg.CompEnd.intro F N news sub off hS ⟨rfl, t, rfl⟩
theorem turn_hi {k d : Int} (hd : d ≤ 3) (h : k < 0 + ((d - 0).toNat : Int)) : k < (([0, 2, 1] : List Int).length : Int) := by show k < 3; omega
theorem turn_fit {k d : Int} (hd : d ≤ 3) (h : k < 0 + ((d - 0).toNat : Int)) : k < 2 ^ 63 := by omega
theorem range_smallD {d : Int} (h1 : 1 ≤ d) (h3 : d ≤ 3) : Builtin.Range.small 0 d 1 = true := small_one (by decide) (by decide) (by omega) (by omega)
theorem range_sizeD {d : Int} (h3 : d ≤ 3) : (d - 0).toNat ≤ sizeLine := by rw [PySem.sizeLine_eq]; omega
theorem news_cons {h₀ h : Heap} {L : Addr} {l : List (Addr × Obj)} {p : Addr × Obj} (N : News h₀ L h l) (hm : p ∈ l) : News h₀ L h (p :: l) := fun q hq => by
  rcases List.mem_cons.mp hq with rfl | hq
  · exact N _ hm
  · exact N q hq
/-- behind same, other, mixed, and behind each fixed deed -/
def StW (h₀ : Heap) (L : Addr) (s : Shared) (cM : CM) (f lc le x dx bl : Addr) (nc ne nb : Nat) (b d : Int) (V : List (Addr × Obj)) (s' : Shared) : Prop :=
  ∃ h' gs tk m' D1 D2 D3 ys1 ys2 ys3 ks1 ks2 ks3 cv bv cells els te t6 ps, s' = { s with heap := h', gens := gs, toks := tk } ∧ Fr h₀ L h' m' ∧ m' "deed" = some (.ref f) ∧ m' "same" = some (.ref D1) ∧ m' "other" = some (.ref D2) ∧ m' "mixed" = some (.ref D3) ∧
    News h₀ L h' (lawS cM lc le x dx bl nc ne nb cv bv els te t6 ps (V ++ [(D1, LCg.lst ys1), (D2, LCg.lst ys2), (D3, LCg.lst ys3)])) ∧ IntsAre ys1 ks1 ∧ IntsAre ys2 ks2 ∧ IntsAre ys3 ks3 ∧ (ks1.length : Int) = d ∧ (ks2.length : Int) = d ∧ (ks3.length : Int) = d ∧
    OwnOff [(D1, LCg.lst ys1), (D2, LCg.lst ys2), (D3, LCg.lst ys3)] [lc, le, x, dx, bl, 353] ∧ IntsAre cv cells ∧ IntsAre bv cells ∧ (cells.length : Int) = b ∧ InTop cells ∧ AllBare gs ∧ TriplesOk ps.toList
theorem map_len {d : Int} {g : Int → Int} (h : 1 ≤ d) : ((List.map g (rangeKs 0 (d - 0).toNat)).length : Int) = d := by rw [List.length_map, rangeKs_length]; omega
theorem small_cell {z : Int} (h : 0 ≤ z ∧ z ≤ 4294967295) : Small z := small_of (by omega) (by omega)
theorem small_top {z : Int} (h : 0 ≤ z ∧ z ≤ 4294967295) : Small (4294967295 - z) := small_of (by omega) (by omega)
theorem own3 {D1 D2 D3 lc le x dx bl : Addr} {o1 o2 o3 : Obj} (h1 : lc ≠ D1 ∧ le ≠ D1 ∧ x ≠ D1 ∧ dx ≠ D1 ∧ bl ≠ D1 ∧ (353 : Nat) ≠ D1) (h2 : lc ≠ D2 ∧ le ≠ D2 ∧ x ≠ D2 ∧ dx ≠ D2 ∧ bl ≠ D2 ∧ (353 : Nat) ≠ D2) (h3 : lc ≠ D3 ∧ le ≠ D3 ∧ x ≠ D3 ∧ dx ≠ D3 ∧ bl ≠ D3 ∧ (353 : Nat) ≠ D3) : OwnOff [(D1, o1), (D2, o2), (D3, o3)] [lc, le, x, dx, bl, 353] := by
  have key : ∀ {D : Addr}, (lc ≠ D ∧ le ≠ D ∧ x ≠ D ∧ dx ≠ D ∧ bl ≠ D ∧ (353 : Nat) ≠ D) → ∀ a ∈ ([lc, le, x, dx, bl, 353] : List Addr), D ≠ a := fun {D} h a ha => by
    simp only [List.mem_cons, List.not_mem_nil, or_false] at ha
    rcases ha with rfl | rfl | rfl | rfl | rfl | rfl
    · exact h.1.symm
    · exact h.2.1.symm
    · exact h.2.2.1.symm
    · exact h.2.2.2.1.symm
    · exact h.2.2.2.2.1.symm
    · exact fun e => h.2.2.2.2.2 e.symm
  exact own_cons (key h1) (own_cons (key h2) (own_cons (key h3) (fun _ hp => nomatch hp)))
theorem law_d {w : World} {loose : List Str} {mean : ExcName → Option Value} {mg mb : Str → Option Value}
   (h₀ : Heap) (L fa : Addr) (m : Str → Option Value) (s : Shared) (Q : Flow → Shared → Prop) (E : Value → Shared → Prop) (sc : Scope) (body : List Stmt) (hsc : sc = scopeOf lawStmt) (hbody : body = lawBody.drop 10)
   (cM : CM) (f c' rf rc c1 c2 c3 c4 c5 c6 c7 c8 lr lw r0 r1 r2 r3 r4 lc le x dx bl ls : Addr) (oF oC oRF oRC o1 o2 o3 o4 o5 o6 o7 o8 : Obj) (s0 s1 s2 s3 s4 tb td tqF tqR te t6 : Tok) (nr nw nc ne nb n0 n1 n2 n3 n4 : Nat) (v0 v1 v2 v3 v4 vs cv bv : List Value) (vF vR pt ps : Array Value) (docF pmF ctF docR pmR ctR : Value) (ns cells : List Int) (b d els : Int)
   (B : Below callerA h₀ [] h₀) (F : Fr h₀ L s.heap m) (X : (hd.heap_39 w.params).In h₀) (T : Top topProg loose mean mg mb h₀) (G : AllBare s.gens) (ht : TriplesOk ps.toList)
   (N : News h₀ L s.heap (lawS cM lc le x dx bl nc ne nb cv bv els te t6 ps (lawV pt f c' rf rc c1 c2 c3 c4 c5 c6 c7 c8 lr lw r0 r1 r2 r3 r4 oF oC oRF oRC o1 o2 o3 o4 o5 o6 o7 o8 s0 s1 s2 s3 s4 nr nw n0 n1 n2 n3 n4 v0 v1 v2 v3 v4)))
   (hc1 : cel o1 (some (.ref ls))) (hc2 : cel o2 (some (.int b tb))) (hc3 : cel o3 (some (.ref lc))) (hc4 : cel o4 (some (.ref x))) (hc5 : cel o5 (some (.int d td))) (hc6 : cel o6 (some (.ref le))) (hc7 : cel o7 (some (.ref lr))) (hc8 : cel o8 (some (.ref lw)))
   (hoF : oF = mkFn deedStmt "law.<locals>.deed" [("words", c8), ("rows", c7), ("elements", c6), ("counting", c4), ("cells", c3), ("bits", c2)] docF pmF c' ctF) (hoC : oC.data = .fields vF) (hoC2 : vF[1]? = some (.str "law.<locals>.deed" tqF))
   (hoR : oRF = mkFn readStmt "law.<locals>.reading" [("words", c8), ("rows", c7), ("depth", c5)] docR pmR rc ctR) (hoRC : oRC.data = .fields vR) (hoRC2 : vR[1]? = some (.str "law.<locals>.reading" tqR))
   (hls : h₀.IsList ls vs.toArray) (hi : IntsAre vs ns) (hlen : ns.length ≤ 63) (hlay : (PyData.list (ns.map PyData.int)).layable0 = true)
   (i0 : IntsAre v0 (rowOf ns d 0)) (i1 : IntsAre v1 (rowOf ns d 1)) (i2 : IntsAre v2 (rowOf ns d 2)) (i3 : IntsAre v3 (rowOf ns d 3)) (i4 : IntsAre v4 (rowOf ns d 4))
   (hmb : cM.bits = b) (hmd : cM.depth = d) (hmf : cM.fn = rf) (hcv : IntsAre cv cells) (hbv : IntsAre bv cells) (hcl : (cells.length : Int) = b) (hct : InTop cells) (hd1 : 1 ≤ d) (hd3 : d ≤ 3) (hb3 : 3 ≤ b) (hb9 : b ≤ 9)
   (hap : Apart lc le x dx bl) (hoff : OwnOff (lawV pt f c' rf rc c1 c2 c3 c4 c5 c6 c7 c8 lr lw r0 r1 r2 r3 r4 oF oC oRF oRC o1 o2 o3 o4 o5 o6 o7 o8 s0 s1 s2 s3 s4 nr nw n0 n1 n2 n3 n4 v0 v1 v2 v3 v4) [lc, le, x, dx, bl, 353]) (hdn : m "deed" = some (.ref f))
   (hret : ∀ h' gs tk' m' news ps t, Fr h₀ L h' m' → News h₀ L h' news → (353, tabObj ps) ∈ news → (424, tabObj t) ∈ news → AllBare gs → Q (.ret (.bool true)) { s with heap := h', gens := gs, toks := tk' }) :
   wpAny (model Challenge.rw_db5010_01.row.prog w) (callerA.deeper (envX "law" sc L fa (.ref 426) [("words", c8), ("rows", c7), ("elements", c6), ("depth", c5), ("counting", c4), ("cells", c3), ("bits", c2), ("script", c1)])) (execs body (envX "law" sc L fa (.ref 426) [("words", c8), ("rows", c7), ("elements", c6), ("depth", c5), ("counting", c4), ("cells", c3), ("bits", c2), ("script", c1)])) Q E s := by
  (w_top off; revert X; k_fill; intro X)
  have CH := ch_of X
  have hsk : sc.kind = .function := by rw [hsc]; rfl
  have deedCall : ∀ (s' : Shared) (Q' E' : Value → Shared → Prop) (m' : Str → Option Value) (cv bv : List Value) (cells : List Int) (els : Int) (te t6 ta tt : Tok) (ps : Array Value) (W : List (Addr × Obj)) (rb bb : Bool) (at' amt : Int) (lp : Addr) (pv : List Value) (np : Nat) (ks : List Int),
     Fr h₀ L s'.heap m' → News h₀ L s'.heap (lawS cM lc le x dx bl nc ne nb cv bv els te t6 ps ((lawV pt f c' rf rc c1 c2 c3 c4 c5 c6 c7 c8 lr lw r0 r1 r2 r3 r4 oF oC oRF oRC o1 o2 o3 o4 o5 o6 o7 o8 s0 s1 s2 s3 s4 nr nw n0 n1 n2 n3 n4 v0 v1 v2 v3 v4) ++ W)) → (lp, listOf pv.toArray np) ∈ (lawV pt f c' rf rc c1 c2 c3 c4 c5 c6 c7 c8 lr lw r0 r1 r2 r3 r4 oF oC oRF oRC o1 o2 o3 o4 o5 o6 o7 o8 s0 s1 s2 s3 s4 nr nw n0 n1 n2 n3 n4 v0 v1 v2 v3 v4) ++ W → IntsAre pv ks → (ks.length : Int) = d → (bb = true → ks = rowOf ns d at') → 0 ≤ at' → at' < 5 → IntsAre cv cells → IntsAre bv cells → (cells.length : Int) = b → InTop cells → Small amt → AllBare s'.gens → TriplesOk ps.toList → OwnOff W [lc, le, x, dx, bl, 353] →
     (∀ h' gs tk' cv' bv' d' els' te' t6' ps', TriplesOk ps'.toList → Fr h₀ L h' m' → News h₀ L h' (lawS cM lc le x dx bl nc ne nb cv' bv' els' te' t6' ps' ((lawV pt f c' rf rc c1 c2 c3 c4 c5 c6 c7 c8 lr lw r0 r1 r2 r3 r4 oF oC oRF oRC o1 o2 o3 o4 o5 o6 o7 o8 s0 s1 s2 s3 s4 nr nw n0 n1 n2 n3 n4 v0 v1 v2 v3 v4) ++ W)) → IntsAre cv' d' → IntsAre bv' d' → (d'.length : Int) = b → InTop d' → AllBare gs → Q' (.bool true) { s' with heap := h', gens := gs, toks := tk' }) →
     wpAny (model Challenge.rw_db5010_01.row.prog w) (callerA.deeper (envX "law" sc L fa (.ref 426) [("words", c8), ("rows", c7), ("elements", c6), ("depth", c5), ("counting", c4), ("cells", c3), ("bits", c2), ("script", c1)])) (call (.ref f) [.bool rb, .int at' ta, .ref lp, .int amt tt, .bool bb]) Q' E' s' := by
    intro s' Q' E' m' cv bv cells els te t6 ta tt ps W rb bb at' amt lp pv np ks F' N' hlp hpv hks hbb h0 h5 hcv hbv hcl hct hsm G' ht' hW hret'
    obtain ⟨ra, va, na, key, e1, e2, e3, e4, e5⟩ := reads5 (w := w) (loose := loose) (mean := mean) (mg := mg) (mb := mb) cM f c' rf rc c1 c2 c3 c4 c5 c6 c7 c8 lr lw r0 r1 r2 r3 r4 oF oC oRF oRC o1 o2 o3 o4 o5 o6 o7 o8 s0 s1 s2 s3 s4 td tqR nr nw n0 n1 n2 n3 n4 v0 v1 v2 v3 v4 vR pt docR pmR ctR ns d hc5 hc7 hc8 hoR hoRC hoRC2 i0 i1 i2 i3 i4 hmf hd1 hd3 at' h0 h5
    have hsub : ∀ p ∈ dU f c' c2 c3 c4 c6 c7 c8 lr lw ra lp oF oC o2 o3 o4 o6 o7 o8 [Value.ref r0, .ref r1, .ref r2, .ref r3, .ref r4] [Value.str "k0" s0, .str "k1" s1, .str "k2" s2, .str "k3" s3, .str "k4" s4] va pv nr nw na np ((lawV pt f c' rf rc c1 c2 c3 c4 c5 c6 c7 c8 lr lw r0 r1 r2 r3 r4 oF oC oRF oRC o1 o2 o3 o4 o5 o6 o7 o8 s0 s1 s2 s3 s4 nr nw n0 n1 n2 n3 n4 v0 v1 v2 v3 v4) ++ W), p ∈ (lawV pt f c' rf rc c1 c2 c3 c4 c5 c6 c7 c8 lr lw r0 r1 r2 r3 r4 oF oC oRF oRC o1 o2 o3 o4 o5 o6 o7 o8 s0 s1 s2 s3 s4 nr nw n0 n1 n2 n3 n4 v0 v1 v2 v3 v4) ++ W := by
      have e3' := List.mem_append_left W e3
      kcf_all
    have hVW : OwnOff ((lawV pt f c' rf rc c1 c2 c3 c4 c5 c6 c7 c8 lr lw r0 r1 r2 r3 r4 oF oC oRF oRC o1 o2 o3 o4 o5 o6 o7 o8 s0 s1 s2 s3 s4 nr nw n0 n1 n2 n3 n4 v0 v1 v2 v3 v4) ++ W) [lc, le, x, dx, bl, 353] := ownOff_app hoff hW
    have hrl := row_len ns (d := d) (by omega) at'
    have hlw : ∀ {cv bv : List Value} {els : Int} {te t6 : Tok} {ps : Array Value} {l l' : List (Addr × Obj)}, (∀ p ∈ l, p ∈ l') → ∀ p ∈ lawS cM lc le x dx bl nc ne nb cv bv els te t6 ps l, p ∈ lawS cM lc le x dx bl nc ne nb cv bv els te t6 ps l' := fun h => sub_cons (sub_cons (sub_cons (sub_cons (sub_cons (sub_cons h)))))
    refine deed_c _ _ _ _ _ _ _ _ _ h₀ L m' s' Q' E' f c' c2 c3 c4 c6 c7 c8 lc le lr lw x dx bl ra lp oF oC o2 o3 o4 o6 o7 o8 vF tqF docF pmF ctF key tb te ta tt cM nr nw nc ne nb na np _ _ cv bv va pv cells ks (rowOf ns d at') els amt at' t6 ps rb bb ((lawV pt f c' rf rc c1 c2 c3 c4 c5 c6 c7 c8 lr lw r0 r1 r2 r3 r4 oF oC oRF oRC o1 o2 o3 o4 o5 o6 o7 o8 s0 s1 s2 s3 s4 nr nw n0 n1 n2 n3 n4 v0 v1 v2 v3 v4) ++ W) B F' X T hsk (by decide) (by decide) G' ht' (news_sub N' (hlw hsub)) hoF hoC hoC2 (by rw [hmb]; exact hc2) hc3 hc4 hc6 hc7 hc8 h0 h5 e1 e2 (e5 W) hcv hbv e4 hpv hbb hap (fun p hp => hVW p (hsub p hp)) (by omega) (by omega) (by omega) (by omega) (by omega) (by omega) (by omega) hct hsm ?_
    intro h' gs tk' cv' bv' d' els' te' t6' ps' a1 a2 a3 a4 a5 a6 a7 a8
    exact hret' h' gs tk' cv' bv' d' els' te' t6' ps' a1 a2 (news_sub a3 (hlw fun p hp => by simp only [dU, List.mem_cons]; simp only [hp, or_true])) a4 a5 (by omega) a7 a8
  have deedFn : DeedFn h₀ L f oF := by
    intro h l N hm
    have hg := (N _ hm).1
    conv at hoF => rhs; whnf
    rw [hoF] at hg
    exact ⟨_, _, _, _, hg⟩
  conv at hsc => rhs; whnf
  conv at hbody => rhs; whnf
  subst hsc hbody
  have F1 := fr_pin F hdn
  clear F
  refine wpAny_noRaise ?_
  dsimp only [lawS, lawV] at N
  k_steps
  refine Stop.go (wpAny_For ?_ (fun _ => rfl))
  k_steps
  (rename IsRange _ _ _ _ _ _ _ _ => hrg); (rename Fr h₀ L _ _ => lF1); (rename News h₀ L _ _ => lN1)
  refine range_any (n := 12) (fun _ m nx gs => m "deed" = some (.ref f) ∧ AllBare gs ∧ ∃ cv bv cells els te t6 ps, nx = lawS cM lc le x dx bl nc ne nb cv bv els te t6 ps (lawV pt f c' rf rc c1 c2 c3 c4 c5 c6 c7 c8 lr lw r0 r1 r2 r3 r4 oF oC oRF oRC o1 o2 o3 o4 o5 o6 o7 o8 s0 s1 s2 s3 s4 nr nw n0 n1 n2 n3 n4 v0 v1 v2 v3 v4) ∧ IntsAre cv cells ∧ IntsAre bv cells ∧ (cells.length : Int) = b ∧ InTop cells ∧ TriplesOk ps.toList) rfl rfl rfl rfl hrg (by decide) (by decide) lF1 lN1 ⟨rfl, G, cv, bv, cells, els, te, t6, ps, rfl, hcv, hbv, hcl, hct, ht⟩ ?hJ ?turn ?done PassesOwn.never
  case hJ =>
    rintro i m nx g ⟨_, _, cv, bv, cells, els, te, t6, ps, rfl, _⟩
    rfl
  case turn =>
    clear lF1 lN1 hrg hcv hbv hcl hct ht G
    rintro i m1 nx gs ti h1 tk1 own hi12 hown ⟨hdn1, G, cv, bv, cells, els, te, t6, ps, rfl, hcv, hbv, hcl, hct, ht⟩ F1 N1
    have F2 := fr_pin (x := "deed") F1 hdn1
    clear F1
    have hsm : Small (numb ns (16 + (i : Int))) := numb_small hlay (by omega) (by omega)
    have at0 : 0 ≤ ((numb ns (16 + (i : Int))).fmod 1000003).fmod 5 := fmod_lo _ (by decide)
    have at5 : ((numb ns (16 + (i : Int))).fmod 1000003).fmod 5 < 5 := fmod_hi _ (by decide)
    obtain ⟨ra, va, na, key, e1, e2, e3, e4, e5⟩ := reads5 (w := w) (loose := loose) (mean := mean) (mg := mg) (mb := mb) cM f c' rf rc c1 c2 c3 c4 c5 c6 c7 c8 lr lw r0 r1 r2 r3 r4 oF oC oRF oRC o1 o2 o3 o4 o5 o6 o7 o8 s0 s1 s2 s3 s4 td tqR nr nw n0 n1 n2 n3 n4 v0 v1 v2 v3 v4 vR pt docR pmR ctR ns d hc5 hc7 hc8 hoR hoRC hoRC2 i0 i1 i2 i3 i4 hmf hd1 hd3 _ at0 at5
    have hrl := row_len ns (d := d) (by omega) (((numb ns (16 + (i : Int))).fmod 1000003).fmod 5)
    have hr0 : 0 < ((rowOf ns d (((numb ns (16 + (i : Int))).fmod 1000003).fmod 5)).length : Int) := by omega
    have hr9 : (rowOf ns d (((numb ns (16 + (i : Int))).fmod 1000003).fmod 5)).length ≤ 9 := by omega
    have hb0 : b ≠ 0 := by omega
    have g0 : 0 ≤ ((rowOf ns d (((numb ns (16 + (i : Int))).fmod 1000003).fmod 5)).getD (Int.toNat 0) 0).fmod b := fmod_lo _ (by omega)
    have g1 : ((rowOf ns d (((numb ns (16 + (i : Int))).fmod 1000003).fmod 5)).getD (Int.toNat 0) 0).fmod b < (cells.length : Int) := by rw [hcl]; exact fmod_hi _ (by omega)
    have hc9 : cells.length ≤ 9 := by omega
    have N2 := news_cons N1 (List.mem_append_left own (.tail _ (.tail _ (.tail _ (.tail _ (.tail _ (.tail _ e3)))))))
    clear N1
    dsimp only [lawS, lawV] at N2
    simp only [List.cons_append, List.nil_append] at N2
    have hi0 : 0 ≤ (i : Int) := Int.natCast_nonneg i
    have hi4 : (i : Int) < 12 := by omega
    have hi16 : 0 ≤ 16 + (i : Int) := by omega
    have hi28 : 16 + (i : Int) < 1000 := by omega
    k_steps
    refine Stop.go ?_
    (rename Fr h₀ L _ _ => lF1); (rename News h₀ L _ _ => lN1)
    refine number_c _ _ _ _ _ _ _ _ _ _ _ _ _ _ _ _ _ ls vs ns _ _ _ B lF1 X T rfl (by decide) (by decide) lN1 hls hi hlen hi16 hi28 ?_
    intro t2 h2 tk2 F3 N3
    clear lF1 lN1 hi16 hi28
    k_steps
    refine Stop.go ?_
    (rename Fr h₀ L _ _ => lF1); (rename News h₀ L _ _ => lN1)
    refine deedCall _ _ _ _ cv bv cells els te t6 _ _ ps own _ _ _ _ ra va na (rowOf ns d _) lF1 (news_sub lN1 (by kcf_all)) (List.mem_append_left own e3) e4 hrl (fun _ => rfl) at0 at5 hcv hbv hcl hct (menu_small hsm ⟨fmod_lo _ (by decide), fmod_hi _ (by decide)⟩ (hct.at g0 g1)) G ht (ownOff_sub hown (by simp)) ?_
    intro h3 gs3 tk3 cv3 bv3 cells3 els3 te3 t63 ps3 ht3 F4 N4 ic3 ib3 hcl3 hct3 G3
    clear lF1 lN1
    dsimp only [lawS, lawV] at N4
    simp only [List.cons_append, List.nil_append] at N4
    k_steps
    exact endG (by assumption) (news_sub N4 (by kcf_all)) ⟨rfl, G3, cv3, bv3, cells3, els3, te3, t63, ps3, rfl, ic3, ib3, hcl3, hct3, ht3⟩
  case done =>
    clear lF1 lN1 hrg hcv hbv hcl hct ht G
    rintro m1 nx gs h1 tk1 ⟨hdn1, G, cv, bv, cells, els, te, t6, ps, rfl, hcv, hbv, hcl, hct, ht⟩ F1 N1
    have F2 := fr_pin (x := "deed") F1 hdn1
    clear F1
    dsimp only [lawS, lawV] at N1
    have hc9 : cells.length ≤ 9 := by omega
    have hc0 : (0 : Int) < (cells.length : Int) := by omega
    have hc1' : (1 : Int) < (cells.length : Int) := by omega
    refine cut_execs (StW h₀ L s cM f lc le x dx bl nc ne nb b d (lawV pt f c' rf rc c1 c2 c3 c4 c5 c6 c7 c8 lr lw r0 r1 r2 r3 r4 oF oC oRF oRC o1 o2 o3 o4 o5 o6 o7 o8 s0 s1 s2 s3 s4 nr nw n0 n1 n2 n3 n4 v0 v1 v2 v3 v4)) 3 ?W0 ?W1
    case W0 =>
      dsimp only [List.take]
      k_steps
      refine Stop.go ?_
      (rename IsRange _ _ _ _ _ _ _ _ => hrg2); (rename Fr h₀ L _ _ => lF1); (rename News h₀ L _ _ => lN1)
      (rename lc ≠ _ ∧ _ => hoB)
      refine LCg.CompSrc.range (by rfl) lF1 lN1 hrg2 (range_smallD hd1 hd3) (rangeSize_nat _ _) (range_sizeD hd3) ?_
      intro g'
      refine' kcf_range (fun k => [0, 2, 1].getD k.toNat 0) (fun k' t' I' oI' C' oC' D' m' ys' h' tk' E' hlo' hhi' hC' hx' F' N' off' ne' hMark' => ?_) ?_
      · clear lF1 lN1
        have hk3 : k' < (([0, 2, 1] : List Int).length : Int) := turn_hi hd3 hhi'
        have hk63 : k' < 2 ^ 63 := turn_fit hd3 hhi'
        k_steps
      · clear lF1 lN1
        intro ys3 hys3
        k_steps
        (rename IntsAre _ (List.map (fun _ => (0 : Int)) _) => hs1); (rename IntsAre _ (List.map (fun _ => (1 : Int)) _) => hs2)
        (rename News h₀ L _ _ => lN1); (rename Fr h₀ L _ _ => lF1)
        (rename _ ≠ _ ∧ _ ≠ _ ∧ lc ≠ _ ∧ _ => ho3); (rename _ ≠ _ ∧ lc ≠ _ ∧ _ => ho2)
        exact ⟨_, _, _, _, _, _, _, _, _, _, _, _, _, cv, bv, cells, els, te, t6, ps, rfl, lF1, rfl, rfl, rfl, rfl, news_sub lN1 (by kcf_all), hs1, hs2, hys3, map_len hd1, map_len hd1, map_len hd1,
          own3 ⟨hoB.1, hoB.2.1, hoB.2.2.1, hoB.2.2.2.1, hoB.2.2.2.2.1, hoB.2.2.2.2.2.1⟩ ⟨ho2.2.1, ho2.2.2.1, ho2.2.2.2.1, ho2.2.2.2.2.1, ho2.2.2.2.2.2.1, ho2.2.2.2.2.2.2.1⟩ ⟨ho3.2.2.1, ho3.2.2.2.1, ho3.2.2.2.2.1, ho3.2.2.2.2.2.1, ho3.2.2.2.2.2.2.1, ho3.2.2.2.2.2.2.2.1⟩, hcv, hbv, hcl, hct, G, ht⟩
    case W1 =>
      rintro s0' ⟨h1, gs1, tk1, m1, D1, D2, D3, ys1, ys2, ys3, ks1, ks2, ks3, cv, bv, cells, els, te, t6, ps, rfl, F1, q1, q2, q3, q4, N1, y1, y2, y3, l1, l2, l3, hW, hcv, hbv, hcl, hct, G, ht⟩
      dsimp only [List.drop]
      refine cut_execs (StW h₀ L s cM f lc le x dx bl nc ne nb b d (lawV pt f c' rf rc c1 c2 c3 c4 c5 c6 c7 c8 lr lw r0 r1 r2 r3 r4 oF oC oRF oRC o1 o2 o3 o4 o5 o6 o7 o8 s0 s1 s2 s3 s4 nr nw n0 n1 n2 n3 n4 v0 v1 v2 v3 v4)) 1 ?_ ?_
      · -- PART if0
        have F2 := fr_pin (x := "deed") (fr_pin (x := "same") (fr_pin (x := "other") (fr_pin (x := "mixed") F1 q4) q3) q2) q1
        clear F1 q1 q2 q3 q4
        dsimp only [List.take]
        dsimp only [lawS, lawV] at N1
        simp only [List.cons_append, List.nil_append] at N1
        have hc9 : cells.length ≤ 9 := by omega
        have hc0 : (0 : Int) < (cells.length : Int) := by omega
        have hc1' : (1 : Int) < (cells.length : Int) := by omega
        k_steps
        refine Stop.go ?_
        (rename News h₀ L _ _ => lN1); (rename Fr h₀ L _ _ => lF1)
        refine deedCall _ _ _ _ cv bv cells els te t6 _ _ ps [(D1, LCg.lst ys1), (D2, LCg.lst ys2), (D3, LCg.lst ys3)] _ false _ _ D1 ys1 _ ks1 lF1 (news_sub lN1 (by kcf_all)) (List.mem_append_right _ (.head _)) y1 l1 (fun h => nomatch h) (by decide) (by decide) hcv hbv hcl hct (small_top (hct.at (by decide) hc0)) G ht hW ?_
        intro h3 gs3 tk3 cv3 bv3 cells3 els3 te3 t63 ps3 ht3 F4 N4 ic3 ib3 hcl3 hct3 G3
        clear lF1 lN1
        k_steps
        exact ⟨_, gs3, _, _, D1, D2, D3, ys1, ys2, ys3, ks1, ks2, ks3, cv3, bv3, cells3, els3, te3, t63, ps3, rfl, by assumption, rfl, rfl, rfl, rfl, N4, y1, y2, y3, l1, l2, l3, hW, ic3, ib3, hcl3, hct3, G3, ht3⟩
      clear F1 N1 hcv hbv hcl hct G ht hW y1 y2 y3 l1 l2 l3 q1 q2 q3 q4
      rintro s1' ⟨h1, gs1, tk1, m1, D1, D2, D3, ys1, ys2, ys3, ks1, ks2, ks3, cv, bv, cells, els, te, t6, ps, rfl, F1, q1, q2, q3, q4, N1, y1, y2, y3, l1, l2, l3, hW, hcv, hbv, hcl, hct, G, ht⟩
      dsimp only [List.drop]
      refine cut_execs (StW h₀ L s cM f lc le x dx bl nc ne nb b d (lawV pt f c' rf rc c1 c2 c3 c4 c5 c6 c7 c8 lr lw r0 r1 r2 r3 r4 oF oC oRF oRC o1 o2 o3 o4 o5 o6 o7 o8 s0 s1 s2 s3 s4 nr nw n0 n1 n2 n3 n4 v0 v1 v2 v3 v4)) 1 ?_ ?_
      · -- PART if1
        have F2 := fr_pin (x := "deed") (fr_pin (x := "same") (fr_pin (x := "other") (fr_pin (x := "mixed") F1 q4) q3) q2) q1
        clear F1 q1 q2 q3 q4
        dsimp only [List.take]
        dsimp only [lawS, lawV] at N1
        simp only [List.cons_append, List.nil_append] at N1
        have hc9 : cells.length ≤ 9 := by omega
        have hc0 : (0 : Int) < (cells.length : Int) := by omega
        have hc1' : (1 : Int) < (cells.length : Int) := by omega
        k_steps
        refine Stop.go ?_
        (rename News h₀ L _ _ => lN1); (rename Fr h₀ L _ _ => lF1)
        refine deedCall _ _ _ _ cv bv cells els te t6 _ _ ps [(D1, LCg.lst ys1), (D2, LCg.lst ys2), (D3, LCg.lst ys3)] _ false _ _ D2 ys2 _ ks2 lF1 (news_sub lN1 (by kcf_all)) (List.mem_append_right _ (.tail _ (.head _))) y2 l2 (fun h => nomatch h) (by decide) (by decide) hcv hbv hcl hct (small_of (by decide) (by decide)) G ht hW ?_
        intro h3 gs3 tk3 cv3 bv3 cells3 els3 te3 t63 ps3 ht3 F4 N4 ic3 ib3 hcl3 hct3 G3
        clear lF1 lN1
        k_steps
        exact ⟨_, gs3, _, _, D1, D2, D3, ys1, ys2, ys3, ks1, ks2, ks3, cv3, bv3, cells3, els3, te3, t63, ps3, rfl, by assumption, rfl, rfl, rfl, rfl, N4, y1, y2, y3, l1, l2, l3, hW, ic3, ib3, hcl3, hct3, G3, ht3⟩
      clear F1 N1 hcv hbv hcl hct G ht hW y1 y2 y3 l1 l2 l3 q1 q2 q3 q4
      rintro s2' ⟨h1, gs1, tk1, m1, D1, D2, D3, ys1, ys2, ys3, ks1, ks2, ks3, cv, bv, cells, els, te, t6, ps, rfl, F1, q1, q2, q3, q4, N1, y1, y2, y3, l1, l2, l3, hW, hcv, hbv, hcl, hct, G, ht⟩
      dsimp only [List.drop]
      refine cut_execs (StW h₀ L s cM f lc le x dx bl nc ne nb b d (lawV pt f c' rf rc c1 c2 c3 c4 c5 c6 c7 c8 lr lw r0 r1 r2 r3 r4 oF oC oRF oRC o1 o2 o3 o4 o5 o6 o7 o8 s0 s1 s2 s3 s4 nr nw n0 n1 n2 n3 n4 v0 v1 v2 v3 v4)) 1 ?_ ?_
      · -- PART if2
        have F2 := fr_pin (x := "deed") (fr_pin (x := "same") (fr_pin (x := "other") (fr_pin (x := "mixed") F1 q4) q3) q2) q1
        clear F1 q1 q2 q3 q4
        dsimp only [List.take]
        dsimp only [lawS, lawV] at N1
        simp only [List.cons_append, List.nil_append] at N1
        have hc9 : cells.length ≤ 9 := by omega
        have hc0 : (0 : Int) < (cells.length : Int) := by omega
        have hc1' : (1 : Int) < (cells.length : Int) := by omega
        k_steps
        refine Stop.go ?_
        (rename News h₀ L _ _ => lN1); (rename Fr h₀ L _ _ => lF1)
        refine deedCall _ _ _ _ cv bv cells els te t6 _ _ ps [(D1, LCg.lst ys1), (D2, LCg.lst ys2), (D3, LCg.lst ys3)] _ false _ _ D2 ys2 _ ks2 lF1 (news_sub lN1 (by kcf_all)) (List.mem_append_right _ (.tail _ (.head _))) y2 l2 (fun h => nomatch h) (by decide) (by decide) hcv hbv hcl hct (small_cell (hct.at (by decide) hc1')) G ht hW ?_
        intro h3 gs3 tk3 cv3 bv3 cells3 els3 te3 t63 ps3 ht3 F4 N4 ic3 ib3 hcl3 hct3 G3
        clear lF1 lN1
        k_steps
        exact ⟨_, gs3, _, _, D1, D2, D3, ys1, ys2, ys3, ks1, ks2, ks3, cv3, bv3, cells3, els3, te3, t63, ps3, rfl, by assumption, rfl, rfl, rfl, rfl, N4, y1, y2, y3, l1, l2, l3, hW, ic3, ib3, hcl3, hct3, G3, ht3⟩
      clear F1 N1 hcv hbv hcl hct G ht hW y1 y2 y3 l1 l2 l3 q1 q2 q3 q4
      rintro s3' ⟨h1, gs1, tk1, m1, D1, D2, D3, ys1, ys2, ys3, ks1, ks2, ks3, cv, bv, cells, els, te, t6, ps, rfl, F1, q1, q2, q3, q4, N1, y1, y2, y3, l1, l2, l3, hW, hcv, hbv, hcl, hct, G, ht⟩
      dsimp only [List.drop]
      refine cut_execs (StW h₀ L s cM f lc le x dx bl nc ne nb b d (lawV pt f c' rf rc c1 c2 c3 c4 c5 c6 c7 c8 lr lw r0 r1 r2 r3 r4 oF oC oRF oRC o1 o2 o3 o4 o5 o6 o7 o8 s0 s1 s2 s3 s4 nr nw n0 n1 n2 n3 n4 v0 v1 v2 v3 v4)) 1 ?_ ?_
      · -- PART if3
        have F2 := fr_pin (x := "deed") (fr_pin (x := "same") (fr_pin (x := "other") (fr_pin (x := "mixed") F1 q4) q3) q2) q1
        clear F1 q1 q2 q3 q4
        dsimp only [List.take]
        dsimp only [lawS, lawV] at N1
        simp only [List.cons_append, List.nil_append] at N1
        have hc9 : cells.length ≤ 9 := by omega
        have hc0 : (0 : Int) < (cells.length : Int) := by omega
        have hc1' : (1 : Int) < (cells.length : Int) := by omega
        k_steps
        refine Stop.go ?_
        (rename News h₀ L _ _ => lN1); (rename Fr h₀ L _ _ => lF1)
        refine deedCall _ _ _ _ cv bv cells els te t6 _ _ ps [(D1, LCg.lst ys1), (D2, LCg.lst ys2), (D3, LCg.lst ys3)] _ false _ _ D3 ys3 _ ks3 lF1 (news_sub lN1 (by kcf_all)) (List.mem_append_right _ (.tail _ (.tail _ (.head _)))) y3 l3 (fun h => nomatch h) (by decide) (by decide) hcv hbv hcl hct (small_neg (small_cell (hct.at (by decide) hc0))) G ht hW ?_
        intro h3 gs3 tk3 cv3 bv3 cells3 els3 te3 t63 ps3 ht3 F4 N4 ic3 ib3 hcl3 hct3 G3
        clear lF1 lN1
        k_steps
        exact ⟨_, gs3, _, _, D1, D2, D3, ys1, ys2, ys3, ks1, ks2, ks3, cv3, bv3, cells3, els3, te3, t63, ps3, rfl, by assumption, rfl, rfl, rfl, rfl, N4, y1, y2, y3, l1, l2, l3, hW, ic3, ib3, hcl3, hct3, G3, ht3⟩
      clear F1 N1 hcv hbv hcl hct G ht hW y1 y2 y3 l1 l2 l3 q1 q2 q3 q4
      rintro s4' ⟨h1, gs1, tk1, m1, D1, D2, D3, ys1, ys2, ys3, ks1, ks2, ks3, cv, bv, cells, els, te, t6, ps, rfl, F1, q1, q2, q3, q4, N1, y1, y2, y3, l1, l2, l3, hW, hcv, hbv, hcl, hct, G, ht⟩
      dsimp only [List.drop]
      refine cut_execs (StW h₀ L s cM f lc le x dx bl nc ne nb b d (lawV pt f c' rf rc c1 c2 c3 c4 c5 c6 c7 c8 lr lw r0 r1 r2 r3 r4 oF oC oRF oRC o1 o2 o3 o4 o5 o6 o7 o8 s0 s1 s2 s3 s4 nr nw n0 n1 n2 n3 n4 v0 v1 v2 v3 v4)) 1 ?_ ?_
      · -- PART if4
        have F2 := fr_pin (x := "deed") (fr_pin (x := "same") (fr_pin (x := "other") (fr_pin (x := "mixed") F1 q4) q3) q2) q1
        clear F1 q1 q2 q3 q4
        dsimp only [List.take]
        dsimp only [lawS, lawV] at N1
        simp only [List.cons_append, List.nil_append] at N1
        have hc9 : cells.length ≤ 9 := by omega
        have hc0 : (0 : Int) < (cells.length : Int) := by omega
        have hc1' : (1 : Int) < (cells.length : Int) := by omega
        k_steps
        refine Stop.go ?_
        (rename News h₀ L _ _ => lN1); (rename Fr h₀ L _ _ => lF1)
        refine deedCall _ _ _ _ cv bv cells els te t6 _ _ ps [(D1, LCg.lst ys1), (D2, LCg.lst ys2), (D3, LCg.lst ys3)] _ false _ _ D2 ys2 _ ks2 lF1 (news_sub lN1 (by kcf_all)) (List.mem_append_right _ (.tail _ (.head _))) y2 l2 (fun h => nomatch h) (by decide) (by decide) hcv hbv hcl hct (small_of (by decide) (by decide)) G ht hW ?_
        intro h3 gs3 tk3 cv3 bv3 cells3 els3 te3 t63 ps3 ht3 F4 N4 ic3 ib3 hcl3 hct3 G3
        clear lF1 lN1
        k_steps
        exact ⟨_, gs3, _, _, D1, D2, D3, ys1, ys2, ys3, ks1, ks2, ks3, cv3, bv3, cells3, els3, te3, t63, ps3, rfl, by assumption, rfl, rfl, rfl, rfl, N4, y1, y2, y3, l1, l2, l3, hW, ic3, ib3, hcl3, hct3, G3, ht3⟩
      clear F1 N1 hcv hbv hcl hct G ht hW y1 y2 y3 l1 l2 l3 q1 q2 q3 q4
      rintro s5' ⟨h1, gs1, tk1, m1, D1, D2, D3, ys1, ys2, ys3, ks1, ks2, ks3, cv, bv, cells, els, te, t6, ps, rfl, F1, q1, q2, q3, q4, N1, y1, y2, y3, l1, l2, l3, hW, hcv, hbv, hcl, hct, G, ht⟩
      dsimp only [List.drop]
      refine cut_execs (StW h₀ L s cM f lc le x dx bl nc ne nb b d (lawV pt f c' rf rc c1 c2 c3 c4 c5 c6 c7 c8 lr lw r0 r1 r2 r3 r4 oF oC oRF oRC o1 o2 o3 o4 o5 o6 o7 o8 s0 s1 s2 s3 s4 nr nw n0 n1 n2 n3 n4 v0 v1 v2 v3 v4)) 1 ?_ ?_
      · -- PART if5
        have F2 := fr_pin (x := "deed") (fr_pin (x := "same") (fr_pin (x := "other") (fr_pin (x := "mixed") F1 q4) q3) q2) q1
        clear F1 q1 q2 q3 q4
        dsimp only [List.take]
        dsimp only [lawS, lawV] at N1
        simp only [List.cons_append, List.nil_append] at N1
        have hc9 : cells.length ≤ 9 := by omega
        have hc0 : (0 : Int) < (cells.length : Int) := by omega
        have hc1' : (1 : Int) < (cells.length : Int) := by omega
        k_steps
        refine Stop.go ?_
        (rename News h₀ L _ _ => lN1); (rename Fr h₀ L _ _ => lF1)
        refine deedCall _ _ _ _ cv bv cells els te t6 _ _ ps [(D1, LCg.lst ys1), (D2, LCg.lst ys2), (D3, LCg.lst ys3)] _ false _ _ D2 ys2 _ ks2 lF1 (news_sub lN1 (by kcf_all)) (List.mem_append_right _ (.tail _ (.head _))) y2 l2 (fun h => nomatch h) (by decide) (by decide) hcv hbv hcl hct (small_of (by decide) (by decide)) G ht hW ?_
        intro h3 gs3 tk3 cv3 bv3 cells3 els3 te3 t63 ps3 ht3 F4 N4 ic3 ib3 hcl3 hct3 G3
        clear lF1 lN1
        k_steps
        exact ⟨_, gs3, _, _, D1, D2, D3, ys1, ys2, ys3, ks1, ks2, ks3, cv3, bv3, cells3, els3, te3, t63, ps3, rfl, by assumption, rfl, rfl, rfl, rfl, N4, y1, y2, y3, l1, l2, l3, hW, ic3, ib3, hcl3, hct3, G3, ht3⟩
      clear F1 N1 hcv hbv hcl hct G ht hW y1 y2 y3 l1 l2 l3 q1 q2 q3 q4
      rintro sG' ⟨h1, gs1, tk1, m1, D1, D2, D3, ys1, ys2, ys3, ks1, ks2, ks3, cv, bv, cells, els, te, t6, ps, rfl, F1, q1, q2, q3, q4, N1, y1, y2, y3, l1, l2, l3, hW, hcv, hbv, hcl, hct, G, ht⟩
      dsimp only [List.drop]
      clear y1 y2 y3 l1 l2 l3 q2 q3 q4 hW
      have N2 := news_sub N1 (l' := lawS cM lc le x dx bl nc ne nb cv bv els te t6 ps (lawV pt f c' rf rc c1 c2 c3 c4 c5 c6 c7 c8 lr lw r0 r1 r2 r3 r4 oF oC oRF oRC o1 o2 o3 o4 o5 o6 o7 o8 s0 s1 s2 s3 s4 nr nw n0 n1 n2 n3 n4 v0 v1 v2 v3 v4)) (fun p hp => by
        have := hp
        simp only [lawS, List.mem_cons, List.mem_append] at this ⊢
        rcases this with q | q | q | q | q | q | q <;> simp only [q, true_or, or_true])
      have F2 := fr_pin (x := "deed") F1 q1
      clear F1 N1
      dsimp only [lawS, lawV] at N2
      k_steps
      refine Stop.go (wpAny_For ?_ (fun _ => rfl))
      k_steps
      (rename IsRange _ _ _ _ _ _ _ _ => hrg); (rename Fr h₀ L _ _ => lF1); (rename News h₀ L _ _ => lN1)
      refine range_any (n := 5) (fun _ m nx gs => AllBare gs ∧ ∃ ps, nx = lawS cM lc le x dx bl nc ne nb cv bv els te t6 ps (lawV pt f c' rf rc c1 c2 c3 c4 c5 c6 c7 c8 lr lw r0 r1 r2 r3 r4 oF oC oRF oRC o1 o2 o3 o4 o5 o6 o7 o8 s0 s1 s2 s3 s4 nr nw n0 n1 n2 n3 n4 v0 v1 v2 v3 v4) ∧ TriplesOk ps.toList) rfl rfl rfl rfl hrg (by decide) (by decide) lF1 lN1 ⟨G, ps, rfl, ht⟩ ?gJ ?gturn ?gdone PassesOwn.never
      case gJ =>
        rintro i m nx g ⟨_, ps, rfl, _⟩
        rfl
      case gturn =>
        clear lF1 lN1 hrg ht G
        rintro i m2 nx gs ti h1 tk1 own hi5 hown ⟨G, ps, rfl, ht⟩ F1 N1
        have at0 : 0 ≤ (i : Int) := Int.natCast_nonneg i
        have at5 : (i : Int) < 5 := by omega
        obtain ⟨ra, va, na, key, e1, e2, e3, e4, e5⟩ := reads5 (w := w) (loose := loose) (mean := mean) (mg := mg) (mb := mb) cM f c' rf rc c1 c2 c3 c4 c5 c6 c7 c8 lr lw r0 r1 r2 r3 r4 oF oC oRF oRC o1 o2 o3 o4 o5 o6 o7 o8 s0 s1 s2 s3 s4 td tqR nr nw n0 n1 n2 n3 n4 v0 v1 v2 v3 v4 vR pt docR pmR ctR ns d hc5 hc7 hc8 hoR hoRC hoRC2 i0 i1 i2 i3 i4 hmf hd1 hd3 _ at0 at5
        have hrl := row_len ns (d := d) (by omega) (i : Int)
        have hr9 : (rowOf ns d (i : Int)).length ≤ 9 := by omega
        have hb0 : b ≠ 0 := by omega
        have hc9 : cells.length ≤ 9 := by omega
        have N2 := news_cons N1 (List.mem_append_left own (.tail _ (.tail _ (.tail _ (.tail _ (.tail _ (.tail _ e3)))))))
        clear N1
        dsimp only [lawS, lawV] at N2
        simp only [List.cons_append, List.nil_append] at N2
        subst hmb
        have hV2 : OwnOff ((lawV pt f c' rf rc c1 c2 c3 c4 c5 c6 c7 c8 lr lw r0 r1 r2 r3 r4 oF oC oRF oRC o1 o2 o3 o4 o5 o6 o7 o8 s0 s1 s2 s3 s4 nr nw n0 n1 n2 n3 n4 v0 v1 v2 v3 v4) ++ own) [lc, le, x, dx, bl, 353] := ownOff_app hoff (ownOff_sub hown (by simp))
        have hdr : cM.depth = ((rowOf ns d (i : Int)).length : Int) := by omega
        have hr0 : 0 < (rowOf ns d (i : Int)).length := by omega
        have hcl' := hcl.symm
        have hc0 : 0 < cells.length := by omega
        k_steps
        refine Stop.go ?_
        (rename Fr h₀ L _ _ => lF1); (rename News h₀ L _ _ => lN1); (rename _ ∈ List.map _ (rowOf ns d _) => hm1); (rename ∀ a, a ∈ List.map _ (rowOf ns d _) → _ => hm2)
        have hM := mn_of hm1 hm2
        subst hM
        refine chkw_c _ _ _ _ _ _ _ _ _ _ _ _ _ _ _ _ _ cM x dx bl bv nb cells (rowOf ns d (i : Int)) els t6 ((lc, listOf cv.toArray nc) :: (le, listOf [.int els te].toArray ne) :: ((lawV pt f c' rf rc c1 c2 c3 c4 c5 c6 c7 c8 lr lw r0 r1 r2 r3 r4 oF oC oRF oRC o1 o2 o3 o4 o5 o6 o7 o8 s0 s1 s2 s3 s4 nr nw n0 n1 n2 n3 n4 v0 v1 v2 v3 v4) ++ own)) ps key B lF1 X T rfl (by decide) (by decide) (news_sub lN1 (by kcf_all)) (e5 own).cons.cons G CH ht hbv ⟨hap.2.2.1.2.2, hap.2.2.2.1.2, hap.2.2.2.2⟩ (off_chk hap hV2) hdr hcl' hr0 hc9 hc0 ?_
        intro t3 h3 gs3 tk3 ps3 ht3 F4 N4 G4
        clear lF1 lN1
        have N5 := news_cons N4 (.tail _ (.tail _ (.tail _ (.tail _ (.tail _ (.tail _ (List.mem_append_left own e3)))))))
        clear N4
        dsimp only [lawV] at N5
        simp only [List.cons_append, List.nil_append] at N5
        k_steps
        · exact absurd rfl (show mn (List.map (fun k => at_ cells (k.fmod cM.bits)) (rowOf ns d (i : Int))) ≠ mn (List.map (fun k' => cells.getD (k'.fmod cM.bits).toNat 0) (rowOf ns d (i : Int))) from by assumption)
        · refine Stop.go ?_
          (rename Fr h₀ L _ _ => lF1); (rename News h₀ L _ _ => lN1); (rename ra < _ ∧ x < _ ∧ _ => hltD)
          refine chk_c _ _ _ _ _ _ _ _ _ _ _ _ _ _ _ _ _ cM x dx bl _ bv va nb _ cells (rowOf ns d (i : Int)) els t6 ((lc, listOf cv.toArray nc) :: (le, listOf [.int els te].toArray ne) :: ((lawV pt f c' rf rc c1 c2 c3 c4 c5 c6 c7 c8 lr lw r0 r1 r2 r3 r4 oF oC oRF oRC o1 o2 o3 o4 o5 o6 o7 o8 s0 s1 s2 s3 s4 nr nw n0 n1 n2 n3 n4 v0 v1 v2 v3 v4) ++ own)) ps3 B lF1 X T rfl (by decide) (by decide) (news_sub lN1 (by kcf_all)) G4 CH ht3 hbv e4 ⟨hap.2.2.1.2.2, hap.2.2.2.1.2, hap.2.2.2.2, Nat.ne_of_gt hltD.2.2.2.2.1⟩ (off_chk hap hV2) hcl' hr0 hc9 hc0 ?_
          intro t4 h4 gs4 tk4 ps4 ht4 F6 N6 G6
          clear lF1 lN1
          k_steps
          · exact absurd rfl (show mn (List.map (fun k => at_ cells (k.fmod cM.bits)) (rowOf ns d (i : Int))) ≠ mn (List.map (fun k' => cells.getD (k'.fmod cM.bits).toNat 0) (rowOf ns d (i : Int))) from by assumption)
          · dsimp only [lawV] at N6
            simp only [List.cons_append, List.nil_append] at N6
            exact endG (by assumption) (news_sub N6 (by kcf_all)) ⟨G6, ps4, rfl, ht4⟩
      case gdone =>
        rintro m2 nx gs h1 tk1 ⟨G, ps, rfl, ht⟩ F1 N1
        have hc9 : cells.length ≤ 9 := by omega
        dsimp only [lawS, lawV] at N1
        k_steps
        exact hret _ gs _ _ _ ps pt (by assumption) (by assumption) (by k_mem) (by k_mem) G
end Mine
namespace Mine
set_option maxRecDepth 100000
set_option maxHeartbeats 2000000
theorem own_six {l : List (Addr × Obj)} {a1 a2 a3 a4 a5 a6 : Addr} (h1 : ∀ p ∈ l, p.1 ≠ a1) (h2 : ∀ p ∈ l, p.1 ≠ a2) (h3 : ∀ p ∈ l, p.1 ≠ a3) (h4 : ∀ p ∈ l, p.1 ≠ a4) (h5 : ∀ p ∈ l, p.1 ≠ a5) (h6 : ∀ p ∈ l, p.1 ≠ a6) : OwnOff l [a1, a2, a3, a4, a5, a6] := fun p hp b hb => by
  simp only [List.mem_cons, List.not_mem_nil, or_false] at hb
  rcases hb with rfl | rfl | rfl | rfl | rfl | rfl
  · exact h1 p hp
  · exact h2 p hp
  · exact h3 p hp
  · exact h4 p hp
  · exact h5 p hp
  · exact h6 p hp
/-- the addresses of the law's ledger that its turns change lie apart from all others -/
theorem law_offs {pt : Array Value} {f c' rf rc c1 c2 c3 c4 c5 c6 c7 c8 lr lw r0 r1 r2 r3 r4 lc le x dx bl : Addr} {oF oC oRF oRC o1 o2 o3 o4 o5 o6 o7 o8 : Obj} {s0 s1 s2 s3 s4 : Tok} {nr nw n0 n1 n2 n3 n4 : Nat} {v0 v1 v2 v3 v4 : List Value}
    (hlt : @LT.lt Nat _ 424 c1 ∧ @LT.lt Nat _ 353 c1 ∧ @LT.lt Nat _ c1 c2 ∧ @LT.lt Nat _ c2 c3 ∧ @LT.lt Nat _ c3 c4 ∧ @LT.lt Nat _ c4 c5 ∧ @LT.lt Nat _ c5 c6 ∧ @LT.lt Nat _ c6 c7 ∧ @LT.lt Nat _ c7 c8)
    (hlw : @LT.lt Nat _ c8 lw ∧ @LT.lt Nat _ c7 lw ∧ @LT.lt Nat _ c6 lw ∧ @LT.lt Nat _ c5 lw ∧ @LT.lt Nat _ c4 lw ∧ @LT.lt Nat _ c3 lw ∧ @LT.lt Nat _ c2 lw ∧ @LT.lt Nat _ c1 lw ∧ @LT.lt Nat _ 424 lw ∧ @LT.lt Nat _ 353 lw)
    (hrc : @LT.lt Nat _ lr rc ∧ @LT.lt Nat _ lw rc ∧ @LT.lt Nat _ c8 rc ∧ @LT.lt Nat _ c7 rc ∧ @LT.lt Nat _ c6 rc ∧ @LT.lt Nat _ c5 rc ∧ @LT.lt Nat _ c4 rc ∧ @LT.lt Nat _ c3 rc ∧ @LT.lt Nat _ c2 rc ∧ @LT.lt Nat _ c1 rc ∧ @LT.lt Nat _ 424 rc ∧ @LT.lt Nat _ 353 rc ∧ @LT.lt Nat _ r0 rc ∧ @LT.lt Nat _ r1 rc ∧ @LT.lt Nat _ r2 rc ∧ @LT.lt Nat _ r3 rc ∧ @LT.lt Nat _ r4 rc) (hrf : @LT.lt Nat _ rc rf)
    (hx : @LT.lt Nat _ rf x ∧ @LT.lt Nat _ rc x ∧ @LT.lt Nat _ lr x ∧ @LT.lt Nat _ lw x ∧ @LT.lt Nat _ c8 x ∧ @LT.lt Nat _ c7 x ∧ @LT.lt Nat _ c6 x ∧ @LT.lt Nat _ c5 x ∧ @LT.lt Nat _ c4 x ∧ @LT.lt Nat _ c3 x ∧ @LT.lt Nat _ c2 x ∧ @LT.lt Nat _ c1 x ∧ @LT.lt Nat _ 424 x ∧ @LT.lt Nat _ 353 x ∧ @LT.lt Nat _ r0 x ∧ @LT.lt Nat _ r1 x ∧ @LT.lt Nat _ r2 x ∧ @LT.lt Nat _ r3 x ∧ @LT.lt Nat _ r4 x)
    (hdx : @LT.lt Nat _ rf dx ∧ @LT.lt Nat _ rc dx ∧ @LT.lt Nat _ lr dx ∧ @LT.lt Nat _ lw dx ∧ @LT.lt Nat _ c8 dx ∧ @LT.lt Nat _ c7 dx ∧ @LT.lt Nat _ c6 dx ∧ @LT.lt Nat _ c5 dx ∧ @LT.lt Nat _ c4 dx ∧ @LT.lt Nat _ c3 dx ∧ @LT.lt Nat _ c2 dx ∧ @LT.lt Nat _ c1 dx ∧ @LT.lt Nat _ 424 dx ∧ @LT.lt Nat _ 353 dx ∧ @LT.lt Nat _ r0 dx ∧ @LT.lt Nat _ r1 dx ∧ @LT.lt Nat _ r2 dx ∧ @LT.lt Nat _ r3 dx ∧ @LT.lt Nat _ r4 dx)
    (hbl : @LT.lt Nat _ rf bl ∧ @LT.lt Nat _ rc bl ∧ @LT.lt Nat _ lr bl ∧ @LT.lt Nat _ lw bl ∧ @LT.lt Nat _ c8 bl ∧ @LT.lt Nat _ c7 bl ∧ @LT.lt Nat _ c6 bl ∧ @LT.lt Nat _ c5 bl ∧ @LT.lt Nat _ c4 bl ∧ @LT.lt Nat _ c3 bl ∧ @LT.lt Nat _ c2 bl ∧ @LT.lt Nat _ c1 bl ∧ @LT.lt Nat _ 424 bl ∧ @LT.lt Nat _ 353 bl ∧ @LT.lt Nat _ r0 bl ∧ @LT.lt Nat _ r1 bl ∧ @LT.lt Nat _ r2 bl ∧ @LT.lt Nat _ r3 bl ∧ @LT.lt Nat _ r4 bl)
    (hlc : @Ne Nat bl lc ∧ @Ne Nat dx lc ∧ @Ne Nat x lc ∧ @Ne Nat rf lc ∧ @Ne Nat rc lc ∧ @Ne Nat lr lc ∧ @Ne Nat lw lc ∧ @Ne Nat c8 lc ∧ @Ne Nat c7 lc ∧ @Ne Nat c6 lc ∧ @Ne Nat c5 lc ∧ @Ne Nat c4 lc ∧ @Ne Nat c3 lc ∧ @Ne Nat c2 lc ∧ @Ne Nat c1 lc ∧ @Ne Nat 424 lc ∧ @Ne Nat 353 lc ∧ @Ne Nat r0 lc ∧ @Ne Nat r1 lc ∧ @Ne Nat r2 lc ∧ @Ne Nat r3 lc ∧ @Ne Nat r4 lc)
    (hle : @LT.lt Nat _ lc le ∧ @LT.lt Nat _ bl le ∧ @LT.lt Nat _ dx le ∧ @LT.lt Nat _ x le ∧ @LT.lt Nat _ rf le ∧ @LT.lt Nat _ rc le ∧ @LT.lt Nat _ lr le ∧ @LT.lt Nat _ lw le ∧ @LT.lt Nat _ c8 le ∧ @LT.lt Nat _ c7 le ∧ @LT.lt Nat _ c6 le ∧ @LT.lt Nat _ c5 le ∧ @LT.lt Nat _ c4 le ∧ @LT.lt Nat _ c3 le ∧ @LT.lt Nat _ c2 le ∧ @LT.lt Nat _ c1 le ∧ @LT.lt Nat _ 424 le ∧ @LT.lt Nat _ 353 le ∧ @LT.lt Nat _ r0 le ∧ @LT.lt Nat _ r1 le ∧ @LT.lt Nat _ r2 le ∧ @LT.lt Nat _ r3 le ∧ @LT.lt Nat _ r4 le)
    (hc : @LT.lt Nat _ le c' ∧ @LT.lt Nat _ lc c' ∧ @LT.lt Nat _ bl c' ∧ @LT.lt Nat _ dx c' ∧ @LT.lt Nat _ x c' ∧ @LT.lt Nat _ rf c' ∧ @LT.lt Nat _ rc c' ∧ @LT.lt Nat _ lr c' ∧ @LT.lt Nat _ lw c' ∧ @LT.lt Nat _ c8 c' ∧ @LT.lt Nat _ c7 c' ∧ @LT.lt Nat _ c6 c' ∧ @LT.lt Nat _ c5 c' ∧ @LT.lt Nat _ c4 c' ∧ @LT.lt Nat _ c3 c' ∧ @LT.lt Nat _ c2 c' ∧ @LT.lt Nat _ c1 c' ∧ @LT.lt Nat _ 424 c' ∧ @LT.lt Nat _ 353 c' ∧ @LT.lt Nat _ r0 c' ∧ @LT.lt Nat _ r1 c' ∧ @LT.lt Nat _ r2 c' ∧ @LT.lt Nat _ r3 c' ∧ @LT.lt Nat _ r4 c') (hf : @LT.lt Nat _ c' f)
    (hne : @Ne Nat x dx ∧ @Ne Nat x bl ∧ @Ne Nat dx bl)
    (hr : @Ne Nat lr 353 ∧ @Ne Nat r0 353 ∧ @Ne Nat r1 353 ∧ @Ne Nat r2 353 ∧ @Ne Nat r3 353 ∧ @Ne Nat r4 353) :
    Apart lc le x dx bl ∧ OwnOff (lawV pt f c' rf rc c1 c2 c3 c4 c5 c6 c7 c8 lr lw r0 r1 r2 r3 r4 oF oC oRF oRC o1 o2 o3 o4 o5 o6 o7 o8 s0 s1 s2 s3 s4 nr nw n0 n1 n2 n3 n4 v0 v1 v2 v3 v4) [lc, le, x, dx, bl, 353] := by
  obtain ⟨a_424, a_353, a_2, a_3, a_4, a_5, a_6, a_7, a_8⟩ := hlt
  obtain ⟨lw_c8, lw_c7, lw_c6, lw_c5, lw_c4, lw_c3, lw_c2, lw_c1, lw_424, lw_353⟩ := hlw
  obtain ⟨rc_lr, rc_lw, rc_c8, rc_c7, rc_c6, rc_c5, rc_c4, rc_c3, rc_c2, rc_c1, rc_424, rc_353, rc_r0, rc_r1, rc_r2, rc_r3, rc_r4⟩ := hrc
  obtain ⟨x_rf, x_rc, x_lr, x_lw, x_c8, x_c7, x_c6, x_c5, x_c4, x_c3, x_c2, x_c1, x_424, x_353, x_r0, x_r1, x_r2, x_r3, x_r4⟩ := hx
  obtain ⟨dx_rf, dx_rc, dx_lr, dx_lw, dx_c8, dx_c7, dx_c6, dx_c5, dx_c4, dx_c3, dx_c2, dx_c1, dx_424, dx_353, dx_r0, dx_r1, dx_r2, dx_r3, dx_r4⟩ := hdx
  obtain ⟨bl_rf, bl_rc, bl_lr, bl_lw, bl_c8, bl_c7, bl_c6, bl_c5, bl_c4, bl_c3, bl_c2, bl_c1, bl_424, bl_353, bl_r0, bl_r1, bl_r2, bl_r3, bl_r4⟩ := hbl
  obtain ⟨lc_bl, lc_dx, lc_x, lc_rf, lc_rc, lc_lr, lc_lw, lc_c8, lc_c7, lc_c6, lc_c5, lc_c4, lc_c3, lc_c2, lc_c1, lc_424, lc_353, lc_r0, lc_r1, lc_r2, lc_r3, lc_r4⟩ := hlc
  obtain ⟨le_lc, le_bl, le_dx, le_x, le_rf, le_rc, le_lr, le_lw, le_c8, le_c7, le_c6, le_c5, le_c4, le_c3, le_c2, le_c1, le_424, le_353, le_r0, le_r1, le_r2, le_r3, le_r4⟩ := hle
  obtain ⟨c_le, c_lc, c_bl, c_dx, c_x, c_rf, c_rc, c_lr, c_lw, c_c8, c_c7, c_c6, c_c5, c_c4, c_c3, c_c2, c_c1, c_424, c_353, c_r0, c_r1, c_r2, c_r3, c_r4⟩ := hc
  obtain ⟨n_xdx, n_xbl, n_dxbl⟩ := hne
  obtain ⟨z_lr, z_r0, z_r1, z_r2, z_r3, z_r4⟩ := hr
  have b_2 : @LT.lt Nat _ 353 c2 := Nat.lt_trans a_353 a_2
  have b_3 : @LT.lt Nat _ 353 c3 := Nat.lt_trans b_2 a_3
  have b_4 : @LT.lt Nat _ 353 c4 := Nat.lt_trans b_3 a_4
  have b_5 : @LT.lt Nat _ 353 c5 := Nat.lt_trans b_4 a_5
  have b_6 : @LT.lt Nat _ 353 c6 := Nat.lt_trans b_5 a_6
  have b_7 : @LT.lt Nat _ 353 c7 := Nat.lt_trans b_6 a_7
  have b_8 : @LT.lt Nat _ 353 c8 := Nat.lt_trans b_7 a_8
  refine ⟨⟨⟨Nat.ne_of_lt le_lc, lc_x.symm, lc_dx.symm, lc_bl.symm, lc_353.symm⟩, ⟨Nat.ne_of_gt le_x, Nat.ne_of_gt le_dx, Nat.ne_of_gt le_bl, Nat.ne_of_gt le_353⟩, ⟨n_xdx, n_xbl, Nat.ne_of_gt x_353⟩, ⟨n_dxbl, Nat.ne_of_gt dx_353⟩, Nat.ne_of_gt bl_353⟩, own_six ?_ ?_ ?_ ?_ ?_ ?_⟩
  · exact off1_ne ⟨lc_424, Nat.ne_of_gt (Nat.lt_trans c_lc hf), Nat.ne_of_gt c_lc, lc_rf, lc_rc, lc_c1, lc_c2, lc_c3, lc_c4, lc_c5, lc_c6, lc_c7, lc_c8, lc_lr, lc_lw, lc_r0, lc_r1, lc_r2, lc_r3, lc_r4, True.intro⟩
  · exact off1_ne ⟨Nat.ne_of_lt le_424, Nat.ne_of_gt (Nat.lt_trans c_le hf), Nat.ne_of_gt c_le, Nat.ne_of_lt le_rf, Nat.ne_of_lt le_rc, Nat.ne_of_lt le_c1, Nat.ne_of_lt le_c2, Nat.ne_of_lt le_c3, Nat.ne_of_lt le_c4, Nat.ne_of_lt le_c5, Nat.ne_of_lt le_c6, Nat.ne_of_lt le_c7, Nat.ne_of_lt le_c8, Nat.ne_of_lt le_lr, Nat.ne_of_lt le_lw, Nat.ne_of_lt le_r0, Nat.ne_of_lt le_r1, Nat.ne_of_lt le_r2, Nat.ne_of_lt le_r3, Nat.ne_of_lt le_r4, True.intro⟩
  · exact off1_ne ⟨Nat.ne_of_lt x_424, Nat.ne_of_gt (Nat.lt_trans c_x hf), Nat.ne_of_gt c_x, Nat.ne_of_lt x_rf, Nat.ne_of_lt x_rc, Nat.ne_of_lt x_c1, Nat.ne_of_lt x_c2, Nat.ne_of_lt x_c3, Nat.ne_of_lt x_c4, Nat.ne_of_lt x_c5, Nat.ne_of_lt x_c6, Nat.ne_of_lt x_c7, Nat.ne_of_lt x_c8, Nat.ne_of_lt x_lr, Nat.ne_of_lt x_lw, Nat.ne_of_lt x_r0, Nat.ne_of_lt x_r1, Nat.ne_of_lt x_r2, Nat.ne_of_lt x_r3, Nat.ne_of_lt x_r4, True.intro⟩
  · exact off1_ne ⟨Nat.ne_of_lt dx_424, Nat.ne_of_gt (Nat.lt_trans c_dx hf), Nat.ne_of_gt c_dx, Nat.ne_of_lt dx_rf, Nat.ne_of_lt dx_rc, Nat.ne_of_lt dx_c1, Nat.ne_of_lt dx_c2, Nat.ne_of_lt dx_c3, Nat.ne_of_lt dx_c4, Nat.ne_of_lt dx_c5, Nat.ne_of_lt dx_c6, Nat.ne_of_lt dx_c7, Nat.ne_of_lt dx_c8, Nat.ne_of_lt dx_lr, Nat.ne_of_lt dx_lw, Nat.ne_of_lt dx_r0, Nat.ne_of_lt dx_r1, Nat.ne_of_lt dx_r2, Nat.ne_of_lt dx_r3, Nat.ne_of_lt dx_r4, True.intro⟩
  · exact off1_ne ⟨Nat.ne_of_lt bl_424, Nat.ne_of_gt (Nat.lt_trans c_bl hf), Nat.ne_of_gt c_bl, Nat.ne_of_lt bl_rf, Nat.ne_of_lt bl_rc, Nat.ne_of_lt bl_c1, Nat.ne_of_lt bl_c2, Nat.ne_of_lt bl_c3, Nat.ne_of_lt bl_c4, Nat.ne_of_lt bl_c5, Nat.ne_of_lt bl_c6, Nat.ne_of_lt bl_c7, Nat.ne_of_lt bl_c8, Nat.ne_of_lt bl_lr, Nat.ne_of_lt bl_lw, Nat.ne_of_lt bl_r0, Nat.ne_of_lt bl_r1, Nat.ne_of_lt bl_r2, Nat.ne_of_lt bl_r3, Nat.ne_of_lt bl_r4, True.intro⟩
  · exact off1_ne ⟨(show @Ne Nat 424 353 by decide), Nat.ne_of_gt (Nat.lt_trans c_353 hf), Nat.ne_of_gt c_353, Nat.ne_of_gt (Nat.lt_trans rc_353 hrf), Nat.ne_of_gt rc_353, Nat.ne_of_gt a_353, Nat.ne_of_gt b_2, Nat.ne_of_gt b_3, Nat.ne_of_gt b_4, Nat.ne_of_gt b_5, Nat.ne_of_gt b_6, Nat.ne_of_gt b_7, Nat.ne_of_gt b_8, z_lr, Nat.ne_of_gt lw_353, z_r0, z_r1, z_r2, z_r3, z_r4, True.intro⟩
end Mine
namespace Mine
set_option maxRecDepth 100000
set_option maxHeartbeats 2000000
local macro_rules | `(tactic| l_idx) => `(tactic| first | exact within_lo (by with_reducible assumption) (by with_reducible assumption) | exact within_hi (by with_reducible assumption) (by with_reducible assumption) | (refine Int.lt_of_lt_of_le (within_hi (by with_reducible assumption) (by with_reducible assumption)) ?_; omega))
local macro_rules | `(tactic| k_ne) => `(tactic| (refine neN ?_; (try dsimp only); with_reducible assumption))
local macro_rules | `(tactic| k_all) => `(tactic| with_reducible assumption)
local macro_rules | `(tactic| k_all) => `(tactic| first | (refine all_app ?ka ?kb; (case ka => k_all); (case kb => k_all)) | exact rest_ne (by tbn_find) (by (try dsimp only); omega) | exact OwnOff.ne (by assumption) (by k_memK))
local macro_rules | `(tactic| walk_at "exec For") => `(tactic| (k_here; refine Stop.out ?_))
local macro_rules | `(tactic| walk_at "exec For Name Call cons nil") => `(tactic| (k_here; refine Stop.out ?_))
local macro_rules | `(tactic| walk_at "exec For Name Name cons nil") => `(tactic| (k_here; refine Stop.out ?_))
local macro_rules | `(tactic| walk_at "exec For Tuple Call cons nil") => `(tactic| (k_here; refine Stop.out ?_))
local macro_rules | `(tactic| walk_at "exec For Tuple Call cons nil cons nil") => `(tactic| (k_here; refine Stop.out ?_))
local macro_rules | `(tactic| walk_at "LEN9") => `(tactic| first | with_reducible assumption | exact n_le9 (by with_reducible assumption))
local macro_rules | `(tactic| walk_at "IDXN") => `(tactic| first
  | with_reducible assumption
  | exact within_hi (by with_reducible assumption) (by with_reducible assumption)
  | exact idx_hi (by with_reducible assumption)
  | exact range_hi (by with_reducible assumption)
  | exact fmods_hi (by with_reducible assumption) (by omega))
local macro_rules | `(tactic| walk_at "IDX") => `(tactic| first
  | with_reducible assumption
  | exact within_lo (by with_reducible assumption) (by with_reducible assumption)
  | exact range_lo (by with_reducible assumption)
  | exact fmods_lo (by with_reducible assumption) (by omega)
  | walk_at "IDXN"
  | (law_purse 20000 => omega))
local macro_rules | `(tactic| walk_at "IDXF") => `(tactic| first | exact idx_fit (by walk_at "IDXN") (by walk_at "LEN9") | (law_purse 20000 => omega))
local macro_rules | `(tactic| walk_at "setItem ref int") => `(tactic| (k_here; (with_reducible show wpAny _ _ (setItem (Value.ref _) (Value.int _ _) (Value.int _ _)) _ _ _); k_dflt (refine' ksa_set ?k1 ?k2 ?k3 ?k4 ?k5 ?k6 ?k7 ?_; (case k1 => k_asm); (case k2 => k_asm); (case k3 => k_upd); (case k4 => with_reducible assumption); (case k5 => walk_at "IDX"); (case k6 => walk_at "IDX"); (case k7 => walk_at "IDXF"); k_whole); intro h' F' N' hi' hl' hs'; (try k_sweep)))
local macro_rules | `(tactic| walk_at "getItem ref int") => `(tactic| (k_here; (with_reducible show wpAny _ _ (getItem (Value.ref _) (Value.int _ _)) _ _ _); k_dflt (refine' ksa_get ?k1 ?k2 ?k3 ?k4 ?k5 ?k6 ?_; (case k1 => k_asm); (case k2 => k_mem); (case k3 => with_reducible assumption); (case k4 => walk_at "IDX"); (case k5 => walk_at "IDX"); (case k6 => walk_at "IDXF"); k_whole); intro _))
local macro_rules | `(tactic| walk_at "SUB") => `(tactic| (k_here; (with_reducible show wpAny _ _ (subscriptTail _ _ (Value.ref _) (Value.int _ _)) _ _ _); k_dflt (refine' ksa_sub ?k1 ?k2 ?k3 ?k4 ?k5 ?k6 ?_ ?k7; (case k1 => k_asm); (case k2 => k_mem); (case k3 => with_reducible assumption); (case k4 => walk_at "IDX"); (case k5 => walk_at "IDX"); (case k6 => walk_at "IDXF"); (case k7 => with_unfolding_all rfl); k_whole); intro _))
local macro_rules | `(tactic| walk_at "subscriptTail Name Name ref int") => `(tactic| walk_at "SUB")
local macro_rules | `(tactic| walk_at "subscriptTail Attribute") => `(tactic| walk_at "SUB")
local macro_rules | `(tactic| walk_at "subscriptTail Attribute Name") => `(tactic| walk_at "SUB")
local macro_rules | `(tactic| walk_at "subscriptTail Attribute Name ref") => `(tactic| walk_at "SUB")
local macro_rules | `(tactic| walk_at "subscriptTail Attribute Name Name") => `(tactic| walk_at "SUB")
local macro_rules | `(tactic| walk_at "subscriptTail Attribute Name Name ref int") => `(tactic| walk_at "SUB")
local macro_rules | `(tactic| walk_at "subscriptTail Attribute Name Name ref") => `(tactic| walk_at "SUB")
local macro_rules | `(tactic| walk_at "subscriptTail Attribute Name ref int") => `(tactic| walk_at "SUB")
local macro_rules | `(tactic| walk_at "subscriptTail") => `(tactic| walk_at "SUB")
local macro_rules | `(tactic| walk_at "call type:enumerate") => `(tactic| (k_here; refine Stop.out ?_))
local macro_rules | `(tactic| walk_at "TurnQ") => `(tactic| dsimp only [TurnQ])
local macro_rules | `(tactic| walk_at "exec Raise some none") => `(tactic| (k_here; refine Stop.out ?_))
local macro_rules | `(tactic| walk_at "RAISE") => `(tactic| (k_here; k_dflt (refine' Raise_madeB PySem.F.excCall_OverflowError PySem.F.excRaise_OverflowError ?hh ?hx; (case hh => rfl))))
local macro_rules | `(tactic| walk_at "leaving ref") => `(tactic| (k_here; k_dflt (refine' raise_any ?k1 ?f ?kk ?k0 ?k2 ?k3 ?_; (case f => exact rfl); (case kk => exact rfl); (case k0 => exact Heap.MadeExc.of (by assumption)); (case k1 => assumption); (case k2 => assumption); (case k3 => k_asm); k_whole); intro h' t' R' U'; (try dsimp only at R' U' ⊢); refine Stop.out ?_))
local macro_rules | `(tactic| k_room) => `(tactic| ktr_room)
local macro_rules | `(tactic| walk_at "ENTER C") => `(tactic| (refine' code_defC ?k1 ?k2 ?k3 ?k4 ?k5 ?kA ?kF ?kK ?k6 ?k7 ?k8 ?k9 ?kB ?kD ?_ ?c2 ?c3 ?c4; (case kA => exact rfl); (case kF => exact rfl); (case kK => assumption); (case k1 => k_asm); (case k2 => k_asm); (case k3 => k_asm); (case k4 => k_asm); (case k5 => k_asm); (case k6 => k_is); (case k7 => k_is); (case k8 => ktr_room); (case k9 => first | exact BindsTo.of_eq rfl | exact binds_K (by k_in) rfl (by k_is) rfl rfl rfl | fail "k_enter: no rule for these arguments"); (case kB => exact rfl); (case kD => decide +kernel); (case c2 => exact rfl); (case c3 => exact rfl); (case c4 => exact rfl); k_whole; intro g' L' h' tk' cells' FG' F' N' Y' B' X' T' l1; (try k_lt l1); k_cells Y'; (try simp only [List.cons_append, List.nil_append] at N'); (try dsimp only); (try k_lift B'); (try k_fold)))
local macro_rules | `(tactic| walk_at "TurnQ") => `(tactic| dsimp only [TurnQ])
local macro_rules | `(tactic| walk_at "ENTER P") => `(tactic| (refine' code_def ?k1 ?k2 ?k3 ?k4 ?k5 ?kA ?kF ?kK ?k6 ?k7 ?k8 ?k9 ?kB ?_ ?c2 ?c3 ?c4 ?c5; (case kA => exact rfl); (case kF => exact rfl); (case kK => assumption); (case k1 => k_asm); (case k2 => k_asm); (case k3 => k_asm); (case k4 => k_asm); (case k5 => k_asm); (case k6 => k_is); (case k7 => k_is); (case k8 => ktr_room); (case k9 => first | exact BindsTo.of_eq rfl | exact binds_K (by k_in) rfl (by k_is) rfl rfl rfl | fail "k_enter: no rule for these arguments"); (case c5 => decide); (case kB => exact locs rfl); (case c2 => exact rfl); (case c3 => exact rfl); (case c4 => exact rfl); k_whole; intro g' L' h' FG' F' N' B' X' T'; (try dsimp only); (try k_lift B'); (try k_fold)))
local macro_rules | `(tactic| walk_at "subscriptTail Name Name ref int") => `(tactic| first | (k_here; k_dflt (refine' sub_pick ?k1 ?k2 ?k3 ?k4 ?k5 ?_ ?k6; (case k1 => k_asm); (case k2 => k_mem); (case k3 => with_reducible assumption); (case k4 => with_reducible assumption); (case k5 => with_reducible assumption); (case k6 => with_unfolding_all rfl))) | walk_at "SUB")
local macro_rules | `(tactic| walk_at "call ref") => `(tactic| (k_here; refine Stop.out ?_))
local macro_rules | `(tactic| walk_at "exec Try") => `(tactic| (k_here; refine Stop.out ?_))
local macro_rules | `(tactic| walk_at "setItem ref int") => `(tactic| (k_here; refine Stop.out ?_))

local macro_rules | `(tactic| walk_at "call type:list") => `(tactic| (k_here; (with_reducible show wpAny _ _ (call (Value.type _) [Value.ref _]) _ _ _); k_dflt (refine' list_copyK ?k1 ?k2 ?k3 ?_ ?z; (case k1 => k_asm); (case k2 => k_asm); (case k3 => exact News.isList (by k_asm) (by k_mem)); (case z => exact ints_size (by with_reducible assumption) (by walk_at "LEN9")); k_whole); intro D' c' h' F' N' l1; (try k_lt l1); (try k_sweep)))

local macro_rules | `(tactic| k_ne) => `(tactic| first | (refine neN ?_; (try dsimp only); with_reducible assumption) | (refine neN ?_; (try dsimp only); refine' ne_cell ?n ?a ?b ?d ?e; (case n => k_asm); (case a => k_mem); (case b => k_mem); (case d => k_asm); (case e => (intro v hv; cases hv))) | (refine neN ?_; (try dsimp only); refine' ne_tab ?n ?a ?b ?e; (case n => k_asm); (case a => k_mem); (case b => k_mem); (case e => (intro hv; cases hv))) | (refine neN ?_; (try dsimp only); omega))
/-- behind the choice of a shape -/
def StA (h₀ : Heap) (L : Addr) (s : Shared) (c1 c2 c3 c4 c5 c6 c7 c8 : Addr) (o1 o3 o4 o6 o7 o8 : Obj) (s' : Shared) : Prop :=
  ∃ h' tk' m' e b d te tb td o2 o5, s' = { s with heap := h', toks := tk' } ∧ Fr h₀ L h' m' ∧ m' "expected" = some (.int e te) ∧
    News h₀ L h' [(c8, o8), (c7, o7), (c6, o6), (c5, o5), (c4, o4), (c3, o3), (c2, o2), (c1, o1), (424, tabObj #[]), (353, tabObj #[])] ∧ cel o2 (some (.int b tb)) ∧ cel o5 (some (.int d td)) ∧ Shape e b d
def RowsJ (ns : List Int) (d : Int) (news0 : List (Addr × Obj)) (i : Nat) (ys : List Value) (nx : List (Addr × Obj)) : Prop :=
  ∃ rl : List (Addr × List Value), rl.length = i ∧ ys = rl.map (fun p => Value.ref p.1) ∧ nx = news0 ++ rl.map (fun p => (p.1, LCg.lst p.2)) ∧ ∀ (j : Nat) p, rl[j]? = some p → IntsAre p.2 (rowOf ns d (j : Int))
theorem sub_rows {α : Type} {a i c k d : α} {n0 r : List α} : ∀ p ∈ i :: c :: k :: d :: (n0 ++ (r ++ [a])), p ∈ a :: i :: c :: k :: d :: (n0 ++ r) := by
  intro p hp
  simp only [List.mem_cons, List.mem_append, List.not_mem_nil, or_false] at hp ⊢
  rcases hp with h | h | h | h | h | h | h <;> simp [h]
theorem off4_snoc {I C K D a : Addr} {o : Obj} {n0 r : List (Addr × Obj)} (h : Off4 I C K D (n0 ++ r)) (h1 : @Ne Nat I a) (h2 : @Ne Nat C a) (h3 : @Ne Nat K a) (h4 : @Ne Nat D a) : Off4 I C K D (n0 ++ (r ++ [(a, o)])) := fun p hp => by
  simp only [List.mem_append, List.mem_singleton] at hp
  rcases hp with hp | hp | rfl
  · exact h p (List.mem_append_left _ hp)
  · exact h p (List.mem_append_right _ hp)
  · exact ⟨h1.symm, h2.symm, h3.symm, h4.symm⟩
theorem rows_snoc {ns : List Int} {d : Int} {n0 : List (Addr × Obj)} {i : Nat} {ys zs : List Value} {rl : List (Addr × List Value)} {D : Addr} (hrl : rl.length = i) (hys : ys = rl.map (fun p => Value.ref p.1)) (hints : ∀ (j : Nat) p, rl[j]? = some p → IntsAre p.2 (rowOf ns d (j : Int))) (hz : IntsAre zs (rowOf ns d (i : Int))) :
    RowsJ ns d n0 (i + 1) (ys ++ [.ref D]) (n0 ++ (rl.map (fun p => (p.1, LCg.lst p.2)) ++ [(D, LCg.lst zs)])) := by
  refine ⟨rl ++ [(D, zs)], by simp [hrl], by rw [hys]; simp, by simp, fun j p hp => ?_⟩
  by_cases hj : j < rl.length
  · rw [List.getElem?_append_left hj] at hp; exact hints j p hp
  · rw [List.getElem?_append_right (by omega)] at hp
    have h0 : j - rl.length = 0 := by
      have := (List.getElem?_eq_some_iff.mp hp).1
      simp at this; omega
    rw [h0] at hp
    simp at hp
    subst hp
    have : j = i := by omega
    subst this
    exact hz
theorem five_of {α : Type} {l : List α} (h : l.length = 5) : ∃ a b c d e, l = [a, b, c, d, e] := by
  match l, h with
  | [a, b, c, d, e], _ => exact ⟨a, b, c, d, e, rfl⟩
theorem lo_x {l : List (Addr × Obj)} {x dx bl : Addr} (h : ∀ p ∈ l, @LT.lt Nat _ p.1 x ∧ @LT.lt Nat _ p.1 dx ∧ @LT.lt Nat _ p.1 bl) : ∀ p ∈ l, p.1 < x := fun p hp => (h p hp).1
theorem lo_dx {l : List (Addr × Obj)} {x dx bl : Addr} (h : ∀ p ∈ l, @LT.lt Nat _ p.1 x ∧ @LT.lt Nat _ p.1 dx ∧ @LT.lt Nat _ p.1 bl) : ∀ p ∈ l, p.1 < dx := fun p hp => (h p hp).2.1
theorem lo_bl {l : List (Addr × Obj)} {x dx bl : Addr} (h : ∀ p ∈ l, @LT.lt Nat _ p.1 x ∧ @LT.lt Nat _ p.1 dx ∧ @LT.lt Nat _ p.1 bl) : ∀ p ∈ l, p.1 < bl := fun p hp => (h p hp).2.2
theorem place_lo {i k : Int} (h0 : 0 ≤ i) (hk : 0 ≤ k) : 0 ≤ 1 + i * 3 + k := by omega
theorem place_hi {i k d : Int} (hi : i < 5) (hd : d ≤ 3) (hk : k < 0 + ((d - 0).toNat : Int)) : 1 + i * 3 + k < 1000 := by omega
theorem law_d' {w : World} {loose : List Str} {mean : ExcName → Option Value} {mg mb : Str → Option Value}
   (h₀ : Heap) (L fa : Addr) (m : Str → Option Value) (s : Shared) (Q : Flow → Shared → Prop) (E : Value → Shared → Prop) (sc : Scope) (body : List Stmt) (hsc : sc = scopeOf lawStmt) (hbody : body = lawBody.drop 10)
   (cM : CM) (f c' rf rc c1 c2 c3 c4 c5 c6 c7 c8 lr lw r0 r1 r2 r3 r4 lc le x dx bl ls : Addr) (oF oC oRF oRC o1 o2 o3 o4 o5 o6 o7 o8 : Obj) (s0 s1 s2 s3 s4 tb td tqF tqR te t6 : Tok) (nr nw nc ne nb n0 n1 n2 n3 n4 : Nat) (v0 v1 v2 v3 v4 vs cv bv : List Value) (vF vR pt ps : Array Value) (docF pmF ctF docR pmR ctR : Value) (ns cells : List Int) (b d els : Int)
   (B : Below callerA h₀ [] h₀) (F : Fr h₀ L s.heap m) (X : (hd.heap_39 w.params).In h₀) (T : Top topProg loose mean mg mb h₀) (G : AllBare s.gens) (ht : TriplesOk ps.toList)
   (N : News h₀ L s.heap [(f, oF), (c', oC), (le, listOf [.int els te].toArray ne), (lc, listOf cv.toArray nc), (bl, listOf bv.toArray nb), (dx, dictOf (cM.ents els t6 bl) 12), (x, instObj 396 dx), (rf, oRF), (rc, oRC), (lr, listOf [.ref r0, .ref r1, .ref r2, .ref r3, .ref r4].toArray nr), (lw, listOf [.str "k0" s0, .str "k1" s1, .str "k2" s2, .str "k3" s3, .str "k4" s4].toArray nw), (c8, o8), (c7, o7), (c6, o6), (c5, o5), (c4, o4), (c3, o3), (c2, o2), (c1, o1), (424, tabObj pt), (353, tabObj ps), (r0, listOf v0.toArray n0), (r1, listOf v1.toArray n1), (r2, listOf v2.toArray n2), (r3, listOf v3.toArray n3), (r4, listOf v4.toArray n4)])
   (hc1 : cel o1 (some (.ref ls))) (hc2 : cel o2 (some (.int b tb))) (hc3 : cel o3 (some (.ref lc))) (hc4 : cel o4 (some (.ref x))) (hc5 : cel o5 (some (.int d td))) (hc6 : cel o6 (some (.ref le))) (hc7 : cel o7 (some (.ref lr))) (hc8 : cel o8 (some (.ref lw)))
   (hoF : oF = mkFn deedStmt "law.<locals>.deed" [("words", c8), ("rows", c7), ("elements", c6), ("counting", c4), ("cells", c3), ("bits", c2)] docF pmF c' ctF) (hoC : oC.data = .fields vF) (hoC2 : vF[1]? = some (.str "law.<locals>.deed" tqF))
   (hoR : oRF = mkFn readStmt "law.<locals>.reading" [("words", c8), ("rows", c7), ("depth", c5)] docR pmR rc ctR) (hoRC : oRC.data = .fields vR) (hoRC2 : vR[1]? = some (.str "law.<locals>.reading" tqR))
   (hls : h₀.IsList ls vs.toArray) (hi : IntsAre vs ns) (hlen : ns.length ≤ 63) (hlay : (PyData.list (ns.map PyData.int)).layable0 = true)
   (i0 : IntsAre v0 (rowOf ns d 0)) (i1 : IntsAre v1 (rowOf ns d 1)) (i2 : IntsAre v2 (rowOf ns d 2)) (i3 : IntsAre v3 (rowOf ns d 3)) (i4 : IntsAre v4 (rowOf ns d 4))
   (hmb : cM.bits = b) (hmd : cM.depth = d) (hmf : cM.fn = rf) (hcv : IntsAre cv cells) (hbv : IntsAre bv cells) (hcl : (cells.length : Int) = b) (hct : InTop cells) (hd1 : 1 ≤ d) (hd3 : d ≤ 3) (hb3 : 3 ≤ b) (hb9 : b ≤ 9)
   (hao : Apart lc le x dx bl ∧ OwnOff (lawV pt f c' rf rc c1 c2 c3 c4 c5 c6 c7 c8 lr lw r0 r1 r2 r3 r4 oF oC oRF oRC o1 o2 o3 o4 o5 o6 o7 o8 s0 s1 s2 s3 s4 nr nw n0 n1 n2 n3 n4 v0 v1 v2 v3 v4) [lc, le, x, dx, bl, 353]) (hdn : m "deed" = some (.ref f))
   (hret : ∀ h' gs tk' m' news ps t, Fr h₀ L h' m' → News h₀ L h' news → (353, tabObj ps) ∈ news → (424, tabObj t) ∈ news → AllBare gs → Q (.ret (.bool true)) { s with heap := h', gens := gs, toks := tk' }) :
   wpAny (model Challenge.rw_db5010_01.row.prog w) (callerA.deeper (envX "law" sc L fa (.ref 426) [("words", c8), ("rows", c7), ("elements", c6), ("depth", c5), ("counting", c4), ("cells", c3), ("bits", c2), ("script", c1)])) (execs body (envX "law" sc L fa (.ref 426) [("words", c8), ("rows", c7), ("elements", c6), ("depth", c5), ("counting", c4), ("cells", c3), ("bits", c2), ("script", c1)])) Q E s :=
  law_d h₀ L fa m s Q E sc body hsc hbody cM f c' rf rc c1 c2 c3 c4 c5 c6 c7 c8 lr lw r0 r1 r2 r3 r4 lc le x dx bl ls oF oC oRF oRC o1 o2 o3 o4 o5 o6 o7 o8 s0 s1 s2 s3 s4 tb td tqF tqR te t6 nr nw nc ne nb n0 n1 n2 n3 n4 v0 v1 v2 v3 v4 vs cv bv vF vR pt ps docF pmF ctF docR pmR ctR ns cells b d els B F X T G ht (news_sub N (by kcf_all)) hc1 hc2 hc3 hc4 hc5 hc6 hc7 hc8 hoF hoC hoC2 hoR hoRC hoRC2 hls hi hlen hlay i0 i1 i2 i3 i4 hmb hmd hmf hcv hbv hcl hct hd1 hd3 hb3 hb9 hao.1 hao.2 hdn hret
theorem zeros_eq (b : Int) : List.map (fun _ : Int => (0 : Int)) (rangeKs 0 (b - 0).toNat) = List.replicate b.toNat 0 := by
  have e : (b - 0).toNat = b.toNat := by omega
  rw [e]
  apply List.ext_getElem
  · simp [rangeKs]
  · intro i h1 h2
    simp
theorem zeros_top (n : Nat) : InTop (List.replicate n 0) := fun x hx => by rw [List.eq_of_mem_replicate hx]; decide
theorem zeros_len {b : Int} (h : 3 ≤ b) : ((List.replicate b.toNat (0 : Int)).length : Int) = b := by rw [List.length_replicate]; omega
/-- a fact laid aside, so that no search looks into it -/
inductive Kept (P : Prop) : Prop
  | mk : P → Kept P
theorem Kept.get {P : Prop} : Kept P → P | .mk h => h
theorem law_c {w : World} {loose : List Str} {mean : ExcName → Option Value} {mg mb : Str → Option Value}
   (h₀ : Heap) (L fa : Addr) (m : Str → Option Value) (s : Shared) (Q : Flow → Shared → Prop) (E : Value → Shared → Prop) (sc : Scope) (body : List Stmt) (hsc : sc = scopeOf lawStmt) (hbody : body = lawBody)
   (c1 c2 c3 c4 c5 c6 c7 c8 ls : Addr) (o1 o2 o3 o4 o5 o6 o7 o8 : Obj) (vs : List Value) (ns : List Int)
   (B : Below callerA h₀ [] h₀) (F : Fr h₀ L s.heap m) (X : (hd.heap_39 w.params).In h₀) (T : Top topProg loose mean mg mb h₀) (G : AllBare s.gens)
   (N : News h₀ L s.heap [(c8, o8), (c7, o7), (c6, o6), (c5, o5), (c4, o4), (c3, o3), (c2, o2), (c1, o1), (424, tabObj #[]), (353, tabObj #[])])
   (hc1 : cel o1 (some (.ref ls))) (hc2 : cel o2 none) (hc3 : cel o3 none) (hc4 : cel o4 none) (hc5 : cel o5 none) (hc6 : cel o6 none) (hc7 : cel o7 none) (hc8 : cel o8 none)
   (hls : h₀.IsList ls vs.toArray) (hi : IntsAre vs ns) (hlen : ns.length ≤ 63) (hlay : (PyData.list (ns.map PyData.int)).layable0 = true)
   (hlt : @LT.lt Nat _ 424 c1 ∧ @LT.lt Nat _ 353 c1 ∧ @LT.lt Nat _ c1 c2 ∧ @LT.lt Nat _ c2 c3 ∧ @LT.lt Nat _ c3 c4 ∧ @LT.lt Nat _ c4 c5 ∧ @LT.lt Nat _ c5 c6 ∧ @LT.lt Nat _ c6 c7 ∧ @LT.lt Nat _ c7 c8)
   (hret : ∀ h' gs tk' m' news ps t, Fr h₀ L h' m' → News h₀ L h' news → (353, tabObj ps) ∈ news → (424, tabObj t) ∈ news → AllBare gs → Q (.ret (.bool true)) { s with heap := h', gens := gs, toks := tk' }) :
   wpAny (model Challenge.rw_db5010_01.row.prog w) (callerA.deeper (envX "law" sc L fa (.ref 426) [("words", c8), ("rows", c7), ("elements", c6), ("depth", c5), ("counting", c4), ("cells", c3), ("bits", c2), ("script", c1)])) (execs body (envX "law" sc L fa (.ref 426) [("words", c8), ("rows", c7), ("elements", c6), ("depth", c5), ("counting", c4), ("cells", c3), ("bits", c2), ("script", c1)])) Q E s := by
  (w_top off; revert X; k_fill; intro X)
  have CH := ch_of X
  have CL : CodeHd h₀ 426 424 := codeHd_of_K X (by kernel_rfl)
  have kS : Kept (sc = scopeOf lawStmt) := .mk hsc
  have kB : Kept (body.drop 10 = lawBody.drop 10) := .mk (by rw [hbody])
  have kD : Kept (deedStmt = (body.drop 9).headD (.Pass default)) := .mk (by rw [hbody]; rfl)
  have kR : Kept (readStmt = (body.drop 4).headD (.Pass default)) := .mk (by rw [hbody]; rfl)
  conv at hsc => rhs; whnf
  conv at hbody => rhs; whnf
  subst hsc hbody
  refine cut_execs (StA h₀ L s c1 c2 c3 c4 c5 c6 c7 c8 o1 o3 o4 o6 o7 o8) 2 ?A ?A2
  case A =>
    dsimp only [List.take]
    (try k_fold)
    k_steps
    refine Stop.go ?_
    refine number_c _ _ _ _ _ _ _ _ _ _ _ _ _ _ _ _ _ ls vs ns 0 _ _ B F X T rfl (by decide) (by decide) N hls hi hlen (by decide) (by decide) ?_
    clear F N
    intro t1 h1 tk1 F N
    k_steps
    all_goals (refine' ⟨_, _, _, _, _, _, _, _, _, _, _, rfl, ?xF, ?xE, ?xN, ?x2, ?x5, ?xS⟩; (case xF => assumption); (case xE => rfl); (case xN => assumption); (case x2 => assumption); (case x5 => assumption); (case xS => unfold Shape; decide))
  case A2 =>
    clear F N hc2 hc5 o2 o5
    rintro sA ⟨hA, tkA, mA, e, b, d, te, tb, td, o2, o5, rfl, F, nE, N, hc2, hc5, hsh⟩
    have F := fr_pin (x := "expected") F nE
    clear nE
    have hd1 : 1 ≤ d := by rcases hsh with h | h | h | h | h | h <;> omega
    have hd3 : d ≤ 3 := by rcases hsh with h | h | h | h | h | h <;> omega
    have hb3 : 3 ≤ b := by rcases hsh with h | h | h | h | h | h <;> omega
    have hb9 : b ≤ 9 := by rcases hsh with h | h | h | h | h | h <;> omega
    dsimp only [List.drop]
    refine cut_execs (fun s' => Stop (wpAny _ _ (execs _ _) Q E s')) 8 ?_ (fun _ h => Stop.out h)
    dsimp only [List.take, List.drop]
    (try k_fold)
    k_steps
    (rename News h₀ L _ _ => lN1); (rename Fr h₀ L _ _ => lF1)
    obtain ⟨nw, hnw, lN2⟩ : ∃ nw, nw = _ ∧ News h₀ L _ nw := ⟨_, rfl, lN1⟩
    clear lN2
    refine ListComp_cell (n := 5) (RowsJ ns d nw) lF1 (by with_unfolding_all rfl) (by rfl) (by decide) (by decide) (by decide) rfl ?_
    k_steps
    refine Stop.go ⟨_, _, _, _, _, rfl, rfl, by assumption, by assumption, by assumption, by decide, by decide, by decide, ⟨[], rfl, rfl, by rw [hnw]; rfl, by simp⟩, ?turn, ?fin⟩
    case turn =>
      (rename News h₀ L _ _ => lN9); (rename Fr h₀ L _ _ => lF9)
      clear lN9 lF9
      intro i I oI C oC K oK D ys nx ti h1 tk1 E1 hi5 hJ hoK F1 N1 off1 hne1
      obtain ⟨rl, hrl, hys, hnx, hints⟩ := hJ
      subst hnx hnw
      simp only [List.cons_append, List.nil_append] at N1
      have hi0 : 0 ≤ (i : Int) := Int.natCast_nonneg i
      have hi4 : (i : Int) < 5 := by omega
      refine LCg.ListComp_U (F₀ := F1) (by with_unfolding_all rfl) (by decide) (by rfl) (by decide) (by rfl) ?_
      lcg_toSrc
      case refine'_1 => exact fun k => numb ns (1 + (i : Int) * 3 + k)
      · k_steps
        refine Stop.go ?_
        (rename Fr h₀ L _ _ => lF2); (rename News h₀ L _ _ => lN2)
        refine number_c _ _ _ _ _ _ _ _ _ _ _ _ _ _ _ _ _ ls vs ns _ _ _ B lF2 X T rfl (by decide) (by decide) lN2 hls hi hlen (place_lo hi0 (by with_reducible assumption)) (place_hi hi4 hd3 (by with_reducible assumption)) ?_
        intro t2 h2 tk2 F3 N3
        clear lF2 lN2
        k_steps
      · intro zs hzs
        k_steps
        refine Stop.go ?_
        (rename News h₀ L _ _ => lN3); (rename Fr h₀ L _ _ => lF3); (rename I ≠ _ ∧ _ => ho)
        exact ⟨_, _, _, rfl, lF3, news_sub lN3 sub_rows, off4_snoc off1 ho.1 ho.2.1 ho.2.2.1 ho.2.2.2.1, rows_snoc hrl hys hints hzs⟩
    case fin =>
      (rename News h₀ L _ _ => lN9); (rename Fr h₀ L _ _ => lF9)
      clear lN9 lF9
      intro lr h1 tk1 ys nx hJ F1 N1 off1
      obtain ⟨rl, hrl, hys, hnx, hints⟩ := hJ
      subst hnx hnw
      obtain ⟨⟨r0, v0⟩, ⟨r1, v1⟩, ⟨r2, v2⟩, ⟨r3, v3⟩, ⟨r4, v4⟩, rfl⟩ := five_of hrl
      have i0 := hints 0 _ rfl
      have i1 := hints 1 _ rfl
      have i2 := hints 2 _ rfl
      have i3 := hints 3 _ rfl
      have i4 := hints 4 _ rfl
      subst hys
      clear hints hrl
      simp only [List.cons_append, List.nil_append, List.map_cons, List.map_nil] at N1 off1 ⊢
      k_steps
      refine Stop.go ?_
      (rename Fr h₀ L _ _ => lF1); (rename News h₀ L _ _ => lN1)
      refine make_c _ _ _ _ _ _ _ _ _ _ _ _ _ _ _ _ _ e b d te tb _ _ B lF1 X T rfl (by decide) (by decide) lN1 hsh ?_
      intro cM x dx bl bv nb els t6 h2 tk2 hmb hmd hmf hels hbv F2 N2 hlo2 hne2
      subst hels
      have lx := lo_x hlo2
      have ldx := lo_dx hlo2
      have lbl := lo_bl hlo2
      k_lt lx
      k_lt ldx
      k_lt lbl
      clear lF1 lN1 hlo2
      k_steps
      · exact absurd hmd (by assumption)
      · (rename Fr h₀ L _ _ => lF1); (rename News h₀ L _ _ => lN1)
        (rename IntsAre _ (List.map (fun _ => (0 : Int)) _) => hz)
        rw [zeros_eq] at hz
        refine Stop.go ?_
        refine' law_d' h₀ L fa _ _ Q E _ _ ?xS ?xB cM _ _ _ _ _ _ _ _ _ _ _ _ _ _ _ _ _ _ _ _ _ _ _ _ ls _ _ _ _ _ _ _ _ _ _ _ _ _ _ _ _ _ _ _ _ _ _ _ _ _ _ _ _ _ _ _ _ _ _ _ _ _ _ _ _ _ _ _ _ _ _ _ _ _ _ _ _ _ _ _ _ B ?xF X T ?yG ?yht ?xN ?yhc1 ?yhc2 ?yhc3 ?yhc4 ?yhc5 ?yhc6 ?yhc7 ?yhc8 ?yhoF ?yhoC ?yhoC2 ?yhoR ?yhoRC ?yhoRC2 hls hi hlen hlay i0 i1 i2 i3 i4 hmb hmd hmf hz hbv (zeros_len hb3) (zeros_top _) hd1 hd3 hb3 hb9 ?yhao ?yhdn ?yhret
        case xS => exact kS.get
        case xB => exact kB.get
        case xF => exact lF1
        case xN => exact lN1
        case yG => with_reducible assumption
        case yht => simp [TriplesOk, rawInt]
        case yhc1 => assumption
        case yhc2 => assumption
        case yhc3 => assumption
        case yhc4 => assumption
        case yhc5 => assumption
        case yhc6 => assumption
        case yhc7 => assumption
        case yhc8 => assumption
        case yhoC => assumption
        case yhoRC => assumption
        case yhdn => rfl
        case yhret => exact hret
        case yhoC2 => assumption
        case yhoRC2 => assumption
        case yhao => exact law_offs hlt (by assumption) (by assumption) (by assumption) (by assumption) (by assumption) (by assumption) (by assumption) (by assumption) (by assumption) (by assumption) hne2 ⟨ne_tab lN1 (by k_mem) (by k_mem) (fun h => by cases h), ne_tab lN1 (by k_mem) (by k_mem) (fun h => by cases h), ne_tab lN1 (by k_mem) (by k_mem) (fun h => by cases h), ne_tab lN1 (by k_mem) (by k_mem) (fun h => by cases h), ne_tab lN1 (by k_mem) (by k_mem) (fun h => by cases h), ne_tab lN1 (by k_mem) (by k_mem) (fun h => by cases h)⟩
        case yhoF =>
          rw [kD.get]
          dsimp only [List.drop, List.headD, mkFn]
          rfl
        case yhoR =>
          rw [kR.get]
          dsimp only [List.drop, List.headD, mkFn]
          rfl
end Mine
namespace Mine
set_option maxRecDepth 100000
set_option maxHeartbeats 2000000
set_option rowWalk.seconds 0
/-- what the law's call leaves: True, the old objects but for the two tables, which have grown -/
def Ended (tabs : List (Addr × Addr)) (s₁ : Shared) (r : Result) (s' : Shared) : Prop :=
  r = .ok (.ret (.bool true)) ∧ (∀ b o, (ghostOf s₁.heap tabs).get? b = some o → s'.heap.get? b = some o) ∧ GrownAll tabs s'.heap ∧ s'.os = s₁.os ∧ AllBare s'.gens
theorem ended_old {tabs : List (Addr × Addr)} {h h' : Heap} (hT : TabsAt tabs h) (hk : ∀ b o, (ghostOf h tabs).get? b = some o → h'.get? b = some o) (hg : GrownAll tabs h') : OldK h h' := by
  have two : ∀ b o, h.get? b = some o → h'.get? b = some o ∨ (∃ c, CodeHd h c b ∧ o = tabObj #[] ∧ ∃ ps, h'.get? b = some (tabObj ps)) := by
    intro b o e
    by_cases hb : ∃ q, q ∈ tabs ∧ q.2 = b
    · obtain ⟨q, hq, rfl⟩ := hb
      have hq2 := hT q hq
      exact .inr ⟨q.1, hq2.1, Option.some.inj (e.symm.trans hq2.2), hg.get q hq⟩
    · exact .inl (hk b o (ghost_ne e fun hm => hb ((List.mem_map.mp hm).imp fun _ h => h)))
  refine ⟨fun b o e => ?_, fun b o e => ?_⟩
  · rcases two b o e with h1 | ⟨c, h1, rfl, ps, h2⟩
    · exact .inl h1
    · exact .inr (.inl ⟨(h1.tab e).isCodeTable, rfl, #[], ps, rfl, by simpa using h2⟩)
  · rcases two b o e with h1 | ⟨_, _, _, ps, h2⟩
    · exact ⟨o, h1⟩
    · exact ⟨tabObj ps, h2⟩
theorem post_true {M : Model} {A : Around} {cd : Code} {s s₁ : Shared} {cw : ClaimW} {cl : Str → Option Addr} {mean : ExcName → Option Value} {args : List WData} {tabs : List (Addr × Addr)} (hT : TabsAt tabs s₁.heap) (hr : ∀ a x, cw.raises a x = false) (hp : cw.post args (.bool true) args = true)
    (h : codeAny M A cd (Ended tabs s₁) s) : codeAny M A cd (GoodWG cw cl mean args s₁) s :=
  codeAny_mono h fun _ _ e => ⟨.inl ⟨.bool true, .bool true, [], e.1, hr args, .bool true, hp, fun _ => ⟨List.nodup_nil, fun _ ha => absurd ha List.not_mem_nil⟩⟩, ended_old hT e.2.1 e.2.2.1, e.2.2.2.1, e.2.2.2.2⟩
theorem law_go : Challenge.rw_db5010_01.Holds := by
  refine hd ?_
  k_fill
  intro w s₀ s₁ mg mb G Y fa o pm cd doc dV kV ho hd hcd hD hmg hg args vals as hpre hlay hrd hwl hlo
  have KX := km_in_of Y
  have hT8 := km_tabs_of Y
  have X := (Ground.X G).1
  have V := (Ground.X G).2
  refine Ground.open G ?_
  intro T B D TE TW
  try (refine guard_noD D (by decide +kernel) ?_; clear D)
  km_lay T hmg ho hd cd
  clear hmg
  have hT9' : TabsAt [(426, 424), (357, 353)] s₁.heap := List.forall_mem_cons.mpr ⟨hT9 (426, 424) (.head _), List.forall_mem_cons.mpr ⟨⟨codeHd_of_K (c := 357) (P := 353) KX (by kernel_rfl), hT8 353 (by k_mem)⟩, fun _ h => nomatch h⟩⟩
  clear hT9 hT8
  have hT9 := hT9'
  clear hT9'
  wrow_args hpre hlay hrd hwl hlo
  all_goals (
    first | refine callC_kw (enter_call ?_) | refine enter_call ?_
    w_top on
    refine post_true hT9 (fun _ _ => rfl) (by wrow_post) ?_
    w_call any ho hd hcd hD T F
    clear hd hcd hD
    kn_ghosts F T
    k_drop
    skip)
  (rename Fr _ _ _ _ => lF); (rename News _ _ _ _ => lN); (rename Frag.In _ _ => lX); (rename Top _ _ _ _ _ _ => lT); (rename Below _ _ _ _ => lK); (rename IntsAre _ _ => hi); (rename CellsAre _ _ _ => hcells); (rename _ ∧ _ => l0)
  rename (PyData.list _).layable0 = true => hlay
  refine' law_c _ _ fa _ _ _ _ _ _ ?xS ?xB _ _ _ _ _ _ _ _ _ _ _ _ _ _ _ _ _ _ _ lK lF lX lT ?xG lN ?h1 ?h2 ?h3 ?h4 ?h5 ?h6 ?h7 ?h8 ?hls hi ?hlen hlay ?hlt ?hret
  case xS => kernel_rfl
  case xB => kernel_rfl
  case xG => exact AllBare.of_eq hg
  case h1 => assumption
  case h2 => assumption
  case h3 => assumption
  case h4 => assumption
  case h5 => assumption
  case h6 => assumption
  case h7 => assumption
  case h8 => assumption
  case hls => assumption
  case hlen => omega
  case hlt => omega
  case hret =>
    intro h' gs tk' m' news ps t lF' lN' m1 m2 hG
    exact ⟨rfl, lF'.keep, ⟨GrownAt.of lN' m2, GrownAt.of lN' m1, True.intro⟩, rfl, hG⟩
end Mine
set_option maxRecDepth 100000 in
set_option maxHeartbeats 8000000 in
theorem PySem.Challenge.cw_db5010_01_holds : PySem.Challenge.rw_db5010_01.Holds := by
  exact Mine.law_go
