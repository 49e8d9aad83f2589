import PyProof.Rows.All
import Wide.All
import OpenK.AllK
import Wide.FinOn
import Flt.RightMore
import PySem.Challenge.RW_xg0039_01
set_option Elab.async false
namespace Mine
section
/-- how many of the list lie below x -/
def below (x : Int) (xs : List Int) : Nat := (xs.filter (· < x)).length
def ins (x : Int) (xs : List Int) : List Int := xs.take (below x xs) ++ x :: xs.drop (below x xs)
def isort (xs : List Int) : List Int := xs.foldl (fun a x => ins x a) []
/-- the lower middle one -/
def med (xs : List Int) : Int := (isort xs).getD ((xs.length - 1) / 2) 0
theorem below_cons (x a : Int) (r : List Int) : below x (a :: r) = (if a < x then 1 else 0) + below x r := by
  unfold below
  by_cases h : a < x
  · simp [List.filter_cons, h]; omega
  · simp [List.filter_cons, h]
theorem below_le (x : Int) (xs : List Int) : below x xs ≤ xs.length := by
  unfold below; exact List.length_filter_le _ _
theorem below_zero {x : Int} {xs : List Int} (h : ∀ b ∈ xs, x ≤ b) : below x xs = 0 := by
  unfold below
  rw [List.length_eq_zero_iff, List.filter_eq_nil_iff]
  intro b hb
  have := h b hb
  simp; omega
theorem cut_at {x : Int} : ∀ {xs : List Int}, xs.Pairwise (· ≤ ·) → ∀ i : Nat, i < xs.length → (xs.getD i 0 < x ↔ i < below x xs)
  | [], _, i, h => by simp at h
  | a :: r, hp, i, h => by
    have hp' := List.pairwise_cons.mp hp
    rw [below_cons]
    by_cases ha : a < x
    · rw [if_pos ha]
      cases i with
      | zero => simp; omega
      | succ i =>
        have := cut_at (x := x) hp'.2 i (by simpa using h)
        simp at this ⊢
        rw [this]; omega
    · rw [if_neg ha]
      have hz : below x r = 0 := below_zero fun b hb => by have := hp'.1 b hb; omega
      rw [hz]
      cases i with
      | zero => simp; omega
      | succ i =>
        simp at h ⊢
        rw [List.getElem?_eq_getElem h]
        have := hp'.1 _ (List.getElem_mem h)
        simp; omega
theorem cut_int {x : Int} {xs : List Int} (hp : xs.Pairwise (· ≤ ·)) : ∀ i : Int, 0 ≤ i → i < xs.length → (xs.getD i.toNat 0 < x ↔ i < (below x xs : Nat)) := by
  intro i h0 h1
  have := cut_at (x := x) hp i.toNat (by omega)
  rw [this]; omega
theorem mem_take_lt {x : Int} {xs : List Int} (hp : xs.Pairwise (· ≤ ·)) : ∀ b ∈ xs.take (below x xs), b < x := by
  intro b hb
  obtain ⟨i, hi, rfl⟩ := List.mem_iff_getElem.mp hb
  rw [List.length_take] at hi
  have hi' : i < xs.length := by omega
  have := (cut_at (x := x) hp i hi').mpr (by omega)
  rw [List.getD_eq_getElem?_getD, List.getElem?_eq_getElem hi'] at this
  simpa using this
theorem mem_drop_ge {x : Int} {xs : List Int} (hp : xs.Pairwise (· ≤ ·)) : ∀ b ∈ xs.drop (below x xs), x ≤ b := by
  intro b hb
  obtain ⟨i, hi, rfl⟩ := List.mem_iff_getElem.mp hb
  rw [List.length_drop] at hi
  have hi' : below x xs + i < xs.length := by omega
  have := mt (cut_at (x := x) hp (below x xs + i) hi').mp (by omega)
  rw [List.getD_eq_getElem?_getD, List.getElem?_eq_getElem hi'] at this
  simpa using this
theorem ins_sorted {x : Int} {xs : List Int} (hp : xs.Pairwise (· ≤ ·)) : (ins x xs).Pairwise (· ≤ ·) := by
  unfold ins
  rw [List.pairwise_append]
  refine ⟨hp.sublist (List.take_sublist _ _), List.pairwise_cons.mpr ⟨mem_drop_ge hp, hp.sublist (List.drop_sublist _ _)⟩, ?_⟩
  intro a ha b hb
  have h1 := mem_take_lt hp a ha
  rcases List.mem_cons.mp hb with rfl | hb
  · omega
  · have := mem_drop_ge hp b hb; omega
theorem ins_perm (x : Int) (xs : List Int) : (ins x xs).Perm (x :: xs) := by
  unfold ins
  refine List.perm_middle.trans ?_
  rw [List.take_append_drop]
theorem ins_length (x : Int) (xs : List Int) : (ins x xs).length = xs.length + 1 := by
  have := (ins_perm x xs).length_eq
  simpa using this
theorem isort_snoc (xs : List Int) (x : Int) : isort (xs ++ [x]) = ins x (isort xs) := by
  unfold isort; rw [List.foldl_append]; rfl
theorem foldl_ins (xs a : List Int) (h : a.Pairwise (· ≤ ·)) : (xs.foldl (fun a x => ins x a) a).Pairwise (· ≤ ·) ∧ (xs.foldl (fun a x => ins x a) a).Perm (a ++ xs) := by
  induction xs generalizing a with
  | nil => simpa using h
  | cons x r ih =>
    obtain ⟨h1, h2⟩ := ih (ins x a) (ins_sorted h)
    refine ⟨h1, ?_⟩
    refine h2.trans ?_
    refine ((ins_perm x a).append_right r).trans ?_
    simpa using (List.perm_middle (a := x) (l₁ := a) (l₂ := r)).symm
theorem isort_sorted (xs : List Int) : (isort xs).Pairwise (· ≤ ·) := (foldl_ins xs [] List.Pairwise.nil).1
theorem isort_perm (xs : List Int) : (isort xs).Perm xs := by have h := (foldl_ins xs [] List.Pairwise.nil).2; rw [List.nil_append] at h; exact h
theorem isort_length (xs : List Int) : (isort xs).length = xs.length := (isort_perm xs).length_eq
end
section
/-- the count along the row: total, its lowest, the place (behind which item) of the lowest for the last time, items so far -/
structure Cnt where
  total : Int
  low : Int
  place : Int
  k : Int
def cntStep (c : Int) (s : Cnt) (x : Int) : Cnt :=
  let t := if x < c then s.total - 1 else s.total + 1
  if t ≤ s.low then ⟨t, t, s.k + 1, s.k + 1⟩ else ⟨t, s.low, s.place, s.k + 1⟩
def cnt (c : Int) (xs : List Int) : Cnt := xs.foldl (cntStep c) ⟨0, 0, 0, 0⟩
def lowest (xs : List Int) (c : Int) : Int := (cnt c xs).place
theorem cnt_snoc (c : Int) (xs : List Int) (x : Int) : cnt c (xs ++ [x]) = cntStep c (cnt c xs) x := by
  unfold cnt; rw [List.foldl_append]; rfl
theorem cnt_k (c : Int) (xs : List Int) : (cnt c xs).k = xs.length := by
  have : ∀ (xs : List Int) (s : Cnt), (xs.foldl (cntStep c) s).k = s.k + xs.length := by
    intro xs
    induction xs with
    | nil => intro s; simp
    | cons x r ih =>
      intro s
      rw [List.foldl_cons, ih]
      have : (cntStep c s x).k = s.k + 1 := by unfold cntStep; dsimp only; split <;> split <;> rfl
      rw [this]; simp; omega
  have h := this xs ⟨0, 0, 0, 0⟩
  simpa [cnt] using h
theorem take_snoc {ns : List Int} {k : Nat} (h : k < ns.length) : ns.take (k + 1) = ns.take k ++ [ns.getD k 0] := by
  rw [List.take_add_one, List.getElem?_eq_getElem h, List.getD_eq_getElem?_getD, List.getElem?_eq_getElem h]; rfl
def CntIs (ns : List Int) (c : Int) (n : Nat) (total low place : Int) : Prop := n ≤ ns.length ∧ total = (cnt c (ns.take n)).total ∧ low = (cnt c (ns.take n)).low ∧ place = (cnt c (ns.take n)).place
theorem cntIs_zero (ns : List Int) (c : Int) : CntIs ns c 0 0 0 0 := ⟨Nat.zero_le _, by simp [cnt], by simp [cnt], by simp [cnt]⟩
theorem cntIs_step {ns : List Int} {c : Int} {n : Nat} {total low place k : Int} (h : CntIs ns c n total low place) (hn : n < ns.length) (hk : k = 0 + (n : Int)) :
    CntIs ns c (n + 1) (if ns.getD k.toNat 0 < c then total - 1 else total + 1) (if (if ns.getD k.toNat 0 < c then total - 1 else total + 1) ≤ low then (if ns.getD k.toNat 0 < c then total - 1 else total + 1) else low) (if (if ns.getD k.toNat 0 < c then total - 1 else total + 1) ≤ low then k + 1 else place) := by
  have hk' : k.toNat = n := by omega
  rw [hk']
  obtain ⟨_, h1, h2, h3⟩ := h
  have hs := take_snoc hn
  have hkk := cnt_k c (ns.take n)
  rw [List.length_take] at hkk
  refine ⟨hn, ?_⟩
  rw [hs, cnt_snoc, h1, h2, h3]
  generalize cnt c (ns.take n) = s at *
  unfold cntStep
  dsimp only
  have : k + 1 = s.k + 1 := by omega
  rw [this]
  by_cases q : ns.getD n 0 < c
  · simp only [q, if_true]
    split <;> exact ⟨rfl, rfl, rfl⟩
  · simp only [q, if_false]
    split <;> exact ⟨rfl, rfl, rfl⟩
section
variable {ns : List Int} {c : Int} {pre : List Int} {total low place k : Int}
theorem cnt_ll (h : CntIs ns c pre.length total low place) (hn : pre.length < ns.length) (hk : k = 0 + (pre.length : Int)) (a : ns.getD k.toNat 0 < c) (b : total - 1 ≤ low) : CntIs ns c (pre ++ [k]).length (total - 1) (total - 1) (k + 1) := by
  have := cntIs_step h hn hk
  simp only [a, b, if_true] at this
  simpa using this
theorem cnt_lg (h : CntIs ns c pre.length total low place) (hn : pre.length < ns.length) (hk : k = 0 + (pre.length : Int)) (a : ns.getD k.toNat 0 < c) (b : ¬ total - 1 ≤ low) : CntIs ns c (pre ++ [k]).length (total - 1) low place := by
  have := cntIs_step h hn hk
  simp only [a, b, if_true, if_false] at this
  simpa using this
theorem cnt_gl (h : CntIs ns c pre.length total low place) (hn : pre.length < ns.length) (hk : k = 0 + (pre.length : Int)) (a : ¬ ns.getD k.toNat 0 < c) (b : total + 1 ≤ low) : CntIs ns c (pre ++ [k]).length (total + 1) (total + 1) (k + 1) := by
  have := cntIs_step h hn hk
  simp only [a, b, if_true, if_false] at this
  simpa using this
theorem cnt_gg (h : CntIs ns c pre.length total low place) (hn : pre.length < ns.length) (hk : k = 0 + (pre.length : Int)) (a : ¬ ns.getD k.toNat 0 < c) (b : ¬ total + 1 ≤ low) : CntIs ns c (pre ++ [k]).length (total + 1) low place := by
  have := cntIs_step h hn hk
  simp only [a, b, if_false] at this
  simpa using this
end
theorem cnt_end {ns : List Int} {c : Int} {total low place : Int} (h : CntIs ns c ns.length total low place) : place = lowest ns c := by
  have := h.2.2.2
  rw [List.take_length] at this
  exact this
end
section
/-- the part of a row from a up to b -/
def part (ns : List Int) (a b : Nat) : List Int := (ns.take b).drop a
/-- the last pool, from s up to k, with middle light mid, takes in the pools ahead -/
def absorb (ns : List Int) (k : Nat) : List Nat → Nat → Int → List Nat
  | [], s, _ => [s]
  | a :: r, s, mid => if med (part ns a s) < mid then s :: a :: r else absorb ns k r a (med (part ns a (k + 1)))
/-- the starts of the pools of the first k places, the last one first -/
def pools (ns : List Int) : Nat → List Nat
  | 0 => []
  | k + 1 => absorb ns k (pools ns k) k (ns.getD k 0)
/-- the lights that the pools give, up to place stop, ahead of those given so far -/
def unroll (ns : List Int) : List Nat → Nat → List Int → List Int
  | [], _, fit => fit
  | s :: r, stop, fit => unroll ns r s (List.replicate (stop - s) (med (part ns s stop)) ++ fit)
def newLights (ns : List Int) : List Int := unroll ns (pools ns ns.length) ns.length []
/-- falling starts below n -/
def Down : Nat → List Nat → Prop
  | _, [] => True
  | n, a :: r => a < n ∧ Down a r
theorem Down.mono {n k : Nat} (h : n ≤ k) : ∀ {st : List Nat}, Down n st → Down k st
  | [], _ => trivial
  | _ :: _, ⟨h1, h2⟩ => ⟨Nat.lt_of_lt_of_le h1 h, h2⟩
theorem absorb_down {ns : List Int} {k n : Nat} : ∀ {st : List Nat} {s : Nat} {mid : Int}, Down n (s :: st) → Down n (absorb ns k st s mid)
  | [], _, _, h => h
  | a :: r, s, mid, h => by
    unfold absorb
    split
    · exact h
    · exact absorb_down ⟨Nat.lt_trans h.2.1 h.1, h.2.2⟩
theorem pools_down (ns : List Int) : ∀ k, Down k (pools ns k)
  | 0 => trivial
  | k + 1 => by
    unfold pools
    exact absorb_down ⟨Nat.lt_succ_self k, pools_down ns k⟩
end
section
def bestAt (cs : List Int) (j : Nat) : Int := (cs.take j).foldl min (cs.getD 0 0)
def freshAt (L cs : List Int) (x : Int) (j : Nat) : List Int := (List.range j).map fun i => bestAt cs (i + 1) + ((x - L.getD i 0).natAbs : Int)
def costsAt (L ns : List Int) (i : Nat) : List Int := (ns.take i).foldl (fun cs x => freshAt L cs x L.length) (List.replicate L.length 0)
structure LeastIs (ns : List Int) (m : Int) : Prop where
  out : ∃ L : List Int, L.Perm ns ∧ L.Pairwise (· ≤ ·) ∧ m ∈ costsAt L ns ns.length ∧ ∀ c ∈ costsAt L ns ns.length, m ≤ c
theorem bestAt_succ {cs : List Int} {j : Nat} (h : j < cs.length) : bestAt cs (j + 1) = min (bestAt cs j) (cs.getD j 0) := by
  unfold bestAt
  rw [take_snoc h, List.foldl_append]; rfl
theorem freshAt_succ {L cs : List Int} {x : Int} {j : Nat} : freshAt L cs x (j + 1) = freshAt L cs x j ++ [bestAt cs (j + 1) + ((x - L.getD j 0).natAbs : Int)] := by
  unfold freshAt
  rw [List.range_succ, List.map_append]; rfl
theorem freshAt_length {L cs : List Int} {x : Int} {j : Nat} : (freshAt L cs x j).length = j := by
  unfold freshAt; rw [List.length_map, List.length_range]
theorem costsAt_succ {L ns : List Int} {i : Nat} (h : i < ns.length) : costsAt L ns (i + 1) = freshAt L (costsAt L ns i) (ns.getD i 0) L.length := by
  unfold costsAt
  rw [take_snoc h, List.foldl_append]; rfl
theorem costsAt_length {L ns : List Int} {i : Nat} (h : i ≤ ns.length) : (costsAt L ns i).length = L.length := by
  cases i with
  | zero => unfold costsAt; simp
  | succ i => rw [costsAt_succ h, freshAt_length]
end
section
/-- the count's height behind the first j places -/
def stp (c x : Int) : Int := if x < c then -1 else 1
def hgt (ns : List Int) (c : Int) (j : Nat) : Int := ((ns.take j).map (stp c)).sum
theorem hgt_succ {ns : List Int} {c : Int} {j : Nat} (h : j < ns.length) : hgt ns c (j + 1) = hgt ns c j + stp c (ns.getD j 0) := by
  unfold hgt
  rw [take_snoc h, List.map_append, List.sum_append]; simp
theorem sum_stp (c : Int) (xs : List Int) : (xs.map (stp c)).sum = (xs.length : Int) - 2 * (below c xs : Nat) := by
  induction xs with
  | nil => rfl
  | cons a r ih =>
    rw [List.map_cons, List.sum_cons, ih, below_cons]
    unfold stp
    by_cases h : a < c
    · simp only [h, if_true, List.length_cons]; omega
    · simp only [h, if_false, List.length_cons]; omega
theorem take_part {ns : List Int} {a b : Nat} (h : a ≤ b) : ns.take b = ns.take a ++ part ns a b := by
  unfold part
  have : ns.take a = (ns.take b).take a := by rw [List.take_take, Nat.min_eq_left h]
  rw [this, List.take_append_drop]
theorem hgt_part {ns : List Int} {c : Int} {a b : Nat} (h : a ≤ b) : hgt ns c b = hgt ns c a + ((part ns a b).length - 2 * (below c (part ns a b) : Nat)) := by
  unfold hgt
  rw [take_part h, List.map_append, List.sum_append, sum_stp c (part ns a b)]
theorem part_length {ns : List Int} {a b : Nat} (h : b ≤ ns.length) : (part ns a b).length = b - a := by
  unfold part
  rw [List.length_drop, List.length_take, Nat.min_eq_left h]
theorem below_perm {c : Int} {xs ys : List Int} (h : xs.Perm ys) : below c xs = below c ys := by
  unfold below
  exact (h.filter _).length_eq
theorem med_lt {c : Int} {xs : List Int} (h : xs ≠ []) : med xs < c ↔ (xs.length : Int) - 2 * (below c xs : Nat) ≤ 0 := by
  have hl : 0 < xs.length := List.length_pos_iff.mpr h
  unfold med
  rw [cut_at (isort_sorted xs) _ (by rw [isort_length]; omega), below_perm (isort_perm xs)]
  omega
theorem med_mem {xs : List Int} (h : xs ≠ []) : med xs ∈ xs := by
  have hl : 0 < xs.length := List.length_pos_iff.mpr h
  have hi : (xs.length - 1) / 2 < (isort xs).length := by rw [isort_length]; omega
  have : med xs ∈ isort xs := by
    unfold med
    rw [List.getD_eq_getElem?_getD, List.getElem?_eq_getElem hi]
    exact List.getElem_mem hi
  exact (isort_perm xs).mem_iff.mp this
theorem part_ne {ns : List Int} {a b : Nat} (h : a < b) (hb : b ≤ ns.length) : part ns a b ≠ [] := by
  intro e
  have := part_length (ns := ns) (a := a) hb
  rw [e] at this
  simp at this; omega
theorem med_hgt {ns : List Int} {c : Int} {a b : Nat} (h : a < b) (hb : b ≤ ns.length) : med (part ns a b) < c ↔ hgt ns c b ≤ hgt ns c a := by
  rw [med_lt (part_ne h hb), hgt_part (Nat.le_of_lt h)]
  omega
/-- a pool: where its end stands no higher than its start, no place in it stands lower than the end; else all behind the start stand higher than it -/
def Good (ns : List Int) (a b : Nat) : Prop :=
  ∀ c, (hgt ns c b ≤ hgt ns c a → ∀ j, a ≤ j → j ≤ b → hgt ns c b ≤ hgt ns c j) ∧ (hgt ns c a < hgt ns c b → ∀ j, a < j → j ≤ b → hgt ns c a < hgt ns c j)
theorem good_one {ns : List Int} {k : Nat} : Good ns k (k + 1) := by
  intro c
  refine ⟨fun h j h0 h1 => ?_, fun h j h0 h1 => ?_⟩
  · rcases Nat.lt_or_ge k j with h2 | h2
    · have : j = k + 1 := by omega
      subst this; exact Int.le_refl _
    · have : j = k := by omega
      subst this; exact h
  · have : j = k + 1 := by omega
    subst this; exact h
theorem good_join {ns : List Int} {a s b : Nat} (h1 : a < s) (h2 : s < b) (hb : b ≤ ns.length) (ga : Good ns a s) (gb : Good ns s b) (hm : med (part ns s b) ≤ med (part ns a s)) : Good ns a b := by
  intro c
  have m1 := med_hgt (ns := ns) (c := c) h1 (by omega)
  have m2 := med_hgt (ns := ns) (c := c) h2 hb
  obtain ⟨a1, a2⟩ := ga c
  obtain ⟨b1, b2⟩ := gb c
  have key : hgt ns c s ≤ hgt ns c a → hgt ns c b ≤ hgt ns c s := fun h => m2.mp (Int.lt_of_le_of_lt hm (m1.mpr h))
  refine ⟨fun h j h0 h3 => ?_, fun h j h0 h3 => ?_⟩
  · by_cases q : hgt ns c b ≤ hgt ns c s
    · rcases Nat.lt_or_ge j s with hj | hj
      · by_cases q2 : hgt ns c s ≤ hgt ns c a
        · have := a1 q2 j h0 (by omega); omega
        · rcases Nat.lt_or_ge a j with hj2 | hj2
          · have := a2 (by omega) j hj2 (by omega); omega
          · have : j = a := by omega
            subst this; exact h
      · exact b1 q j hj h3
    · have := mt key q; omega
  · by_cases q : hgt ns c s ≤ hgt ns c a
    · have := key q; omega
    · rcases Nat.lt_or_ge s j with hj | hj
      · by_cases q2 : hgt ns c b ≤ hgt ns c s
        · have := b1 q2 j (by omega) h3; omega
        · have := b2 (by omega) j hj h3; omega
      · exact a2 (by omega) j h0 hj
/-- falling starts of pools up to place e, their middle lights rising -/
def Chain (ns : List Int) : List Nat → Nat → Prop
  | [], e => e = 0
  | a :: r, e => a < e ∧ Good ns a e ∧ Chain ns r a ∧ ∀ b, r.head? = some b → med (part ns b a) < med (part ns a e)
theorem absorb_chain {ns : List Int} {k : Nat} (hk : k + 1 ≤ ns.length) : ∀ {st : List Nat} {s : Nat} {mid : Int}, s < k + 1 → Chain ns st s → Good ns s (k + 1) → mid = med (part ns s (k + 1)) → Chain ns (absorb ns k st s mid) (k + 1)
  | [], s, mid, hs, hc, hg, hm => ⟨hs, hg, hc, fun _ h => nomatch h⟩
  | a :: r, s, mid, hs, hc, hg, hm => by
    unfold absorb
    split
    · next h => exact ⟨hs, hg, hc, fun b hb => by cases hb; rw [← hm]; exact h⟩
    · next h =>
      obtain ⟨h1, h2, h3, h4⟩ := hc
      exact absorb_chain hk (by omega) h3 (good_join h1 hs hk h2 hg (by omega)) rfl
theorem part_one {ns : List Int} {k : Nat} (h : k < ns.length) : med (part ns k (k + 1)) = ns.getD k 0 := by
  unfold part
  rw [take_snoc h, List.drop_append_of_le_length (by rw [List.length_take]; omega), List.drop_of_length_le (by rw [List.length_take]; omega), List.nil_append]
  simp [med, isort, ins, below]
theorem pools_chain {ns : List Int} : ∀ {k}, k ≤ ns.length → Chain ns (pools ns k) k
  | 0, _ => rfl
  | k + 1, h => by
    unfold pools
    exact absorb_chain h (Nat.lt_succ_self k) (pools_chain (by omega)) good_one (part_one h).symm
theorem unroll_append (ns : List Int) : ∀ (st : List Nat) (e : Nat) (fit : List Int), unroll ns st e fit = unroll ns st e [] ++ fit
  | [], _, _ => rfl
  | a :: r, e, fit => by
    unfold unroll
    rw [unroll_append ns r a (_ ++ fit), unroll_append ns r a (_ ++ [])]
    simp
theorem unroll_length {ns : List Int} : ∀ {st : List Nat} {e : Nat}, Chain ns st e → (unroll ns st e []).length = e
  | [], _, h => h.symm
  | a :: r, e, h => by
    unfold unroll
    rw [unroll_append, List.length_append, unroll_length h.2.2.1]
    simp
    have := h.1
    omega
theorem unroll_mem {ns : List Int} {x : Int} : ∀ {st : List Nat} {e : Nat}, Chain ns st e → e ≤ ns.length → x ∈ unroll ns st e [] → x ∈ ns
  | [], _, h, _, hx => nomatch hx
  | a :: r, e, h, he, hx => by
    unfold unroll at hx
    rw [unroll_append, List.append_nil] at hx
    rcases List.mem_append.mp hx with hx | hx
    · exact unroll_mem h.2.2.1 (by have := h.1; omega) hx
    · obtain ⟨_, rfl⟩ := List.mem_replicate.mp hx
      have := med_mem (part_ne h.1 he)
      exact List.mem_of_mem_take (List.mem_of_mem_drop this)
theorem newLights_length (ns : List Int) : (newLights ns).length = ns.length := unroll_length (pools_chain (Nat.le_refl _))
theorem newLights_mem {ns : List Int} {x : Int} (h : x ∈ newLights ns) : x ∈ ns := unroll_mem (pools_chain (Nat.le_refl _)) (Nat.le_refl _) h
/-- the lowest place for the last time, up to e -/
def Last (ns : List Int) (c : Int) (e k : Nat) : Prop := k ≤ e ∧ (∀ j, j ≤ e → hgt ns c k ≤ hgt ns c j) ∧ ∀ j, j ≤ e → k < j → hgt ns c k < hgt ns c j
theorem Last.uniq {ns : List Int} {c : Int} {e k k' : Nat} (h : Last ns c e k) (h' : Last ns c e k') : k = k' := by
  obtain ⟨h1, h2, h3⟩ := h
  obtain ⟨h1', h2', h3'⟩ := h'
  rcases Nat.lt_trichotomy k k' with q | q | q
  · have := h3 k' h1' q; have := h2' k h1; omega
  · exact q
  · have := h3' k h1 q; have := h2 k' h1'; omega
theorem getD_left {xs ys : List Int} {i : Nat} (h : i < xs.length) : (xs ++ ys).getD i 0 = xs.getD i 0 := by
  rw [List.getD_eq_getElem?_getD, List.getElem?_append_left h, List.getD_eq_getElem?_getD]
theorem getD_rep {xs : List Int} {n i : Nat} {v : Int} (h : xs.length ≤ i) (h2 : i < xs.length + n) : (xs ++ List.replicate n v).getD i 0 = v := by
  rw [List.getD_eq_getElem?_getD, List.getElem?_append_right h, List.getElem?_replicate, if_pos (by omega)]; rfl
theorem unroll_cut {ns : List Int} {c : Int} : ∀ {st : List Nat} {e : Nat}, Chain ns st e → e ≤ ns.length → ∃ k, Last ns c e k ∧ (∀ i, i < e → ((unroll ns st e []).getD i 0 < c ↔ i < k)) ∧ ((∀ b, st.head? = some b → med (part ns b e) < c) → k = e)
  | [], e, h, _ => by
    have h : e = 0 := h
    subst h
    refine ⟨0, ⟨Nat.le_refl _, fun j hj => ?_, fun j hj h => by omega⟩, fun i hi => by omega, fun _ => rfl⟩
    have : j = 0 := by omega
    subst this; exact Int.le_refl _
  | a :: r, e, h, he => by
    obtain ⟨h1, h2, h3, h4⟩ := h
    obtain ⟨k, hl, hi, ht⟩ := unroll_cut (c := c) h3 (by omega)
    have hlen := unroll_length h3
    unfold unroll
    rw [unroll_append, List.append_nil]
    have m := med_hgt (ns := ns) (c := c) h1 he
    obtain ⟨g1, g2⟩ := h2 c
    by_cases q : med (part ns a e) < c
    · have hk : k = a := ht fun b hb => Int.lt_trans (h4 b hb) q
      subst hk
      have q' := m.mp q
      refine ⟨e, ⟨Nat.le_refl _, fun j hj => ?_, fun j hj h => by omega⟩, fun i hie => ?_, fun _ => rfl⟩
      · rcases Nat.lt_or_ge j k with hj2 | hj2
        · have := hl.2.1 j (by omega); omega
        · exact g1 q' j hj2 hj
      · rcases Nat.lt_or_ge i k with hj2 | hj2
        · rw [getD_left (by omega), hi i hj2]; omega
        · rw [getD_rep (by omega) (by omega)]; omega
    · have q' : hgt ns c a < hgt ns c e := by have := mt m.mpr q; omega
      refine ⟨k, ⟨by have := hl.1; omega, fun j hj => ?_, fun j hj hkj => ?_⟩, fun i hie => ?_, fun h => absurd (h a rfl) q⟩
      · rcases Nat.lt_or_ge a j with hj2 | hj2
        · have := g2 q' j hj2 hj; have := hl.2.1 a (Nat.le_refl _); omega
        · exact hl.2.1 j hj2
      · rcases Nat.lt_or_ge a j with hj2 | hj2
        · have := g2 q' j hj2 hj; have := hl.2.1 a (Nat.le_refl _); omega
        · exact hl.2.2 j hj2 hkj
      · rcases Nat.lt_or_ge i a with hj2 | hj2
        · rw [getD_left (by omega), hi i hj2]
        · rw [getD_rep (by omega) (by omega)]
          have := hl.1
          omega
theorem lowest_last (ns : List Int) (c : Int) : ∀ j, j ≤ ns.length → ∃ k : Nat, (cnt c (ns.take j)).place = k ∧ (cnt c (ns.take j)).total = hgt ns c j ∧ (cnt c (ns.take j)).low = hgt ns c k ∧ Last ns c j k
  | 0, _ => by
    refine ⟨0, by simp [cnt], by simp [cnt, hgt], by simp [cnt, hgt], Nat.le_refl _, fun j hj => ?_, fun j hj h => by omega⟩
    have : j = 0 := by omega
    subst this
    exact Int.le_refl _
  | j + 1, h => by
    obtain ⟨k, h1, h2, h3, h4, h5, h6⟩ := lowest_last ns c j (by omega)
    have hk := cnt_k c (ns.take j)
    rw [List.length_take, Nat.min_eq_left (by omega)] at hk
    have hs := hgt_succ (ns := ns) (c := c) (j := j) h
    rw [take_snoc h, cnt_snoc]
    generalize cnt c (ns.take j) = s at *
    have ht : (if ns.getD j 0 < c then s.total - 1 else s.total + 1) = hgt ns c (j + 1) := by
      rw [hs, h2]; unfold stp; split <;> rfl
    unfold cntStep
    rw [ht]
    dsimp only
    split
    · next q =>
      refine ⟨j + 1, by dsimp only; omega, rfl, rfl, Nat.le_refl _, fun i hi => ?_, fun i hi hj => by omega⟩
      rcases Nat.lt_or_ge i (j + 1) with hj2 | hj2
      · have := h5 i (by omega); omega
      · have : i = j + 1 := by omega
        subst this; exact Int.le_refl _
    · next q =>
      refine ⟨k, h1, rfl, h3, by omega, fun i hi => ?_, fun i hi hj => ?_⟩
      · rcases Nat.lt_or_ge i (j + 1) with hj2 | hj2
        · exact h5 i (by omega)
        · have : i = j + 1 := by omega
          subst this; omega
      · rcases Nat.lt_or_ge i (j + 1) with hj2 | hj2
        · exact h6 i (by omega) hj
        · have : i = j + 1 := by omega
          subst this; omega
theorem fit_last (ns : List Int) (c : Int) : ∃ k, Last ns c ns.length k ∧ ∀ i, i < ns.length → ((newLights ns).getD i 0 < c ↔ i < k) :=
  let ⟨k, h1, h2, _⟩ := unroll_cut (c := c) (pools_chain (ns := ns) (Nat.le_refl _)) (Nat.le_refl _)
  ⟨k, h1, h2⟩
theorem fit_cut (ns : List Int) (c : Int) : ∃ k : Nat, lowest ns c = k ∧ k ≤ ns.length ∧ ∀ i, i < ns.length → ((newLights ns).getD i 0 < c ↔ i < k) := by
  obtain ⟨k, h1, h2⟩ := fit_last ns c
  obtain ⟨k', h3, _, _, h4⟩ := lowest_last ns c ns.length (Nat.le_refl _)
  have := h1.uniq h4
  subst this
  rw [List.take_length] at h3
  exact ⟨k, h3, h1.1, h2⟩
theorem abs_if (x : Int) : (if x < 0 then -x else x) = ((x.natAbs : Nat) : Int) := by split <;> omega
def costOf (fit ns : List Int) : Int := ((List.range ns.length).map fun i => (((fit.getD i 0 - ns.getD i 0).natAbs : Nat) : Int)).sum
theorem cut_l {f : List Int} {n k : Nat} {x : Int} (h : ∀ i, i < n → (f.getD i 0 < x ↔ i < k)) : ∀ i : Int, 0 ≤ i → i < n → (f.getD i.toNat 0 < x ↔ i < k) := by
  intro i h0 h1
  have := h i.toNat (by omega)
  rw [this]; omega
theorem cut_r {f : List Int} {n k : Nat} {x : Int} (h : ∀ i, i < n → (f.getD i 0 < x + 1 ↔ i < k)) : ∀ i : Int, 0 ≤ i → i < n → (x < f.getD i.toNat 0 ↔ k ≤ i) := by
  intro i h0 h1
  have := h i.toNat (by omega)
  omega
/-! the cost, level by level -/
/-- the sum of g over the first n naturals -/
def upto (n : Nat) (g : Nat → Int) : Int := ((List.range n).map g).sum
theorem upto_succ (n : Nat) (g : Nat → Int) : upto (n + 1) g = upto n g + g n := by
  unfold upto; rw [List.range_succ, List.map_append, List.sum_append]; simp
theorem upto_congr {n : Nat} {g h : Nat → Int} (e : ∀ i, i < n → g i = h i) : upto n g = upto n h := by
  induction n with
  | zero => rfl
  | succ n ih => rw [upto_succ, upto_succ, ih fun i hi => e i (by omega), e n (by omega)]
theorem upto_le {n : Nat} {g h : Nat → Int} (e : ∀ i, i < n → g i ≤ h i) : upto n g ≤ upto n h := by
  induction n with
  | zero => exact Int.le_refl _
  | succ n ih => rw [upto_succ, upto_succ]; have := ih fun i hi => e i (by omega); have := e n (by omega); omega
theorem upto_add (n : Nat) (g h : Nat → Int) : upto n (fun i => g i + h i) = upto n g + upto n h := by
  induction n with
  | zero => rfl
  | succ n ih => rw [upto_succ, upto_succ, upto_succ, ih]; omega
theorem upto_zero (n : Nat) : upto n (fun _ => 0) = 0 := by
  induction n with
  | zero => rfl
  | succ n ih => rw [upto_succ, ih]; rfl
theorem upto_swap (n m : Nat) (g : Nat → Nat → Int) : upto n (fun i => upto m (fun t => g i t)) = upto m (fun t => upto n fun i => g i t) := by
  induction n with
  | zero => exact (upto_zero m).symm
  | succ n ih =>
    rw [upto_succ, ih, ← upto_add]
    exact upto_congr fun t _ => (upto_succ n _).symm
/-- do f and x lie on two sides of c? -/
def side (c f x : Int) : Int := if f < c then (if x < c then 0 else 1) else (if x < c then 1 else 0)
theorem side_sum (lo f x : Int) (M : Nat) (hf : lo ≤ f) (hx : lo ≤ x) : upto M (fun t => side (lo + t + 1) f x) = (((min f (lo + M)) - (min x (lo + M))).natAbs : Nat) := by
  induction M with
  | zero => rw [Int.min_eq_right (by omega), Int.min_eq_right (by omega)]; simp [upto]
  | succ M ih =>
    rw [upto_succ, ih]
    unfold side
    split <;> split <;> omega
theorem abs_sum {lo f x : Int} {M : Nat} (hf : lo ≤ f) (hx : lo ≤ x) (hf' : f ≤ lo + M) (hx' : x ≤ lo + M) : (((f - x).natAbs : Nat) : Int) = upto M (fun t => side (lo + t + 1) f x) := by
  rw [side_sum lo f x M hf hx, Int.min_eq_left hf', Int.min_eq_left hx']
/-- how many lie below c, and the height at the cut -/
theorem side_cut {ns g : List Int} {c : Int} {k : Nat} : ∀ n, n ≤ ns.length → (∀ i, i < n → (g.getD i 0 < c ↔ i < k)) → upto n (fun i => side c (g.getD i 0) (ns.getD i 0)) = upto n (fun i => if ns.getD i 0 < c then 1 else 0) + hgt ns c (min k n)
  | 0, _, _ => by rw [Nat.min_zero]; rfl
  | n + 1, h, hg => by
    rw [upto_succ, upto_succ, side_cut n (by omega) fun i hi => hg i (by omega)]
    have := hg n (by omega)
    unfold side
    by_cases q : n < k
    · rw [if_pos (this.mpr q), Nat.min_eq_right (by omega), Nat.min_eq_right (by omega), hgt_succ h]
      unfold stp
      split <;> omega
    · rw [if_neg (mt this.mp q), Nat.min_eq_left (by omega), Nat.min_eq_left (by omega)]
      omega
theorem bounded (xs : List Int) : ∃ B : Nat, ∀ x ∈ xs, -(B : Int) ≤ x ∧ x ≤ B := by
  induction xs with
  | nil => exact ⟨0, fun _ h => nomatch h⟩
  | cons a r ih =>
    obtain ⟨B, hB⟩ := ih
    refine ⟨B + a.natAbs, fun x hx => ?_⟩
    rcases List.mem_cons.mp hx with rfl | hx
    · omega
    · have := hB x hx; omega
theorem getD_mem {xs : List Int} {i : Nat} (h : i < xs.length) : xs.getD i 0 ∈ xs := by
  rw [List.getD_eq_getElem?_getD, List.getElem?_eq_getElem h]
  exact List.getElem_mem h
/-- the new lights are as near as any lights that never fall -/
theorem fit_best {ns g : List Int} (hg : g.length = ns.length) (hp : g.Pairwise (· ≤ ·)) : costOf (newLights ns) ns ≤ costOf g ns := by
  obtain ⟨B, hB⟩ := bounded (ns ++ g)
  have hn : ∀ i, i < ns.length → -(B : Int) ≤ ns.getD i 0 ∧ ns.getD i 0 ≤ B := fun i hi => hB _ (List.mem_append_left _ (getD_mem hi))
  have hgb : ∀ i, i < ns.length → -(B : Int) ≤ g.getD i 0 ∧ g.getD i 0 ≤ B := fun i hi => hB _ (List.mem_append_right _ (getD_mem (hg ▸ hi)))
  have hf : ∀ i, i < ns.length → -(B : Int) ≤ (newLights ns).getD i 0 ∧ (newLights ns).getD i 0 ≤ B := fun i hi =>
    hB _ (List.mem_append_left _ (newLights_mem (getD_mem (by rw [newLights_length]; exact hi))))
  have cost : ∀ f : List Int, (∀ i, i < ns.length → -(B : Int) ≤ f.getD i 0 ∧ f.getD i 0 ≤ B) → costOf f ns = upto (2 * B) fun t => upto ns.length fun i => side (-(B : Int) + t + 1) (f.getD i 0) (ns.getD i 0) := by
    intro f h
    rw [← upto_swap]
    exact upto_congr fun i hi => abs_sum (h i hi).1 (hn i hi).1 (by have := (h i hi).2; omega) (by have := (hn i hi).2; omega)
  rw [cost _ hf, cost _ hgb]
  refine upto_le fun t _ => ?_
  generalize -(B : Int) + t + 1 = c
  obtain ⟨k, hl, hk⟩ := fit_last ns c
  rw [side_cut ns.length (Nat.le_refl _) hk, side_cut (k := below c g) ns.length (Nat.le_refl _) fun i hi => cut_at hp i (hg ▸ hi)]
  have h1 := hl.2.1 (min (below c g) ns.length) (by omega)
  have : min k ns.length = k := Nat.min_eq_left hl.1
  rw [this]
  omega
/-- they never fall -/
theorem fit_rise (ns : List Int) : (newLights ns).Pairwise (· ≤ ·) := by
  rw [List.pairwise_iff_getElem]
  intro i j hi hj hij
  have hjn : j < ns.length := by rw [newLights_length] at hj; exact hj
  obtain ⟨k, _, hk⟩ := fit_last ns ((newLights ns)[j] + 1)
  have h1 := hk j hjn
  have h2 := hk i (by omega)
  rw [List.getD_eq_getElem?_getD, List.getElem?_eq_getElem hj] at h1
  rw [List.getD_eq_getElem?_getD, List.getElem?_eq_getElem hi] at h2
  simp only [Option.getD_some] at h1 h2
  omega
/-! the reckoning along the row -/
theorem foldl_min_le (xs : List Int) : ∀ a : Int, xs.foldl min a ≤ a ∧ ∀ x ∈ xs, xs.foldl min a ≤ x := by
  induction xs with
  | nil => exact fun a => ⟨Int.le_refl _, fun _ h => nomatch h⟩
  | cons b r ih =>
    intro a
    obtain ⟨h1, h2⟩ := ih (min a b)
    rw [List.foldl_cons]
    refine ⟨by omega, fun x hx => ?_⟩
    rcases List.mem_cons.mp hx with rfl | hx
    · omega
    · exact h2 x hx
theorem foldl_min_mem (xs : List Int) : ∀ a : Int, xs.foldl min a = a ∨ xs.foldl min a ∈ xs := by
  induction xs with
  | nil => exact fun a => .inl rfl
  | cons b r ih =>
    intro a
    rw [List.foldl_cons]
    rcases ih (min a b) with h | h
    · rw [h]
      rcases Int.le_total a b with q | q
      · exact .inl (Int.min_eq_left q)
      · rw [Int.min_eq_right q]; exact .inr List.mem_cons_self
    · exact .inr (List.mem_cons_of_mem _ h)
theorem bestAt_le {cs : List Int} {i j : Nat} (hij : i ≤ j) (hj : j < cs.length) : bestAt cs (j + 1) ≤ cs.getD i 0 := by
  unfold bestAt
  refine (foldl_min_le _ _).2 _ ?_
  have : (cs.take (j + 1)).getD i 0 = cs.getD i 0 := by
    rw [List.getD_eq_getElem?_getD, List.getElem?_take_of_lt (by omega), List.getD_eq_getElem?_getD]
  rw [← this]
  exact getD_mem (by rw [List.length_take]; omega)
theorem bestAt_is {cs : List Int} {j : Nat} (hj : j < cs.length) : ∃ i, i ≤ j ∧ bestAt cs (j + 1) = cs.getD i 0 := by
  unfold bestAt
  rcases foldl_min_mem (cs.take (j + 1)) (cs.getD 0 0) with h | h
  · exact ⟨0, Nat.zero_le _, h⟩
  · obtain ⟨i, hi, he⟩ := List.mem_iff_getElem.mp h
    rw [List.length_take] at hi
    refine ⟨i, by omega, ?_⟩
    rw [← he, List.getElem_take, List.getD_eq_getElem?_getD, List.getElem?_eq_getElem (by omega)]; rfl
theorem sorted_getD {L : List Int} (hs : L.Pairwise (· ≤ ·)) {i j : Nat} (hij : i ≤ j) (hj : j < L.length) : L.getD i 0 ≤ L.getD j 0 := by
  rw [List.getD_eq_getElem?_getD, List.getElem?_eq_getElem (by omega), List.getD_eq_getElem?_getD, List.getElem?_eq_getElem hj]
  simp only [Option.getD_some]
  rcases Nat.lt_or_ge i j with h | h
  · exact List.pairwise_iff_getElem.mp hs i j (by omega) hj h
  · have : i = j := by omega
    subst this; exact Int.le_refl _
/-- what a row g of lights costs against the first places of ns -/
def fareTo (g ns : List Int) (i : Nat) : Int := upto i fun t => (((g.getD t 0 - ns.getD t 0).natAbs : Nat) : Int)
theorem freshAt_getD {L cs : List Int} {x : Int} {n j : Nat} (h : j < n) : (freshAt L cs x n).getD j 0 = bestAt cs (j + 1) + ((x - L.getD j 0).natAbs : Int) := by
  unfold freshAt
  rw [List.getD_eq_getElem?_getD, List.getElem?_map, List.getElem?_range h]; rfl
theorem dp_sound {L ns : List Int} (hs : L.Pairwise (· ≤ ·)) : ∀ i, i ≤ ns.length → ∀ j, j < L.length → ∃ g : List Int, g.length = i ∧ g.Pairwise (· ≤ ·) ∧ (∀ y ∈ g, y ≤ L.getD j 0) ∧ (costsAt L ns i).getD j 0 = fareTo g ns i
  | 0, _, j, hj => ⟨[], rfl, List.Pairwise.nil, (fun _ h => nomatch h), by unfold costsAt; simp [hj, fareTo, upto]⟩
  | i + 1, hi, j, hj => by
    rw [costsAt_succ (by omega), freshAt_getD hj]
    obtain ⟨j', hj', e⟩ := bestAt_is (cs := costsAt L ns i) (j := j) (by rw [costsAt_length (by omega)]; exact hj)
    obtain ⟨g, g1, g2, g3, g4⟩ := dp_sound (ns := ns) hs i (by omega) j' (by omega)
    have hjj := sorted_getD hs hj' hj
    refine ⟨g ++ [L.getD j 0], by simp [g1], ?_, ?_, ?_⟩
    · rw [List.pairwise_append]
      refine ⟨g2, List.pairwise_singleton _ _, fun a ha b hb => ?_⟩
      cases List.mem_singleton.mp hb
      have := g3 a ha; omega
    · intro y hy
      rcases List.mem_append.mp hy with hy | hy
      · have := g3 y hy; omega
      · cases List.mem_singleton.mp hy; exact Int.le_refl _
    · rw [e, g4]
      unfold fareTo
      rw [upto_succ, upto_congr (n := i) (h := fun t => ((((g ++ [L.getD j 0]).getD t 0 - ns.getD t 0).natAbs : Nat) : Int)) (fun t ht => by rw [getD_left (xs := g) (by omega)])]
      have : (g ++ [L.getD j 0]).getD i 0 = L.getD j 0 := by
        rw [List.getD_eq_getElem?_getD, List.getElem?_append_right (by omega), g1, Nat.sub_self]; rfl
      rw [this]
      omega
theorem dp_full {L ns g : List Int} (hs : L.Pairwise (· ≤ ·)) (hg : g.length = ns.length) (hp : g.Pairwise (· ≤ ·)) (hm : ∀ y ∈ g, y ∈ L) : ∀ i, i ≤ ns.length → ∀ j, j < L.length → (∀ t, t < i → g.getD t 0 ≤ L.getD j 0) → bestAt (costsAt L ns i) (j + 1) ≤ fareTo g ns i
  | 0, _, j, hj, _ => by
    have h := bestAt_le (cs := costsAt L ns 0) (i := 0) (j := j) (Nat.zero_le _) (by rw [costsAt_length (Nat.zero_le _)]; exact hj)
    have h0 : (costsAt L ns 0).getD 0 0 = 0 := by
      unfold costsAt
      have : 0 < L.length := by omega
      simp [this]
    rw [h0] at h
    exact h
  | i + 1, hi, j, hj, hb => by
    have hmem := hm _ (getD_mem (xs := g) (i := i) (by omega))
    obtain ⟨j1, hj1, e1⟩ := List.mem_iff_getElem.mp hmem
    have e1 : L.getD j1 0 = g.getD i 0 := by rw [← e1, List.getD_eq_getElem?_getD, List.getElem?_eq_getElem hj1]; rfl
    obtain ⟨j0, h0, e0⟩ : ∃ j0, j0 ≤ j ∧ L.getD j0 0 = g.getD i 0 := by
      rcases Nat.lt_or_ge j j1 with q | q
      · refine ⟨j, Nat.le_refl _, ?_⟩
        have a1 := sorted_getD hs (Nat.le_of_lt q) hj1
        have a2 := hb i (by omega)
        omega
      · exact ⟨j1, q, e1⟩
    have ih := dp_full hs hg hp hm i (by omega) j0 (by omega) fun t ht => by rw [e0]; exact sorted_getD hp (by omega) (by omega)
    have h := bestAt_le (cs := costsAt L ns (i + 1)) h0 (by rw [costsAt_length hi]; exact hj)
    rw [costsAt_succ (by omega), freshAt_getD (by omega), e0] at h
    unfold fareTo at ih ⊢
    rw [upto_succ, costsAt_succ (by omega)]
    omega
theorem fit_cost {ns : List Int} {m : Int} (hne : ns ≠ []) (h : LeastIs ns m) : costOf (newLights ns) ns = m := by
  obtain ⟨L, hL, hs, hm, hleast⟩ := h.out
  have hlen : L.length = ns.length := hL.length_eq
  have hpos : 0 < ns.length := List.length_pos_iff.mpr hne
  have hcl := costsAt_length (L := L) (ns := ns) (Nat.le_refl ns.length)
  have up : costOf (newLights ns) ns ≤ m := by
    obtain ⟨j, hj, e⟩ := List.mem_iff_getElem.mp hm
    obtain ⟨g, g1, g2, _, g4⟩ := dp_sound (ns := ns) hs ns.length (Nat.le_refl _) j (by omega)
    rw [List.getD_eq_getElem?_getD, List.getElem?_eq_getElem hj, Option.getD_some, e] at g4
    rw [g4]
    exact fit_best g1 g2
  have down : m ≤ costOf (newLights ns) ns := by
    have hin : ∀ y ∈ newLights ns, y ∈ L := fun y hy => hL.mem_iff.mpr (newLights_mem hy)
    have hb := dp_full (ns := ns) hs (newLights_length ns) (fit_rise ns) hin ns.length (Nat.le_refl _) (L.length - 1) (by omega) fun t ht => by
      obtain ⟨j, hj, e⟩ := List.mem_iff_getElem.mp (hin _ (getD_mem (xs := newLights ns) (i := t) (by rw [newLights_length]; exact ht)))
      have := sorted_getD hs (i := j) (j := L.length - 1) (by omega) (by omega)
      rw [List.getD_eq_getElem?_getD, List.getElem?_eq_getElem hj, Option.getD_some, e] at this
      exact this
    obtain ⟨i, hi, e⟩ := bestAt_is (cs := costsAt L ns ns.length) (j := L.length - 1) (by omega)
    have := hleast _ (getD_mem (xs := costsAt L ns ns.length) (i := i) (by omega))
    rw [e] at hb
    exact Int.le_trans this hb
  exact Int.le_antisymm up down
end
section
open PySem
/-- 1.0 in units of the smallest double, and what a step's rounding costs below 2^11 -/
def eE : Nat := 2 ^ 1033
theorem K_eE : (2 : Nat) ^ 1074 = 2 ^ 41 * eE := by unfold eE; rw [← Nat.pow_add]
theorem near_V {W D : Nat} (hD : 0 < D) (h : W < D * 2 ^ 1085) : ∃ t', Float64.dist W (D * Float64.V t') ≤ D * eE := by
  have hW : W / D < 2 ^ 1085 := (Nat.div_lt_iff_lt_mul hD).mpr (by rw [Nat.mul_comm]; exact h)
  obtain ⟨t', h1, h2⟩ : ∃ t', Float64.V t' ≤ W / D ∧ W / D < Float64.V t' + 2 ^ 1032 := by
    generalize W / D = w at hW
    rcases Nat.lt_or_ge w (2 ^ 52) with q | q
    · refine ⟨w, ?_⟩
      have e := Float64.V_at (k := 0) (q := w) (by omega) (.inr rfl)
      simp only [Nat.zero_mul, Nat.zero_add, Nat.pow_zero, Nat.mul_one] at e
      rw [e]
      have : 0 < 2 ^ 1032 := Nat.two_pow_pos _
      exact ⟨Nat.le_refl _, by omega⟩
    · have hw : w ≠ 0 := by intro e; rw [e] at q; exact absurd q (by decide)
      have l1 : 52 ≤ w.log2 := (Nat.le_log2 hw).mpr q
      have l2 : w.log2 < 1085 := (Nat.log2_lt hw).mpr hW
      obtain ⟨k, hk⟩ : ∃ k, w.log2 = k + 52 := ⟨w.log2 - 52, by omega⟩
      have a1 : 2 ^ (k + 52) ≤ w := hk ▸ Nat.log2_self_le hw
      have a2 : w < 2 ^ (k + 53) := by have := Nat.lt_log2_self (n := w); rw [hk] at this; exact this
      have p0 : 0 < 2 ^ k := Nat.two_pow_pos _
      have q1 : 2 ^ 52 ≤ w / 2 ^ k := (Nat.le_div_iff_mul_le p0).mpr (by rw [← Nat.pow_add, Nat.add_comm]; exact a1)
      have q2 : w / 2 ^ k < 2 ^ 53 := (Nat.div_lt_iff_lt_mul p0).mpr (by rw [← Nat.pow_add, Nat.add_comm]; exact a2)
      refine ⟨k * 2 ^ 52 + w / 2 ^ k, ?_⟩
      rw [Float64.V_at (Nat.le_of_lt q2) (.inl q1)]
      have hm := Nat.div_add_mod w (2 ^ k)
      have hr := Nat.mod_lt w p0
      have hp : (2 : Nat) ^ k ≤ 2 ^ 1032 := Nat.pow_le_pow_right (by decide) (by omega)
      rw [Nat.mul_comm] at hm
      generalize (2 : Nat) ^ k = p at *
      generalize (2 : Nat) ^ 1032 = P at *
      generalize w / p * p = A at *
      constructor <;> omega
  refine ⟨t', ?_⟩
  have hm := Nat.div_add_mod W D
  have hr := Nat.mod_lt W hD
  have m1 : D * Float64.V t' ≤ D * (W / D) := Nat.mul_le_mul_left _ h1
  have m2 : D * (W / D) ≤ D * (Float64.V t' + 2 ^ 1032) := Nat.mul_le_mul_left _ (Nat.le_of_lt h2)
  have m3 : D * 2 ^ 1032 + D ≤ D * eE := by
    have : D * 2 ^ 1032 + D * 1 ≤ D * 2 ^ 1032 + D * 2 ^ 1032 := Nat.add_le_add_left (Nat.mul_le_mul_left _ Nat.one_le_two_pow) _
    have e : D * eE = D * 2 ^ 1032 + D * 2 ^ 1032 := by unfold eE; rw [Nat.pow_succ, ← Nat.mul_assoc, Nat.mul_two]
    omega
  rw [Nat.mul_add] at m2
  unfold Float64.dist
  generalize D * Float64.V t' = a at *
  generalize D * (W / D) = b at *
  generalize D * 2 ^ 1032 = c at *
  generalize D * eE = d at *
  omega
/-- a finite double -/
def IsFin (x : UInt64) : Prop := ∃ a m e, Float64.decode x = .fin a m e
theorem right_near {r : UInt64} {neg : Bool} {W D : Nat} (hD : 0 < D) (h : W < D * 2 ^ 1085) (hr : Float64.Right r neg W D) : IsFin r ∧ ∃ R : Nat, Float64.val r = Float64.sgn neg R ∧ Float64.dist W (D * R) ≤ D * eE := by
  obtain ⟨t, rfl, ht, hi, hn⟩ := hr
  have hlt : t < Float64.infMag := by
    rcases Nat.lt_or_ge t Float64.infMag with q | q
    · exact q
    · have := hi.mp (Nat.le_antisymm ht q)
      have h2 : 2 * W < D * 2 ^ 1086 := by
        have e : D * 2 ^ 1086 = 2 * (D * 2 ^ 1085) := by rw [Nat.pow_succ, ← Nat.mul_assoc, Nat.mul_comm 2]
        rw [e]; omega
      have h3 : D * 2 ^ 1086 ≤ D * ((2 ^ 54 - 1) * 2 ^ 2045) := Nat.mul_le_mul_left _ (by decide +kernel)
      exact absurd (Nat.lt_of_lt_of_le h2 h3) (Nat.not_lt.mpr this)
  obtain ⟨m, e, hd, _⟩ := Float64.decode_pack neg hlt
  obtain ⟨t', ht'⟩ := near_V hD h
  exact ⟨⟨_, _, _, hd⟩, Float64.V t, Float64.val_pack neg hlt, Nat.le_trans (hn hlt t').1 ht'⟩
theorem pow1085 : (2 : Nat) ^ 1085 = 2 ^ 52 * eE := by unfold eE; rw [← Nat.pow_add]
theorem add_near {x y : UInt64} (hx : IsFin x) (hy : IsFin y) (h : (Float64.val x + Float64.val y).natAbs < 2 ^ 52 * eE) : IsFin (Float64.add x y) ∧ (Float64.val (Float64.add x y) - (Float64.val x + Float64.val y)).natAbs ≤ eE := by
  obtain ⟨a, m, e, hx⟩ := hx
  obtain ⟨b, k, f, hy⟩ := hy
  obtain ⟨h0, h1⟩ := Float64.add_right hx hy
  by_cases q : Float64.val x + Float64.val y = 0
  · rw [h0 q, q]
    obtain ⟨m0, e0, hd, _⟩ := Float64.decode_pack (a && b) (t := 0) (by decide)
    refine ⟨⟨_, _, _, hd⟩, ?_⟩
    have : Float64.val (Float64.zero (a && b)) = 0 := by
      unfold Float64.zero
      rw [Float64.val_pack _ (by decide), Float64.V_zero]
      unfold Float64.sgn; simp
    rw [this]; simp
  · obtain ⟨hf, R, hR, hd⟩ := right_near (by decide) (by rw [Nat.one_mul, pow1085]; exact h) (h1 q)
    refine ⟨hf, ?_⟩
    rw [hR]
    generalize Float64.val x + Float64.val y = s at *
    unfold Float64.dist at hd
    unfold Float64.sgn
    by_cases q2 : s < 0
    · simp only [q2, decide_true, if_true]; omega
    · simp only [q2, decide_false, Bool.false_eq_true, if_false]; omega
theorem K_pos : 0 < eE := Nat.two_pow_pos _
def decIs (x : UInt64) (m : Nat) (e : Int) (v : Int) : Bool := match Float64.decode x with
  | .fin a m' e' => !a && (m' == m) && (e' == e) && (((m * 2 ^ (e + 1074).toNat : Nat) : Int) == v)
  | _ => false
theorem decIs_out {x : UInt64} {m : Nat} {e v : Int} (h : decIs x m e v = true) : Float64.decode x = .fin false m e ∧ Float64.val x = v := by
  unfold decIs at h
  generalize hd : Float64.decode x = d at h
  cases d with
  | fin a m' e' =>
    simp only [Bool.and_eq_true, Bool.not_eq_true', beq_iff_eq] at h
    obtain ⟨⟨⟨rfl, rfl⟩, rfl⟩, rfl⟩ := h
    exact ⟨rfl, by rw [Float64.val_eq hd]; rfl⟩
  | inf => cases h
  | nan => cases h
/-- times 400 -/
theorem mul400 : Float64.decode (Float64.ofInt 400) = .fin false 7036874417766400 (-44) ∧ Float64.val (Float64.ofInt 400) = ((400 * 2 ^ 1074 : Nat) : Int) := decIs_out (by decide +kernel)
theorem half_is : Float64.decode 4602678819172646912 = .fin false 4503599627370496 (-53) ∧ Float64.val 4602678819172646912 = ((2 ^ 40 * eE : Nat) : Int) := decIs_out (by decide +kernel)
theorem one_is : Float64.decode 4607182418800017408 = .fin false 4503599627370496 (-52) ∧ Float64.val 4607182418800017408 = ((2 ^ 41 * eE : Nat) : Int) := decIs_out (by decide +kernel)
theorem nil_is : Float64.decode 0 = .fin false 0 (-1074) ∧ Float64.val 0 = 0 := decIs_out (by decide +kernel)
theorem times400 {x : UInt64} (hx : IsFin x) (h : (Float64.val x).natAbs ≤ 2 ^ 41 * eE) : IsFin (Float64.mul x (Float64.ofInt 400)) ∧ (Float64.val (Float64.mul x (Float64.ofInt 400)) - 400 * Float64.val x).natAbs ≤ eE := by
  obtain ⟨a, m, e, hx⟩ := hx
  obtain ⟨hy, h4⟩ := mul400
  have hr := Float64.mul_right hx hy
  have hv := Float64.val_eq hx
  have hn := Float64.val_natAbs hx
  have hpos : 0 < 2 ^ 1074 := Nat.two_pow_pos _
  rw [h4, Int.natAbs_natCast] at hr
  have hp5 := pow1085
  generalize (2 : Nat) ^ 1074 = K at hr hpos
  generalize (2 : Nat) ^ 1085 = P at hp5
  obtain ⟨hf, R, hR, hd⟩ := right_near hpos (by
    have e1 : (Float64.val x).natAbs * (400 * K) = K * (400 * (Float64.val x).natAbs) := by ac_rfl
    rw [e1]
    refine Nat.mul_lt_mul_of_pos_left ?_ hpos
    rw [pow1085]
    have := K_pos
    omega) hr
  refine ⟨hf, ?_⟩
  rw [hR]
  have e1 : (Float64.val x).natAbs * (400 * K) = K * (400 * (Float64.val x).natAbs) := by ac_rfl
  rw [e1, Float64.dist_mul] at hd
  have hd := Nat.le_of_mul_le_mul_left hd hpos
  rw [hn] at hd
  rw [hv]
  generalize m * 2 ^ (e + 1074).toNat = v at *
  unfold Float64.dist at hd
  unfold Float64.sgn
  cases a
  · simp only [bne_self_eq_false, Bool.false_eq_true, if_false]; omega
  · simp only [show (true != false) = true from rfl, if_true]; omega
theorem trunc_is {x : UInt64} {a : Bool} {m : Nat} {e : Int} (hx : Float64.decode x = .fin a m e) {n : Int} {K : Nat} (hK : (2 : Nat) ^ 1074 = K) (hp : 0 < Float64.val x) (h0 : n * (K : Int) ≤ Float64.val x) (h1 : Float64.val x < (n + 1) * (K : Int)) : Float64.truncOf a m e = n := by
  subst hK
  have hv := Float64.val_eq hx
  have he := Float64.decode_ge hx
  cases a with
  | true =>
    have : Float64.val x ≤ 0 := by rw [hv]; unfold Float64.sgn; simp only [if_true]; omega
    omega
  | false =>
    have hv : Float64.val x = (m : Int) * ((2 ^ (e + 1074).toNat : Nat) : Int) := by rw [hv]; unfold Float64.sgn; simp only [Bool.false_eq_true, if_false]; rw [Int.natCast_mul]
    rw [hv] at h0 h1
    unfold Float64.truncOf Float64.floorOf
    simp only [Bool.false_eq_true, if_false]
    have hs : Float64.sgn false m = (m : Int) := rfl
    rw [hs]
    split
    · next q =>
      have e1 : (e + 1074).toNat = e.toNat + 1074 := by omega
      rw [e1, Nat.pow_add, Int.natCast_mul, ← Int.mul_assoc] at h0 h1
      have hpos : (0 : Int) < ((2 ^ 1074 : Nat) : Int) := Int.ofNat_lt.mpr (Nat.two_pow_pos _)
      have a0 := Int.le_of_mul_le_mul_right h0 hpos
      have a1 := Int.lt_of_mul_lt_mul_right h1 (Int.le_of_lt hpos)
      have e2 : ((2 ^ e.toNat : Nat) : Int) = (2 : Int) ^ e.toNat := by simp
      rw [e2] at a0 a1
      generalize (m : Int) * 2 ^ e.toNat = z at *
      omega
    · next q =>
      have e1 : 1074 = (-e).toNat + (e + 1074).toNat := by omega
      have e3 : ((2 ^ 1074 : Nat) : Int) = ((2 ^ (-e).toNat : Nat) : Int) * ((2 ^ (e + 1074).toNat : Nat) : Int) := by rw [← Int.natCast_mul, ← Nat.pow_add, ← e1]
      rw [e3, ← Int.mul_assoc] at h0 h1
      have hpos : (0 : Int) < ((2 ^ (e + 1074).toNat : Nat) : Int) := Int.ofNat_lt.mpr (Nat.two_pow_pos _)
      have a0 := Int.le_of_mul_le_mul_right h0 hpos
      have a1 := Int.lt_of_mul_lt_mul_right h1 (Int.le_of_lt hpos)
      have hp2 : (0 : Int) < ((2 ^ (-e).toNat : Nat) : Int) := Int.ofNat_lt.mpr (Nat.two_pow_pos _)
      have e2 : ((2 ^ (-e).toNat : Nat) : Int) = (2 : Int) ^ (-e).toNat := by simp
      rw [e2] at a0 a1 hp2
      rw [Int.fdiv_eq_ediv_of_nonneg _ (Int.le_of_lt hp2)]
      have b0 := (Int.le_ediv_iff_mul_le hp2).mpr a0
      have b1 := (Int.ediv_lt_iff_lt_mul hp2).mpr a1
      omega
end
open PySem PySem.W PyProof.Rows
section
open PySem PySem.W PyProof.Rows
set_option maxRecDepth 100000 in
set_option maxHeartbeats 8000000 in
open_top hd for PySem.Challenge.rw_xg0039_01
end
open PySem PySem.W PyProof.Rows
/-- the loose names of the top -/
noncomputable abbrev LZ : List Str := looseW hd.view_39 [Str.ofString "bisect_right", Str.ofString "insort_left", Str.ofString "bisect_left", Str.ofString "IPV4_RE"]
/-- what a call of the def at f does, whoever calls: the ledger `news` becomes a `news'`, the value is `r`, with R -/
def Does (w : World) (mean : ExcName → Option Value) (mg mb : Str → Option Value) (D : Nat) (f : Addr) (news : List (Addr × Obj)) (vs : List Value) {ι : Type} (val : ι → Value) (led : ι → List (Addr × Obj)) (ok : ι → Prop) : Prop :=
  ∀ (dp un : Nat) (gd : Option (List Code)) (cn : Str) (cs : Scope) (a : Addr) (ccd : Value) (cl : List (Str × Addr)) (outer : List Env) (A₀ : Around) (base h₀ : Heap) (L : Addr) (m : Str → Option Value) (s : Shared) (Q E : Value → Shared → Prop),
    Below A₀ base outer h₀ → Fr h₀ L s.heap m → (hd.heap_39 w.params).In h₀ → News h₀ L s.heap news → Top hd.view_39 LZ mean mg mb h₀ → cs.kind = .function → dp + D < recursionLimit → un + 16 * D < cLine →
    (∀ (i : ι) (h' : Heap) (tk' : Nat), Fr h₀ L h' m → News h₀ L h' (led i) → ok i → Q (val i) { s with heap := h', toks := tk' }) →
    wpAny (model PySem.Challenge.rw_xg0039_01.row.prog w) (ktrTop dp un gd cn cs L a ccd cl outer) (call (.ref f) vs) Q E s
theorem does_use {w : World} {mean : ExcName → Option Value} {mg mb : Str → Option Value} {D : Nat} {f : Addr} {news : List (Addr × Obj)} {vs : List Value} {ι : Type} {val : ι → Value} {led : ι → List (Addr × Obj)} {ok : ι → Prop}
    {dp un : Nat} {gd : Option (List Code)} {cn : Str} {cs : Scope} {a : Addr} {ccd : Value} {cl : List (Str × Addr)} {outer : List Env} {A₀ : Around} {base h₀ : Heap} {L : Addr} {m : Str → Option Value} {s : Shared} {Q E : Value → Shared → Prop}
    (B : Below A₀ base outer h₀) (F : Fr h₀ L s.heap m) (X : (hd.heap_39 w.params).In h₀) (N : News h₀ L s.heap news) (T : Top hd.view_39 LZ mean mg mb h₀) (hk : cs.kind = .function) (C : Does w mean mg mb D f news vs val led ok) (hd : dp + D < recursionLimit) (hu : un + 16 * D < cLine)
    (ret : ∀ (i : ι) (h' : Heap) (tk' : Nat), Fr h₀ L h' m → News h₀ L h' (led i) → ok i → Q (val i) { s with heap := h', toks := tk' }) :
    wpAny (model PySem.Challenge.rw_xg0039_01.row.prog w) (ktrTop dp un gd cn cs L a ccd cl outer) (call (.ref f) vs) Q E s := C _ _ _ _ _ _ _ _ _ _ _ _ _ _ _ _ _ B F X N T hk hd hu ret
local macro_rules | `(tactic| k_extra "mine enter") => `(tactic| (refine' code_def ?k1 ?k2 ?k3 ?k4 ?k5 ?kA ?kF ?kK ?k6 ?k7 ?k8 ?k9 ?kB ?_ ?c2 ?c3 ?c4 ?c5; (case kA => exact rfl); (case kF => exact rfl); (case kK => assumption); (case k1 => k_asm); (case k2 => k_asm); (case k3 => k_asm); (case k4 => k_asm); (case k5 => k_asm); (case k6 => k_is); (case k7 => k_is); (case k8 => ktr_room); (case k9 => first | exact BindsTo.of_eq rfl | (refine' kp_binds ?kx ?ke; (case kx => k_in); (case ke => exact fun _ => rfl))); (case c5 => decide); (case kB => exact locs rfl); (case c2 => exact rfl); (case c3 => exact rfl); (case c4 => exact rfl); k_whole; intro g' L' h' FG' F' N' B' X' T'; (try dsimp only); (try k_fold)))
local macro_rules | `(tactic| k_extra "mine open") => `(tactic| (w_top off; unfold Does; k_fill; intro dp un gd cn cs a ccd cl outer A₀ base h₀ L m s Q E B F X N T hk hdp hun))
local macro_rules | `(tactic| k_extra "mine in") => `(tactic| (refine wpAny_call ?_; k_dflt k_extra "mine enter"))
local macro_rules | `(tactic| k_extra "mine step") => `(tactic| first | (k_unfold; (try dsimp only)) | (k_end; wrow_close) | walk1 | (dsimp only; walk1) | (leave1; walk_say "STEP leave1"; try dsimp only))
section
open PySem PySem.W PyProof.Rows
local macro_rules | `(tactic| news_mem) => `(tactic| first | assumption | exact List.Mem.tail _ (by assumption))
local macro_rules | `(tactic| l_fit) => `(tactic| omega)
theorem half_eq {lo hi : Int} (h : 0 ≤ lo) (h' : lo < hi) : (lo + hi).fdiv 2 = (lo + hi) / 2 := by
  rw [Int.fdiv_eq_ediv_of_nonneg]; decide
theorem bl_lt {ns : List Int} {c : Nat} {x lo hi : Int} (hcut : ∀ i : Int, 0 ≤ i → i < ns.length → (ns.getD i.toNat 0 < x ↔ i < c)) (h0 : 0 ≤ lo) (h2 : (c : Int) ≤ hi) (h3 : hi ≤ (ns.length : Int)) (h4 : lo < hi)
    (h : ns.getD ((lo + hi).fdiv 2).toNat 0 < x) : 0 ≤ (lo + hi).fdiv 2 + 1 ∧ (lo + hi).fdiv 2 + 1 ≤ c ∧ (c : Int) ≤ hi ∧ hi ≤ (ns.length : Int) := by
  have e := half_eq h0 h4
  rw [e] at h ⊢
  have := (hcut ((lo + hi) / 2) (by omega) (by omega)).mp h
  omega
theorem bl_ge {ns : List Int} {c : Nat} {x lo hi : Int} (hcut : ∀ i : Int, 0 ≤ i → i < ns.length → (ns.getD i.toNat 0 < x ↔ i < c)) (h0 : 0 ≤ lo) (h1 : lo ≤ c) (h3 : hi ≤ (ns.length : Int)) (h4 : lo < hi)
    (h : ¬ ns.getD ((lo + hi).fdiv 2).toNat 0 < x) : 0 ≤ lo ∧ lo ≤ c ∧ (c : Int) ≤ (lo + hi).fdiv 2 ∧ (lo + hi).fdiv 2 ≤ (ns.length : Int) := by
  have e := half_eq h0 h4
  rw [e] at h ⊢
  have := Int.not_lt.mp fun q => h ((hcut ((lo + hi) / 2) (by omega) (by omega)).mpr q)
  omega
theorem m_lt {lo hi : Int} (h0 : 0 ≤ lo) (h4 : lo < hi) : (hi - ((lo + hi).fdiv 2 + 1)).toNat < (hi - lo).toNat := by
  rw [half_eq h0 h4]; omega
theorem m_ge {lo hi : Int} (h0 : 0 ≤ lo) (h4 : lo < hi) : ((lo + hi).fdiv 2 - lo).toNat < (hi - lo).toNat := by
  rw [half_eq h0 h4]; omega
theorem ret_int {h₀ h' : Heap} {L : Addr} {m : Str → Option Value} {s : Shared} {Q : Value → Shared → Prop} {tk' : Nat} {c y : Int} {t : Tok} {led : Tok → List (Addr × Obj)} {ok : Tok → Prop} (e : y = c)
    (hret : ∀ (i : Tok) (h' : Heap) (tk' : Nat), Fr h₀ L h' m → News h₀ L h' (led i) → ok i → Q (.int c i) { s with heap := h', toks := tk' }) (F : Fr h₀ L h' m) (N : News h₀ L h' (led t)) (o : ok t) : Q (.int y t) { s with heap := h', toks := tk' } := by
  subst e; exact hret _ _ _ F N o
theorem br_lt {ns : List Int} {c : Nat} {x lo hi : Int} (hcut : ∀ i : Int, 0 ≤ i → i < ns.length → (x < ns.getD i.toNat 0 ↔ c ≤ i)) (h0 : 0 ≤ lo) (h1 : lo ≤ c) (h3 : hi ≤ (ns.length : Int)) (h4 : lo < hi)
    (h : x < ns.getD ((lo + hi).fdiv 2).toNat 0) : 0 ≤ lo ∧ lo ≤ c ∧ (c : Int) ≤ (lo + hi).fdiv 2 ∧ (lo + hi).fdiv 2 ≤ (ns.length : Int) := by
  have e := half_eq h0 h4
  rw [e] at h ⊢
  have := (hcut ((lo + hi) / 2) (by omega) (by omega)).mp h
  omega
theorem br_ge {ns : List Int} {c : Nat} {x lo hi : Int} (hcut : ∀ i : Int, 0 ≤ i → i < ns.length → (x < ns.getD i.toNat 0 ↔ c ≤ i)) (h0 : 0 ≤ lo) (h2 : (c : Int) ≤ hi) (h3 : hi ≤ (ns.length : Int)) (h4 : lo < hi)
    (h : ¬ x < ns.getD ((lo + hi).fdiv 2).toNat 0) : 0 ≤ (lo + hi).fdiv 2 + 1 ∧ (lo + hi).fdiv 2 + 1 ≤ c ∧ (c : Int) ≤ hi ∧ hi ≤ (ns.length : Int) := by
  have e := half_eq h0 h4
  rw [e] at h ⊢
  have := Int.not_le.mp fun q => h ((hcut ((lo + hi) / 2) (by omega) (by omega)).mpr q)
  omega
set_option maxRecDepth 100000 in
set_option maxHeartbeats 4000000 in
theorem bl_does {w : World} {mean : ExcName → Option Value} {mg mb : Str → Option Value} {news : List (Addr × Obj)} {l : Addr} {vs : List Value} {ns : List Int} {n c : Nat} {x : Int} {t tl : Tok}
    (hm : (l, listOf vs.toArray n) ∈ news) (hi : IntsAre vs ns) (hfit : ns.length < 64) (hc : c ≤ ns.length)
    (hcut : ∀ i : Int, 0 ≤ i → i < ns.length → (ns.getD i.toNat 0 < x ↔ i < c)) :
    Does w mean mg mb 1 72 news [.ref l, .int x t, .int 0 tl, .none] (fun t' : Tok => .int c t') (fun _ => news) (fun _ => True) := by
  (k_with "exec While Compare cons nil" => k_while (fun (_ : List Int) lo hi => 0 ≤ lo ∧ lo ≤ c ∧ (c : Int) ≤ hi ∧ hi ≤ (ns.length : Int)) (fun (_ : List Int) lo hi => (hi - lo).toNat) "lo" "hi")
  (k_with "state" => first | exact bl_lt hcut (by assumption) (by assumption) (by assumption) (by assumption) (by assumption) | exact bl_ge hcut (by assumption) (by assumption) (by assumption) (by assumption) (by assumption) | omega)
  (k_with "measure" => first | exact m_lt (by assumption) (by assumption) | exact m_ge (by assumption) (by assumption))
  k_extra "mine open"
  intro hret
  k_extra "mine in"
  k_steps
  all_goals (refine ret_int ?_ hret (by assumption) (by assumption) trivial; omega)
set_option maxRecDepth 100000 in
set_option maxHeartbeats 4000000 in
theorem bl2_does {w : World} {mean : ExcName → Option Value} {mg mb : Str → Option Value} {news : List (Addr × Obj)} {l : Addr} {vs : List Value} {ns : List Int} {n c : Nat} {x : Int} {t : Tok}
    (hm : (l, listOf vs.toArray n) ∈ news) (hi : IntsAre vs ns) (hfit : ns.length < 64) (hc : c ≤ ns.length)
    (hcut : ∀ i : Int, 0 ≤ i → i < ns.length → (ns.getD i.toNat 0 < x ↔ i < c)) :
    Does w mean mg mb 1 72 news [.ref l, .int x t] (fun t' : Tok => .int c t') (fun _ => news) (fun _ => True) := by
  (k_with "exec While Compare cons nil" => k_while (fun (_ : List Int) lo hi => 0 ≤ lo ∧ lo ≤ c ∧ (c : Int) ≤ hi ∧ hi ≤ (ns.length : Int)) (fun (_ : List Int) lo hi => (hi - lo).toNat) "lo" "hi")
  (k_with "state" => first | exact bl_lt hcut (by assumption) (by assumption) (by assumption) (by assumption) (by assumption) | exact bl_ge hcut (by assumption) (by assumption) (by assumption) (by assumption) (by assumption) | omega)
  (k_with "measure" => first | exact m_lt (by assumption) (by assumption) | exact m_ge (by assumption) (by assumption))
  k_extra "mine open"
  intro hret
  k_extra "mine in"
  k_steps
  all_goals (refine ret_int ?_ hret (by assumption) (by assumption) trivial; omega)
set_option maxRecDepth 100000 in
set_option maxHeartbeats 4000000 in
theorem br2_does {w : World} {mean : ExcName → Option Value} {mg mb : Str → Option Value} {news : List (Addr × Obj)} {l : Addr} {vs : List Value} {ns : List Int} {n c : Nat} {x : Int} {t : Tok}
    (hm : (l, listOf vs.toArray n) ∈ news) (hi : IntsAre vs ns) (hfit : ns.length < 64) (hc : c ≤ ns.length)
    (hcut : ∀ i : Int, 0 ≤ i → i < ns.length → (x < ns.getD i.toNat 0 ↔ c ≤ i)) :
    Does w mean mg mb 1 54 news [.ref l, .int x t] (fun t' : Tok => .int c t') (fun _ => news) (fun _ => True) := by
  (k_with "exec While Compare cons nil" => k_while (fun (_ : List Int) lo hi => 0 ≤ lo ∧ lo ≤ c ∧ (c : Int) ≤ hi ∧ hi ≤ (ns.length : Int)) (fun (_ : List Int) lo hi => (hi - lo).toNat) "lo" "hi")
  (k_with "state" => first | exact br_ge hcut (by assumption) (by assumption) (by assumption) (by assumption) (by assumption) | exact br_lt hcut (by assumption) (by assumption) (by assumption) (by assumption) (by assumption) | omega)
  (k_with "measure" => first | exact m_lt (by assumption) (by assumption) | exact m_ge (by assumption) (by assumption))
  k_extra "mine open"
  intro hret
  k_extra "mine in"
  k_steps
  all_goals (refine ret_int ?_ hret (by assumption) (by assumption) trivial; omega)
end
section
open PySem PySem.W PyProof.Rows
local macro_rules | `(tactic| news_mem) => `(tactic| first | assumption | exact List.Mem.tail _ (by assumption))
local macro_rules | `(tactic| k_mem) => `(tactic| first | assumption | exact List.Mem.tail _ (by assumption))
local macro_rules | `(tactic| l_fit) => `(tactic| omega)
theorem upd_mem {D : Addr} {o o' : Obj} {news news' : List (Addr × Obj)} (U : Upd D o o' news news') : (D, o) ∈ news := by
  obtain ⟨pre, post, rfl, rfl, _, _⟩ := U.split; simp
theorem upd_mem' {D : Addr} {o o' : Obj} {news news' : List (Addr × Obj)} (U : Upd D o o' news news') : (D, o') ∈ news' := by
  obtain ⟨pre, post, rfl, rfl, _, _⟩ := U.split; simp
theorem kl_ins_nat (l : List Value) (c : Nat) (h : c ≤ l.length) (y : Value) : kl_ins l c y = l.take c ++ y :: l.drop c := by
  unfold kl_ins
  have : ¬ ((c : Int) < 0) := by omega
  rw [if_neg this]
  have : min (c : Int).toNat l.length = c := by simp; omega
  rw [this]
theorem ints_ins (c : Nat) {vs : List Value} {ns : List Int} {x : Int} {t : Tok} (h : IntsAre vs ns) : IntsAre (vs.take c ++ .int x t :: vs.drop c) (ns.take c ++ x :: ns.drop c) := by
  induction c generalizing vs ns with
  | zero => simpa using IntsAre.cons x t h
  | succ k ih =>
    cases h with
    | nil => simpa using IntsAre.cons x t IntsAre.nil
    | cons i t' h => simpa using IntsAre.cons i t' (ih h)
local macro_rules | `(tactic| k_upd) => `(tactic| assumption)
local macro_rules | `(tactic| walk_at "call ref") => `(tactic| ((k_here; k_dflt (refine' does_use ?k1 ?k2 ?k3 ?k4 ?k5 ?kK ?C ?kd ?ku ?_; (case k1 => k_asm); (case k2 => k_asm); (case k3 => k_asm); (case k4 => k_asm); (case k5 => k_asm); (case kK => first | exact rfl | assumption); (case C => exact (bl_does (by assumption) (by assumption) (by assumption) (by assumption) (by assumption))); (case kd => ktr_room); (case ku => ktr_units); k_whole)); intro t' h' tk' F' N' _; (try dsimp only at N' ⊢); (try k_fold)))
local macro_rules | `(tactic| walk_at "call builtin:list.insert") => `(tactic| (k_here; k_dflt (refine' kl_insert ?F ?N ?f ?e ?U ?z ?_; (case F => k_asm); (case N => k_asm); (case U => with_reducible assumption); (case f => with_reducible assumption); (case e => with_reducible assumption); (case z => with_reducible assumption)); intro h' F' N'; (try k_sweep)))
set_option maxRecDepth 100000 in
set_option maxHeartbeats 4000000 in
theorem il_does {w : World} {mean : ExcName → Option Value} {mg mb : Str → Option Value} {news news' : List (Addr × Obj)} {D : Addr} {vs : List Value} {ns : List Int} {n c : Nat} {x : Int} {t : Tok}
    (U : Upd D (listOf vs.toArray n) (listOf (vs.take c ++ .int x t :: vs.drop c).toArray (n + 1)) news news') (hi : IntsAre vs ns) (hfit : ns.length < 64) (hc : c ≤ ns.length)
    (hcut : ∀ i : Int, 0 ≤ i → i < ns.length → (ns.getD i.toNat 0 < x ↔ i < c)) :
    Does w mean mg mb 2 63 news [.ref D, .int x t] (fun _ : Unit => .none) (fun _ => news') (fun _ => IntsAre (vs.take c ++ .int x t :: vs.drop c) (ns.take c ++ x :: ns.drop c)) := by
  have hm := upd_mem U
  have hl := hi.length
  have hk9 : kl_ins vs.toArray.toList c (.int x t) = vs.take c ++ .int x t :: vs.drop c := kl_ins_nat _ _ (by simp; omega) _
  have hfits : Builtin.List.listFitsIndex (c : Int) = true := by unfold Builtin.List.listFitsIndex; simp; omega
  have hz9 : vs.toArray.toList.length ≤ sizeLine := by rw [PySem.sizeLine_eq]; simp; omega
  k_extra "mine open"
  intro hret
  k_extra "mine in"
  k_steps
  trace_state
  all_goals exact hret () _ _ (by assumption) (by assumption) (ints_ins _ hi)
end
section
open PySem PySem.W PyProof.Rows
local macro_rules | `(tactic| news_mem) => `(tactic| first | assumption | exact List.Mem.tail _ (by assumption))
local macro_rules | `(tactic| k_mem) => `(tactic| first | assumption | exact List.Mem.tail _ (by assumption))
local macro_rules | `(tactic| l_fit) => `(tactic| first | omega | ((rename (_ = isort _) => hE9); subst hE9; omega))
local macro_rules | `(tactic| l_idx) => `(tactic| first | omega | ((rename (_ = isort _) => hE9); subst hE9; (rw [Int.fdiv_eq_ediv_of_nonneg _ (by decide)]; omega)))
theorem mem_m {α : Type} {a : α} {l : List α} (h : a ∈ l) : List.Mem a l := h
local macro_rules | `(tactic| k_memK) => `(tactic| (refine mem_m ?_; assumption))
theorem mid_fit {ns pre post : List Int} {n : Int} (h : ns = pre ++ n :: post) (hf : ns.length < 64) : (isort pre).length < 64 := by
  rw [isort_length]; subst h; simp at hf; omega
theorem mid_end (ns : List Int) (h : 0 < ns.length) : (isort ns).getD (((((isort ns).length : Nat) : Int) - 1).fdiv 2).toNat 0 = med ns := by
  unfold med
  rw [isort_length, Int.fdiv_eq_ediv_of_nonneg _ (by decide)]
  congr 1
  omega
theorem all_ne {l : Addr} {news own : List (Addr × Obj)} (l1 : ∀ p ∈ news, p.1 < l) (ho : OwnOff own (l :: news.map (·.1))) : ∀ p ∈ news ++ own, p.1 ≠ l := by
  intro p hp
  rcases List.mem_append.mp hp with h | h
  · exact Nat.ne_of_lt (l1 p h)
  · exact OwnOff.ne ho (.head _) p h
local macro_rules | `(tactic| k_upd) => `(tactic| exact Upd.head (all_ne (by assumption) (by assumption)))
local macro_rules | `(tactic| walk_at "call ref") => `(tactic| ((rename (_ = isort _) => hE9); subst hE9; (k_here; k_dflt (refine' does_use ?k1 ?k2 ?k3 ?k4 ?k5 ?kK ?C ?kd ?ku ?_; (case k1 => k_asm); (case k2 => k_asm); (case k3 => k_asm); (case k4 => k_asm); (case k5 => k_asm); (case kK => first | exact rfl | assumption); (case C => exact (il_does (c := below _ (isort _)) (by k_upd) (by assumption) (mid_fit (by assumption) (by assumption)) (below_le _ _) (cut_int (isort_sorted _)))); (case kd => ktr_room); (case ku => ktr_units); k_whole)); intro _ h' tk' F' N' hI9; (try dsimp only at N' hI9 ⊢); (try k_fold)))
set_option maxRecDepth 100000 in
set_option maxHeartbeats 4000000 in
theorem mid_does {w : World} {mean : ExcName → Option Value} {mg mb : Str → Option Value} {news : List (Addr × Obj)} {l : Addr} {vs : List Value} {ns : List Int} {n : Nat}
    (hm : (l, listOf vs.toArray n) ∈ news) (hi : IntsAre vs ns) (hfit : ns.length < 64) (hne : ns ≠ []) :
    Does w mean mg mb 3 105 news [.ref l] (fun t' : Tok => .int (med ns) t') (fun _ => news) (fun _ => True) := by
  (k_with "pyIter ref" => k_state (fun pre out => out = isort pre) "order")
  (k_with "state" => exact (isort_snoc _ _).symm)
  have hsl := isort_length ns
  have hpos : 0 < ns.length := List.length_pos_iff.mpr hne
  k_extra "mine open"
  intro hret
  k_extra "mine in"
  k_steps
  all_goals ((rename (_ = isort _) => hE9); subst hE9; refine ret_int (mid_end ns hpos) hret (by assumption) (cb_drop (by assumption) fun _ h => .tail _ h) trivial)
end
section
open PySem PySem.W PyProof.Rows
local macro_rules | `(tactic| news_mem) => `(tactic| first | assumption | exact List.Mem.tail _ (by assumption))
local macro_rules | `(tactic| k_mem) => `(tactic| first | assumption | exact List.Mem.tail _ (by assumption))
local macro_rules | `(tactic| k_memK) => `(tactic| (refine mem_m ?_; assumption))
local macro_rules | `(tactic| l_fit) => `(tactic| omega)
local macro_rules | `(tactic| l_idx) => `(tactic| omega)
local macro_rules | `(tactic| walk_at "pyIter ref") => `(tactic| (kst_has; k_dflt (k_extra "pyIter ref")))
local macro_rules | `(tactic| walk_at "exec For Name Call cons nil") => `(tactic| (k_here; (rename Fr _ _ _ _ => lF'); (with_unfolding_all refine' For_invVF lF' ?k1 ?k2 ?_; (case k1 => exact rfl); (case k2 => exact rfl); k_whole)))
set_option maxRecDepth 100000 in
set_option maxHeartbeats 4000000 in
theorem low_does {w : World} {mean : ExcName → Option Value} {mg mb : Str → Option Value} {news : List (Addr × Obj)} {l : Addr} {vs : List Value} {ns : List Int} {n : Nat} {c : Int} {t : Tok}
    (hm : (l, listOf vs.toArray n) ∈ news) (hi : IntsAre vs ns) (hfit : ns.length < 64) :
    Does w mean mg mb 3 126 news [.ref l, .int c t] (fun t' : Tok => .int (lowest ns c) t') (fun _ => news) (fun _ => True) := by
  (k_with "pyIter ref" => k_state (fun pre total low place => CntIs ns c pre.length total low place) "total" "low" "place")
  (k_with "state" => first | exact cntIs_zero _ _ | exact cnt_ll (by assumption) (by assumption) (by assumption) (by assumption) (by assumption) | exact cnt_lg (by assumption) (by assumption) (by assumption) (by assumption) (by assumption) | exact cnt_gl (by assumption) (by assumption) (by assumption) (by assumption) (by assumption) | exact cnt_gg (by assumption) (by assumption) (by assumption) (by assumption) (by assumption))
  k_extra "mine open"
  intro hret
  k_extra "mine in"
  k_steps
  all_goals ((rename (CntIs _ _ _ _ _ _) => hE9); rw [rangeKs_length] at hE9; refine ret_int (cnt_end hE9) hret (by assumption) (by assumption) trivial)
end
section
open PySem PySem.W PyProof.Rows PySem.Calls
section
variable {pg : Program} {w : World} {A : Around} {E : Value → Shared → Prop} {s : Shared} {env : Env} {h₀ : Heap} {x : Str} {body : List Stmt} {Q : Flow → Shared → Prop}
/-- the end of a turn of a loop whose ledger may grow -/
def GrowEnd (h₀ : Heap) (L I : Addr) (oI : Obj) (J : (Str → Option Value) → List (Addr × Obj) → Prop) (s₁ s₂ : Shared) : Prop :=
  ∃ h' tk m' news' nx, s₂ = { s₁ with heap := h', toks := tk } ∧ Fr h₀ L h' m' ∧ News h₀ L h' news' ∧ (I, oI) ∈ news' ∧ (∀ p ∈ nx, p ∈ news') ∧ (∀ p ∈ nx, p.1 ≠ I) ∧ J m' nx
def GrowPost (h₀ : Heap) (L I : Addr) (oI : Obj) (J : (Str → Option Value) → List (Addr × Obj) → Prop) (s₁ : Shared) (Q : Flow → Shared → Prop) (f : Flow) (s₂ : Shared) : Prop :=
  match f with
  | .ret v => Q (.ret v) s₂
  | .brk => Q .next s₂
  | _ => GrowEnd h₀ L I oI J s₁ s₂
theorem loop_grow {I : Addr} {fp : List Addr} {n : Nat} {P : Nat → Value → Prop} {St : Nat → Heap → Prop} {m₀ : Str → Option Value} {news : List (Addr × Obj)} (J : Nat → (Str → Option Value) → List (Addr × Obj) → Prop)
    (W : Walks pg w A I fp [I] n P St) (hLf : env.locals ∉ fp) (hI : h₀.get? I = none) (hnw : ∀ p ∈ news, p.1 ≠ I) (hst : St 0 s.heap) (F : Fr h₀ env.locals s.heap m₀) (N : News h₀ env.locals s.heap news) (hj : J 0 m₀ news)
    (live : ∀ i h, St i h → ∃ o, h.get? I = some o)
    (cover : ∀ i m nx h p, J i m nx → News h₀ env.locals h nx → p.1 ∈ fp → p.1 ≠ I → h.get? p.1 = some p.2 → h₀.get? p.1 = some p.2 ∨ ∀ i' m' nx', J i' m' nx' → p ∈ nx')
    (turn : ∀ i v m₁ news₁ h tk oI, i < n → P i v → (∀ p ∈ news₁, p.1 ≠ I) → J i m₁ news₁ → Fr h₀ env.locals h (fun y => if y = x then some v else m₁ y) → News h₀ env.locals h ((I, oI) :: news₁) →
      wpAny (model pg w) A (execs body env) (GrowPost h₀ env.locals I oI (J (i + 1)) { s with heap := h, toks := tk } Q) E { s with heap := h, toks := tk })
    (done : ∀ m₁ news₁ h tk, J n m₁ news₁ → Fr h₀ env.locals h m₁ → News h₀ env.locals h news₁ → Q .next { s with heap := h, toks := tk }) :
    LoopAtV pg w A h₀ env x body Q E (.ref I) s := by
  refine ⟨I, fp, [I], n, P, St, m₀, news, J, rfl, W, hLf, (fun b hb => (List.mem_singleton.mp hb) ▸ hI), (fun p hp hb => hnw p hp (List.mem_singleton.mp hb)), hst, F, N, hj, ?_, ?_⟩
  · rintro i v m₁ news₁ s₁ own ⟨hh', tk', rfl⟩ hin hP hJ hoff hown hget hall hSt F₁ N₁
    obtain ⟨oI, hoI⟩ := live _ _ hSt
    have hIfp : I ∈ fp := W.sub I (.head _)
    have hIown : (I, oI) ∈ own := hall I hIfp hI oI hoI
    have hne : ∀ p ∈ news₁, p.1 ≠ I := fun p hp e => hoff p hp (e ▸ .head _)
    have N₂ : News h₀ env.locals hh' ((I, oI) :: news₁) := fun p hp => by
      rcases List.mem_cons.mp hp with rfl | hp
      · exact N₁ _ (List.mem_append_left _ hIown)
      · exact N₁ p (List.mem_append_right _ hp)
    have N₃ : News h₀ env.locals hh' news₁ := fun p hp => N₂ p (.tail _ hp)
    refine wpAny_mono (turn i v m₁ news₁ hh' tk' oI hin hP hne hJ F₁ N₂) (fun f s₂ p => ?_) fun _ _ e => e
    have fin : GrowEnd h₀ env.locals I oI (J (i + 1)) { s with heap := hh', toks := tk' } s₂ → LoopStepU h₀ env.locals [I] own (J (i + 1)) { s with heap := hh', toks := tk' } .next s₂ := by
      rintro ⟨h', tk, m', news', nx, e, F', N', hn, hsub, ho, hm⟩
      refine ⟨rfl, h', tk, m', nx, e, F', fun p hp => ?_, fun p hp hq => ho p hp (List.mem_singleton.mp hq), hm⟩
      rcases List.mem_append.mp hp with h1 | h1
      · by_cases hpI : p.1 = I
        · have h2 := hget p h1
          have : p = (I, oI) := by
            obtain ⟨a, o⟩ := p
            simp only at hpI h2
            subst hpI
            rw [hoI] at h2
            cases h2; rfl
          rw [this]; exact N' _ hn
        · rcases cover i m₁ news₁ hh' p hJ N₃ (hown p h1) hpI (hget p h1) with h3 | h3
          · have h4 := N₁ p (List.mem_append_left _ h1)
            rw [h3] at h4
            cases h4.2.2
          · exact N' p (hsub p (h3 _ _ _ hm))
      · exact N' p (hsub p h1)
    cases f with
    | ret v => exact .ret p
    | brk => exact .brk p
    | next => exact .next (fin p)
    | cont => exact .cont (fin p)
  · rintro h' tk m' news' F' N' _ hJ
    exact done m' news' h' tk hJ F' N'

/-- the word of a loop: as the library's KstS, over a datum c -/
theorem grow_range {σ : Type} {r : Addr} {a₀ b₀ : Int} {t₀ u₀ v₀ : Tok} {n : Nat} {m₀ : Str → Option Value} (Led : σ → List (Addr × Obj)) (ps : σ → List (Str × Value)) (Facts : σ → Prop) (stored : List Str) (P : Nat → σ → Prop) (c₀ : σ)
    (hh : A.handled = none) (hr : IsRange s.heap r a₀ b₀ 1 t₀ u₀ v₀) (hsmall : Builtin.Range.small a₀ b₀ 1 = true) (hn : Builtin.Range.rangeSize a₀ b₀ 1 = (n : Int)) (F : Fr h₀ env.locals s.heap m₀) (N : News h₀ env.locals s.heap (Led c₀)) (hf : Facts c₀) (hk : ∀ p ∈ ps c₀, m₀ p.1 = some p.2) (hp : P 0 c₀)
    (turn : ∀ (c : σ) (i : Nat) (k : Int) t (u : Str → Option Value) h tk I oI, k = a₀ + (i : Int) → i < n → (∀ p ∈ Led c, p.1 ≠ I) → Facts c → P i c →
      Fr h₀ env.locals h (fun y => if y = x then some (.int k t) else kstB (fun z => if stored.contains z then u z else m₀ z) (ps c) y) → News h₀ env.locals h ((I, oI) :: Led c) →
      wpAny (model pg w) A (execs body env) (GrowPost h₀ env.locals I oI (fun m nx => KstS Led ps Facts x stored m₀ (fun pre c => P (i + 1) c) [] m nx) { s with heap := h, toks := tk } Q) E { s with heap := h, toks := tk })
    (done : ∀ (c : σ) (u : Str → Option Value) h tk, Facts c → P n c → Fr h₀ env.locals h (fun y => if y = x then u y else kstB (fun z => if stored.contains z then u z else m₀ z) (ps c) y) → News h₀ env.locals h (Led c) → Q .next { s with heap := h, toks := tk }) :
    wpAny (model pg w) A (pyIter (.ref r)) (fun it s₂ => LoopAtV pg w A h₀ env x body Q E it s₂) E s := by
  refine wpAny_pyIter_range hr hsmall ?_
  have W : Walks pg w A s.heap.objs.size [s.heap.objs.size] [s.heap.objs.size] n (fun i v => i < n ∧ ∃ t, v = .int (a₀ + i * 1) t)
      (fun i h => IsRangeIter h s.heap.objs.size (a₀ + (i : Nat) * 1) ((n : Int) - (i : Nat)) 1) := (Walks.range hh _ a₀ 1 n).bound
  refine loop_grow (fun i m nx => KstS Led ps Facts x stored m₀ (fun _ c => P i c) [] m nx) W ?_ ?_ ?_ (by show IsRangeIter _ _ _ _ _; rw [hn]; simpa using Heap.get?_push_size _ rfl) (F.push _) (fun p hp => ⟨Heap.get?_push_of_some _ (N p hp).1, (N p hp).2⟩) ⟨c₀, rfl, hf, hk, fun _ _ _ _ => rfl, hp⟩ ?_ ?_ ?_ ?_
  · intro hm
    exact absurd F.ns.lt ((List.mem_singleton.mp hm) ▸ Nat.lt_irrefl _)
  · exact next_is_new F
  · intro p hp hI
    exact absurd (Heap.lt_size (N p hp).1) (hI ▸ Nat.lt_irrefl _)
  · intro i h hs
    exact ⟨_, hs⟩
  · intro i m nx h p _ _ hfp hpI _
    exact absurd (List.mem_singleton.mp hfp) hpI
  · rintro i v m₁ nx h tk oI hi ⟨_, t, rfl⟩ hne ⟨c, rfl, hf', h1, h2, hp'⟩ F₁ N₁
    have e1 : a₀ + (i : Int) * 1 = a₀ + (i : Int) := by omega
    rw [e1] at F₁
    exact turn c i _ t m₁ h tk _ oI rfl hi hne hf' hp' (kst_fr h1 h2 F₁) N₁
  · rintro m₁ nx h tk ⟨c, rfl, hf', h1, h2, hp'⟩ F₁ N₁
    exact done c m₁ h tk hf' hp' (kst_frOut h1 h2 F₁) N₁

theorem grow_list {σ : Type} {l : Addr} {vs : List Value} {nn : Nat} {m₀ : Str → Option Value} (Led : σ → List (Addr × Obj)) (ps : σ → List (Str × Value)) (Facts : σ → Prop) (stored : List Str) (P : Nat → σ → Prop) (c₀ : σ)
    (hh : A.handled = none) (hl : ∀ c : σ, (l, listOf vs.toArray nn) ∈ Led c) (F : Fr h₀ env.locals s.heap m₀) (N : News h₀ env.locals s.heap (Led c₀)) (hf : Facts c₀) (hk : ∀ p ∈ ps c₀, m₀ p.1 = some p.2) (hp : P 0 c₀)
    (turn : ∀ (c : σ) (i : Nat) (v : Value) (u : Str → Option Value) h tk I oI, vs[i]? = some v → i < vs.length → (∀ p ∈ Led c, p.1 ≠ I) → Facts c → P i c →
      Fr h₀ env.locals h (fun y => if y = x then some v else kstB (fun z => if stored.contains z then u z else m₀ z) (ps c) y) → News h₀ env.locals h ((I, oI) :: Led c) →
      wpAny (model pg w) A (execs body env) (GrowPost h₀ env.locals I oI (fun m nx => KstS Led ps Facts x stored m₀ (fun pre c => P (i + 1) c) [] m nx) { s with heap := h, toks := tk } Q) E { s with heap := h, toks := tk })
    (done : ∀ (c : σ) (u : Str → Option Value) h tk, Facts c → P vs.length c → Fr h₀ env.locals h (fun y => if y = x then u y else kstB (fun z => if stored.contains z then u z else m₀ z) (ps c) y) → News h₀ env.locals h (Led c) → Q .next { s with heap := h, toks := tk }) :
    wpAny (model pg w) A (pyIter (.ref l)) (fun it s₂ => LoopAtV pg w A h₀ env x body Q E it s₂) E s := by
  have hm₀ := hl c₀
  have hol : s.heap.get? l = some (listOf vs.toArray nn) := (N _ hm₀).1
  have hls : s.heap.IsList l vs.toArray := ⟨_, hol, rfl, nn, rfl⟩
  have hne : l ≠ s.heap.objs.size := Nat.ne_of_lt (Heap.lt_size hol)
  refine wpAny_pyIter_list hls ?_
  have W := Walks.list (prog := pg) (w := w) hh s.heap.objs.size l hne vs.toArray
  rw [List.size_toArray] at W
  refine loop_grow (fun i m nx => KstS Led ps Facts x stored m₀ (fun _ c => P i c) [] m nx) W ?_ ?_ ?_ ⟨⟨_, Heap.get?_push_size _ rfl, rfl, rfl⟩, hls.at fun o e => Heap.get?_push_of_some _ e⟩ (F.push _) (fun p hp => ⟨Heap.get?_push_of_some _ (N p hp).1, (N p hp).2⟩) ⟨c₀, rfl, hf, hk, fun _ _ _ _ => rfl, hp⟩ ?_ ?_ ?_ ?_
  · intro hm
    rcases List.mem_cons.mp hm with e | hm
    · exact absurd F.ns.lt (e ▸ Nat.lt_irrefl _)
    · exact (N _ hm₀).2.1 ((List.mem_singleton.mp hm).symm)
  · exact next_is_new F
  · intro p hp hI
    exact absurd (Heap.lt_size (N p hp).1) (hI ▸ Nat.lt_irrefl _)
  · intro i h hs
    obtain ⟨⟨o, ho, _⟩, _⟩ := hs
    exact ⟨o, ho⟩
  · rintro i m nx h p ⟨c, rfl, _⟩ N₁ hfp hpI hg
    refine .inr ?_
    rintro i' m' nx' ⟨c', rfl, _⟩
    have hpl : p.1 = l := by
      rcases List.mem_cons.mp hfp with e | e
      · exact absurd e hpI
      · exact List.mem_singleton.mp e
    obtain ⟨a, o⟩ := p
    simp only at hpl hg
    subst hpl
    have h3 := (N₁ _ (hl c)).1
    simp only at h3
    rw [h3] at hg
    cases hg
    exact hl c'
  · rintro i v m₁ nx h tk oI hi hP hne ⟨c, rfl, hf', h1, h2, hp'⟩ F₁ N₁
    have hP' : vs[i]? = some v := by simpa using hP
    exact turn c i v m₁ h tk _ oI hP' hi hne hf' hp' (kst_fr h1 h2 F₁) N₁
  · rintro m₁ nx h tk ⟨c, rfl, hf', h1, h2, hp'⟩ F₁ N₁
    exact done c m₁ h tk hf' hp' (kst_frOut h1 h2 F₁) N₁
theorem grow_end {σ : Type} {Led : σ → List (Addr × Obj)} {ps : σ → List (Str × Value)} {Facts : σ → Prop} {stored : List Str} {m₀ : Str → Option Value} {P : List Int → σ → Prop} (c : σ) {L I : Addr} {oI : Obj} {m' : Str → Option Value} {news' : List (Addr × Obj)} {s₁ : Shared} {h' : Heap} {tk : Nat}
    (F : Fr h₀ L h' m') (N : News h₀ L h' news') (hI : (I, oI) ∈ news') (hn : ∀ p ∈ Led c, p ∈ news') (ho : ∀ p ∈ Led c, p.1 ≠ I) (hf : Facts c) (hk : ∀ p ∈ ps c, m' p.1 = some p.2) (hr : ∀ z, z ≠ x → (∀ p ∈ ps c, z ≠ p.1) → stored.contains z = false → m' z = m₀ z) (hp : P [] c) :
    GrowEnd h₀ L I oI (fun m nx => KstS Led ps Facts x stored m₀ P [] m nx) s₁ { s₁ with heap := h', toks := tk } :=
  ⟨h', tk, m', news', Led c, rfl, F, N, hI, hn, ho, c, rfl, hf, hk, hr, hp⟩
end
end
section
open PySem PySem.W PyProof.Rows PySem.Builtin.Re
set_option maxRecDepth 100000
def reCode : Array Nat := #[14, 8, 1, 2, 4294967295, 1, 1, 46, 0, 16, 46, 24, 9, 1, 4294967295, 13, 4, 8, 0, 0, 1, 6, 5, 1]
def sreSays (S : Setting) (R : Str) : Option (Option (Nat × Nat × Int)) := (peek [] S (reRunToEnd (Sre.forSearch reCode R.cps 0 0 R.cps.size false))).map (·.map fun m => (m.start, m.handed, m.lastindex))
end
section
open PySem PySem.W PyProof.Rows PySem.Builtin.Re
set_option maxRecDepth 100000
theorem plainAttrs_pattern : PlainAttrs "re.Pattern" :=
  ⟨⟨"object.__getattribute__", by rw [typeLookup_type, builtinLookup_eq_fast]; kernel_rfl, by decide +kernel⟩, by rw [typeLookup_type, builtinLookup_eq_fast]; kernel_rfl⟩
theorem slot_search : Slot "re.Pattern" "search" "re.Pattern.search" :=
  .of (owner := "re.Pattern") (n := "search") (by rw [typeLookup_type, builtinLookup_eq_fast]; kernel_rfl) (by decide +kernel) (by decide +kernel) (by decide +kernel)
    (by first | exact .inl (by decide +kernel) | exact .inr (by decide +kernel)) (by rw [isSubtype_type]; kernel_rfl)
theorem type_search : typeOf (.builtin "re.Pattern.search") = pure (.type "method_descriptor") := by show builtinType _ = _; rw [builtinType_eq_fast]; kernel_rfl
theorem entry_search : entryFor table "re.Pattern.search" = some Builtin.«re.Pattern.search» := entryFor_of_tree (by kernel_rfl)
theorem args_search (a b : Value) : argsOk "re.Pattern.search" ⟨[a, b], []⟩ := by unfold argsOk; kernel_rfl
theorem plainAttrs_match : PlainAttrs "re.Match" :=
  ⟨⟨"object.__getattribute__", by rw [typeLookup_type, builtinLookup_eq_fast]; kernel_rfl, by decide +kernel⟩, by rw [typeLookup_type, builtinLookup_eq_fast]; kernel_rfl⟩
theorem slot_span : Slot "re.Match" "span" "re.Match.span" :=
  .of (owner := "re.Match") (n := "span") (by rw [typeLookup_type, builtinLookup_eq_fast]; kernel_rfl) (by decide +kernel) (by decide +kernel) (by decide +kernel)
    (by first | exact .inl (by decide +kernel) | exact .inr (by decide +kernel)) (by rw [isSubtype_type]; kernel_rfl)
theorem type_span : typeOf (.builtin "re.Match.span") = pure (.type "method_descriptor") := by show builtinType _ = _; rw [builtinType_eq_fast]; kernel_rfl
theorem entry_span : entryFor table "re.Match.span" = some Builtin.«re.Match.span» := entryFor_of_tree (by kernel_rfl)
theorem args_span (a b : Value) : argsOk "re.Match.span" ⟨[a, b], []⟩ := by unfold argsOk; kernel_rfl
end
section
open PySem PySem.W PyProof.Rows PySem.Builtin.Re PySem.Calls
set_option maxRecDepth 100000
theorem peek_target (P : Params) (S : Setting) (R : Str) (t : Tok) :
    peek (hd.heap_39 P) S (reTarget "re.Pattern.search" "search" ⟨[.ref 84, .str R t], []⟩) = some { pattern := .ref 84, string := .str R t, code := reCode, text := R.cps, kind := 0, groups := 0, pos := min 0 R.cps.size, lim := min (2 ^ 63 - 1 : Int).toNat R.cps.size } := by
  kernel_rfl
theorem peek_mono {α : Type} {K : Frag} {S : Setting} : ∀ (t : Sem α) (r : α), peek [] S t = some r → peek K S t = some r := by
  intro t
  induction t with
  | pure b => intro r e; exact e
  | rule _ k ih => intro r e; exact ih () r e
  | point _ k ih => intro r e; exact ih () r e
  | ask k ih => intro r e; exact ih _ r e
  | load a _ k ih => intro r e; cases e
  | _ => intro r e; cases e
def matchObj (R : Str) (t : Tok) (n : Nat) (c : Int) (T : Addr) : Obj := { cls := .type "re.Match", data := .fields #[.str R t, .ref 84, rawInt 0, rawInt n, rawInt c, .ref T] }
def spanObj (a b : Nat) : Obj := { cls := .type "tuple", data := .seq #[rawInt a, rawInt b] }
theorem says_run {S : Setting} {R : Str} {a b : Nat} {c : Int} (h : sreSays S R = some (some (a, b, c))) : ∃ m : Sre.M, peek [] S (reRunToEnd (Sre.forSearch reCode R.cps 0 0 R.cps.size false)) = some (some m) ∧ m.start = a ∧ m.handed = b ∧ m.lastindex = c := by
  unfold sreSays at h
  cases hp : peek [] S (reRunToEnd (Sre.forSearch reCode R.cps 0 0 R.cps.size false)) with
  | none => rw [hp] at h; cases h
  | some r =>
    rw [hp] at h
    cases r with
    | none => cases h
    | some m => simp at h; exact ⟨m, rfl, h.1, h.2.1, h.2.2⟩
theorem says_none {S : Setting} {R : Str} (h : sreSays S R = some none) : peek [] S (reRunToEnd (Sre.forSearch reCode R.cps 0 0 R.cps.size false)) = some none := by
  unfold sreSays at h
  cases hp : peek [] S (reRunToEnd (Sre.forSearch reCode R.cps 0 0 R.cps.size false)) with
  | none => rw [hp] at h; cases h
  | some r =>
    rw [hp] at h
    cases r with
    | none => rfl
    | some m => simp at h
section
variable {pg : Program} {w : World} {A : Around} {E : Value → Shared → Prop} {s : Shared} {Q : Value → Shared → Prop} {R : Str} {t : Tok}
theorem lim_eq (h : R.cps.size < 2 ^ 62) : min (2 ^ 63 - 1 : Int).toNat R.cps.size = R.cps.size := by
  apply Nat.min_eq_right
  have : (2 ^ 63 - 1 : Int).toNat = 2 ^ 63 - 1 := by decide
  omega
theorem search_none (X : (hd.heap_39 w.params).In s.heap) (hsz : R.cps.size < 2 ^ 62) (hsay : ∀ S, sreSays S R = some none) (hq : Q .none s) :
    wpAny (model pg w) A (call (.builtin "re.Pattern.search") [.ref 84, .str R t]) Q E s := by
  have hT : s.TypeIs (.ref 84) "re.Pattern" := ⟨_, X 84 _ rfl, rfl⟩
  refine wpAny_call (codeAny_call_builtin slot_search.plain entry_search (slot_search.check _ _ _ _ _ _ _ _ hT (args_search _ _) ?_))
  unfold Builtin.«re.Pattern.search»
  refine wpAny_bind ((Looks.of_peek (M := model pg w) X (peek_target w.params _ R t)).here ?_)
  dsimp only
  unfold reAnswer
  rw [lim_eq hsz, Nat.zero_min]
  refine wpAny_bind ((Looks.of_peek (M := model pg w) X (peek_mono _ _ (says_none (hsay _)))).here ?_)
  exact wpAny_pure hq
theorem search_some {a b : Nat} {c : Int} (X : (hd.heap_39 w.params).In s.heap) (hsz : R.cps.size < 2 ^ 62) (hsay : ∀ S, sreSays S R = some (some (a, b, c)))
    (hq : Q (.ref (s.heap.push (spanObj a b)).objs.size) { s with heap := (s.heap.push (spanObj a b)).push (matchObj R t R.cps.size c s.heap.objs.size) }) :
    wpAny (model pg w) A (call (.builtin "re.Pattern.search") [.ref 84, .str R t]) Q E s := by
  have hT : s.TypeIs (.ref 84) "re.Pattern" := ⟨_, X 84 _ rfl, rfl⟩
  refine wpAny_call (codeAny_call_builtin slot_search.plain entry_search (slot_search.check _ _ _ _ _ _ _ _ hT (args_search _ _) ?_))
  unfold Builtin.«re.Pattern.search»
  refine wpAny_bind ((Looks.of_peek (M := model pg w) X (peek_target w.params _ R t)).here ?_)
  dsimp only
  unfold reAnswer
  rw [lim_eq hsz, Nat.zero_min]
  obtain ⟨m, hm, rfl, rfl, rfl⟩ := says_run (hsay ⟨(model pg w).prog, (model pg w).w.params⟩)
  refine wpAny_bind ((Looks.of_peek (M := model pg w) X (peek_mono _ _ hm)).here ?_)
  dsimp only
  obtain ⟨hp, g, d, tk, os⟩ := s
  unfold reNewMatch
  repeat (any_goals (first | assumption | wp_step))
theorem span_call {M T a b n : Nat} {c : Int} {u : Tok} (hM : s.heap.get? M = some (matchObj R t n c T)) (hT : s.heap.get? T = some (spanObj a b))
    (hq : Q (.ref s.heap.objs.size) { s with heap := s.heap.push { cls := .type "tuple", data := .seq #[.int a s.toks, .int b (s.toks + 1)] }, toks := s.toks + 2 }) :
    wpAny (model pg w) A (call (.builtin "re.Match.span") [.ref M, .int 0 u]) Q E s := by
  have hTy : s.TypeIs (.ref M) "re.Match" := ⟨_, hM, rfl⟩
  refine wpAny_call (codeAny_call_builtin slot_span.plain entry_span (slot_span.check _ _ _ _ _ _ _ _ hTy (args_span _ _) ?_))
  obtain ⟨hp, g, d, tk, os⟩ := s
  unfold Builtin.«re.Match.span»
  repeat (any_goals (first | assumption | wp_step))
  have e1 : (Array.map reRawOf ((some #[rawInt a, rawInt b]).getD #[])).getD (2 * Int.toNat 0) (-1) = (a : Int) := by simp [reRawOf, rawInt]
  have e2 : (Array.map reRawOf ((some #[rawInt a, rawInt b]).getD #[])).getD (2 * Int.toNat 0 + 1) (-1) = (b : Int) := by simp [reRawOf, rawInt]
  dsimp only
  rw [e1, e2]
  exact hq
end
end
section
open PySem PySem.W PyProof.Rows PySem.Builtin.Re PySem.Calls
set_option maxRecDepth 100000
theorem slot_ga : Slot "re.Match" "__getattribute__" "object.__getattribute__" :=
  .of (owner := "object") (n := "__getattribute__") (by rw [typeLookup_type, builtinLookup_eq_fast]; kernel_rfl) (by decide +kernel) (by decide +kernel) (by decide +kernel)
    (by first | exact .inl (by decide +kernel) | exact .inr (by decide +kernel)) (by rw [isSubtype_type]; kernel_rfl)
theorem entry_ga : entryFor table "object.__getattribute__" = some Builtin.«object.__getattribute__» := entryFor_of_tree (by kernel_rfl)
theorem args_ga (a b : Value) : argsOk "object.__getattribute__" ⟨[a, b], []⟩ := by unfold argsOk; kernel_rfl
theorem lk_string : typeLookup (.type "re.Match") "string" = pure (some (.builtin "re.Match.string")) := by rw [typeLookup_type, builtinLookup_eq_fast]; kernel_rfl
theorem type_string : typeOf (.builtin "re.Match.string") = pure (.type "member_descriptor") := by kernel_rfl
theorem entry_string : entryFor table "re.Match.string" = some Builtin.«re.Match.string» := entryFor_of_tree (by kernel_rfl)
theorem owner_string : (".".intercalate ("re.Match.string".cutAt '.').dropLast) = "re.Match" := by
  have e0 : "re.Match.string".cutAt '.' = ["re", "Match", "string"] := by first | rfl | decide +kernel
  rw [e0]; decide +kernel
theorem sub_match : isSubtype (.type "re.Match") (.type "re.Match") = pure true := by rw [isSubtype_type]; kernel_rfl
theorem slot_memset : Slot "member_descriptor" "__set__" "member_descriptor.__set__" := KF.slot_mset
section
variable {pg : Program} {w : World} {A : Around} {E : Value → Shared → Prop} {h : Heap} {g : Array GenState} {d : Drawn} {tk : Nat} {os : OsState} {R : Str} {t : Tok} {M T n : Nat} {c : Int}
theorem str_get {Rr : Result → Shared → Prop} (hM : h.get? M = some (matchObj R t n c T)) (hq : Rr (.ok (.ret (.str R t))) ⟨h, g, d, tk, os⟩) :
    codeAny (model pg w) A (.call (.builtin "member_descriptor.__get__") ⟨[.builtin "re.Match.string", .ref M, .type "re.Match"], []⟩) Rr ⟨h, g, d, tk, os⟩ := by
  have hT : (⟨h, g, d, tk, os⟩ : Shared).TypeIs (.ref M) "re.Match" := ⟨_, hM, rfl⟩
  have hT5 : (⟨h, g, d, tk, os⟩ : Shared).TypeIs (.builtin "re.Match.string") "member_descriptor" := type_string
  have f8 : isSubtype (.type "re.Match") (.type (".".intercalate ("re.Match.string".cutAt '.').dropLast)) = pure true := by rw [owner_string]; exact sub_match
  refine codeAny_call_builtin KF.slot_mem.plain KF.entry_mem (KF.slot_mem.check _ _ _ _ _ _ _ _ hT5 (KF.args_mem _ _ _) ?_)
  repeat (any_goals (first | assumption | wp_step))
  refine ⟨Code.quiet_builtin _ (by decide +kernel), codeAny_builtin entry_string ?_⟩
  unfold Builtin.«re.Match.string»
  repeat (any_goals (first | assumption | with_reducible refine wpAny_field hM rfl rfl ?_ | wp_step))
theorem str_entry {u : Tok} {Q : Fin → Shared → Prop} (hM : h.get? M = some (matchObj R t n c T)) (hq : Q (.done (.ret (.str R t))) ⟨h, g, d, tk, os⟩) :
    wpAny (model pg w) A (Builtin.«object.__getattribute__» ⟨[.ref M, .str "string" u], []⟩) Q E ⟨h, g, d, tk, os⟩ := by
  have hT : (⟨h, g, d, tk, os⟩ : Shared).TypeIs (.ref M) "re.Match" := ⟨_, hM, rfl⟩
  have hT5 : (⟨h, g, d, tk, os⟩ : Shared).TypeIs (.builtin "re.Match.string") "member_descriptor" := type_string
  have f4 := lk_string
  have f5 := type_string
  have f6 := KF.slot_mem.lookup
  have f7 := KF.slot_mset.lookup
  repeat (any_goals (first | assumption | wp_step))
  refine str_get hM ?_
  repeat (any_goals (first | assumption | wp_step))
theorem str_call {u : Tok} {Rr : Result → Shared → Prop} (hM : h.get? M = some (matchObj R t n c T)) (hq : Rr (.ok (.ret (.str R t))) ⟨h, g, d, tk, os⟩) :
    codeAny (model pg w) A (.call (.builtin "object.__getattribute__") ⟨[.ref M, .str "string" u], []⟩) Rr ⟨h, g, d, tk, os⟩ :=
  codeAny_call_builtin slot_ga.plain entry_ga (slot_ga.check _ _ _ _ _ _ _ _ (show (⟨h, g, d, tk, os⟩ : Shared).TypeIs (.ref M) "re.Match" from ⟨_, hM, rfl⟩) (args_ga _ _) (str_entry hM hq))
theorem str_by {u : Tok} {fill expr : Bool} {Q : Value → Shared → Prop} (hM : h.get? M = some (matchObj R t n c T)) (hq : Q (.str R t) ⟨h, g, d, tk, os⟩) :
    wpAny (model pg w) A (getAttrBy (.ref M) (.str "string" u) fill expr) Q E ⟨h, g, d, tk, os⟩ := by
  have hT : (⟨h, g, d, tk, os⟩ : Shared).TypeIs (.ref M) "re.Match" := ⟨_, hM, rfl⟩
  have f2 := slot_ga.lookup
  have f3 := slot_ga.bind (.ref M)
  have hx0 : (expr && onTheHeap (Value.builtin "object.__getattribute__")) = false := by cases expr <;> rfl
  repeat (any_goals (first | assumption | wp_step))
  refine str_call hM ?_
  repeat (any_goals (first | assumption | wp_step))
theorem str_attr {expr : Bool} {Q : Value → Shared → Prop} (hM : h.get? M = some (matchObj R t n c T)) (hq : Q (.str R t) ⟨h, g, d, tk + 1, os⟩) :
    wpAny (model pg w) A (getAttr (.ref M) "string" expr) Q E ⟨h, g, d, tk, os⟩ := by
  unfold getAttr
  repeat (any_goals (first | assumption | with_reducible apply str_by hM | wp_step))
end
end
section
open PySem PySem.W PyProof.Rows PySem.Calls
structure TextIs (x : Str) (k : Int) : Prop where out : PySem.intText? x = some k
structure SreIs (R : Str) (r : Option (Nat × Nat × Int)) : Prop where out : ∀ S, sreSays S R = some r
section
variable {pg : Program} {w : World} {A : Around} {E : Value → Shared → Prop} {s : Shared} {h₀ : Heap} {L : Addr} {m : Str → Option Value} {news : List (Addr × Obj)} {R : Str} {t : Tok}
theorem gm_search {pl : Sem Bool} {Q : Value × List Value → Shared → Prop} (F : Fr h₀ L s.heap m) (X : (hd.heap_39 w.params).In h₀) (h : Q (.builtin "re.Pattern.search", [.ref 84]) s) :
    wpAny (model pg w) A (getMethod (.ref 84) (Str.ofString "search") pl) Q E s :=
  have X' := X.keeps F.keep
  getMethod_builtin ⟨_, X' 84 _ rfl, rfl⟩ plainAttrs_pattern slot_search type_search (fun a e => by cases e; exact ⟨_, X' 84 _ rfl, rfl⟩) h
theorem k_search_none {Q : Value → Shared → Prop} (F : Fr h₀ L s.heap m) (X : (hd.heap_39 w.params).In h₀) (hsz : R.cps.size < 2 ^ 62) (hsay : SreIs R none) (hq : Q .none s) :
    wpAny (model pg w) A (call (.builtin "re.Pattern.search") [.ref 84, .str R t]) Q E s := search_none (X.keeps F.keep) hsz hsay.out hq
theorem k_search_some {a b : Nat} {c : Int} {Q : Value → Shared → Prop} (F : Fr h₀ L s.heap m) (N : News h₀ L s.heap news) (X : (hd.heap_39 w.params).In h₀) (hsz : R.cps.size < 2 ^ 62) (hsay : SreIs R (some (a, b, c)))
    (hq : ∀ M T h', Fr h₀ L h' m → News h₀ L h' ((M, matchObj R t R.cps.size c T) :: (T, spanObj a b) :: news) → (∀ p ∈ news, p.1 < T) → T < M → Q (.ref M) { s with heap := h' }) :
    wpAny (model pg w) A (call (.builtin "re.Pattern.search") [.ref 84, .str R t]) Q E s := by
  refine search_some (X.keeps F.keep) hsz hsay.out ?_
  have F1 := F.push (spanObj a b)
  have N1 := News.push F N (spanObj a b)
  have F2 := F1.push (matchObj R t R.cps.size c s.heap.objs.size)
  have N2 := News.push F1 N1 (matchObj R t R.cps.size c s.heap.objs.size)
  exact hq _ _ _ F2 N2 (fun p hp => Heap.lt_size (N p hp).1) (by rw [Heap.size_push]; exact Nat.lt_succ_self _)
theorem gm_span {M T n : Nat} {c : Int} {pl : Sem Bool} {Q : Value × List Value → Shared → Prop} (N : News h₀ L s.heap news) (hM : (M, matchObj R t n c T) ∈ news) (h : Q (.builtin "re.Match.span", [.ref M]) s) :
    wpAny (model pg w) A (getMethod (.ref M) (Str.ofString "span") pl) Q E s :=
  getMethod_builtin ⟨_, (N _ hM).1, rfl⟩ plainAttrs_match slot_span type_span (fun a e => by cases e; exact ⟨_, (N _ hM).1, rfl⟩) h
theorem k_span {M T a b n : Nat} {c : Int} {u : Tok} {Q : Value → Shared → Prop} (F : Fr h₀ L s.heap m) (N : News h₀ L s.heap news) (hM : (M, matchObj R t n c T) ∈ news) (hT : (T, spanObj a b) ∈ news)
    (hq : ∀ D h' t₁ t₂ tk', Fr h₀ L h' m → News h₀ L h' ((D, { cls := .type "tuple", data := .seq #[.int a t₁, .int b t₂] }) :: news) → (∀ p ∈ news, p.1 < D) → Q (.ref D) { s with heap := h', toks := tk' }) :
    wpAny (model pg w) A (call (.builtin "re.Match.span") [.ref M, .int 0 u]) Q E s :=
  span_call (N _ hM).1 (N _ hT).1 (hq _ _ _ _ _ (F.push _) (News.push F N _) fun p hp => Heap.lt_size (N p hp).1)
theorem k_string {M T n : Nat} {c : Int} {expr : Bool} {Q : Value → Shared → Prop} (N : News h₀ L s.heap news) (hM : (M, matchObj R t n c T) ∈ news) (hq : Q (.str R t) { s with toks := s.toks + 1 }) :
    wpAny (model pg w) A (getAttr (.ref M) (Str.ofString "string") expr) Q E s := by
  obtain ⟨h, g, d, tk, os⟩ := s
  exact str_attr (N _ hM).1 hq
end
theorem taken_end {h₀ h' : Heap} {L l : Addr} {m : Str → Option Value} {s : Shared} {Q : Value → Shared → Prop} {tk' : Nat} {r : Str} {k : Int} {t1 t2 : Tok} {news : List (Addr × Obj)} {a b c : Addr × Obj}
    (hret : ∀ (i : Addr × Tok × Tok) (h' : Heap) (tk' : Nat), Fr h₀ L h' m → News h₀ L h' ((i.1, listOf #[.str r i.2.1, .int k i.2.2] 0) :: news) → (∀ p ∈ news, p.1 < i.1) → Q (.ref i.1) { s with heap := h', toks := tk' })
    (F : Fr h₀ L h' m) (N : News h₀ L h' ((l, listOf #[.str r t1, .int k t2] 0) :: a :: b :: c :: news)) (l1 : AllLt l news) : Q (.ref l) { s with heap := h', toks := tk' } := by
  refine hret (l, t1, t2) _ _ F (fun p hp => N p ?_) (ktn_ltOf l1)
  rcases List.mem_cons.mp hp with rfl | hp
  · exact .head _
  · exact .tail _ (.tail _ (.tail _ (.tail _ hp)))
local macro_rules | `(tactic| news_mem) => `(tactic| first | assumption | exact List.Mem.tail _ (by assumption))
local macro_rules | `(tactic| k_room) => `(tactic| ktr_room)
local macro_rules | `(tactic| walk_at "getMethod ref") => `(tactic| (k_here; k_dflt (refine' gm_search ?k1 ?k2 ?_; (case k1 => k_asm); (case k2 => k_asm))))
local macro_rules | `(tactic| walk_at "call builtin:re.Pattern.search") => `(tactic| (k_here; k_dflt (refine' k_search_some ?k1 ?k2 ?k3 ?k4 ?k5 ?_; (case k1 => k_asm); (case k2 => k_asm); (case k3 => k_asm); (case k4 => assumption); (case k5 => assumption)); intro M' T' h' F' N' l1 l2; (try k_lt l1); (try k_lt2 l2); (try k_sweep)))
local macro_rules | `(tactic| walk_at "getMethod ref") => `(tactic| (k_here; k_dflt (refine' gm_span ?k1 ?k2 ?_; (case k1 => k_asm); (case k2 => k_mem))))
local macro_rules | `(tactic| walk_at "call builtin:re.Match.span") => `(tactic| (k_here; k_dflt (refine' k_span ?k1 ?k2 ?k3 ?k4 ?_; (case k1 => k_asm); (case k2 => k_asm); (case k3 => k_mem); (case k4 => k_mem)); intro D' h' t1' t2' tk' F' N' l1; (try k_lt l1); (try k_sweep)))
local macro_rules | `(tactic| walk_at "getAttr ref") => `(tactic| (k_here; k_dflt (refine' k_string ?k1 ?k2 ?_; (case k1 => k_asm); (case k2 => k_mem))))
local macro_rules | `(tactic| walk_at "call type:int") => `(tactic| (k_here; refine KIN.call_text (TextIs.out (by with_reducible assumption)) (by with_reducible assumption) ?_))
set_option maxRecDepth 100000 in
set_option maxHeartbeats 4000000 in
theorem taken_does {w : World} {mean : ExcName → Option Value} {mg mb : Str → Option Value} {news : List (Addr × Obj)} {R r : Str} {k : Int} {t : Tok} {a : Nat}
    (hR : R.length ≤ 64) (hsay : SreIs R (some (a, R.length, -1)))
    (hr : Txt.slice R none (some (a : Int)) ++ Txt.slice R (some ((R.length : Nat) : Int)) none = r) (hk : TextIs (Txt.slice R (some ((r.length : Nat) + 1 : Int)) none) k) :
    Does w mean mg mb 4 98 news [.str R t] (fun i : Addr × Tok × Tok => .ref i.1) (fun i => (i.1, listOf #[.str r i.2.1, .int k i.2.2] 0) :: news) (fun i => ∀ p ∈ news, p.1 < i.1) := by
  have hsz : R.cps.size < 2 ^ 62 := Nat.lt_of_le_of_lt hR (by decide)
  have hR1 : R.length ≤ 1048576 := Nat.le_trans hR (by decide)
  subst hr
  have hk9 : (Txt.slice R (some (((Txt.slice R none (some (a : Int)) ++ Txt.slice R (some ((R.length : Nat) : Int)) none).length : Nat) + 1 : Int)) none).length ≤ 640 := Nat.le_trans (PyProof.Txt.length_slice_le _ _ _) (Nat.le_trans hR (by decide))
  k_extra "mine open"
  intro hret
  k_extra "mine in"
  k_steps
  rename News _ _ _ _ => hN9
  rename _ ∧ _ ∧ _ ∧ AllLt _ news => hl9
  exact taken_end hret (by assumption) hN9 hl9.2.2.2
end
section
open PySem PySem.W PyProof.Rows PySem.Calls
theorem lk_bool : typeLookup (.type "re.Match") "__bool__" = pure none := by rw [typeLookup_type, builtinLookup_eq_fast]; kernel_rfl
theorem lk_len : typeLookup (.type "re.Match") "__len__" = pure none := by rw [typeLookup_type, builtinLookup_eq_fast]; kernel_rfl
theorem k_truthy {pg : Program} {w : World} {A : Around} {E : Value → Shared → Prop} {s : Shared} {h₀ : Heap} {L : Addr} {news : List (Addr × Obj)} {R : Str} {t : Tok} {M T n : Nat} {c : Int} {Q : Bool → Shared → Prop}
    (N : News h₀ L s.heap news) (hM : (M, matchObj R t n c T) ∈ news) (h : Q true s) : wpAny (model pg w) A (truthy (.ref M)) Q E s := by
  have hT : s.TypeIs (.ref M) "re.Match" := ⟨_, (N _ hM).1, rfl⟩
  have f1 := lk_bool
  have f2 := lk_len
  obtain ⟨hp, g, d, tk, os⟩ := s
  repeat (any_goals (first | assumption | wp_step))
local macro_rules | `(tactic| walk_at "mine none") => `(tactic| skip)
local macro_rules | `(tactic| news_mem) => `(tactic| first | assumption | exact List.Mem.tail _ (by assumption))
local macro_rules | `(tactic| k_room) => `(tactic| ktr_room)
local macro_rules | `(tactic| walk_at "getMethod ref") => `(tactic| (k_here; k_dflt (refine' gm_search ?k1 ?k2 ?_; (case k1 => k_asm); (case k2 => k_asm))))
local macro_rules | `(tactic| walk_at "call builtin:re.Pattern.search") => `(tactic| (k_here; k_dflt (refine' k_search_some ?k1 ?k2 ?k3 ?k4 ?k5 ?_; (case k1 => k_asm); (case k2 => k_asm); (case k3 => k_asm); (case k4 => assumption); (case k5 => assumption)); intro M' T' h' F' N' l1 l2; (try k_lt l1); (try k_lt2 l2); (try k_sweep)))
local macro_rules | `(tactic| walk_at "getMethod ref") => `(tactic| (k_here; k_dflt (refine' gm_span ?k1 ?k2 ?_; (case k1 => k_asm); (case k2 => k_mem))))
local macro_rules | `(tactic| walk_at "call builtin:re.Match.span") => `(tactic| (k_here; k_dflt (refine' k_span ?k1 ?k2 ?k3 ?k4 ?_; (case k1 => k_asm); (case k2 => k_asm); (case k3 => k_mem); (case k4 => k_mem)); intro D' h' t1' t2' tk' F' N' l1; (try k_lt l1); (try k_sweep)))
local macro_rules | `(tactic| walk_at "getAttr ref") => `(tactic| (k_here; k_dflt (refine' k_string ?k1 ?k2 ?_; (case k1 => k_asm); (case k2 => k_mem))))
local macro_rules | `(tactic| walk_at "truthy ref") => `(tactic| (k_here; k_dflt (refine' k_truthy ?k1 ?k2 ?_; (case k1 => k_asm); (case k2 => k_mem))))
set_option maxRecDepth 100000 in
set_option maxHeartbeats 4000000 in
theorem hdn_no {w : World} {mean : ExcName → Option Value} {mg mb : Str → Option Value} {news : List (Addr × Obj)} {R : Str} {t : Tok} {a b : Nat} {c : Int}
    (hR : R.length ≤ 64) (hsay : SreIs R (some (a, b, c))) :
    Does w mean mg mb 4 91 news [.str R t] (fun _ : Unit => .bool false) (fun _ => news) (fun _ => True) := by
  have hsz : R.cps.size < 2 ^ 62 := Nat.lt_of_le_of_lt hR (by decide)
  k_extra "mine open"
  intro hret
  k_extra "mine in"
  k_steps
  exact hret () _ _ (by assumption) (cb_drop (by assumption) fun _ h => .tail _ (.tail _ h)) trivial
local macro_rules | `(tactic| walk_at "call builtin:re.Pattern.search") => `(tactic| (k_here; k_dflt (refine' k_search_none ?k1 ?k3 ?k4 ?k5 ?_; (case k1 => k_asm); (case k3 => k_asm); (case k4 => assumption); (case k5 => assumption))))
set_option maxRecDepth 100000 in
set_option maxHeartbeats 4000000 in
theorem hdn_yes {w : World} {mean : ExcName → Option Value} {mg mb : Str → Option Value} {news : List (Addr × Obj)} {t : Tok}
    (hsay : SreIs (Str.ofString "x") none) :
    Does w mean mg mb 4 91 news [.str (Str.ofString "x") t] (fun _ : Unit => .bool true) (fun _ => news) (fun _ => True) := by
  have hsz : (Str.ofString "x").cps.size < 2 ^ 62 := by decide
  k_extra "mine open"
  intro hret
  k_extra "mine in"
  k_steps
  exact hret () _ _ (by assumption) (by assumption) trivial
end
section
open PySem PySem.W PyProof.Rows PySem.Calls PySem.Builtin.Re
set_option maxRecDepth 100000
def peek0 {α : Type} : Sem α → Option α
  | .pure a => some a
  | .rule _ k => peek0 (k ())
  | .point _ k => peek0 (k ())
  | _ => none
theorem peek0_peek {α : Type} {K : Frag} {S : Setting} : ∀ (t : Sem α) (r : α), peek0 t = some r → peek K S t = some r := by
  intro t
  induction t with
  | pure b => intro r e; exact e
  | rule _ k ih => intro r e; exact ih () r e
  | point _ k ih => intro r e; exact ih () r e
  | _ => intro r e; cases e
/-- a row as a text: the starts of the pools, the last one first -/
def rowText : List Nat → Str
  | [] => Str.ofString "x"
  | a :: r => rowText r ++ Str.ofString "." ++ Str.ofString (toString (a : Int))
def downs : Nat → List (List Nat)
  | 0 => [[]]
  | n + 1 => downs n ++ (downs n).map (n :: ·)
theorem mem_downs : ∀ (n : Nat) {st : List Nat}, Down n st → st ∈ downs n
  | 0, [], _ => .head _
  | 0, _ :: _, h => absurd h.1 (Nat.not_lt_zero _)
  | n + 1, [], _ => List.mem_append_left _ (mem_downs n trivial)
  | n + 1, a :: r, ⟨h1, h2⟩ => by
    rcases Nat.lt_or_eq_of_le (Nat.le_of_lt_succ h1) with h | h
    · exact List.mem_append_left _ (mem_downs n ⟨h, h2⟩)
    · subst h
      exact List.mem_append_right _ (List.mem_map_of_mem (mem_downs a h2))
def sre0 (R : Str) : Option (Option (Nat × Nat × Int)) := (peek0 (reRunToEnd (Sre.forSearch reCode R.cps 0 0 R.cps.size false))).map (·.map fun m => (m.start, m.handed, m.lastindex))
theorem sre0_is {R : Str} {r : Option (Nat × Nat × Int)} (h : sre0 R = some r) : SreIs R r := ⟨fun S => by
  unfold sre0 at h
  unfold sreSays
  cases hp : peek0 (reRunToEnd (Sre.forSearch reCode R.cps 0 0 R.cps.size false)) with
  | none => rw [hp] at h; cases h
  | some m => rw [hp] at h; rw [peek0_peek _ _ hp]; exact h⟩
def rowCheck : List Nat → Bool
  | [] => sre0 (rowText []) == some none
  | a :: r =>
    let R := rowText (a :: r)
    let q := rowText r
    sre0 R == some (some (q.length, R.length, -1)) && (Txt.slice R none (some (q.length : Int)) ++ Txt.slice R (some ((R.length : Nat) : Int)) none == q) && PySem.intText? (Txt.slice R (some ((q.length : Nat) + 1 : Int)) none) == some (a : Int) && decide (R.length ≤ 64)
theorem all_cut {p : List Nat → Bool} {l : List (List Nat)} (h1 : (l.take 8).all p = true) (h2 : (l.drop 8).all p = true) : l.all p = true := by rw [← List.take_append_drop 8 l, List.all_append, h1, h2]; rfl
theorem rowsAt0 : ((downs 6).take 8).all rowCheck = true := by decide +kernel
theorem rowsAt1 : (((downs 6).drop 8).take 8).all rowCheck = true := by decide +kernel
theorem rowsAt2 : ((((downs 6).drop 8).drop 8).take 8).all rowCheck = true := by decide +kernel
theorem rowsAt3 : (((((downs 6).drop 8).drop 8).drop 8).take 8).all rowCheck = true := by decide +kernel
theorem rowsAt4 : ((((((downs 6).drop 8).drop 8).drop 8).drop 8).take 8).all rowCheck = true := by decide +kernel
theorem rowsAt5 : (((((((downs 6).drop 8).drop 8).drop 8).drop 8).drop 8).take 8).all rowCheck = true := by decide +kernel
theorem rowsAt6 : ((((((((downs 6).drop 8).drop 8).drop 8).drop 8).drop 8).drop 8).take 8).all rowCheck = true := by decide +kernel
theorem rowsAt7 : (((((((((downs 6).drop 8).drop 8).drop 8).drop 8).drop 8).drop 8).drop 8).take 8).all rowCheck = true := by decide +kernel
theorem rowsEnd : (((((((((downs 6).drop 8).drop 8).drop 8).drop 8).drop 8).drop 8).drop 8).drop 8).all rowCheck = true := by decide +kernel
theorem rows_checked : ((downs 6).all rowCheck) = true := all_cut rowsAt0 (all_cut rowsAt1 (all_cut rowsAt2 (all_cut rowsAt3 (all_cut rowsAt4 (all_cut rowsAt5 (all_cut rowsAt6 (all_cut rowsAt7 rowsEnd)))))))
theorem row_cons {a : Nat} {r : List Nat} (h : Down 6 (a :: r)) :
    SreIs (rowText (a :: r)) (some ((rowText r).length, (rowText (a :: r)).length, -1)) ∧ Txt.slice (rowText (a :: r)) none (some ((rowText r).length : Int)) ++ Txt.slice (rowText (a :: r)) (some (((rowText (a :: r)).length : Nat) : Int)) none = rowText r ∧
    TextIs (Txt.slice (rowText (a :: r)) (some (((rowText r).length : Nat) + 1 : Int)) none) a ∧ (rowText (a :: r)).length ≤ 64 := by
  have hc := List.all_eq_true.mp rows_checked _ (mem_downs 6 h)
  unfold rowCheck at hc
  simp only [Bool.and_eq_true, beq_iff_eq, decide_eq_true_eq] at hc
  exact ⟨sre0_is hc.1.1.1, hc.1.1.2, ⟨hc.1.2⟩, hc.2⟩
theorem row_nil : SreIs (rowText []) none := by
  have hc := List.all_eq_true.mp rows_checked [] (mem_downs 6 trivial)
  unfold rowCheck at hc
  exact sre0_is (beq_iff_eq.mp hc)
theorem row_len {st : List Nat} (h : Down 6 st) : (rowText st).length ≤ 64 := by
  cases st with
  | nil => decide
  | cons a r => exact (row_cons h).2.2.2
section
variable {w : World} {mean : ExcName → Option Value} {mg mb : Str → Option Value} {news : List (Addr × Obj)} {t : Tok} {a : Nat} {r : List Nat}
theorem taken_row (h : Down 6 (a :: r)) :
    Does w mean mg mb 4 98 news [.str (rowText (a :: r)) t] (fun i : Addr × Tok × Tok => .ref i.1) (fun i => (i.1, listOf #[.str (rowText r) i.2.1, .int a i.2.2] 0) :: news) (fun i => ∀ p ∈ news, p.1 < i.1) :=
  have ⟨h1, h2, h3, h4⟩ := row_cons h
  taken_does h4 h1 h2 h3
theorem hdn_cons (h : Down 6 (a :: r)) : Does w mean mg mb 4 91 news [.str (rowText (a :: r)) t] (fun _ : Unit => .bool false) (fun _ => news) (fun _ => True) :=
  have ⟨h1, _, _, h4⟩ := row_cons h
  hdn_no h4 h1
theorem hdn_nil : Does w mean mg mb 4 91 news [.str (rowText []) t] (fun _ : Unit => .bool true) (fun _ => news) (fun _ => True) := hdn_yes row_nil
end
end
section
open PySem PySem.W PyProof.Rows PySem.Calls
local macro_rules | `(tactic| news_mem) => `(tactic| first | with_reducible assumption | with_reducible exact List.mem_cons_self | (with_reducible refine List.mem_cons_of_mem _ ?_; news_mem) | (with_reducible refine List.mem_append_left _ ?_; news_mem) | (with_reducible refine List.mem_append_right _ ?_; news_mem))
local macro_rules | `(tactic| k_mem) => `(tactic| news_mem)
local macro_rules | `(tactic| k_memK) => `(tactic| (refine mem_m ?_; news_mem))
local macro_rules | `(tactic| l_fit) => `(tactic| omega)
local macro_rules | `(tactic| l_idx) => `(tactic| omega)
local macro_rules | `(tactic| walk_at "exec For Name Call cons nil") => `(tactic| (k_here; (rename Fr _ _ _ _ => lF'); (with_unfolding_all refine' For_invVF lF' ?k1 ?k2 ?_; (case k1 => exact rfl); (case k2 => exact rfl); k_whole)))
structure PoolSt where
  st : List Nat
  s : Nat
  mid : Int
  t1 : Tok
  t2 : Tok
  t3 : Tok
  t4 : Tok
theorem slice_part {ns : List Int} {a b : Nat} (h : b ≤ ns.length) : List.take (min ((b : Nat) : Int).toNat ns.length - ((a : Nat) : Int).toNat) (List.drop ((a : Nat) : Int).toNat ns) = part ns a b := by
  unfold part
  rw [Int.toNat_natCast, Int.toNat_natCast, Nat.min_eq_left h, List.drop_take]
theorem slice_part1 {ns : List Int} {a b : Nat} (h : b + 1 ≤ ns.length) : List.take (min (((b : Nat) : Int) + 1).toNat ns.length - ((a : Nat) : Int).toNat) (List.drop ((a : Nat) : Int).toNat ns) = part ns a (b + 1) := by
  have e : (((b : Nat) : Int) + 1) = ((b + 1 : Nat) : Int) := by omega
  rw [e]
  exact slice_part h
theorem row_st_nil {ns : List Int} {s : Nat} {mid : Int} {pre : List Int} {x : Int} (h : absorb ns pre.length [] s mid = pools ns (pre.length + 1)) : rowText [s] = rowText (pools ns (pre ++ [x]).length) := by
  rw [List.length_append]; exact congrArg rowText h
theorem row_st_brk {ns : List Int} {s a : Nat} {r : List Nat} {mid : Int} {pre : List Int} {x : Int} {X : List Int} (h : absorb ns pre.length (a :: r) s mid = pools ns (pre.length + 1)) (e : X = part ns a s) (hl : med X < mid) :
    rowText (s :: a :: r) = rowText (pools ns (pre ++ [x]).length) := by
  rw [List.length_append]
  refine congrArg rowText (Eq.trans ?_ h)
  unfold absorb
  rw [if_pos (e ▸ hl)]
theorem pool_next {ns : List Int} {k n s a : Nat} {r : List Nat} {mid : Int} {X Y : List Int} {Z : List Nat} (h : absorb ns k (a :: r) s mid = Z) (h2 : Down n (s :: a :: r)) (e1 : X = part ns a s) (e2 : Y = part ns a (k + 1)) (hl : ¬ med X < mid) :
    absorb ns k r a (med Y) = Z ∧ Down n (a :: r) := by
  refine ⟨?_, Nat.lt_trans h2.2.1 h2.1, h2.2.2⟩
  rw [← h, e2]
  conv => rhs; unfold absorb
  rw [if_neg (e1 ▸ hl)]
theorem ne_of_len {xs : List Int} (h : 0 < xs.length) : xs ≠ [] := fun e => by rw [e] at h; exact absurd h (Nat.lt_irrefl _)
local macro_rules | `(tactic| walk_at "call ref") => `(tactic| ((k_here; k_dflt (refine' does_use ?k1 ?k2 ?k3 ?k4 ?k5 ?kK ?C ?kd ?ku ?_; (case k1 => k_asm); (case k2 => k_asm); (case k3 => k_asm); (case k4 => k_asm); (case k5 => k_asm); (case kK => first | exact rfl | assumption); (case C => exact (mid_does (by news_mem) (by assumption) (by omega) (ne_of_len (by omega)))); (case kd => ktr_room); (case ku => ktr_units); k_whole)); intro t' h' tk' F' N' _; (try dsimp only at N' ⊢); (try k_fold)))
local macro_rules | `(tactic| walk_at "call ref") => `(tactic| ((k_here; k_dflt (refine' does_use ?k1 ?k2 ?k3 ?k4 ?k5 ?kK ?C ?kd ?ku ?_; (case k1 => k_asm); (case k2 => k_asm); (case k3 => k_asm); (case k4 => k_asm); (case k5 => k_asm); (case kK => first | exact rfl | assumption); (case C => exact hdn_nil); (case kd => ktr_room); (case ku => ktr_units); k_whole)); intro _ h' tk' F' N' _; (try dsimp only at N' ⊢); (try k_fold)))
local macro_rules | `(tactic| walk_at "call ref") => `(tactic| ((k_here; k_dflt (refine' does_use ?k1 ?k2 ?k3 ?k4 ?k5 ?kK ?C ?kd ?ku ?_; (case k1 => k_asm); (case k2 => k_asm); (case k3 => k_asm); (case k4 => k_asm); (case k5 => k_asm); (case kK => first | exact rfl | assumption); (case C => exact (hdn_cons (by assumption))); (case kd => ktr_room); (case ku => ktr_units); k_whole)); intro _ h' tk' F' N' _; (try dsimp only at N' ⊢); (try k_fold)))
local macro_rules | `(tactic| walk_at "call ref") => `(tactic| ((k_here; k_dflt (refine' does_use ?k1 ?k2 ?k3 ?k4 ?k5 ?kK ?C ?kd ?ku ?_; (case k1 => k_asm); (case k2 => k_asm); (case k3 => k_asm); (case k4 => k_asm); (case k5 => k_asm); (case kK => first | exact rfl | assumption); (case C => exact (taken_row (a := _) (r := _) (by assumption))); (case kd => ktr_room); (case ku => ktr_units); k_whole)); rintro ⟨D', t1', t2'⟩ h' tk' F' N' l1; (try dsimp only at N' l1 ⊢); (try k_lt l1); (try k_fold)))
local macro_rules | `(tactic| walk_at "KswEnd") => `(tactic| ((rename News _ _ _ _ => nE'); (rename Fr _ _ _ _ => fE'); k_dflt (refine' ksw_end (σ := PoolSt) ⟨_, _, _, _, _, _, _⟩ fE' nE' ?hn trivial ?hk ?hr ?hp ?hm; (case hk => kst_all); (case hn => kst_in); (case hr => ksw_same); (case hp => k_extra "pool"); (case hm => exact Nat.lt_succ_self _))))
set_option maxRecDepth 100000 in
set_option maxHeartbeats 4000000 in
theorem pools_does {w : World} {mean : ExcName → Option Value} {mg mb : Str → Option Value} {news : List (Addr × Obj)} {l : Addr} {vs : List Value} {ns : List Int} {n : Nat}
    (hm : (l, listOf vs.toArray n) ∈ news) (hi : IntsAre vs ns) (hfit : ns.length ≤ 6) (hne : ns ≠ []) :
    Does w mean mg mb 8 112 news [.ref l] (fun t' : Tok => .str (rowText (pools ns ns.length)) t') (fun _ => news) (fun _ => True) := by
  (k_with "state" => exact congrArg rowText rfl)
  k_extra "mine open"
  intro hret
  k_extra "mine in"
  iterate 20 (k_extra "mine step")
  k_state (fun pre row => row = rowText (pools ns pre.length)) "row"
  · have hkn : kN = (kPre.length : Int) := by omega
    subst hkn
    have hd6 : Down 6 (kPre.length :: pools ns kPre.length) := ⟨by omega, pools_down ns _⟩
    have hlen := row_len (Down.mono (by omega) hd6.2)
    subst kInv
    iterate 45 (k_extra "mine step")
    (rename Fr _ _ _ _ => lF)
    (rename News _ _ _ _ => lN)
    refine' ksw_while (σ := PoolSt) (fun _ => news ++ kOwn) (fun c => [(Str.ofString "row", .str (rowText (c.s :: c.st)) c.t1), (Str.ofString "rest", .str (rowText c.st) c.t2), (Str.ofString "start", .int c.s c.t3), (Str.ofString "middle", .int c.mid c.t4)]) (fun _ => True) [Str.ofString "further", Str.ofString "ahead"]
      (fun c => absorb ns kPre.length c.st c.s c.mid = pools ns (kPre.length + 1) ∧ Down (kPre.length + 1) (c.s :: c.st)) (fun c => c.st.length) ⟨pools ns kPre.length, kPre.length, ns.getD (kPre.length : Int).toNat 0, _, _, _, _⟩ lF ?kn trivial ?kk ?kp ?turn
    (case kk => kst_all)
    (case kn => exact fun p hp => lN p (.tail _ hp))
    (case kp => exact ⟨rfl, Nat.lt_succ_self _, pools_down ns _⟩)
    clear lF lN
    rintro ⟨st, s9, mid, t1, t2, t3, t4⟩ u h tk _ ⟨hp1, hp2⟩ F9 N9
    dsimp only [kstB] at hp1 hp2 F9 N9
    have hp6 : Down 6 (s9 :: st) := Down.mono (by omega) hp2
    (k_with "state" => first | exact row_st_nil hp1 | exact row_st_brk hp1 (slice_part (by omega)) (by assumption))
    (k_with "pool" => exact pool_next hp1 hp2 (slice_part (by omega)) (slice_part1 (by omega)) (by assumption))
    cases st with
    | nil =>
      k_steps
    | cons a r =>
      have hlt := hp6.2.1
      have hs9 := hp2.1
      have hp7 : Down 6 (a :: r) := Down.mono (by have := hp6.1; omega) hp6.2
      k_steps
  k_steps
  (rename (_ = rowText _) => hE9)
  have hl9 : (((ns.length : Nat) : Int) - 0).toNat = ns.length := by omega
  rw [rangeKs_length, hl9] at hE9
  subst hE9
  exact hret _ _ _ (by assumption) (by assumption) trivial
end
section
open PySem PySem.W PyProof.Rows PySem.Calls
local macro_rules | `(tactic| news_mem) => `(tactic| first | with_reducible assumption | with_reducible exact List.mem_cons_self | (with_reducible refine List.mem_cons_of_mem _ ?_; news_mem) | (with_reducible refine List.mem_append_left _ ?_; news_mem) | (with_reducible refine List.mem_append_right _ ?_; news_mem))
local macro_rules | `(tactic| k_mem) => `(tactic| news_mem)
local macro_rules | `(tactic| k_memK) => `(tactic| (refine mem_m ?_; news_mem))
local macro_rules | `(tactic| l_fit) => `(tactic| omega)
local macro_rules | `(tactic| l_idx) => `(tactic| omega)
local macro_rules | `(tactic| walk_at "call ref") => `(tactic| ((k_here; k_dflt (refine' does_use ?k1 ?k2 ?k3 ?k4 ?k5 ?kK ?C ?kd ?ku ?_; (case k1 => k_asm); (case k2 => k_asm); (case k3 => k_asm); (case k4 => k_asm); (case k5 => k_asm); (case kK => first | exact rfl | assumption); (case C => exact (pools_does (by news_mem) (by assumption) (by assumption) (by assumption))); (case kd => ktr_room); (case ku => ktr_units); k_whole)); intro t' h' tk' F' N' _; (try dsimp only at N' ⊢); (try k_fold)))
theorem flat_rep (n : Nat) (x : Int) : (List.replicate n [x]).flatten = List.replicate n x := by
  induction n with
  | zero => rfl
  | succ n ih => rw [List.replicate_succ, List.flatten_cons, ih, List.replicate_succ]; rfl
theorem fit_next {ns : List Int} {a stop : Nat} {r : List Nat} {fit X : List Int} (h : unroll ns (a :: r) stop fit = newLights ns) (hd : Down stop (a :: r)) (h3 : stop ≤ ns.length) (h4 : fit.length = ns.length - stop) (e : X = part ns a stop) :
    unroll ns r a ((List.replicate ((stop : Int) - (a : Int)).toNat [med X]).flatten ++ fit) = newLights ns ∧ Down a r ∧ a ≤ ns.length ∧ ((List.replicate ((stop : Int) - (a : Int)).toNat [med X]).flatten ++ fit).length = ns.length - a := by
  have hlt := hd.1
  have e1 : ((stop : Int) - (a : Int)).toNat = stop - a := by omega
  rw [e1, flat_rep, e]
  refine ⟨h, hd.2, by omega, ?_⟩
  rw [List.length_append, List.length_replicate]; omega
structure FitSt where
  st : List Nat
  stop : Nat
  fit : List Int
  fv : List Value
  D : Addr
  nn : Nat
  t1 : Tok
  t2 : Tok
local macro_rules | `(tactic| walk_at "call ref") => `(tactic| ((k_here; k_dflt (refine' does_use ?k1 ?k2 ?k3 ?k4 ?k5 ?kK ?C ?kd ?ku ?_; (case k1 => k_asm); (case k2 => k_asm); (case k3 => k_asm); (case k4 => k_asm); (case k5 => k_asm); (case kK => first | exact rfl | assumption); (case C => exact (mid_does (by news_mem) (by assumption) (by omega) (ne_of_len (by omega)))); (case kd => ktr_room); (case ku => ktr_units); k_whole)); intro t' h' tk' F' N' _; (try dsimp only at N' ⊢); (try k_fold)))
local macro_rules | `(tactic| walk_at "call ref") => `(tactic| ((k_here; k_dflt (refine' does_use ?k1 ?k2 ?k3 ?k4 ?k5 ?kK ?C ?kd ?ku ?_; (case k1 => k_asm); (case k2 => k_asm); (case k3 => k_asm); (case k4 => k_asm); (case k5 => k_asm); (case kK => first | exact rfl | assumption); (case C => exact hdn_nil); (case kd => ktr_room); (case ku => ktr_units); k_whole)); intro _ h' tk' F' N' _; (try dsimp only at N' ⊢); (try k_fold)))
local macro_rules | `(tactic| walk_at "call ref") => `(tactic| ((k_here; k_dflt (refine' does_use ?k1 ?k2 ?k3 ?k4 ?k5 ?kK ?C ?kd ?ku ?_; (case k1 => k_asm); (case k2 => k_asm); (case k3 => k_asm); (case k4 => k_asm); (case k5 => k_asm); (case kK => first | exact rfl | assumption); (case C => exact (hdn_cons (by assumption))); (case kd => ktr_room); (case ku => ktr_units); k_whole)); intro _ h' tk' F' N' _; (try dsimp only at N' ⊢); (try k_fold)))
local macro_rules | `(tactic| walk_at "call ref") => `(tactic| ((k_here; k_dflt (refine' does_use ?k1 ?k2 ?k3 ?k4 ?k5 ?kK ?C ?kd ?ku ?_; (case k1 => k_asm); (case k2 => k_asm); (case k3 => k_asm); (case k4 => k_asm); (case k5 => k_asm); (case kK => first | exact rfl | assumption); (case C => exact (taken_row (a := _) (r := _) (by assumption))); (case kd => ktr_room); (case ku => ktr_units); k_whole)); rintro ⟨D', t1', t2'⟩ h' tk' F' N' l1; (try dsimp only at N' l1 ⊢); (try k_lt l1); (try k_fold)))
set_option maxRecDepth 100000 in
set_option maxHeartbeats 2000000 in
theorem fit_does {w : World} {mean : ExcName → Option Value} {mg mb : Str → Option Value} {news : List (Addr × Obj)} {l : Addr} {vs : List Value} {ns : List Int} {n : Nat}
    (hm : (l, listOf vs.toArray n) ∈ news) (hi : IntsAre vs ns) (hfit : ns.length ≤ 6) (hne : ns ≠ []) :
    Does w mean mg mb 16 119 news [.ref l] (fun i : Addr × List Value × Nat => .ref i.1) (fun i => (i.1, listOf i.2.1.toArray i.2.2) :: news) (fun i => (∀ p ∈ news, p.1 < i.1) ∧ IntsAre i.2.1 (newLights ns)) := by
  k_extra "mine open"
  intro hret
  k_extra "mine in"
  iterate 33 (k_extra "mine step")
  (rename Fr _ _ _ _ => lF)
  (rename News _ _ _ _ => lN)
  (rename ∀ p ∈ news, p.1 < _ => lL)
  refine' ksw_while (σ := FitSt) (fun c => (c.D, listOf c.fv.toArray c.nn) :: news) (fun c => [(Str.ofString "row", .str (rowText c.st) c.t1), (Str.ofString "fit", .ref c.D), (Str.ofString "stop", .int c.stop c.t2)]) (fun c => IntsAre c.fv c.fit) [Str.ofString "start"]
    (fun c => unroll ns c.st c.stop c.fit = newLights ns ∧ Down c.stop c.st ∧ c.stop ≤ ns.length ∧ c.fit.length = ns.length - c.stop ∧ (∀ p ∈ news, p.1 < c.D)) (fun c => c.st.length) ⟨pools ns ns.length, ns.length, [], [], _, _, _, _⟩ lF lN IntsAre.nil ?kk ?kp ?turn
  (case kk => kst_all)
  (case kp => exact ⟨rfl, pools_down ns _, Nat.le_refl _, (Nat.sub_self _).symm, lL⟩)
  clear lF lN lL
  rintro ⟨st, stop, fit, fv, D, nn, t1, t2⟩ u h tk hI ⟨hp1, hp2, hp3, hp4, hp5⟩ F9 N9
  dsimp only [kstB] at hI hp1 hp2 hp3 hp4 hp5 F9 N9
  cases st with
  | nil =>
    k_steps
    have hp1' : fit = newLights ns := hp1
    exact hret (D, fv, nn) _ _ (by assumption) (by assumption) ⟨hp5, hp1' ▸ hI⟩
  | cons a r =>
    have hp6 : Down 6 (a :: r) := Down.mono (by omega) hp2
    have hlt := hp2.1
    have hI9 := hI.length
    k_steps
    (rename News _ _ _ _ => nE')
    (rename Fr _ _ _ _ => fE')
    k_dflt (refine' ksw_end (σ := FitSt) ⟨_, _, _, _, _, 0, _, _⟩ fE' nE' ?hn ?hf ?hk ?hr ?hp ?hm; (case hk => kst_all))
    (case hf => with_reducible assumption)
    (case hr => ksw_same)
    (case hn => (intro p hp; dsimp only at hp ⊢; rcases List.mem_cons.mp hp with rfl | hp <;> news_mem))
    (case hp => ((rename _ < _ ∧ _ < _ ∧ _ < _ ∧ _ < _ ∧ _ < _ ∧ AllLt _ news => hl9); (have hfn := fit_next hp1 hp2 hp3 hp4 (slice_part (by omega))); exact ⟨hfn.1, hfn.2.1, hfn.2.2.1, hfn.2.2.2, ktn_ltOf hl9.2.2.2.2.2⟩))
    (case hm => exact Nat.lt_succ_self _)
end
section
open PySem PySem.W PyProof.Rows PySem.Calls
local macro_rules | `(tactic| news_mem) => `(tactic| first | with_reducible assumption | with_reducible exact List.mem_cons_self | (with_reducible refine List.mem_cons_of_mem _ ?_; news_mem) | (with_reducible refine List.mem_append_left _ ?_; news_mem) | (with_reducible refine List.mem_append_right _ ?_; news_mem))
local macro_rules | `(tactic| k_mem) => `(tactic| news_mem)
local macro_rules | `(tactic| k_memK) => `(tactic| (refine mem_m ?_; news_mem))
local macro_rules | `(tactic| l_fit) => `(tactic| omega)
local macro_rules | `(tactic| l_idx) => `(tactic| omega)
local macro_rules | `(tactic| walk_at "call type:range") => `(tactic| ((rename Fr _ _ _ _ => F'); (rename News _ _ _ _ => N'); (with_unfolding_all refine range1_rows F' N' ?_; intro _ _ _ _ _ _ _ _ _)))
local macro_rules | `(tactic| walk_at "exec For Name Call cons nil") => `(tactic| (k_here; (rename Fr _ _ _ _ => lF'); (with_unfolding_all refine' For_invVF lF' ?k1 ?k2 ?_; (case k1 => exact rfl); (case k2 => exact rfl); k_whole)))
theorem all_ne4 {l I D Dl : Addr} {a b c : Obj} {news own : List (Addr × Obj)} (h : I < l ∧ D < l ∧ Dl < l ∧ AllLt l news) (ho : OwnOff own (l :: I :: D :: Dl :: news.map (·.1))) : ∀ p ∈ (I, a) :: (D, b) :: (Dl, c) :: (news ++ own), p.1 ≠ l := by
  intro p hp
  rcases List.mem_cons.mp hp with rfl | hp
  · exact Nat.ne_of_lt h.1
  rcases List.mem_cons.mp hp with rfl | hp
  · exact Nat.ne_of_lt h.2.1
  rcases List.mem_cons.mp hp with rfl | hp
  · exact Nat.ne_of_lt h.2.2.1
  rcases List.mem_append.mp hp with hp | hp
  · exact Nat.ne_of_lt (ktn_ltOf h.2.2.2 p hp)
  · exact OwnOff.ne ho (.head _) p hp
local macro_rules | `(tactic| k_upd) => `(tactic| exact Upd.head (all_ne4 (by assumption) (by assumption)))
local macro_rules | `(tactic| walk_at "call builtin:min") => `(tactic| (k_here; (with_unfolding_all refine' kso_min ?k1 ?k2 ?k3 ?k4 ?k5 ?k6 ?_; (case k1 => k_asm); (case k2 => k_asm); (case k3 => exact News.isList (by k_asm) (by news_mem)); (case k4 => assumption); (case k5 => omega); (case k6 => with_unfolding_all rfl); k_whole); intro h' M' t' k' F' N' a' b'; (try k_sweep)))
theorem cost_step {L cs pre fr : List Int} {x best k : Int} (h1 : best = bestAt cs pre.length) (h2 : fr = freshAt L cs x pre.length) (hk : k = 0 + (pre.length : Int)) (hl : pre.length < cs.length) :
    (if cs.getD k.toNat 0 < best then cs.getD k.toNat 0 else best) = bestAt cs (pre ++ [k]).length ∧
    fr ++ [(if cs.getD k.toNat 0 < best then cs.getD k.toNat 0 else best) + (if x - L.getD k.toNat 0 < 0 then -(x - L.getD k.toNat 0) else x - L.getD k.toNat 0)] = freshAt L cs x (pre ++ [k]).length ∧ (fr ++ [(if cs.getD k.toNat 0 < best then cs.getD k.toNat 0 else best) + (if x - L.getD k.toNat 0 < 0 then -(x - L.getD k.toNat 0) else x - L.getD k.toNat 0)]).length = (pre ++ [k]).length := by
  have hfl : fr.length = pre.length := by rw [h2, freshAt_length]
  have e : k.toNat = pre.length := by omega
  rw [e, List.length_append, List.length_singleton]
  have e1 : (if cs.getD pre.length 0 < best then cs.getD pre.length 0 else best) = bestAt cs (pre.length + 1) := by
    rw [bestAt_succ hl, ← h1]
    by_cases q : cs.getD pre.length 0 < best
    · rw [if_pos q]; omega
    · rw [if_neg q]; omega
  refine ⟨e1, ?_, by rw [List.length_append, hfl]; rfl⟩
  rw [e1, freshAt_succ, h2]
  congr 2
  congr 1
  split <;> omega
theorem cost_start {L cs : List Int} {x best : Int} {pre : List Int} (hb : best = cs.getD (Int.toNat 0) 0) (hp : pre.length = 0) : best = bestAt cs pre.length ∧ ([] : List Int) = freshAt L cs x pre.length ∧ ([] : List Int).length = pre.length := by
  rw [hp]; exact ⟨by rw [hb]; rfl, rfl, rfl⟩
structure CostSt where
  D : Addr
  dd : Option Addr
  sl : Array (Option Value)
  nn : Nat
  cv : List Value
  cs : List Int
theorem ints_at {vs : List Value} {ns : List Int} {i : Nat} {v : Value} (hi : IntsAre vs ns) (h : vs[i]? = some v) (hl : i < ns.length) : ∃ t, v = .int (ns.getD i 0) t := by
  obtain ⟨t, ht⟩ := hi.get i ns[i] (by simp [hl])
  rw [ht] at h
  refine ⟨t, ?_⟩
  rw [List.getD_eq_getElem?_getD, List.getElem?_eq_getElem hl]
  exact (Option.some.inj h).symm
theorem list_obj {h h₀ : Heap} {L D : Addr} {m : Str → Option Value} {ys : List Value} {news : List (Addr × Obj)} (F : Fr h₀ L h m) (N : News h₀ L h news) (hl : h.IsList D ys.toArray) (hn : h₀.get? D = none) :
    ∃ dd sl nn, News h₀ L h ((D, ⟨.type "list", dd, .seq ys.toArray nn, sl⟩) :: news) := by
  obtain ⟨⟨c, dd, dt, sl⟩, ho, hc, nn, hd⟩ := hl
  simp only at hc hd
  subst hc hd
  refine ⟨dd, sl, nn, fun p hp => ?_⟩
  rcases List.mem_cons.mp hp with rfl | hp
  · refine ⟨ho, fun e => ?_, hn⟩
    obtain ⟨oL, es, ep, hL, hLd, _⟩ := F.ns
    simp only at e ho
    rw [e, hL] at ho
    cases ho
    cases hLd
  · exact N p hp
theorem zeros_ints {ys : List Value} {ns : List Int} (h : CarriedAll ys (ns.filter (fun _ => true) |>.map fun _ => PyData.int 0)) : IntsAre ys (List.replicate ns.length 0) := by
  have e : ns.filter (fun _ => true) = ns := List.filter_eq_self.mpr fun _ _ => rfl
  rw [e] at h
  have := CarriedAll.intsOf (as := ns) (f := fun _ => (0 : Int)) h
  rw [List.map_const'] at this
  exact this
set_option maxRecDepth 100000 in
set_option maxHeartbeats 2000000 in
theorem least_does {w : World} {mean : ExcName → Option Value} {mg mb : Str → Option Value} {news : List (Addr × Obj)} {l : Addr} {vs : List Value} {ns : List Int} {n : Nat}
    (hm : (l, listOf vs.toArray n) ∈ news) (hi : IntsAre vs ns) (hfit : ns.length ≤ 6) (hne : ns ≠ []) :
    Does w mean mg mb 8 131 news [.ref l] (fun i : Int × Tok => .int i.1 i.2) (fun _ => news) (fun i => LeastIs ns i.1) := by
  k_extra "mine open"
  intro hret
  k_extra "mine in"
  iterate 32 (k_extra "mine step")
  rename_i Dl lv L9 cl hb1 l1 iL eL pL oL bL pL0 hb2 F2 tk2 il2 iv2 D0 ys0 hb0 tk0 lF lN hn0 hl0 hc0
  obtain ⟨dd0, sl0, nn0, lN0⟩ := list_obj lF lN hl0 hn0
  have hi0 := zeros_ints hc0
  have hpos : 0 < ns.length := List.length_pos_iff.mpr hne
  refine' grow_list (σ := CostSt) (fun c => (c.D, ⟨.type "list", c.dd, .seq c.cv.toArray c.nn, c.sl⟩) :: (Dl, listOf lv.toArray cl) :: news) (fun c => [(Str.ofString "costs", .ref c.D)]) (fun c => IntsAre c.cv c.cs ∧ c.cs.length = L9.length)
    [Str.ofString "best", Str.ofString "fresh", Str.ofString "j"] (fun i c => c.cs = costsAt L9 ns i) ⟨D0, dd0, sl0, nn0, ys0, List.replicate L9.length 0⟩ rfl (fun c => by news_mem) lF lN0 ⟨hi0, List.length_replicate⟩ ?kk rfl ?turn ?done
  (case kk => kst_all)
  clear lF lN0 lN
  · rintro ⟨D, dd, sl, nn, cv, cs⟩ i v u h tk I oI hv hil hne9 ⟨hf1, hf2⟩ hp F9 N9
    dsimp only [kstB] at hne9 hf1 hf2 hp F9 N9
    have hvl := hi.length
    obtain ⟨t9, rfl⟩ := ints_at hi hv (by omega)
    (try k_fold)
    iterate 29 (k_extra "mine step")
    (k_with "state" => first | exact cost_step (by assumption) (by assumption) (by assumption) (by omega) | exact cost_start rfl rfl)
    k_state (fun pre best fr => best = bestAt cs pre.length ∧ fr = freshAt L9 cs (ns.getD i 0) pre.length ∧ fr.length = pre.length) "best" "fresh"
    · k_steps
    · k_steps
      show GrowEnd _ _ _ _ _ _ _
      (rename News _ _ _ _ => nE')
      (rename Fr _ _ _ _ => fE')
      (rename (_ = freshAt _ _ _ _) => hfr)
      (rename (_ < _ ∧ _ < _ ∧ _ < _ ∧ AllLt _ news) => hl9)
      have hrk : (rangeKs 0 (((L9.length : Nat) : Int) - 0).toNat).length = L9.length := by rw [rangeKs_length]; omega
      rw [hrk] at hfr
      (rename List Value => fv9)
      (rename List Int => fr9)
      refine' grow_end (σ := CostSt) ⟨_, none, #[], _, fv9, fr9⟩ fE' nE' ?hI ?hn ?ho ?hf ?hk ?hr ?hp
      (case hk => kst_all)
      (case hn => exact List.forall_mem_cons.mpr ⟨by with_unfolding_all exact List.mem_cons_self, fun p hp => List.mem_cons_of_mem _ (List.mem_cons_of_mem _ (List.mem_cons_of_mem _ hp))⟩)
      (case hf => exact ⟨by assumption, by rw [hfr, freshAt_length]⟩)
      (case hI => exact List.mem_cons_of_mem _ List.mem_cons_self)
      (case ho => exact List.forall_mem_cons.mpr ⟨Nat.ne_of_gt hl9.1, fun p hp => hne9 p (List.mem_cons_of_mem _ hp)⟩)
      (case hr => kst_same)
      (case hp => rw [costsAt_succ (by omega), ← hp]; exact hfr)
  · rintro ⟨D, dd, sl, nn, cv, cs⟩ u h tk ⟨hf1, hf2⟩ hp F9 N9
    dsimp only [kstB] at hf1 hf2 hp F9 N9
    (try k_fold)
    k_steps
    (rename (∀ a, a ∈ cs → _ ≤ a) => hmin)
    (rename (_ ∈ cs) => hmem)
    have hvl := hi.length
    rw [hvl] at hp
    refine hret (_, _) _ _ (by assumption) (cb_drop (by assumption) fun _ h => .tail _ (.tail _ h)) ⟨L9, pL, oL, ?_, ?_⟩
    · rw [← hp]; exact hmem
    · rw [← hp]; exact hmin
end
section
open PySem PySem.W PyProof.Rows PySem.Calls
def yOf (r g b : UInt64) : UInt64 := Float64.add (Float64.add (Float64.mul 4599075939470750515 r) (Float64.mul 4603489467105573601 g)) (Float64.mul 4592590756007337001 b)
def iOf (r g b : UInt64) : UInt64 := Float64.sub (Float64.mul 4604840546993784750 (Float64.sub r (yOf r g b))) (Float64.mul 4598535507515466056 (Float64.sub b (yOf r g b)))
def qOf (r g b : UInt64) : UInt64 := Float64.add (Float64.mul 4602318531202457272 (Float64.sub r (yOf r g b))) (Float64.mul 4601057523306793533 (Float64.sub b (yOf r g b)))
def low0 (x : UInt64) : UInt64 := if (Float64.cmp x 0 == some .lt) = true then 0 else x
def top1 (x : UInt64) : UInt64 := if (Float64.cmp x 4607182418800017408 == some .gt) = true then 4607182418800017408 else x
def rOut (y i q : UInt64) : UInt64 := Float64.add (Float64.add y (Float64.mul 4606703976345377586 i)) (Float64.mul 4603791717925830846 q)
def gOut (y i q : UInt64) : UInt64 := Float64.sub (Float64.sub y (Float64.mul 4598621754083818298 i)) (Float64.mul 4603901015759978483 q)
def bOut (y i q : UInt64) : UInt64 := Float64.add (Float64.sub y (Float64.mul 4607671262177584182 i)) (Float64.mul 4610375502138591871 q)
abbrev tup3 (a b c : Value) : Obj := { cls := .type "tuple", data := .seq #[a, b, c] }
theorem not_gt : ¬ (Float64.cmp 0 4607182418800017408 == some Ordering.gt) = true := by decide +kernel
theorem clamp_tf {X : UInt64} (h1 : (Float64.cmp X 0 == some .lt) = true) : 0 = top1 (low0 X) := by
  have h2 : ¬ (Float64.cmp 0 4607182418800017408 == some .gt) = true := by decide +kernel
  unfold low0 top1
  rw [if_pos h1, if_neg h2]
theorem clamp_ft {X : UInt64} (h1 : (Float64.cmp X 0 == some .lt) = false) (h2 : (Float64.cmp X 4607182418800017408 == some .gt) = true) : 4607182418800017408 = top1 (low0 X) := by
  unfold low0 top1
  have h1' : ¬ (Float64.cmp X 0 == some .lt) = true := by rw [h1]; exact Bool.false_ne_true
  rw [if_neg h1', if_pos h2]
theorem clamp_ff {X : UInt64} (h1 : (Float64.cmp X 0 == some .lt) = false) (h2 : (Float64.cmp X 4607182418800017408 == some .gt) = false) : X = top1 (low0 X) := by
  unfold low0 top1
  have h1' : ¬ (Float64.cmp X 0 == some .lt) = true := by rw [h1]; exact Bool.false_ne_true
  have h2' : ¬ (Float64.cmp X 4607182418800017408 == some .gt) = true := by rw [h2]; exact Bool.false_ne_true
  rw [if_neg h1', if_neg h2']
theorem tup_end {h₀ h' : Heap} {L D : Addr} {m : Str → Option Value} {s : Shared} {Q : Value → Shared → Prop} {tk' : Nat} {a b c a' b' c' : UInt64} {t1 t2 t3 : Tok} {news : List (Addr × Obj)}
    (hret : ∀ (i : Addr × Tok × Tok × Tok) (h' : Heap) (tk' : Nat), Fr h₀ L h' m → News h₀ L h' ((i.1, tup3 (.float a i.2.1) (.float b i.2.2.1) (.float c i.2.2.2)) :: news) → (∀ p ∈ news, p.1 < i.1) → Q (.ref i.1) { s with heap := h', toks := tk' })
    (F : Fr h₀ L h' m) (N : News h₀ L h' ((D, tup3 (.float a' t1) (.float b' t2) (.float c' t3)) :: news)) (l1 : ∀ p ∈ news, p.1 < D) (e1 : a' = a) (e2 : b' = b) (e3 : c' = c) : Q (.ref D) { s with heap := h', toks := tk' } := by
  subst e1 e2 e3
  exact hret (D, t1, t2, t3) _ _ F N l1
set_option maxRecDepth 100000 in
set_option maxHeartbeats 2000000 in
theorem yiq_does {w : World} {mean : ExcName → Option Value} {mg mb : Str → Option Value} {news : List (Addr × Obj)} {r g b : UInt64} {t1 t2 t3 : Tok} :
    Does w mean mg mb 2 38 news [.float r t1, .float g t2, .float b t3] (fun i : Addr × Tok × Tok × Tok => .ref i.1) (fun i => (i.1, tup3 (.float (yOf r g b) i.2.1) (.float (iOf r g b) i.2.2.1) (.float (qOf r g b) i.2.2.2)) :: news) (fun i => ∀ p ∈ news, p.1 < i.1) := by
  k_extra "mine open"
  intro hret
  k_extra "mine in"
  k_steps
  (rename News _ _ _ _ => hN9)
  refine tup_end hret (by assumption) hN9 (by assumption) ?_ ?_ ?_ <;> rfl
set_option maxRecDepth 100000 in
set_option maxHeartbeats 4000000 in
theorem rgb_does {w : World} {mean : ExcName → Option Value} {mg mb : Str → Option Value} {news : List (Addr × Obj)} {y i q : UInt64} {t1 t2 t3 : Tok} :
    Does w mean mg mb 2 45 news [.float y t1, .float i t2, .float q t3] (fun i : Addr × Tok × Tok × Tok => .ref i.1) (fun j => (j.1, tup3 (.float (top1 (low0 (rOut y i q))) j.2.1) (.float (top1 (low0 (gOut y i q))) j.2.2.1) (.float (top1 (low0 (bOut y i q))) j.2.2.2)) :: news) (fun i => ∀ p ∈ news, p.1 < i.1) := by
  k_extra "mine open"
  intro hret
  k_extra "mine in"
  k_steps
  all_goals first | exact absurd (by with_reducible assumption) not_gt | ((rename News _ _ _ _ => hN9); refine tup_end hret (by assumption) hN9 (by assumption) ?_ ?_ ?_ <;> dsimp only [rOut, gOut, bOut] <;> first | exact clamp_tf (by with_reducible assumption) | exact clamp_ff (by with_reducible assumption) (by with_reducible assumption) | exact clamp_ft (by with_reducible assumption) (by with_reducible assumption))
end
section
open PySem PySem.W PyProof.Rows
/-- the values are references to objects of the ledger, one for each datum -/
def Refs {α : Type} (is : α → Obj → Prop) (news : List (Addr × Obj)) : List Value → List α → Prop
  | [], [] => True
  | v :: vs, c :: cs => (∃ a o, v = .ref a ∧ (a, o) ∈ news ∧ is c o) ∧ Refs is news vs cs
  | _, _ => False
theorem Refs.mono {α : Type} {is : α → Obj → Prop} {news news' : List (Addr × Obj)} (hs : ∀ p ∈ news, p ∈ news') : ∀ {vs : List Value} {cs : List α}, Refs is news vs cs → Refs is news' vs cs
  | [], [], _ => trivial
  | _ :: _, _ :: _, ⟨⟨a, o, h1, h2, h3⟩, h⟩ => ⟨⟨a, o, h1, hs _ h2, h3⟩, h.mono hs⟩
theorem Refs.snoc {α : Type} {is : α → Obj → Prop} {news : List (Addr × Obj)} {c : α} {a : Addr} {o : Obj} (hm : (a, o) ∈ news) (hi : is c o) : ∀ {vs : List Value} {cs : List α}, Refs is news vs cs → Refs is news (vs ++ [.ref a]) (cs ++ [c])
  | [], [], _ => ⟨⟨a, o, rfl, hm, hi⟩, trivial⟩
  | _ :: _, _ :: _, ⟨h1, h⟩ => ⟨h1, h.snoc hm hi⟩
theorem Refs.length {α : Type} {is : α → Obj → Prop} {news : List (Addr × Obj)} : ∀ {vs : List Value} {cs : List α}, Refs is news vs cs → vs.length = cs.length
  | [], [], _ => rfl
  | _ :: _, _ :: _, ⟨_, h⟩ => congrArg (· + 1) h.length
theorem Refs.get {α : Type} {is : α → Obj → Prop} {news : List (Addr × Obj)} : ∀ {vs : List Value} {cs : List α} {i : Nat} {v : Value}, Refs is news vs cs → vs[i]? = some v → ∃ c a o, cs[i]? = some c ∧ v = .ref a ∧ (a, o) ∈ news ∧ is c o
  | _ :: _, c :: _, 0, v, ⟨⟨a, o, h1, h2, h3⟩, _⟩, e => ⟨c, a, o, rfl, by simp at e; rw [← e, h1], h2, h3⟩
  | _ :: _, _ :: _, i + 1, v, ⟨_, h⟩, e => by
    have := h.get (i := i) (v := v) (by simpa using e)
    simpa using this
abbrev Col := Int × Int × Int
def colOf (n : Int) : Col := (n.fmod 5, (n.fdiv 5).fmod 5, (n.fdiv 25).fmod 5)
def isCol (c : Col) (o : Obj) : Prop := ∃ t1 t2 t3, o = listOf #[.int c.1 t1, .int c.2.1 t2, .int c.2.2 t3] 0
theorem take_map_snoc {ns : List Int} {i : Nat} (h : i < ns.length) : (ns.take (i + 1)).map colOf = (ns.take i).map colOf ++ [colOf (ns.getD i 0)] := by
  rw [List.take_add_one, List.getElem?_eq_getElem h, List.getD_eq_getElem?_getD, List.getElem?_eq_getElem h, List.map_append]; rfl
end
section
open PySem PySem.W PyProof.Rows PySem.Calls PySem.Spec
set_option maxHeartbeats 2000000
open LCg
/-- the end of a turn's item -/
def JEnd (h₀ : Heap) (L : Addr) (m : Str → Option Value) (s₁ : Shared) (I : Addr) (oI : Obj) (C : Addr) (oC : Obj) (D : Addr) (oD : Obj) (J : Value → List (Addr × Obj) → Prop) (y : Value) (s₂ : Shared) : Prop :=
  ∃ h' tk nw, s₂ = { s₁ with heap := h', toks := tk } ∧ Fr h₀ L h' m ∧ News h₀ L h' ((I, oI) :: (C, oC) :: (D, oD) :: nw) ∧ Off3 I C D nw ∧ J y nw
section
variable {prog : Program} {w : World} {A : Around} {E : Value → Shared → Prop} {s : Shared} {h₀ : Heap} {L : Addr} {m : Str → Option Value} {env : Env}
/-- what each item must do -/
def Turn3 (prog : Program) (w : World) (A : Around) (h₀ : Heap) (L : Addr) (m : Str → Option Value) (env : Env) (elt : Expr) (x y z : Str) (scope : Scope) (cl : List (Str × Addr)) (s : Shared) (its : List Value) (J : Nat → List Value → List (Addr × Obj) → Prop) : Prop :=
  ∀ i v ys nw, its[i]? = some v → J i ys nw → ∃ t a b c nt, v = .ref t ∧ (t, listOf #[a, b, c] nt) ∈ nw ∧
    ∀ I oI C oC D m₂ h tk (E' : Value → Shared → Prop), NsObj oC m₂ → m₂ x = some a → m₂ y = some b → m₂ z = some c → Fr h₀ L h m → News h₀ L h ((I, oI) :: (C, oC) :: (D, lst ys) :: nw) → Off3 I C D nw → ((@Ne Nat I C) ∧ (@Ne Nat I D) ∧ (@Ne Nat C D)) →
      wpAny (model prog w) A (eval elt (compEnvC scope cl C env)) (JEnd h₀ L m { s with heap := h, toks := tk } I oI C oC D (lst ys) (fun y nw' => J (i + 1) (ys ++ [y]) nw')) E' { s with heap := h, toks := tk }
theorem block3 {elt iter : Expr} {x y z : Str} {px py pz tp : Pos} {tk} {scope : Scope} {cl : List (Str × Addr)} {pos : Pos} {s₂ : Shared} {I ax : Addr} {nn : Nat} {its : List Value} {J : Nat → List Value → List (Addr × Obj) → Prop} {news : List (Addr × Obj)} {RR : Value → Addr → Result → Shared → Prop}
    (hh : A.handled = none) (hsz : its.length ≤ sizeLine) (hne : ax ≠ I) (hcell : ∀ y ∈ scope.names, y.2 ≠ .cell) (hkind : scope.kind = .function)
    (hx : scope.names.lookup x = some .local) (hy : scope.names.lookup y = some .local) (hz : scope.names.lookup z = some .local) (hxy : x ≠ y) (hxz : x ≠ z) (hyz : y ≠ z)
    (hsrc : ∀ i ys nw, J i ys nw → (ax, listOf its.toArray nn) ∈ nw) (hI : s₂.heap.IsListIter I ax 0) (F : Fr h₀ L s₂.heap m) (N : News h₀ L s₂.heap news) (hIL : L ≠ I) (hI₀ : h₀.get? I = none) (off : ∀ p ∈ news, p.1 ≠ I) (hj : J 0 [] news)
    (turn : Turn3 prog w A h₀ L m env elt x y z scope cl s₂ its J)
    (hRR : ∀ D C h tk m' ys nw, Fr h₀ L h m → News h₀ L h ((D, lst ys) :: nw) → Off1 D nw → h.Ns C m' → h₀.get? C = none → h₀.get? D = none → C ≠ L → D ≠ L → C ≠ D → (∀ p ∈ nw, p.1 ≠ C) → ys.length = its.length → J its.length ys nw → RR (.ref D) C (.ok .next) { s₂ with heap := h, toks := tk }) :
    wpAny (model prog w) A (newList []) (fun acc s₃ => wpAny (model prog w) A (newFunctionEnv scope env.globals cl [] env.qual none .none (some env)) (fun cenv s₄ =>
      codeAny (model prog w) A (.compStart (.ListComp elt [⟨.Tuple [.Name x px, .Name y py, .Name z pz] tk tp, iter, [], 0⟩] scope pos) 0 (.ref I) acc { cenv with scope := relabel scope env }) (RR acc cenv.locals) s₄) E s₃) E s₂ := by
  have W := Walks.list (prog := prog) (w := w) hh I ax hne its.toArray
  rw [List.size_toArray] at W
  refine wpAny_newObj_type (wpAny_newFunctionEnv hcell (by intro y hy; simp at hy) (fun h₁ hns₁ hsb₁ => ?_) hkind)
  dsimp only at hns₁ hsb₁ ⊢
  generalize hH2 : s₂.heap.push { cls := .type "list", dict := none, data := .seq ([] : List Value).toArray } = H2 at hns₁ hsb₁ ⊢
  obtain ⟨D, hD⟩ : ∃ D, D = s₂.heap.objs.size := ⟨_, rfl⟩
  obtain ⟨C, hC⟩ : ∃ C, C = H2.objs.size := ⟨_, rfl⟩
  rw [← hC] at hns₁ hsb₁ ⊢
  rw [← hD]
  have hCD : C = D + 1 := by rw [hC, hD, ← hH2, Heap.size_push]
  have hDC : D ≠ C := by rw [hCD]; exact Nat.ne_of_lt (Nat.lt_succ_self _)
  have low : ∀ {b o}, s₂.heap.get? b = some o → b ≠ C ∧ b ≠ D := fun e => by
    have := Heap.lt_size e
    rw [← hD] at this
    exact ⟨by rw [hCD]; exact Nat.ne_of_lt (Nat.lt_succ_of_lt this), Nat.ne_of_lt this⟩
  have old : ∀ b o, s₂.heap.get? b = some o → h₁.get? b = some o := fun b o e => hsb₁.extBut b o (low e).1 (Heap.get?_push_of_some _ (hH2 ▸ Heap.get?_push_of_some _ e))
  have hacc : h₁.get? D = some (lst []) := hsb₁.extBut _ _ hDC (Heap.get?_push_of_some _ (by rw [hD, ← hH2]; exact Heap.get?_push_size _ rfl))
  have free : ∀ a, D ≤ a → h₀.get? a = none := fun a ha => by
    cases e : h₀.get? a with
    | none => rfl
    | some o => exact absurd (Heap.lt_size (F.keep a o e)) (Nat.not_lt.mpr (hD ▸ ha))
  have hD₀ := free D (Nat.le_refl _)
  have hC₀ := free C (by rw [hCD]; exact Nat.le_succ _)
  obtain ⟨oL, _, _, hoL, _⟩ := F.ns
  have hLC := (low hoL).1
  have hLD := (low hoL).2
  obtain ⟨oI₀, hoI, hdI⟩ := hI
  have hIC := (low hoI).1
  have hID := (low hoI).2
  have hCI : C ∉ [I, ax] := fun q => by
    rcases List.mem_cons.mp q with e | e
    · exact hIC e.symm
    · exact (low (N _ (hsrc _ _ _ hj)).1).1 (List.mem_singleton.mp e).symm
  have hDI : D ∉ [I, ax] := fun q => by
    rcases List.mem_cons.mp q with e | e
    · exact hID e.symm
    · exact (low (N _ (hsrc _ _ _ hj)).1).2 (List.mem_singleton.mp e).symm
  have hl₂ : s₂.heap.IsList ax its.toArray := ⟨_, (N _ (hsrc _ _ _ hj)).1, rfl, nn, rfl⟩
  have st₁ : h₁.IsListIter I ax 0 ∧ h₁.IsList ax its.toArray := W.frame 0 _ _ ⟨⟨oI₀, hoI, hdI⟩, hl₂⟩ fun b _ o e => old b o e
  have loop : ∀ s₃ : Shared, s₃ = { s₂ with heap := h₁, toks := s₂.toks + ([] : List (Str × Value)).length } →
      codeAny (model prog w) A (.compLoop (.ListComp elt [⟨.Tuple [.Name x px, .Name y py, .Name z pz] tk tp, iter, [], 0⟩] scope pos) 0 (.ref I) (.ref D) (compEnvC scope cl C env)) (RR (.ref D) C) s₃ := by
    rintro s₃ rfl
    refine LCp.codeAny_compLoop_pair
      (fun k s' => ∃ h' tk i ys m' nw, s' = { s₂ with heap := h', toks := tk } ∧ i + k = its.length + 1 ∧ 0 < k ∧ ys.length = i ∧ (h'.IsListIter I ax i ∧ h'.IsList ax its.toArray) ∧ Fr h₀ L h' m ∧ h'.Ns C m' ∧ News h₀ L h' ((D, lst ys) :: nw) ∧ Off3 I C D nw ∧ J i ys nw) ?_ (its.length + 1)
      ⟨h₁, _, 0, [], _, news, rfl, Nat.zero_add _, Nat.succ_pos _, rfl, st₁, F.keeps old, hns₁, ?_, Off3.of fun p hp => ⟨off p hp, (low (N p hp).1).1, (low (N p hp).1).2⟩, hj⟩
    · rintro k s' ⟨h', tk', i, ys, m', nw, rfl, hik, hk0, hyl, st', F', hn', N', off', hj'⟩
      have off3 := off'.mem
      have NI : ∀ p ∈ (D, lst ys) :: nw, p.1 ≠ I := fun p hp => by
        rcases List.mem_cons.mp hp with rfl | hp
        · exact Ne.symm hID
        · exact (off3 p hp).1
      by_cases hlt : i < its.length
      · refine W.item i _ _ _ hlt st' fun v h₂ tk₂ hPv st₂ hk₂ => ?_
        have hv : its[i]? = some v := by simpa using hPv
        obtain ⟨t, a, b, c, nt, rfl, hmt, go⟩ := turn i v ys nw hv hj'
        have F₂ : Fr h₀ L h₂ m := fr_but F' hk₂ hIL hI₀
        have N₂ : News h₀ L h₂ ((D, lst ys) :: nw) := news_but N' hk₂ NI
        have n₂ : h₂.Ns C m' := hn'.at' fun o e => hk₂ _ o (by simpa using Ne.symm hIC) e
        obtain ⟨oC', hoC', hnC'⟩ := ns_obj n₂
        obtain ⟨oI', hoI', hdI'⟩ := st₂.1
        have NN : News h₀ L h₂ ((I, oI') :: (C, oC') :: (D, lst ys) :: nw) := fun p hp => by
          rcases List.mem_cons.mp hp with rfl | hp
          · exact ⟨hoI', Ne.symm hIL, hI₀⟩
          · rcases List.mem_cons.mp hp with rfl | hp
            · exact ⟨hoC', Ne.symm hLC, hC₀⟩
            · exact N₂ p hp
        refine wpAny_letOwnedTupleGo_listiter st₂.1 ?_
        refine kun_list F₂ NN ⟨_, (N₂ _ (List.mem_cons_of_mem _ hmt)).1, rfl, _, rfl⟩ hh rfl rfl fun h₅ F₅ N₅ => ?_
        have n₅ : h₅.Ns C m' := hnC'.ns (N₅ _ (List.mem_cons_of_mem _ List.mem_cons_self)).1
        refine assignInOrder_cons (wpAny_assign_Name (wpAny_storeName_local (lookup_relabel_local hx) n₅ (fun h₆ n₆ b₆ => ?_) (by simp [compEnvC, relabel, hkind])))
        refine assignInOrder_cons (wpAny_assign_Name (wpAny_storeName_local (lookup_relabel_local hy) n₆ (fun h₇ n₇ b₇ => ?_) (by simp [compEnvC, relabel, hkind])))
        refine assignInOrder_cons (wpAny_assign_Name (wpAny_storeName_local (lookup_relabel_local hz) n₇ (fun h₈ n₈ b₈ => ?_) (by simp [compEnvC, relabel, hkind])))
        refine assignInOrder_nil ?_
        have up : ∀ b o, b ≠ C → h₅.get? b = some o → h₈.get? b = some o := fun b o hb e => b₈.extBut b o hb (b₇.extBut b o hb (b₆.extBut b o hb e))
        have F₈ : Fr h₀ L h₈ m := ((F₅.change b₆ (Ne.symm hLC) hC₀).change b₇ (Ne.symm hLC) hC₀).change b₈ (Ne.symm hLC) hC₀
        obtain ⟨oC, hoC, hnC⟩ := ns_obj n₈
        have N₈ : News h₀ L h₈ ((I, oI') :: (C, oC) :: (D, lst ys) :: nw) := fun p hp => by
          rcases List.mem_cons.mp hp with rfl | hp
          · exact ⟨up _ _ hIC (N₅ _ List.mem_cons_self).1, Ne.symm hIL, hI₀⟩
          · rcases List.mem_cons.mp hp with rfl | hp
            · exact ⟨hoC, Ne.symm hLC, hC₀⟩
            · have z := N₅ p (List.mem_cons_of_mem _ (List.mem_cons_of_mem _ hp))
              refine ⟨up _ _ ?_ z.1, z.2⟩
              rcases List.mem_cons.mp hp with rfl | hp
              · exact hDC
              · exact (off3 p hp).2.1
        refine wpAny_mono (go I oI' C oC D _ h₈ _ _ hnC (by simp [hxy, hxz]) (by simp [hyz]) (by simp) F₈ N₈ off' ⟨hIC, hID, Ne.symm hDC⟩) (fun y' s₄ h₄ => ?_) fun _ _ e => e
        obtain ⟨h₉, tk₉, nw₉, rfl, F₉, N₉, off₉, hj₉⟩ := h₄
        have N₉' : News h₀ L h₉ nw₉ := fun p hp => N₉ p (List.mem_cons_of_mem _ (List.mem_cons_of_mem _ (List.mem_cons_of_mem _ hp)))
        have zI := (N₉ _ List.mem_cons_self).1
        have zC := (N₉ _ (List.mem_cons_of_mem _ List.mem_cons_self)).1
        have zD := (N₉ _ (List.mem_cons_of_mem _ (List.mem_cons_of_mem _ List.mem_cons_self))).1
        have st₉ : h₉.IsListIter I ax (i + 1) ∧ h₉.IsList ax its.toArray := ⟨⟨oI', zI, hdI'⟩, ⟨_, (N₉' _ (hsrc _ _ _ hj₉)).1, rfl, nn, rfl⟩⟩
        refine append_at (hsz := by show ys.toArray.size ≤ sizeLine; rw [List.size_toArray, hyl]; exact Nat.le_trans (Nat.le_of_lt hlt) hsz) zD fun h₁₀ b₁₀ d₁₀ => ?_
        have off4 := off₉.mem
        refine ⟨k - 1, Nat.sub_lt hk0 Nat.one_pos, h₁₀, tk₉, i + 1, ys ++ [y'], _, nw₉, rfl, by omega, by omega, by rw [List.length_append, List.length_singleton, hyl], W.frame _ _ _ st₉ fun b hb o e => b₁₀.extBut b o (fun q => hDI (q ▸ hb)) e, F₉.change b₁₀ (Ne.symm hLD) hD₀,
          (hnC.ns zC).sameBut b₁₀ (Ne.symm hDC), fun p hp => ?_, off₉, hj₉⟩
        rcases List.mem_cons.mp hp with rfl | hp
        · exact ⟨d₁₀.trans (congrArg some (lst_snoc ys y')), Ne.symm hLD, hD₀⟩
        · exact ⟨b₁₀.extBut _ _ (off4 p hp).2.2 (N₉' p hp).1, (N₉' p hp).2⟩
      · have hi : i = its.length := by omega
        subst hi
        refine W.done _ _ _ st' fun h₂ tk₂ hk₂ => ?_
        exact hRR D C h₂ tk₂ _ ys nw (fr_but F' hk₂ hIL hI₀) (news_but N' hk₂ NI) off'.one (hn'.at' fun o e => hk₂ _ o (by simpa using Ne.symm hIC) e) hC₀ hD₀ (Ne.symm hLC) (Ne.symm hLD) (Ne.symm hDC) (fun p hp => (off3 p hp).2.1) hyl hj'
    · intro p hp
      rcases List.mem_cons.mp hp with rfl | hp
      · exact ⟨hacc, Ne.symm hLD, hD₀⟩
      · exact ⟨old _ _ (N p hp).1, (N p hp).2⟩
  exact codeAny_compStart_list (loop _ rfl) (W.self 0 _ _ _ st₁ (loop _ rfl))
/-- the source of a comprehension and what its items do -/
def Src3 (prog : Program) (w : World) (A : Around) (h₀ : Heap) (L : Addr) (m : Str → Option Value) (env : Env) (elt : Expr) (x y z : Str) (scope : Scope) (cl : List (Str × Addr)) (Fin : Shared → List Value → List (Addr × Obj) → Prop) (xv : Value) (s₁ : Shared) : Prop :=
  ∃ (ax : Addr) (nn : Nat) (its : List Value) (news : List (Addr × Obj)) (J : Nat → List Value → List (Addr × Obj) → Prop), xv = .ref ax ∧ A.handled = none ∧ Fr h₀ L s₁.heap m ∧ News h₀ L s₁.heap news ∧ its.length ≤ sizeLine ∧ J 0 [] news ∧ (∀ i ys nw, J i ys nw → (ax, listOf its.toArray nn) ∈ nw) ∧
    (∀ g, Turn3 prog w A h₀ L m env elt x y z scope cl { s₁ with heap := g } its J) ∧ (∀ g ys nw, ys.length = its.length → J its.length ys nw → Fin { s₁ with heap := g } ys nw)
theorem Src3.mk {elt : Expr} {x y z : Str} {scope : Scope} {cl : List (Str × Addr)} {Fin : Shared → List Value → List (Addr × Obj) → Prop} {ax : Addr} {s₁ : Shared} {nn : Nat} {its : List Value} {news : List (Addr × Obj)} (J : Nat → List Value → List (Addr × Obj) → Prop)
    (hh : A.handled = none) (F : Fr h₀ L s₁.heap m) (N : News h₀ L s₁.heap news) (hsz : its.length ≤ sizeLine) (hj : J 0 [] news) (hsrc : ∀ i ys nw, J i ys nw → (ax, listOf its.toArray nn) ∈ nw)
    (turn : ∀ g, Turn3 prog w A h₀ L m env elt x y z scope cl { s₁ with heap := g } its J) (done : ∀ g ys nw, ys.length = its.length → J its.length ys nw → Fin { s₁ with heap := g } ys nw) : Src3 prog w A h₀ L m env elt x y z scope cl Fin (.ref ax) s₁ :=
  ⟨ax, nn, its, news, J, rfl, hh, F, N, hsz, hj, hsrc, turn, done⟩
theorem comp3_eval {elt iter : Expr} {x y z : Str} {px py pz tp : Pos} {tk} {scope : Scope} {cl : List (Str × Addr)} {pos : Pos} {Q : Value → Shared → Prop} (F₀ : Fr h₀ L s.heap m)
    (hclos : closureFor scope env = pure cl) (hcell : ∀ y ∈ scope.names, y.2 ≠ .cell) (hkind : scope.kind = .function) (hnames : ∀ y ∈ scope.names, y.2 = .local → scope.names.lookup y.1 = some .local)
    (hx : scope.names.lookup x = some .local) (hy : scope.names.lookup y = some .local) (hz : scope.names.lookup z = some .local) (hxy : x ≠ y) (hxz : x ≠ z) (hyz : y ≠ z)
    (h : wpAny (model prog w) A (eval iter env) (Src3 prog w A h₀ L m env elt x y z scope cl (fun s₂ => FinE h₀ L m s₂ Q)) E s)
    (hs : ∀ x, foldedSetIterable iter env x = pure x := by intro _; rfl) :
    wpAny (model prog w) A (eval (.ListComp elt [⟨.Tuple [.Name x px, .Name y py, .Name z pz] tk tp, iter, [], 0⟩] scope pos) env) Q E s := by
  rw [eval_ListComp]
  refine wpAny_comprehension_free (use := none) rfl hs hclos hkind hnames (wpAny_mono h (fun xv s₁ h₁ => ?_) fun _ _ e => e)
  obtain ⟨ax, nn, its, news, J, rfl, hh, F, N, hsz, hj, hsrc, turn, done⟩ := h₁
  have hl : s₁.heap.get? ax = some (listOf its.toArray nn) := (N _ (hsrc _ _ _ hj)).1
  refine wpAny_pyIter_list ⟨_, hl, rfl, nn, rfl⟩ ?_
  have up : ∀ b o, s₁.heap.get? b = some o → (s₁.heap.push { cls := .type "list_iterator", data := .fields #[.ref ax, .int 0 0] }).get? b = some o := fun b o e => Heap.get?_push_of_some _ e
  refine block3 hh hsz (Nat.ne_of_lt (Heap.lt_size hl)) hcell hkind hx hy hz hxy hxz hyz hsrc ⟨_, Heap.get?_push_size _ rfl, rfl, rfl⟩ (F.keeps up) (N.grown up) (Nat.ne_of_lt F.ns.lt) (next_is_new F) (fun p hp => Nat.ne_of_lt (Heap.lt_size (N p hp).1)) hj (turn _) ?_
  intro D C h tk m' ys nw F' N' o1 hn hC₀ hD₀ hCL hDL hCD offC hyl hJ
  refine ⟨m', hn, fun h'' hs'' => done (s₁.heap.push { cls := .type "list_iterator", data := .fields #[.ref ax, .int 0 0] }) ys nw hyl hJ D h'' tk (F'.change hs'' hCL hC₀) (fun p hp => ?_) o1⟩
  refine ⟨hs''.extBut _ _ ?_ (N' p hp).1, (N' p hp).2⟩
  rcases List.mem_cons.mp hp with rfl | hp
  · exact Ne.symm hCD
  · exact offC p hp
theorem comp3_assign {elt iter : Expr} {x y z v : Str} {px py pz pv tp : Pos} {tk} {scope : Scope} {cl : List (Str × Addr)} {pos spos : Pos} {Q : Flow → Shared → Prop} (F₀ : Fr h₀ L s.heap m) (hLe : env.locals = L)
    (hsw : swapsWith (.ListComp elt [⟨.Tuple [.Name x px, .Name y py, .Name z pz] tk tp, iter, [], 0⟩] scope pos) (some (.Name v pv)) spos.line env = pure true)
    (hclos : closureFor scope env = pure cl) (hcell : ∀ y ∈ scope.names, y.2 ≠ .cell) (hkind : scope.kind = .function) (hnames : ∀ y ∈ scope.names, y.2 = .local → scope.names.lookup y.1 = some .local)
    (hx : scope.names.lookup x = some .local) (hy : scope.names.lookup y = some .local) (hz : scope.names.lookup z = some .local) (hxy : x ≠ y) (hxz : x ≠ z) (hyz : y ≠ z)
    (hv : env.kindOf v = some .local) (hp : (env.scope.kind == .class || (env.scope.kind == .module && env.locals != env.globals)) = false)
    (h : wpAny (model prog w) A (eval iter env) (Src3 prog w A h₀ L m env elt x y z scope cl (fun s₂ => FinA h₀ L m s₂ v Q)) E s)
    (hs : ∀ x, foldedSetIterable iter env x = pure x := by intro _; rfl) :
    wpAny (model prog w) A (exec (.Assign [.Name v pv] (.ListComp elt [⟨.Tuple [.Name x px, .Name y py, .Name z pz] tk tp, iter, [], 0⟩] scope pos) spos) env) Q E s := by
  subst hLe
  rw [exec_Assign_Name_used _ _ _ _ hsw]
  refine wpAny_bind (wpAny_standAt (wpAny_bind ?_))
  show wpAny _ A (do let _ ← comprehension (.ListComp elt [⟨.Tuple [.Name x px, .Name y py, .Name z pz] tk tp, iter, [], 0⟩] scope pos) scope env _ (newList []) false (eval iter env) (some (assign (.Name v pv) env))) _ _ s
  refine wpAny_bind (wpAny_mono (wpAny_comprehension_free (use := some (assign (.Name v pv) env)) (Q := fun _ s' => Q .next s') rfl hs hclos hkind hnames (wpAny_mono h (fun xv s₁ h₁ => ?_) fun _ _ e => e)) (fun _ s' hq => wpAny_pure (wpAny_pure hq)) fun _ _ e => e)
  obtain ⟨ax, nn, its, news, J, rfl, hh, F, N, hsz, hj, hsrc, turn, done⟩ := h₁
  have hl : s₁.heap.get? ax = some (listOf its.toArray nn) := (N _ (hsrc _ _ _ hj)).1
  refine wpAny_pyIter_list ⟨_, hl, rfl, nn, rfl⟩ ?_
  have up : ∀ b o, s₁.heap.get? b = some o → (s₁.heap.push { cls := .type "list_iterator", data := .fields #[.ref ax, .int 0 0] }).get? b = some o := fun b o e => Heap.get?_push_of_some _ e
  refine block3 hh hsz (Nat.ne_of_lt (Heap.lt_size hl)) hcell hkind hx hy hz hxy hxz hyz hsrc ⟨_, Heap.get?_push_size _ rfl, rfl, rfl⟩ (F.keeps up) (N.grown up) (Nat.ne_of_lt F.ns.lt) (next_is_new F) (fun p hp => Nat.ne_of_lt (Heap.lt_size (N p hp).1)) hj (turn _) ?_
  intro D C h' tk m' ys nw F' N' o1 hn hC₀ hD₀ hCL hDL hCD offC hyl hJ
  show wpAny _ A (assign (.Name v pv) env (.ref D)) _ _ _
  refine wpAny_assign_Name (wpAny_storeName_local hv F'.ns (fun h₂ hn₂ hs₂ => ?_) hp)
  have hL₀ : h₀.get? env.locals = none := Heap.get?_none_of_le F'.above
  have F₂ : Fr h₀ env.locals h₂ (fun z => if z = v then some (.ref D) else m z) := ⟨hn₂, fun b o e => hs₂.extBut b o (fun q => by rw [q, hL₀] at e; cases e) (F'.keep b o e), F'.above⟩
  refine ⟨m', hn.sameBut hs₂ hCL, fun h'' hs'' => done (s₁.heap.push { cls := .type "list_iterator", data := .fields #[.ref ax, .int 0 0] }) ys nw hyl hJ D h'' _ (F₂.change hs'' hCL hC₀) (fun p hp => ?_) o1⟩
  have z : h₂.get? p.1 = some p.2 := hs₂.extBut _ _ (N' p hp).2.1 (N' p hp).1
  refine ⟨hs''.extBut _ _ ?_ z, (N' p hp).2⟩
  rcases List.mem_cons.mp hp with rfl | hp
  · exact Ne.symm hCD
  · exact offC p hp
end
end
section
open PySem PySem.W PyProof.Rows PySem.Calls
def q4 (a : Int) : UInt64 := Float64.ofFrac (decide (a < 0) != decide ((4 : Int) < 0)) a.natAbs (4 : Int).natAbs
section
variable {prog : Program} {w : World} {A : Around} {E : Value → Shared → Prop} {s : Shared} {Q : Value → Shared → Prop}
theorem div4 {a : Int} {t u : Tok} (hA : A.handled = none) (ha : a.natAbs < 5) (h : Q (.float (q4 a) s.toks) { s with toks := s.toks + 1 }) : wpAny (model prog w) A (binaryOp .Div (.int a t) (.int 4 u)) Q E s :=
  Flt.div_ii_fits hA (Nat.lt_of_lt_of_le ha (Nat.le_trans (show 5 ≤ 2 ^ 3 by decide) (Nat.pow_le_pow_right (by decide) (by decide)))) (fun h => by cases h) (fun _ _ => h)
end
theorem fmod5 (n : Int) : 0 ≤ n.fmod 5 ∧ n.fmod 5 < 5 := ⟨Int.fmod_nonneg_of_pos n (by decide), Int.fmod_lt_of_pos n (by decide)⟩
structure Small (c : Col) : Prop where
  r0 : 0 ≤ c.1
  r5 : c.1 < 5
  g0 : 0 ≤ c.2.1
  g5 : c.2.1 < 5
  b0 : 0 ≤ c.2.2
  b5 : c.2.2 < 5
theorem colOf_small (n : Int) : Small (colOf n) := ⟨(fmod5 _).1, (fmod5 _).2, (fmod5 _).1, (fmod5 _).2, (fmod5 _).1, (fmod5 _).2⟩
theorem col_small {ns : List Int} {i : Nat} {c : Col} (h : (ns.map colOf)[i]? = some c) : Small c := by
  obtain ⟨n, _, rfl⟩ := List.mem_map.mp (List.mem_of_getElem? h)
  exact colOf_small n
/-- the tone of a colour -/
def yC (c : Col) : UInt64 := yOf (q4 c.1) (q4 c.2.1) (q4 c.2.2)
def iC (c : Col) : UInt64 := iOf (q4 c.1) (q4 c.2.1) (q4 c.2.2)
def qC (c : Col) : UInt64 := qOf (q4 c.1) (q4 c.2.1) (q4 c.2.2)
def isTone (c : Col) (o : Obj) : Prop := ∃ t1 t2 t3, o = tup3 (.float (yC c) t1) (.float (iC c) t2) (.float (qC c) t3)
def lightC (c : Col) : Int := 30 * c.1 + 59 * c.2.1 + 11 * c.2.2
/-- the plain reading of a list's growth -/
theorem take_snoc' {α : Type} {cs : List α} {i : Nat} {c : α} (h : cs[i]? = some c) : cs.take (i + 1) = cs.take i ++ [c] := by
  rw [List.take_add_one, h]; rfl
/-- the invariant of a comprehension that makes an object a turn: a fixed ledger `b`, the new ones behind it -/
def JNew {α : Type} (is : α → Obj → Prop) (b : List (Addr × Obj)) (cs : List α) (i : Nat) (ys : List Value) (nw : List (Addr × Obj)) : Prop := ∃ ex, nw = b ++ ex ∧ Refs is ex ys (cs.take i) ∧ ∀ p ∈ ex, ∀ q ∈ b, p.1 ≠ q.1
theorem JNew.zero {α : Type} {is : α → Obj → Prop} {b : List (Addr × Obj)} {cs : List α} : JNew is b cs 0 [] b := ⟨[], (List.append_nil _).symm, by rw [List.take_zero]; exact trivial, fun _ h => nomatch h⟩
theorem JNew.mem {α : Type} {is : α → Obj → Prop} {b : List (Addr × Obj)} {cs : List α} {i : Nat} {ys : List Value} {nw : List (Addr × Obj)} (h : JNew is b cs i ys nw) : ∀ p ∈ b, p ∈ nw := by
  obtain ⟨ex, rfl, _⟩ := h
  exact fun p hp => List.mem_append_left _ hp
theorem JNew.end {α : Type} {is : α → Obj → Prop} {b : List (Addr × Obj)} {cs : List α} {i : Nat} {c : α} {ys : List Value} {nw : List (Addr × Obj)} (hj : JNew is b cs i ys nw) (hc : cs[i]? = some c)
    {h₀ h' : Heap} {L I C D T : Addr} {oI oC oD oT : Obj} {m : Str → Option Value} {s₁ : Shared} {tk : Nat} (F : Fr h₀ L h' m) (N : News h₀ L h' ((T, oT) :: (I, oI) :: (C, oC) :: (D, oD) :: nw)) (hT : ∀ p ∈ (I, oI) :: (C, oC) :: (D, oD) :: nw, p.1 < T) (off : LCg.Off3 I C D nw) (hi : is c oT) :
    JEnd h₀ L m s₁ I oI C oC D oD (fun y nw' => JNew is b cs (i + 1) (ys ++ [y]) nw') (.ref T) { s₁ with heap := h', toks := tk } := by
  obtain ⟨ex, rfl, hr, hb⟩ := hj
  have hn : ∀ {p}, p ∈ b ++ (ex ++ [(T, oT)]) → p ∈ b ++ ex ∨ p = (T, oT) := fun hp => by
    rw [← List.append_assoc] at hp
    exact (List.mem_append.mp hp).imp_right List.mem_singleton.mp
  refine ⟨h', tk, b ++ (ex ++ [(T, oT)]), rfl, F, fun p hp => N p ?_, LCg.Off3.of fun p hp => ?_, _, rfl, ?_, ?_⟩
  · rcases List.mem_cons.mp hp with rfl | hp
    · exact List.mem_cons_of_mem _ List.mem_cons_self
    · rcases List.mem_cons.mp hp with rfl | hp
      · exact List.mem_cons_of_mem _ (List.mem_cons_of_mem _ List.mem_cons_self)
      · rcases List.mem_cons.mp hp with rfl | hp
        · exact List.mem_cons_of_mem _ (List.mem_cons_of_mem _ (List.mem_cons_of_mem _ List.mem_cons_self))
        · rcases hn hp with hp | rfl
          · exact List.mem_cons_of_mem _ (List.mem_cons_of_mem _ (List.mem_cons_of_mem _ (List.mem_cons_of_mem _ hp)))
          · exact List.mem_cons_self
  · rcases hn hp with hp | rfl
    · exact off.mem p hp
    · exact ⟨Nat.ne_of_gt (hT (I, oI) List.mem_cons_self), Nat.ne_of_gt (hT (C, oC) (List.mem_cons_of_mem _ List.mem_cons_self)), Nat.ne_of_gt (hT (D, oD) (List.mem_cons_of_mem _ (List.mem_cons_of_mem _ List.mem_cons_self)))⟩
  · rw [take_snoc' hc]
    exact (hr.mono fun p hp => List.mem_append_left _ hp).snoc (List.mem_append_right _ (List.mem_singleton.mpr rfl)) hi
  · intro p hp q hq
    rcases List.mem_append.mp hp with hp | hp
    · exact hb p hp q hq
    · rw [List.mem_singleton.mp hp]
      exact Nat.ne_of_gt (hT q (List.mem_cons_of_mem _ (List.mem_cons_of_mem _ (List.mem_cons_of_mem _ (List.mem_append_left _ hq)))))
theorem Off1.mem {D : Addr} : ∀ {l : List (Addr × Obj)}, LCg.Off1 D l → ∀ p ∈ l, p.1 ≠ D
  | [], _, _, h => nomatch h
  | _ :: _, x, p, h => by
    rcases List.mem_cons.mp h with rfl | h
    · exact x.1
    · exact Off1.mem x.2 p h
/-- the ledger in order: three cells, then the rest, none of which is a cell -/
abbrev Led3 (c2 c1 c0 : Addr) (w2 w1 w0 : Obj) (fix : List (Addr × Obj)) : List (Addr × Obj) := (c2, w2) :: (c1, w1) :: (c0, w0) :: fix
theorem refix {h₀ h : Heap} {L S c2 c1 c0 : Addr} {oS w2 w1 w0 : Obj} {fix tex : List (Addr × Obj)} (N : News h₀ L h ((S, oS) :: (Led3 c2 c1 c0 w2 w1 w0 fix ++ tex))) (o : LCg.Off1 S (Led3 c2 c1 c0 w2 w1 w0 fix ++ tex)) (hf : LCg.Off3 c2 c1 c0 fix) (ht : ∀ p ∈ tex, ∀ q ∈ Led3 c2 c1 c0 w2 w1 w0 fix, p.1 ≠ q.1) :
    ∃ fix', News h₀ L h (Led3 c2 c1 c0 w2 w1 w0 fix') ∧ LCg.Off3 c2 c1 c0 fix' ∧ (S, oS) ∈ fix' ∧ (∀ p ∈ fix, p ∈ fix') ∧ (∀ p ∈ tex, p ∈ fix') := by
  refine ⟨(S, oS) :: (fix ++ tex), fun p hp => N p ?_, ?_, List.mem_cons_self, fun p hp => List.mem_cons_of_mem _ (List.mem_append_left _ hp), fun p hp => List.mem_cons_of_mem _ (List.mem_append_right _ hp)⟩
  · rcases List.mem_cons.mp hp with rfl | hp
    · exact List.mem_cons_of_mem _ (List.mem_append_left _ List.mem_cons_self)
    · rcases List.mem_cons.mp hp with rfl | hp
      · exact List.mem_cons_of_mem _ (List.mem_append_left _ (List.mem_cons_of_mem _ List.mem_cons_self))
      · rcases List.mem_cons.mp hp with rfl | hp
        · exact List.mem_cons_of_mem _ (List.mem_append_left _ (List.mem_cons_of_mem _ (List.mem_cons_of_mem _ List.mem_cons_self)))
        · rcases List.mem_cons.mp hp with rfl | hp
          · exact List.mem_cons_self
          · rcases List.mem_append.mp hp with hp | hp
            · exact List.mem_cons_of_mem _ (List.mem_append_left _ (List.mem_cons_of_mem _ (List.mem_cons_of_mem _ (List.mem_cons_of_mem _ hp))))
            · exact List.mem_cons_of_mem _ (List.mem_append_right _ hp)
  · have om := Off1.mem o
    refine LCg.Off3.of fun p hp => ?_
    rcases List.mem_cons.mp hp with rfl | hp
    · exact ⟨Ne.symm (om _ (List.mem_append_left _ List.mem_cons_self)), Ne.symm (om _ (List.mem_append_left _ (List.mem_cons_of_mem _ List.mem_cons_self))), Ne.symm (om _ (List.mem_append_left _ (List.mem_cons_of_mem _ (List.mem_cons_of_mem _ List.mem_cons_self))))⟩
    · rcases List.mem_append.mp hp with hp | hp
      · exact hf.mem p hp
      · exact ⟨ht p hp _ List.mem_cons_self, ht p hp _ (List.mem_cons_of_mem _ List.mem_cons_self), ht p hp _ (List.mem_cons_of_mem _ (List.mem_cons_of_mem _ List.mem_cons_self))⟩
theorem refix1 {h₀ h : Heap} {L S c2 c1 c0 : Addr} {oS w2 w1 w0 : Obj} {fix : List (Addr × Obj)} (N : News h₀ L h ((S, oS) :: Led3 c2 c1 c0 w2 w1 w0 fix)) (o : LCg.Off1 S (Led3 c2 c1 c0 w2 w1 w0 fix)) (hf : LCg.Off3 c2 c1 c0 fix) :
    ∃ fix', News h₀ L h (Led3 c2 c1 c0 w2 w1 w0 fix') ∧ LCg.Off3 c2 c1 c0 fix' ∧ (S, oS) ∈ fix' ∧ (∀ p ∈ fix, p ∈ fix') := by
  obtain ⟨f, h1, h2, h3, h4, _⟩ := refix (tex := []) (by rw [List.append_nil]; exact N) (by rw [List.append_nil]; exact o) hf (fun _ h => nomatch h)
  exact ⟨f, h1, h2, h3, h4⟩
/-- the invariant of a comprehension of ints -/
def JInt {α : Type} (g : α → Int) (b : List (Addr × Obj)) (cs : List α) (i : Nat) (ys : List Value) (nw : List (Addr × Obj)) : Prop := nw = b ∧ IntsAre ys ((cs.take i).map g)
theorem JInt.zero {α : Type} {g : α → Int} {b : List (Addr × Obj)} {cs : List α} : JInt g b cs 0 [] b := ⟨rfl, by rw [List.take_zero]; exact .nil⟩
theorem JInt.end {α : Type} {g : α → Int} {b : List (Addr × Obj)} {cs : List α} {i : Nat} {c : α} {ys : List Value} {nw : List (Addr × Obj)} (hj : JInt g b cs i ys nw) (hc : cs[i]? = some c)
    {h₀ h' : Heap} {L I C D : Addr} {oI oC oD : Obj} {m : Str → Option Value} {s₁ : Shared} {tk : Nat} {x : Int} {t : Tok} (F : Fr h₀ L h' m) (N : News h₀ L h' ((I, oI) :: (C, oC) :: (D, oD) :: nw)) (off : LCg.Off3 I C D nw) (hi : x = g c) :
    JEnd h₀ L m s₁ I oI C oC D oD (fun y nw' => JInt g b cs (i + 1) (ys ++ [y]) nw') (.int x t) { s₁ with heap := h', toks := tk } := by
  obtain ⟨rfl, hr⟩ := hj
  subst hi
  refine ⟨h', tk, nw, rfl, F, N, off, rfl, ?_⟩
  rw [take_snoc' hc, List.map_append]
  exact hr.append (.cons _ _ .nil)
theorem off1_of {D : Addr} : ∀ {l : List (Addr × Obj)}, (∀ p ∈ l, p.1 < D) → LCg.Off1 D l
  | [], _ => trivial
  | _ :: _, h => ⟨Nat.ne_of_lt (h _ List.mem_cons_self), off1_of fun p hp => h p (List.mem_cons_of_mem _ hp)⟩
end
section
open PySem PySem.W PyProof.Rows PySem.Calls
def intChk (x : UInt64) (n : Int) : Bool := match Float64.decode x with
  | .fin sg m e => Float64.truncOf sg m e == n
  | _ => false
/-- int(x) is n -/
structure IntOf (x : UInt64) (n : Int) : Prop where
  out : intChk x n = true
section
variable {prog : Program} {w : World} {A : Around} {E : Value → Shared → Prop} {s : Shared} {Q : Value → Shared → Prop}
theorem int_of {x : UInt64} {n : Int} {t : Tok} (h : IntOf x n) (hq : Q (.int n s.toks) { s with toks := s.toks + 1 }) : wpAny (model prog w) A (call (.type "int") [.float x t]) Q E s := by
  have h := h.out
  unfold intChk at h
  generalize hd : Float64.decode x = d at h
  cases d with
  | fin sg m e =>
    have h : Float64.truncOf sg m e = n := by simpa using h
    subst h
    exact call_int_float hd hq
  | inf => cases h
  | nan => cases h
end
/-- int(x * 400 + 0.5) -/
def at400 (x : UInt64) : UInt64 := Float64.add (Float64.mul x (Float64.ofInt 400)) 4602678819172646912
def rowChk (r : Nat) : Bool := (List.range 5).all fun g => (List.range 5).all fun b => intChk (at400 (yC (r, g, b))) (lightC (r, g, b))
theorem row0 : rowChk 0 = true := by decide +kernel
theorem row1 : rowChk 1 = true := by decide +kernel
theorem row2 : rowChk 2 = true := by decide +kernel
theorem row3 : rowChk 3 = true := by decide +kernel
theorem row4 : rowChk 4 = true := by decide +kernel
theorem light_of {c : Col} (h : Small c) : IntOf (at400 (yC c)) (lightC c) := by
  obtain ⟨r, g, b⟩ := c
  obtain ⟨r0, r5, g0, g5, b0, b5⟩ := h
  dsimp only at r0 r5 g0 g5 b0 b5
  obtain ⟨r, rfl⟩ := Int.eq_ofNat_of_zero_le r0
  obtain ⟨g, rfl⟩ := Int.eq_ofNat_of_zero_le g0
  obtain ⟨b, rfl⟩ := Int.eq_ofNat_of_zero_le b0
  have hr : rowChk r = true := by
    have : r < 5 := by omega
    match r, this with
    | 0, _ => exact row0
    | 1, _ => exact row1
    | 2, _ => exact row2
    | 3, _ => exact row3
    | 4, _ => exact row4
  have h1 := List.all_eq_true.mp hr g (List.mem_range.mpr (by omega))
  have h2 := List.all_eq_true.mp h1 b (List.mem_range.mpr (by omega))
  exact ⟨h2⟩
end
section
open PySem PySem.W PyProof.Rows PySem.Calls
set_option maxHeartbeats 2000000
open LCg
section
variable {prog : Program} {w : World} {A : Around} {h₀ : Heap} {L : Addr} {m : Str → Option Value} {env : Env}
/-- a comprehension with one name, by an invariant -/
theorem rest_J {elt : Expr} {x : Str} {scope : Scope} {cl : List (Str × Addr)} {s : Shared} {S : List (Addr × Obj) → Prop} {P : Nat → Value → Prop} {Fin : List Value → List (Addr × Obj) → Prop} {n : Nat} {news : List (Addr × Obj)}
    (J : Nat → List Value → List (Addr × Obj) → Prop) (hj : J 0 [] news) (hS : ∀ i ys nw, J i ys nw → S nw)
    (turn : ∀ i v ys nw, i < n → P i v → J i ys nw → ∀ I oI C oC D m₂ h tk (E' : Value → Shared → Prop), NsObj oC m₂ → m₂ x = some v → Fr h₀ L h m → News h₀ L h ((I, oI) :: (C, oC) :: (D, lst ys) :: nw) → Off3 I C D nw → ((@Ne Nat I C) ∧ (@Ne Nat I D) ∧ (@Ne Nat C D)) →
      wpAny (model prog w) A (eval elt (compEnvC scope cl C env)) (JEnd h₀ L m { s with heap := h, toks := tk } I oI C oC D (lst ys) (fun y nw' => J (i + 1) (ys ++ [y]) nw')) E' { s with heap := h, toks := tk })
    (fin : ∀ ys nw, ys.length = n → J n ys nw → Fin ys nw) : CompRest prog w A h₀ L m env elt x scope cl s S P Fin n 0 [] news := by
  have key : ∀ (j i : Nat) (ys : List Value) (nw : List (Addr × Obj)), i + j = n → ys.length = i → J i ys nw → CompRest prog w A h₀ L m env elt x scope cl s S P Fin j i ys nw := by
    intro j
    induction j with
    | zero =>
      intro i ys nw hi hl hJ
      rw [Nat.add_zero] at hi
      subst hi
      exact CompRest.zero (fin ys nw hl hJ)
    | succ j ih =>
      intro i ys nw hi hl hJ
      refine CompRest.succ ?_
      intro v I oI C oC D m₂ h tk E' hv hC hx F N off ne
      refine wpAny_mono (turn i v ys nw (by omega) hv hJ I oI C oC D m₂ h tk E' hC hx F N off ne) (fun y s₂ hq => ?_) fun _ _ e => e
      obtain ⟨h', tk', nw', e, F', N', off', hJ'⟩ := hq
      exact ⟨h', tk', nw', e, F', N', off', hS _ _ _ hJ', ih (i + 1) _ _ (by omega) (by rw [List.length_append, List.length_singleton, hl]) hJ'⟩
  exact key n 0 [] news (Nat.zero_add _) rfl hj
end
theorem rng_small {n : Nat} (h : n ≤ 6) : Builtin.Range.small 0 (n : Int) 1 = true := small_one (by decide) (by decide) (by omega) (by omega)
theorem rng_size {n : Nat} : Builtin.Range.rangeSize 0 (n : Int) 1 = ((n : Nat) : Int) := by
  rw [rangeSize_one]
  split <;> omega
end
section
open PySem PySem.W PyProof.Rows PySem.Calls
set_option maxHeartbeats 2000000
section
variable {prog : Program} {w : World} {A : Around} {E : Value → Shared → Prop} {s : Shared} {env : Env} {h₀ : Heap}
/-- the end of a turn of a loop whose name is a cell: the ledger stands, some locals are stored -/
def CellEnd (h₀ : Heap) (L I c : Addr) (oI : Obj) (news : List (Addr × Obj)) (stored : List Str) (m₀ : Str → Option Value) (s₁ s₂ : Shared) : Prop :=
  ∃ h' tk m' nw oc v, s₂ = { s₁ with heap := h', toks := tk } ∧ Fr h₀ L h' m' ∧ News h₀ L h' nw ∧ (I, oI) ∈ nw ∧ (c, oc) ∈ nw ∧ oc.data = .cell v ∧ (∀ p ∈ news, p ∈ nw) ∧ ∀ z, stored.contains z = false → m' z = m₀ z
def CellPost (h₀ : Heap) (L I c : Addr) (oI : Obj) (news : List (Addr × Obj)) (stored : List Str) (m₀ : Str → Option Value) (s₁ : Shared) (Q : Flow → Shared → Prop) (f : Flow) (s₂ : Shared) : Prop :=
  match f with
  | .ret v => Q (.ret v) s₂
  | .brk => Q .next s₂
  | _ => CellEnd h₀ L I c oI news stored m₀ s₁ s₂
def CellSrc (prog : Program) (w : World) (A : Around) (h₀ : Heap) (env : Env) (c : Addr) (body : List Stmt) (Q : Flow → Shared → Prop) (E : Value → Shared → Prop) (xv : Value) (s₁ : Shared) : Prop :=
  ∃ (r : Addr) (n : Nat) (t0 u0 v0 : Tok) (m₀ : Str → Option Value) (stored : List Str) (news : List (Addr × Obj)) (oc : Obj) (v : Option Value), xv = .ref r ∧ IsRange s₁.heap r 0 (n : Int) 1 t0 u0 v0 ∧ Builtin.Range.small 0 (n : Int) 1 = true ∧ Builtin.Range.rangeSize 0 (n : Int) 1 = (n : Int) ∧ A.handled = none ∧
    Fr h₀ env.locals s₁.heap m₀ ∧ News h₀ env.locals s₁.heap ((c, oc) :: news) ∧ oc.data = .cell v ∧ (∀ p ∈ news, p.1 ≠ c) ∧
    (∀ (i : Nat) (t : Tok) (u : Str → Option Value) (h : Heap) (tk : Nat) (I : Addr) (oI oc' : Obj), i < n → oc'.data = .cell (some (.int (i : Int) t)) → Fr h₀ env.locals h (fun y => if stored.contains y then u y else m₀ y) → News h₀ env.locals h ((I, oI) :: (c, oc') :: news) → I ≠ c → (∀ p ∈ news, p.1 ≠ I) →
      wpAny (model prog w) A (execs body env) (CellPost h₀ env.locals I c oI news stored m₀ { s₁ with heap := h, toks := tk } Q) E { s₁ with heap := h, toks := tk }) ∧
    (∀ (u : Str → Option Value) (h : Heap) (tk : Nat) (oc' : Obj), Fr h₀ env.locals h (fun y => if stored.contains y then u y else m₀ y) → News h₀ env.locals h ((c, oc') :: news) → Q .next { s₁ with heap := h, toks := tk })
theorem For_cell {Q : Flow → Shared → Prop} {x : Str} {px pos : Pos} {iter : Expr} {body : List Stmt} {c : Addr} (h₀ : Heap) (hk : env.scope.kind = .function) (hx : env.kindOf x = some .cell) (hc : env.cells.lookup x = some c)
    (h : wpAny (model prog w) A (eval iter env) (CellSrc prog w A h₀ env c body Q E) E s)
    (hs : ∀ x, foldedSetIterable iter env x = pure x := by intro _; rfl) (hE : PassesOwn (model prog w) A env E := by passes_own) :
    wpAny (model prog w) A (exec (.For (.Name x px) iter body [] pos) env) Q E s := by
  refine wpAny_For (wpAny_mono h (fun xv s₁ h₁ => ?_) fun _ _ e => e) hs
  obtain ⟨r, n, t0, u0, v0, m₀, stored, news, oc, v, rfl, hr, hsm, hsz, hh, F, N, hd, hne, turn, done⟩ := h₁
  refine wpAny_pyIter_range hr hsm ?_
  obtain ⟨I, hI⟩ : ∃ I, I = s₁.heap.objs.size := ⟨_, rfl⟩
  have W : Walks prog w A I [I] [I] n (fun i v => i < n ∧ ∃ t, v = .int (0 + i * 1) t) (fun i h => IsRangeIter h I (0 + (i : Nat) * 1) ((n : Int) - (i : Nat)) 1) := (Walks.range hh I 0 1 n).bound
  rw [← hI]
  have hI₀ : h₀.get? I = none := hI ▸ next_is_new F
  have hIc : I ≠ c := hI ▸ Ne.symm (Nat.ne_of_lt (Heap.lt_size (N _ List.mem_cons_self).1))
  have hIn : ∀ p ∈ news, p.1 ≠ I := fun p hp => hI ▸ Nat.ne_of_lt (Heap.lt_size (N p (List.mem_cons_of_mem _ hp)).1)
  have hIL : env.locals ≠ I := hI ▸ Nat.ne_of_lt F.ns.lt
  have frame : ∀ {h : Heap} {m : Str → Option Value}, (∀ z, stored.contains z = false → m z = m₀ z) → Fr h₀ env.locals h m → Fr h₀ env.locals h (fun y => if stored.contains y then m y else m₀ y) := by
    intro h m hm Fm
    have : m = fun y => if stored.contains y then m y else m₀ y := by
      funext y
      by_cases hy : stored.contains y = true
      · rw [if_pos hy]
      · rw [if_neg hy]; exact hm y (by simpa using hy)
    rw [← this]; exact Fm
  refine codeAny_forLoop
    (fun k s' => ∃ h' tk m' oc' v' i, s' = { s₁ with heap := h', toks := tk } ∧ IsRangeIter h' I (0 + ((i : Nat) : Int) * 1) ((n : Int) - (i : Nat)) 1 ∧ Fr h₀ env.locals h' m' ∧ News h₀ env.locals h' ((c, oc') :: news) ∧ oc'.data = .cell v' ∧ (∀ z, stored.contains z = false → m' z = m₀ z) ∧ i ≤ n ∧ k = n + 1 - i) ?_ (n + 1)
    ⟨_, _, m₀, oc, v, 0, rfl, ?_, F.push _, (fun p hp => ⟨Heap.get?_push_of_some _ (N p hp).1, (N p hp).2⟩), hd, (fun _ _ => rfl), Nat.zero_le _, rfl⟩
  · rintro k s' ⟨h', tk, m', oc', v', i, rfl, hst', F', N', hd', hm', hi, rfl⟩
    have nI : ∀ p ∈ (c, oc') :: news, p.1 ≠ I := fun p hp => by
      rcases List.mem_cons.mp hp with rfl | hp
      · exact Ne.symm hIc
      · exact hIn p hp
    by_cases hlt : i < n
    · refine W.item i _ _ _ hlt hst' fun v h₁ tk₁ hP hst₁ hk₁ => ?_
      obtain ⟨_, t, rfl⟩ := hP
      have F₁ := LCg.fr_but F' hk₁ hIL hI₀
      have N₁ := LCg.news_but N' hk₁ nI
      have zc := N₁ _ List.mem_cons_self
      refine wpAny_assign_Name (wpAny_storeName_cell hk hx hc ⟨oc', zc.1, hd'⟩ fun h₂ hv₂ hs₂ => ?_)
      obtain ⟨oc₂, hoc₂, hdc₂⟩ := hv₂
      have hcL : c ≠ env.locals := zc.2.1
      have F₂ : Fr h₀ env.locals h₂ m' := F₁.change hs₂ hcL zc.2.2
      have hst₂ : IsRangeIter h₂ I (0 + ((i + 1 : Nat) : Int) * 1) ((n : Int) - ((i + 1 : Nat) : Int)) 1 := W.frame (i + 1) _ _ hst₁ fun b hb o e => (hs₂.2 b fun q => hIc ((List.mem_singleton.mp hb).symm.trans q)).trans e
      obtain ⟨oI, hoI⟩ : ∃ oI, h₂.get? I = some oI := ⟨_, hst₂⟩
      have N₂ : News h₀ env.locals h₂ ((I, oI) :: (c, oc₂) :: news) := fun p hp => by
        rcases List.mem_cons.mp hp with rfl | hp
        · exact ⟨hoI, Ne.symm hIL, hI₀⟩
        · rcases List.mem_cons.mp hp with rfl | hp
          · exact ⟨hoc₂, hcL, zc.2.2⟩
          · have z := N₁ p (List.mem_cons_of_mem _ hp)
            exact ⟨(hs₂.2 _ (hne p hp)).trans z.1, z.2⟩
      have e1 : (0 : Int) + (i : Int) * 1 = (i : Int) := by omega
      rw [e1] at hdc₂
      refine wpAny_passesOwn hE (wpAny_mono (turn i t m' h₂ _ I oI oc₂ hlt hdc₂ (frame hm' F₂) N₂ hIc hIn) (fun f s₃ h₃ => ?_) fun _ _ e => e)
      have fin : CellEnd h₀ env.locals I c oI news stored m₀ { s₁ with heap := h₂, toks := tk₁ } s₃ → ∃ m, m < n + 1 - i ∧ ∃ h' tk m' oc' v' i, s₃ = { s₁ with heap := h', toks := tk } ∧ IsRangeIter h' I (0 + ((i : Nat) : Int) * 1) ((n : Int) - (i : Nat)) 1 ∧ Fr h₀ env.locals h' m' ∧ News h₀ env.locals h' ((c, oc') :: news) ∧ oc'.data = .cell v' ∧ (∀ z, stored.contains z = false → m' z = m₀ z) ∧ i ≤ n ∧ m = n + 1 - i := by
        rintro ⟨h₄, tk₄, m₄, nw₄, oc₄, v₄, rfl, F₄, N₄, hI₄, hc₄, hd₄, hn₄, hm₄⟩
        refine ⟨n + 1 - (i + 1), by omega, h₄, tk₄, m₄, oc₄, v₄, i + 1, rfl, ?_, F₄, fun p hp => ?_, hd₄, hm₄, hlt, rfl⟩
        · show h₄.get? I = some _
          rw [(N₄ _ hI₄).1, ← hoI]
          exact hst₂
        · rcases List.mem_cons.mp hp with rfl | hp
          · exact N₄ _ hc₄
          · exact N₄ _ (hn₄ p hp)
      cases f with
      | ret v => exact h₃
      | brk => exact h₃
      | next => exact fin h₃
      | cont => exact fin h₃
    · have hin : i = n := by omega
      subst hin
      refine W.done _ _ _ hst' fun h₁ tk₁ hk₁ => wpAny_execs_nil ?_
      exact done m' h₁ tk₁ oc' (frame hm' (LCg.fr_but F' hk₁ hIL hI₀)) (LCg.news_but N' hk₁ nI)
  · show IsRangeIter _ _ _ _ _
    rw [hsz, hI]
    simpa using Heap.get?_push_size _ rfl
theorem For_cellF {Q : Flow → Shared → Prop} {x : Str} {px pos : Pos} {iter : Expr} {body : List Stmt} {c : Addr} {m : Str → Option Value} (_ : Fr h₀ env.locals s.heap m) (hk : env.scope.kind = .function) (hx : env.kindOf x = some .cell) (hc : env.cells.lookup x = some c)
    (h : wpAny (model prog w) A (eval iter env) (CellSrc prog w A h₀ env c body Q E) E s)
    (hs : ∀ x, foldedSetIterable iter env x = pure x := by intro _; rfl) (hE : PassesOwn (model prog w) A env E := by passes_own) :
    wpAny (model prog w) A (exec (.For (.Name x px) iter body [] pos) env) Q E s := For_cell h₀ hk hx hc h hs hE
end
end
section
open PySem PySem.W PyProof.Rows PySem.Calls
def over400 (L : Int) : UInt64 := Float64.ofFrac (decide (L < 0) != decide ((400 : Int) < 0)) L.natAbs (400 : Int).natAbs
section
variable {prog : Program} {w : World} {A : Around} {E : Value → Shared → Prop} {s : Shared} {Q : Value → Shared → Prop}
theorem div400 {a : Int} {t u : Tok} (hA : A.handled = none) (ha : a.natAbs < 2 ^ 9) (h : Q (.float (over400 a) s.toks) { s with toks := s.toks + 1 }) : wpAny (model prog w) A (binaryOp .Div (.int a t) (.int 400 u)) Q E s :=
  Flt.div_ii_fits hA (Nat.lt_of_lt_of_le ha (Nat.pow_le_pow_right (by decide) (by decide))) (fun h => by cases h) (fun _ _ => h)
/-- an item of a list of any values -/
theorem item_val {value slice : PySem.Expr} {l : Addr} {vs : List Value} {k : Nat} {v : Value} {u : Tok} (hl : s.heap.IsList l vs.toArray) (hv : vs[k]? = some v) (hfit : k < 2 ^ 62) (h : Q v s)
    (hs : subscripted slice false (.ref l) (.int (k : Int) u) = operate [.ref l, .int (k : Int) u] (getItem (.ref l) (.int (k : Int) u)) := by with_unfolding_all rfl) :
    wpAny (model prog w) A (subscriptTail value slice (.ref l) (.int (k : Int) u)) Q E s :=
  tail_any hl.typeIs slot_list_getitem.lookup (wpAny_getItem_list hl (Int.natCast_nonneg k) (by omega) (x := v) (by simpa using hv) h) hs
end
def cut (n : Int) : Int := min 400 (max 0 n)
theorem cut_if (X : Int) : (if (if X > 0 then X else 0) < 400 then (if X > 0 then X else 0) else 400) = cut X := by
  unfold cut
  split <;> split <;> omega
theorem at3 {a b c : Int} {i : Nat} (h : i < 3) : [a, b, c][i]? = some ([a, b, c].getD i 0) := by
  match i, h with
  | 0, _ => rfl
  | 1, _ => rfl
  | 2, _ => rfl
end
section
open PySem PySem.W PyProof.Rows PySem.Calls
theorem over_near {L : Int} (h0 : 0 ≤ L) (h1 : L ≤ 400) : IsFin (over400 L) ∧ (400 * Float64.val (over400 L) - L * ((2 ^ 41 * eE : Nat) : Int)).natAbs ≤ 400 * eE := by
  obtain ⟨n, rfl⟩ := Int.eq_ofNat_of_zero_le h0
  have e0 : over400 (n : Int) = Float64.ofFrac false n 400 := by
    unfold over400
    have e1 : (decide ((n : Int) < 0) != decide ((400 : Int) < 0)) = false := by
      have : ¬ (n : Int) < 0 := by omega
      rw [decide_eq_false this]; rfl
    rw [e1]; rfl
  rw [e0]
  have hr := Float64.ofFrac_right (neg := false) (n := n) (d := 400) (W := n * 2 ^ 1074) (D := 400) (by decide) rfl (by decide)
  rw [K_eE] at hr
  obtain ⟨hf, R, hR, hd⟩ := right_near (by decide) (by
    rw [pow1085]
    have hn : n ≤ 400 := by omega
    have := Nat.mul_le_mul_right (2 ^ 41 * eE) hn
    have := K_pos
    omega) hr
  refine ⟨hf, ?_⟩
  rw [hR]
  have e2 : Float64.sgn false R = (R : Int) := rfl
  have e3 : (n : Int) * ((2 ^ 41 * eE : Nat) : Int) = ((n * (2 ^ 41 * eE) : Nat) : Int) := (Int.natCast_mul n (2 ^ 41 * eE)).symm
  rw [e2, e3]
  generalize n * (2 ^ 41 * eE) = W at *
  unfold Float64.dist at hd
  omega
/-- what a colour's two steps bring to a channel, all but n 400ths -/
structure Step (P R : UInt64) (n : Int) : Prop where
  fP : IsFin P
  fR : IsFin R
  sP : (Float64.val P).natAbs ≤ 4 * (2 ^ 41 * eE)
  sR : (Float64.val R).natAbs ≤ 4 * (2 ^ 41 * eE)
  sum : (400 * (Float64.val P + Float64.val R) - n * ((2 ^ 41 * eE : Nat) : Int)).natAbs ≤ 2 ^ 20 * eE
theorem low_val {x : UInt64} (hx : IsFin x) : IsFin (low0 x) ∧ Float64.val (low0 x) = max 0 (Float64.val x) := by
  obtain ⟨a, m, e, hd⟩ := hx
  have hc := Float64.cmp_right hd nil_is.1
  rw [nil_is.2] at hc
  unfold low0
  rw [hc]
  rcases Int.lt_trichotomy (Float64.val x) 0 with h | h | h
  · rw [Int.compare_eq_lt.mpr h, if_pos (by decide)]
    exact ⟨⟨_, _, _, nil_is.1⟩, by rw [nil_is.2]; omega⟩
  · rw [Int.compare_eq_eq.mpr h, if_neg (by decide)]
    exact ⟨⟨_, _, _, hd⟩, by omega⟩
  · rw [Int.compare_eq_gt.mpr h, if_neg (by decide)]
    exact ⟨⟨_, _, _, hd⟩, by omega⟩
theorem top_val {x : UInt64} (hx : IsFin x) : IsFin (top1 x) ∧ Float64.val (top1 x) = min ((2 ^ 41 * eE : Nat) : Int) (Float64.val x) := by
  obtain ⟨a, m, e, hd⟩ := hx
  have hc := Float64.cmp_right hd one_is.1
  have h1 := one_is.2
  unfold top1
  rw [hc]
  rcases Int.lt_trichotomy (Float64.val x) (Float64.val 4607182418800017408) with h | h | h
  · rw [Int.compare_eq_lt.mpr h, if_neg (by decide)]
    exact ⟨⟨_, _, _, hd⟩, by omega⟩
  · rw [Int.compare_eq_eq.mpr h, if_neg (by decide)]
    exact ⟨⟨_, _, _, hd⟩, by omega⟩
  · rw [Int.compare_eq_gt.mpr h, if_pos (by decide)]
    exact ⟨⟨_, _, _, one_is.1⟩, by omega⟩
set_option maxHeartbeats 4000000 in
theorem chan_of {P R : UInt64} {n L : Int} (h : Step P R n) (h0 : 0 ≤ L) (h1 : L ≤ 400) : IntOf (at400 (top1 (low0 (Float64.add (Float64.add (over400 L) P) R)))) (cut (L + n)) := by
  obtain ⟨fP, fR, sP, sR, sum⟩ := h
  obtain ⟨fy, ey⟩ := over_near h0 h1
  have hK := K_pos
  have b0 : 0 ≤ L * ((2 ^ 41 * eE : Nat) : Int) := Int.mul_nonneg h0 (Int.natCast_nonneg _)
  have b1 : L * ((2 ^ 41 * eE : Nat) : Int) ≤ 400 * ((2 ^ 41 * eE : Nat) : Int) := Int.mul_le_mul_of_nonneg_right h1 (Int.natCast_nonneg _)
  obtain ⟨f1, e1⟩ := add_near fy fP (by generalize L * ((2 ^ 41 * eE : Nat) : Int) = LK at *; omega)
  obtain ⟨f2, e2⟩ := add_near f1 fR (by generalize L * ((2 ^ 41 * eE : Nat) : Int) = LK at *; omega)
  obtain ⟨f3, e3⟩ := low_val f2
  obtain ⟨f4, e4⟩ := top_val f3
  generalize Float64.add (Float64.add (over400 L) P) R = s2 at *
  generalize Float64.add (over400 L) P = s1 at *
  generalize top1 (low0 s2) = x at *
  generalize low0 s2 = x0 at *
  rw [e3] at e4
  clear e3
  obtain ⟨f5, e5⟩ := times400 f4 (by omega)
  unfold at400
  generalize Float64.mul x (Float64.ofInt 400) = p at *
  obtain ⟨f6, e6⟩ := add_near f5 ⟨_, _, _, half_is.1⟩ (by rw [half_is.2]; omega)
  rw [half_is.2] at e6
  generalize Float64.add p 4602678819172646912 = z at *
  obtain ⟨a, m, e, hd⟩ := f6
  have key : 2 ^ 39 * (eE : Int) ≤ Float64.val z - cut (L + n) * ((2 ^ 41 * eE : Nat) : Int) ∧ Float64.val z - cut (L + n) * ((2 ^ 41 * eE : Nat) : Int) < ((2 ^ 41 * eE : Nat) : Int) := by
    have hs : (L + n) * ((2 ^ 41 * eE : Nat) : Int) = L * ((2 ^ 41 * eE : Nat) : Int) + n * ((2 ^ 41 * eE : Nat) : Int) := Int.add_mul _ _ _
    unfold cut
    rcases Int.le_total (L + n) 0 with q | q
    · have hq := Int.mul_le_mul_of_nonneg_right q (Int.natCast_nonneg (2 ^ 41 * eE))
      have c0 : min (400 : Int) (max 0 (L + n)) = 0 := by omega
      rw [c0]
      generalize L * ((2 ^ 41 * eE : Nat) : Int) = LK at *
      generalize n * ((2 ^ 41 * eE : Nat) : Int) = nK at *
      omega
    · rcases Int.le_total 400 (L + n) with q2 | q2
      · have hq := Int.mul_le_mul_of_nonneg_right q2 (Int.natCast_nonneg (2 ^ 41 * eE))
        have c0 : min (400 : Int) (max 0 (L + n)) = 400 := by omega
        rw [c0]
        generalize L * ((2 ^ 41 * eE : Nat) : Int) = LK at *
        generalize n * ((2 ^ 41 * eE : Nat) : Int) = nK at *
        omega
      · have hq := Int.mul_le_mul_of_nonneg_right q2 (Int.natCast_nonneg (2 ^ 41 * eE))
        have hq0 := Int.mul_le_mul_of_nonneg_right q (Int.natCast_nonneg (2 ^ 41 * eE))
        have c0 : min (400 : Int) (max 0 (L + n)) = L + n := by omega
        rw [c0]
        generalize L * ((2 ^ 41 * eE : Nat) : Int) = LK at *
        generalize n * ((2 ^ 41 * eE : Nat) : Int) = nK at *
        omega
  have hc0 : 0 ≤ cut (L + n) * ((2 ^ 41 * eE : Nat) : Int) := Int.mul_nonneg (by unfold cut; omega) (Int.natCast_nonneg _)
  have ht : Float64.truncOf a m e = cut (L + n) := by
    refine trunc_is hd K_eE ?_ ?_ ?_
    · omega
    · omega
    · rw [Int.add_mul]; omega
  constructor
  unfold intChk
  rw [hd]
  simp [ht]
def stepChk (P R : UInt64) (n : Int) : Bool := match Float64.decode P, Float64.decode R with
  | .fin a m e, .fin b k f => Nat.ble (m * 2 ^ (e + 1074).toNat) (4 * (2 ^ 41 * eE)) && Nat.ble (k * 2 ^ (f + 1074).toNat) (4 * (2 ^ 41 * eE))
    && Nat.ble (400 * (Float64.sgn a (m * 2 ^ (e + 1074).toNat) + Float64.sgn b (k * 2 ^ (f + 1074).toNat)) - n * ((2 ^ 41 * eE : Nat) : Int)).natAbs (2 ^ 20 * eE)
  | _, _ => false
theorem stepChk_out {P R : UInt64} {n : Int} (h : stepChk P R n = true) : Step P R n := by
  unfold stepChk at h
  generalize hP : Float64.decode P = d at h
  generalize hR : Float64.decode R = d' at h
  cases d with
  | inf => cases h
  | nan => cases h
  | fin a m e =>
    cases d' with
    | inf => cases h
    | nan => cases h
    | fin b k f =>
      simp only [Bool.and_eq_true, Nat.ble_eq] at h
      obtain ⟨⟨h1, h2⟩, h3⟩ := h
      refine ⟨⟨_, _, _, hP⟩, ⟨_, _, _, hR⟩, ?_, ?_, ?_⟩
      · rw [Float64.val_natAbs hP]; exact h1
      · rw [Float64.val_natAbs hR]; exact h2
      · rw [Float64.val_eq hP, Float64.val_eq hR]; exact h3
def colChk (c : Col) : Bool :=
  stepChk (Float64.mul 4606703976345377586 (iC c)) (Float64.mul 4603791717925830846 (qC c)) (100 * c.1 - lightC c)
  && stepChk (Float64.neg (Float64.mul 4598621754083818298 (iC c))) (Float64.neg (Float64.mul 4603901015759978483 (qC c))) (100 * c.2.1 - lightC c)
  && stepChk (Float64.neg (Float64.mul 4607671262177584182 (iC c))) (Float64.mul 4610375502138591871 (qC c)) (100 * c.2.2 - lightC c)
def colRow (r : Nat) : Bool := (List.range 5).all fun g => (List.range 5).all fun b => colChk (r, g, b)
theorem cr0 : colRow 0 = true := by decide +kernel
theorem cr1 : colRow 1 = true := by decide +kernel
theorem cr2 : colRow 2 = true := by decide +kernel
theorem cr3 : colRow 3 = true := by decide +kernel
theorem cr4 : colRow 4 = true := by decide +kernel
theorem col_of {c : Col} (h : Small c) : colChk c = true := by
  obtain ⟨r, g, b⟩ := c
  obtain ⟨r0, r5, g0, g5, b0, b5⟩ := h
  dsimp only at r0 r5 g0 g5 b0 b5
  obtain ⟨r, rfl⟩ := Int.eq_ofNat_of_zero_le r0
  obtain ⟨g, rfl⟩ := Int.eq_ofNat_of_zero_le g0
  obtain ⟨b, rfl⟩ := Int.eq_ofNat_of_zero_le b0
  have hr : colRow r = true := by
    have : r < 5 := by omega
    match r, this with
    | 0, _ => exact cr0
    | 1, _ => exact cr1
    | 2, _ => exact cr2
    | 3, _ => exact cr3
    | 4, _ => exact cr4
  have h1 := List.all_eq_true.mp hr g (List.mem_range.mpr (by omega))
  exact List.all_eq_true.mp h1 b (List.mem_range.mpr (by omega))
theorem stepsOf {c : Col} (h : Small c) : Step (Float64.mul 4606703976345377586 (iC c)) (Float64.mul 4603791717925830846 (qC c)) (100 * c.1 - lightC c)
    ∧ Step (Float64.neg (Float64.mul 4598621754083818298 (iC c))) (Float64.neg (Float64.mul 4603901015759978483 (qC c))) (100 * c.2.1 - lightC c)
    ∧ Step (Float64.neg (Float64.mul 4607671262177584182 (iC c))) (Float64.mul 4610375502138591871 (qC c)) (100 * c.2.2 - lightC c) := by
  have hc := col_of h
  unfold colChk at hc
  simp only [Bool.and_eq_true] at hc
  exact ⟨stepChk_out hc.1.1, stepChk_out hc.1.2, stepChk_out hc.2⟩
theorem chan_r {c : Col} {L : Int} (h : Small c) (h0 : 0 ≤ L) (h1 : L ≤ 400) : IntOf (at400 (top1 (low0 (rOut (over400 L) (iC c) (qC c))))) (cut (100 * c.1 + L - lightC c)) := by
  have := chan_of (stepsOf h).1 h0 h1
  rw [show 100 * c.1 + L - lightC c = L + (100 * c.1 - lightC c) by omega]
  exact this
theorem chan_g {c : Col} {L : Int} (h : Small c) (h0 : 0 ≤ L) (h1 : L ≤ 400) : IntOf (at400 (top1 (low0 (gOut (over400 L) (iC c) (qC c))))) (cut (100 * c.2.1 + L - lightC c)) := by
  have := chan_of (stepsOf h).2.1 h0 h1
  rw [show 100 * c.2.1 + L - lightC c = L + (100 * c.2.1 - lightC c) by omega]
  unfold gOut Float64.sub
  exact this
theorem chan_b {c : Col} {L : Int} (h : Small c) (h0 : 0 ≤ L) (h1 : L ≤ 400) : IntOf (at400 (top1 (low0 (bOut (over400 L) (iC c) (qC c))))) (cut (100 * c.2.2 + L - lightC c)) := by
  have := chan_of (stepsOf h).2.2 h0 h1
  rw [show 100 * c.2.2 + L - lightC c = L + (100 * c.2.2 - lightC c) by omega]
  unfold bOut Float64.sub
  exact this
theorem chan_at {c : Col} {L : Int} (h : Small c) (h0 : 0 ≤ L) (h1 : L ≤ 400) {t1 t2 t3 : Tok} {i : Nat} {v : Value} (hi : i < 3)
    (hv : #[Value.float (top1 (low0 (rOut (over400 L) (iC c) (qC c)))) t1, .float (top1 (low0 (gOut (over400 L) (iC c) (qC c)))) t2, .float (top1 (low0 (bOut (over400 L) (iC c) (qC c)))) t3][i]? = some v) :
    ∃ x t, v = .float x t ∧ IntOf (at400 x) (cut (100 * [c.1, c.2.1, c.2.2].getD i 0 + L - lightC c)) := by
  match i, hi with
  | 0, _ => exact ⟨_, t1, (Option.some.inj hv).symm, chan_r h h0 h1⟩
  | 1, _ => exact ⟨_, t2, (Option.some.inj hv).symm, chan_g h h0 h1⟩
  | 2, _ => exact ⟨_, t3, (Option.some.inj hv).symm, chan_b h h0 h1⟩
end
section
open PySem PySem.W PyProof.Rows PySem.Calls PySem.Spec
set_option maxHeartbeats 2000000
open LCg
section
variable {prog : Program} {w : World} {A : Around} {E : Value → Shared → Prop} {s : Shared} {h₀ : Heap} {L : Addr} {m : Str → Option Value} {env : Env}
/-- the source is a tuple that stays in the ledger -/
def TupIn (ax : Addr) (its : Array Value) (nw : List (Addr × Obj)) : Prop := ∃ o, (ax, o) ∈ nw ∧ o.cls = .type "tuple" ∧ ∃ n, o.data = .seq its n
def SrcT (prog : Program) (w : World) (A : Around) (h₀ : Heap) (L : Addr) (m : Str → Option Value) (env : Env) (elt : Expr) (x : Str) (scope : Scope) (cl : List (Str × Addr)) (Fin : Shared → List Value → List (Addr × Obj) → Prop) (xv : Value) (s₁ : Shared) : Prop :=
  ∃ ax its news, xv = .ref ax ∧ A.handled = none ∧ Fr h₀ L s₁.heap m ∧ News h₀ L s₁.heap news ∧ TupIn ax its news ∧ its.size ≤ sizeLine ∧
    ∀ g, CompRest prog w A h₀ L m env elt x scope cl { s₁ with heap := g } (TupIn ax its) (fun i v => its[i]? = some v) (Fin { s₁ with heap := g }) its.size 0 [] news
theorem compT_eval {elt iter : Expr} {x : Str} {px : Pos} {scope : Scope} {cl : List (Str × Addr)} {pos : Pos} {Q : Value → Shared → Prop} (F₀ : Fr h₀ L s.heap m)
    (hclos : closureFor scope env = pure cl) (hcell : ∀ y ∈ scope.names, y.2 ≠ .cell) (hkind : scope.kind = .function)
    (hnames : ∀ y ∈ scope.names, y.2 = .local → scope.names.lookup y.1 = some .local) (hx : scope.names.lookup x = some .local)
    (h : wpAny (model prog w) A (eval iter env) (SrcT prog w A h₀ L m env elt x scope cl (fun s₂ => FinE h₀ L m s₂ Q)) E s)
    (hs : ∀ x, foldedSetIterable iter env x = pure x := by intro _; rfl) :
    wpAny (model prog w) A (eval (.ListComp elt [⟨.Name x px, iter, [], 0⟩] scope pos) env) Q E s := by
  rw [eval_ListComp]
  refine wpAny_comprehension_free (use := none) rfl hs hclos hkind hnames (wpAny_mono h (fun xv s₁ h₁ => ?_) fun _ _ e => e)
  obtain ⟨ax, its, news, rfl, hh, F, N, S, hsz, R⟩ := h₁
  obtain ⟨o, hm, hc, hd⟩ := S
  have ho := (N _ hm).1
  refine wpAny_pyIter_tuple ⟨o, ho, hc, hd⟩ ?_
  have up : ∀ b o, s₁.heap.get? b = some o → (s₁.heap.push { cls := .type "tuple_iterator", data := .fields #[.ref ax, .int 0 0] }).get? b = some o := fun b o e => Heap.get?_push_of_some _ e
  refine block_U (Walks.tuple hh s₁.heap.objs.size ax (Nat.ne_of_lt (Heap.lt_size ho)) its) hsz (fun i h st => by obtain ⟨o, e, _⟩ := st.1; exact ⟨o, e⟩) ?_ hcell hkind hx ⟨⟨_, Heap.get?_push_size _ rfl, rfl, rfl⟩, ⟨o, up _ _ ho, hc, hd⟩⟩ (fun b hb => ?_)
    (F.keeps up) (N.grown up) (Nat.ne_of_lt F.ns.lt) (next_is_new F) (fun p hp => Nat.ne_of_lt (Heap.lt_size (N p hp).1)) ⟨o, hm, hc, hd⟩ (R _) ?_
  · intro i h h' oI nw st e e' _ N' S'
    obtain ⟨o', hm', hc', hd'⟩ := S'
    refine ⟨?_, o', (N' _ hm').1, hc', hd'⟩
    obtain ⟨o'', q, r⟩ := st.1
    rw [e] at q
    cases q
    exact ⟨_, e', r⟩
  · show b < (s₁.heap.push _).objs.size
    rw [Heap.size_push]
    rcases List.mem_cons.mp hb with rfl | hb
    · exact Nat.lt_succ_self _
    · rw [List.mem_singleton.mp hb]; exact Nat.lt_succ_of_lt (Heap.lt_size ho)
  · intro D C h tk m' ys nw F' N' o1 hn hC₀ hD₀ hCL hDL hCD offC fin
    refine ⟨m', hn, fun h'' hs'' => fin D h'' tk (F'.change hs'' hCL hC₀) (fun p hp => ?_) o1⟩
    refine ⟨hs''.extBut _ _ ?_ (N' p hp).1, (N' p hp).2⟩
    rcases List.mem_cons.mp hp with rfl | hp
    · exact Ne.symm hCD
    · exact offC p hp
end
end
section
open PySem PySem.W PyProof.Rows PySem.Calls
local macro_rules | `(tactic| news_mem) => `(tactic| first | with_reducible assumption | with_reducible exact List.mem_cons_self | (with_reducible refine List.mem_cons_of_mem _ ?_; news_mem) | (with_reducible refine List.mem_append_left _ ?_; news_mem) | (with_reducible refine List.mem_append_right _ ?_; news_mem))
local macro_rules | `(tactic| k_mem) => `(tactic| news_mem)
local macro_rules | `(tactic| k_memK) => `(tactic| (refine mem_m ?_; news_mem))
local macro_rules | `(tactic| walk_at "exec For") => `(tactic| (k_here; (rename Fr _ _ _ _ => lF'); (with_unfolding_all refine' For_invVF lF' ?k1 ?k2 ?_; (case k1 => exact rfl); (case k2 => exact rfl); k_whole)))
local macro_rules | `(tactic| walk_at "binaryOp Div int int") => `(tactic| k_dflt (refine' div4 ?k1 (by assumption) ?_; (case k1 => exact rfl); k_whole))
local macro_rules | `(tactic| walk_at "call type:range") => `(tactic| ((rename Fr _ _ _ _ => F'); (rename News _ _ _ _ => N'); (with_unfolding_all refine range1_rows F' N' ?_; intro _ _ _ _ _ _ _ _ _)))
theorem same_of {x : Str} {stored : List Str} {m' m₀ : Str → Option Value} (hx : stored.contains x = true) (h : ∀ z, z ≠ x → (∀ p ∈ ([] : List (Str × Value)), z ≠ p.1) → stored.contains z = false → m' z = m₀ z) : ∀ z, stored.contains z = false → m' z = m₀ z :=
  fun z hz => h z (fun e => by rw [e, hx] at hz; cases hz) (fun _ h => nomatch h) hz
theorem light_range {cols : List Col} {ns : List Int} {x : Int} (hs : ∀ {i : Nat} {c : Col}, cols[i]? = some c → Small c) (hns : ns = cols.map lightC) (hx : x ∈ ns) : 0 ≤ x ∧ x ≤ 400 := by
  subst hns
  obtain ⟨c, hc, rfl⟩ := List.mem_map.mp hx
  obtain ⟨i, hi⟩ := List.mem_iff_getElem?.mp hc
  obtain ⟨r0, r5, g0, g5, b0, b5⟩ := hs hi
  unfold lightC
  omega
structure ColSt where
  nn : Nat
  cv : List Value
  subs : List (Addr × Obj)
theorem col_grow {h₀ h : Heap} {L I C l : Addr} {oI : Obj} {m' m₀ : Str → Option Value} {cv : List Value} {nn i tk : Nat} {x : Int} {t1 t2 t3 : Tok} {base subs : List (Addr × Obj)} {nums : List Int} {nm : Str} {s₁ : Shared}
    (F : Fr h₀ L h m') (N : News h₀ L h ((l, listOf #[.int (x.fmod 5) t1, .int ((x.fdiv 5).fmod 5) t2, .int ((x.fdiv 25).fmod 5) t3] 0) :: (I, oI) :: (C, listOf (cv.toArray.push (.ref l)) (nn + 1)) :: (base ++ subs)))
    (hI : (@LT.lt Nat _ I l) ∧ (@LT.lt Nat _ C l) ∧ AllLt l (base ++ subs)) (hne : ∀ p ∈ (C, listOf cv.toArray nn) :: (base ++ subs), p.1 ≠ I) (hf : ∀ p ∈ subs, @LT.lt Nat _ C p.1) (hi : i < nums.length) (hx : x = nums.getD i 0)
    (hp : Refs isCol subs cv ((nums.take i).map colOf)) (hk : ∀ p ∈ [(Str.ofString "colours", Value.ref C)], m' p.1 = some p.2) (hr : ∀ z, z ≠ nm → (∀ p ∈ [(Str.ofString "colours", Value.ref C)], z ≠ p.1) → ([] : List Str).contains z = false → m' z = m₀ z) :
    GrowEnd h₀ L I oI (fun m nx => KstS (fun c : ColSt => (C, listOf c.cv.toArray c.nn) :: (base ++ c.subs)) (fun _ => [(Str.ofString "colours", Value.ref C)]) (fun c => ∀ p ∈ c.subs, @LT.lt Nat _ C p.1) nm [] m₀ (fun _ c => Refs isCol c.subs c.cv ((nums.take (i + 1)).map colOf)) [] m nx) s₁ { s₁ with heap := h, toks := tk } := by
  refine grow_end (σ := ColSt) ⟨nn + 1, cv ++ [.ref l], (l, listOf #[.int (x.fmod 5) t1, .int ((x.fdiv 5).fmod 5) t2, .int ((x.fdiv 25).fmod 5) t3] 0) :: subs⟩ F N ?_ ?_ ?_ ?_ hk hr ?_
  · exact List.mem_cons_of_mem _ List.mem_cons_self
  · intro p hp
    rcases List.mem_cons.mp hp with rfl | hp
    · refine List.mem_cons_of_mem _ (List.mem_cons_of_mem _ ?_)
      dsimp only
      rw [← List.push_toArray]
      exact List.mem_cons_self
    · rcases List.mem_append.mp hp with hp | hp
      · exact List.mem_cons_of_mem _ (List.mem_cons_of_mem _ (List.mem_cons_of_mem _ (List.mem_append_left _ hp)))
      · rcases List.mem_cons.mp hp with rfl | hp
        · exact List.mem_cons_self
        · exact List.mem_cons_of_mem _ (List.mem_cons_of_mem _ (List.mem_cons_of_mem _ (List.mem_append_right _ hp)))
  · intro p hp
    rcases List.mem_cons.mp hp with rfl | hp
    · exact hne (C, listOf cv.toArray nn) List.mem_cons_self
    · rcases List.mem_append.mp hp with hp | hp
      · exact hne p (List.mem_cons_of_mem _ (List.mem_append_left _ hp))
      · rcases List.mem_cons.mp hp with rfl | hp
        · exact Nat.ne_of_gt hI.1
        · exact hne p (List.mem_cons_of_mem _ (List.mem_append_right _ hp))
  · intro p hp
    rcases List.mem_cons.mp hp with rfl | hp
    · exact hI.2.1
    · exact hf p hp
  · rw [take_map_snoc hi]
    refine (hp.mono fun _ h => List.mem_cons_of_mem _ h).snoc List.mem_cons_self ?_
    rw [← hx]
    exact ⟨t1, t2, t3, rfl⟩
set_option maxRecDepth 100000 in
set_option maxHeartbeats 40000000 in
theorem walked : PySem.Challenge.rw_xg0039_01.Holds := hd (by
  w_top off
  k_go0
  iterate 28 (k_extra "mine step")
  rename_i w2 w1 w0 left2 left1 left0 X0 C hb4 l1a hb3 D1 ws1 hb2 hI1 hC1 hL1 l1b l2 hb1 l1c DL ws hb0 lF lN hI l1d
  (rename List Int => scr)
  obtain ⟨nums, hnums⟩ : ∃ nums : List Int, nums = List.take 3 scr ++ [120, 24, 100] := ⟨_, rfl⟩
  rw [← hnums] at hI
  have hwl := hI.length
  have hnl : nums.length ≤ 6 := by rw [hnums, List.length_append, List.length_take]; simp; omega
  have hbase : ∀ p ∈ [(DL, listOf ws.toArray 0), (_, w2), (_, w1), (_, w0)], p.1 ≠ C := List.forall_mem_cons.mpr ⟨Nat.ne_of_gt l1d.2.2.1, List.forall_mem_cons.mpr ⟨Nat.ne_of_lt l1a.1, List.forall_mem_cons.mpr ⟨Nat.ne_of_lt l1a.2.1, List.forall_mem_cons.mpr ⟨Nat.ne_of_lt l1a.2.2, List.forall_mem_nil _⟩⟩⟩⟩
  refine' grow_list (σ := ColSt) (fun c => (C, listOf c.cv.toArray c.nn) :: ([(DL, listOf ws.toArray 0), (_, w2), (_, w1), (_, w0)] ++ c.subs)) (fun c => [(Str.ofString "colours", .ref C)]) (fun c => ∀ p ∈ c.subs, @LT.lt Nat _ C p.1)
    [] (fun i c => Refs isCol c.subs c.cv ((nums.take i).map colOf)) ⟨0, [], []⟩ rfl (fun c => by news_mem) lF ?N (List.forall_mem_nil _) ?kk ?kp ?turn ?done
  (case kk => kst_all)
  (case N => exact kst_newsOf lN (List.forall_mem_cons.mpr ⟨by news_mem, List.forall_mem_cons.mpr ⟨by news_mem, List.forall_mem_cons.mpr ⟨by news_mem, List.forall_mem_cons.mpr ⟨by news_mem, List.forall_mem_cons.mpr ⟨by news_mem, List.forall_mem_nil _⟩⟩⟩⟩⟩))
  (case kp => rw [List.take_zero]; exact trivial)
  clear lF lN
  · rintro ⟨nn, cv, subs⟩ i v u h tk I oI hv hil hne9 hf hp F9 N9
    dsimp only [kstB] at hne9 hf hp F9 N9
    obtain ⟨t9, rfl⟩ := ints_at hI hv (by omega)
    (try k_fold)
    have hIC : I ≠ C := Ne.symm (hne9 _ List.mem_cons_self)
    have hrest : ∀ p ∈ [(DL, listOf ws.toArray 0), (_, w2), (_, w1), (_, w0)] ++ subs, p.1 ≠ C := fun p hp => (List.mem_append.mp hp).elim (hbase p) (fun h => Nat.ne_of_gt (hf p h))
    have hcl := hp.length
    rw [List.length_map, List.length_take] at hcl
    iterate 32 (k_extra "mine step")
    (rename Fr _ _ _ _ => fF)
    (rename News _ _ _ _ => fN)
    (rename (_ < _ ∧ _ < _ ∧ AllLt _ _) => hl9)
    refine append_K fF fN (Upd.tail (Nat.ne_of_gt hl9.2.1) (Upd.tail hIC (Upd.head hrest))) ?_ (by rw [List.size_toArray, sizeLine_eq]; omega)
    intro h5 F5 N5
    clear fF fN
    k_steps
    exact col_grow F5 N5 hl9 hne9 hf (by omega) rfl hp (by kst_all) (by kst_same)
  · rintro ⟨nn, cv, subs⟩ u h tk hf hp F9 N9
    dsimp only [kstB] at hf hp F9 N9
    (try k_fold)
    rw [hwl, List.take_length] at hp
    obtain ⟨cols, hcols⟩ : ∃ cols : List Col, cols = nums.map colOf := ⟨_, rfl⟩
    have hsmall : ∀ {i : Nat} {c : Col}, cols[i]? = some c → Small c := fun h => col_small (hcols ▸ h)
    have hcl : cv.length = cols.length := by rw [hcols]; exact hp.length
    have hcn : cols.length ≤ 6 := by rw [hcols, List.length_map]; exact hnl
    have hcn3 : 3 ≤ cols.length := by rw [hcols, List.length_map, hnums, List.length_append]; exact Nat.le_add_left _ _
    rw [← hcols] at hp
    clear hI hwl hnl
    obtain ⟨fix, N1, hfix, mC, hpf⟩ : ∃ fix, News _ _ _ (Led3 _ _ _ w2 w1 w0 fix) ∧ LCg.Off3 _ _ _ fix ∧ (C, listOf cv.toArray nn) ∈ fix ∧ Refs isCol fix cv cols := by
      refine ⟨(C, listOf cv.toArray nn) :: subs, kst_newsOf N9 ?_, LCg.Off3.of fun p hp => ?_, List.mem_cons_self, hp.mono fun _ h => List.mem_cons_of_mem _ h⟩
      · intro p hp
        rcases List.mem_cons.mp hp with rfl | hp
        · news_mem
        · rcases List.mem_cons.mp hp with rfl | hp
          · news_mem
          · rcases List.mem_cons.mp hp with rfl | hp
            · news_mem
            · rcases List.mem_cons.mp hp with rfl | hp
              · news_mem
              · news_mem
      · rcases List.mem_cons.mp hp with rfl | hp
        · exact ⟨Nat.ne_of_gt l1a.1, Nat.ne_of_gt l1a.2.1, Nat.ne_of_gt l1a.2.2⟩
        · have := hf p hp
          exact ⟨Nat.ne_of_gt (Nat.lt_trans l1a.1 this), Nat.ne_of_gt (Nat.lt_trans l1a.2.1 this), Nat.ne_of_gt (Nat.lt_trans l1a.2.2 this)⟩
    clear N9 hp hf hbase lF lN X0
    rename Refs isCol fix cv cols => hp
    iterate 1 (k_extra "mine step")
    k_here
    k_dflt (refine comp3_assign (F₀ := by k_asm) (by rfl) (by with_unfolding_all rfl) (by with_unfolding_all rfl) (by decide) (by rfl) (by decide) (by rfl) (by rfl) (by rfl) (by decide) (by decide) (by decide) (by rfl) (by rfl) ?_)
    iterate 1 (k_extra "mine step")
    refine Src3.mk (nn := nn) (its := cv) (JNew isTone (Led3 _ _ _ w2 w1 w0 fix) cols) rfl (by k_asm) N1 ?za .zero ?zb ?zc ?zd
    case za => rw [sizeLine_eq]; omega
    case zb => exact fun i ys nw h => h.mem _ (List.mem_cons_of_mem _ (List.mem_cons_of_mem _ (List.mem_cons_of_mem _ mC)))
    case zc =>
      intro g i v ys nw hv hj
      obtain ⟨c, t, o, hc, rfl, hm, t1, t2, t3, rfl⟩ := hp.get hv
      refine ⟨t, .int c.1 t1, .int c.2.1 t2, .int c.2.2 t3, 0, rfl, hj.mem _ (List.mem_cons_of_mem _ (List.mem_cons_of_mem _ (List.mem_cons_of_mem _ hm))), ?_⟩
      have hsm := hsmall hc
      have hs1 : c.1.natAbs < 5 := by have := hsm.r0; have := hsm.r5; omega
      have hs2 : c.2.1.natAbs < 5 := by have := hsm.g0; have := hsm.g5; omega
      have hs3 : c.2.2.natAbs < 5 := by have := hsm.b0; have := hsm.b5; omega
      intro I oI C9 oC D9 m2 h9 tk9 E' hC hx hy hz F2 N2 off ne
      iterate 21 (k_extra "mine step")
      (k_here; k_dflt (refine' does_use ?k1 ?k2 ?k3 ?k4 ?k5 ?kK ?C ?kd ?ku ?_; (case k1 => k_asm); (case k2 => k_asm); (case k3 => k_asm); (case k4 => k_asm); (case k5 => k_asm); (case kK => first | exact rfl | assumption); (case C => exact yiq_does); (case kd => ktr_room); (case ku => ktr_units); k_whole))
      rintro ⟨T, u1, u2, u3⟩ h5 tk5 F5 N5 hlt
      exact hj.end hc F5 N5 hlt off ⟨u1, u2, u3, rfl⟩
    case zd =>
      intro g tys nw htl hj
      rw [hcl] at hj htl
      obtain ⟨tex, rfl, hr, htx⟩ := hj
      rw [List.take_length] at hr
      intro S h6 tk6 F6 N6 o6
      obtain ⟨fix1, N7, hfix1, mS, up1, upt⟩ := refix N6 o6 hfix htx
      clear F9 N1 N6 o6 htx
      have mC := up1 _ mC
      have hp := hp.mono up1
      have hr := hr.mono upt
      clear up1 upt hfix
      iterate 1 (k_extra "mine step")
      k_here
      k_dflt (with_reducible refine wpAny_Assign_Name ?_ ?zs; rotate_left; with_unfolding_all rfl)
      k_dflt (refine LCg.ListComp_U (F₀ := by k_asm) (by with_unfolding_all rfl) (by decide) (by rfl) (by decide) (by rfl) ?_)
      iterate 1 (k_extra "mine step")
      refine LCg.CompSrc.ledger rfl F6 N7 (List.mem_cons_of_mem _ (List.mem_cons_of_mem _ (List.mem_cons_of_mem _ mS))) (by rw [List.size_toArray, sizeLine_eq]; omega) ?_
      intro g1
      refine rest_J (JInt lightC _ cols) .zero (fun _ _ _ h => h.1 ▸ .inr ⟨_, List.mem_cons_of_mem _ (List.mem_cons_of_mem _ (List.mem_cons_of_mem _ mS)), rfl, _, rfl⟩) ?ze ?zf
      case ze =>
        intro i v ys nw hi hv hj
        have hv : tys[i]? = some v := by simpa using hv
        obtain ⟨c, T, o, hc, rfl, hm, t1, t2, t3, rfl⟩ := hr.get hv
        have hj' := hj
        obtain ⟨rfl, hys⟩ := hj'
        intro I oI C9 oC D9 m2 h9 tk9 E' hC hx F2 N2 off ne
        iterate 15 (k_extra "mine step")
        k_here
        k_dflt (refine int_of (light_of (hsmall hc)) ?_)
        exact hj.end hc F2 N2 off rfl
      case zf =>
        intro lys nw hyl hj
        obtain ⟨rfl, hli⟩ := hj
        rw [List.size_toArray, htl] at hyl hli
        rw [List.take_length] at hli
        intro Lt h7 tk7 F7 N8 o7
        obtain ⟨fix2, N9, hfix2, mL, up2⟩ := refix1 N8 o7 hfix1
        clear F6 N7 N8 o7
        have mC := up2 _ mC
        have mS := up2 _ mS
        have hp := hp.mono up2
        have hr := hr.mono up2
        clear up2 hfix1
        k_here
        refine storeX_C F7 N9 rfl (.tail (by k_ne) (.tail (by k_ne) (.head fun p hp => (hfix2.mem p hp).2.2))) left0 ?_ rfl rfl
        intro h8 w0' F8 N8 d8
        clear F7 N9 left0 w0
        (try dsimp only)
        iterate 4 (k_extra "mine step")
        k_here
        k_dflt (refine comp3_eval (F₀ := by k_asm) (by with_unfolding_all rfl) (by decide) (by rfl) (by decide) (by rfl) (by rfl) (by rfl) (by decide) (by decide) (by decide) ?_)
        iterate 1 (k_extra "mine step")
        refine Src3.mk (nn := nn) (its := cv) (JInt lightC (Led3 _ _ _ w2 w1 w0' fix2) cols) rfl (by k_asm) N8 ?za .zero ?zb ?zc ?zd
        case za => rw [sizeLine_eq]; omega
        case zb => exact fun i ys nw h => h.1 ▸ (List.mem_cons_of_mem _ (List.mem_cons_of_mem _ (List.mem_cons_of_mem _ mC)))
        case zc =>
          intro g i v ys nw hv hj
          obtain ⟨c, t, o, hc, rfl, hm, t1, t2, t3, rfl⟩ := hp.get hv
          refine ⟨t, .int c.1 t1, .int c.2.1 t2, .int c.2.2 t3, 0, rfl, hj.1 ▸ (List.mem_cons_of_mem _ (List.mem_cons_of_mem _ (List.mem_cons_of_mem _ hm))), ?_⟩
          intro I oI C9 oC D9 m2 h9 tk9 E' hC hx hy hz F2 N2 off ne
          iterate 16 (k_extra "mine step")
          exact hj.end hc F2 N2 off rfl
        case zd =>
          intro g2 rys nw hyl2 hj
          rw [hcl] at hyl2 hj
          obtain ⟨rfl, hri⟩ := hj
          rw [List.take_length] at hri
          intro R9 h9 tk9 F9 N9 o9
          clear F8 N8
          obtain ⟨fix3, N10, hfix3, mR, up3⟩ := refix1 N9 o9 hfix2
          have mC := up3 _ mC
          have mS := up3 _ mS
          have mL := up3 _ mL
          have hp := hp.mono up3
          have hr := hr.mono up3
          clear up3 hfix2 N9 o9
          obtain ⟨ns, hns⟩ : ∃ ns : List Int, ns = cols.map lightC := ⟨_, rfl⟩
          rw [← hns] at hli
          have hnl : ns.length = cols.length := by rw [hns, List.length_map]
          have hne : ns ≠ [] := fun e => by rw [e] at hnl; have : cols.length = 0 := hnl.symm; omega
          have memL : ∀ {p : Addr × Obj} {f w2 w1 w0} {c2 c1 c0 : Addr}, p ∈ f → p ∈ Led3 c2 c1 c0 w2 w1 w0 f := fun h => List.mem_cons_of_mem _ (List.mem_cons_of_mem _ (List.mem_cons_of_mem _ h))
          iterate 14 (k_extra "mine step")
          (k_here; k_dflt (refine' does_use ?k1 ?k2 ?k3 ?k4 ?k5 ?kK ?C ?kd ?ku ?_; (case k1 => k_asm); (case k2 => k_asm); (case k3 => k_asm); (case k4 => k_asm); (case k5 => k_asm); (case kK => first | exact rfl | assumption); (case C => exact (fit_does (memL mL) hli (by omega) hne)); (case kd => ktr_room); (case ku => ktr_units); k_whole))
          rintro ⟨Ft, fv, fn⟩ h10 tk10 F10 N11 ⟨hlt, hfi⟩
          obtain ⟨fix4, N12, hfix4, mF, up4⟩ := refix1 N11 (off1_of hlt) hfix3
          have mC := up4 _ mC
          have mS := up4 _ mS
          have mL := up4 _ mL
          have hp := hp.mono up4
          have hr := hr.mono up4
          clear up4 hfix3 N10 N11 hlt F9
          (try dsimp only)
          k_here
          refine storeX_C F10 N12 rfl (.tail (by k_ne) (.head fun p hp => ?_)) left1 ?_ rfl rfl
          · rcases List.mem_cons.mp hp with rfl | hp
            · k_ne
            · exact (hfix4.mem p hp).2.1
          intro h11 w1' F11 N13 d11
          clear F10 N12 left1 w1
          (try dsimp only)
          iterate 7 (k_extra "mine step")
          k_here
          k_dflt (refine LCg.ListComp_U (F₀ := by k_asm) (by with_unfolding_all rfl) (by decide) (by rfl) (by decide) (by rfl) ?_)
          iterate 13 (k_extra "mine step")
          (rename Fr _ _ _ _ => F14)
          (rename News _ _ _ _ => N14)
          (rename IsRange _ _ _ _ _ _ _ _ => hR)
          refine LCg.CompSrc.range (n := ns.length) rfl F14 N14 hR (rng_small (by omega)) rng_size (by rw [sizeLine_eq]; omega) ?_
          intro g3
          refine rest_J (JInt (fun i : Nat => ((((newLights ns).getD i 0 - ns.getD i 0).natAbs : Nat) : Int)) _ (List.range ns.length)) .zero (fun _ _ _ _ => trivial) ?zh ?zi
          case zh =>
            rintro i v ys nw hi ⟨t9, rfl⟩ hj
            have hj' := hj
            obtain ⟨rfl, hys⟩ := hj'
            intro I oI C9 oC D9 m2 h12 tk12 E' hC hx F2 N2 off ne
            rw [Int.zero_add] at hx
            (try dsimp only)
            iterate 8 (k_extra "mine step")
            k_here
            refine item_anyK (N2.isList (List.mem_cons_of_mem _ (List.mem_cons_of_mem _ (List.mem_cons_of_mem _ (memL mF))))) hfi (Int.natCast_nonneg i) (by rw [newLights_length]; omega) (by omega) (fun ta => ?_) (by with_unfolding_all rfl)
            iterate 3 (k_extra "mine step")
            k_here
            refine item_anyK (N2.isList (List.mem_cons_of_mem _ (List.mem_cons_of_mem _ (List.mem_cons_of_mem _ (memL mL))))) hli (Int.natCast_nonneg i) (by omega) (by omega) (fun tb => ?_) (by with_unfolding_all rfl)
            iterate 3 (k_extra "mine step")
            exact hj.end (List.getElem?_range (by omega)) F2 N2 off (abs_if _)
          case zi =>
            intro ays nw hyl3 hj
            obtain ⟨rfl, hai⟩ := hj
            rw [List.take_of_length_le (by rw [List.length_range]; exact Nat.le_refl _)] at hai
            intro At h12 tk12 F15 N15 o15
            obtain ⟨fix5, N16, hfix5, mA, up5⟩ := refix1 N15 o15 hfix4
            have mC := up5 _ mC
            have mS := up5 _ mS
            have mL := up5 _ mL
            have mF := up5 _ mF
            have hp := hp.mono up5
            have hr := hr.mono up5
            clear up5 hfix4 N15 o15 F14 N14
            iterate 1 (k_extra "mine step")
            walk1
            iterate 7 (k_extra "mine step")
            (k_here; k_dflt (refine' does_use ?k1 ?k2 ?k3 ?k4 ?k5 ?kK ?C ?kd ?ku ?_; (case k1 => k_asm); (case k2 => k_asm); (case k3 => k_asm); (case k4 => k_asm); (case k5 => k_asm); (case kK => first | exact rfl | assumption); (case C => exact (least_does (memL mL) hli (by omega) hne)); (case kd => ktr_room); (case ku => ktr_units); k_whole))
            rintro ⟨mm, tm⟩ h13 tk13 F17 N17 hleast
            iterate 2 (k_extra "mine step")
            refine ite_neg ?_ ?_
            · have e := fit_cost hne hleast
              unfold costOf at e
              rw [e]
              simp
            clear hleast hai
            (rename IntsAre _ (newLights ns) => hfi)
            dsimp only at hfi
            iterate 4 (k_extra "mine step")
            (rename Fr _ _ _ _ => lF)
            (rename News _ _ _ _ => lN)
            refine' grow_list (σ := Unit) (fun _ => Led3 _ _ _ w2 w1' w0' fix5) (fun _ => []) (fun _ => True) [] (fun _ _ => True) () rfl (fun _ => memL mL) lF lN trivial ?kk9 trivial ?turn9 ?done9
            (case kk9 => exact List.forall_mem_nil _)
            case turn9 =>
              rintro ⟨⟩ i v u9 h14 tk14 I oI hv hil hne9 - - F9 N9
              dsimp only [kstB] at F9
              obtain ⟨t9, rfl⟩ := ints_at hli hv (by omega)
              (try k_fold)
              obtain ⟨k1, hk1, hk1l, hk1c⟩ := fit_cut ns (ns.getD i 0)
              obtain ⟨k2, hk2, hk2l, hk2c⟩ := fit_cut ns (ns.getD i 0 + 1)
              (try rename IntsAre _ (newLights ns) => hfi)
              iterate 12 (k_extra "mine step")
              (try rename IntsAre _ (newLights ns) => hfi)
              (k_here; k_dflt (refine' does_use ?k1 ?k2 ?k3 ?k4 ?k5 ?kK ?C ?kd ?ku ?_; (case k1 => k_asm); (case k2 => k_asm); (case k3 => k_asm); (case k4 => k_asm); (case k5 => k_asm); (case kK => first | exact rfl | assumption); (case C => exact (bl2_does (c := k1) (List.mem_cons_of_mem _ (memL mF)) hfi (by rw [newLights_length]; omega) (by rw [newLights_length]; exact hk1l) (by rw [newLights_length]; exact cut_l hk1c))); (case kd => ktr_room); (case ku => ktr_units); k_whole))
              intro tb h15 tk15 F10 N10 _
              iterate 9 (k_extra "mine step")
              (try rename IntsAre _ ns => hli)
              (k_here; k_dflt (refine' does_use ?k1 ?k2 ?k3 ?k4 ?k5 ?kK ?C ?kd ?ku ?_; (case k1 => k_asm); (case k2 => k_asm); (case k3 => k_asm); (case k4 => k_asm); (case k5 => k_asm); (case kK => first | exact rfl | assumption); (case C => exact (low_does (List.mem_cons_of_mem _ (memL mL)) hli (by omega))); (case kd => ktr_room); (case ku => ktr_units); k_whole))
              intro tc h16 tk16 F11 N11 _
              iterate 2 (k_extra "mine step")
              refine ite_neg (by rw [hk1]; simp) ?_
              iterate 13 (k_extra "mine step")
              (try rename IntsAre _ (newLights ns) => hfi)
              (try rename IntsAre _ ns => hli)
              (k_here; k_dflt (refine' does_use ?k1 ?k2 ?k3 ?k4 ?k5 ?kK ?C ?kd ?ku ?_; (case k1 => k_asm); (case k2 => k_asm); (case k3 => k_asm); (case k4 => k_asm); (case k5 => k_asm); (case kK => first | exact rfl | assumption); (case C => exact (br2_does (c := k2) (List.mem_cons_of_mem _ (memL mF)) hfi (by rw [newLights_length]; omega) (by rw [newLights_length]; exact hk2l) (by rw [newLights_length]; exact cut_r hk2c))); (case kd => ktr_room); (case ku => ktr_units); k_whole))
              intro td h17 tk17 F12 N12 _
              iterate 12 (k_extra "mine step")
              (try rename IntsAre _ ns => hli)
              (k_here; k_dflt (refine' does_use ?k1 ?k2 ?k3 ?k4 ?k5 ?kK ?C ?kd ?ku ?_; (case k1 => k_asm); (case k2 => k_asm); (case k3 => k_asm); (case k4 => k_asm); (case k5 => k_asm); (case kK => first | exact rfl | assumption); (case C => exact (low_does (List.mem_cons_of_mem _ (memL mL)) hli (by omega))); (case kd => ktr_room); (case ku => ktr_units); k_whole))
              intro te h18 tk18 F13 N13 _
              iterate 2 (k_extra "mine step")
              refine ite_neg (by rw [hk2]; simp) ?_
              clear F9 N9 F10 N10 F11 N11 F12 N12
              k_steps
              exact grow_end (σ := Unit) () F13 N13 List.mem_cons_self (fun p hp => List.mem_cons_of_mem _ hp) hne9 trivial (List.forall_mem_nil _) (by kst_same) trivial
            case done9 =>
              rintro ⟨⟩ u9 h14 tk14 - - F9 N9
              dsimp only [kstB] at F9
              (try k_fold)
              iterate 1 (k_extra "mine step")
              k_here
              (rename Fr _ _ _ _ => lF)
              k_dflt (refine For_cellF lF rfl rfl rfl ?_)
              iterate 10 (k_extra "mine step")
              (rename News _ _ _ _ => N18)
              k_here
              refine kun_lenL (k := (ns.length : Int)) (N18.isList (memL mC)) (by rw [List.size_toArray, hcl, hnl]) (by omega) ?_
              iterate 2 (k_extra "mine step")
              (rename Fr _ _ _ _ => F18)
              (rename News _ _ _ _ => N18)
              (rename IsRange _ _ _ _ _ _ _ _ => hR2)
              refine ⟨_, ns.length, _, _, _, _, [Str.ofString "made", Str.ofString "due"], _, w2, _, rfl, hR2, rng_small (by omega), rng_size, rfl, F18, N18, left2, ?zk, ?zl, ?zm⟩
              case zk =>
                intro p hp
                rcases List.mem_cons.mp hp with rfl | hp
                · k_ne
                · rcases List.mem_cons.mp hp with rfl | hp
                  · k_ne
                  · exact (hfix5.mem p hp).1
              case zl =>
                intro i t8 u h19 tk19 I oI w2' hil hdk F19 N19 hIc hIn
                clear F18 N18
                (try k_fold)
                have hN : ∀ {p : Addr × Obj} {a b c d : Addr × Obj}, p ∈ fix5 → p ∈ a :: b :: c :: d :: fix5 := fun h => List.mem_cons_of_mem _ (List.mem_cons_of_mem _ (List.mem_cons_of_mem _ (List.mem_cons_of_mem _ h)))
                obtain ⟨vT, hvT⟩ : ∃ v, tys[i]? = some v := ⟨_, List.getElem?_eq_getElem (by omega)⟩
                obtain ⟨c, T, oT, hc, rfl, hmT, t1, t2, t3, rfl⟩ := hr.get hvT
                obtain ⟨vC, hvC⟩ : ∃ v, cv[i]? = some v := ⟨_, List.getElem?_eq_getElem (by omega)⟩
                obtain ⟨c', TC, oC, hc', rfl, hmC, t4, t5, t6, rfl⟩ := hp.get hvC
                have hcc : c' = c := by rw [hc] at hc'; exact (Option.some.inj hc').symm
                subst hcc
                have hsm := hsmall hc
                have hL : ns.getD i 0 = lightC c' := by rw [hns, List.getD_eq_getElem?_getD, List.getElem?_map, hc]; rfl
                obtain ⟨Lf, hLf⟩ : ∃ Lf, Lf = (newLights ns).getD i 0 := ⟨_, rfl⟩
                have hLb : 0 ≤ Lf ∧ Lf ≤ 400 := light_range hsmall hns (hLf ▸ newLights_mem (getD_mem (by rw [newLights_length]; omega)))
                iterate 10 (k_extra "mine step")
                (try rename IntsAre _ (newLights ns) => hfi)
                (try rename IntsAre _ ns => hli)
                k_here
                refine item_anyK (N19.isList (hN mF)) hfi (Int.natCast_nonneg i) (by rw [newLights_length]; omega) (by omega) (fun ta => ?_) (by with_unfolding_all rfl)
                rw [Int.toNat_natCast, ← hLf]
                iterate 1 (k_extra "mine step")
                k_here
                k_dflt (refine div400 rfl (by omega) ?_)
                iterate 5 (k_extra "mine step")
                k_here
                refine item_val (N19.isList (hN mS)) hvT (by omega) ?_ (by with_unfolding_all rfl)
                iterate 1 (k_extra "mine step")
                walk1
                iterate 5 (k_extra "mine step")
                k_here
                refine item_val (N19.isList (hN mS)) hvT (by omega) ?_ (by with_unfolding_all rfl)
                iterate 1 (k_extra "mine step")
                walk1
                iterate 2 (k_extra "mine step")
                (k_here; k_dflt (refine' does_use ?k1 ?k2 ?k3 ?k4 ?k5 ?kK ?C ?kd ?ku ?_; (case k1 => k_asm); (case k2 => k_asm); (case k3 => k_asm); (case k4 => k_asm); (case k5 => k_asm); (case kK => first | exact rfl | assumption); (case C => exact rgb_does); (case kd => ktr_room); (case ku => ktr_units); k_whole))
                rintro ⟨M, v1, v2, v3⟩ h20 tk20 F20 N20 hlt20
                clear F19 N19
                iterate 3 (k_extra "mine step")
                (rename News _ _ _ _ => N21)
                k_here
                k_dflt (refine LCg.Assign_ListComp_U (F₀ := by k_asm) (by rfl) (by with_unfolding_all rfl) (by with_unfolding_all rfl) (by decide) (by rfl) (by decide) (by rfl) (by rfl) (by rfl) ?_)
                iterate 3 (k_extra "mine step")
                k_here
                refine item_val (N21.isList (by news_mem)) hvC (by omega) ?_ (by with_unfolding_all rfl)
                skip
                (rename Fr _ _ _ _ => F21)
                have hIC : IntsAre [.int c'.1 t4, .int c'.2.1 t5, .int c'.2.2 t6] [c'.1, c'.2.1, c'.2.2] := .cons _ _ (.cons _ _ (.cons _ _ .nil))
                refine LCg.CompSrc.ledger (its := [Value.int c'.1 t4, .int c'.2.1 t5, .int c'.2.2 t6].toArray) (k := 0) rfl F21 N21 (by news_mem) (by rw [sizeLine_eq]; simp) ?_
                intro g4
                refine rest_J (JInt (fun p => cut (100 * p + Lf - lightC c')) _ [c'.1, c'.2.1, c'.2.2]) .zero (fun _ _ _ h => h.1 ▸ .inr ⟨_, (by news_mem), rfl, _, rfl⟩) ?zn ?zo
                case zn =>
                  intro i2 v ys nw hi2 hv hj
                  have hi3 : i2 < 3 := hi2
                  obtain ⟨t7, rfl⟩ := ints_at hIC (by simpa using hv) hi3
                  have hj' := hj
                  obtain ⟨rfl, hys⟩ := hj'
                  intro I2 oI2 C9 oC D9 m2 h21 tk21 E' hC hx F2 N2 off ne
                  (try dsimp only)
                  iterate 21 (k_extra "mine step")
                  k_here
                  refine item_anyK (N2.isList (by news_mem)) hfi (Int.natCast_nonneg i) (by rw [newLights_length]; omega) (by omega) (fun tb => ?_) (by with_unfolding_all rfl)
                  rw [Int.toNat_natCast, ← hLf]
                  iterate 4 (k_extra "mine step")
                  k_here
                  refine item_anyK (N2.isList (by news_mem)) hli (Int.natCast_nonneg i) (by omega) (by omega) (fun td => ?_) (by with_unfolding_all rfl)
                  rw [Int.toNat_natCast, hL]
                  iterate 5 (k_extra "mine step")
                  (rename Fr _ _ _ _ => F3)
                  (rename News _ _ _ _ => N3)
                  exact hj.end (at3 hi3) F3 N3 off (cut_if _)
                case zo =>
                  intro dys nw hyl5 hj
                  obtain ⟨rfl, hdi⟩ := hj
                  rw [List.take_of_length_le (by exact Nat.le_refl _)] at hdi
                  intro Dt h22 tk22 F22 N22 o22
                  clear F21 N21
                  iterate 3 (k_extra "mine step")
                  k_here
                  k_dflt (refine compT_eval (F₀ := by k_asm) (by with_unfolding_all rfl) (by decide) (by rfl) (by decide) (by rfl) ?_)
                  iterate 1 (k_extra "mine step")
                  refine ⟨M, _, _, rfl, rfl, F22, N22, ⟨_, (by news_mem), rfl, _, rfl⟩, (by rw [sizeLine_eq]; simp), ?_⟩
                  intro g5
                  refine rest_J (JInt (fun p => cut (100 * p + Lf - lightC c')) _ [c'.1, c'.2.1, c'.2.2]) .zero (fun _ _ _ h => h.1 ▸ ⟨_, (by news_mem), rfl, _, rfl⟩) ?zp ?zq
                  case zp =>
                    intro i2 v ys nw hi2 hv hj
                    have hi3 : i2 < 3 := hi2
                    obtain ⟨x9, t7, rfl, hio⟩ := chan_at hsm hLb.1 hLb.2 hi3 hv
                    have hj' := hj
                    obtain ⟨rfl, hys⟩ := hj'
                    intro I2 oI2 C9 oC D9 m2 h21 tk21 E' hC hx F2 N2 off ne
                    (try dsimp only)
                    iterate 12 (k_extra "mine step")
                    k_here
                    k_dflt (refine int_of hio ?_)
                    exact hj.end (at3 hi3) F2 N2 off rfl
                  case zq =>
                    intro eys nw hyl6 hj
                    obtain ⟨rfl, hei⟩ := hj
                    rw [List.take_of_length_le (by exact Nat.le_refl _)] at hei
                    intro Et h23 tk23 F23 N23 o23
                    clear F22 N22
                    iterate 3 (k_extra "mine step")
                    refine ite_neg (by decide) ?_
                    k_steps
                    (rename Fr _ _ _ _ => F24)
                    (rename News _ _ _ _ => N24)
                    exact ⟨_, _, _, _, w2', _, rfl, F24, N24, by news_mem, by news_mem, hdk, fun p hp => by news_mem, same_of (x := Str.ofString "made") (by decide) (by kst_same)⟩
              case zm =>
                intro u h19 tk19 w2' F19 N19
                clear F18 N18
                k_steps)
end
end Mine
theorem PySem.Challenge.cw_xg0039_01_holds : PySem.Challenge.rw_xg0039_01.Holds :=
  Mine.walked
