import PyProof.Rows.All
import Wide.All
import OpenK.AllK
import Wide.FinOn
import PySem.Challenge.RW_at0001_03
open PySem PySem.W PySem.Calls PyProof.Rows PySem.Builtin PySem.Builtin.Str
set_option Elab.async false
section
open PySem PySem.W PyProof.Rows
namespace Mine
set_option maxRecDepth 100000 in
set_option maxHeartbeats 8000000 in
open_top hd for PySem.Challenge.rw_at0001_03
end Mine
end
section
open PySem PySem.W PySem.Calls PyProof.Rows PySem.Builtin PySem.Builtin.Str
namespace Mine
/-- quotes that no backslash stands at once ahead of; e: a backslash stands ahead of the first sign -/
def qs : Bool → List Nat → Nat
  | _, [] => 0
  | e, c :: r => (if c = 34 ∧ e = false then 1 else 0) + qs (c == 92) r
def seg (l : List Nat) (a p : Nat) : List Nat := (l.drop a).take (p - a)
def D (l : List Nat) (a p : Nat) : Nat := qs false (seg l a p)
def pcs : Bool → Bool → List Nat → List (List Nat)
  | _, _, [] => [[]]
  | o, e, c :: r => if c = 59 ∧ o = false then [] :: pcs false false r else
      match pcs (o != (c == 34 && !e)) (c == 92) r with
      | p :: ps => (c :: p) :: ps
      | [] => []
abbrev lt (y : Str) : List Nat := y.cps.toList
abbrev F1 (y : Str) (q : Int) : Int := Txt.find3 y (Str.ofString ";") q
def PA (y : Str) (a : Nat) (e i d : Int) : Prop := ∃ q lo : Nat, i = lo ∧ a ≤ lo ∧ (lo = a ∧ q = a ∨ (q = lo + 1 ∧ (lt y)[lo]? = some 59)) ∧ q ≤ (lt y).length ∧ e = F1 y q ∧ d = (D (lt y) a lo : Int) ∧ ∀ p, a ≤ p → p < q → (lt y)[p]? = some 59 → D (lt y) a p % 2 = 1
def PB (y : Str) (a : Nat) (e i d : Int) : Prop := ∃ lo k : Nat, e = lo ∧ a ≤ lo ∧ lo < k ∧ (lt y)[k]? = some 59 ∧ F1 y (lo + 1) = k ∧ i = F1 y (k + 1) ∧ d = (D (lt y) a k : Int) ∧ D (lt y) a k % 2 = 1 ∧ ∀ p, a ≤ p → p ≤ k → (lt y)[p]? = some 59 → D (lt y) a p % 2 = 1
def PI (y : Str) (a : Nat) (b : Bool) (e i d : Int) : Prop := if b then PB y a e i d else PA y a e i d
def Cut (l : List Nat) (a k : Nat) : Prop := a ≤ k ∧ k ≤ l.length ∧ (k < l.length → l[k]? = some 59 ∧ D l a k % 2 = 0) ∧ ∀ p, a ≤ p → p < k → l[p]? = some 59 → D l a p % 2 = 1
abbrev S (l : List Nat) : Str := ⟨l.toArray⟩
def fmt (raw : List Nat) : Str :=
  if 61 ∈ raw then Txt.strip (Txt.lower (Txt.rstrip (S (raw.takeWhile (· != 61)))) ++ Str.ofString "=" ++ Txt.lstrip (S (raw.dropWhile (· != 61)).tail)) else Txt.strip (S raw)
def parse (x : Str) : List Str := (pcs false false x.cps.toList).map fmt
def restP (l : List Nat) (k : Nat) : List Str := if k < l.length then (pcs false false (l.drop (k + 1))).map fmt else []
def endIdx (len : Nat) (i : Int) : Nat := min (max 0 (if i < 0 then i + len else i)).toNat len
def find4 (x y : Str) (i j : Int) : Int := match occurrences x y (fromIndex x.length i) (endIdx x.length j) 1 with | k :: _ => (k : Int) | [] => -1
def count4 (x y : Str) (i j : Int) : Int := (occurrences x y (fromIndex x.length i) (endIdx x.length j) (x.length + 1)).length

/- find -/
theorem fromIndex_nat (n q : Nat) : fromIndex n (q : Int) = q := by unfold fromIndex; omega
theorem endIdx_nat {n q : Nat} (h : q ≤ n) : endIdx n (q : Int) = q := by unfold endIdx; omega
theorem len_lt (y : Str) : (lt y).length = y.length := by simp [Str.length]

theorem F1_spec (y : Str) (q : Nat) : (F1 y q = -1 ∧ ∀ p, q ≤ p → (lt y)[p]? ≠ some 59) ∨ ∃ k : Nat, F1 y q = k ∧ q ≤ k ∧ (lt y)[k]? = some 59 ∧ ∀ p, q ≤ p → p < k → (lt y)[p]? ≠ some 59 := by
  have e : Str.ofString ";" = ⟨#[59]⟩ := by decide +kernel
  unfold F1 Txt.find3
  rw [e, fromIndex_nat]
  rcases StrLaws.occ_head_from y ⟨#[59]⟩ q 1 (Nat.le_refl 1) with ⟨h0, hn⟩ | ⟨k, r, h0, hlo, hk, hn⟩
  · rw [h0]
    exact .inl ⟨rfl, fun v h1 h2 => hn v h1 ((StrLaws.subAt_one y 59 v).mpr h2)⟩
  · rw [h0]
    exact .inr ⟨k, rfl, hlo, (StrLaws.subAt_one y 59 k).mp hk, fun v h1 h2 he => hn v h1 h2 ((StrLaws.subAt_one y 59 v).mpr he)⟩

theorem lt_of_get {l : List Nat} {k c : Nat} (h : l[k]? = some c) : k < l.length := by
  rcases Nat.lt_or_ge k l.length with h1 | h1
  · exact h1
  · rw [List.getElem?_eq_none h1] at h; cases h

/- the pieces -/
theorem qs_append : ∀ (u v : List Nat) (e : Bool), qs e (u ++ v) = qs e u + qs (match u.getLast? with | some c => c == 92 | none => e) v
  | [], v, e => by simp [qs]
  | c :: u, v, e => by
    have ih := qs_append u v (c == 92)
    rw [List.cons_append, qs, ih, qs, List.getLast?_cons]
    cases u.getLast? with
    | none => simp only [Option.getD_none]; omega
    | some d => simp only [Option.getD_some]; omega
theorem qs_semi (e : Bool) (r : List Nat) : qs e (59 :: r) = qs false (59 :: r) := by simp [qs]
theorem seg_split {l : List Nat} {a k p : Nat} (h1 : a ≤ k) (h2 : k ≤ p) : seg l a p = seg l a k ++ seg l k p := by
  unfold seg
  have e1 : p - a = (k - a) + (p - k) := by omega
  rw [e1, List.take_add, List.drop_drop]
  congr 3
  omega
theorem seg_at {l : List Nat} {k p c : Nat} (h : l[k]? = some c) (hp : k < p) : seg l k p = c :: seg l (k + 1) p := by
  unfold seg
  have hk := lt_of_get h
  have hc : l[k] = c := by rw [List.getElem?_eq_getElem hk] at h; exact Option.some.inj h
  rw [List.drop_eq_getElem_cons hk, hc]
  have e : p - k = (p - (k + 1)) + 1 := by omega
  rw [e, List.take_succ_cons]
theorem seg_nil (l : List Nat) (k : Nat) : seg l k k = [] := by unfold seg; simp
theorem D_split {l : List Nat} {a k p : Nat} (h1 : a ≤ k) (h2 : k ≤ p) (hk : k = a ∨ l[k]? = some 59) : D l a p = D l a k + qs false (seg l k p) := by
  unfold D
  rcases hk with rfl | hk
  · rw [seg_nil]; simp [qs]
  · rw [seg_split h1 h2, qs_append]
    rcases Nat.lt_or_ge k p with h | h
    · rw [seg_at hk h, qs_semi]
    · have : p = k := by omega
      subst this
      rw [seg_nil]; simp [qs]

theorem pcs_ne : ∀ (l : List Nat) (o e : Bool), pcs o e l ≠ []
  | [], _, _ => by simp [pcs]
  | c :: r, o, e => by
    rw [pcs]
    split
    · simp
    · have := pcs_ne r (o != (c == 34 && !e)) (c == 92)
      split
      · simp
      · rename_i h; exact absurd h this
/-- how the pieces begin: o: an odd number of quotes stands ahead, e: a backslash -/
theorem pcs_cut : ∀ (l : List Nat) (o e : Bool) (k : Nat), k ≤ l.length → (k < l.length → l[k]? = some 59 ∧ (o.toNat + qs e (l.take k)) % 2 = 0) →
    (∀ p, p < k → l[p]? = some 59 → (o.toNat + qs e (l.take p)) % 2 = 1) → pcs o e l = l.take k :: if k < l.length then pcs false false (l.drop (k + 1)) else []
  | [], o, e, k, hk, _, _ => by
    have : k = 0 := by simpa using hk
    subst this
    simp [pcs]
  | c :: r, o, e, 0, _, h1, _ => by
    obtain ⟨h2, h3⟩ := h1 (by simp)
    have hc : c = 59 := by simpa using h2
    have ho : o = false := by cases o <;> simp [qs] at h3 ⊢
    subst hc ho
    simp [pcs]
  | c :: r, o, e, k + 1, hk, h1, h2 => by
    have hn : ¬ (c = 59 ∧ o = false) := by
      rintro ⟨rfl, rfl⟩
      have := h2 0 (by omega) (by simp)
      simp [qs] at this
    have key : ∀ q : List Nat, ((o != (c == 34 && !e)).toNat + qs (c == 92) q) % 2 = (o.toNat + qs e (c :: q)) % 2 := by
      intro q
      rw [qs]
      by_cases hc : c = 34
      · subst hc
        cases e <;> cases o <;> simp <;> omega
      · have h9 : (c == 34) = false := by simp [hc]
        simp [hc, h9]
    have ih := pcs_cut r (o != (c == 34 && !e)) (c == 92) k (by simpa using hk) (fun h => by
      obtain ⟨h3, h4⟩ := h1 (by simpa using h)
      refine ⟨by simpa using h3, ?_⟩
      rw [key]; simpa using h4) (fun p hp hc => by
      have := h2 (p + 1) (by omega) (by simpa using hc)
      rw [key]; simpa using this)
    rw [pcs, if_neg hn, ih]
    simp

theorem cut_rest {l : List Nat} {a k : Nat} (ha : a ≤ l.length) (h : Cut l a k) : (pcs false false (l.drop a)).map fmt = fmt (seg l a k) :: restP l k := by
  obtain ⟨h1, h2, h3, h4⟩ := h
  have := pcs_cut (l.drop a) false false (k - a) (by simp; omega) (fun hlt => by
      have hk : k < l.length := by simp at hlt; omega
      obtain ⟨h5, h6⟩ := h3 hk
      refine ⟨by rw [List.getElem?_drop]; rw [← h5]; congr 1; omega, by simpa [D, seg] using h6⟩) (fun p hp hc => by
      have h7 := h4 (a + p) (by omega) (by omega) (by rw [List.getElem?_drop] at hc; exact hc)
      simpa [D, seg] using h7)
  rw [this]
  unfold restP
  have e : (List.drop a l).length = l.length - a := by simp
  by_cases hk : k < l.length
  · rw [if_pos hk, if_pos (by omega), List.drop_drop]
    have : a + (k - a + 1) = k + 1 := by omega
    rw [this]; rfl
  · rw [if_neg hk, if_neg (by omega)]; rfl

/- counts -/
def Occ (s sub : Str) (hi i : Nat) : Bool := decide (i + sub.length ≤ hi) && subAt s sub i
theorem occ_filter (s sub : Str) (hi limit : Nat) :
    ∀ (n a : Nat) (st : Array Nat × Nat), (∀ i j, a ≤ i → i < j → j < i + sub.length → Occ s sub hi i = true → Occ s sub hi j = false) → st.1.size + n ≤ limit → (∀ j, a ≤ j → Occ s sub hi j = true → st.2 ≤ j) →
      (forIn (List.range' a n) st (StrLaws.occBody s sub hi limit)).run.fst.toList = st.1.toList ++ (List.range' a n).filter (Occ s sub hi)
  | 0, a, st, _, _, _ => by simp [pure, Id.run]
  | n + 1, a, st, hno, hs, hf => by
    rw [List.range'_succ, List.forIn_cons]
    unfold StrLaws.occBody
    by_cases hc : Occ s sub hi a = true
    · have hc' := hc
      unfold Occ at hc'
      rw [Bool.and_eq_true, decide_eq_true_eq] at hc'
      rw [if_pos ⟨⟨⟨by omega, hf a (Nat.le_refl _) hc⟩, hc'.1⟩, hc'.2⟩]
      have ih := occ_filter s sub hi limit n (a + 1) (st.1.push a, a + sub.length) (fun i j h => hno i j (by omega)) (by simp; omega) (fun j hj hoj => by
        rcases Nat.lt_or_ge j (a + sub.length) with h | h
        · have := hno a j (Nat.le_refl _) (by omega) h hc
          rw [hoj] at this; cases this
        · exact h)
      simp only [pure_bind]
      refine ih.trans ?_
      rw [List.filter_cons_of_pos hc]
      simp
    · have hc2 : ¬ (((st.1.size < limit ∧ st.2 ≤ a) ∧ a + sub.length ≤ hi) ∧ subAt s sub a = true) := fun h => hc (by
        unfold Occ; rw [Bool.and_eq_true, decide_eq_true_eq]; exact ⟨h.1.2, h.2⟩)
      rw [if_neg hc2]
      have ih := occ_filter s sub hi limit n (a + 1) st (fun i j h => hno i j (by omega)) (by omega) (fun j hj hoj => hf j (by omega) hoj)
      simp only [pure_bind]
      refine ih.trans ?_
      rw [List.filter_cons_of_neg hc]

theorem occ_count (y sub : Str) {a b : Nat} (hab : a ≤ b) (hb : b ≤ y.length) (hno : ∀ i j, i < j → j < i + sub.length → Occ y sub b i = true → Occ y sub b j = false) :
    count4 y sub a b = ((List.range' a (b + 1 - a)).filter (Occ y sub b)).length := by
  unfold count4
  rw [fromIndex_nat, endIdx_nat hb, StrLaws.occ_eq, occ_filter y sub b (y.length + 1) (b + 1 - a) a (#[], a) (fun i j _ => hno i j) (by simp; omega) (fun j h _ => h)]
  simp
theorem occ_count0 (y sub : Str) (i : Int) {b : Nat} (hb : b ≤ y.length) (hs : 1 ≤ sub.length) (h : b ≤ fromIndex y.length i) : count4 y sub i b = 0 := by
  have hO : ∀ p, fromIndex y.length i ≤ p → Occ y sub b p = false := by
    intro p hp
    unfold Occ
    have : ¬ (p + sub.length ≤ b) := by omega
    simp [this]
  unfold count4
  rw [endIdx_nat hb, StrLaws.occ_eq, occ_filter y sub b (y.length + 1) (b + 1 - fromIndex y.length i) (fromIndex y.length i) (#[], fromIndex y.length i) (fun p q hp _ _ h3 => by rw [hO p hp] at h3; cases h3) (by simp; omega) (fun j h _ => h)]
  have : (List.range' (fromIndex y.length i) (b + 1 - fromIndex y.length i)).filter (Occ y sub b) = [] := by
    rw [List.filter_eq_nil_iff]
    intro p hp
    rw [hO p (List.mem_range'_1.mp hp).1]
    simp
  rw [this]; simp
def pairs : List Nat → Nat
  | c :: d :: r => (if c = 92 ∧ d = 34 then 1 else 0) + pairs (d :: r)
  | _ => 0
theorem qs_pairs : ∀ (l : List Nat) (e : Bool), qs e l + pairs l + (if e = true ∧ l.head? = some 34 then 1 else 0) = l.count 34
  | [], e => by simp [qs, pairs]
  | [c], e => by by_cases h : c = 34 <;> cases e <;> simp [qs, pairs, h]
  | c :: d :: r, e => by
    have ih := qs_pairs (d :: r) (c == 92)
    rw [qs, pairs, List.count_cons]
    by_cases h1 : c = 34
    · subst h1
      cases e <;> simp at ih ⊢ <;> omega
    · by_cases h2 : c = 92
      · subst h2
        by_cases h3 : d = 34
        · subst h3; simp at ih ⊢; omega
        · simp [h3] at ih ⊢; omega
      · have : (c == 92) = false := by simp [h2]
        rw [this] at ih ⊢
        simp [h1, h2] at ih ⊢
        omega

theorem occ_at (y sub : Str) (b p : Nat) (hb : b ≤ y.length) : Occ y sub b p = true ↔ p + sub.length ≤ b ∧ ((lt y).drop p).take sub.length = lt sub := by
  unfold Occ
  rw [Bool.and_eq_true, decide_eq_true_eq, StrLaws.subAt_eq]
  simp
theorem occ1 (y : Str) (c b p : Nat) (hb : b ≤ y.length) : Occ y ⟨#[c]⟩ b p = true ↔ p < b ∧ (lt y)[p]? = some c := by
  rw [occ_at _ _ _ _ hb]
  show p + 1 ≤ b ∧ ((lt y).drop p).take 1 = [c] ↔ _
  constructor
  · rintro ⟨h1, h2⟩
    refine ⟨h1, ?_⟩
    have : (((lt y).drop p).take 1)[0]? = some c := by rw [h2]; rfl
    simpa using this
  · rintro ⟨h1, h2⟩
    refine ⟨h1, ?_⟩
    have hp := lt_of_get h2
    rw [List.drop_eq_getElem_cons hp]
    rw [List.getElem?_eq_getElem hp] at h2
    simp [Option.some.inj h2]
theorem occ2 (y : Str) (c d b p : Nat) (hb : b ≤ y.length) : Occ y ⟨#[c, d]⟩ b p = true ↔ p + 1 < b ∧ (lt y)[p]? = some c ∧ (lt y)[p + 1]? = some d := by
  rw [occ_at _ _ _ _ hb]
  show p + 2 ≤ b ∧ ((lt y).drop p).take 2 = [c, d] ↔ _
  constructor
  · rintro ⟨h1, h2⟩
    have h3 : (((lt y).drop p).take 2)[0]? = some c := by rw [h2]; rfl
    have h4 : (((lt y).drop p).take 2)[1]? = some d := by rw [h2]; rfl
    exact ⟨h1, by simpa using h3, by simpa using h4⟩
  · rintro ⟨h1, h2, h3⟩
    refine ⟨h1, ?_⟩
    have hp := lt_of_get h2
    have hq := lt_of_get h3
    rw [List.drop_eq_getElem_cons hp, List.drop_eq_getElem_cons hq]
    rw [List.getElem?_eq_getElem hp] at h2
    rw [List.getElem?_eq_getElem hq] at h3
    simp [Option.some.inj h2, Option.some.inj h3]
theorem seg_cons {l : List Nat} {a b : Nat} (h : a < b) (hb : b ≤ l.length) : ∃ c, l[a]? = some c ∧ seg l a b = c :: seg l (a + 1) b :=
  ⟨l[a], by simp, seg_at (by simp) h⟩
theorem cnt1 (y : Str) (c b : Nat) (hb : b ≤ y.length) : ∀ (n a : Nat), a + n = b → ((List.range' a (n + 1)).filter (Occ y ⟨#[c]⟩ b)).length = (seg (lt y) a b).count c
  | 0, a, h => by
    have : Occ y ⟨#[c]⟩ b a = false := by
      rw [← Bool.not_eq_true, occ1 _ _ _ _ hb]; omega
    simp at h
    subst h
    rw [seg_nil]
    simp [List.range'_succ, this]
  | n + 1, a, h => by
    rw [List.range'_succ]
    obtain ⟨d, hd, hs⟩ := seg_cons (l := lt y) (a := a) (b := b) (by omega) (by rw [len_lt]; exact hb)
    have ih := cnt1 y c b hb n (a + 1) (by omega)
    rw [hs, List.count_cons]
    by_cases hc : d = c
    · subst hc
      rw [List.filter_cons_of_pos ((occ1 _ _ _ _ hb).mpr ⟨by omega, hd⟩), List.length_cons, ih]
      simp
    · rw [List.filter_cons_of_neg (by rw [occ1 _ _ _ _ hb, hd]; simp [hc]), ih]
      simp [hc]
theorem cnt2 (y : Str) (b : Nat) (hb : b ≤ y.length) : ∀ (n a : Nat), a + n = b → ((List.range' a (n + 1)).filter (Occ y ⟨#[92, 34]⟩ b)).length = pairs (seg (lt y) a b)
  | 0, a, h => by
    have : Occ y ⟨#[92, 34]⟩ b a = false := by
      rw [← Bool.not_eq_true, occ2 _ _ _ _ _ hb]; omega
    simp at h
    subst h
    rw [seg_nil]
    simp [List.range'_succ, this, pairs]
  | 1, a, h => by
    have h1 : Occ y ⟨#[92, 34]⟩ b a = false := by
      rw [← Bool.not_eq_true, occ2 _ _ _ _ _ hb]; omega
    have h2 : Occ y ⟨#[92, 34]⟩ b (a + 1) = false := by
      rw [← Bool.not_eq_true, occ2 _ _ _ _ _ hb]; omega
    obtain ⟨d, hd, hs⟩ := seg_cons (l := lt y) (a := a) (b := b) (by omega) (by rw [len_lt]; exact hb)
    subst h
    rw [hs, seg_nil]
    simp [List.range'_succ, h1, h2, pairs]
  | n + 2, a, h => by
    rw [List.range'_succ]
    obtain ⟨d, hd, hs⟩ := seg_cons (l := lt y) (a := a) (b := b) (by omega) (by rw [len_lt]; exact hb)
    obtain ⟨d', hd', hs'⟩ := seg_cons (l := lt y) (a := a + 1) (b := b) (by omega) (by rw [len_lt]; exact hb)
    have ih := cnt2 y b hb (n + 1) (a + 1) (by omega)
    rw [hs, hs', pairs, ← hs']
    by_cases hc : d = 92 ∧ d' = 34
    · obtain ⟨rfl, rfl⟩ := hc
      rw [List.filter_cons_of_pos ((occ2 _ _ _ _ _ hb).mpr ⟨by omega, hd, hd'⟩), List.length_cons, ih]
      simp; omega
    · rw [List.filter_cons_of_neg (by rw [occ2 _ _ _ _ _ hb, hd, hd']; rintro ⟨_, h1, h2⟩; exact hc ⟨Option.some.inj h1, Option.some.inj h2⟩), ih]
      simp [hc]
/-- what the program reckons of a piece of text -/
theorem count_diff (y : Str) {a b : Nat} (hab : a ≤ b) (hb : b ≤ y.length) :
    count4 y (Str.ofString "\"") a b - count4 y (Str.ofString "\\\"") a b = (qs false (seg (lt y) a b) : Int) := by
  have e1 : Str.ofString "\"" = ⟨#[34]⟩ := by decide +kernel
  have e2 : Str.ofString "\\\"" = ⟨#[92, 34]⟩ := by decide +kernel
  have f : b + 1 - a = (b - a) + 1 := by omega
  rw [e1, e2, occ_count y _ hab hb ?_, occ_count y _ hab hb ?_, f, cnt1 y 34 b hb _ _ (by omega), cnt2 y b hb _ _ (by omega)]
  · have := qs_pairs (seg (lt y) a b) false
    simp at this
    omega
  · intro i j h1 h2 h3
    rw [← Bool.not_eq_true]
    intro h4
    rw [occ2 _ _ _ _ _ hb] at h3 h4
    have h5 : j = i + 1 := by change j < i + 2 at h2; omega
    subst h5
    rw [h3.2.2] at h4
    exact absurd (Option.some.inj h4.2.1) (by decide)
  · intro i j h1 h2
    change j < i + 1 at h2
    omega
theorem count_none (y : Str) (i : Int) {b : Nat} (hb : b ≤ y.length) (h : b ≤ fromIndex y.length i) : count4 y (Str.ofString "\"") i b - count4 y (Str.ofString "\\\"") i b = 0 := by
  rw [occ_count0 y _ i hb (by decide) h, occ_count0 y _ i hb (by decide) h]; rfl
end Mine

end
section
open PySem PySem.W PySem.Calls PyProof.Rows PySem.Builtin PySem.Builtin.Str
namespace Mine
theorem no_raise {α : Type} {M : Model} {A : Around} {t : Sem α} {Q : α → Shared → Prop} {E : Value → Shared → Prop} {s : Shared} (h : wpAny M A t Q (fun _ _ => False) s) : wpAny M A t Q E s := wpAny_mono h (fun _ _ x => x) fun _ _ x => x.elim
structure Stop (P : Prop) : Prop where out : P
theorem updHere {d : Addr} {o o' : Obj} {r : List (Addr × Obj)} (h : ∀ p ∈ r, p.1 < d) : Upd d o o' ((d, o) :: r) ((d, o') :: r) := .head fun p hp => Nat.ne_of_lt (h p hp)
theorem updOff {d : Addr} {o o' : Obj} {r : List (Addr × Obj)} (h : ∀ p ∈ r, p.1 ≠ d) : Upd d o o' ((d, o) :: r) ((d, o') :: r) := .head h
theorem ltAll_of {d : Addr} : ∀ {l : List (Addr × Obj)}, AllLt d l → ∀ p ∈ l, p.1 < d
  | [], _ => fun _ h => nomatch h
  | _ :: _, ⟨h, hr⟩ => fun q hq => by
    rcases List.mem_cons.mp hq with rfl | hq
    · exact h
    · exact ltAll_of hr q hq
/-- a name's value in a list of bindings ahead of what is not known -/
def kb (u : Str → Option Value) : List (Str × Value) → Str → Option Value
  | [] => u
  | p :: r => fun z => if z = p.1 then some p.2 else kb u r z
theorem kb_eq {m u : Str → Option Value} : ∀ {ps : List (Str × Value)}, (∀ p ∈ ps, m p.1 = some p.2) → kb m ps = m
  | [], _ => rfl
  | p :: r, h => by
    funext z
    show (if z = p.1 then some p.2 else kb m r z) = m z
    by_cases e : z = p.1
    · rw [if_pos e, e, h p (.head _)]
    · rw [if_neg e, kb_eq (u := u) fun q hq => h q (.tail _ hq)]

section
variable {prog : Program} {w : World} {A : Around} {E : Value → Shared → Prop} {s : Shared} {env : Env} {h₀ : Heap} {L : Addr}

def WEnd {σ : Type} (h₀ : Heap) (L : Addr) (s : Shared) (Led : σ → List (Addr × Obj)) (ps : σ → List (Str × Value)) (P : σ → Prop) (μ : σ → Nat) (c : σ) (s₂ : Shared) : Prop :=
  ∃ (c' : σ) (h' : Heap) (tk : Nat) (m' : Str → Option Value) (news' : List (Addr × Obj)), s₂ = { s with heap := h', toks := tk } ∧ Fr h₀ L h' m' ∧ News h₀ L h' news' ∧ (∀ p ∈ Led c', p ∈ news') ∧ (∀ p ∈ ps c', m' p.1 = some p.2) ∧ P c' ∧ μ c' < μ c
def WPost {σ : Type} (h₀ : Heap) (L : Addr) (s : Shared) (Led : σ → List (Addr × Obj)) (ps : σ → List (Str × Value)) (P : σ → Prop) (μ : σ → Nat) (Q : Flow → Shared → Prop) (c : σ) (f : Flow) (s₂ : Shared) : Prop :=
  match f with
  | .ret v => Q (.ret v) s₂
  | .brk => Q .next s₂
  | _ => WEnd h₀ L s Led ps P μ c s₂

theorem my_while {σ : Type} {test : Expr} {body : List Stmt} {pos : Pos} {m₀ : Str → Option Value} {Q : Flow → Shared → Prop} (Led : σ → List (Addr × Obj)) (ps : σ → List (Str × Value)) (P : σ → Prop) (μ : σ → Nat) (c₀ : σ)
    (F : Fr h₀ L s.heap m₀) (N : News h₀ L s.heap (Led c₀)) (hk : ∀ p ∈ ps c₀, m₀ p.1 = some p.2) (hp : P c₀) (hE : PassesOwn (model prog w) A env E)
    (turn : ∀ (c : σ) (u : Str → Option Value) h tk, P c → Fr h₀ L h (kb u (ps c)) → News h₀ L h (Led c) →
      wpAny (model prog w) A (isTrue test env (eval test env)) (fun b s₂ =>
        if b = true then wpAny (model prog w) A (execs body env) (WPost h₀ L s Led ps P μ Q c) E s₂ else Q .next s₂) E { s with heap := h, toks := tk }) :
    wpAny (model prog w) A (exec (.While test body [] pos) env) Q E s := by
  refine While_inv2 (fun n m nx => ∃ c : σ, nx = Led c ∧ μ c = n ∧ (∀ p ∈ ps c, m p.1 = some p.2) ∧ P c) F N ⟨c₀, rfl, rfl, hk, hp⟩ ?_ hE
  rintro n m₁ nx h tk F₁ N₁ ⟨c, hnx, hn, h1, hp'⟩
  subst hnx hn
  rw [← kb_eq (u := m₁) h1] at F₁
  refine wpAny_mono (turn c m₁ h tk hp' F₁ N₁) (fun b s₂ p => ?_) fun _ _ x => x
  cases b with
  | false => simpa using p
  | true =>
    simp only [if_true] at p ⊢
    refine wpAny_mono p (fun f s₃ q => ?_) fun _ _ x => x
    cases f with
    | ret v => exact q
    | brk => exact q
    | next =>
      obtain ⟨c', h', tk', m', news', rfl, F', N', hn, hk9, hp9, hm9⟩ := q
      exact ⟨h', tk', m', Led c', μ c', rfl, F', fun p hp => N' p (hn p hp), hm9, c', rfl, rfl, hk9, hp9⟩
    | cont =>
      obtain ⟨c', h', tk', m', news', rfl, F', N', hn, hk9, hp9, hm9⟩ := q
      exact ⟨h', tk', m', Led c', μ c', rfl, F', fun p hp => N' p (hn p hp), hm9, c', rfl, rfl, hk9, hp9⟩

def FEnd {σ : Type} (h₀ : Heap) (L : Addr) (s : Shared) (Led : σ → List (Addr × Obj)) (rest : List (Addr × Obj)) (ps : σ → List (Str × Value)) (P : σ → Prop) (s₂ : Shared) : Prop :=
  ∃ (c' : σ) (h' : Heap) (tk : Nat) (m' : Str → Option Value) (news' : List (Addr × Obj)), s₂ = { s with heap := h', toks := tk } ∧ Fr h₀ L h' m' ∧ News h₀ L h' news' ∧ (∀ p ∈ Led c' ++ rest, p ∈ news') ∧ (∀ p ∈ ps c', m' p.1 = some p.2) ∧ P c'
def FPost {σ : Type} (h₀ : Heap) (L : Addr) (s : Shared) (Led : σ → List (Addr × Obj)) (rest : List (Addr × Obj)) (ps : σ → List (Str × Value)) (P : σ → Prop) (Q : Flow → Shared → Prop) (f : Flow) (s₂ : Shared) : Prop :=
  match f with
  | .ret v => Q (.ret v) s₂
  | .brk => Q .next s₂
  | _ => FEnd h₀ L s Led rest ps P s₂
def notIt (o : Obj) : Bool := o.cls != .type "list_iterator" && o.cls != .type "range_iterator"

theorem my_for {σ : Type} {l : Addr} {vs : List Value} {x : Str} {body : List Stmt} {m₀ : Str → Option Value} {Q : Flow → Shared → Prop} (Led : σ → List (Addr × Obj)) (fix : List (Addr × Obj)) (ps : σ → List (Str × Value)) (P : Nat → σ → Prop) (c₀ : σ)
    (hh : A.handled = none) (hl : s.heap.IsList l vs.toArray) (hlL : l ≠ L) (hcl : ∀ c, ∀ p ∈ Led c, notIt p.2 = true)
    (F : Fr h₀ L s.heap m₀) (N : News h₀ L s.heap (Led c₀ ++ fix)) (hk : ∀ p ∈ ps c₀, m₀ p.1 = some p.2) (hp : P 0 c₀)
    (turn : ∀ i v (c : σ) (u : Str → Option Value) h tk own, vs[i]? = some v → P i c → (∀ q ∈ Led c, q.1 ≠ l → ∀ p ∈ own, p.1 ≠ q.1) →
      Fr h₀ L h (fun y => if y = x then some v else kb u (ps c) y) → News h₀ L h (Led c ++ (fix ++ own)) →
      wpAny (model prog w) A (execs body env) (FPost h₀ L s Led (fix ++ own) ps (P (i + 1)) Q) E { s with heap := h, toks := tk })
    (done : ∀ (c : σ) (u : Str → Option Value) h tk, P vs.length c → Fr h₀ L h (kb u (ps c)) → News h₀ L h (Led c ++ fix) → Q .next { s with heap := h, toks := tk }) (hLe : env.locals = L) :
    wpAny (model prog w) A (pyIter (.ref l)) (fun it s₂ => LoopAtV prog w A h₀ env x body Q E it s₂) E s := by
  subst hLe
  obtain ⟨ol, hol, hol'⟩ := id hl
  have hlt : l < s.heap.objs.size := Heap.lt_size hol
  have hne : l ≠ s.heap.objs.size := Nat.ne_of_lt hlt
  have hLlt : env.locals < s.heap.objs.size := F.ns.lt
  refine wpAny_pyIter_list hl ?_
  have W := Walks.list (prog := prog) (w := w) hh s.heap.objs.size l hne vs.toArray
  refine ⟨_, _, _, vs.toArray.size, _, _, m₀, Led c₀ ++ fix, fun i m nx => ∃ c : σ, nx = Led c ++ fix ∧ (∀ p ∈ ps c, m p.1 = some p.2) ∧ P i c, rfl, W, ?_, ?_, ?_, ⟨⟨_, Heap.get?_push_size _ rfl, rfl, rfl⟩, hl.at fun o e => Heap.get?_push_of_some _ e⟩, F.push _, (fun p hp => ⟨Heap.get?_push_of_some _ (N p hp).1, (N p hp).2⟩), ⟨c₀, rfl, hk, hp⟩, ?_, ?_⟩
  · intro hm
    rcases List.mem_cons.mp hm with e | hm
    · exact absurd hLlt (e ▸ Nat.lt_irrefl _)
    · exact hlL (List.mem_singleton.mp hm).symm
  · intro b hb
    rw [List.mem_singleton.mp hb]
    cases hq : h₀.get? s.heap.objs.size with
    | none => rfl
    | some o' => exact absurd (Heap.lt_size (F.keep _ _ hq)) (Nat.lt_irrefl _)
  · intro p hp hI
    exact absurd (Heap.lt_size (N p hp).1) ((List.mem_singleton.mp hI) ▸ Nat.lt_irrefl _)
  · rintro i v m₁ news₁ s₁ own ⟨hh', tk', rfl⟩ hin hP ⟨c, rfl, h1, hp'⟩ hoff hown hownh hfp hst F₁ N₁
    have hfix : ∀ p ∈ fix, p.1 ≠ s.heap.objs.size := fun p hp => Nat.ne_of_lt (Heap.lt_size (N p (List.mem_append.mpr (.inr hp))).1)
    have hI : ∃ o, hh'.get? s.heap.objs.size = some o ∧ notIt o = false := by
      obtain ⟨⟨o, ho, hc, _⟩, _⟩ := hst
      exact ⟨o, ho, by unfold notIt; rw [hc]; rfl⟩
    obtain ⟨oI, hoI, hcI⟩ := hI
    have hnI : h₀.get? s.heap.objs.size = none := by
      cases hq : h₀.get? s.heap.objs.size with
      | none => rfl
      | some o' => exact absurd (Heap.lt_size (F.keep _ _ hq)) (Nat.lt_irrefl _)
    have hmI : (s.heap.objs.size, oI) ∈ own := hfp _ (.head _) hnI _ hoI
    have N₂ : News h₀ env.locals hh' (Led c ++ (fix ++ own)) := fun p hp => N₁ p (by
      rcases List.mem_append.mp hp with h | h
      · exact List.mem_append.mpr (.inr (List.mem_append.mpr (.inl h)))
      · rcases List.mem_append.mp h with h | h
        · exact List.mem_append.mpr (.inr (List.mem_append.mpr (.inr h)))
        · exact List.mem_append.mpr (.inl h))
    have e1 : (fun y => if y = x then some v else m₁ y) = fun y => if y = x then some v else kb m₁ (ps c) y := by rw [kb_eq (u := m₁) h1]
    rw [e1] at F₁
    have hv : vs[i]? = some v := by simpa using hP
    refine wpAny_mono (turn i v c m₁ hh' tk' own hv hp' ?_ F₁ N₂) (fun f s₂ p => ?_) fun _ _ e => e
    · intro q hq hql p hp e
      rcases List.mem_cons.mp (hown p hp) with h2 | h2
      · have h3 := (N₂ q (List.mem_append.mpr (.inl hq))).1
        rw [← e, h2] at h3
        have h4 := hoI.symm.trans h3
        cases h4
        rw [hcl c q hq] at hcI
        cases hcI
      · exact hql (e ▸ List.mem_singleton.mp h2)
    · have fin : FEnd h₀ env.locals s Led (fix ++ own) ps (P (i + 1)) s₂ → LoopStepU h₀ env.locals [s.heap.objs.size] own (fun m nx => ∃ c : σ, nx = Led c ++ fix ∧ (∀ p ∈ ps c, m p.1 = some p.2) ∧ P (i + 1) c) { s with heap := hh', toks := tk' } .next s₂ := by
        rintro ⟨c', h', tk, m', news', rfl, F', N', hn, hk9, hp9⟩
        have hin2 : ∀ p ∈ Led c' ++ fix, p ∈ news' := fun p hp => hn p (by
          rcases List.mem_append.mp hp with h | h
          · exact List.mem_append.mpr (.inl h)
          · exact List.mem_append.mpr (.inr (List.mem_append.mpr (.inl h))))
        have hino : ∀ p ∈ own, p ∈ news' := fun p hp => hn p (List.mem_append.mpr (.inr (List.mem_append.mpr (.inr hp))))
        refine ⟨rfl, h', tk, m', Led c' ++ fix, rfl, F', fun p hp => N' p ((List.mem_append.mp hp).elim (hino p) (hin2 p)), fun p hp hq => ?_, c', rfl, hk9, hp9⟩
        have e := List.mem_singleton.mp hq
        rcases List.mem_append.mp hp with h | h
        · have h3 := (N' p (hin2 p hp)).1
          have h4 := (N' _ (hino _ hmI)).1
          rw [e] at h3
          have h5 := h4.symm.trans h3
          cases h5
          rw [hcl c' p h] at hcI
          cases hcI
        · exact hfix p h e
      cases f with
      | ret v => exact .ret p
      | brk => exact .brk p
      | next => exact .next (fin p)
      | cont => exact .cont (fin p)
  · rintro h' tk m' news' F' N' _ ⟨c, rfl, h1, hp'⟩
    rw [← kb_eq (u := m') h1] at F'
    exact done c m' h' tk (by simpa using hp') F' N'

theorem my_forR {σ : Type} {r : Addr} {a₀ b₀ : Int} {t₀ u₀ v₀ : Tok} {n : Nat} {x : Str} {body : List Stmt} {m₀ : Str → Option Value} {Q : Flow → Shared → Prop} (Led : σ → List (Addr × Obj)) (fix : List (Addr × Obj)) (ps : σ → List (Str × Value)) (P : Nat → σ → Prop) (c₀ : σ)
    (hh : A.handled = none) (hr : IsRange s.heap r a₀ b₀ 1 t₀ u₀ v₀) (hsmall : Builtin.Range.small a₀ b₀ 1 = true) (hsz : Builtin.Range.rangeSize a₀ b₀ 1 = (n : Int)) (hcl : ∀ c, ∀ p ∈ Led c, notIt p.2 = true)
    (F : Fr h₀ L s.heap m₀) (N : News h₀ L s.heap (Led c₀ ++ fix)) (hk : ∀ p ∈ ps c₀, m₀ p.1 = some p.2) (hp : P 0 c₀)
    (turn : ∀ i t (c : σ) (u : Str → Option Value) h tk own, i < n → P i c → (∀ q ∈ Led c, ∀ p ∈ own, p.1 ≠ q.1) →
      Fr h₀ L h (fun y => if y = x then some (.int (a₀ + (i : Int)) t) else kb u (ps c) y) → News h₀ L h (Led c ++ (fix ++ own)) →
      wpAny (model prog w) A (execs body env) (FPost h₀ L s Led (fix ++ own) ps (P (i + 1)) Q) E { s with heap := h, toks := tk })
    (done : ∀ (c : σ) (u : Str → Option Value) h tk, P n c → Fr h₀ L h (kb u (ps c)) → News h₀ L h (Led c ++ fix) → Q .next { s with heap := h, toks := tk }) (hLe : env.locals = L) :
    wpAny (model prog w) A (pyIter (.ref r)) (fun it s₂ => LoopAtV prog w A h₀ env x body Q E it s₂) E s := by
  subst hLe
  have hLlt : env.locals < s.heap.objs.size := F.ns.lt
  refine wpAny_pyIter_range hr hsmall ?_
  have W : Walks prog w A s.heap.objs.size [s.heap.objs.size] [s.heap.objs.size] n (fun i v => i < n ∧ ∃ t, v = .int (a₀ + i * 1) t)
      (fun i h => IsRangeIter h s.heap.objs.size (a₀ + (i : Nat) * 1) ((n : Int) - (i : Nat)) 1) := (Walks.range hh _ a₀ 1 n).bound
  have hnI : h₀.get? s.heap.objs.size = none := by
    cases hq : h₀.get? s.heap.objs.size with
    | none => rfl
    | some o' => exact absurd (Heap.lt_size (F.keep _ _ hq)) (Nat.lt_irrefl _)
  refine ⟨_, _, _, n, _, _, m₀, Led c₀ ++ fix, fun i m nx => ∃ c : σ, nx = Led c ++ fix ∧ (∀ p ∈ ps c, m p.1 = some p.2) ∧ P i c, rfl, W, ?_, ?_, ?_, (by show IsRangeIter _ _ _ _ _; rw [hsz]; simpa using Heap.get?_push_size _ rfl), F.push _, (fun p hp => ⟨Heap.get?_push_of_some _ (N p hp).1, (N p hp).2⟩), ⟨c₀, rfl, hk, hp⟩, ?_, ?_⟩
  · intro hm
    exact absurd hLlt ((List.mem_singleton.mp hm) ▸ Nat.lt_irrefl _)
  · intro b hb
    rw [List.mem_singleton.mp hb]
    exact hnI
  · intro p hp hI
    exact absurd (Heap.lt_size (N p hp).1) ((List.mem_singleton.mp hI) ▸ Nat.lt_irrefl _)
  · rintro i v m₁ news₁ s₁ own ⟨hh', tk', rfl⟩ hin ⟨_, t, rfl⟩ ⟨c, rfl, h1, hp'⟩ hoff hown hownh hfp hst F₁ N₁
    have hfix : ∀ p ∈ fix, p.1 ≠ s.heap.objs.size := fun p hp => Nat.ne_of_lt (Heap.lt_size (N p (List.mem_append.mpr (.inr hp))).1)
    obtain ⟨oI, hoI, hcI⟩ : ∃ o, hh'.get? s.heap.objs.size = some o ∧ notIt o = false := ⟨_, hst, rfl⟩
    have hmI : (s.heap.objs.size, oI) ∈ own := hfp _ (.head _) hnI _ hoI
    have N₂ : News h₀ env.locals hh' (Led c ++ (fix ++ own)) := fun p hp => N₁ p (by
      rcases List.mem_append.mp hp with h | h
      · exact List.mem_append.mpr (.inr (List.mem_append.mpr (.inl h)))
      · rcases List.mem_append.mp h with h | h
        · exact List.mem_append.mpr (.inr (List.mem_append.mpr (.inr h)))
        · exact List.mem_append.mpr (.inl h))
    have e0 : a₀ + (i : Int) * 1 = a₀ + (i : Int) := by omega
    rw [e0] at F₁
    have e1 : (fun y => if y = x then some (Value.int (a₀ + (i : Int)) t) else m₁ y) = fun y => if y = x then some (Value.int (a₀ + (i : Int)) t) else kb m₁ (ps c) y := by rw [kb_eq (u := m₁) h1]
    rw [e1] at F₁
    refine wpAny_mono (turn i t c m₁ hh' tk' own hin hp' ?_ F₁ N₂) (fun f s₂ p => ?_) fun _ _ e => e
    · intro q hq p hp e
      have h2 := List.mem_singleton.mp (hown p hp)
      have h3 := (N₂ q (List.mem_append.mpr (.inl hq))).1
      rw [← e, h2] at h3
      have h4 := hoI.symm.trans h3
      cases h4
      rw [hcl c q hq] at hcI
      cases hcI
    · have fin : FEnd h₀ env.locals s Led (fix ++ own) ps (P (i + 1)) s₂ → LoopStepU h₀ env.locals [s.heap.objs.size] own (fun m nx => ∃ c : σ, nx = Led c ++ fix ∧ (∀ p ∈ ps c, m p.1 = some p.2) ∧ P (i + 1) c) { s with heap := hh', toks := tk' } .next s₂ := by
        rintro ⟨c', h', tk, m', news', rfl, F', N', hn, hk9, hp9⟩
        have hin2 : ∀ p ∈ Led c' ++ fix, p ∈ news' := fun p hp => hn p (by
          rcases List.mem_append.mp hp with h | h
          · exact List.mem_append.mpr (.inl h)
          · exact List.mem_append.mpr (.inr (List.mem_append.mpr (.inl h))))
        have hino : ∀ p ∈ own, p ∈ news' := fun p hp => hn p (List.mem_append.mpr (.inr (List.mem_append.mpr (.inr hp))))
        refine ⟨rfl, h', tk, m', Led c' ++ fix, rfl, F', fun p hp => N' p ((List.mem_append.mp hp).elim (hino p) (hin2 p)), fun p hp hq => ?_, c', rfl, hk9, hp9⟩
        have e := List.mem_singleton.mp hq
        rcases List.mem_append.mp hp with h | h
        · have h3 := (N' p (hin2 p hp)).1
          have h4 := (N' _ (hino _ hmI)).1
          rw [e] at h3
          have h5 := h4.symm.trans h3
          cases h5
          rw [hcl c' p h] at hcI
          cases hcI
        · exact hfix p h e
      cases f with
      | ret v => exact .ret p
      | brk => exact .brk p
      | next => exact .next (fin p)
      | cont => exact .cont (fin p)
  · rintro h' tk m' news' F' N' _ ⟨c, rfl, h1, hp'⟩
    rw [← kb_eq (u := m') h1] at F'
    exact done c m' h' tk hp' F' N'

theorem my_forB {σ : Type} {l : Addr} {vs : List Value} {x : Str} {body : List Stmt} {m₀ : Str → Option Value} {Q : Flow → Shared → Prop} (Led : σ → List (Addr × Obj)) (fix : List (Addr × Obj)) (ps : σ → List (Str × Value)) (P : Nat → σ → Prop) (c₀ : σ)
    (hh : A.handled = none) (hl : h₀.IsList l vs.toArray) (hcl : ∀ c, ∀ p ∈ Led c, notIt p.2 = true)
    (F : Fr h₀ L s.heap m₀) (N : News h₀ L s.heap (Led c₀ ++ fix)) (hk : ∀ p ∈ ps c₀, m₀ p.1 = some p.2) (hp : P 0 c₀)
    (turn : ∀ i v (c : σ) (u : Str → Option Value) h tk own, vs[i]? = some v → P i c → (∀ q ∈ Led c, ∀ p ∈ own, p.1 ≠ q.1) →
      Fr h₀ L h (fun y => if y = x then some v else kb u (ps c) y) → News h₀ L h (Led c ++ (fix ++ own)) →
      wpAny (model prog w) A (execs body env) (FPost h₀ L s Led (fix ++ own) ps (P (i + 1)) Q) E { s with heap := h, toks := tk })
    (done : ∀ (c : σ) (u : Str → Option Value) h tk, P vs.length c → Fr h₀ L h (kb u (ps c)) → News h₀ L h (Led c ++ fix) → Q .next { s with heap := h, toks := tk }) (hLe : env.locals = L) :
    wpAny (model prog w) A (pyIter (.ref l)) (fun it s₂ => LoopAtV prog w A h₀ env x body Q E it s₂) E s := by
  subst hLe
  obtain ⟨ol, hol, _⟩ := id hl
  refine my_for Led fix ps P c₀ hh (hl.at fun o e => F.keep l o e) (Nat.ne_of_lt (Nat.lt_of_lt_of_le (Heap.lt_size hol) F.above)) hcl F N hk hp ?_ done rfl
  intro i v c u h tk own h1 h2 h3 F' N'
  refine turn i v c u h tk own h1 h2 (fun q hq p hp => h3 q hq (fun e => ?_) p hp) F' N'
  have := (N' q (List.mem_append.mpr (.inl hq))).2.2
  rw [e, hol] at this
  cases this
end

section
variable {M : Model} {A : Around} {E : Value → Shared → Prop} {name : Str} {scope : Scope} {L a : Addr} {cd : Value} {h₀ : Heap} {m : Str → Option Value} {news : List (Addr × Obj)}
  {hp : Heap} {gs : Array GenState} {dr : Drawn} {tk : Nat} {os : OsState}
theorem st_int {x : Str} {n : Int} {t : Tok} {Q : Unit → Shared → Prop} (F : Fr h₀ L hp m) (N : News h₀ L hp news)
    (h : ∀ h' t' k, Fr h₀ L h' (fun y => if y = x then some (.int n t') else m y) → News h₀ L h' news → Q () ⟨h', gs, dr, k, os⟩)
    (hk : scope.kind = .function := by rfl) (hl : (envOf name scope L a cd).kindOf x = some .local := by rfl) :
    wpAny M A (storeName (envOf name scope L a cd) x (.int n t)) Q E ⟨hp, gs, dr, tk, os⟩ := stN (s := ⟨hp, gs, dr, tk, os⟩) F N (fun h' F' N' => h h' _ _ F' N') hk hl
theorem st_str {x : Str} {n : Str} {t : Tok} {Q : Unit → Shared → Prop} (F : Fr h₀ L hp m) (N : News h₀ L hp news)
    (h : ∀ h' t' k, Fr h₀ L h' (fun y => if y = x then some (.str n t') else m y) → News h₀ L h' news → Q () ⟨h', gs, dr, k, os⟩)
    (hk : scope.kind = .function := by rfl) (hl : (envOf name scope L a cd).kindOf x = some .local := by rfl) :
    wpAny M A (storeName (envOf name scope L a cd) x (.str n t)) Q E ⟨hp, gs, dr, tk, os⟩ := stN (s := ⟨hp, gs, dr, tk, os⟩) F N (fun h' F' N' => h h' _ _ F' N') hk hl
end
theorem gives_find4 (x y : Str) (i j : Int) (t u v v' : Tok) : Gives («str.find» ⟨[.str x t, .str y u, .int i v, .int j v'], []⟩) (.int (find4 x y i j)) := by
  show Gives (match occurrences x y (fromIndex x.length i) (endIdx x.length j) 1 with | k :: _ => retInt k | [] => (do rule "str.find.not-found"; retInt (-1))) _
  unfold find4
  cases occurrences x y (fromIndex x.length i) (endIdx x.length j) 1 with
  | nil => exact .rule (.of_eq rfl)
  | cons k _ => exact .of_eq rfl
theorem gives_count4 (x y : Str) (i j : Int) (t u v v' : Tok) : Gives («str.count» ⟨[.str x t, .str y u, .int i v, .int j v'], []⟩) (.int (count4 x y i j)) := by
  show Gives (retInt (occurrences x y (fromIndex x.length i) (endIdx x.length j) (x.length + 1)).length) _
  exact .of_eq rfl
section
variable {prog : Program} {w : World} {A : Around} {E : Value → Shared → Prop} {x y : Str} {t u v v' : Tok} {i j : Int} {Q : Value → Shared → Prop}
  {hp : Heap} {gs : Array GenState} {dr : Drawn} {tk : Nat} {os : OsState}
theorem find3_c (hq : ∀ t' k, Q (.int (Txt.find3 x y i) t') ⟨hp, gs, dr, k, os⟩) : wpAny (model prog w) A (call (.builtin "str.find") [.str x t, .str y u, .int i v]) Q E ⟨hp, gs, dr, tk, os⟩ :=
  SC.find3 (hq _ _)
theorem find4_c (hq : ∀ t' k, Q (.int (find4 x y i j) t') ⟨hp, gs, dr, k, os⟩) : wpAny (model prog w) A (call (.builtin "str.find") [.str x t, .str y u, .int i v, .int j v']) Q E ⟨hp, gs, dr, tk, os⟩ :=
  call_gives F.slot_str_find (typeIs_str _ _ _) F.entry_str_find (F.args_str_find_4 _ _ _ _) (gives_find4 x y i j t u v v') (hq _ _)
theorem count4_c (hq : ∀ t' k, Q (.int (count4 x y i j) t') ⟨hp, gs, dr, k, os⟩) : wpAny (model prog w) A (call (.builtin "str.count") [.str x t, .str y u, .int i v, .int j v']) Q E ⟨hp, gs, dr, tk, os⟩ :=
  call_gives F.slot_str_count (typeIs_str _ _ _) F.entry_str_count (F.args_str_count_4 _ _ _ _) (gives_count4 x y i j t u v v') (hq _ _)
theorem add_c (hs : x.length + y.length ≤ 16777216) (h : ∀ t' k, (x ++ y).length = x.length + y.length → Q (.str (x ++ y) t') ⟨hp, gs, dr, k, os⟩) : wpAny (model prog w) A (binaryOp .Add (.str x t) (.str y u)) Q E ⟨hp, gs, dr, tk, os⟩ :=
  SB.add (fun t' k => h t' k (Str.length_append x y)) (by rw [sizeLine_eq]; omega)
theorem strip_c (hs : x.length ≤ 16777216) (h : ∀ t' k, (Txt.strip x).length ≤ x.length → Q (.str (Txt.strip x) t') ⟨hp, gs, dr, k, os⟩) : wpAny (model prog w) A (call (.builtin "str.strip") [.str x t]) Q E ⟨hp, gs, dr, tk, os⟩ :=
  SCL.strip h (by rw [sizeLine_eq]; omega)
theorem rstrip_c (hs : x.length ≤ 16777216) (h : ∀ t' k, (Txt.rstrip x).length ≤ x.length → Q (.str (Txt.rstrip x) t') ⟨hp, gs, dr, k, os⟩) : wpAny (model prog w) A (call (.builtin "str.rstrip") [.str x t]) Q E ⟨hp, gs, dr, tk, os⟩ :=
  SCL.rstrip h (by rw [sizeLine_eq]; omega)
theorem lstrip_c (hs : x.length ≤ 16777216) (h : ∀ t' k, (Txt.lstrip x).length ≤ x.length → Q (.str (Txt.lstrip x) t') ⟨hp, gs, dr, k, os⟩) : wpAny (model prog w) A (call (.builtin "str.lstrip") [.str x t]) Q E ⟨hp, gs, dr, tk, os⟩ :=
  SCL.lstrip h (by rw [sizeLine_eq]; omega)
theorem lower_c (hx : x.length ≤ 5592405) (hq : ∀ t' k, (Txt.lower x).length ≤ 3 * x.length → Q (.str (Txt.lower x) t') ⟨hp, gs, dr, k, os⟩) : wpAny (model prog w) A (call (.builtin "str.lower") [.str x t]) Q E ⟨hp, gs, dr, tk, os⟩ :=
  SCL.lower hx fun h => hq _ _ h
end
section
variable {prog : Program} {w : World} {A : Around} {E : Value → Shared → Prop} {Q : Value → Shared → Prop} {hp : Heap} {gs : Array GenState} {dr : Drawn} {tk : Nat} {os : OsState} {h₀ : Heap} {L D : Addr} {m : Str → Option Value} {news news' : List (Addr × Obj)}
theorem append_c {vs : List Value} {n : Nat} {x : Value} (F : Fr h₀ L hp m) (N : News h₀ L hp news) (U : Upd D (listOf vs.toArray n) (listOf (vs ++ [x]).toArray (n + 1)) news news') (hs : vs.length ≤ 16777216)
    (h : ∀ h', Fr h₀ L h' m → News h₀ L h' news' → Q .none ⟨h', gs, dr, tk, os⟩) : wpAny (model prog w) A (call (.builtin "list.append") [.ref D, x]) Q E ⟨hp, gs, dr, tk, os⟩ :=
  append_K (s := ⟨hp, gs, dr, tk, os⟩) (its := vs.toArray) (n := n) F N (by rw [show vs.toArray.push x = (vs ++ [x]).toArray by simp]; exact U) h (by rw [sizeLine_eq, List.size_toArray]; omega)
end
abbrev tupO (vs : List Value) : Obj := { cls := .type "tuple", data := .seq vs.toArray }
def optV : Option Str → Tok → Value
  | none, _ => .none
  | some b, t => .str b t
def spl (x : Str) : Str × Option Str :=
  (Txt.strip (Txt.partition x (Str.ofString ";")).1, if (Txt.partition x (Str.ofString ";")).2.1.length = 0 then none else some (Txt.strip (Txt.partition x (Str.ofString ";")).2.2))
end Mine

end
section
open PySem PySem.W PySem.Calls PyProof.Rows
namespace Mine
abbrev PR : Program := PySem.Challenge.rw_at0001_03.row.toRowW.prog
set_option maxRecDepth 100000 in
set_option maxHeartbeats 8000000 in
theorem split_c {w : World} {loose : List Str} {mean : ExcName → Option Value} {mg mb : Str → Option Value}
    {dp un : Nat} {gd : Option (List Code)} {cn : Str} {cs : Scope} {a : Addr} {ccd : Value} {cl : List (Str × Addr)} {outer : List Env} {A₀ : Around} {base h₀ : Heap} {L : Addr} {m : Str → Option Value} {s : Shared} {Q E : Value → Shared → Prop} {news : List (Addr × Obj)}
    {x : Str} {tx : Tok}
    (B : Below A₀ base outer h₀) (F : Fr h₀ L s.heap m) (X : (hd.heap_39 w.params).In h₀) (N : News h₀ L s.heap news) (T : Top hd.view_39 loose mean mg mb h₀) (hk : cs.kind = .function)
    (hdp : dp + 1 < recursionLimit) (hun : un + 8 < cLine) (hx : x.length ≤ 1000)
    (ret : ∀ r ta tb h' tk', Fr h₀ L h' m → News h₀ L h' ((r, tupO [.str (spl x).1 ta, optV (spl x).2 tb]) :: news) → (∀ p ∈ news, p.1 < r) → Q (.ref r) { s with heap := h', toks := tk' }) :
    wpAny (model PR w) (ktrTop dp un gd cn cs L a ccd cl outer) (call (.ref 21) [.str x tx]) Q E s := by
  have kk : (fun (_ : OpenLaw) (K : Params → Frag) => True) PySem.Challenge.rw_at0001_03 hd.heap_39 := by w_top off; k_fill; trivial
  clear kk
  refine wpAny_call ?_
  k_dflt cell_enter
  k_steps
  all_goals (
    refine' ret _ _ _ _ _ (by assumption) (cb_drop (by assumption) ?hin) ?hlt
    (case hlt => rename (_ ∧ AllLt _ news) => hl; exact ltAll_of hl.2)
    (case hin =>
      intro p hp
      rcases List.mem_cons.mp hp with rfl | hp
      · first
        | (rw [show (spl x).2 = some (Txt.strip (Txt.partition x (Str.ofString ";")).2.2) from if_neg (by omega)]; exact .head _)
        | (rw [show (spl x).2 = none from if_pos (by omega)]; exact .head _)
      · exact .tail _ (.tail _ hp)))
  all_goals exact 0
end Mine

end
section
open PySem PySem.W PySem.Calls PyProof.Rows PySem.Builtin PySem.Builtin.Str
namespace Mine
theorem D_self (l : List Nat) (a : Nat) : D l a a = 0 := by unfold D; rw [seg_nil]; rfl
theorem PI_init (y : Str) {a : Nat} (ha : a ≤ y.length) : PI y a false (F1 y a) a 0 := by
  show PA y a _ _ _
  refine ⟨a, a, rfl, Nat.le_refl _, .inl ⟨rfl, rfl⟩, by rw [len_lt]; exact ha, rfl, by rw [D_self]; rfl, fun p h1 h2 => by omega⟩
theorem F1_of {y : Str} {q k : Nat} (h1 : q ≤ k) (h2 : (lt y)[k]? = some 59) (h3 : ∀ p, q ≤ p → p < k → (lt y)[p]? ≠ some 59) : F1 y q = k := by
  rcases F1_spec y q with ⟨_, h4⟩ | ⟨k', h4, h5, h6, h7⟩
  · exact absurd h2 (h4 k h1)
  · rcases Nat.lt_trichotomy k k' with h | h | h
    · exact absurd h2 (h7 k h1 h)
    · rw [h4, h]
    · exact absurd h6 (h3 k' h5 h)
theorem PA_sum {y : Str} {a : Nat} {e i d : Int} (h : PA y a e i d) (he : 0 < e) : ∃ k lo : Nat, e = k ∧ i = lo ∧ a ≤ lo ∧ lo ≤ k ∧ k < (lt y).length ∧ (lt y)[k]? = some 59 ∧
    d + (count4 y (Str.ofString "\"") i e - count4 y (Str.ofString "\\\"") i e) = (D (lt y) a k : Int) ∧ (∀ p, a ≤ p → p < k → (lt y)[p]? = some 59 → D (lt y) a p % 2 = 1) ∧ (lo < k → F1 y (lo + 1) = k) := by
  obtain ⟨q, lo, hi, h1, h2, h3, h4, h5, h6⟩ := h
  rcases F1_spec y q with ⟨h7, _⟩ | ⟨k, h7, h8, h9, h10⟩
  · omega
  · have hlk : lo ≤ k := by omega
    have hk := lt_of_get h9
    have hkl : k ≤ y.length := by rw [← len_lt]; omega
    have e1 : e = (k : Int) := by rw [h4, h7]
    refine ⟨k, lo, e1, hi, h1, hlk, hk, h9, ?_, ?_, ?_⟩
    · rw [e1, hi, count_diff y hlk hkl, h5, D_split h1 hlk (by rcases h2 with h | h; exact .inl h.1; exact .inr h.2)]
      omega
    · intro p hp1 hp2 hp3
      rcases Nat.lt_or_ge p q with h | h
      · exact h6 p hp1 h hp3
      · exact absurd hp3 (h10 p h hp2)
    · intro hlt
      refine F1_of (q := lo + 1) (by omega) h9 fun p hp1 hp2 => ?_
      rcases Nat.lt_or_ge p q with h | h
      · omega
      · exact h10 p h hp2
theorem PB_sum {y : Str} {a : Nat} {e i d : Int} (h : PB y a e i d) : 
    d + (count4 y (Str.ofString "\"") i e - count4 y (Str.ofString "\\\"") i e) = d := by
  obtain ⟨lo, k, h1, h2, h3, h4, h5, h6, h7, h8, h9⟩ := h
  have hk := lt_of_get h4
  rw [len_lt] at hk
  rw [h1, count_none y i (by omega) ?_]
  · omega
  · rcases F1_spec y (k + 1) with ⟨h10, _⟩ | ⟨k', h10, h11, h12, _⟩
    · have : i = -1 := by rw [h6]; exact_mod_cast h10
      rw [this]; unfold fromIndex; omega
    · have : i = (k' : Int) := by rw [h6]; exact_mod_cast h10
      rw [this, fromIndex_nat]; omega
theorem fmod2 (n : Nat) : Int.fmod (n : Int) 2 = ((n % 2 : Nat) : Int) := by
  rw [Int.fmod_eq_emod_of_nonneg _ (by decide)]; omega

theorem PI_break {y : Str} {a : Nat} {b : Bool} {e i d : Int} (hI : PI y a b e i d) (he : 0 < e) (h : (d + (count4 y (Str.ofString "\"") i e - count4 y (Str.ofString "\\\"") i e)).fmod 2 = 0) :
    ∃ k : Nat, e = k ∧ k < (lt y).length ∧ Cut (lt y) a k := by
  cases b with
  | false =>
    obtain ⟨k, lo, h1, h2, h3, h4, h5, h6, h7, h8, _⟩ := PA_sum hI he
    rw [h7, fmod2] at h
    exact ⟨k, h1, h5, by omega, by omega, fun _ => ⟨h6, by omega⟩, h8⟩
  | true =>
    rw [PB_sum hI] at h
    obtain ⟨lo, k, h1, h2, h3, h4, h5, h6, h7, h8, h9⟩ := hI
    rw [h7, fmod2] at h
    omega
theorem PI_next {y : Str} {a : Nat} {b : Bool} {e i d : Int} (hI : PI y a b e i d) (he : 0 < e) (h : (d + (count4 y (Str.ofString "\"") i e - count4 y (Str.ofString "\\\"") i e)).fmod 2 ≠ 0) :
    PI y a (!b) i (F1 y (e + 1)) (d + (count4 y (Str.ofString "\"") i e - count4 y (Str.ofString "\\\"") i e)) ∧
    (if (!b) = true then 2 * ((lt y).length - i.toNat) else 2 * ((lt y).length - (F1 y (e + 1)).toNat) + 1) < (if b = true then 2 * ((lt y).length - e.toNat) else 2 * ((lt y).length - i.toNat) + 1) := by
  cases b with
  | false =>
    obtain ⟨k, lo, h1, h2, h3, h4, h5, h6, h7, h8, h9⟩ := PA_sum hI he
    rw [h7] at h ⊢
    rw [fmod2] at h
    have hlk : lo < k := by
      rcases Nat.lt_or_ge lo k with h10 | h10
      · exact h10
      · have e1 : lo = k := by omega
        exfalso
        obtain ⟨q, lo', hi', g1, g2, g3, g4, g5, g6⟩ := hI
        have e2 : lo' = lo := by omega
        subst e2
        rcases g2 with g2 | g2
        · rw [← e1, g2.1, D_self] at h; simp at h
        · rcases F1_spec y q with ⟨g7, _⟩ | ⟨k', g7, g8, _, _⟩ <;> omega
    refine ⟨?_, by simp only [Bool.not_false, Bool.false_eq_true, if_false, if_true]; omega⟩
    show PB y a _ _ _
    refine ⟨lo, k, h2, h3, hlk, h6, h9 hlk, by rw [h1], rfl, by omega, fun p hp1 hp2 hp3 => ?_⟩
    rcases Nat.lt_or_ge p k with hpk | hpk
    · exact h8 p hp1 hpk hp3
    · have : p = k := by omega
      subst this; omega
  | true =>
    rw [PB_sum hI]
    obtain ⟨lo, k, h1, h2, h3, h4, h5, h6, h7, h8, h9⟩ := hI
    have hk := lt_of_get h4
    have e1 : F1 y (e + 1) = k := by rw [h1]; exact h5
    rw [e1]
    refine ⟨?_, by simp only [Bool.not_true, Bool.false_eq_true, if_false, if_true]; omega⟩
    show PA y a _ _ _
    exact ⟨k + 1, k, rfl, by omega, .inr ⟨rfl, h4⟩, by omega, h6, h7, fun p hp1 hp2 hp3 => h9 p hp1 (by omega) hp3⟩
theorem PI_out {y : Str} {a : Nat} {b : Bool} {e i d : Int} (hI : PI y a b e i d) (ha : 1 ≤ a) (hal : a ≤ y.length) (he : ¬ 0 < e) : e < 0 ∧ Cut (lt y) a y.length := by
  cases b with
  | false =>
    obtain ⟨q, lo, hi, h1, h2, h3, h4, h5, h6⟩ := hI
    rcases F1_spec y q with ⟨h7, h8⟩ | ⟨k, h7, h8, h9, h10⟩
    · refine ⟨by omega, hal, by rw [len_lt]; omega, fun h => by rw [len_lt] at h; omega, fun p hp1 hp2 hp3 => ?_⟩
      rcases Nat.lt_or_ge p q with h | h
      · exact h6 p hp1 h hp3
      · exact absurd hp3 (h8 p h)
    · omega
  | true =>
    obtain ⟨lo, k, h1, h2, h3, h4, h5, h6, h7, h8, h9⟩ := hI
    omega

/- the pieces' values -/
theorem slice_seg (y : Str) {a b : Nat} (hab : a ≤ b) (hb : b ≤ y.length) : Txt.slice y (some (a : Int)) (some (b : Int)) = S (seg (lt y) a b) := StrLaws.sliceText_nat y hab hb
theorem find4_spec (y : Str) (c : Nat) {a b : Nat} (hab : a ≤ b) (hb : b ≤ y.length) :
    (find4 y ⟨#[c]⟩ a b = -1 ∧ c ∉ seg (lt y) a b) ∨ ∃ k : Nat, find4 y ⟨#[c]⟩ a b = k ∧ a ≤ k ∧ k < b ∧ (lt y)[k]? = some c ∧ c ∉ seg (lt y) a k := by
  have hmem : ∀ b', b' ≤ y.length → (c ∈ seg (lt y) a b' ↔ ∃ p, a ≤ p ∧ p < b' ∧ (lt y)[p]? = some c) := by
    intro b' hb'
    unfold seg
    rw [List.mem_iff_getElem?]
    constructor
    · rintro ⟨i, hi⟩
      have h1 := lt_of_get hi
      rw [List.getElem?_take_of_lt (by simp at h1; omega), List.getElem?_drop] at hi
      exact ⟨a + i, by omega, by simp at h1; omega, hi⟩
    · rintro ⟨p, h1, h2, h3⟩
      refine ⟨p - a, ?_⟩
      rw [List.getElem?_take_of_lt (by omega), List.getElem?_drop]
      rw [← h3]; congr 1; omega
  unfold find4
  rw [fromIndex_nat, endIdx_nat hb, StrLaws.occ_eq]
  rcases StrLaws.occ_first y ⟨#[c]⟩ b 1 (Nat.le_refl 1) (List.range' a (b + 1 - a)) a (fun i hi => (List.mem_range'_1.mp hi).1) with ⟨h0, hn⟩ | ⟨pre, k, post, e, h0, hk, hn⟩
  · rw [h0]
    refine .inl ⟨rfl, fun h => ?_⟩
    obtain ⟨p, h1, h2, h3⟩ := (hmem b hb).mp h
    refine hn p (List.mem_range'_1.mpr ⟨h1, by omega⟩) ?_
    have := (occ1 y c b p hb).mpr ⟨h2, h3⟩
    unfold Occ at this
    rw [Bool.and_eq_true, decide_eq_true_eq] at this
    exact this
  · have hs := StrLaws.range'_split_from e
    have h1 : Occ y ⟨#[c]⟩ b k = true := by unfold Occ; rw [Bool.and_eq_true, decide_eq_true_eq]; exact hk
    rw [occ1 y c b k hb] at h1
    refine .inr ⟨k, ?_, hs.1, h1.1, h1.2, fun h => ?_⟩
    · generalize (forIn (List.range' a (b + 1 - a)) ((#[] : Array Nat), a) (StrLaws.occBody y ⟨#[c]⟩ b 1)).run.fst = arr at h0
      have h2 : arr.toList[0]? = some k := by simpa using h0
      cases hL : arr.toList with
      | nil => rw [hL] at h2; cases h2
      | cons d t => rw [hL] at h2; simp at h2; simp [h2]
    · obtain ⟨p, h2, h3, h4⟩ := (hmem k (by omega)).mp h
      refine hn p (hs.2 p h2 h3) ?_
      have := (occ1 y c b p hb).mpr ⟨by omega, h4⟩
      unfold Occ at this
      rw [Bool.and_eq_true, decide_eq_true_eq] at this
      exact this
theorem eq_str : Str.ofString "=" = ⟨#[61]⟩ := by decide +kernel
theorem val_none {y : Str} {a b : Nat} (hab : a ≤ b) (hb : b ≤ y.length) (h : find4 y (Str.ofString "=") a b = -1) :
    Txt.strip (Txt.slice y (some (a : Int)) (some (b : Int))) = fmt (seg (lt y) a b) := by
  rw [eq_str] at h
  rcases find4_spec y 61 hab hb with ⟨_, h1⟩ | ⟨k, h1, _⟩
  · unfold fmt
    rw [if_neg h1, slice_seg y hab hb]
  · omega
theorem takeWhile_seg {u v : List Nat} (h : 61 ∉ u) : (u ++ 61 :: v).takeWhile (· != 61) = u ∧ ((u ++ 61 :: v).dropWhile (· != 61)).tail = v := by
  induction u with
  | nil => simp
  | cons c r ih =>
    simp at h
    have hc : (c != 61) = true := by simp; omega
    have := ih (by simpa using h.2)
    simp [hc, this]
theorem val_some {y : Str} {a b : Nat} (hab : a ≤ b) (hb : b ≤ y.length) (h : find4 y (Str.ofString "=") a b ≠ -1) :
    Txt.strip (Txt.lower (Txt.rstrip (Txt.slice y (some (a : Int)) (some (find4 y (Str.ofString "=") a b)))) ++ Str.ofString "=" ++ Txt.lstrip (Txt.slice y (some (find4 y (Str.ofString "=") a b + 1)) (some (b : Int)))) = fmt (seg (lt y) a b) := by
  rw [eq_str] at h ⊢
  rcases find4_spec y 61 hab hb with ⟨h1, _⟩ | ⟨k, h1, h2, h3, h4, h5⟩
  · exact absurd h1 h
  · have e1 : seg (lt y) a b = seg (lt y) a k ++ 61 :: seg (lt y) (k + 1) b := by
      rw [seg_split h2 (Nat.le_of_lt h3), seg_at h4 h3]
    have e2 : ((k : Int) + 1) = ((k + 1 : Nat) : Int) := by omega
    rw [h1, e2, slice_seg y h2 (by omega), slice_seg y (by omega) hb]
    unfold fmt
    rw [if_pos (by rw [e1]; simp), e1, (takeWhile_seg h5).1, (takeWhile_seg h5).2, eq_str]
end Mine

end
section
open PySem PySem.W PySem.Calls PyProof.Rows PySem.Builtin PySem.Builtin.Str
namespace Mine
local macro_rules | `(tactic| walk_at "call builtin:str.find cons str cons str cons int nil") => `(tactic| (refine find3_c ?_; intro _ _))
local macro_rules | `(tactic| walk_at "call builtin:str.find") => `(tactic| (refine find3_c ?_; intro _ _))
local macro_rules | `(tactic| walk_at "call builtin:str.find") => `(tactic| (refine find4_c ?_; intro _ _))
local macro_rules | `(tactic| walk_at "call builtin:str.count") => `(tactic| (refine count4_c ?_; intro _ _))
local macro_rules | `(tactic| walk_at "binaryOp Add str str") => `(tactic| (k_here; k_dflt (refine add_c (by omega) ?_); intro _ _ _))
local macro_rules | `(tactic| walk_at "call builtin:str.strip") => `(tactic| (k_here; k_dflt (refine strip_c (by omega) ?_); intro _ _ _))
local macro_rules | `(tactic| walk_at "call builtin:str.rstrip") => `(tactic| (k_here; k_dflt (refine rstrip_c (by omega) ?_); intro _ _ _))
local macro_rules | `(tactic| walk_at "call builtin:str.lstrip") => `(tactic| (k_here; k_dflt (refine lstrip_c (by omega) ?_); intro _ _ _))
local macro_rules | `(tactic| walk_at "call builtin:list.append") => `(tactic| (k_here; k_dflt (refine' append_c ?k1 ?k2 ?k3 ?z ?_; (case k1 => k_asm); (case k2 => k_asm); (case k3 => k_upd); (case z => omega); k_whole); intro h' F' N'; (try k_sweep)))
local macro_rules | `(tactic| walk_at "WPost") => `(tactic| dsimp only [WPost])
local macro_rules | `(tactic| walk_at "FPost") => `(tactic| dsimp only [FPost])
local macro_rules | `(tactic| walk_at "call builtin:str.lower") => `(tactic| (k_here; k_dflt (refine lower_c (by omega) ?_); intro _ _ _))
local macro_rules | `(tactic| k_upd) => `(tactic| first | exact updHere (by assumption) | exact updOff (by assumption) | (refine' Upd.tail ?a ?b; (case a => k_ne); (case b => k_upd)))
local macro_rules | `(tactic| walk_at "storeName") => `(tactic| (k_here; k_dflt (refine st_int (by with_reducible assumption) (by with_reducible assumption) ?_); intro h' t' _ F' N'; (try k_sweep)))
local macro_rules | `(tactic| walk_at "storeName") => `(tactic| (k_here; k_dflt (refine st_str (by with_reducible assumption) (by with_reducible assumption) ?_); intro h' t' _ F' N'; (try k_sweep)))
local macro_rules | `(tactic| walk_at "exec While Compare cons nil") => `(tactic| refine Stop.out ?_)

abbrev pY (x : Str) : Str := Str.ofString ";" ++ x
structure PO (x : Str) (c : Nat × Tok × List Value × Nat) : Prop where
  hle : c.1 ≤ (lt (pY x)).length
  hch : c.1 < (lt (pY x)).length → (lt (pY x))[c.1]? = some 59
  hvl : c.2.2.1.length ≤ c.1
  hdn : ∃ dn, StrsAre c.2.2.1 dn ∧ dn ++ restP (lt (pY x)) c.1 = parse x
theorem pY_len (x : Str) : (lt (pY x)).length = x.length + 1 := by
  rw [len_lt, Str.length_append]
  have : (Str.ofString ";").length = 1 := by decide
  omega
theorem pY_list (x : Str) : lt (pY x) = 59 :: x.cps.toList := by
  show (Str.ofString ";" ++ x).cps.toList = _
  rw [Str.cps_append, show (Str.ofString ";").cps = #[59] by decide +kernel]
  simp
theorem PO_start (x : Str) (t : Tok) : PO x (0, t, [], 0) where
  hle := Nat.zero_le _
  hch := fun _ => by rw [pY_list]; rfl
  hvl := Nat.le_refl _
  hdn := ⟨[], .nil, by
    show [] ++ restP (lt (pY x)) 0 = parse x
    unfold restP parse
    rw [if_pos (by rw [pY_len]; omega), pY_list]; rfl⟩
theorem PO_at {x : Str} {c : Nat × Tok × List Value × Nat} (h : PO x c) (hf : F1 (pY x) (c.1 : Int) = c.1) : c.1 < (lt (pY x)).length := by
  rcases F1_spec (pY x) c.1 with ⟨h1, _⟩ | ⟨k, h1, h2, h3, _⟩
  · omega
  · have : k = c.1 := by omega
    subst this
    exact lt_of_get h3
theorem PO_done {x : Str} {c : Nat × Tok × List Value × Nat} (h : PO x c) (hf : F1 (pY x) (c.1 : Int) ≠ c.1) : StrsAre c.2.2.1 (parse x) := by
  have : ¬ c.1 < (lt (pY x)).length := fun hlt => hf (F1_of (Nat.le_refl _) (h.hch hlt) fun p h1 h2 => by omega)
  obtain ⟨dn, h1, h2⟩ := h.hdn
  rw [← h2]
  unfold restP
  rw [if_neg this, List.append_nil]
  exact h1
theorem PO_next {x : Str} {st k : Nat} {tst t' : Tok} {vs : List Value} {n n' : Nat} {v : Str} {tv : Tok} (h : PO x (st, tst, vs, n)) (hs : st < (lt (pY x)).length) (hc : Cut (lt (pY x)) (st + 1) k) (hv : v = fmt (seg (lt (pY x)) (st + 1) k)) : PO x (k, t', vs ++ [.str v tv], n') where
  hle := hc.2.1
  hch := fun hk => (hc.2.2.1 hk).1
  hvl := by have := h.hvl; have := hc.1; simp at *; omega
  hdn := by
    obtain ⟨dn, h1, h2⟩ := h.hdn
    refine ⟨dn ++ [v], StrsAre.append' h1 (.cons _ _ .nil), ?_⟩
    rw [← h2, List.append_assoc]
    show dn ++ ([v] ++ restP (lt (pY x)) k) = dn ++ restP (lt (pY x)) st
    have e : restP (lt (pY x)) st = v :: restP (lt (pY x)) k := by
      rw [hv, ← cut_rest (by omega) hc]
      conv => lhs; unfold restP
      rw [if_pos hs]
    rw [e]; rfl

set_option maxRecDepth 100000 in
set_option maxHeartbeats 4000000 in
theorem parse_c {w : World} {loose : List Str} {mean : ExcName → Option Value} {mg mb : Str → Option Value}
    {dp un : Nat} {gd : Option (List Code)} {cn : Str} {cs : Scope} {a : Addr} {ccd : Value} {cl : List (Str × Addr)} {outer : List Env} {A₀ : Around} {base h₀ : Heap} {L : Addr} {m : Str → Option Value} {s : Shared} {Q E : Value → Shared → Prop} {news : List (Addr × Obj)}
    {x : Str} {tx : Tok}
    (B : Below A₀ base outer h₀) (F : Fr h₀ L s.heap m) (X : (hd.heap_39 w.params).In h₀) (N : News h₀ L s.heap news) (T : Top hd.view_39 loose mean mg mb h₀) (hk : cs.kind = .function)
    (hdp : dp + 1 < recursionLimit) (hun : un + 8 < cLine) (hx : x.length ≤ 1000)
    (ret : ∀ r vs n h' tk', Fr h₀ L h' m → News h₀ L h' ((r, listOf vs.toArray n) :: news) → (∀ p ∈ news, p.1 < r) → StrsAre vs (parse x) → vs.length ≤ x.length + 1 → Q (.ref r) { s with heap := h', toks := tk' }) :
    wpAny (model PR w) (ktrTop dp un gd cn cs L a ccd cl outer) (call (.ref 28) [.str x tx]) Q E s := by
  have kk : (fun (_ : OpenLaw) (K : Params → Frag) => True) PySem.Challenge.rw_at0001_03 hd.heap_39 := by w_top off; k_fill; trivial
  clear kk
  refine wpAny_call ?_
  k_dflt cell_enter
  refine no_raise ?_
  k_steps
  refine ⟨?_⟩
  rename Fr _ _ _ _ => F1
  rename News _ _ _ _ => N1
  have hsc : (Str.ofString ";").length = 1 := by decide
  have hsq : (Str.ofString "=").length = 1 := by decide
  rename_i t' _ l' _ l1 _ _ _ _
  with_unfolding_all refine' my_while (σ := Nat × Tok × List Value × Nat) (fun c => (l', listOf c.2.2.1.toArray c.2.2.2) :: news) (fun c => [(Str.ofString "s", Value.str (pY x) t'), (Str.ofString "plist", Value.ref l'), (Str.ofString "start", Value.int (c.1 : Int) c.2.1)]) (PO x) (fun c => (lt (pY x)).length + 1 - c.1) (0, _, [], _) F1 N1 ?k1 ?k2 PassesOwn.never ?_
  case k1 => kst_all
  case k2 => exact PO_start x _
  clear F1 N1
  rintro ⟨st, tst, vs, n⟩ u h tk hP F1 N1
  dsimp only at F1 N1
  (try k_fold)
  k_steps
  · refine ⟨?_⟩
    rename Fr _ _ _ _ => F1
    rename News _ _ _ _ => N1
    rename (Txt.find3 _ _ _ = _) => hfind
    rename (_ < _ ∧ AllLt _ _) => hD
    clear hD
    have hlt := PO_at hP hfind
    have hlen1 := pY_len x
    have hlen2 := len_lt (pY x)
    have hvl : vs.length ≤ st := hP.hvl
    replace N1 := cb_drop (news := (l', listOf vs.toArray n) :: news) N1 (fun p hp => .tail _ hp)
    with_unfolding_all refine' my_while (σ := Bool × Int × Tok × Int × Tok × Int × Tok) (fun c => (l', listOf vs.toArray n) :: news) (fun c => [(Str.ofString "s", Value.str (pY x) t'), (Str.ofString "plist", Value.ref l'), (Str.ofString "start", Value.int (((st + 1 : Nat)) : Int) _), (Str.ofString "end", Value.int c.2.1 c.2.2.1), (Str.ofString "ind", Value.int c.2.2.2.1 c.2.2.2.2.1), (Str.ofString "diff", Value.int c.2.2.2.2.2.1 c.2.2.2.2.2.2)]) (fun c => PI (pY x) (st + 1) c.1 c.2.1 c.2.2.2.1 c.2.2.2.2.2.1) (fun c => if c.1 = true then 2 * ((lt (pY x)).length - c.2.1.toNat) else 2 * ((lt (pY x)).length - c.2.2.2.1.toNat) + 1) (false, _, _, _, _, _, _) F1 N1 ?k1 ?k2 PassesOwn.never ?_
    case k1 => kst_all
    case k2 => exact PI_init (pY x) (a := st + 1) (by omega)
    clear F1 N1
    rintro ⟨b, e, te, i, ti, d, td⟩ u h tk hI F1 N1
    dsimp only at hI F1 N1
    have hz : 0 < e ∨ e < 0 := by
      by_cases he : 0 < e
      · exact .inl he
      · exact .inr (PI_out hI (by omega) (by omega) he).1
    (try k_fold)
    k_steps
    · with_reducible rename Fr _ _ _ _ => F2
      with_reducible rename News _ _ _ _ => N2
      with_reducible rename (find4 _ _ _ _ = -1) => hf
      with_reducible rename (Int.fmod _ _ = 0) => hm
      with_reducible rename (0 < e) => he
      obtain ⟨k, rfl, hk, hc⟩ := PI_break hI he hm
      refine' ⟨(k, _, vs ++ [_], n + 1), _, _, _, _, rfl, F2, N2, fun p hp => hp, ?a1, PO_next hP hlt hc (val_none hc.1 (by omega) hf), ?a2⟩
      case a1 => kst_all
      case a2 => have := hc.1; dsimp only at hlt ⊢; omega
    · with_reducible rename Fr _ _ _ _ => F2
      with_reducible rename News _ _ _ _ => N2
      with_reducible rename (find4 _ _ _ _ ≠ -1) => hf
      with_reducible rename (Int.fmod _ _ = 0) => hm
      with_reducible rename (0 < e) => he
      obtain ⟨k, rfl, hk, hc⟩ := PI_break hI he hm
      refine' ⟨(k, _, vs ++ [_], n + 1), _, _, _, _, rfl, F2, N2, fun p hp => hp, ?a1, PO_next hP hlt hc (val_some hc.1 (by omega) hf), ?a2⟩
      case a1 => kst_all
      case a2 => have := hc.1; dsimp only at hlt ⊢; omega
    · with_reducible rename Fr _ _ _ _ => F2
      with_reducible rename News _ _ _ _ => N2
      with_reducible rename (Int.fmod _ _ ≠ 0) => hm
      with_reducible rename (0 < e) => he
      obtain ⟨hn, hmu⟩ := PI_next hI he hm
      refine' ⟨(!b, i, _, _, _, _, _), _, _, _, _, rfl, F2, N2, fun p hp => .tail _ hp, ?a1, hn, hmu⟩
      case a1 => kst_all
    · with_reducible rename Fr _ _ _ _ => F2
      with_reducible rename News _ _ _ _ => N2
      with_reducible rename (find4 _ _ _ _ = -1) => hf
      with_reducible rename (¬ 0 < e) => he
      obtain ⟨_, hc⟩ := PI_out hI (by omega) (by omega) he
      refine' ⟨((pY x).length, _, vs ++ [_], n + 1), _, _, _, _, rfl, F2, N2, fun p hp => hp, ?a1, PO_next hP hlt hc (val_none hc.1 (Nat.le_refl _) hf), ?a2⟩
      case a1 => kst_all
      case a2 => dsimp only at hlt ⊢; omega
    · with_reducible rename Fr _ _ _ _ => F2
      with_reducible rename News _ _ _ _ => N2
      with_reducible rename (find4 _ _ _ _ ≠ -1) => hf
      with_reducible rename (¬ 0 < e) => he
      obtain ⟨_, hc⟩ := PI_out hI (by omega) (by omega) he
      refine' ⟨((pY x).length, _, vs ++ [_], n + 1), _, _, _, _, rfl, F2, N2, fun p hp => hp, ?a1, PO_next hP hlt hc (val_some hc.1 (Nat.le_refl _) hf), ?a2⟩
      case a1 => kst_all
      case a2 => dsimp only at hlt ⊢; omega
  · with_reducible rename (Txt.find3 _ _ _ ≠ _) => hf
    refine ret _ vs n _ _ (by assumption) (by assumption) l1 (PO_done hP hf) ?_
    have h1 : vs.length ≤ st := hP.hvl
    have h2 : st ≤ (lt (pY x)).length := hP.hle
    have h3 := pY_len x
    omega
end Mine

end
section
open PySem PySem.W PySem.Calls PyProof.Rows PySem.Builtin PySem.Builtin.Str
namespace Mine
local macro_rules | `(tactic| walk_at "call builtin:str.find") => `(tactic| (k_here; refine find3_c ?_; intro _ _))
local macro_rules | `(tactic| walk_at "call builtin:str.find") => `(tactic| (k_here; refine find4_c ?_; intro _ _))
local macro_rules | `(tactic| walk_at "call builtin:str.count") => `(tactic| (k_here; refine count4_c ?_; intro _ _))
local macro_rules | `(tactic| walk_at "binaryOp Add str str") => `(tactic| (k_here; k_dflt (refine add_c (by omega) ?_); intro _ _ _))
local macro_rules | `(tactic| walk_at "call builtin:str.strip") => `(tactic| (k_here; k_dflt (refine strip_c (by omega) ?_); intro _ _ _))
local macro_rules | `(tactic| walk_at "call builtin:str.rstrip") => `(tactic| (k_here; k_dflt (refine rstrip_c (by omega) ?_); intro _ _ _))
local macro_rules | `(tactic| walk_at "call builtin:str.lstrip") => `(tactic| (k_here; k_dflt (refine lstrip_c (by omega) ?_); intro _ _ _))
local macro_rules | `(tactic| walk_at "call builtin:str.lower") => `(tactic| (k_here; k_dflt (refine lower_c (by omega) ?_); intro _ _ _))
local macro_rules | `(tactic| walk_at "call builtin:list.append") => `(tactic| (k_here; k_dflt (refine' append_c ?k1 ?k2 ?k3 ?z ?_; (case k1 => k_asm); (case k2 => k_asm); (case k3 => k_upd); (case z => omega); k_whole); intro h' F' N'; (try k_sweep)))
local macro_rules | `(tactic| walk_at "WPost") => `(tactic| dsimp only [WPost])
local macro_rules | `(tactic| walk_at "FPost") => `(tactic| dsimp only [FPost])
local macro_rules | `(tactic| k_upd) => `(tactic| first | exact updHere (by assumption) | exact updOff (by assumption) | (refine' Upd.tail ?a ?b; (case a => k_ne); (case b => k_upd)))
local macro_rules | `(tactic| walk_at "storeName") => `(tactic| (k_here; k_dflt (refine st_int (by with_reducible assumption) (by with_reducible assumption) ?_); intro h' t' _ F' N'; (try k_sweep)))
local macro_rules | `(tactic| walk_at "storeName") => `(tactic| (k_here; k_dflt (refine st_str (by with_reducible assumption) (by with_reducible assumption) ?_); intro h' t' _ F' N'; (try k_sweep)))
local macro_rules | `(tactic| walk_at "exec While Compare cons nil") => `(tactic| refine Stop.out ?_)
local macro_rules | `(tactic| walk_at "pyIter ref") => `(tactic| refine Stop.out ?_)
local macro_rules | `(tactic| walk_at "exec For Name Name cons nil") => `(tactic| (k_here; (rename Fr _ _ _ _ => lF'); (with_unfolding_all refine' For_invVF lF' ?k1 ?k2 ?_; (case k1 => exact rfl); (case k2 => exact rfl); k_whole)))
def BL : Str := Str.ofString "\t\n\x0b\x0c\r\x1c\x1d\x1e\x1f \u0085\u00a0\u1680\u2000\u2001\u2002\u2003\u2004\u2005" ++ Str.ofString "\u2006\u2007\u2008\u2009\u200a\u2028\u2029\u202f\u205f\u3000"
def A3 : List Nat := [59, 34, 92, 61, 97, 66, 201, 304, 65307, 120] ++ BL.cps.toList
set_option maxRecDepth 100000 in
set_option maxHeartbeats 4000000 in
theorem blanks_c {w : World} {loose : List Str} {mean : ExcName → Option Value} {mg mb : Str → Option Value}
    {dp un : Nat} {gd : Option (List Code)} {cn : Str} {cs : Scope} {a : Addr} {ccd : Value} {cl : List (Str × Addr)} {outer : List Env} {A₀ : Around} {base h₀ : Heap} {L : Addr} {m : Str → Option Value} {s : Shared} {Q E : Value → Shared → Prop} {news : List (Addr × Obj)}
    (B : Below A₀ base outer h₀) (F : Fr h₀ L s.heap m) (X : (hd.heap_39 w.params).In h₀) (N : News h₀ L s.heap news) (T : Top hd.view_39 loose mean mg mb h₀) (hk : cs.kind = .function)
    (hdp : dp + 1 < recursionLimit) (hun : un + 8 < cLine)
    (ret : ∀ t h' tk', Fr h₀ L h' m → News h₀ L h' news → Q (.str BL t) { s with heap := h', toks := tk' }) :
    wpAny (model PR w) (ktrTop dp un gd cn cs L a ccd cl outer) (call (.ref 35) []) Q E s := by
  have kk : (fun (_ : OpenLaw) (K : Params → Frag) => True) PySem.Challenge.rw_at0001_03 hd.heap_39 := by w_top off; k_fill; trivial
  clear kk
  refine wpAny_call ?_
  k_dflt cell_enter
  k_steps
  exact ret _ _ _ (by assumption) (by assumption)
local macro_rules | `(tactic| walk_at "call ref") => `(tactic| (k_here; k_dflt (refine' blanks_c ?b1 ?b2 ?b3 ?b4 ?b5 ?b6 ?b7 ?b8 ?_; (case b1 => k_asm); (case b2 => k_asm); (case b3 => k_asm); (case b4 => k_asm); (case b5 => k_asm); (case b6 => first | exact rfl | assumption); (case b7 => ktr_room); (case b8 => ktr_units); k_whole); intro t' h' tk' F' N'; (try dsimp only)))
theorem mem_app {x y : Str} {c : Nat} (h : c ∈ (x ++ y).cps.toList) : c ∈ x.cps.toList ∨ c ∈ y.cps.toList := by
  rw [Str.cps_append] at h
  simpa using h
theorem blank_in0 : ∀ k : Nat, k < 29 → ∀ c ∈ (Txt.item BL (k : Int)).cps.toList, c ∈ A3 := by decide +kernel
theorem blank_in (k : Int) (h0 : 0 ≤ k) (h1 : k < 29) : ∀ c ∈ (Txt.item BL k).cps.toList, c ∈ A3 := by
  have := blank_in0 k.toNat (by omega)
  rwa [Int.toNat_of_nonneg h0] at this
theorem sg_len (k : Nat) : ([Str.ofString ";", Str.ofString ";", Str.ofString ";", Str.ofString "\"", Str.ofString "\"", Str.ofString "\\",
            Str.ofString "=", Str.ofString "", Str.ofString "", Str.ofString "", Str.ofString "a", Str.ofString "B",
            Str.ofString "É", Str.ofString "İ", Str.ofString "；", Str.ofString "x"].getD k Str.empty).length ≤ 1 ∧ ∀ c ∈ ([Str.ofString ";", Str.ofString ";", Str.ofString ";", Str.ofString "\"", Str.ofString "\"", Str.ofString "\\",
            Str.ofString "=", Str.ofString "", Str.ofString "", Str.ofString "", Str.ofString "a", Str.ofString "B",
            Str.ofString "É", Str.ofString "İ", Str.ofString "；", Str.ofString "x"].getD k Str.empty).cps.toList, c ∈ A3 := by
  rcases Nat.lt_or_ge k 16 with h | h
  · revert k
    decide +kernel
  · rw [List.getD_eq_getElem?_getD, List.getElem?_eq_none (by simpa using h)]
    decide +kernel
set_option maxRecDepth 100000 in
set_option maxHeartbeats 4000000 in
theorem text_c {w : World} {loose : List Str} {mean : ExcName → Option Value} {mg mb : Str → Option Value}
    {dp un : Nat} {gd : Option (List Code)} {cn : Str} {cs : Scope} {a : Addr} {ccd : Value} {cl : List (Str × Addr)} {outer : List Env} {A₀ : Around} {base h₀ : Heap} {L : Addr} {m : Str → Option Value} {s : Shared} {Q E : Value → Shared → Prop} {news : List (Addr × Obj)}
    {ls : Addr} {vs : List Value} {ns : List Int}
    (B : Below A₀ base outer h₀) (F : Fr h₀ L s.heap m) (X : (hd.heap_39 w.params).In h₀) (N : News h₀ L s.heap news) (T : Top hd.view_39 loose mean mg mb h₀) (hk : cs.kind = .function)
    (hdp : dp + 2 < recursionLimit) (hun : un + 16 < cLine) (hl : base.IsList ls vs.toArray) (hi : IntsAre vs ns) (hn : ns.length ≤ 63)
    (ret : ∀ x t h' tk', (∀ c ∈ x.cps.toList, c ∈ A3) → x.length ≤ 63 → Fr h₀ L h' m → News h₀ L h' news → Q (.str x t) { s with heap := h', toks := tk' }) :
    wpAny (model PR w) (ktrTop dp un gd cn cs L a ccd cl outer) (call (.ref 42) [.ref ls]) Q E s := by
  have kk : (fun (_ : OpenLaw) (K : Params → Frag) => True) PySem.Challenge.rw_at0001_03 hd.heap_39 := by w_top off; k_fill; trivial
  clear kk
  refine wpAny_call ?_
  k_dflt cell_enter
  refine no_raise ?_
  k_steps
  refine ⟨?_⟩
  rename Fr _ _ _ _ => F1
  rename News _ _ _ _ => N1
  refine' my_forB (σ := Str × Tok) (fun _ => []) _ (fun c => [(Str.ofString "found", Value.str c.1 c.2), (Str.ofString "signs", _)]) (fun i c => c.1.length ≤ i ∧ ∀ ch ∈ c.1.cps.toList, ch ∈ A3) (_, _) rfl (by assumption) (fun _ p hp => nomatch hp) F1 N1 ?k1 ?k2 ?turn ?done rfl
  case k1 => kst_all
  case k2 => exact ⟨Nat.le_refl 0, fun c h => nomatch h⟩
  case turn =>
    clear F1 N1
    rintro i v ⟨fo, tf⟩ u h tk own hv ⟨hP1, hP2⟩ hoff F1 N1
    dsimp only at hP1 hP2 F1 N1
    simp only [List.nil_append, List.cons_append] at N1
    refine Exists.elim (IntsAre.at hi i v hv) ?_
    intro n hz
    refine Exists.elim hz ?_
    intro tn hz
    have hvv := hz.1
    have hn' := hz.2
    clear hz
    subst hvv
    have hi63 : i < 63 := by have := (List.getElem?_eq_some_iff.mp hn').1; omega
    (try k_fold)
    k_steps
    · rename Fr _ _ _ _ => F2
      rename News _ _ _ _ => N2
      refine' ⟨(_, _), _, _, _, _, rfl, F2, N2, fun p hp => hp, ?a0, ?b0⟩
      case a0 => kst_all
      refine ⟨by dsimp only; omega, fun ch hch => ?_⟩
      rcases mem_app hch with hch | hch
      · exact hP2 ch hch
      · exact blank_in _ (by first | omega | exact Int.fmod_nonneg_of_pos _ (by decide)) (Int.fmod_lt_of_pos _ (by decide)) ch hch
    · rename Fr _ _ _ _ => F2
      rename News _ _ _ _ => N2
      refine' ⟨(_, _), _, _, _, _, rfl, F2, N2, fun p hp => hp, ?a1, ?b1⟩
      case a1 => kst_all
      have := (sg_len (n.fmod 16).toNat).1
      refine ⟨by dsimp only; omega, fun ch hch => ?_⟩
      rcases mem_app hch with hch | hch
      · exact hP2 ch hch
      · exact (sg_len (n.fmod 16).toNat).2 ch hch
    · rename Fr _ _ _ _ => F2
      rename News _ _ _ _ => N2
      refine' ⟨(_, _), _, _, _, _, rfl, F2, N2, fun p hp => hp, ?a2, ?b2⟩
      case a2 => kst_all
      have := (sg_len (n.fmod 16).toNat).1
      refine ⟨by dsimp only; omega, fun ch hch => ?_⟩
      rcases mem_app hch with hch | hch
      · exact hP2 ch hch
      · exact (sg_len (n.fmod 16).toNat).2 ch hch
  case done =>
    clear F1 N1
    rintro ⟨fo, tf⟩ u h tk ⟨hP1, hP2⟩ F1 N1
    dsimp only at hP1 hP2 F1 N1
    (try k_fold)
    k_steps
    have hlv := IntsAre.length hi
    exact ret _ _ _ _ hP2 (by omega) (by assumption) (cb_drop (by assumption) fun p hp => .tail _ hp)
end Mine

end
section
open PySem PySem.W PySem.Calls PyProof.Rows PyProof.V PySem.Builtin PySem.Builtin.Str
namespace Mine
section
variable {prog : Program} {w : World} {A : Around} {E : Value → Shared → Prop} {s : Shared} {h₀ : Heap} {L : Addr} {m : Str → Option Value} {env : Env}

structure CEnd (h₀ : Heap) (L : Addr) (m : Str → Option Value) (s₁ : Shared) (led : List (Addr × Obj)) (J : Prop) (s₂ : Shared) : Prop where
  j : J
  e : ∃ h' tk' news', s₂ = { s₁ with heap := h', toks := tk' } ∧ Fr h₀ L h' m ∧ News h₀ L h' news' ∧ ∀ p ∈ led, p ∈ news'

theorem my_rest {elt : Expr} {x : Str} {scope : Scope} {cl : List (Str × Addr)} {S : List (Addr × Obj) → Prop} {P : Nat → Value → Prop} {Fin : List Value → List (Addr × Obj) → Prop} {n : Nat} {news : List (Addr × Obj)} (J : Nat → List Value → Prop) (hS : S news) (h0 : J 0 [])
    (turn : ∀ i v ys I oI C oC D m₂ h tk (E' : Value → Shared → Prop), i < n → P i v → J i ys → ys.length ≤ i → LCg.NsObj oC m₂ → m₂ x = some v → Fr h₀ L h m → News h₀ L h ((I, oI) :: (C, oC) :: (D, LCg.lst ys) :: news) → LCg.Off3 I C D news → ((@Ne Nat I C) ∧ (@Ne Nat I D) ∧ (@Ne Nat C D)) →
      wpAny (model prog w) A (eval elt (compEnvC scope cl C env)) (fun y s₂ => CEnd h₀ L m { s with heap := h, toks := tk } ((I, oI) :: (C, oC) :: (D, LCg.lst ys) :: news) (J (i + 1) (ys ++ [y])) s₂) E' { s with heap := h, toks := tk })
    (fin : ∀ ys, J n ys → ys.length ≤ n → Fin ys news) : LCg.CompRest prog w A h₀ L m env elt x scope cl s S P Fin n 0 [] news := by
  have key : ∀ (j i : Nat) (ys : List Value), i + j = n → J i ys → ys.length ≤ i → LCg.CompRest prog w A h₀ L m env elt x scope cl s S P Fin j i ys news := by
    intro j
    induction j with
    | zero =>
      intro i ys hi hJ hl
      have : i = n := by omega
      subst this
      exact LCg.CompRest.zero (fin ys hJ hl)
    | succ j ih =>
      intro i ys hi hJ hl
      refine LCg.CompRest.succ ?_
      intro v I oI C oC D m₂ h tk E' hv hC hx F N off ne
      refine wpAny_mono (turn i v ys I oI C oC D m₂ h tk E' (by omega) hv hJ hl hC hx F N off ne) (fun y s₂ hq => ?_) fun _ _ e => e
      obtain ⟨hJ', h', tk', news', rfl, F', N', hn⟩ := hq
      exact ⟨h', tk', news, rfl, F', fun p hp => N' p (hn p hp), off, hS, ih (i + 1) _ (by omega) hJ' (by simp; omega)⟩
  exact key n 0 [] (by omega) h0 (Nat.le_refl _)

theorem my_restT {ct elt : Expr} {x : Str} {scope : Scope} {cl : List (Str × Addr)} {S : List (Addr × Obj) → Prop} {P : Nat → Value → Prop} {Fin : List Value → List (Addr × Obj) → Prop} {n : Nat} {news : List (Addr × Obj)} (J : Nat → List Value → Prop) (hS : S news) (h0 : J 0 [])
    (turn : ∀ i v ys I oI C oC D m₂ h tk (E' : Value → Shared → Prop), i < n → P i v → J i ys → ys.length ≤ i → LCg.NsObj oC m₂ → m₂ x = some v → Fr h₀ L h m → News h₀ L h ((I, oI) :: (C, oC) :: (D, LCg.lst ys) :: news) → LCg.Off3 I C D news → ((@Ne Nat I C) ∧ (@Ne Nat I D) ∧ (@Ne Nat C D)) →
      wpAny (model prog w) A (isTrue ct (compEnvC scope cl C env) (eval ct (compEnvC scope cl C env))) (fun ok s' => if ok = true then
        wpAny (model prog w) A (eval elt (compEnvC scope cl C env)) (fun y s₂ => CEnd h₀ L m { s with heap := h, toks := tk } ((I, oI) :: (C, oC) :: (D, LCg.lst ys) :: news) (J (i + 1) (ys ++ [y])) s₂) E' s'
        else CEnd h₀ L m { s with heap := h, toks := tk } ((I, oI) :: (C, oC) :: (D, LCg.lst ys) :: news) (J (i + 1) ys) s') E' { s with heap := h, toks := tk })
    (fin : ∀ ys, J n ys → ys.length ≤ n → Fin ys news) : LCt.CompRestT prog w A h₀ L m env ct elt x scope cl s S P Fin n 0 [] news := by
  have key : ∀ (j i : Nat) (ys : List Value), i + j = n → J i ys → ys.length ≤ i → LCt.CompRestT prog w A h₀ L m env ct elt x scope cl s S P Fin j i ys news := by
    intro j
    induction j with
    | zero =>
      intro i ys hi hJ hl
      have : i = n := by omega
      subst this
      exact LCt.CompRestT.zero (fin ys hJ hl)
    | succ j ih =>
      intro i ys hi hJ hl
      refine LCt.CompRestT.succ ?_
      intro v I oI C oC D m₂ h tk E' hv hC hx F N off ne
      refine wpAny_mono (turn i v ys I oI C oC D m₂ h tk E' (by omega) hv hJ hl hC hx F N off ne) (fun ok s₂ hq => ?_) fun _ _ e => e
      cases ok with
      | false =>
        simp only [Bool.false_eq_true, if_false] at hq ⊢
        obtain ⟨hJ', h', tk', news', rfl, F', N', hn⟩ := hq
        exact ⟨h', tk', news, rfl, F', fun p hp => N' p (hn p hp), off, hS, ih (i + 1) _ (by omega) hJ' (by omega)⟩
      | true =>
        simp only [if_true] at hq ⊢
        refine wpAny_mono hq (fun y s₃ hq => ?_) fun _ _ e => e
        obtain ⟨hJ', h', tk', news', rfl, F', N', hn⟩ := hq
        exact ⟨h', tk', news, rfl, F', fun p hp => N' p (hn p hp), off, hS, ih (i + 1) _ (by omega) hJ' (by simp; omega)⟩
  exact key n 0 [] (by omega) h0 (Nat.le_refl _)

def SrcStrT (prog : Program) (w : World) (A : Around) (h₀ : Heap) (L : Addr) (m : Str → Option Value) (env : Env) (ct elt : Expr) (x : Str) (scope : Scope) (cl : List (Str × Addr)) (Fin : Shared → List Value → List (Addr × Obj) → Prop) (xv : Value) (s₁ : Shared) : Prop :=
  ∃ y t news, xv = .str y t ∧ A.handled = none ∧ Fr h₀ L s₁.heap m ∧ News h₀ L s₁.heap news ∧ y.cps.size ≤ sizeLine ∧
    ∀ s₂ : Shared, (∃ h, s₂ = { s₁ with heap := h }) → LCt.CompRestT prog w A h₀ L m env ct elt x scope cl s₂ (fun _ => True) (SignAt y) (Fin s₂) y.cps.size 0 [] news

theorem comp_strT {ct elt iter : Expr} {x : Str} {px : Pos} {scope : Scope} {cl : List (Str × Addr)} {pos : Pos} {Q : Value → Shared → Prop} (F₀ : Fr h₀ L s.heap m)
    (hclos : closureFor scope env = pure cl) (hcell : ∀ y ∈ scope.names, y.2 ≠ .cell) (hkind : scope.kind = .function)
    (hnames : ∀ y ∈ scope.names, y.2 = .local → scope.names.lookup y.1 = some .local) (hx : scope.names.lookup x = some .local)
    (h : wpAny (model prog w) A (eval iter env) (SrcStrT prog w A h₀ L m env ct elt x scope cl (fun s₂ => LCg.FinE h₀ L m s₂ Q)) E s)
    (hs : ∀ x, foldedSetIterable iter env x = pure x := by intro _; rfl) :
    wpAny (model prog w) A (eval (.ListComp elt [⟨.Name x px, iter, [ct], 0⟩] scope pos) env) Q E s := by
  rw [eval_ListComp]
  refine wpAny_comprehension_free (use := none) rfl hs hclos hkind hnames (wpAny_mono h (fun xv s₁ h₁ => ?_) fun _ _ e => e)
  obtain ⟨y, t, news, rfl, hh, F, N, hsz, R⟩ := h₁
  cases ha : y.cps.all (· < 128)
  · refine wpAny_pyIter_wide ha ?_
    refine LCt.block_T (Walks.strWide hh s₁.heap.objs.size y t) hsz (fun i h st => let ⟨o, e, _⟩ := st; ⟨o, e⟩) (fun i h h' o nw st e e' _ _ _ => let ⟨o', q, r⟩ := st; ⟨o, e', by rw [e] at q; cases q; exact r⟩) hcell hkind hx ⟨_, Heap.get?_push_size _ rfl, rfl, rfl⟩ (fun b hb => ?_)
      (F.keeps fun _ _ e => Heap.get?_push_of_some _ e) (N.grown fun _ _ e => Heap.get?_push_of_some _ e) (Nat.ne_of_lt F.ns.lt) (next_is_new F) (fun p hp => Nat.ne_of_lt (Heap.lt_size (N p hp).1)) trivial (R _ ⟨_, rfl⟩) ?_
    · rw [List.mem_singleton.mp hb]
      show s₁.heap.objs.size < (s₁.heap.push _).objs.size
      rw [Heap.size_push]; exact Nat.lt_succ_self _
    · intro D C h tk m' ys news' F' N' o1 hn hC₀ hD₀ hCL hDL hCD offC fin
      refine ⟨m', hn, fun h'' hs'' => fin D h'' tk (F'.change hs'' hCL hC₀) (fun p hp => ?_) o1⟩
      refine ⟨hs''.extBut _ _ ?_ (N' p hp).1, (N' p hp).2⟩
      rcases List.mem_cons.mp hp with rfl | hp
      · exact Ne.symm hCD
      · exact offC p hp
  · refine wpAny_pyIter_ascii ha ?_
    refine LCt.block_T (Walks.strAscii hh s₁.heap.objs.size y t) hsz (fun i h st => let ⟨o, e, _⟩ := st; ⟨o, e⟩) (fun i h h' o nw st e e' _ _ _ => let ⟨o', q, r⟩ := st; ⟨o, e', by rw [e] at q; cases q; exact r⟩) hcell hkind hx ⟨_, Heap.get?_push_size _ rfl, rfl, rfl⟩ (fun b hb => ?_)
      (F.keeps fun _ _ e => Heap.get?_push_of_some _ e) (N.grown fun _ _ e => Heap.get?_push_of_some _ e) (Nat.ne_of_lt F.ns.lt) (next_is_new F) (fun p hp => Nat.ne_of_lt (Heap.lt_size (N p hp).1)) trivial (R _ ⟨_, rfl⟩) ?_
    · rw [List.mem_singleton.mp hb]
      show s₁.heap.objs.size < (s₁.heap.push _).objs.size
      rw [Heap.size_push]; exact Nat.lt_succ_self _
    · intro D C h tk m' ys news' F' N' o1 hn hC₀ hD₀ hCL hDL hCD offC fin
      refine ⟨m', hn, fun h'' hs'' => fin D h'' tk (F'.change hs'' hCL hC₀) (fun p hp => ?_) o1⟩
      refine ⟨hs''.extBut _ _ ?_ (N' p hp).1, (N' p hp).2⟩
      rcases List.mem_cons.mp hp with rfl | hp
      · exact Ne.symm hCD
      · exact offC p hp
end

structure Hd (p : Prop) : Prop where out : p
theorem mem2 {α : Type} {a b : α} {l : List α} : ∀ p ∈ a :: l, p ∈ a :: b :: l := fun p hp => by
  rcases List.mem_cons.mp hp with rfl | hp
  · exact .head _
  · exact .tail _ (.tail _ hp)
theorem isList_of {h₀ h : Heap} {L D : Addr} {news : List (Addr × Obj)} {vs : List Value} {n : Nat} (N : News h₀ L h news) (hm : (D, ({ cls := .type "list", data := .seq vs.toArray n } : Obj)) ∈ news) : h.IsList D vs.toArray := ⟨_, (N _ hm).1, rfl, n, rfl⟩
section
variable {prog : Program} {w : World} {A : Around} {E : Value → Shared → Prop} {Q : Value → Shared → Prop} {hp : Heap} {gs : Array GenState} {dr : Drawn} {tk : Nat} {os : OsState} {h₀ : Heap} {L D : Addr} {m : Str → Option Value} {news : List (Addr × Obj)} {x : Str} {t : Tok}
theorem join_c {vs : List Value} {n : Nat} {ys : List Str} (N : News h₀ L hp news) (hm : (D, ({ cls := .type "list", data := .seq vs.toArray n } : Obj)) ∈ news) (hy : StrsAre vs ys) (hs : (ys.map (·.length)).sum + ys.length * x.length ≤ 16777216)
    (h : ∀ t' k, Q (.str (Str.join x ys) t') ⟨hp, gs, dr, k, os⟩) : wpAny (model prog w) A (call (.builtin "str.join") [.str x t, .ref D]) Q E ⟨hp, gs, dr, tk, os⟩ :=
  join_list (s := ⟨hp, gs, dr, tk, os⟩) (isList_of N hm) (by simpa using hy) hs (fun t' k => by
    have e : Txt.join x ys = Str.join x ys := StrLaws.glued_eq_join x ys
    rw [e]; exact h t' k)
theorem join_cE {vs : List Value} {n : Nat} {ys : List Str} {b : Str} (N : News h₀ L hp news) (hm : (D, ({ cls := .type "list", data := .seq vs.toArray n } : Obj)) ∈ news) (hy : StrsAre vs ys) (hs : (ys.map (·.length)).sum + ys.length * x.length ≤ 16777216)
    (e : Str.join x ys = b) (h : ∀ t' k, Q (.str b t') ⟨hp, gs, dr, k, os⟩) : wpAny (model prog w) A (call (.builtin "str.join") [.str x t, .ref D]) Q E ⟨hp, gs, dr, tk, os⟩ :=
  join_c N hm hy hs (e ▸ h)
end
section
variable {prog : Program} {w : World} {A : Around} {E : Value → Shared → Prop} {Q : Value → Shared → Prop} {s : Shared} {h₀ : Heap} {L D : Addr} {news : List (Addr × Obj)}
theorem item_c {value slice : Expr} {vs : List Value} {n : Nat} {ys : List Str} {k : Int} {u : Tok} (N : News h₀ L s.heap news) (hm : (D, ({ cls := .type "list", data := .seq vs.toArray n } : Obj)) ∈ news) (hy : StrsAre vs ys) (h0 : 0 ≤ k) (h1 : k < ys.length) (h2 : ys.length ≤ 1000000)
    (h : ∀ t', Q (.str (ys.getD k.toNat Str.empty) t') s)
    (hs : subscripted slice false (.ref D) (.int k u) = operate [.ref D, .int k u] (getItem (.ref D) (.int k u)) := by with_unfolding_all rfl) :
    wpAny (model prog w) A (subscriptTail value slice (.ref D) (.int k u)) Q E s := by
  have hk : k.toNat < ys.length := by omega
  obtain ⟨t', ht⟩ := StrsAre.at hy (j := k.toNat) (y := ys.getD k.toNat Str.empty) (by simp [List.getD_eq_getElem?_getD, hk])
  have hL := isList_of N hm
  exact tail_any hL.typeIs slot_list_getitem.lookup (wpAny_getItem_list hL h0 (by omega) (by simpa using ht) (h t')) hs
end
def Ok (ns : List Str) : Prop := ∀ x ∈ ns, ∀ c ∈ x.cps.toList, c < 0x110000
theorem canAll_strs : ∀ ns : List Str, Ok ns → PyData.canLayAll0 (ns.map PyData.str) = true
  | [], _ => rfl
  | x :: r, h => by
    have h1 : PyData.strOk x = true := by
      unfold PyData.strOk
      rw [Array.all_eq_true']
      intro c hc
      simpa using h x (.head _) c (by simpa using hc)
    simp [PyData.canLayAll0, PyData.canLay0, h1, canAll_strs r fun y hy => h y (.tail _ hy)]
theorem depthAll_strs : ∀ ns : List Str, PyData.depthAll (ns.map PyData.str) = 0
  | [] => rfl
  | _ :: r => by simp [PyData.depthAll, PyData.depth, depthAll_strs r]
theorem shaped_strs (ns : List Str) (h : Ok ns) : SeqAt.shaped (.list (ns.map PyData.str)) = true := by
  simp [SeqAt.shaped, PyData.canLay0, PyData.depth, canAll_strs ns h, depthAll_strs]
theorem sameAll_strs : ∀ ns ms : List Str, PySem.Spec.sameAll (ns.map PyData.str) (ms.map PyData.str) = decide (ns = ms)
  | [], [] => by simp [PySem.Spec.sameAll]
  | [], _ :: _ => by simp [PySem.Spec.sameAll]
  | _ :: _, [] => by simp [PySem.Spec.sameAll]
  | a :: r, b :: t => by
    simp only [List.map_cons, PySem.Spec.sameAll, PySem.Spec.same, sameAll_strs r t]
    by_cases h : a = b <;> by_cases h' : r = t <;> simp [h, h']
section
variable {prog : Program} {w : World} {A : Around} {E : Value → Shared → Prop} {s : Shared} {a b : Addr} {xs ys : List Value} {ns ms : List Str} {Q : Value → Shared → Prop} {h₀ : Heap} {L : Addr} {news : List (Addr × Obj)} {n k : Nat}
theorem eq_strs (N : News h₀ L s.heap news) (ha : (a, ({ cls := .type "list", data := .seq xs.toArray n } : Obj)) ∈ news) (hb : (b, ({ cls := .type "list", data := .seq ys.toArray k } : Obj)) ∈ news) (hi : StrsAre xs ns) (hj : StrsAre ys ms) (oi : Ok ns) (oj : Ok ms) (hu : A.units + 64 < cLine) (h : Q (.bool (decide (ns = ms))) s) :
    wpAny (model prog w) A (compareOp .Eq (.ref a) (.ref b)) Q E s :=
  eq_dataH_same (reads_newData (isList_of N ha) (StrsAre.carried hi)) (reads_newData (isList_of N hb) (StrsAre.carried hj)) (shaped_strs _ oi) (shaped_strs _ oj) hu (SeqAt.noMix_of_shape (.list .str) rfl _ _ (list_map_has fun _ => rfl) (list_map_has fun _ => rfl)) (by
    have e : PySem.Spec.same (.list (ns.map PyData.str)) (.list (ms.map PyData.str)) = decide (ns = ms) := by simp only [PySem.Spec.same]; exact sameAll_strs ns ms
    rw [e]; exact h)
theorem eq_strsT (N : News h₀ L s.heap news) (ha : (a, ({ cls := .type "list", data := .seq xs.toArray n } : Obj)) ∈ news) (hb : (b, ({ cls := .type "list", data := .seq ys.toArray k } : Obj)) ∈ news) (hi : StrsAre xs ns) (hj : StrsAre ys ms) (oi : Ok ns) (oj : Ok ms) (hu : A.units + 64 < cLine) (e : ns = ms) (h : Q (.bool true) s) :
    wpAny (model prog w) A (compareOp .Eq (.ref a) (.ref b)) Q E s :=
  eq_strs N ha hb hi hj oi oj hu (by rw [decide_eq_true e]; exact h)
theorem ne_strs (N : News h₀ L s.heap news) (ha : (a, ({ cls := .type "list", data := .seq xs.toArray n } : Obj)) ∈ news) (hb : (b, ({ cls := .type "list", data := .seq ys.toArray k } : Obj)) ∈ news) (hi : StrsAre xs ns) (hj : StrsAre ys ms) (oi : Ok ns) (oj : Ok ms) (hu : A.units + 64 < cLine) (h : Q (.bool (!decide (ns = ms))) s) :
    wpAny (model prog w) A (compareOp .NotEq (.ref a) (.ref b)) Q E s :=
  ne_dataH_same (reads_newData (isList_of N ha) (StrsAre.carried hi)) (reads_newData (isList_of N hb) (StrsAre.carried hj)) (shaped_strs _ oi) (shaped_strs _ oj) hu (SeqAt.noMix_of_shape (.list .str) rfl _ _ (list_map_has fun _ => rfl) (list_map_has fun _ => rfl)) (by
    have e : PySem.Spec.same (.list (ns.map PyData.str)) (.list (ms.map PyData.str)) = decide (ns = ms) := by simp only [PySem.Spec.same]; exact sameAll_strs ns ms
    rw [e]; exact h)
end
theorem join_signs : ∀ (l : List Nat), Str.join (Str.ofString "") (l.map fun c => ⟨#[c]⟩) = S l
  | [] => rfl
  | [c] => rfl
  | c :: d :: r => by
    have ih := join_signs (d :: r)
    simp only [List.map_cons] at ih ⊢
    rw [Str.join, ih]
    · refine PySem.Str.ext' ?_
      rw [PySem.Str.cps_append, PySem.Str.cps_append]
      show #[c] ++ (Str.ofString "").cps ++ (d :: r).toArray = (c :: d :: r).toArray
      rw [show (Str.ofString "").cps = #[] by decide +kernel]
      simp
    · intro h; cases h
theorem sum_signs : ∀ (l : List Nat), ((l.map fun c => (⟨#[c]⟩ : Str)).map (·.length)).sum = l.length
  | [] => rfl
  | c :: r => by
    have ih := sum_signs r
    simp only [List.map_cons, List.sum_cons, List.length_cons] at ih ⊢
    rw [ih]
    show 1 + r.length = _
    omega
end Mine

end
section
open PySem PySem.W PySem.Calls PyProof.Rows PySem.Builtin PySem.Builtin.Str
namespace Mine
local macro_rules | `(tactic| walk_at "call builtin:str.find") => `(tactic| (k_here; refine find3_c ?_; intro _ _))
local macro_rules | `(tactic| walk_at "call builtin:str.find") => `(tactic| (k_here; refine find4_c ?_; intro _ _))
local macro_rules | `(tactic| walk_at "call builtin:str.count") => `(tactic| (k_here; refine count4_c ?_; intro _ _))
local macro_rules | `(tactic| walk_at "binaryOp Add str str") => `(tactic| (k_here; k_dflt (refine add_c (by omega) ?_); intro _ _ _))
local macro_rules | `(tactic| walk_at "call builtin:str.strip") => `(tactic| (k_here; k_dflt (refine strip_c (by omega) ?_); intro _ _ _))
local macro_rules | `(tactic| walk_at "call builtin:str.rstrip") => `(tactic| (k_here; k_dflt (refine rstrip_c (by omega) ?_); intro _ _ _))
local macro_rules | `(tactic| walk_at "call builtin:str.lstrip") => `(tactic| (k_here; k_dflt (refine lstrip_c (by omega) ?_); intro _ _ _))
local macro_rules | `(tactic| walk_at "call builtin:str.lower") => `(tactic| (k_here; k_dflt (refine lower_c (by omega) ?_); intro _ _ _))
local macro_rules | `(tactic| walk_at "call builtin:list.append") => `(tactic| (k_here; k_dflt (refine' append_c ?k1 ?k2 ?k3 ?z ?_; (case k1 => k_asm); (case k2 => k_asm); (case k3 => k_upd); (case z => omega); k_whole); intro h' F' N'; (try k_sweep)))
local macro_rules | `(tactic| walk_at "WPost") => `(tactic| dsimp only [WPost])
local macro_rules | `(tactic| walk_at "FPost") => `(tactic| dsimp only [FPost])
local macro_rules | `(tactic| k_upd) => `(tactic| first | exact updHere (by assumption) | exact updOff (by assumption) | (refine' Upd.tail ?a ?b; (case a => k_ne); (case b => k_upd)))
local macro_rules | `(tactic| walk_at "storeName") => `(tactic| (k_here; k_dflt (refine st_int (by with_reducible assumption) (by with_reducible assumption) ?_); intro h' t' _ F' N'; (try k_sweep)))
local macro_rules | `(tactic| walk_at "storeName") => `(tactic| (k_here; k_dflt (refine st_str (by with_reducible assumption) (by with_reducible assumption) ?_); intro h' t' _ F' N'; (try k_sweep)))
local macro_rules | `(tactic| walk_at "exec While Compare cons nil") => `(tactic| refine Stop.out ?_)
local macro_rules | `(tactic| walk_at "pyIter ref") => `(tactic| refine Stop.out ?_)
local macro_rules | `(tactic| walk_at "exec For Name Name cons nil") => `(tactic| (k_here; (rename Fr _ _ _ _ => lF'); (with_unfolding_all refine' For_invVF lF' ?k1 ?k2 ?_; (case k1 => exact rfl); (case k2 => exact rfl); k_whole)))
local macro_rules | `(tactic| walk_at "call ref") => `(tactic| (k_here; k_dflt (refine' blanks_c ?b1 ?b2 ?b3 ?b4 ?b5 ?b6 ?b7 ?b8 ?_; (case b1 => k_asm); (case b2 => k_asm); (case b3 => k_asm); (case b4 => k_asm); (case b5 => k_asm); (case b6 => first | exact rfl | assumption); (case b7 => ktr_room); (case b8 => ktr_units); k_whole); intro t' h' tk' F' N'; (try dsimp only)))
local macro_rules | `(tactic| walk_at "eval ListComp") => `(tactic| (k_here; k_dflt (refine comp_strT (F₀ := by k_asm) (by with_unfolding_all rfl) (by decide) (by rfl) (by decide) (by rfl) ?_)))
local macro_rules | `(tactic| walk_at "SrcStrT") => `(tactic| refine Stop.out ?_)
local macro_rules | `(tactic| walk_at "SrcStrT str") => `(tactic| refine Stop.out ?_)
local macro_rules | `(tactic| walk_at "call builtin:str.join") => `(tactic| refine Stop.out ?_)
def bare (l : List Nat) : List Nat := l.filter fun c => !Txt.contains BL ⟨#[c]⟩
theorem bare_snoc {x : Str} {i c : Nat} (hc : x.cps[i]? = some c) : bare (x.cps.toList.take (i + 1)) = bare (x.cps.toList.take i) ++ (if Txt.contains BL ⟨#[c]⟩ then [] else [c]) := by
  have h : x.cps.toList[i]? = some c := by simpa using hc
  unfold bare
  rw [List.take_add_one, h, List.filter_append]
  congr 1
  by_cases hb : Txt.contains BL ⟨#[c]⟩ = true <;> simp [hb]
set_option maxRecDepth 100000 in
set_option maxHeartbeats 4000000 in
theorem bare_c {w : World} {loose : List Str} {mean : ExcName → Option Value} {mg mb : Str → Option Value}
    {dp un : Nat} {gd : Option (List Code)} {cn : Str} {cs : Scope} {a : Addr} {ccd : Value} {cl : List (Str × Addr)} {outer : List Env} {A₀ : Around} {base h₀ : Heap} {L : Addr} {m : Str → Option Value} {s : Shared} {Q E : Value → Shared → Prop} {news : List (Addr × Obj)}
    {x : Str} {tx : Tok}
    (B : Below A₀ base outer h₀) (F : Fr h₀ L s.heap m) (X : (hd.heap_39 w.params).In h₀) (N : News h₀ L s.heap news) (T : Top hd.view_39 loose mean mg mb h₀) (hk : cs.kind = .function)
    (hdp : dp + 2 < recursionLimit) (hun : un + 16 < cLine) (hx : x.length ≤ 1000)
    (ret : ∀ t h' tk', Fr h₀ L h' m → News h₀ L h' news → Q (.str (S (bare x.cps.toList)) t) { s with heap := h', toks := tk' }) :
    wpAny (model PR w) (ktrTop dp un gd cn cs L a ccd cl outer) (call (.ref 47) [.str x tx]) Q E s := by
  have kk : (fun (_ : OpenLaw) (K : Params → Frag) => True) PySem.Challenge.rw_at0001_03 hd.heap_39 := by w_top off; k_fill; trivial
  clear kk
  refine wpAny_call ?_
  k_dflt cell_enter
  refine no_raise ?_
  k_steps
  refine ⟨?_⟩
  refine ⟨x, _, news, rfl, rfl, by assumption, by assumption, by rw [sizeLine_eq]; unfold Str.length at hx; omega, ?_⟩
  rintro _ ⟨hh, rfl⟩
  refine my_restT (fun i ys => StrsAre ys ((bare (x.cps.toList.take i)).map fun c => ⟨#[c]⟩)) trivial .nil ?turn ?fin
  case turn =>
    rintro i v ys I oI C oC D m₂ h tk E' hi ⟨c, u, hc, rfl⟩ hJ hl hC hxv F1 N1 off ne
    (try k_fold)
    k_steps
    · rename (List.isEmpty _ = true) => hb
      have hb' : Txt.contains BL ⟨#[c]⟩ = false := by unfold Txt.contains; rw [hb]; rfl
      refine ⟨?_, _, _, _, rfl, by assumption, by assumption, fun p hp => hp⟩
      rw [bare_snoc hc, hb', List.map_append]
      exact StrsAre.append' hJ (.cons _ _ .nil)
    · rename (List.isEmpty _ = false) => hb
      have hb' : Txt.contains BL ⟨#[c]⟩ = true := by unfold Txt.contains; rw [hb]; rfl
      refine ⟨?_, _, _, _, rfl, by assumption, by assumption, fun p hp => hp⟩
      rw [bare_snoc hc, hb']
      simpa using hJ
  case fin =>
    intro ys hJ hlen
    have e : x.cps.toList.take x.cps.size = x.cps.toList := List.take_of_length_le (by simp)
    rw [e] at hJ
    k_steps
    refine ⟨?_⟩
    refine join_cE (by assumption) (.head _) hJ ?_ (join_signs _) ?_
    · rw [sum_signs, List.length_map]
      have h1 : (bare x.cps.toList).length ≤ x.cps.toList.length := List.length_filter_le _ _
      have h2 : x.cps.toList.length = x.length := by simp [Str.length]
      have h3 : (Str.ofString "").length = 0 := by decide
      rw [h3]
      omega
    · intro t' k
      k_steps
      exact ret _ _ _ (by assumption) (cb_drop (by assumption) fun p hp => .tail _ hp)
end Mine

end
section
open PySem PySem.W PySem.Calls PyProof.Rows PySem.Builtin PySem.Builtin.Str
namespace Mine
theorem len_strip_le (x : Str) : (Txt.strip x).length ≤ x.length := len_strip x
theorem spl_len {x r : Str} (h : (spl x).2 = some r) : r.length < x.length := by
  unfold spl at h
  simp only at h
  split at h
  · cases h
  · rename_i hq
    have e := congrArg Str.length (StrLaws.partition_sum x (Str.ofString ";"))
    simp only [Str.length_append] at e
    have := len_strip_le (Txt.partition x (Str.ofString ";")).2.2
    cases h
    omega
def headsF : Nat → Str → List Str
  | 0, _ => []
  | k + 1, x => (spl x).1 :: match (spl x).2 with | none => [] | some r => headsF k r
theorem headsF_eq : ∀ (k k' : Nat) (x : Str), x.length < k → x.length < k' → headsF k x = headsF k' x
  | 0, _, x, h, _ => by omega
  | _, 0, x, _, h => by omega
  | k + 1, k' + 1, x, h, h' => by
    unfold headsF
    cases hr : (spl x).2 with
    | none => rfl
    | some r =>
      have := spl_len hr
      simp only
      rw [headsF_eq k k' r (by omega) (by omega)]
def heads (x : Str) : List Str := headsF (x.length + 1) x
theorem heads_eq (x : Str) : heads x = (spl x).1 :: match (spl x).2 with | none => [] | some r => heads r := by
  unfold heads
  conv => lhs; unfold headsF
  cases hr : (spl x).2 with
  | none => rfl
  | some r =>
    have := spl_len hr
    simp only
    rw [headsF_eq x.length (r.length + 1) r (by omega) (by omega)]
def headsO : Option Str → List Str
  | none => []
  | some r => heads r
structure PH (x : Str) (c : Option Str × Tok × List Value × Nat) : Prop where
  hl : ∀ r, c.1 = some r → r.length + c.2.2.1.length ≤ x.length
  hd : ∃ dn, StrsAre c.2.2.1 dn ∧ dn ++ headsO c.1 = heads x
  hn : c.2.2.1.length ≤ x.length + 1
theorem PH_start (x : Str) (t : Tok) (n : Nat) : PH x (some x, t, [], n) where
  hl := fun r h => by cases h; simp
  hd := ⟨[], .nil, rfl⟩
  hn := Nat.zero_le _
theorem PH_next {x r : Str} {t t' ta : Tok} {vs : List Value} {n n' : Nat} (h : PH x (some r, t, vs, n)) : PH x ((spl r).2, t', vs ++ [.str (spl r).1 ta], n') where
  hl := fun r' hr => by
    have h1 := h.hl r rfl
    have h2 := spl_len hr
    simp at h1 ⊢
    omega
  hd := by
    obtain ⟨dn, h1, h2⟩ := h.hd
    refine ⟨dn ++ [(spl r).1], StrsAre.append' h1 (.cons _ _ .nil), ?_⟩
    rw [← h2]
    show dn ++ [(spl r).1] ++ headsO (spl r).2 = dn ++ heads r
    rw [heads_eq r, List.append_assoc]
    cases (spl r).2 <;> rfl
  hn := by
    have := h.hl r rfl
    simp at this ⊢
    omega
def measO : Option Str → Nat
  | none => 0
  | some r => r.length + 1
theorem measO_lt {r : Str} : measO (spl r).2 < measO (some r) := by
  cases hr : (spl r).2 with
  | none => simp [measO]
  | some q => have := spl_len hr; simp [measO]; omega
end Mine

end
section
open PySem PySem.W PySem.Calls PyProof.Rows PySem.Builtin PySem.Builtin.Str
namespace Mine
local macro_rules | `(tactic| walk_at "call builtin:str.find") => `(tactic| (k_here; refine find3_c ?_; intro _ _))
local macro_rules | `(tactic| walk_at "call builtin:str.find") => `(tactic| (k_here; refine find4_c ?_; intro _ _))
local macro_rules | `(tactic| walk_at "call builtin:str.count") => `(tactic| (k_here; refine count4_c ?_; intro _ _))
local macro_rules | `(tactic| walk_at "binaryOp Add str str") => `(tactic| (k_here; k_dflt (refine add_c (by omega) ?_); intro _ _ _))
local macro_rules | `(tactic| walk_at "call builtin:str.strip") => `(tactic| (k_here; k_dflt (refine strip_c (by omega) ?_); intro _ _ _))
local macro_rules | `(tactic| walk_at "call builtin:str.rstrip") => `(tactic| (k_here; k_dflt (refine rstrip_c (by omega) ?_); intro _ _ _))
local macro_rules | `(tactic| walk_at "call builtin:str.lstrip") => `(tactic| (k_here; k_dflt (refine lstrip_c (by omega) ?_); intro _ _ _))
local macro_rules | `(tactic| walk_at "call builtin:str.lower") => `(tactic| (k_here; k_dflt (refine lower_c (by omega) ?_); intro _ _ _))
local macro_rules | `(tactic| walk_at "call builtin:list.append") => `(tactic| (k_here; k_dflt (refine' append_c ?k1 ?k2 ?k3 ?z ?_; (case k1 => k_asm); (case k2 => k_asm); (case k3 => k_upd); (case z => omega); k_whole); intro h' F' N'; (try k_sweep)))
local macro_rules | `(tactic| walk_at "WPost") => `(tactic| dsimp only [WPost])
local macro_rules | `(tactic| walk_at "FPost") => `(tactic| dsimp only [FPost])
local macro_rules | `(tactic| k_upd) => `(tactic| first | exact updHere (by assumption) | exact updOff (by assumption) | (refine' Upd.tail ?a ?b; (case a => k_ne); (case b => k_upd)))
local macro_rules | `(tactic| walk_at "storeName") => `(tactic| (k_here; k_dflt (refine st_int (by with_reducible assumption) (by with_reducible assumption) ?_); intro h' t' _ F' N'; (try k_sweep)))
local macro_rules | `(tactic| walk_at "storeName") => `(tactic| (k_here; k_dflt (refine st_str (by with_reducible assumption) (by with_reducible assumption) ?_); intro h' t' _ F' N'; (try k_sweep)))
local macro_rules | `(tactic| walk_at "exec While Compare cons nil") => `(tactic| refine Stop.out ?_)
local macro_rules | `(tactic| walk_at "pyIter ref") => `(tactic| refine Stop.out ?_)
local macro_rules | `(tactic| walk_at "exec For Name Name cons nil") => `(tactic| (k_here; (rename Fr _ _ _ _ => lF'); (with_unfolding_all refine' For_invVF lF' ?k1 ?k2 ?_; (case k1 => exact rfl); (case k2 => exact rfl); k_whole)))
local macro_rules | `(tactic| walk_at "call ref") => `(tactic| (k_here; k_dflt (refine' split_c ?b1 ?b2 ?b3 ?b4 ?b5 ?b6 ?b7 ?b8 ?e0 ?_; (case b1 => k_asm); (case b2 => k_asm); (case b3 => k_asm); (case b4 => k_asm); (case b5 => k_asm); (case b6 => first | exact rfl | assumption); (case b7 => ktr_room); (case b8 => ktr_units); (case e0 => omega); k_whole); intro r' ta' tb' h' tk' F' N' l1; (try k_lt l1); (try dsimp only)))
set_option maxRecDepth 100000 in
set_option maxHeartbeats 4000000 in
theorem heads_c {w : World} {loose : List Str} {mean : ExcName → Option Value} {mg mb : Str → Option Value}
    {dp un : Nat} {gd : Option (List Code)} {cn : Str} {cs : Scope} {a : Addr} {ccd : Value} {cl : List (Str × Addr)} {outer : List Env} {A₀ : Around} {base h₀ : Heap} {L : Addr} {m : Str → Option Value} {s : Shared} {Q E : Value → Shared → Prop} {news : List (Addr × Obj)}
    {x : Str} {tx : Tok}
    (B : Below A₀ base outer h₀) (F : Fr h₀ L s.heap m) (X : (hd.heap_39 w.params).In h₀) (N : News h₀ L s.heap news) (T : Top hd.view_39 loose mean mg mb h₀) (hk : cs.kind = .function)
    (hdp : dp + 2 < recursionLimit) (hun : un + 16 < cLine) (hx : x.length ≤ 1000)
    (ret : ∀ r vs n h' tk', Fr h₀ L h' m → News h₀ L h' ((r, listOf vs.toArray n) :: news) → (∀ p ∈ news, p.1 < r) → StrsAre vs (heads x) → vs.length ≤ x.length + 1 → Q (.ref r) { s with heap := h', toks := tk' }) :
    wpAny (model PR w) (ktrTop dp un gd cn cs L a ccd cl outer) (call (.ref 54) [.str x tx]) Q E s := by
  have kk : (fun (_ : OpenLaw) (K : Params → Frag) => True) PySem.Challenge.rw_at0001_03 hd.heap_39 := by w_top off; k_fill; trivial
  clear kk
  refine wpAny_call ?_
  k_dflt cell_enter
  refine no_raise ?_
  k_steps
  refine ⟨?_⟩
  rename Fr _ _ _ _ => F1
  rename News _ _ _ _ => N1
  rename (∀ p ∈ news, p.1 < _) => l1
  refine' my_while (σ := Option Str × Tok × List Value × Nat) (fun c => (_, listOf c.2.2.1.toArray c.2.2.2) :: news) (fun c => [(Str.ofString "heads", Value.ref _), (Str.ofString "rest", optV c.1 c.2.1)]) (PH x) (fun c => measO c.1) (some x, _, [], _) F1 N1 ?k1 ?k2 PassesOwn.never ?turn
  case k1 => kst_all
  case k2 => exact PH_start x _ _
  case turn =>
    clear F1 N1
    rintro ⟨rest, tr, vs, n⟩ u h tk hP F1 N1
    dsimp only at F1 N1
    have hvl := hP.hn
    dsimp only at hvl
    cases rest with
    | none =>
      dsimp only [optV] at F1
      (try k_fold)
      k_steps
      obtain ⟨dn, h1, h2⟩ := hP.hd
      refine ret _ vs n _ _ (by assumption) (by assumption) l1 ?_ hvl
      rw [← h2]
      show StrsAre vs (dn ++ [])
      rw [List.append_nil]
      exact h1
    | some r =>
      have hrl := hP.hl r rfl
      dsimp only at hrl
      dsimp only [optV] at F1
      (try k_fold)
      k_steps
      rename Fr _ _ _ _ => F2
      rename News _ _ _ _ => N2
      refine' ⟨((spl r).2, _, vs ++ [_], n + 1), _, _, _, _, rfl, F2, N2, fun p hp => .tail _ hp, ?a1, PH_next hP, measO_lt⟩
      case a1 => kst_all
end Mine

end
section
open PySem PySem.W PySem.Calls PyProof.Rows PySem.Builtin PySem.Builtin.Str
namespace Mine
theorem len_joinS (sep : Str) : ∀ l : List Str, (Str.join sep l).length ≤ (l.map (·.length)).sum + l.length * sep.length
  | [] => by simp [Str.join, Str.empty, Str.length]
  | [x] => by simp [Str.join]
  | x :: y :: r => by
    have ih := len_joinS sep (y :: r)
    rw [Str.join]
    · simp only [Str.length_append, List.map_cons, List.sum_cons, List.length_cons] at ih ⊢
      simp only [Nat.add_mul, Nat.one_mul] at ih ⊢
      omega
    · intro h; cases h
def glu (own : List Str) : Str := Str.join (Str.ofString ";") own
abbrev evenQ (b : Str) : Prop := qs false b.cps.toList % 2 = 0
def gf (b : Str) : Str := if Txt.find b (Str.ofString "=") < 0 then b else Txt.lower (Txt.slice b none (some (Txt.find b (Str.ofString "=")))) ++ Txt.slice b (some (Txt.find b (Str.ofString "="))) none
theorem gf_pos {b : Str} (h : Txt.find b (Str.ofString "=") < 0) : gf b = b := if_pos h
theorem gf_neg {b : Str} (h : ¬ Txt.find b (Str.ofString "=") < 0) : gf b = Txt.lower (Txt.slice b none (some (Txt.find b (Str.ofString "=")))) ++ Txt.slice b (some (Txt.find b (Str.ofString "="))) none := if_neg h
def groupsF : List Str → List Str → List Str
  | _, [] => []
  | own, h :: t => if evenQ (glu (own ++ [h])) ∨ t = [] then gf (glu (own ++ [h])) :: groupsF [] t else groupsF (own ++ [h]) t
theorem count_eq4 (y z : Str) : Txt.count y z = count4 y z 0 (y.length : Int) := by
  unfold Txt.count count4
  have e1 := fromIndex_nat y.length 0
  rw [show ((0 : Nat) : Int) = 0 from rfl] at e1
  rw [e1, endIdx_nat (Nat.le_refl _)]
theorem count_all (b : Str) : Txt.count b (Str.ofString "\"") - Txt.count b (Str.ofString "\\\"") = (qs false b.cps.toList : Int) := by
  rw [count_eq4, count_eq4]
  have := count_diff b (a := 0) (b := b.length) (Nat.zero_le _) (Nat.le_refl _)
  have e : seg (lt b) 0 b.length = b.cps.toList := by
    unfold seg
    simp only [List.drop_zero, Nat.sub_zero]
    exact List.take_of_length_le (by simp [Str.length])
  rw [e] at this
  exact this
theorem even_iff (b : Str) : (Txt.count b (Str.ofString "\"") - Txt.count b (Str.ofString "\\\"")).fmod 2 = 0 ↔ evenQ b := by
  rw [count_all, fmod2]
  unfold evenQ
  omega
structure PG (hs : List Str) (k : Nat) (ow gr : List Value) : Prop where
  h : ∃ own done, StrsAre ow own ∧ StrsAre gr done ∧ done ++ groupsF own (hs.drop k) = groupsF [] hs ∧ (own.map (·.length)).sum + ((hs.drop k).map (·.length)).sum ≤ (hs.map (·.length)).sum ∧ own.length + (hs.drop k).length ≤ hs.length ∧ done.length ≤ k ∧ own.length ≤ k
theorem PG_start (hs : List Str) : PG hs 0 [] [] := ⟨[], [], .nil, .nil, rfl, by simp, by simp, Nat.le_refl _, Nat.le_refl _⟩
theorem drop_get {hs : List Str} {k : Nat} (hk : k < hs.length) : hs.drop k = hs.getD k Str.empty :: hs.drop (k + 1) := by
  rw [List.drop_eq_getElem_cons hk]
  simp [List.getD_eq_getElem?_getD, hk]
theorem allLt_left {d : Addr} : ∀ {l r : List (Addr × Obj)}, AllLt d (l ++ r) → AllLt d l
  | [], _, _ => trivial
  | _ :: _, _, ⟨h, hr⟩ => ⟨h, allLt_left hr⟩
theorem sum_snoc (og : List Str) (x : Str) : ((og ++ [x]).map (·.length)).sum = (og.map (·.length)).sum + x.length := by simp
theorem PG_cut {hs : List Str} {i : Nat} {gr : List Value} {og dn : List Str} {t : Tok} (hi : i < hs.length) (h2 : StrsAre gr dn) (h3 : dn ++ groupsF og (hs.drop i) = groupsF [] hs)
    (h4 : (og.map (·.length)).sum + ((hs.drop i).map (·.length)).sum ≤ (hs.map (·.length)).sum) (h5 : og.length + (hs.drop i).length ≤ hs.length) (h6 : dn.length ≤ i)
    (hb : evenQ (glu (og ++ [hs.getD i Str.empty])) ∨ i + 1 = hs.length) : PG hs (i + 1) [] (gr ++ [.str (gf (glu (og ++ [hs.getD i Str.empty]))) t]) := by
  rw [drop_get hi] at h3 h4 h5
  refine ⟨[], dn ++ [gf (glu (og ++ [hs.getD i Str.empty]))], .nil, StrsAre.append' h2 (.cons _ _ .nil), ?_, ?_, ?_, ?_, ?_⟩
  · rw [← h3, groupsF, if_pos]
    · simp
    · rcases hb with hb | hb
      · exact .inl hb
      · exact .inr (List.drop_eq_nil_of_le (by omega))
  · simp only [List.map_cons, List.sum_cons] at h4
    simp only [List.map_nil, List.sum_nil]
    omega
  · simp only [List.length_cons] at h5
    simp only [List.length_nil]
    omega
  · simp; omega
  · simp
theorem PG_go {hs : List Str} {i : Nat} {ow gr : List Value} {og dn : List Str} {t : Tok} (hi : i < hs.length) (h1 : StrsAre ow og) (h2 : StrsAre gr dn) (h3 : dn ++ groupsF og (hs.drop i) = groupsF [] hs)
    (h4 : (og.map (·.length)).sum + ((hs.drop i).map (·.length)).sum ≤ (hs.map (·.length)).sum) (h5 : og.length + (hs.drop i).length ≤ hs.length) (h6 : dn.length ≤ i) (h7 : og.length ≤ i)
    (hb : ¬ evenQ (glu (og ++ [hs.getD i Str.empty]))) (hb2 : i + 1 ≠ hs.length) : PG hs (i + 1) (ow ++ [.str (hs.getD i Str.empty) t]) gr := by
  rw [drop_get hi] at h3 h4 h5
  refine ⟨og ++ [hs.getD i Str.empty], dn, StrsAre.append' h1 (.cons _ _ .nil), h2, ?_, ?_, ?_, ?_, ?_⟩
  · rw [← h3]
    conv => rhs; rw [groupsF]
    rw [if_neg]
    rintro (h | h)
    · exact hb h
    · have : (hs.drop (i + 1)).length = 0 := by rw [h]; rfl
      simp at this
      omega
  · simp only [List.map_cons, List.sum_cons] at h4
    rw [sum_snoc]
    omega
  · simp only [List.length_cons] at h5
    simp only [List.length_append, List.length_cons, List.length_nil]
    omega
  · omega
  · simp; omega
theorem PG_size {hs : List Str} {i : Nat} {og : List Str} (hi : i < hs.length) 
    (h4 : (og.map (·.length)).sum + ((hs.drop i).map (·.length)).sum ≤ (hs.map (·.length)).sum) (h5 : og.length + (hs.drop i).length ≤ hs.length) :
    ((og ++ [hs.getD i Str.empty]).map (·.length)).sum ≤ (hs.map (·.length)).sum ∧ (og ++ [hs.getD i Str.empty]).length ≤ hs.length := by
  rw [drop_get hi] at h4 h5
  simp only [List.map_cons, List.sum_cons, List.length_cons] at h4 h5
  rw [sum_snoc]
  constructor
  · omega
  · rw [List.length_append]; simp only [List.length_cons, List.length_nil]; omega
end Mine

end
section
open PySem PySem.W PySem.Calls PyProof.Rows PySem.Builtin PySem.Builtin.Str
namespace Mine
local macro_rules | `(tactic| walk_at "call builtin:str.find") => `(tactic| (k_here; refine find3_c ?_; intro _ _))
local macro_rules | `(tactic| walk_at "call builtin:str.find") => `(tactic| (k_here; refine find4_c ?_; intro _ _))
local macro_rules | `(tactic| walk_at "call builtin:str.count") => `(tactic| (k_here; refine count4_c ?_; intro _ _))
local macro_rules | `(tactic| walk_at "binaryOp Add str str") => `(tactic| (k_here; k_dflt (refine add_c (by omega) ?_); intro _ _ _))
local macro_rules | `(tactic| walk_at "call builtin:str.strip") => `(tactic| (k_here; k_dflt (refine strip_c (by omega) ?_); intro _ _ _))
local macro_rules | `(tactic| walk_at "call builtin:str.rstrip") => `(tactic| (k_here; k_dflt (refine rstrip_c (by omega) ?_); intro _ _ _))
local macro_rules | `(tactic| walk_at "call builtin:str.lstrip") => `(tactic| (k_here; k_dflt (refine lstrip_c (by omega) ?_); intro _ _ _))
local macro_rules | `(tactic| walk_at "call builtin:str.lower") => `(tactic| (k_here; k_dflt (refine lower_c (by omega) ?_); intro _ _ _))
local macro_rules | `(tactic| walk_at "call builtin:list.append") => `(tactic| (k_here; k_dflt (refine' append_c ?k1 ?k2 ?k3 ?z ?_; (case k1 => k_asm); (case k2 => k_asm); (case k3 => k_upd); (case z => omega); k_whole); intro h' F' N'; (try k_sweep)))
local macro_rules | `(tactic| walk_at "WPost") => `(tactic| dsimp only [WPost])
local macro_rules | `(tactic| walk_at "FPost") => `(tactic| dsimp only [FPost])
local macro_rules | `(tactic| k_upd) => `(tactic| first | exact updHere (by assumption) | exact updOff (by assumption) | (refine' Upd.tail ?a ?b; (case a => k_ne); (case b => k_upd)))
local macro_rules | `(tactic| walk_at "storeName") => `(tactic| (k_here; k_dflt (refine st_int (by with_reducible assumption) (by with_reducible assumption) ?_); intro h' t' _ F' N'; (try k_sweep)))
local macro_rules | `(tactic| walk_at "storeName") => `(tactic| (k_here; k_dflt (refine st_str (by with_reducible assumption) (by with_reducible assumption) ?_); intro h' t' _ F' N'; (try k_sweep)))
local macro_rules | `(tactic| walk_at "exec While Compare cons nil") => `(tactic| refine Stop.out ?_)
local macro_rules | `(tactic| walk_at "pyIter ref") => `(tactic| refine Stop.out ?_)
local macro_rules | `(tactic| walk_at "exec For Name Name cons nil") => `(tactic| (k_here; (rename Fr _ _ _ _ => lF'); (with_unfolding_all refine' For_invVF lF' ?k1 ?k2 ?_; (case k1 => exact rfl); (case k2 => exact rfl); k_whole)))
local macro_rules | `(tactic| walk_at "call builtin:str.join") => `(tactic| refine Stop.out ?_)
local macro_rules | `(tactic| walk_at "subscriptTail Name Name ref int") => `(tactic| (k_here; k_dflt (refine' item_c ?k1 ?k2 ?k3 ?k4 ?k5 ?k6 ?_ ?k7; (case k1 => k_asm); (case k2 => k_mem); (case k3 => assumption); (case k4 => omega); (case k5 => omega); (case k6 => omega); (case k7 => with_unfolding_all rfl); k_whole); intro t'))
set_option maxRecDepth 100000 in
set_option maxHeartbeats 4000000 in
theorem groups_c {w : World} {loose : List Str} {mean : ExcName → Option Value} {mg mb : Str → Option Value}
    {dp un : Nat} {gd : Option (List Code)} {cn : Str} {cs : Scope} {a : Addr} {ccd : Value} {cl : List (Str × Addr)} {outer : List Env} {A₀ : Around} {base h₀ : Heap} {L : Addr} {m : Str → Option Value} {s : Shared} {Q E : Value → Shared → Prop} {news : List (Addr × Obj)}
    {lh : Addr} {vs : List Value} {nh : Nat} {hs : List Str}
    (B : Below A₀ base outer h₀) (F : Fr h₀ L s.heap m) (X : (hd.heap_39 w.params).In h₀) (N : News h₀ L s.heap news) (T : Top hd.view_39 loose mean mg mb h₀) (hk : cs.kind = .function)
    (hdp : dp + 2 < recursionLimit) (hun : un + 16 < cLine) (hm : (lh, listOf vs.toArray nh) ∈ news) (hv : StrsAre vs hs) (hz1 : (hs.map (·.length)).sum ≤ 1000) (hz2 : hs.length ≤ 1001)
    (ret : ∀ r (gs : List Value) n h' tk', Fr h₀ L h' m → News h₀ L h' ((r, listOf gs.toArray n) :: news) → (∀ p ∈ news, p.1 < r) → StrsAre gs (groupsF [] hs) → gs.length ≤ hs.length → Q (.ref r) { s with heap := h', toks := tk' }) :
    wpAny (model PR w) (ktrTop dp un gd cn cs L a ccd cl outer) (call (.ref 61) [.ref lh]) Q E s := by
  replace N : News h₀ L s.heap ((lh, listOf vs.toArray nh) :: news) := cb_drop N fun p hp => by
    rcases List.mem_cons.mp hp with rfl | hp
    · exact hm
    · exact hp
  have kk : (fun (_ : OpenLaw) (K : Params → Frag) => True) PySem.Challenge.rw_at0001_03 hd.heap_39 := by w_top off; k_fill; trivial
  clear kk
  refine wpAny_call ?_
  k_dflt cell_enter
  refine no_raise ?_
  k_steps
  refine ⟨?_⟩
  rename (IsRange _ _ _ _ _ _ _ _) => hR
  rename StrsAre vs hs => hv
  rename Fr _ _ _ _ => F1
  rename News _ _ _ _ => N1
  rename (_ < _ ∧ _ < _ ∧ AllLt _ _) => l2
  rename (_ < _ ∧ AllLt _ _) => l1
  first
    | (rename_i lg _ _ lo _ _ _ _ _ _ _ _ _
       have hlglo : @LT.lt Nat _ lg lo := l2.1)
    | (rename_i lg _ _ lo _ _ _ _ _ _ _ _
       have hlglo : @LT.lt Nat _ lg lo := l2.1)
    | (rename_i lg _ _ lo _ _ _ _ _ _ _ _ _ _
       have hlglo : @LT.lt Nat _ lg lo := l2.1)
    | (rename_i lg _ _ _ lo _ _ _ _ _ _ _ _ _ _
       have hlglo : @LT.lt Nat _ lg lo := l2.1)
  have hns := ltAll_of l1.2
  have hns2 := ltAll_of l2.2.2
  refine' my_forR (σ := Addr × List Value × Nat × List Value × Nat) (fun c => [(c.1, listOf c.2.1.toArray c.2.2.1), (lg, listOf c.2.2.2.1.toArray c.2.2.2.2), (lh, listOf vs.toArray nh)]) news (fun c => [(Str.ofString "own", Value.ref c.1), (Str.ofString "groups", Value.ref lg), (Str.ofString "heads", Value.ref lh)]) (fun k (c : Addr × List Value × Nat × List Value × Nat) => PG hs k c.2.1 c.2.2.2.1 ∧ ∀ p ∈ ((lg, listOf c.2.2.2.1.toArray c.2.2.2.2) :: (lh, listOf vs.toArray nh) :: news : List (Addr × Obj)), p.1 < c.1) (lo, [], 0, [], 0) rfl hR (small_one (by omega) (by omega) (by omega) (by omega)) (n := hs.length) (by rw [rangeSize_nat]; omega) ?hcl F1 N1 ?k1 ?k2 ?turn ?done rfl
  case hcl =>
    intro c p hp
    rcases List.mem_cons.mp hp with rfl | hp
    · rfl
    · rcases List.mem_cons.mp hp with rfl | hp
      · rfl
      · rw [List.mem_singleton.mp hp]; rfl
  case k1 => kst_all
  case k2 => exact ⟨PG_start hs, ltAll_of (d := lo) (l := (lg, _) :: (lh, _) :: news) l2⟩
  case turn =>
    clear F1 N1
    rintro i ti ⟨o, ow, no, gr, ng⟩ u h tk own hi ⟨⟨og, dn, h1, h2, h3, h4, h5, h6, h7⟩, hP2⟩ hoff F1 N1
    dsimp only at h1 h2 hP2 hoff F1 N1
    simp only [List.nil_append, List.cons_append] at N1
    have hlo : @LT.lt Nat _ lg o := hP2 _ (.head _)
    have hlh : @LT.lt Nat _ lh lg := l1.1
    have hA : ∀ p ∈ ((lg, listOf gr.toArray ng) :: (lh, listOf vs.toArray nh) :: (news ++ own) : List (Addr × Obj)), p.1 ≠ o := fun p hp => by
      rcases List.mem_append.mp (show p ∈ ((lg, listOf gr.toArray ng) :: (lh, listOf vs.toArray nh) :: news) ++ own from hp) with hp | hp
      · exact Nat.ne_of_lt (hP2 p hp)
      · exact hoff _ (.head _) p hp
    have hB : ∀ p ∈ ((lh, listOf vs.toArray nh) :: (news ++ own) : List (Addr × Obj)), p.1 ≠ lg := fun p hp => by
      rcases List.mem_append.mp (show p ∈ ((lh, listOf vs.toArray nh) :: news) ++ own from hp) with hp | hp
      · rcases List.mem_cons.mp hp with rfl | hp
        · exact Nat.ne_of_lt l1.1
        · exact Nat.ne_of_lt (hns p hp)
      · exact hoff _ (.tail _ (.head _)) p hp
    have h1h : Hd (StrsAre ow og) := ⟨h1⟩
    have h2h : Hd (StrsAre gr dn) := ⟨h2⟩
    have hol := StrsAre.len_eq h1
    have hgl := StrsAre.len_eq h2
    have e0 : (0 : Int) + (i : Int) = (i : Int) := by omega
    simp only [Int.zero_add] at F1
    have hvl := StrsAre.len_eq hv
    have hdg := drop_get hi
    (try k_fold)
    k_steps
    refine ⟨?_⟩
    rename Fr _ _ _ _ => F2
    rename News _ _ _ _ => N2
    have hb0 : ∃ b, Str.join (Str.ofString ";") (og ++ [hs.getD (i : Int).toNat Str.empty]) = b := ⟨_, rfl⟩
    obtain ⟨b, hbd⟩ := hb0
    refine join_cE N2 (.head _) (StrsAre.append' h1h.out (.cons _ _ .nil)) ?_ hbd ?_
    · have h8 := PG_size hi h4 h5
      have h9 : (Str.ofString ";").length = 1 := by decide
      rw [Int.toNat_natCast, h9]
      omega
    · have hbl := len_joinS (Str.ofString ";") (og ++ [hs.getD (i : Int).toNat Str.empty])
      have h8 := PG_size hi h4 h5
      rw [show (Str.ofString ";").length = 1 by decide, hbd] at hbl
      rw [Int.toNat_natCast] at hbl hbd
      have hbl2 : b.length ≤ 3000 := by omega
      clear hbl
      have hbd' : glu (og ++ [hs.getD i Str.empty]) = b := hbd
      intro tb kb'
      (try k_fold)
      k_steps
      · rename Fr _ _ _ _ => F3
        rename News _ _ _ _ => N3
        rename (_ < _ ∧ _ < _ ∧ _ < _ ∧ AllLt _ (news ++ own)) => l3
        rename (Int.fmod _ _ = 0) => hev
        have hor : evenQ b ∨ i + 1 = hs.length := .inl ((even_iff b).mp hev)
        rename (Txt.find _ _ < 0) => hfn
        have hgf := gf_pos hfn
        have hpg : ∀ t, PG hs (i + 1) [] (gr ++ [.str (gf b) t]) := fun t => by
          have := PG_cut (t := t) hi h2h.out h3 h4 h5 h6 (by rw [hbd']; exact hor)
          rwa [hbd'] at this
        rw [hgf] at hpg
        refine' ⟨(_, [], 0, gr ++ [_], ng + 1), _, _, _, _, rfl, F3, N3, mem2, ?a1, hpg _, ?z1⟩
        case a1 => kst_all
        case z1 => exact ltAll_of (l := (lg, _) :: (lh, _) :: news) ⟨l3.2.1, l3.2.2.1, allLt_left l3.2.2.2⟩
      · rename Fr _ _ _ _ => F3
        rename News _ _ _ _ => N3
        rename (_ < _ ∧ _ < _ ∧ _ < _ ∧ AllLt _ (news ++ own)) => l3
        rename (Int.fmod _ _ = 0) => hev
        have hor : evenQ b ∨ i + 1 = hs.length := .inl ((even_iff b).mp hev)
        rename (¬ Txt.find _ _ < 0) => hfn
        have hgf := gf_neg hfn
        have hpg : ∀ t, PG hs (i + 1) [] (gr ++ [.str (gf b) t]) := fun t => by
          have := PG_cut (t := t) hi h2h.out h3 h4 h5 h6 (by rw [hbd']; exact hor)
          rwa [hbd'] at this
        rw [hgf] at hpg
        refine' ⟨(_, [], 0, gr ++ [_], ng + 1), _, _, _, _, rfl, F3, N3, mem2, ?a2, hpg _, ?z2⟩
        case a2 => kst_all
        case z2 => exact ltAll_of (l := (lg, _) :: (lh, _) :: news) ⟨l3.2.1, l3.2.2.1, allLt_left l3.2.2.2⟩
      · rename Fr _ _ _ _ => F3
        rename News _ _ _ _ => N3
        rename (_ < _ ∧ _ < _ ∧ _ < _ ∧ AllLt _ (news ++ own)) => l3
        have hor : evenQ b ∨ i + 1 = hs.length := .inr (by omega)
        rename (Txt.find _ _ < 0) => hfn
        have hgf := gf_pos hfn
        have hpg : ∀ t, PG hs (i + 1) [] (gr ++ [.str (gf b) t]) := fun t => by
          have := PG_cut (t := t) hi h2h.out h3 h4 h5 h6 (by rw [hbd']; exact hor)
          rwa [hbd'] at this
        rw [hgf] at hpg
        refine' ⟨(_, [], 0, gr ++ [_], ng + 1), _, _, _, _, rfl, F3, N3, mem2, ?a3, hpg _, ?z3⟩
        case a3 => kst_all
        case z3 => exact ltAll_of (l := (lg, _) :: (lh, _) :: news) ⟨l3.2.1, l3.2.2.1, allLt_left l3.2.2.2⟩
      · rename Fr _ _ _ _ => F3
        rename News _ _ _ _ => N3
        rename (_ < _ ∧ _ < _ ∧ _ < _ ∧ AllLt _ (news ++ own)) => l3
        have hor : evenQ b ∨ i + 1 = hs.length := .inr (by omega)
        rename (¬ Txt.find _ _ < 0) => hfn
        have hgf := gf_neg hfn
        have hpg : ∀ t, PG hs (i + 1) [] (gr ++ [.str (gf b) t]) := fun t => by
          have := PG_cut (t := t) hi h2h.out h3 h4 h5 h6 (by rw [hbd']; exact hor)
          rwa [hbd'] at this
        rw [hgf] at hpg
        refine' ⟨(_, [], 0, gr ++ [_], ng + 1), _, _, _, _, rfl, F3, N3, mem2, ?a4, hpg _, ?z4⟩
        case a4 => kst_all
        case z4 => exact ltAll_of (l := (lg, _) :: (lh, _) :: news) ⟨l3.2.1, l3.2.2.1, allLt_left l3.2.2.2⟩
      · rename Fr _ _ _ _ => F3
        rename News _ _ _ _ => N3
        rename (Int.fmod _ _ ≠ 0) => hev
        refine' ⟨(o, ow ++ [_], no + 1, gr, ng), _, _, _, _, rfl, F3, N3, fun p hp => hp, ?a5, PG_go hi h1h.out h2h.out h3 h4 h5 h6 h7 (by rw [hbd', ← even_iff]; exact hev) (by omega), hP2⟩
        case a5 => kst_all
  case done =>
    clear F1 N1
    rintro ⟨o, ow, no, gr, ng⟩ u h tk ⟨⟨og, dn, h1, h2, h3, h4, h5, h6, h7⟩, hP2⟩ F1 N1
    dsimp only at h1 h2 hP2 F1 N1
    simp only [List.nil_append, List.cons_append] at N1
    have h2h : Hd (StrsAre gr dn) := ⟨h2⟩
    (try k_fold)
    k_steps
    refine ret _ gr ng _ _ (by assumption) (cb_drop (by assumption) fun p hp => .tail _ (by
      rcases List.mem_cons.mp hp with rfl | hp
      · exact .head _
      · exact .tail _ (.tail _ hp))) hns ?_ ?_
    · rw [← h3, List.drop_length]
      show StrsAre gr (dn ++ [])
      rw [List.append_nil]
      exact h2h.out
    · rw [StrsAre.len_eq h2h.out]; exact h6
end Mine

end
section
open PySem PySem.W PySem.Calls PyProof.Rows PySem.Builtin PySem.Builtin.Str
namespace Mine
theorem spl_sum (x : Str) : (spl x).1.length + (match (spl x).2 with | none => 0 | some r => r.length + 1) ≤ x.length := by
  have e := congrArg Str.length (StrLaws.partition_sum x (Str.ofString ";"))
  simp only [Str.length_append] at e
  have h1 := len_strip_le (Txt.partition x (Str.ofString ";")).1
  have h2 := len_strip_le (Txt.partition x (Str.ofString ";")).2.2
  unfold spl
  by_cases hq : (Txt.partition x (Str.ofString ";")).2.1.length = 0
  · rw [if_pos hq]; dsimp only; omega
  · rw [if_neg hq]
    show (Txt.strip (Txt.partition x (Str.ofString ";")).1).length + ((Txt.strip (Txt.partition x (Str.ofString ";")).2.2).length + 1) ≤ x.length
    omega
theorem headsF_sum : ∀ (k : Nat) (x : Str), ((headsF k x).map (·.length)).sum ≤ x.length ∧ (headsF k x).length ≤ x.length + 1
  | 0, x => by simp [headsF]
  | k + 1, x => by
    have h := spl_sum x
    unfold headsF
    cases hr : (spl x).2 with
    | none => rw [hr] at h; simp at h ⊢; omega
    | some r =>
      rw [hr] at h
      have ih := headsF_sum k r
      simp only [List.map_cons, List.sum_cons, List.length_cons] at h ⊢
      omega
theorem heads_sum (x : Str) : ((heads x).map (·.length)).sum ≤ x.length := (headsF_sum _ x).1
theorem heads_len (x : Str) : (heads x).length ≤ x.length + 1 := (headsF_sum _ x).2
theorem pcs_len : ∀ (l : List Nat) (o e : Bool), ∀ p ∈ pcs o e l, p.length ≤ l.length
  | [], o, e, p, hp => by simp [pcs] at hp; subst hp; simp
  | c :: r, o, e, p, hp => by
    rw [pcs] at hp
    split at hp
    · rcases List.mem_cons.mp hp with rfl | hp
      · simp
      · have := pcs_len r false false p hp
        simp; omega
    · have ih := pcs_len r (o != (c == 34 && !e)) (c == 92)
      split at hp
      · rename_i q qs' heq
        rw [heq] at ih
        rcases List.mem_cons.mp hp with rfl | hp
        · have := ih q (.head _)
          simp; omega
        · have := ih p (.tail _ hp)
          simp; omega
      · cases hp
theorem fmt_len (raw : List Nat) : (fmt raw).length ≤ 3 * raw.length + 1 := by
  unfold fmt
  split
  · rename_i h
    have e1 : raw.takeWhile (· != 61) ++ raw.dropWhile (· != 61) = raw := List.takeWhile_append_dropWhile
    have e2 := congrArg List.length e1
    rw [List.length_append] at e2
    have h1 := len_strip_le (Txt.lower (Txt.rstrip (S (raw.takeWhile (· != 61)))) ++ Str.ofString "=" ++ Txt.lstrip (S (raw.dropWhile (· != 61)).tail))
    have h2 := len_lower (Txt.rstrip (S (raw.takeWhile (· != 61))))
    have h3 := len_rstrip (S (raw.takeWhile (· != 61)))
    have h4 := len_lstrip (S (raw.dropWhile (· != 61)).tail)
    have h5 : (S (raw.takeWhile (· != 61))).length = (raw.takeWhile (· != 61)).length := by simp [Str.length]
    have h6 : (S (raw.dropWhile (· != 61)).tail).length = (raw.dropWhile (· != 61)).length - 1 := by simp [Str.length]
    have h7 : (Str.ofString "=").length = 1 := by decide
    simp only [Str.length_append] at h1
    omega
  · have h1 := len_strip_le (S raw)
    have h2 : (S raw).length = raw.length := by simp [Str.length]
    omega
theorem parse_len {x p : Str} (hp : p ∈ parse x) : p.length ≤ 3 * x.length + 1 := by
  unfold parse at hp
  obtain ⟨raw, hr, rfl⟩ := List.mem_map.mp hp
  have h1 := fmt_len raw
  have h2 := pcs_len _ _ _ raw hr
  have h3 : x.cps.toList.length = x.length := by simp [Str.length]
  omega
theorem gf_len (b : Str) : (gf b).length ≤ 4 * b.length := by
  unfold gf
  split
  · omega
  · have h1 := len_lower (Txt.slice b none (some (Txt.find b (Str.ofString "="))))
    have h2 := Txt.slice_le b none (some (Txt.find b (Str.ofString "=")))
    have h3 := Txt.slice_le b (some (Txt.find b (Str.ofString "="))) none
    rw [Str.length_append]
    omega
theorem groupsF_len : ∀ (t own : List Str), ∀ g ∈ groupsF own t, g.length ≤ 4 * ((own.map (·.length)).sum + (t.map (·.length)).sum + own.length + t.length)
  | [], own, g, hg => by simp [groupsF] at hg
  | h :: t, own, g, hg => by
    rw [groupsF] at hg
    split at hg
    · rcases List.mem_cons.mp hg with rfl | hg
      · have h1 := gf_len (glu (own ++ [h]))
        have h2 := len_joinS (Str.ofString ";") (own ++ [h])
        rw [show (Str.ofString ";").length = 1 by decide] at h2
        simp only [List.map_append, List.map_cons, List.map_nil, List.sum_append, List.sum_cons, List.sum_nil, List.length_append, List.length_cons, List.length_nil] at h2 ⊢
        have : (glu (own ++ [h])).length ≤ (own.map (·.length)).sum + (h.length + 0) + (own.length + (0 + 1)) * 1 := h2
        omega
      · have := groupsF_len t [] g hg
        simp only [List.map_cons, List.map_nil, List.sum_cons, List.sum_nil, List.length_cons, List.length_nil] at this ⊢
        omega
    · have := groupsF_len t (own ++ [h]) g hg
      simp only [List.map_append, List.map_cons, List.map_nil, List.sum_append, List.sum_cons, List.sum_nil, List.length_append, List.length_cons, List.length_nil] at this ⊢
      omega
theorem groups_len {x g : Str} (hg : g ∈ groupsF [] (heads x)) : g.length ≤ 8 * x.length + 8 := by
  have h := groupsF_len _ _ g hg
  have h1 := heads_sum x
  have h2 := heads_len x
  simp only [List.map_nil, List.sum_nil, List.length_nil] at h
  omega
end Mine

end
section
open PySem PySem.W PySem.Calls PyProof.Rows PySem.Builtin PySem.Builtin.Str
namespace Mine
/- the text cut at every semicolon: the first part and the others -/
def segs : List Nat → List Nat × List (List Nat)
  | [] => ([], [])
  | c :: r => if c = 59 then ([], (segs r).1 :: (segs r).2) else (c :: (segs r).1, (segs r).2)
def prep (x : List Nat) : List (List Nat) → List (List Nat)
  | [] => []
  | p :: ps => (x ++ p) :: ps
def grp2 : Bool → Bool → List Nat → List (List Nat) → List (List Nat)
  | _, _, s, [] => [s]
  | o, e, s, s2 :: t => if (o.toNat + qs e s) % 2 = 0 then s :: grp2 false false s2 t else prep (s ++ [59]) (grp2 true false s2 t)
theorem prep_cons (c : Nat) (x : List Nat) : ∀ l : List (List Nat), prep (c :: x) l = prep [c] (prep x l)
  | [] => rfl
  | _ :: _ => rfl
theorem prep_app (x y : List Nat) : ∀ l : List (List Nat), prep (x ++ y) l = prep x (prep y l)
  | [] => rfl
  | _ :: _ => by simp [prep]
theorem pcs_grp : ∀ (l : List Nat) (o e : Bool), pcs o e l = grp2 o e (segs l).1 (segs l).2
  | [], o, e => rfl
  | c :: r, o, e => by
    rw [pcs]
    by_cases hc : c = 59
    · subst hc
      rw [show segs (59 :: r) = ([], (segs r).1 :: (segs r).2) by simp [segs]]
      dsimp only
      rw [grp2]
      cases o with
      | false => rw [if_pos ⟨rfl, rfl⟩, if_pos (by rfl), pcs_grp r]
      | true =>
        rw [if_neg (by simp), if_neg (by simp [qs])]
        rw [pcs_grp r]
        show (match grp2 true false (segs r).1 (segs r).2 with | p :: ps => (59 :: p) :: ps | [] => []) = _
        cases grp2 true false (segs r).1 (segs r).2 <;> rfl
    · rw [show segs (c :: r) = (c :: (segs r).1, (segs r).2) by simp [segs, hc]]
      rw [if_neg (fun h => hc h.1), pcs_grp r]
      dsimp only
      generalize (segs r).1 = s
      generalize (segs r).2 = t
      have hq : ((o != (c == 34 && !e)).toNat + qs (c == 92) s) % 2 = (o.toNat + qs e (c :: s)) % 2 := by
        rw [qs]
        by_cases h34 : c = 34
        · subst h34
          cases e <;> cases o <;> simp <;> omega
        · have h34' : (c == 34) = false := by simp [h34]
          rw [h34']
          cases e <;> cases o <;> simp [h34]
      cases t with
      | nil => rfl
      | cons s2 t =>
        rw [grp2, grp2, hq]
        by_cases h : (o.toNat + qs e (c :: s)) % 2 = 0
        · rw [if_pos h, if_pos h]
        · rw [if_neg h, if_neg h]
          show (match prep (s ++ [59]) (grp2 true false s2 t) with | p :: ps => (c :: p) :: ps | [] => []) = prep (c :: (s ++ [59])) (grp2 true false s2 t)
          cases grp2 true false s2 t <;> rfl
def grp3 : List Nat → List Nat → List (List Nat) → List (List Nat)
  | acc, s, [] => [acc ++ s]
  | acc, s, s2 :: t => if qs false (acc ++ s) % 2 = 0 then (acc ++ s) :: grp3 [] s2 t else grp3 (acc ++ s ++ [59]) s2 t
def Clos (a : List Nat) : Prop := ∀ v, qs false (a ++ v) = qs false a + qs false v
theorem clos_nil : Clos [] := fun v => by simp [qs]
theorem clos_semi (a : List Nat) : Clos (a ++ [59]) := fun v => by
  rw [qs_append, List.getLast?_append]
  rfl
theorem qs_semi2 (a : List Nat) : qs false (a ++ [59]) = qs false a := by
  rw [qs_append]
  simp [qs]
theorem grp_acc : ∀ (t : List (List Nat)) (acc s : List Nat) (o : Bool), Clos acc → o.toNat % 2 = qs false acc % 2 → prep acc (grp2 o false s t) = grp3 acc s t
  | [], acc, s, o, _, _ => rfl
  | s2 :: t, acc, s, o, h1, h2 => by
    rw [grp2, grp3, h1 s]
    by_cases h : (o.toNat + qs false s) % 2 = 0
    · rw [if_pos h, if_pos (by omega)]
      show (acc ++ s) :: grp2 false false s2 t = _
      rw [← grp_acc t [] s2 false clos_nil rfl]
      cases grp2 false false s2 t <;> rfl
    · rw [if_neg h, if_neg (by omega), ← prep_app, ← List.append_assoc]
      refine grp_acc t _ s2 true (clos_semi _) ?_
      rw [qs_semi2, h1 s]
      have : (true : Bool).toNat = 1 := rfl
      omega
theorem pcs_grp3 (l : List Nat) : pcs false false l = grp3 [] (segs l).1 (segs l).2 := by
  rw [pcs_grp, ← grp_acc _ [] _ false clos_nil rfl]
  cases grp2 false false (segs l).1 (segs l).2 <;> rfl
/- blanks around -/
def Z (h s : List Nat) : Prop := ∃ a b, (∀ c ∈ a, Unicode.isSpace c = true) ∧ (∀ c ∈ b, Unicode.isSpace c = true) ∧ s = a ++ h ++ b
theorem Z.refl (s : List Nat) : Z s s := ⟨[], [], by simp, by simp, by simp⟩
theorem Z.trans {a b c : List Nat} (h : Z a b) (h' : Z b c) : Z a c := by
  obtain ⟨u, v, h1, h2, rfl⟩ := h
  obtain ⟨u', v', h1', h2', rfl⟩ := h'
  refine ⟨u' ++ u, v ++ v', fun c hc => ?_, fun c hc => ?_, by simp⟩
  · rcases List.mem_append.mp hc with h | h
    · exact h1' c h
    · exact h1 c h
  · rcases List.mem_append.mp hc with h | h
    · exact h2 c h
    · exact h2' c h
theorem sp59 {c : Nat} (h : Unicode.isSpace c = true) : c ≠ 59 ∧ c ≠ 34 ∧ c ≠ 92 := by
  refine ⟨?_, ?_, ?_⟩ <;> (rintro rfl; revert h; decide)
theorem qs_blank : ∀ (b : List Nat) (e : Bool), (∀ c ∈ b, Unicode.isSpace c = true) → qs e b = 0
  | [], _, _ => rfl
  | c :: r, e, h => by
    have h1 := sp59 (h c (.head _))
    rw [qs, qs_blank r _ fun d hd => h d (.tail _ hd)]
    simp [h1.2.1]
theorem qs_lead : ∀ (a v : List Nat), (∀ c ∈ a, Unicode.isSpace c = true) → qs false (a ++ v) = qs false v
  | [], _, _ => rfl
  | c :: r, v, h => by
    have h1 := sp59 (h c (.head _))
    rw [List.cons_append, qs, show (c == 92) = false by simp [h1.2.2], qs_lead r v fun d hd => h d (.tail _ hd)]
    simp [h1.2.1]
theorem Z.qs {h s : List Nat} (z : Z h s) : Mine.qs false h = Mine.qs false s := by
  obtain ⟨a, b, h1, h2, rfl⟩ := z
  rw [List.append_assoc, qs_lead a _ h1, qs_append, qs_blank b _ h2]
  rfl
inductive ZL (R : List Nat → List Nat → Prop) : List (List Nat) → List (List Nat) → Prop
  | nil : ZL R [] []
  | cons {a b x y} : R a b → ZL R x y → ZL R (a :: x) (b :: y)
theorem ZL.refl {R} (h : ∀ a, R a a) : ∀ l, ZL R l l
  | [] => .nil
  | a :: r => .cons (h a) (ZL.refl h r)
theorem ZL.trans {a b c : List (List Nat)} (h : ZL Z a b) : ZL Z b c → ZL Z a c := by
  induction h generalizing c with
  | nil => exact fun h => h
  | cons z _ ih => intro h'; cases h' with | cons z' r => exact .cons (z.trans z') (ih r)
theorem ZL.mono {R R' : List Nat → List Nat → Prop} (h : ∀ a b, R a b → R' a b) {x y} (z : ZL R x y) : ZL R' x y := by
  induction z with
  | nil => exact .nil
  | cons a _ ih => exact .cons (h _ _ a) ih
theorem segs_tail (b : List Nat) (hb : ∀ c ∈ b, Unicode.isSpace c = true) : segs b = (b, []) := by
  induction b with
  | nil => rfl
  | cons c r ih => simp [segs, (sp59 (hb c (.head _))).1, ih fun d hd => hb d (.tail _ hd)]
def ZR (h s : List Nat) : Prop := ∃ b, (∀ c ∈ b, Unicode.isSpace c = true) ∧ s = h ++ b
abbrev sgl (m : List Nat) : List (List Nat) := (segs m).1 :: (segs m).2
theorem segs_right (b : List Nat) (hb : ∀ c ∈ b, Unicode.isSpace c = true) : ∀ m, ZL ZR (sgl m) (sgl (m ++ b))
  | [] => by
    show ZL ZR [[]] (sgl b)
    unfold sgl
    rw [segs_tail b hb]
    exact .cons ⟨b, hb, rfl⟩ .nil
  | c :: r => by
    have ih := segs_right b hb r
    unfold sgl at ih ⊢
    rw [List.cons_append, segs, segs]
    by_cases hc : c = 59
    · rw [if_pos hc, if_pos hc]
      exact .cons ⟨[], by simp, rfl⟩ ih
    · rw [if_neg hc, if_neg hc]
      cases ih with
      | cons z zs =>
        obtain ⟨v, h2, h3⟩ := z
        exact .cons ⟨v, h2, by rw [h3]; rfl⟩ zs
theorem segs_left (a : List Nat) (ha : ∀ c ∈ a, c ≠ 59) (m : List Nat) : segs (a ++ m) = (a ++ (segs m).1, (segs m).2) := by
  induction a with
  | nil => rfl
  | cons c r ih => simp [segs, ha c (.head _), ih fun d hd => ha d (.tail _ hd)]
theorem segs_Z {m y : List Nat} (z : Z m y) : ZL Z (sgl m) (sgl y) := by
  obtain ⟨a, b, h1, h2, rfl⟩ := z
  have h := segs_right b h2 (a ++ m)
  unfold sgl at h ⊢
  rw [segs_left a (fun c hc => (sp59 (h1 c hc)).1)] at h
  have h' := ZL.mono (R' := Z) (fun a b ⟨v, h1, h2⟩ => ⟨[], v, by simp, h1, by simpa using h2⟩) h
  refine ZL.trans (.cons ⟨a, [], h1, by simp, by simp⟩ (ZL.refl Z.refl _)) h'
/- strip -/
theorem sub_list (x : Str) (i j : Nat) : (strSub x i j).cps.toList = (x.cps.toList.take j).drop i := by
  unfold strSub
  simp [List.drop_take]
theorem strip_Z (l r : Bool) (x : Str) : Z (Txt.stripBy Unicode.isSpace l r x).cps.toList x.cps.toList := by
  rw [PyProof.Rows.stripBy_eq, sub_list]
  have hlo : stripLo Unicode.isSpace l x ≤ x.length ∧ ∀ k, k < stripLo Unicode.isSpace l x → Unicode.isSpace (x.cps.getD k 0) = true := by
    cases l with
    | true => exact ⟨(lo_facts _ x).1, (lo_facts _ x).2.1⟩
    | false => simp [stripLo]
  generalize stripLo Unicode.isSpace l x = lo at hlo
  have hhi : lo ≤ stripHi Unicode.isSpace r x lo ∧ stripHi Unicode.isSpace r x lo ≤ x.length ∧ ∀ k, stripHi Unicode.isSpace r x lo ≤ k → k < x.length → Unicode.isSpace (x.cps.getD k 0) = true := by
    cases r with
    | true => have := hi_facts Unicode.isSpace x lo hlo.1; exact ⟨this.1, this.2.1, this.2.2.1⟩
    | false => simp [stripHi]; exact ⟨hlo.1, fun k h1 h2 => by omega⟩
  generalize stripHi Unicode.isSpace r x lo = hi at hhi
  have hn : x.cps.toList.length = x.length := by simp [Str.length]
  refine ⟨x.cps.toList.take lo, x.cps.toList.drop hi, fun c hc => ?_, fun c hc => ?_, ?_⟩
  · obtain ⟨k, hk⟩ := List.mem_iff_getElem?.mp hc
    rw [List.getElem?_take] at hk
    split at hk
    · rename_i h1
      have := hlo.2 k h1
      rwa [← getD_list, List.getD_eq_getElem?_getD, hk] at this
    · cases hk
  · obtain ⟨k, hk⟩ := List.mem_iff_getElem?.mp hc
    rw [List.getElem?_drop] at hk
    have h1 := lt_of_get hk
    have := hhi.2.2 (hi + k) (by omega) (by omega)
    rwa [← getD_list, List.getD_eq_getElem?_getD, hk] at this
  · have e1 : x.cps.toList.take lo ++ (x.cps.toList.take hi).drop lo = x.cps.toList.take hi := by
      have := List.take_append_drop lo (x.cps.toList.take hi)
      rwa [List.take_take, Nat.min_eq_left hhi.1] at this
    rw [e1, List.take_append_drop]
theorem strip_ends (x : Str) : (Txt.strip x).cps.toList = [] ∨ ∃ a b m, (Txt.strip x).cps.toList.head? = some a ∧ (Txt.strip x).cps.toList = m ++ [b] ∧ Unicode.isSpace a = false ∧ Unicode.isSpace b = false := by
  unfold Txt.strip
  rw [PyProof.Rows.stripBy_eq, sub_list]
  have hlo := lo_facts Unicode.isSpace x
  generalize stripLo Unicode.isSpace true x = lo at hlo
  have hhi := hi_facts Unicode.isSpace x lo hlo.1
  generalize stripHi Unicode.isSpace true x lo = hi at hhi
  have hn : x.cps.toList.length = x.length := by simp [Str.length]
  rcases Nat.lt_or_ge lo hi with h | h
  · obtain ⟨n, rfl⟩ : ∃ n, hi = n + 1 := ⟨hi - 1, by omega⟩
    have hnl : n < x.cps.toList.length := by omega
    refine .inr ⟨x.cps.toList[lo]'(by omega), x.cps.toList[n], ((x.cps.toList.take n).drop lo), ?_, ?_, ?_, ?_⟩
    · rw [List.head?_drop, List.getElem?_take, if_pos h]
      simp
    · rw [List.take_add_one, List.getElem?_eq_getElem hnl, List.drop_append_of_le_length (by rw [List.length_take]; omega)]
      rfl
    · rcases hlo.2.2 with h1 | h1
      · omega
      · rw [← getD_list, List.getD_eq_getElem?_getD, List.getElem?_eq_getElem (by omega)] at h1
        exact h1
    · rcases hhi.2.2.2 with h1 | h1
      · omega
      · rw [← getD_list, Nat.add_sub_cancel, List.getD_eq_getElem?_getD, List.getElem?_eq_getElem hnl] at h1
        exact h1
  · exact .inl (by rw [List.drop_eq_nil_iff, List.length_take]; omega)
end Mine

end
section
open PySem PySem.W PySem.Calls PyProof.Rows PySem.Builtin PySem.Builtin.Str
namespace Mine
/- partition -/
theorem part_none {x : Str} (h : 59 ∉ x.cps.toList) : Txt.partition x (Str.ofString ";") = (x, Str.empty, Str.empty) := by
  have e : Str.ofString ";" = ⟨#[59]⟩ := by decide +kernel
  unfold Txt.partition
  rw [e]
  rcases StrLaws.occ_head_from x ⟨#[59]⟩ 0 1 (Nat.le_refl 1) with ⟨h0, _⟩ | ⟨k, r, h0, _, hk, _⟩
  · rw [h0]
  · exact absurd (List.mem_of_getElem? ((StrLaws.subAt_one x 59 k).mp hk)) h
theorem part_some {x : Str} {u v : List Nat} (h : x.cps.toList = u ++ 59 :: v) (hu : 59 ∉ u) : Txt.partition x (Str.ofString ";") = (S u, Str.ofString ";", S v) := by
  have e : Str.ofString ";" = ⟨#[59]⟩ := by decide +kernel
  have hn : x.cps.toList.length = x.length := by simp [Str.length]
  have hx : x.cps.toList[u.length]? = some 59 := by rw [h]; simp
  unfold Txt.partition
  rw [e]
  rcases StrLaws.occ_head_from x ⟨#[59]⟩ 0 1 (Nat.le_refl 1) with ⟨_, h0⟩ | ⟨k, r, h0, _, hk, hf⟩
  · exact absurd ((StrLaws.subAt_one x 59 u.length).mpr hx) (h0 _ (Nat.zero_le _))
  · have hk' := (StrLaws.subAt_one x 59 k).mp hk
    have e1 : k = u.length := by
      rcases Nat.lt_trichotomy k u.length with h1 | h1 | h1
      · rw [h, List.getElem?_append_left h1] at hk'
        exact absurd (List.mem_of_getElem? hk') hu
      · exact h1
      · exact absurd ((StrLaws.subAt_one x 59 u.length).mpr hx) (hf _ (Nat.zero_le _) h1)
    subst e1
    rw [h0]
    have e2 : ∀ i j, strSub x i j = S ((x.cps.toList.take j).drop i) := fun i j => PySem.Str.ext' (by
      have := sub_list x i j
      simpa using congrArg List.toArray this)
    dsimp only
    rw [e2, e2]
    have e3 : (⟨#[59]⟩ : Str).length = 1 := rfl
    rw [e3, ← hn, List.take_length, h]
    simp
theorem segs_none {l : List Nat} (h : 59 ∉ l) : segs l = (l, []) := by
  induction l with
  | nil => rfl
  | cons c r ih =>
    rw [segs, if_neg (fun e => h (by rw [e]; exact .head _)), ih fun hm => h (.tail _ hm)]
theorem segs_some {u : List Nat} (v : List Nat) (h : 59 ∉ u) : segs (u ++ 59 :: v) = (u, sgl v) := by
  rw [segs_left u (fun c hc e => h (by rw [← e]; exact hc))]
  simp [segs]
theorem cut59 : ∀ l : List Nat, 59 ∉ l ∨ ∃ u v, l = u ++ 59 :: v ∧ 59 ∉ u
  | [] => .inl (by simp)
  | c :: r => by
    by_cases hc : c = 59
    · exact .inr ⟨[], r, by rw [hc]; rfl, by simp⟩
    · rcases cut59 r with h | ⟨u, v, rfl, h⟩
      · exact .inl (by simp [h, Ne.symm hc])
      · exact .inr ⟨c :: u, v, rfl, by simp [h, Ne.symm hc]⟩
theorem heads_Z : ∀ (n : Nat) (x : Str), x.length < n → ZL Z ((heads x).map fun h => h.cps.toList) (sgl x.cps.toList)
  | 0, x, h => by omega
  | n + 1, x, h => by
    rw [heads_eq]
    rcases cut59 x.cps.toList with h1 | ⟨u, v, h1, h2⟩
    · have hs : spl x = (Txt.strip x, none) := by unfold spl; rw [part_none h1]; rfl
      rw [hs]
      unfold sgl
      rw [segs_none h1]
      exact .cons (strip_Z true true x) .nil
    · have hs : spl x = (Txt.strip (S u), some (Txt.strip (S v))) := by unfold spl; rw [part_some h1 h2]; rfl
      rw [hs]
      have hl : v.length < x.length := by
        have := congrArg List.length h1
        simp [Str.length] at this ⊢
        omega
      have h3 := len_strip_le (S v)
      have h4 : (S v).length = v.length := by simp [Str.length]
      have ih := heads_Z n (Txt.strip (S v)) (by omega)
      unfold sgl
      rw [h1, segs_some v h2]
      exact .cons (strip_Z true true (S u)) (ih.trans (segs_Z (strip_Z true true (S v))))
end Mine

end
section
open PySem PySem.W PySem.Calls PyProof.Rows PySem.Builtin PySem.Builtin.Str
namespace Mine
def A4 : List Nat := A3 ++ A3.flatMap Unicode.lowerOf
def lowL (l : List Nat) : List Nat := l.flatMap Unicode.lowerOf
theorem f1 : ∀ c ∈ A4, Unicode.isSpace c = Txt.contains BL ⟨#[c]⟩ := by decide +kernel
theorem f2 : ∀ c ∈ A3, c ≠ 0x3A3 := by decide +kernel
theorem f3 : ∀ c ∈ A3, (Txt.contains BL ⟨#[c]⟩ = true → Unicode.lowerOf c = [c]) ∧ (Txt.contains BL ⟨#[c]⟩ = false → ∀ d ∈ Unicode.lowerOf c, Txt.contains BL ⟨#[d]⟩ = false) := by decide +kernel
theorem f4 : ∀ c ∈ A4, c < 0x110000 := by decide +kernel
theorem f5 : Txt.contains BL ⟨#[61]⟩ = false := by decide +kernel
theorem f6 : 61 ∈ A4 := by decide +kernel
theorem low_in {l : List Nat} (h : ∀ c ∈ l, c ∈ A3) : ∀ c ∈ lowL l, c ∈ A4 := fun c hc => by
  obtain ⟨a, ha, h1⟩ := List.mem_flatMap.mp hc
  exact List.mem_append.mpr (.inr (List.mem_flatMap.mpr ⟨a, h a ha, h1⟩))
theorem in34 {c : Nat} (h : c ∈ A3) : c ∈ A4 := List.mem_append.mpr (.inl h)
theorem bare_app (a b : List Nat) : bare (a ++ b) = bare a ++ bare b := List.filter_append a b
theorem bare_none {l : List Nat} (h : ∀ c ∈ l, Txt.contains BL ⟨#[c]⟩ = false) : bare l = l := List.filter_eq_self.mpr fun c hc => by rw [h c hc]; rfl
theorem bare_all {l : List Nat} (h : ∀ c ∈ l, Txt.contains BL ⟨#[c]⟩ = true) : bare l = [] := List.filter_eq_nil_iff.mpr fun c hc => by rw [h c hc]; simp
theorem bare_Z {h s : List Nat} (z : Z h s) (hs : ∀ c ∈ s, c ∈ A4) : bare h = bare s := by
  obtain ⟨a, b, h1, h2, rfl⟩ := z
  rw [bare_app, bare_app, bare_all (l := a) fun c hc => by rw [← f1 c (hs c (by simp [hc]))]; exact h1 c hc, bare_all (l := b) fun c hc => by rw [← f1 c (hs c (by simp [hc]))]; exact h2 c hc]
  simp
theorem Z.sub {h s : List Nat} (z : Z h s) : ∀ c ∈ h, c ∈ s := by
  obtain ⟨a, b, h1, h2, rfl⟩ := z
  intro c hc; simp [hc]
theorem bare_low : ∀ l : List Nat, (∀ c ∈ l, c ∈ A3) → bare (lowL l) = lowL (bare l)
  | [], _ => rfl
  | c :: r, h => by
    have ih := bare_low r fun d hd => h d (.tail _ hd)
    have e : lowL (c :: r) = Unicode.lowerOf c ++ lowL r := by simp [lowL]
    rw [e, bare_app, ih]
    by_cases hb : Txt.contains BL ⟨#[c]⟩ = true
    · rw [(f3 c (h c (.head _))).1 hb, bare_all (l := [c]) (by simpa using hb)]
      simp [bare, hb]
    · have hb' : Txt.contains BL ⟨#[c]⟩ = false := by simpa using hb
      rw [bare_none ((f3 c (h c (.head _))).2 hb')]
      simp [bare, hb', lowL]
theorem lower_list {x : Str} (h : ∀ c ∈ x.cps.toList, c ∈ A3) : (Txt.lower x).cps.toList = lowL x.cps.toList := by
  unfold Txt.lower placed
  rw [Array.toList_flatten, Array.toList_mapIdx]
  unfold lowL
  rw [List.flatMap_def]
  congr 1
  refine List.ext_getElem (by simp) fun i h1 h2 => ?_
  simp only [List.getElem_map, List.getElem_mapIdx]
  have hi : i < x.cps.size := by simpa using h1
  have hc := h (x.cps.toList[i]'(by simpa using hi)) (List.getElem_mem _)
  unfold Unicode.lowerAt
  rw [Array.getElem?_eq_getElem hi]
  have h3 := f2 _ hc
  simp only [Array.getElem_toList] at h3 ⊢
  rw [show (x.cps[i] == 0x3A3) = false by simpa using h3]
  simp
def nfm (m : List Nat) : List Nat := if 61 ∈ m then lowL (m.takeWhile (· != 61)) ++ m.dropWhile (· != 61) else m
theorem nfm_cut {u : List Nat} (v : List Nat) (h : 61 ∉ u) : nfm (u ++ 61 :: v) = lowL u ++ 61 :: v := by
  unfold nfm
  rw [if_pos (by simp)]
  have h1 := (takeWhile_seg (v := v) h).1
  rw [h1]
  congr 1
  have h2 : (u ++ 61 :: v).takeWhile (· != 61) ++ (u ++ 61 :: v).dropWhile (· != 61) = u ++ 61 :: v := List.takeWhile_append_dropWhile
  rw [h1] at h2
  exact List.append_cancel_left h2
theorem cut61 : ∀ l : List Nat, 61 ∉ l ∨ ∃ u v, l = u ++ 61 :: v ∧ 61 ∉ u
  | [] => .inl (by simp)
  | c :: r => by
    by_cases hc : c = 61
    · exact .inr ⟨[], r, by rw [hc]; rfl, by simp⟩
    · rcases cut61 r with h | ⟨u, v, rfl, h⟩
      · exact .inl (by simp [h, Ne.symm hc])
      · exact .inr ⟨c :: u, v, rfl, by simp [h, Ne.symm hc]⟩
theorem bare_no {l : List Nat} (h : 61 ∉ l) : 61 ∉ bare l := fun hm => h (List.mem_filter.mp hm).1
theorem bare_cut (u v : List Nat) : bare (u ++ 61 :: v) = bare u ++ 61 :: bare v := by
  rw [bare_app]
  congr 1
  unfold bare
  rw [List.filter_cons, f5]
  rfl
theorem lst_S (l : List Nat) : (S l).cps.toList = l := rfl
theorem fmt_body {raw : List Nat} (h : ∀ c ∈ raw, c ∈ A3) : ∃ Y : Str, fmt raw = Txt.strip Y ∧ (∀ c ∈ Y.cps.toList, c ∈ A4) ∧ bare Y.cps.toList = nfm (bare raw) := by
  rcases cut61 raw with h1 | ⟨u, v, rfl, h1⟩
  · refine ⟨S raw, by unfold fmt; rw [if_neg h1], fun c hc => in34 (h c hc), ?_⟩
    unfold nfm
    rw [if_neg (bare_no h1)]
  · have hu : ∀ c ∈ u, c ∈ A3 := fun c hc => h c (by simp [hc])
    have hv : ∀ c ∈ v, c ∈ A3 := fun c hc => h c (by simp [hc])
    have z1 : Z (Txt.rstrip (S u)).cps.toList u := strip_Z false true (S u)
    have z2 : Z (Txt.lstrip (S v)).cps.toList v := strip_Z true false (S v)
    have hu' : ∀ c ∈ (Txt.rstrip (S u)).cps.toList, c ∈ A3 := fun c hc => hu c (z1.sub c hc)
    have hv' : ∀ c ∈ (Txt.lstrip (S v)).cps.toList, c ∈ A3 := fun c hc => hv c (z2.sub c hc)
    have e : (Txt.lower (Txt.rstrip (S u)) ++ Str.ofString "=" ++ Txt.lstrip (S v)).cps.toList = lowL (Txt.rstrip (S u)).cps.toList ++ 61 :: (Txt.lstrip (S v)).cps.toList := by
      rw [PySem.Str.cps_append, PySem.Str.cps_append, Array.toList_append, Array.toList_append, lower_list hu', show (Str.ofString "=").cps = #[61] by decide +kernel]
      simp
    refine ⟨Txt.lower (Txt.rstrip (S u)) ++ Str.ofString "=" ++ Txt.lstrip (S v), ?_, ?_, ?_⟩
    · unfold fmt
      rw [if_pos (by simp), (takeWhile_seg (v := v) h1).1, (takeWhile_seg (v := v) h1).2]
    · rw [e]
      intro c hc
      rcases List.mem_append.mp hc with hc | hc
      · exact low_in hu' c hc
      · rcases List.mem_cons.mp hc with rfl | hc
        · exact f6
        · exact in34 (hv' c hc)
    · rw [e, bare_cut, bare_cut, nfm_cut _ (bare_no h1), bare_low _ hu', bare_Z z1 fun c hc => in34 (hu c hc), bare_Z z2 fun c hc => in34 (hv c hc)]
theorem fmt_bare {raw : List Nat} (h : ∀ c ∈ raw, c ∈ A3) : bare (fmt raw).cps.toList = nfm (bare raw) ∧ ∀ c ∈ (fmt raw).cps.toList, c ∈ A4 := by
  obtain ⟨Y, e, h1, h2⟩ := fmt_body h
  rw [e]
  have z := strip_Z true true Y
  exact ⟨(bare_Z z h1).trans h2, fun c hc => h1 c (z.sub c hc)⟩
theorem find_none {b : Str} (h : 61 ∉ b.cps.toList) : Txt.find b (Str.ofString "=") = -1 := by
  unfold Txt.find
  rw [show Str.ofString "=" = ⟨#[61]⟩ by decide +kernel]
  rcases StrLaws.occ_head_from b ⟨#[61]⟩ 0 1 (Nat.le_refl 1) with ⟨h0, _⟩ | ⟨k, r, h0, _, hk, _⟩
  · rw [h0]
  · exact absurd (List.mem_of_getElem? ((StrLaws.subAt_one b 61 k).mp hk)) h
theorem find_some {b : Str} {u v : List Nat} (h : b.cps.toList = u ++ 61 :: v) (hu : 61 ∉ u) : Txt.find b (Str.ofString "=") = (u.length : Int) := by
  have hx : b.cps.toList[u.length]? = some 61 := by rw [h]; simp
  unfold Txt.find
  rw [show Str.ofString "=" = ⟨#[61]⟩ by decide +kernel]
  rcases StrLaws.occ_head_from b ⟨#[61]⟩ 0 1 (Nat.le_refl 1) with ⟨_, h0⟩ | ⟨k, r, h0, _, hk, hf⟩
  · exact absurd ((StrLaws.subAt_one b 61 u.length).mpr hx) (h0 _ (Nat.zero_le _))
  · have hk' := (StrLaws.subAt_one b 61 k).mp hk
    rw [h0]
    rcases Nat.lt_trichotomy k u.length with h1 | h1 | h1
    · rw [h, List.getElem?_append_left h1] at hk'
      exact absurd (List.mem_of_getElem? hk') hu
    · rw [h1]
    · exact absurd ((StrLaws.subAt_one b 61 u.length).mpr hx) (hf _ (Nat.zero_le _) h1)
theorem gf_bare {b : Str} (h : ∀ c ∈ b.cps.toList, c ∈ A3) : bare (gf b).cps.toList = nfm (bare b.cps.toList) := by
  rcases cut61 b.cps.toList with h1 | ⟨u, v, h1, h2⟩
  · rw [gf_pos (by rw [find_none h1]; decide)]
    unfold nfm
    rw [if_neg (bare_no h1)]
  · have hn : b.cps.toList.length = b.length := by simp [Str.length]
    have hu : ∀ c ∈ u, c ∈ A3 := fun c hc => h c (by rw [h1]; simp [hc])
    have hl : u.length + 1 + v.length = b.cps.toList.length := by rw [h1]; simp only [List.length_append, List.length_cons]; omega
    rw [gf_neg (by rw [find_some h1 h2]; omega), find_some h1 h2]
    have e1 : Txt.slice b none (some (u.length : Int)) = S u := by
      refine (StrLaws.sliceText_to (x := b) ⟨by omega, by omega⟩).trans ?_
      rw [h1]
      simp
    have e2 : Txt.slice b (some (u.length : Int)) none = S (61 :: v) := by
      refine (StrLaws.sliceText_from (x := b) ⟨by omega, by omega⟩).trans ?_
      rw [List.take_of_length_le (by rw [List.length_drop]; omega), h1]
      simp
    rw [e1, e2, PySem.Str.cps_append, Array.toList_append, lower_list (x := S u) hu, lst_S, lst_S, bare_cut, h1, bare_cut, nfm_cut _ (bare_no h2), bare_low _ hu]
end Mine

end
section
open PySem PySem.W PySem.Calls PyProof.Rows PySem.Builtin PySem.Builtin.Str
namespace Mine
theorem join_snoc (sep : Str) : ∀ (l : List Str) (y x : Str), Str.join sep (l ++ [y] ++ [x]) = Str.join sep (l ++ [y]) ++ sep ++ x
  | [], y, x => by
    show Str.join sep [y, x] = Str.join sep [y] ++ sep ++ x
    rfl
  | a :: r, y, x => by
    have ih := join_snoc sep r y x
    have e1 : Str.join sep (a :: r ++ [y] ++ [x]) = a ++ sep ++ Str.join sep (r ++ [y] ++ [x]) := by
      show Str.join sep (a :: (r ++ [y] ++ [x])) = _
      rw [Str.join]
      intro h; simp at h
    have e2 : Str.join sep (a :: r ++ [y]) = a ++ sep ++ Str.join sep (r ++ [y]) := by
      show Str.join sep (a :: (r ++ [y])) = _
      rw [Str.join]
      intro h; simp at h
    rw [e1, e2, ih]
    refine PySem.Str.ext' ?_
    simp only [PySem.Str.cps_append, Array.append_assoc]
theorem glu_snoc (own : List Str) (h x : Str) : (glu (own ++ [h] ++ [x])).cps.toList = (glu (own ++ [h])).cps.toList ++ [59] ++ x.cps.toList := by
  unfold glu
  rw [join_snoc, PySem.Str.cps_append, PySem.Str.cps_append, Array.toList_append, Array.toList_append, show (Str.ofString ";").cps = #[59] by decide +kernel]
theorem glu_one (x : Str) : (glu ([] ++ [x])).cps.toList = [] ++ x.cps.toList := rfl
theorem in59 : 59 ∈ A3 := by decide +kernel
theorem grp_rel : ∀ (t : List Str) (t' : List (List Nat)) (own : List Str) (pre acc : List Nat) (h : Str) (s : List Nat),
    (∀ x, (glu (own ++ [x])).cps.toList = pre ++ x.cps.toList) → bare pre = bare acc → Clos pre → Clos acc → qs false pre = qs false acc → (∀ c ∈ pre, c ∈ A3) → Z h.cps.toList s → ZL Z (t.map fun h => h.cps.toList) t' → (∀ c ∈ s, c ∈ A3) → (∀ l ∈ t', ∀ c ∈ l, c ∈ A3) →
    (groupsF own (h :: t)).map (fun g => bare g.cps.toList) = (grp3 acc s t').map (fun r => nfm (bare r))
  | [], t', own, pre, acc, h, s, h1, h2, h3, h4, h5, h6, z, zs, h7, h8 => by
    cases zs
    have hc : ∀ c ∈ (glu (own ++ [h])).cps.toList, c ∈ A3 := fun c hc => by
      rw [h1] at hc
      rcases List.mem_append.mp hc with hc | hc
      · exact h6 c hc
      · exact h7 c (z.sub c hc)
    rw [groupsF, if_pos (.inr rfl), grp3]
    show [bare (gf (glu (own ++ [h]))).cps.toList] = [nfm (bare (acc ++ s))]
    rw [gf_bare hc, h1, bare_app, bare_app, h2, bare_Z z fun c hc => in34 (h7 c hc)]
  | g :: t, t', own, pre, acc, h, s, h1, h2, h3, h4, h5, h6, z, zs, h7, h8 => by
    cases zs with
    | cons z2 zs =>
    rename_i s2 t''
    have hc : ∀ c ∈ (glu (own ++ [h])).cps.toList, c ∈ A3 := fun c hc => by
      rw [h1] at hc
      rcases List.mem_append.mp hc with hc | hc
      · exact h6 c hc
      · exact h7 c (z.sub c hc)
    have hb : bare (pre ++ h.cps.toList) = bare (acc ++ s) := by
      rw [bare_app, bare_app, h2, bare_Z z fun c hc => in34 (h7 c hc)]
    have hq : qs false (pre ++ h.cps.toList) = qs false (acc ++ s) := by rw [h3, h4, h5, z.qs]
    rw [groupsF, grp3]
    have hev : evenQ (glu (own ++ [h])) ↔ qs false (acc ++ s) % 2 = 0 := by unfold evenQ; rw [h1, hq]
    by_cases he : qs false (acc ++ s) % 2 = 0
    · rw [if_pos (.inl (hev.mpr he)), if_pos he]
      rw [List.map_cons, List.map_cons]
      rw [grp_rel t t'' [] [] [] g s2 glu_one rfl clos_nil clos_nil rfl (fun c hc => nomatch hc) z2 zs (h8 _ (.head _)) (fun l hl => h8 l (.tail _ hl))]
      congr 1
      rw [gf_bare hc, h1, hb]
    · rw [if_neg (by rintro (h | h); exact he (hev.mp h); cases h), if_neg he]
      refine grp_rel t t'' (own ++ [h]) (pre ++ h.cps.toList ++ [59]) (acc ++ s ++ [59]) g s2 (fun x => ?_) ?_ (clos_semi _) (clos_semi _) ?_ (fun c hc' => ?_) z2 zs (h8 _ (.head _)) (fun l hl => h8 l (.tail _ hl))
      · rw [glu_snoc, h1]
      · rw [bare_app, hb, ← bare_app]
      · rw [qs_semi2, qs_semi2, hq]
      · rcases List.mem_append.mp hc' with hc' | hc'
        · exact hc c (by rw [h1]; exact hc')
        · rw [List.mem_singleton.mp hc']; exact in59
theorem pcs_sub : ∀ (l : List Nat) (o e : Bool), ∀ p ∈ pcs o e l, ∀ c ∈ p, c ∈ l
  | [], o, e, p, hp => by simp [pcs] at hp; subst hp; simp
  | c :: r, o, e, p, hp => by
    rw [pcs] at hp
    split at hp
    · rcases List.mem_cons.mp hp with rfl | hp
      · simp
      · exact fun d hd => .tail _ (pcs_sub r false false p hp d hd)
    · have ih := pcs_sub r (o != (c == 34 && !e)) (c == 92)
      split at hp
      · rename_i q qs' heq
        rw [heq] at ih
        rcases List.mem_cons.mp hp with rfl | hp
        · intro d hd
          rcases List.mem_cons.mp hd with rfl | hd
          · exact .head _
          · exact .tail _ (ih q (.head _) d hd)
        · exact fun d hd => .tail _ (ih p (.tail _ hp) d hd)
      · cases hp
theorem segs_sub : ∀ (m : List Nat), ∀ l ∈ sgl m, ∀ c ∈ l, c ∈ m
  | [], l, hl => by
    have : l = [] := by simpa [sgl, segs] using hl
    subst this; simp
  | d :: r, l, hl => by
    have ih := segs_sub r
    unfold sgl at hl ih
    rw [segs] at hl
    split at hl
    · rcases List.mem_cons.mp hl with rfl | hl
      · simp
      · exact fun c hc => .tail _ (ih l hl c hc)
    · rcases List.mem_cons.mp hl with rfl | hl
      · intro c hc
        rcases List.mem_cons.mp hc with rfl | hc
        · exact .head _
        · exact .tail _ (ih _ (.head _) c hc)
      · exact fun c hc => .tail _ (ih l (.tail _ hl) c hc)
def B' (y : Str) : Str := S (bare y.cps.toList)
theorem plain1 {y : Str} (h : ∀ c ∈ y.cps.toList, c ∈ A3) : (parse y).map B' = (groupsF [] (heads y)).map B' := by
  have key : (pcs false false y.cps.toList).map (fun raw => bare (fmt raw).cps.toList) = (groupsF [] (heads y)).map (fun g => bare g.cps.toList) := by
    have hz := heads_Z _ y (Nat.lt_succ_self _)
    obtain ⟨a, b, hab⟩ : ∃ a b, heads y = a :: b := ⟨_, _, heads_eq y⟩
    rw [hab] at hz ⊢
    have hs := segs_sub y.cps.toList
    cases hz with
    | cons z zs =>
      rw [grp_rel b _ [] [] [] a _ glu_one rfl clos_nil clos_nil rfl (fun c hc => nomatch hc) z zs (fun c hc => h c (hs _ (.head _) c hc)) (fun l hl c hc => h c (hs _ (.tail _ hl) c hc)), ← pcs_grp3]
      refine List.map_congr_left fun raw hr => ?_
      exact (fmt_bare fun c hc => h c (pcs_sub _ _ _ raw hr c hc)).1
  have e := congrArg (List.map S) key
  rw [List.map_map, List.map_map] at e
  unfold parse
  rw [List.map_map]
  exact e
theorem parse_in {y : Str} (h : ∀ c ∈ y.cps.toList, c ∈ A3) : ∀ p ∈ parse y, ∀ c ∈ p.cps.toList, c ∈ A4 := by
  intro p hp
  obtain ⟨raw, hr, rfl⟩ := List.mem_map.mp hp
  exact (fmt_bare fun c hc => h c (pcs_sub _ _ _ raw hr c hc)).2
theorem ok_bares {y : Str} (h : ∀ c ∈ y.cps.toList, c ∈ A3) : Ok ((parse y).map B') := by
  intro x hx c hc
  obtain ⟨p, hp, rfl⟩ := List.mem_map.mp hx
  exact f4 c (parse_in h p hp c (List.mem_filter.mp hc).1)
def sl (p : Str) : Str := Txt.slice p none (some 1) ++ Txt.slice p (some (-1)) none
theorem nil_of_len {z : Str} (h : z.length ≤ 0) : z.cps.toList = [] := by
  have e : z.cps.toList.length = z.length := by simp [Str.length]
  exact List.eq_nil_of_length_eq_zero (by omega)
theorem fmt_strip (raw : List Nat) : ∃ Y, fmt raw = Txt.strip Y := by unfold fmt; split <;> exact ⟨_, rfl⟩
theorem plain2 {y : Str} (h : ∀ c ∈ y.cps.toList, c ∈ A3) : ∀ p ∈ parse y, sl p = B' (sl p) := by
  intro p hp
  have hin := parse_in h p hp
  obtain ⟨raw, hr, rfl⟩ := List.mem_map.mp hp
  obtain ⟨Y, hY⟩ := fmt_strip raw
  have he := strip_ends Y
  rw [← hY] at he
  generalize fmt raw = p at he hin
  have hn : p.cps.toList.length = p.length := by simp [Str.length]
  have key : ∀ c ∈ (sl p).cps.toList, Txt.contains BL ⟨#[c]⟩ = false := by
    unfold sl
    rw [PySem.Str.cps_append, Array.toList_append]
    rcases he with he | ⟨a, b, m, ha, hb, h1, h2⟩
    · have h0 : p.length = 0 := by rw [← hn, he]; rfl
      have e1 := Txt.slice_le p none (some 1)
      have e2 := Txt.slice_le p (some (-1)) none
      rw [nil_of_len (by omega : (Txt.slice p none (some 1)).length ≤ 0), nil_of_len (by omega : (Txt.slice p (some (-1)) none).length ≤ 0)]
      simp
    · have hl : m.length + 1 = p.cps.toList.length := by rw [hb]; simp
      have e1 : Txt.slice p none (some 1) = S [a] := by
        refine (StrLaws.sliceText_to (x := p) ⟨by omega, by omega⟩).trans ?_
        congr 2
        generalize p.cps.toList = L at ha
        cases L with
        | nil => cases ha
        | cons d r => cases ha; rfl
      have e2 : Txt.slice p (some (-1)) none = S [b] := by
        refine (StrLaws.sliceText_from_neg (x := p) (by omega) (by omega)).trans ?_
        have e3 : ((-1 : Int) + (p.length : Int)).toNat = m.length := by omega
        rw [e3, List.take_of_length_le (by rw [List.length_drop]; omega), hb]
        simp
      rw [e1, e2]
      intro c hc
      rcases (show c = a ∨ c = b by simpa using hc) with rfl | rfl
      · rw [← f1 c (hin c (List.mem_of_mem_head? ha))]; exact h1
      · rw [← f1 c (hin c (by rw [hb]; simp))]; exact h2
  unfold B'
  rw [bare_none key]
theorem rev_ok {x : Str} (h : ∀ c ∈ x.cps.toList, c ∈ A3) (hl : x.length ≤ 63) {k : Tok} : ∀ v ∈ [x, Txt.sliceBy x none none ((-1 : Int), k)], (∀ c ∈ v.cps.toList, c ∈ A3) ∧ v.length ≤ 63 := by
  intro v hv
  rcases List.mem_cons.mp hv with rfl | hv
  · exact ⟨h, hl⟩
  · rw [List.mem_singleton.mp hv]
    refine ⟨fun c hc => ?_, by rw [step_rev_len]; exact hl⟩
    rw [step_rev_list] at hc
    obtain ⟨i, hi, rfl⟩ := List.mem_map.mp hc
    have hi' := List.mem_range.mp hi
    have hn : x.cps.toList.length = x.length := by simp [Str.length]
    rw [← getD_list, List.getD_eq_getElem?_getD, List.getElem?_eq_getElem (by omega)]
    exact h _ (List.getElem_mem _)
end Mine

end
section
open PySem PySem.W PySem.Calls PyProof.Rows PySem.Builtin PySem.Builtin.Str
namespace Mine
local macro_rules | `(tactic| walk_at "call builtin:str.find") => `(tactic| (k_here; refine find3_c ?_; intro _ _))
local macro_rules | `(tactic| walk_at "call builtin:str.find") => `(tactic| (k_here; refine find4_c ?_; intro _ _))
local macro_rules | `(tactic| walk_at "call builtin:str.count") => `(tactic| (k_here; refine count4_c ?_; intro _ _))
local macro_rules | `(tactic| walk_at "binaryOp Add str str") => `(tactic| (k_here; k_dflt (refine add_c (by omega) ?_); intro _ _ _))
local macro_rules | `(tactic| walk_at "call builtin:str.strip") => `(tactic| (k_here; k_dflt (refine strip_c (by omega) ?_); intro _ _ _))
local macro_rules | `(tactic| walk_at "call builtin:str.rstrip") => `(tactic| (k_here; k_dflt (refine rstrip_c (by omega) ?_); intro _ _ _))
local macro_rules | `(tactic| walk_at "call builtin:str.lstrip") => `(tactic| (k_here; k_dflt (refine lstrip_c (by omega) ?_); intro _ _ _))
local macro_rules | `(tactic| walk_at "call builtin:str.lower") => `(tactic| (k_here; k_dflt (refine lower_c (by omega) ?_); intro _ _ _))
local macro_rules | `(tactic| walk_at "call builtin:list.append") => `(tactic| (k_here; k_dflt (refine' append_c ?k1 ?k2 ?k3 ?z ?_; (case k1 => k_asm); (case k2 => k_asm); (case k3 => k_upd); (case z => omega); k_whole); intro h' F' N'; (try k_sweep)))
local macro_rules | `(tactic| walk_at "WPost") => `(tactic| dsimp only [WPost])
local macro_rules | `(tactic| walk_at "FPost") => `(tactic| dsimp only [FPost])
local macro_rules | `(tactic| k_upd) => `(tactic| first | exact updHere (by assumption) | exact updOff (by assumption) | (refine' Upd.tail ?a ?b; (case a => k_ne); (case b => k_upd)))
local macro_rules | `(tactic| walk_at "storeName") => `(tactic| (k_here; k_dflt (refine st_int (by with_reducible assumption) (by with_reducible assumption) ?_); intro h' t' _ F' N'; (try k_sweep)))
local macro_rules | `(tactic| walk_at "storeName") => `(tactic| (k_here; k_dflt (refine st_str (by with_reducible assumption) (by with_reducible assumption) ?_); intro h' t' _ F' N'; (try k_sweep)))
local macro_rules | `(tactic| walk_at "exec While Compare cons nil") => `(tactic| refine Stop.out ?_)
local macro_rules | `(tactic| walk_at "pyIter ref") => `(tactic| refine Stop.out ?_)
local macro_rules | `(tactic| walk_at "exec For Name Name cons nil") => `(tactic| (k_here; (rename Fr _ _ _ _ => lF'); (with_unfolding_all refine' For_invVF lF' ?k1 ?k2 ?_; (case k1 => exact rfl); (case k2 => exact rfl); k_whole)))
local macro_rules | `(tactic| walk_at "call ref") => `(tactic| (k_here; k_dflt (refine' text_c ?b1 ?b2 ?b3 ?b4 ?b5 ?b6 ?b7 ?b8 ?e0 ?e1 ?e2 ?_; (case b1 => k_asm); (case b2 => k_asm); (case b3 => k_asm); (case b4 => k_asm); (case b5 => k_asm); (case b6 => first | exact rfl | assumption); (case b7 => ktr_room); (case b8 => ktr_units); (case e0 => assumption); (case e1 => assumption); (case e2 => omega); k_whole); intro x t' h' tk' hxA hxl F' N'; (try dsimp only)))
local macro_rules | `(tactic| walk_at "call ref") => `(tactic| (k_here; k_dflt (refine' parse_c ?b1 ?b2 ?b3 ?b4 ?b5 ?b6 ?b7 ?b8 ?e0 ?_; (case b1 => k_asm); (case b2 => k_asm); (case b3 => k_asm); (case b4 => k_asm); (case b5 => k_asm); (case b6 => first | exact rfl | assumption); (case b7 => ktr_room); (case b8 => ktr_units); (case e0 => omega); k_whole); intro r' vs' n' h' tk' F' N' l1 hst hln; (try k_lt l1); (try dsimp only)))
local macro_rules | `(tactic| walk_at "call ref") => `(tactic| (k_here; k_dflt (refine' heads_c ?b1 ?b2 ?b3 ?b4 ?b5 ?b6 ?b7 ?b8 ?e0 ?_; (case b1 => k_asm); (case b2 => k_asm); (case b3 => k_asm); (case b4 => k_asm); (case b5 => k_asm); (case b6 => first | exact rfl | assumption); (case b7 => ktr_room); (case b8 => ktr_units); (case e0 => omega); k_whole); intro r' vs' n' h' tk' F' N' l1 hst hln; (try k_lt l1); (try dsimp only)))
local macro_rules | `(tactic| walk_at "call ref") => `(tactic| (k_here; k_dflt (refine' groups_c ?b1 ?b2 ?b3 ?b4 ?b5 ?b6 ?b7 ?b8 ?e0 ?e1 ?e2 ?e3 ?_; (case b1 => k_asm); (case b2 => k_asm); (case b3 => k_asm); (case b4 => k_asm); (case b5 => k_asm); (case b6 => first | exact rfl | assumption); (case b7 => ktr_room); (case b8 => ktr_units); (case e0 => k_mem); (case e1 => assumption); (case e2 => omega); (case e3 => omega); k_whole); intro r' vs' n' h' tk' F' N' l1 hst hln; (try k_lt l1); (try dsimp only)))
local macro_rules | `(tactic| walk_at "call ref") => `(tactic| (k_here; k_dflt (refine' bare_c ?b1 ?b2 ?b3 ?b4 ?b5 ?b6 ?b7 ?b8 ?e0 ?_; (case b1 => k_asm); (case b2 => k_asm); (case b3 => k_asm); (case b4 => k_asm); (case b5 => k_asm); (case b6 => first | exact rfl | assumption); (case b7 => ktr_room); (case b8 => ktr_units); (case e0 => omega); k_whole); intro t' h' tk' F' N'; (try dsimp only)))
local macro_rules | `(tactic| walk_at "exec For Name List cons nil") => `(tactic| (k_here; (rename Fr _ _ _ _ => lF'); (with_unfolding_all refine' For_invVF lF' ?k1 ?k2 ?_; (case k1 => exact rfl); (case k2 => exact rfl); k_whole)))
local macro_rules | `(tactic| walk_at "eval ListComp") => `(tactic| refine Stop.out ?_)
local macro_rules | `(tactic| walk_at "exec Assign cons ListComp") => `(tactic| (k_here; k_dflt (refine LCg.Assign_ListComp_U (F₀ := by k_asm) (by rfl) (by with_unfolding_all rfl) (by with_unfolding_all rfl) (by decide) (by rfl) (by decide) (by rfl) (by rfl) (by rfl) ?_)))
local macro_rules | `(tactic| walk_at "CompSrc") => `(tactic| refine Stop.out ?_)
local macro_rules | `(tactic| walk_at "CompSrcT") => `(tactic| refine Stop.out ?_)
local macro_rules | `(tactic| walk_at "CompSrc ref") => `(tactic| refine Stop.out ?_)
local macro_rules | `(tactic| walk_at "CompSrcT ref") => `(tactic| refine Stop.out ?_)
local macro_rules | `(tactic| walk_at "compareOp Eq ref ref") => `(tactic| refine Stop.out ?_)
theorem strs_get {vs : List Value} {ns : List Str} (h : StrsAre vs ns) {i : Nat} {v : Value} (hv : vs[i]? = some v) : ∃ p t, v = .str p t ∧ ns[i]? = some p := by
  have hl := StrsAre.len_eq h
  have hi := (List.getElem?_eq_some_iff.mp hv).1
  obtain ⟨t, ht⟩ := StrsAre.at h (j := i) (y := ns[i]'(by omega)) (by simp)
  rw [hv] at ht
  cases ht
  exact ⟨_, t, rfl, by simp⟩
theorem take_snoc {ns : List Str} {i : Nat} {p : Str} (f : Str → Str) (h : ns[i]? = some p) : (ns.take (i + 1)).map f = (ns.take i).map f ++ [f p] := by
  rw [List.take_add_one, h]; simp
theorem take_keep {ns : List Str} {i : Nat} {p : Str} (f : Str → Bool) (h : ns[i]? = some p) : (ns.take (i + 1)).filter f = (ns.take i).filter f ++ (if f p then [p] else []) := by
  rw [List.take_add_one, h, List.filter_append]; congr 1
  by_cases hf : f p = true <;> simp [hf]
theorem sl_len (p : Str) : (sl p).length ≤ 2 * p.length := by
  have hs1 := Txt.slice_le p none (some 1)
  have hs2 := Txt.slice_le p (some (-1)) none
  unfold sl
  rw [Str.length_append]
  omega
set_option maxRecDepth 100000 in
set_option maxHeartbeats 4000000 in
theorem X : PySem.Challenge.rw_at0001_03.Holds := hd (by
  k_go0
  (all_goals try k_fold)
  k_steps
  refine ⟨?_⟩
  rename Fr _ _ _ _ => F1
  rename News _ _ _ _ => N1
  rename (∀ c ∈ _, c ∈ A3) => hxA
  rename (_ ≤ 63) => hxl
  have hrev : ∀ k : Tok, _ := fun k => rev_ok (k := k) hxA hxl

  refine' my_for (σ := Bool) (fun _ => []) [] (fun c => [(Str.ofString "good", .bool c)]) (fun i c => c = true) true rfl (isList_of N1 (.head _)) (N1 _ (.head _)).2.1 (fun _ p hp => nomatch hp) F1 (cb_drop N1 (fun p hp => nomatch hp)) ?k1 rfl ?turn ?done rfl
  case k1 => kst_all
  case turn =>
    clear F1 N1
    rintro i v c u h tk own hv hP hoff F1 N1
    subst hP
    clear hoff
    try dsimp only at F1 N1
    simp only [List.nil_append, List.cons_append] at N1
    have hyy : ∃ y ty, v = .str y ty ∧ (∀ c ∈ y.cps.toList, c ∈ A3) ∧ y.length ≤ 63 := by
      match i, hv with
      | 0, hv => cases hv; exact ⟨_, _, rfl, hrev 0 _ (.head _)⟩
      | 1, hv => cases hv; exact ⟨_, _, rfl, hrev _ _ (.tail _ (.head _))⟩
    obtain ⟨y, ty, rfl, hyA, hyl⟩ := hyy
    have hhs := heads_sum y
    have hhl := heads_len y
    have hpl := fun p (hp : p ∈ parse y) => parse_len hp
    have hgl := fun p (hp : p ∈ groupsF [] (heads y)) => groups_len hp
    (try k_fold)
    k_steps
    refine ⟨?_⟩
    rename Fr _ _ _ _ => F2
    rename News _ _ _ _ => N2
    rename StrsAre _ (parse y) => hsp
    rename StrsAre _ (groupsF [] (heads y)) => hsg
    have hsph : Hd (StrsAre _ (parse y)) := ⟨hsp⟩
    have hsgh : Hd (StrsAre _ (groupsF [] (heads y))) := ⟨hsg⟩
    have hlp := StrsAre.len_eq hsp
    have hlg := StrsAre.len_eq hsg
    clear hsp hsg
    refine LCg.CompSrc.ledger rfl F2 N2 (.tail _ (.tail _ (.head _))) (by rw [sizeLine_eq, List.size_toArray]; omega) (fun g => my_rest (fun i ys => StrsAre ys (((parse y).take i).map sl)) (.inr ⟨_, .tail _ (.tail _ (.head _)), rfl, _, rfl⟩) .nil ?t1 ?f1)
    case t1 =>
      clear F2 N2
      rintro i v ys I oI C oC D m₂ h tk E' hi hv hJ hl hC hxv F3 N3 off ne
      have hzz := strs_get hsph.out (by simpa using hv)
      obtain ⟨p, tp, rfl, hp⟩ := hzz
      have hpl' := hpl p (List.mem_of_getElem? hp)
      have hs1 := Txt.slice_le p none (some 1)
      have hs2 := Txt.slice_le p (some (-1)) none
      (try k_fold)
      k_steps
      refine ⟨?_, _, _, _, rfl, by assumption, by assumption, fun p hp => hp⟩
      rw [take_snoc sl hp]
      exact StrsAre.append' hJ (.cons _ _ .nil)
    case f1 =>
      intro ys hJ hlen
      rw [List.size_toArray, hlp, List.take_length] at hJ
      have hJh : Hd (StrsAre ys (List.map sl (parse y))) := ⟨hJ⟩
      clear hJ
      k_steps
      refine ⟨?_⟩
      refine LCg.ListComp_U (F₀ := by k_asm) (by with_unfolding_all rfl) (by decide) (by rfl) (by decide) (by rfl) ?_
      k_steps
      refine ⟨?_⟩
      rename Fr _ _ _ _ => F2
      rename News _ _ _ _ => N2
      refine LCg.CompSrc.ledger rfl F2 N2 (.tail _ (.tail _ (.tail _ (.head _)))) (by rw [sizeLine_eq, List.size_toArray]; omega) (fun g => my_rest (fun i ys => StrsAre ys (((parse y).take i).map B')) (.inr ⟨_, .tail _ (.tail _ (.tail _ (.head _))), rfl, _, rfl⟩) .nil ?t2 ?f2)
      case t2 =>
        clear F2 N2
        rintro i v ys' I oI C oC D m₂ h tk E' hi hv hJ hl hC hxv F3 N3 off ne
        have hzz := strs_get hsph.out (by simpa using hv)
        obtain ⟨p, tp, rfl, hp⟩ := hzz
        have hpl' := hpl p (List.mem_of_getElem? hp)
        (try k_fold)
        k_steps
        refine ⟨?_, _, _, _, rfl, by assumption, by assumption, fun p hp => hp⟩
        rw [take_snoc B' hp]
        exact StrsAre.append' hJ (.cons _ _ .nil)
      case f2 =>
        intro ys2 hJ2 hlen2
        rw [List.size_toArray, hlp, List.take_length] at hJ2
        have hJ2h : Hd (StrsAre ys2 (List.map B' (parse y))) := ⟨hJ2⟩
        clear hJ2
        k_steps
        refine ⟨?_⟩
        refine LCg.ListComp_U (F₀ := by k_asm) (by with_unfolding_all rfl) (by decide) (by rfl) (by decide) (by rfl) ?_
        k_steps
        refine ⟨?_⟩
        rename Fr _ _ _ _ => F2
        rename News _ _ _ _ => N2
        refine LCg.CompSrc.ledger rfl F2 N2 (.tail _ (.tail _ (.head _))) (by rw [sizeLine_eq, List.size_toArray]; omega) (fun g => my_rest (fun i ys => StrsAre ys (((groupsF [] (heads y)).take i).map B')) (.inr ⟨_, .tail _ (.tail _ (.head _)), rfl, _, rfl⟩) .nil ?t3 ?f3)
        case t3 =>
          clear F2 N2
          rintro i v ys' I oI C oC D m₂ h tk E' hi hv hJ hl hC hxv F3 N3 off ne
          have hzz := strs_get hsgh.out (by simpa using hv)
          obtain ⟨p, tp, rfl, hp⟩ := hzz
          have hpl' := hgl p (List.mem_of_getElem? hp)
          (try k_fold)
          k_steps
          refine ⟨?_, _, _, _, rfl, by assumption, by assumption, fun p hp => hp⟩
          rw [take_snoc B' hp]
          exact StrsAre.append' hJ (.cons _ _ .nil)
        case f3 =>
          intro ys3 hJ3 hlen3
          rw [List.size_toArray, hlg, List.take_length] at hJ3
          have hJ3h : Hd (StrsAre ys3 (List.map B' (groupsF [] (heads y)))) := ⟨hJ3⟩
          clear hJ3
          k_steps
          refine ⟨?_⟩
          rename News _ _ _ _ => N2
          have hok2 : Ok ((groupsF [] (heads y)).map B') := plain1 hyA ▸ ok_bares hyA
          refine eq_strsT N2 (.tail _ (.head _)) (.head _) hJ2h.out hJ3h.out (ok_bares hyA) hok2 ?u1 (plain1 hyA) ?_
          case u1 => first | ktr_units | decide
          k_steps
          refine ⟨?_⟩
          refine LCt.ListComp_T (F₀ := by k_asm) (by with_unfolding_all rfl) (by decide) (by rfl) (by decide) (by rfl) ?_
          k_steps
          refine ⟨?_⟩
          rename Fr _ _ _ _ => F2
          rename News _ _ _ _ => N2
          have hle := StrsAre.len_eq hJh.out
          rw [List.length_map] at hle
          refine LCt.CompSrcT.ledger rfl F2 N2 (.tail _ (.tail _ (.head _))) (by rw [sizeLine_eq, List.size_toArray]; omega) (fun g => my_restT (fun i ys => ys = []) (.inr ⟨_, .tail _ (.tail _ (.head _)), rfl, _, rfl⟩) rfl ?t4 ?f4)
          case t4 =>
            clear F2 N2
            rintro i v ys' I oI C oC D m₂ h tk E' hi hv hJ hl hC hxv F3 N3 off ne
            subst hJ
            have hzz := strs_get hJh.out (by simpa using hv)
            obtain ⟨e, te, rfl, he⟩ := hzz
            have hzz := List.mem_map.mp (List.mem_of_getElem? he)
            obtain ⟨p, hp, rfl⟩ := hzz
            have hpl' := hpl p hp
            have hs0 := sl_len p
            have hbad := plain2 hyA p hp
            (try k_fold)
            k_steps
            · rename ((sl p != _) = true) => hne
              rw [show S (bare (sl p).cps.toList) = sl p from hbad.symm] at hne
              exact absurd hne (by simp)
            · exact ⟨rfl, _, _, _, rfl, by assumption, by assumption, fun p hp => hp⟩
          case f4 =>
            intro ys4 hJ4 hlen4
            subst hJ4
            k_steps
            refine ⟨?_⟩
            rename News _ _ _ _ => N2
            refine eq_strsT N2 (.tail _ (.head _)) (.head _) .nil .nil (fun x hx => nomatch hx) (fun x hx => nomatch hx) ?u1 rfl ?_
            case u1 => first | ktr_units | decide
            k_steps
            refine ⟨true, _, _, _, _, rfl, by assumption, by assumption, fun p hp => ?_, ?kk, rfl⟩
            · repeat' apply List.Mem.tail
              exact hp
            case kk => kst_all
  case done =>
    rintro c u h tk hP F1 N1
    subst hP
    (try dsimp only at F1 N1)
    (try k_fold)
    k_steps
    all_goals wrow_close)
end Mine

end
theorem PySem.Challenge.cw_at0001_03_holds : PySem.Challenge.rw_at0001_03.Holds := by
  exact Mine.X
