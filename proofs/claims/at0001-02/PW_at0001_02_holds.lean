import PyProof.Rows.All
import Wide.All
import OpenK.AllK
import Wide.FinOn
import PySem.Challenge.RW_at0001_02
open PySem PySem.W PySem.Calls PyProof.Rows PySem.Builtin PySem.Builtin.Str
set_option Elab.async false
section
open PySem PySem.W PyProof.Rows
namespace Mine
set_option maxRecDepth 100000 in
set_option maxHeartbeats 8000000 in
open_top hd for PySem.Challenge.rw_at0001_02
end Mine
end
section
open PySem PySem.W PySem.Calls PyProof.Rows PySem.Builtin PySem.Builtin.Str
namespace Mine
/-- quotes that no backslash stands at once ahead of; e: a backslash stands ahead of the first sign -/
def qs : Bool → List Nat → Nat
  | _, [] => 0
  | e, c :: r => (if c = 34 ∧ e = false then 1 else 0) + qs (c == 92) r
def seg (l : List Nat) (a p : Nat) : List Nat := (l.drop a).take (p - a)
def D (l : List Nat) (a p : Nat) : Nat := qs false (seg l a p)
def pcs : Bool → Bool → List Nat → List (List Nat)
  | _, _, [] => [[]]
  | o, e, c :: r => if c = 59 ∧ o = false then [] :: pcs false false r else
      match pcs (o != (c == 34 && !e)) (c == 92) r with
      | p :: ps => (c :: p) :: ps
      | [] => []
abbrev lt (y : Str) : List Nat := y.cps.toList
abbrev F1 (y : Str) (q : Int) : Int := Txt.find3 y (Str.ofString ";") q
def PA (y : Str) (a : Nat) (e i d : Int) : Prop := ∃ q lo : Nat, i = lo ∧ a ≤ lo ∧ (lo = a ∧ q = a ∨ (q = lo + 1 ∧ (lt y)[lo]? = some 59)) ∧ q ≤ (lt y).length ∧ e = F1 y q ∧ d = (D (lt y) a lo : Int) ∧ ∀ p, a ≤ p → p < q → (lt y)[p]? = some 59 → D (lt y) a p % 2 = 1
def PB (y : Str) (a : Nat) (e i d : Int) : Prop := ∃ lo k : Nat, e = lo ∧ a ≤ lo ∧ lo < k ∧ (lt y)[k]? = some 59 ∧ F1 y (lo + 1) = k ∧ i = F1 y (k + 1) ∧ d = (D (lt y) a k : Int) ∧ D (lt y) a k % 2 = 1 ∧ ∀ p, a ≤ p → p ≤ k → (lt y)[p]? = some 59 → D (lt y) a p % 2 = 1
def PI (y : Str) (a : Nat) (b : Bool) (e i d : Int) : Prop := if b then PB y a e i d else PA y a e i d
def Cut (l : List Nat) (a k : Nat) : Prop := a ≤ k ∧ k ≤ l.length ∧ (k < l.length → l[k]? = some 59 ∧ D l a k % 2 = 0) ∧ ∀ p, a ≤ p → p < k → l[p]? = some 59 → D l a p % 2 = 1
abbrev S (l : List Nat) : Str := ⟨l.toArray⟩
def fmt (raw : List Nat) : Str :=
  if 61 ∈ raw then Txt.strip (Txt.lower (Txt.rstrip (S (raw.takeWhile (· != 61)))) ++ Str.ofString "=" ++ Txt.lstrip (S (raw.dropWhile (· != 61)).tail)) else Txt.strip (S raw)
def parse (x : Str) : List Str := (pcs false false x.cps.toList).map fmt
def restP (l : List Nat) (k : Nat) : List Str := if k < l.length then (pcs false false (l.drop (k + 1))).map fmt else []
def endIdx (len : Nat) (i : Int) : Nat := min (max 0 (if i < 0 then i + len else i)).toNat len
def find4 (x y : Str) (i j : Int) : Int := match occurrences x y (fromIndex x.length i) (endIdx x.length j) 1 with | k :: _ => (k : Int) | [] => -1
def count4 (x y : Str) (i j : Int) : Int := (occurrences x y (fromIndex x.length i) (endIdx x.length j) (x.length + 1)).length

/- find -/
theorem fromIndex_nat (n q : Nat) : fromIndex n (q : Int) = q := by unfold fromIndex; omega
theorem endIdx_nat {n q : Nat} (h : q ≤ n) : endIdx n (q : Int) = q := by unfold endIdx; omega
theorem len_lt (y : Str) : (lt y).length = y.length := by simp [Str.length]

theorem F1_spec (y : Str) (q : Nat) : (F1 y q = -1 ∧ ∀ p, q ≤ p → (lt y)[p]? ≠ some 59) ∨ ∃ k : Nat, F1 y q = k ∧ q ≤ k ∧ (lt y)[k]? = some 59 ∧ ∀ p, q ≤ p → p < k → (lt y)[p]? ≠ some 59 := by
  have e : Str.ofString ";" = ⟨#[59]⟩ := by decide +kernel
  unfold F1 Txt.find3
  rw [e, fromIndex_nat]
  rcases StrLaws.occ_head_from y ⟨#[59]⟩ q 1 (Nat.le_refl 1) with ⟨h0, hn⟩ | ⟨k, r, h0, hlo, hk, hn⟩
  · rw [h0]
    exact .inl ⟨rfl, fun v h1 h2 => hn v h1 ((StrLaws.subAt_one y 59 v).mpr h2)⟩
  · rw [h0]
    exact .inr ⟨k, rfl, hlo, (StrLaws.subAt_one y 59 k).mp hk, fun v h1 h2 he => hn v h1 h2 ((StrLaws.subAt_one y 59 v).mpr he)⟩

theorem lt_of_get {l : List Nat} {k c : Nat} (h : l[k]? = some c) : k < l.length := by
  rcases Nat.lt_or_ge k l.length with h1 | h1
  · exact h1
  · rw [List.getElem?_eq_none h1] at h; cases h

/- the pieces -/
theorem qs_append : ∀ (u v : List Nat) (e : Bool), qs e (u ++ v) = qs e u + qs (match u.getLast? with | some c => c == 92 | none => e) v
  | [], v, e => by simp [qs]
  | c :: u, v, e => by
    have ih := qs_append u v (c == 92)
    rw [List.cons_append, qs, ih, qs, List.getLast?_cons]
    cases u.getLast? with
    | none => simp only [Option.getD_none]; omega
    | some d => simp only [Option.getD_some]; omega
theorem qs_semi (e : Bool) (r : List Nat) : qs e (59 :: r) = qs false (59 :: r) := by simp [qs]
theorem seg_split {l : List Nat} {a k p : Nat} (h1 : a ≤ k) (h2 : k ≤ p) : seg l a p = seg l a k ++ seg l k p := by
  unfold seg
  have e1 : p - a = (k - a) + (p - k) := by omega
  rw [e1, List.take_add, List.drop_drop]
  congr 3
  omega
theorem seg_at {l : List Nat} {k p c : Nat} (h : l[k]? = some c) (hp : k < p) : seg l k p = c :: seg l (k + 1) p := by
  unfold seg
  have hk := lt_of_get h
  have hc : l[k] = c := by rw [List.getElem?_eq_getElem hk] at h; exact Option.some.inj h
  rw [List.drop_eq_getElem_cons hk, hc]
  have e : p - k = (p - (k + 1)) + 1 := by omega
  rw [e, List.take_succ_cons]
theorem seg_nil (l : List Nat) (k : Nat) : seg l k k = [] := by unfold seg; simp
theorem D_split {l : List Nat} {a k p : Nat} (h1 : a ≤ k) (h2 : k ≤ p) (hk : k = a ∨ l[k]? = some 59) : D l a p = D l a k + qs false (seg l k p) := by
  unfold D
  rcases hk with rfl | hk
  · rw [seg_nil]; simp [qs]
  · rw [seg_split h1 h2, qs_append]
    rcases Nat.lt_or_ge k p with h | h
    · rw [seg_at hk h, qs_semi]
    · have : p = k := by omega
      subst this
      rw [seg_nil]; simp [qs]

theorem pcs_ne : ∀ (l : List Nat) (o e : Bool), pcs o e l ≠ []
  | [], _, _ => by simp [pcs]
  | c :: r, o, e => by
    rw [pcs]
    split
    · simp
    · have := pcs_ne r (o != (c == 34 && !e)) (c == 92)
      split
      · simp
      · rename_i h; exact absurd h this
/-- how the pieces begin: o: an odd number of quotes stands ahead, e: a backslash -/
theorem pcs_cut : ∀ (l : List Nat) (o e : Bool) (k : Nat), k ≤ l.length → (k < l.length → l[k]? = some 59 ∧ (o.toNat + qs e (l.take k)) % 2 = 0) →
    (∀ p, p < k → l[p]? = some 59 → (o.toNat + qs e (l.take p)) % 2 = 1) → pcs o e l = l.take k :: if k < l.length then pcs false false (l.drop (k + 1)) else []
  | [], o, e, k, hk, _, _ => by
    have : k = 0 := by simpa using hk
    subst this
    simp [pcs]
  | c :: r, o, e, 0, _, h1, _ => by
    obtain ⟨h2, h3⟩ := h1 (by simp)
    have hc : c = 59 := by simpa using h2
    have ho : o = false := by cases o <;> simp [qs] at h3 ⊢
    subst hc ho
    simp [pcs]
  | c :: r, o, e, k + 1, hk, h1, h2 => by
    have hn : ¬ (c = 59 ∧ o = false) := by
      rintro ⟨rfl, rfl⟩
      have := h2 0 (by omega) (by simp)
      simp [qs] at this
    have key : ∀ q : List Nat, ((o != (c == 34 && !e)).toNat + qs (c == 92) q) % 2 = (o.toNat + qs e (c :: q)) % 2 := by
      intro q
      rw [qs]
      by_cases hc : c = 34
      · subst hc
        cases e <;> cases o <;> simp <;> omega
      · have h9 : (c == 34) = false := by simp [hc]
        simp [hc, h9]
    have ih := pcs_cut r (o != (c == 34 && !e)) (c == 92) k (by simpa using hk) (fun h => by
      obtain ⟨h3, h4⟩ := h1 (by simpa using h)
      refine ⟨by simpa using h3, ?_⟩
      rw [key]; simpa using h4) (fun p hp hc => by
      have := h2 (p + 1) (by omega) (by simpa using hc)
      rw [key]; simpa using this)
    rw [pcs, if_neg hn, ih]
    simp

theorem cut_rest {l : List Nat} {a k : Nat} (ha : a ≤ l.length) (h : Cut l a k) : (pcs false false (l.drop a)).map fmt = fmt (seg l a k) :: restP l k := by
  obtain ⟨h1, h2, h3, h4⟩ := h
  have := pcs_cut (l.drop a) false false (k - a) (by simp; omega) (fun hlt => by
      have hk : k < l.length := by simp at hlt; omega
      obtain ⟨h5, h6⟩ := h3 hk
      refine ⟨by rw [List.getElem?_drop]; rw [← h5]; congr 1; omega, by simpa [D, seg] using h6⟩) (fun p hp hc => by
      have h7 := h4 (a + p) (by omega) (by omega) (by rw [List.getElem?_drop] at hc; exact hc)
      simpa [D, seg] using h7)
  rw [this]
  unfold restP
  have e : (List.drop a l).length = l.length - a := by simp
  by_cases hk : k < l.length
  · rw [if_pos hk, if_pos (by omega), List.drop_drop]
    have : a + (k - a + 1) = k + 1 := by omega
    rw [this]; rfl
  · rw [if_neg hk, if_neg (by omega)]; rfl

/- counts -/
def Occ (s sub : Str) (hi i : Nat) : Bool := decide (i + sub.length ≤ hi) && subAt s sub i
theorem occ_filter (s sub : Str) (hi limit : Nat) :
    ∀ (n a : Nat) (st : Array Nat × Nat), (∀ i j, a ≤ i → i < j → j < i + sub.length → Occ s sub hi i = true → Occ s sub hi j = false) → st.1.size + n ≤ limit → (∀ j, a ≤ j → Occ s sub hi j = true → st.2 ≤ j) →
      (forIn (List.range' a n) st (StrLaws.occBody s sub hi limit)).run.fst.toList = st.1.toList ++ (List.range' a n).filter (Occ s sub hi)
  | 0, a, st, _, _, _ => by simp [pure, Id.run]
  | n + 1, a, st, hno, hs, hf => by
    rw [List.range'_succ, List.forIn_cons]
    unfold StrLaws.occBody
    by_cases hc : Occ s sub hi a = true
    · have hc' := hc
      unfold Occ at hc'
      rw [Bool.and_eq_true, decide_eq_true_eq] at hc'
      rw [if_pos ⟨⟨⟨by omega, hf a (Nat.le_refl _) hc⟩, hc'.1⟩, hc'.2⟩]
      have ih := occ_filter s sub hi limit n (a + 1) (st.1.push a, a + sub.length) (fun i j h => hno i j (by omega)) (by simp; omega) (fun j hj hoj => by
        rcases Nat.lt_or_ge j (a + sub.length) with h | h
        · have := hno a j (Nat.le_refl _) (by omega) h hc
          rw [hoj] at this; cases this
        · exact h)
      simp only [pure_bind]
      refine ih.trans ?_
      rw [List.filter_cons_of_pos hc]
      simp
    · have hc2 : ¬ (((st.1.size < limit ∧ st.2 ≤ a) ∧ a + sub.length ≤ hi) ∧ subAt s sub a = true) := fun h => hc (by
        unfold Occ; rw [Bool.and_eq_true, decide_eq_true_eq]; exact ⟨h.1.2, h.2⟩)
      rw [if_neg hc2]
      have ih := occ_filter s sub hi limit n (a + 1) st (fun i j h => hno i j (by omega)) (by omega) (fun j hj hoj => hf j (by omega) hoj)
      simp only [pure_bind]
      refine ih.trans ?_
      rw [List.filter_cons_of_neg hc]

theorem occ_count (y sub : Str) {a b : Nat} (hab : a ≤ b) (hb : b ≤ y.length) (hno : ∀ i j, i < j → j < i + sub.length → Occ y sub b i = true → Occ y sub b j = false) :
    count4 y sub a b = ((List.range' a (b + 1 - a)).filter (Occ y sub b)).length := by
  unfold count4
  rw [fromIndex_nat, endIdx_nat hb, StrLaws.occ_eq, occ_filter y sub b (y.length + 1) (b + 1 - a) a (#[], a) (fun i j _ => hno i j) (by simp; omega) (fun j h _ => h)]
  simp
theorem occ_count0 (y sub : Str) (i : Int) {b : Nat} (hb : b ≤ y.length) (hs : 1 ≤ sub.length) (h : b ≤ fromIndex y.length i) : count4 y sub i b = 0 := by
  have hO : ∀ p, fromIndex y.length i ≤ p → Occ y sub b p = false := by
    intro p hp
    unfold Occ
    have : ¬ (p + sub.length ≤ b) := by omega
    simp [this]
  unfold count4
  rw [endIdx_nat hb, StrLaws.occ_eq, occ_filter y sub b (y.length + 1) (b + 1 - fromIndex y.length i) (fromIndex y.length i) (#[], fromIndex y.length i) (fun p q hp _ _ h3 => by rw [hO p hp] at h3; cases h3) (by simp; omega) (fun j h _ => h)]
  have : (List.range' (fromIndex y.length i) (b + 1 - fromIndex y.length i)).filter (Occ y sub b) = [] := by
    rw [List.filter_eq_nil_iff]
    intro p hp
    rw [hO p (List.mem_range'_1.mp hp).1]
    simp
  rw [this]; simp
def pairs : List Nat → Nat
  | c :: d :: r => (if c = 92 ∧ d = 34 then 1 else 0) + pairs (d :: r)
  | _ => 0
theorem qs_pairs : ∀ (l : List Nat) (e : Bool), qs e l + pairs l + (if e = true ∧ l.head? = some 34 then 1 else 0) = l.count 34
  | [], e => by simp [qs, pairs]
  | [c], e => by by_cases h : c = 34 <;> cases e <;> simp [qs, pairs, h]
  | c :: d :: r, e => by
    have ih := qs_pairs (d :: r) (c == 92)
    rw [qs, pairs, List.count_cons]
    by_cases h1 : c = 34
    · subst h1
      cases e <;> simp at ih ⊢ <;> omega
    · by_cases h2 : c = 92
      · subst h2
        by_cases h3 : d = 34
        · subst h3; simp at ih ⊢; omega
        · simp [h3] at ih ⊢; omega
      · have : (c == 92) = false := by simp [h2]
        rw [this] at ih ⊢
        simp [h1, h2] at ih ⊢
        omega

theorem occ_at (y sub : Str) (b p : Nat) (hb : b ≤ y.length) : Occ y sub b p = true ↔ p + sub.length ≤ b ∧ ((lt y).drop p).take sub.length = lt sub := by
  unfold Occ
  rw [Bool.and_eq_true, decide_eq_true_eq, StrLaws.subAt_eq]
  simp
theorem occ1 (y : Str) (c b p : Nat) (hb : b ≤ y.length) : Occ y ⟨#[c]⟩ b p = true ↔ p < b ∧ (lt y)[p]? = some c := by
  rw [occ_at _ _ _ _ hb]
  show p + 1 ≤ b ∧ ((lt y).drop p).take 1 = [c] ↔ _
  constructor
  · rintro ⟨h1, h2⟩
    refine ⟨h1, ?_⟩
    have : (((lt y).drop p).take 1)[0]? = some c := by rw [h2]; rfl
    simpa using this
  · rintro ⟨h1, h2⟩
    refine ⟨h1, ?_⟩
    have hp := lt_of_get h2
    rw [List.drop_eq_getElem_cons hp]
    rw [List.getElem?_eq_getElem hp] at h2
    simp [Option.some.inj h2]
theorem occ2 (y : Str) (c d b p : Nat) (hb : b ≤ y.length) : Occ y ⟨#[c, d]⟩ b p = true ↔ p + 1 < b ∧ (lt y)[p]? = some c ∧ (lt y)[p + 1]? = some d := by
  rw [occ_at _ _ _ _ hb]
  show p + 2 ≤ b ∧ ((lt y).drop p).take 2 = [c, d] ↔ _
  constructor
  · rintro ⟨h1, h2⟩
    have h3 : (((lt y).drop p).take 2)[0]? = some c := by rw [h2]; rfl
    have h4 : (((lt y).drop p).take 2)[1]? = some d := by rw [h2]; rfl
    exact ⟨h1, by simpa using h3, by simpa using h4⟩
  · rintro ⟨h1, h2, h3⟩
    refine ⟨h1, ?_⟩
    have hp := lt_of_get h2
    have hq := lt_of_get h3
    rw [List.drop_eq_getElem_cons hp, List.drop_eq_getElem_cons hq]
    rw [List.getElem?_eq_getElem hp] at h2
    rw [List.getElem?_eq_getElem hq] at h3
    simp [Option.some.inj h2, Option.some.inj h3]
theorem seg_cons {l : List Nat} {a b : Nat} (h : a < b) (hb : b ≤ l.length) : ∃ c, l[a]? = some c ∧ seg l a b = c :: seg l (a + 1) b :=
  ⟨l[a], by simp, seg_at (by simp) h⟩
theorem cnt1 (y : Str) (c b : Nat) (hb : b ≤ y.length) : ∀ (n a : Nat), a + n = b → ((List.range' a (n + 1)).filter (Occ y ⟨#[c]⟩ b)).length = (seg (lt y) a b).count c
  | 0, a, h => by
    have : Occ y ⟨#[c]⟩ b a = false := by
      rw [← Bool.not_eq_true, occ1 _ _ _ _ hb]; omega
    simp at h
    subst h
    rw [seg_nil]
    simp [List.range'_succ, this]
  | n + 1, a, h => by
    rw [List.range'_succ]
    obtain ⟨d, hd, hs⟩ := seg_cons (l := lt y) (a := a) (b := b) (by omega) (by rw [len_lt]; exact hb)
    have ih := cnt1 y c b hb n (a + 1) (by omega)
    rw [hs, List.count_cons]
    by_cases hc : d = c
    · subst hc
      rw [List.filter_cons_of_pos ((occ1 _ _ _ _ hb).mpr ⟨by omega, hd⟩), List.length_cons, ih]
      simp
    · rw [List.filter_cons_of_neg (by rw [occ1 _ _ _ _ hb, hd]; simp [hc]), ih]
      simp [hc]
theorem cnt2 (y : Str) (b : Nat) (hb : b ≤ y.length) : ∀ (n a : Nat), a + n = b → ((List.range' a (n + 1)).filter (Occ y ⟨#[92, 34]⟩ b)).length = pairs (seg (lt y) a b)
  | 0, a, h => by
    have : Occ y ⟨#[92, 34]⟩ b a = false := by
      rw [← Bool.not_eq_true, occ2 _ _ _ _ _ hb]; omega
    simp at h
    subst h
    rw [seg_nil]
    simp [List.range'_succ, this, pairs]
  | 1, a, h => by
    have h1 : Occ y ⟨#[92, 34]⟩ b a = false := by
      rw [← Bool.not_eq_true, occ2 _ _ _ _ _ hb]; omega
    have h2 : Occ y ⟨#[92, 34]⟩ b (a + 1) = false := by
      rw [← Bool.not_eq_true, occ2 _ _ _ _ _ hb]; omega
    obtain ⟨d, hd, hs⟩ := seg_cons (l := lt y) (a := a) (b := b) (by omega) (by rw [len_lt]; exact hb)
    subst h
    rw [hs, seg_nil]
    simp [List.range'_succ, h1, h2, pairs]
  | n + 2, a, h => by
    rw [List.range'_succ]
    obtain ⟨d, hd, hs⟩ := seg_cons (l := lt y) (a := a) (b := b) (by omega) (by rw [len_lt]; exact hb)
    obtain ⟨d', hd', hs'⟩ := seg_cons (l := lt y) (a := a + 1) (b := b) (by omega) (by rw [len_lt]; exact hb)
    have ih := cnt2 y b hb (n + 1) (a + 1) (by omega)
    rw [hs, hs', pairs, ← hs']
    by_cases hc : d = 92 ∧ d' = 34
    · obtain ⟨rfl, rfl⟩ := hc
      rw [List.filter_cons_of_pos ((occ2 _ _ _ _ _ hb).mpr ⟨by omega, hd, hd'⟩), List.length_cons, ih]
      simp; omega
    · rw [List.filter_cons_of_neg (by rw [occ2 _ _ _ _ _ hb, hd, hd']; rintro ⟨_, h1, h2⟩; exact hc ⟨Option.some.inj h1, Option.some.inj h2⟩), ih]
      simp [hc]
/-- what the program reckons of a piece of text -/
theorem count_diff (y : Str) {a b : Nat} (hab : a ≤ b) (hb : b ≤ y.length) :
    count4 y (Str.ofString "\"") a b - count4 y (Str.ofString "\\\"") a b = (qs false (seg (lt y) a b) : Int) := by
  have e1 : Str.ofString "\"" = ⟨#[34]⟩ := by decide +kernel
  have e2 : Str.ofString "\\\"" = ⟨#[92, 34]⟩ := by decide +kernel
  have f : b + 1 - a = (b - a) + 1 := by omega
  rw [e1, e2, occ_count y _ hab hb ?_, occ_count y _ hab hb ?_, f, cnt1 y 34 b hb _ _ (by omega), cnt2 y b hb _ _ (by omega)]
  · have := qs_pairs (seg (lt y) a b) false
    simp at this
    omega
  · intro i j h1 h2 h3
    rw [← Bool.not_eq_true]
    intro h4
    rw [occ2 _ _ _ _ _ hb] at h3 h4
    have h5 : j = i + 1 := by change j < i + 2 at h2; omega
    subst h5
    rw [h3.2.2] at h4
    exact absurd (Option.some.inj h4.2.1) (by decide)
  · intro i j h1 h2
    change j < i + 1 at h2
    omega
theorem count_none (y : Str) (i : Int) {b : Nat} (hb : b ≤ y.length) (h : b ≤ fromIndex y.length i) : count4 y (Str.ofString "\"") i b - count4 y (Str.ofString "\\\"") i b = 0 := by
  rw [occ_count0 y _ i hb (by decide) h, occ_count0 y _ i hb (by decide) h]; rfl
end Mine

end
section
open PySem PySem.W PySem.Calls PyProof.Rows PySem.Builtin PySem.Builtin.Str
namespace Mine
theorem no_raise {α : Type} {M : Model} {A : Around} {t : Sem α} {Q : α → Shared → Prop} {E : Value → Shared → Prop} {s : Shared} (h : wpAny M A t Q (fun _ _ => False) s) : wpAny M A t Q E s := wpAny_mono h (fun _ _ x => x) fun _ _ x => x.elim
structure Stop (P : Prop) : Prop where out : P
theorem updHere {d : Addr} {o o' : Obj} {r : List (Addr × Obj)} (h : ∀ p ∈ r, p.1 < d) : Upd d o o' ((d, o) :: r) ((d, o') :: r) := .head fun p hp => Nat.ne_of_lt (h p hp)
theorem updOff {d : Addr} {o o' : Obj} {r : List (Addr × Obj)} (h : ∀ p ∈ r, p.1 ≠ d) : Upd d o o' ((d, o) :: r) ((d, o') :: r) := .head h
theorem ltAll_of {d : Addr} : ∀ {l : List (Addr × Obj)}, AllLt d l → ∀ p ∈ l, p.1 < d
  | [], _ => fun _ h => nomatch h
  | _ :: _, ⟨h, hr⟩ => fun q hq => by
    rcases List.mem_cons.mp hq with rfl | hq
    · exact h
    · exact ltAll_of hr q hq
/-- a name's value in a list of bindings ahead of what is not known -/
def kb (u : Str → Option Value) : List (Str × Value) → Str → Option Value
  | [] => u
  | p :: r => fun z => if z = p.1 then some p.2 else kb u r z
theorem kb_eq {m u : Str → Option Value} : ∀ {ps : List (Str × Value)}, (∀ p ∈ ps, m p.1 = some p.2) → kb m ps = m
  | [], _ => rfl
  | p :: r, h => by
    funext z
    show (if z = p.1 then some p.2 else kb m r z) = m z
    by_cases e : z = p.1
    · rw [if_pos e, e, h p (.head _)]
    · rw [if_neg e, kb_eq (u := u) fun q hq => h q (.tail _ hq)]

section
variable {prog : Program} {w : World} {A : Around} {E : Value → Shared → Prop} {s : Shared} {env : Env} {h₀ : Heap} {L : Addr}

def WEnd {σ : Type} (h₀ : Heap) (L : Addr) (s : Shared) (Led : σ → List (Addr × Obj)) (ps : σ → List (Str × Value)) (P : σ → Prop) (μ : σ → Nat) (c : σ) (s₂ : Shared) : Prop :=
  ∃ (c' : σ) (h' : Heap) (tk : Nat) (m' : Str → Option Value) (news' : List (Addr × Obj)), s₂ = { s with heap := h', toks := tk } ∧ Fr h₀ L h' m' ∧ News h₀ L h' news' ∧ (∀ p ∈ Led c', p ∈ news') ∧ (∀ p ∈ ps c', m' p.1 = some p.2) ∧ P c' ∧ μ c' < μ c
def WPost {σ : Type} (h₀ : Heap) (L : Addr) (s : Shared) (Led : σ → List (Addr × Obj)) (ps : σ → List (Str × Value)) (P : σ → Prop) (μ : σ → Nat) (Q : Flow → Shared → Prop) (c : σ) (f : Flow) (s₂ : Shared) : Prop :=
  match f with
  | .ret v => Q (.ret v) s₂
  | .brk => Q .next s₂
  | _ => WEnd h₀ L s Led ps P μ c s₂

theorem my_while {σ : Type} {test : Expr} {body : List Stmt} {pos : Pos} {m₀ : Str → Option Value} {Q : Flow → Shared → Prop} (Led : σ → List (Addr × Obj)) (ps : σ → List (Str × Value)) (P : σ → Prop) (μ : σ → Nat) (c₀ : σ)
    (F : Fr h₀ L s.heap m₀) (N : News h₀ L s.heap (Led c₀)) (hk : ∀ p ∈ ps c₀, m₀ p.1 = some p.2) (hp : P c₀) (hE : PassesOwn (model prog w) A env E)
    (turn : ∀ (c : σ) (u : Str → Option Value) h tk, P c → Fr h₀ L h (kb u (ps c)) → News h₀ L h (Led c) →
      wpAny (model prog w) A (isTrue test env (eval test env)) (fun b s₂ =>
        if b = true then wpAny (model prog w) A (execs body env) (WPost h₀ L s Led ps P μ Q c) E s₂ else Q .next s₂) E { s with heap := h, toks := tk }) :
    wpAny (model prog w) A (exec (.While test body [] pos) env) Q E s := by
  refine While_inv2 (fun n m nx => ∃ c : σ, nx = Led c ∧ μ c = n ∧ (∀ p ∈ ps c, m p.1 = some p.2) ∧ P c) F N ⟨c₀, rfl, rfl, hk, hp⟩ ?_ hE
  rintro n m₁ nx h tk F₁ N₁ ⟨c, hnx, hn, h1, hp'⟩
  subst hnx hn
  rw [← kb_eq (u := m₁) h1] at F₁
  refine wpAny_mono (turn c m₁ h tk hp' F₁ N₁) (fun b s₂ p => ?_) fun _ _ x => x
  cases b with
  | false => simpa using p
  | true =>
    simp only [if_true] at p ⊢
    refine wpAny_mono p (fun f s₃ q => ?_) fun _ _ x => x
    cases f with
    | ret v => exact q
    | brk => exact q
    | next =>
      obtain ⟨c', h', tk', m', news', rfl, F', N', hn, hk9, hp9, hm9⟩ := q
      exact ⟨h', tk', m', Led c', μ c', rfl, F', fun p hp => N' p (hn p hp), hm9, c', rfl, rfl, hk9, hp9⟩
    | cont =>
      obtain ⟨c', h', tk', m', news', rfl, F', N', hn, hk9, hp9, hm9⟩ := q
      exact ⟨h', tk', m', Led c', μ c', rfl, F', fun p hp => N' p (hn p hp), hm9, c', rfl, rfl, hk9, hp9⟩

def FEnd {σ : Type} (h₀ : Heap) (L : Addr) (s : Shared) (Led : σ → List (Addr × Obj)) (rest : List (Addr × Obj)) (ps : σ → List (Str × Value)) (P : σ → Prop) (s₂ : Shared) : Prop :=
  ∃ (c' : σ) (h' : Heap) (tk : Nat) (m' : Str → Option Value) (news' : List (Addr × Obj)), s₂ = { s with heap := h', toks := tk } ∧ Fr h₀ L h' m' ∧ News h₀ L h' news' ∧ (∀ p ∈ Led c' ++ rest, p ∈ news') ∧ (∀ p ∈ ps c', m' p.1 = some p.2) ∧ P c'
def FPost {σ : Type} (h₀ : Heap) (L : Addr) (s : Shared) (Led : σ → List (Addr × Obj)) (rest : List (Addr × Obj)) (ps : σ → List (Str × Value)) (P : σ → Prop) (Q : Flow → Shared → Prop) (f : Flow) (s₂ : Shared) : Prop :=
  match f with
  | .ret v => Q (.ret v) s₂
  | .brk => Q .next s₂
  | _ => FEnd h₀ L s Led rest ps P s₂
def notIt (o : Obj) : Bool := o.cls != .type "list_iterator" && o.cls != .type "range_iterator"

theorem my_for {σ : Type} {l : Addr} {vs : List Value} {x : Str} {body : List Stmt} {m₀ : Str → Option Value} {Q : Flow → Shared → Prop} (Led : σ → List (Addr × Obj)) (fix : List (Addr × Obj)) (ps : σ → List (Str × Value)) (P : Nat → σ → Prop) (c₀ : σ)
    (hh : A.handled = none) (hl : s.heap.IsList l vs.toArray) (hlL : l ≠ L) (hcl : ∀ c, ∀ p ∈ Led c, notIt p.2 = true)
    (F : Fr h₀ L s.heap m₀) (N : News h₀ L s.heap (Led c₀ ++ fix)) (hk : ∀ p ∈ ps c₀, m₀ p.1 = some p.2) (hp : P 0 c₀)
    (turn : ∀ i v (c : σ) (u : Str → Option Value) h tk own, vs[i]? = some v → P i c → (∀ q ∈ Led c, q.1 ≠ l → ∀ p ∈ own, p.1 ≠ q.1) →
      Fr h₀ L h (fun y => if y = x then some v else kb u (ps c) y) → News h₀ L h (Led c ++ (fix ++ own)) →
      wpAny (model prog w) A (execs body env) (FPost h₀ L s Led (fix ++ own) ps (P (i + 1)) Q) E { s with heap := h, toks := tk })
    (done : ∀ (c : σ) (u : Str → Option Value) h tk, P vs.length c → Fr h₀ L h (kb u (ps c)) → News h₀ L h (Led c ++ fix) → Q .next { s with heap := h, toks := tk }) (hLe : env.locals = L) :
    wpAny (model prog w) A (pyIter (.ref l)) (fun it s₂ => LoopAtV prog w A h₀ env x body Q E it s₂) E s := by
  subst hLe
  obtain ⟨ol, hol, hol'⟩ := id hl
  have hlt : l < s.heap.objs.size := Heap.lt_size hol
  have hne : l ≠ s.heap.objs.size := Nat.ne_of_lt hlt
  have hLlt : env.locals < s.heap.objs.size := F.ns.lt
  refine wpAny_pyIter_list hl ?_
  have W := Walks.list (prog := prog) (w := w) hh s.heap.objs.size l hne vs.toArray
  refine ⟨_, _, _, vs.toArray.size, _, _, m₀, Led c₀ ++ fix, fun i m nx => ∃ c : σ, nx = Led c ++ fix ∧ (∀ p ∈ ps c, m p.1 = some p.2) ∧ P i c, rfl, W, ?_, ?_, ?_, ⟨⟨_, Heap.get?_push_size _ rfl, rfl, rfl⟩, hl.at fun o e => Heap.get?_push_of_some _ e⟩, F.push _, (fun p hp => ⟨Heap.get?_push_of_some _ (N p hp).1, (N p hp).2⟩), ⟨c₀, rfl, hk, hp⟩, ?_, ?_⟩
  · intro hm
    rcases List.mem_cons.mp hm with e | hm
    · exact absurd hLlt (e ▸ Nat.lt_irrefl _)
    · exact hlL (List.mem_singleton.mp hm).symm
  · intro b hb
    rw [List.mem_singleton.mp hb]
    cases hq : h₀.get? s.heap.objs.size with
    | none => rfl
    | some o' => exact absurd (Heap.lt_size (F.keep _ _ hq)) (Nat.lt_irrefl _)
  · intro p hp hI
    exact absurd (Heap.lt_size (N p hp).1) ((List.mem_singleton.mp hI) ▸ Nat.lt_irrefl _)
  · rintro i v m₁ news₁ s₁ own ⟨hh', tk', rfl⟩ hin hP ⟨c, rfl, h1, hp'⟩ hoff hown hownh hfp hst F₁ N₁
    have hfix : ∀ p ∈ fix, p.1 ≠ s.heap.objs.size := fun p hp => Nat.ne_of_lt (Heap.lt_size (N p (List.mem_append.mpr (.inr hp))).1)
    have hI : ∃ o, hh'.get? s.heap.objs.size = some o ∧ notIt o = false := by
      obtain ⟨⟨o, ho, hc, _⟩, _⟩ := hst
      exact ⟨o, ho, by unfold notIt; rw [hc]; rfl⟩
    obtain ⟨oI, hoI, hcI⟩ := hI
    have hnI : h₀.get? s.heap.objs.size = none := by
      cases hq : h₀.get? s.heap.objs.size with
      | none => rfl
      | some o' => exact absurd (Heap.lt_size (F.keep _ _ hq)) (Nat.lt_irrefl _)
    have hmI : (s.heap.objs.size, oI) ∈ own := hfp _ (.head _) hnI _ hoI
    have N₂ : News h₀ env.locals hh' (Led c ++ (fix ++ own)) := fun p hp => N₁ p (by
      rcases List.mem_append.mp hp with h | h
      · exact List.mem_append.mpr (.inr (List.mem_append.mpr (.inl h)))
      · rcases List.mem_append.mp h with h | h
        · exact List.mem_append.mpr (.inr (List.mem_append.mpr (.inr h)))
        · exact List.mem_append.mpr (.inl h))
    have e1 : (fun y => if y = x then some v else m₁ y) = fun y => if y = x then some v else kb m₁ (ps c) y := by rw [kb_eq (u := m₁) h1]
    rw [e1] at F₁
    have hv : vs[i]? = some v := by simpa using hP
    refine wpAny_mono (turn i v c m₁ hh' tk' own hv hp' ?_ F₁ N₂) (fun f s₂ p => ?_) fun _ _ e => e
    · intro q hq hql p hp e
      rcases List.mem_cons.mp (hown p hp) with h2 | h2
      · have h3 := (N₂ q (List.mem_append.mpr (.inl hq))).1
        rw [← e, h2] at h3
        have h4 := hoI.symm.trans h3
        cases h4
        rw [hcl c q hq] at hcI
        cases hcI
      · exact hql (e ▸ List.mem_singleton.mp h2)
    · have fin : FEnd h₀ env.locals s Led (fix ++ own) ps (P (i + 1)) s₂ → LoopStepU h₀ env.locals [s.heap.objs.size] own (fun m nx => ∃ c : σ, nx = Led c ++ fix ∧ (∀ p ∈ ps c, m p.1 = some p.2) ∧ P (i + 1) c) { s with heap := hh', toks := tk' } .next s₂ := by
        rintro ⟨c', h', tk, m', news', rfl, F', N', hn, hk9, hp9⟩
        have hin2 : ∀ p ∈ Led c' ++ fix, p ∈ news' := fun p hp => hn p (by
          rcases List.mem_append.mp hp with h | h
          · exact List.mem_append.mpr (.inl h)
          · exact List.mem_append.mpr (.inr (List.mem_append.mpr (.inl h))))
        have hino : ∀ p ∈ own, p ∈ news' := fun p hp => hn p (List.mem_append.mpr (.inr (List.mem_append.mpr (.inr hp))))
        refine ⟨rfl, h', tk, m', Led c' ++ fix, rfl, F', fun p hp => N' p ((List.mem_append.mp hp).elim (hino p) (hin2 p)), fun p hp hq => ?_, c', rfl, hk9, hp9⟩
        have e := List.mem_singleton.mp hq
        rcases List.mem_append.mp hp with h | h
        · have h3 := (N' p (hin2 p hp)).1
          have h4 := (N' _ (hino _ hmI)).1
          rw [e] at h3
          have h5 := h4.symm.trans h3
          cases h5
          rw [hcl c' p h] at hcI
          cases hcI
        · exact hfix p h e
      cases f with
      | ret v => exact .ret p
      | brk => exact .brk p
      | next => exact .next (fin p)
      | cont => exact .cont (fin p)
  · rintro h' tk m' news' F' N' _ ⟨c, rfl, h1, hp'⟩
    rw [← kb_eq (u := m') h1] at F'
    exact done c m' h' tk (by simpa using hp') F' N'

theorem my_forR {σ : Type} {r : Addr} {a₀ b₀ : Int} {t₀ u₀ v₀ : Tok} {n : Nat} {x : Str} {body : List Stmt} {m₀ : Str → Option Value} {Q : Flow → Shared → Prop} (Led : σ → List (Addr × Obj)) (fix : List (Addr × Obj)) (ps : σ → List (Str × Value)) (P : Nat → σ → Prop) (c₀ : σ)
    (hh : A.handled = none) (hr : IsRange s.heap r a₀ b₀ 1 t₀ u₀ v₀) (hsmall : Builtin.Range.small a₀ b₀ 1 = true) (hsz : Builtin.Range.rangeSize a₀ b₀ 1 = (n : Int)) (hcl : ∀ c, ∀ p ∈ Led c, notIt p.2 = true)
    (F : Fr h₀ L s.heap m₀) (N : News h₀ L s.heap (Led c₀ ++ fix)) (hk : ∀ p ∈ ps c₀, m₀ p.1 = some p.2) (hp : P 0 c₀)
    (turn : ∀ i t (c : σ) (u : Str → Option Value) h tk own, i < n → P i c → (∀ q ∈ Led c, ∀ p ∈ own, p.1 ≠ q.1) →
      Fr h₀ L h (fun y => if y = x then some (.int (a₀ + (i : Int)) t) else kb u (ps c) y) → News h₀ L h (Led c ++ (fix ++ own)) →
      wpAny (model prog w) A (execs body env) (FPost h₀ L s Led (fix ++ own) ps (P (i + 1)) Q) E { s with heap := h, toks := tk })
    (done : ∀ (c : σ) (u : Str → Option Value) h tk, P n c → Fr h₀ L h (kb u (ps c)) → News h₀ L h (Led c ++ fix) → Q .next { s with heap := h, toks := tk }) (hLe : env.locals = L) :
    wpAny (model prog w) A (pyIter (.ref r)) (fun it s₂ => LoopAtV prog w A h₀ env x body Q E it s₂) E s := by
  subst hLe
  have hLlt : env.locals < s.heap.objs.size := F.ns.lt
  refine wpAny_pyIter_range hr hsmall ?_
  have W : Walks prog w A s.heap.objs.size [s.heap.objs.size] [s.heap.objs.size] n (fun i v => i < n ∧ ∃ t, v = .int (a₀ + i * 1) t)
      (fun i h => IsRangeIter h s.heap.objs.size (a₀ + (i : Nat) * 1) ((n : Int) - (i : Nat)) 1) := (Walks.range hh _ a₀ 1 n).bound
  have hnI : h₀.get? s.heap.objs.size = none := by
    cases hq : h₀.get? s.heap.objs.size with
    | none => rfl
    | some o' => exact absurd (Heap.lt_size (F.keep _ _ hq)) (Nat.lt_irrefl _)
  refine ⟨_, _, _, n, _, _, m₀, Led c₀ ++ fix, fun i m nx => ∃ c : σ, nx = Led c ++ fix ∧ (∀ p ∈ ps c, m p.1 = some p.2) ∧ P i c, rfl, W, ?_, ?_, ?_, (by show IsRangeIter _ _ _ _ _; rw [hsz]; simpa using Heap.get?_push_size _ rfl), F.push _, (fun p hp => ⟨Heap.get?_push_of_some _ (N p hp).1, (N p hp).2⟩), ⟨c₀, rfl, hk, hp⟩, ?_, ?_⟩
  · intro hm
    exact absurd hLlt ((List.mem_singleton.mp hm) ▸ Nat.lt_irrefl _)
  · intro b hb
    rw [List.mem_singleton.mp hb]
    exact hnI
  · intro p hp hI
    exact absurd (Heap.lt_size (N p hp).1) ((List.mem_singleton.mp hI) ▸ Nat.lt_irrefl _)
  · rintro i v m₁ news₁ s₁ own ⟨hh', tk', rfl⟩ hin ⟨_, t, rfl⟩ ⟨c, rfl, h1, hp'⟩ hoff hown hownh hfp hst F₁ N₁
    have hfix : ∀ p ∈ fix, p.1 ≠ s.heap.objs.size := fun p hp => Nat.ne_of_lt (Heap.lt_size (N p (List.mem_append.mpr (.inr hp))).1)
    obtain ⟨oI, hoI, hcI⟩ : ∃ o, hh'.get? s.heap.objs.size = some o ∧ notIt o = false := ⟨_, hst, rfl⟩
    have hmI : (s.heap.objs.size, oI) ∈ own := hfp _ (.head _) hnI _ hoI
    have N₂ : News h₀ env.locals hh' (Led c ++ (fix ++ own)) := fun p hp => N₁ p (by
      rcases List.mem_append.mp hp with h | h
      · exact List.mem_append.mpr (.inr (List.mem_append.mpr (.inl h)))
      · rcases List.mem_append.mp h with h | h
        · exact List.mem_append.mpr (.inr (List.mem_append.mpr (.inr h)))
        · exact List.mem_append.mpr (.inl h))
    have e0 : a₀ + (i : Int) * 1 = a₀ + (i : Int) := by omega
    rw [e0] at F₁
    have e1 : (fun y => if y = x then some (Value.int (a₀ + (i : Int)) t) else m₁ y) = fun y => if y = x then some (Value.int (a₀ + (i : Int)) t) else kb m₁ (ps c) y := by rw [kb_eq (u := m₁) h1]
    rw [e1] at F₁
    refine wpAny_mono (turn i t c m₁ hh' tk' own hin hp' ?_ F₁ N₂) (fun f s₂ p => ?_) fun _ _ e => e
    · intro q hq p hp e
      have h2 := List.mem_singleton.mp (hown p hp)
      have h3 := (N₂ q (List.mem_append.mpr (.inl hq))).1
      rw [← e, h2] at h3
      have h4 := hoI.symm.trans h3
      cases h4
      rw [hcl c q hq] at hcI
      cases hcI
    · have fin : FEnd h₀ env.locals s Led (fix ++ own) ps (P (i + 1)) s₂ → LoopStepU h₀ env.locals [s.heap.objs.size] own (fun m nx => ∃ c : σ, nx = Led c ++ fix ∧ (∀ p ∈ ps c, m p.1 = some p.2) ∧ P (i + 1) c) { s with heap := hh', toks := tk' } .next s₂ := by
        rintro ⟨c', h', tk, m', news', rfl, F', N', hn, hk9, hp9⟩
        have hin2 : ∀ p ∈ Led c' ++ fix, p ∈ news' := fun p hp => hn p (by
          rcases List.mem_append.mp hp with h | h
          · exact List.mem_append.mpr (.inl h)
          · exact List.mem_append.mpr (.inr (List.mem_append.mpr (.inl h))))
        have hino : ∀ p ∈ own, p ∈ news' := fun p hp => hn p (List.mem_append.mpr (.inr (List.mem_append.mpr (.inr hp))))
        refine ⟨rfl, h', tk, m', Led c' ++ fix, rfl, F', fun p hp => N' p ((List.mem_append.mp hp).elim (hino p) (hin2 p)), fun p hp hq => ?_, c', rfl, hk9, hp9⟩
        have e := List.mem_singleton.mp hq
        rcases List.mem_append.mp hp with h | h
        · have h3 := (N' p (hin2 p hp)).1
          have h4 := (N' _ (hino _ hmI)).1
          rw [e] at h3
          have h5 := h4.symm.trans h3
          cases h5
          rw [hcl c' p h] at hcI
          cases hcI
        · exact hfix p h e
      cases f with
      | ret v => exact .ret p
      | brk => exact .brk p
      | next => exact .next (fin p)
      | cont => exact .cont (fin p)
  · rintro h' tk m' news' F' N' _ ⟨c, rfl, h1, hp'⟩
    rw [← kb_eq (u := m') h1] at F'
    exact done c m' h' tk hp' F' N'

theorem my_forB {σ : Type} {l : Addr} {vs : List Value} {x : Str} {body : List Stmt} {m₀ : Str → Option Value} {Q : Flow → Shared → Prop} (Led : σ → List (Addr × Obj)) (fix : List (Addr × Obj)) (ps : σ → List (Str × Value)) (P : Nat → σ → Prop) (c₀ : σ)
    (hh : A.handled = none) (hl : h₀.IsList l vs.toArray) (hcl : ∀ c, ∀ p ∈ Led c, notIt p.2 = true)
    (F : Fr h₀ L s.heap m₀) (N : News h₀ L s.heap (Led c₀ ++ fix)) (hk : ∀ p ∈ ps c₀, m₀ p.1 = some p.2) (hp : P 0 c₀)
    (turn : ∀ i v (c : σ) (u : Str → Option Value) h tk own, vs[i]? = some v → P i c → (∀ q ∈ Led c, ∀ p ∈ own, p.1 ≠ q.1) →
      Fr h₀ L h (fun y => if y = x then some v else kb u (ps c) y) → News h₀ L h (Led c ++ (fix ++ own)) →
      wpAny (model prog w) A (execs body env) (FPost h₀ L s Led (fix ++ own) ps (P (i + 1)) Q) E { s with heap := h, toks := tk })
    (done : ∀ (c : σ) (u : Str → Option Value) h tk, P vs.length c → Fr h₀ L h (kb u (ps c)) → News h₀ L h (Led c ++ fix) → Q .next { s with heap := h, toks := tk }) (hLe : env.locals = L) :
    wpAny (model prog w) A (pyIter (.ref l)) (fun it s₂ => LoopAtV prog w A h₀ env x body Q E it s₂) E s := by
  subst hLe
  obtain ⟨ol, hol, _⟩ := id hl
  refine my_for Led fix ps P c₀ hh (hl.at fun o e => F.keep l o e) (Nat.ne_of_lt (Nat.lt_of_lt_of_le (Heap.lt_size hol) F.above)) hcl F N hk hp ?_ done rfl
  intro i v c u h tk own h1 h2 h3 F' N'
  refine turn i v c u h tk own h1 h2 (fun q hq p hp => h3 q hq (fun e => ?_) p hp) F' N'
  have := (N' q (List.mem_append.mpr (.inl hq))).2.2
  rw [e, hol] at this
  cases this
end

section
variable {M : Model} {A : Around} {E : Value → Shared → Prop} {name : Str} {scope : Scope} {L a : Addr} {cd : Value} {h₀ : Heap} {m : Str → Option Value} {news : List (Addr × Obj)}
  {hp : Heap} {gs : Array GenState} {dr : Drawn} {tk : Nat} {os : OsState}
theorem st_int {x : Str} {n : Int} {t : Tok} {Q : Unit → Shared → Prop} (F : Fr h₀ L hp m) (N : News h₀ L hp news)
    (h : ∀ h' t' k, Fr h₀ L h' (fun y => if y = x then some (.int n t') else m y) → News h₀ L h' news → Q () ⟨h', gs, dr, k, os⟩)
    (hk : scope.kind = .function := by rfl) (hl : (envOf name scope L a cd).kindOf x = some .local := by rfl) :
    wpAny M A (storeName (envOf name scope L a cd) x (.int n t)) Q E ⟨hp, gs, dr, tk, os⟩ := stN (s := ⟨hp, gs, dr, tk, os⟩) F N (fun h' F' N' => h h' _ _ F' N') hk hl
theorem st_str {x : Str} {n : Str} {t : Tok} {Q : Unit → Shared → Prop} (F : Fr h₀ L hp m) (N : News h₀ L hp news)
    (h : ∀ h' t' k, Fr h₀ L h' (fun y => if y = x then some (.str n t') else m y) → News h₀ L h' news → Q () ⟨h', gs, dr, k, os⟩)
    (hk : scope.kind = .function := by rfl) (hl : (envOf name scope L a cd).kindOf x = some .local := by rfl) :
    wpAny M A (storeName (envOf name scope L a cd) x (.str n t)) Q E ⟨hp, gs, dr, tk, os⟩ := stN (s := ⟨hp, gs, dr, tk, os⟩) F N (fun h' F' N' => h h' _ _ F' N') hk hl
end
theorem gives_find4 (x y : Str) (i j : Int) (t u v v' : Tok) : Gives («str.find» ⟨[.str x t, .str y u, .int i v, .int j v'], []⟩) (.int (find4 x y i j)) := by
  show Gives (match occurrences x y (fromIndex x.length i) (endIdx x.length j) 1 with | k :: _ => retInt k | [] => (do rule "str.find.not-found"; retInt (-1))) _
  unfold find4
  cases occurrences x y (fromIndex x.length i) (endIdx x.length j) 1 with
  | nil => exact .rule (.of_eq rfl)
  | cons k _ => exact .of_eq rfl
theorem gives_count4 (x y : Str) (i j : Int) (t u v v' : Tok) : Gives («str.count» ⟨[.str x t, .str y u, .int i v, .int j v'], []⟩) (.int (count4 x y i j)) := by
  show Gives (retInt (occurrences x y (fromIndex x.length i) (endIdx x.length j) (x.length + 1)).length) _
  exact .of_eq rfl
section
variable {prog : Program} {w : World} {A : Around} {E : Value → Shared → Prop} {x y : Str} {t u v v' : Tok} {i j : Int} {Q : Value → Shared → Prop}
  {hp : Heap} {gs : Array GenState} {dr : Drawn} {tk : Nat} {os : OsState}
theorem find3_c (hq : ∀ t' k, Q (.int (Txt.find3 x y i) t') ⟨hp, gs, dr, k, os⟩) : wpAny (model prog w) A (call (.builtin "str.find") [.str x t, .str y u, .int i v]) Q E ⟨hp, gs, dr, tk, os⟩ :=
  SC.find3 (hq _ _)
theorem find4_c (hq : ∀ t' k, Q (.int (find4 x y i j) t') ⟨hp, gs, dr, k, os⟩) : wpAny (model prog w) A (call (.builtin "str.find") [.str x t, .str y u, .int i v, .int j v']) Q E ⟨hp, gs, dr, tk, os⟩ :=
  call_gives F.slot_str_find (typeIs_str _ _ _) F.entry_str_find (F.args_str_find_4 _ _ _ _) (gives_find4 x y i j t u v v') (hq _ _)
theorem count4_c (hq : ∀ t' k, Q (.int (count4 x y i j) t') ⟨hp, gs, dr, k, os⟩) : wpAny (model prog w) A (call (.builtin "str.count") [.str x t, .str y u, .int i v, .int j v']) Q E ⟨hp, gs, dr, tk, os⟩ :=
  call_gives F.slot_str_count (typeIs_str _ _ _) F.entry_str_count (F.args_str_count_4 _ _ _ _) (gives_count4 x y i j t u v v') (hq _ _)
theorem add_c (hs : x.length + y.length ≤ 16777216) (h : ∀ t' k, (x ++ y).length = x.length + y.length → Q (.str (x ++ y) t') ⟨hp, gs, dr, k, os⟩) : wpAny (model prog w) A (binaryOp .Add (.str x t) (.str y u)) Q E ⟨hp, gs, dr, tk, os⟩ :=
  SB.add (fun t' k => h t' k (Str.length_append x y)) (by rw [sizeLine_eq]; omega)
theorem strip_c (hs : x.length ≤ 16777216) (h : ∀ t' k, (Txt.strip x).length ≤ x.length → Q (.str (Txt.strip x) t') ⟨hp, gs, dr, k, os⟩) : wpAny (model prog w) A (call (.builtin "str.strip") [.str x t]) Q E ⟨hp, gs, dr, tk, os⟩ :=
  SCL.strip h (by rw [sizeLine_eq]; omega)
theorem rstrip_c (hs : x.length ≤ 16777216) (h : ∀ t' k, (Txt.rstrip x).length ≤ x.length → Q (.str (Txt.rstrip x) t') ⟨hp, gs, dr, k, os⟩) : wpAny (model prog w) A (call (.builtin "str.rstrip") [.str x t]) Q E ⟨hp, gs, dr, tk, os⟩ :=
  SCL.rstrip h (by rw [sizeLine_eq]; omega)
theorem lstrip_c (hs : x.length ≤ 16777216) (h : ∀ t' k, (Txt.lstrip x).length ≤ x.length → Q (.str (Txt.lstrip x) t') ⟨hp, gs, dr, k, os⟩) : wpAny (model prog w) A (call (.builtin "str.lstrip") [.str x t]) Q E ⟨hp, gs, dr, tk, os⟩ :=
  SCL.lstrip h (by rw [sizeLine_eq]; omega)
theorem lower_c (hx : x.length ≤ 5592405) (hq : ∀ t' k, (Txt.lower x).length ≤ 3 * x.length → Q (.str (Txt.lower x) t') ⟨hp, gs, dr, k, os⟩) : wpAny (model prog w) A (call (.builtin "str.lower") [.str x t]) Q E ⟨hp, gs, dr, tk, os⟩ :=
  SCL.lower hx fun h => hq _ _ h
end
section
variable {prog : Program} {w : World} {A : Around} {E : Value → Shared → Prop} {Q : Value → Shared → Prop} {hp : Heap} {gs : Array GenState} {dr : Drawn} {tk : Nat} {os : OsState} {h₀ : Heap} {L D : Addr} {m : Str → Option Value} {news news' : List (Addr × Obj)}
theorem append_c {vs : List Value} {n : Nat} {x : Value} (F : Fr h₀ L hp m) (N : News h₀ L hp news) (U : Upd D (listOf vs.toArray n) (listOf (vs ++ [x]).toArray (n + 1)) news news') (hs : vs.length ≤ 16777216)
    (h : ∀ h', Fr h₀ L h' m → News h₀ L h' news' → Q .none ⟨h', gs, dr, tk, os⟩) : wpAny (model prog w) A (call (.builtin "list.append") [.ref D, x]) Q E ⟨hp, gs, dr, tk, os⟩ :=
  append_K (s := ⟨hp, gs, dr, tk, os⟩) (its := vs.toArray) (n := n) F N (by rw [show vs.toArray.push x = (vs ++ [x]).toArray by simp]; exact U) h (by rw [sizeLine_eq, List.size_toArray]; omega)
end
abbrev tupO (vs : List Value) : Obj := { cls := .type "tuple", data := .seq vs.toArray }
def optV : Option Str → Tok → Value
  | none, _ => .none
  | some b, t => .str b t
def spl (x : Str) : Str × Option Str :=
  (Txt.strip (Txt.partition x (Str.ofString ";")).1, if (Txt.partition x (Str.ofString ";")).2.1.length = 0 then none else some (Txt.strip (Txt.partition x (Str.ofString ";")).2.2))
end Mine

end
section
open PySem PySem.W PySem.Calls PyProof.Rows
namespace Mine
abbrev PR : Program := PySem.Challenge.rw_at0001_02.row.toRowW.prog
set_option maxRecDepth 100000 in
set_option maxHeartbeats 8000000 in
theorem split_c {w : World} {loose : List Str} {mean : ExcName → Option Value} {mg mb : Str → Option Value}
    {dp un : Nat} {gd : Option (List Code)} {cn : Str} {cs : Scope} {a : Addr} {ccd : Value} {cl : List (Str × Addr)} {outer : List Env} {A₀ : Around} {base h₀ : Heap} {L : Addr} {m : Str → Option Value} {s : Shared} {Q E : Value → Shared → Prop} {news : List (Addr × Obj)}
    {x : Str} {tx : Tok}
    (B : Below A₀ base outer h₀) (F : Fr h₀ L s.heap m) (X : (hd.heap_39 w.params).In h₀) (N : News h₀ L s.heap news) (T : Top hd.view_39 loose mean mg mb h₀) (hk : cs.kind = .function)
    (hdp : dp + 1 < recursionLimit) (hun : un + 8 < cLine) (hx : x.length ≤ 1000)
    (ret : ∀ r ta tb h' tk', Fr h₀ L h' m → News h₀ L h' ((r, tupO [.str (spl x).1 ta, optV (spl x).2 tb]) :: news) → (∀ p ∈ news, p.1 < r) → Q (.ref r) { s with heap := h', toks := tk' }) :
    wpAny (model PR w) (ktrTop dp un gd cn cs L a ccd cl outer) (call (.ref 21) [.str x tx]) Q E s := by
  have kk : (fun (_ : OpenLaw) (K : Params → Frag) => True) PySem.Challenge.rw_at0001_02 hd.heap_39 := by w_top off; k_fill; trivial
  clear kk
  refine wpAny_call ?_
  k_dflt cell_enter
  k_steps
  all_goals (
    refine' ret _ _ _ _ _ (by assumption) (cb_drop (by assumption) ?hin) ?hlt
    (case hlt => rename (_ ∧ AllLt _ news) => hl; exact ltAll_of hl.2)
    (case hin =>
      intro p hp
      rcases List.mem_cons.mp hp with rfl | hp
      · first
        | (rw [show (spl x).2 = some (Txt.strip (Txt.partition x (Str.ofString ";")).2.2) from if_neg (by omega)]; exact .head _)
        | (rw [show (spl x).2 = none from if_pos (by omega)]; exact .head _)
      · exact .tail _ (.tail _ hp)))
  all_goals exact 0
end Mine

end
section
open PySem PySem.W PySem.Calls PyProof.Rows PySem.Builtin PySem.Builtin.Str
namespace Mine
theorem D_self (l : List Nat) (a : Nat) : D l a a = 0 := by unfold D; rw [seg_nil]; rfl
theorem PI_init (y : Str) {a : Nat} (ha : a ≤ y.length) : PI y a false (F1 y a) a 0 := by
  show PA y a _ _ _
  refine ⟨a, a, rfl, Nat.le_refl _, .inl ⟨rfl, rfl⟩, by rw [len_lt]; exact ha, rfl, by rw [D_self]; rfl, fun p h1 h2 => by omega⟩
theorem F1_of {y : Str} {q k : Nat} (h1 : q ≤ k) (h2 : (lt y)[k]? = some 59) (h3 : ∀ p, q ≤ p → p < k → (lt y)[p]? ≠ some 59) : F1 y q = k := by
  rcases F1_spec y q with ⟨_, h4⟩ | ⟨k', h4, h5, h6, h7⟩
  · exact absurd h2 (h4 k h1)
  · rcases Nat.lt_trichotomy k k' with h | h | h
    · exact absurd h2 (h7 k h1 h)
    · rw [h4, h]
    · exact absurd h6 (h3 k' h5 h)
theorem PA_sum {y : Str} {a : Nat} {e i d : Int} (h : PA y a e i d) (he : 0 < e) : ∃ k lo : Nat, e = k ∧ i = lo ∧ a ≤ lo ∧ lo ≤ k ∧ k < (lt y).length ∧ (lt y)[k]? = some 59 ∧
    d + (count4 y (Str.ofString "\"") i e - count4 y (Str.ofString "\\\"") i e) = (D (lt y) a k : Int) ∧ (∀ p, a ≤ p → p < k → (lt y)[p]? = some 59 → D (lt y) a p % 2 = 1) ∧ (lo < k → F1 y (lo + 1) = k) := by
  obtain ⟨q, lo, hi, h1, h2, h3, h4, h5, h6⟩ := h
  rcases F1_spec y q with ⟨h7, _⟩ | ⟨k, h7, h8, h9, h10⟩
  · omega
  · have hlk : lo ≤ k := by omega
    have hk := lt_of_get h9
    have hkl : k ≤ y.length := by rw [← len_lt]; omega
    have e1 : e = (k : Int) := by rw [h4, h7]
    refine ⟨k, lo, e1, hi, h1, hlk, hk, h9, ?_, ?_, ?_⟩
    · rw [e1, hi, count_diff y hlk hkl, h5, D_split h1 hlk (by rcases h2 with h | h; exact .inl h.1; exact .inr h.2)]
      omega
    · intro p hp1 hp2 hp3
      rcases Nat.lt_or_ge p q with h | h
      · exact h6 p hp1 h hp3
      · exact absurd hp3 (h10 p h hp2)
    · intro hlt
      refine F1_of (q := lo + 1) (by omega) h9 fun p hp1 hp2 => ?_
      rcases Nat.lt_or_ge p q with h | h
      · omega
      · exact h10 p h hp2
theorem PB_sum {y : Str} {a : Nat} {e i d : Int} (h : PB y a e i d) : 
    d + (count4 y (Str.ofString "\"") i e - count4 y (Str.ofString "\\\"") i e) = d := by
  obtain ⟨lo, k, h1, h2, h3, h4, h5, h6, h7, h8, h9⟩ := h
  have hk := lt_of_get h4
  rw [len_lt] at hk
  rw [h1, count_none y i (by omega) ?_]
  · omega
  · rcases F1_spec y (k + 1) with ⟨h10, _⟩ | ⟨k', h10, h11, h12, _⟩
    · have : i = -1 := by rw [h6]; exact_mod_cast h10
      rw [this]; unfold fromIndex; omega
    · have : i = (k' : Int) := by rw [h6]; exact_mod_cast h10
      rw [this, fromIndex_nat]; omega
theorem fmod2 (n : Nat) : Int.fmod (n : Int) 2 = ((n % 2 : Nat) : Int) := by
  rw [Int.fmod_eq_emod_of_nonneg _ (by decide)]; omega

theorem PI_break {y : Str} {a : Nat} {b : Bool} {e i d : Int} (hI : PI y a b e i d) (he : 0 < e) (h : (d + (count4 y (Str.ofString "\"") i e - count4 y (Str.ofString "\\\"") i e)).fmod 2 = 0) :
    ∃ k : Nat, e = k ∧ k < (lt y).length ∧ Cut (lt y) a k := by
  cases b with
  | false =>
    obtain ⟨k, lo, h1, h2, h3, h4, h5, h6, h7, h8, _⟩ := PA_sum hI he
    rw [h7, fmod2] at h
    exact ⟨k, h1, h5, by omega, by omega, fun _ => ⟨h6, by omega⟩, h8⟩
  | true =>
    rw [PB_sum hI] at h
    obtain ⟨lo, k, h1, h2, h3, h4, h5, h6, h7, h8, h9⟩ := hI
    rw [h7, fmod2] at h
    omega
theorem PI_next {y : Str} {a : Nat} {b : Bool} {e i d : Int} (hI : PI y a b e i d) (he : 0 < e) (h : (d + (count4 y (Str.ofString "\"") i e - count4 y (Str.ofString "\\\"") i e)).fmod 2 ≠ 0) :
    PI y a (!b) i (F1 y (e + 1)) (d + (count4 y (Str.ofString "\"") i e - count4 y (Str.ofString "\\\"") i e)) ∧
    (if (!b) = true then 2 * ((lt y).length - i.toNat) else 2 * ((lt y).length - (F1 y (e + 1)).toNat) + 1) < (if b = true then 2 * ((lt y).length - e.toNat) else 2 * ((lt y).length - i.toNat) + 1) := by
  cases b with
  | false =>
    obtain ⟨k, lo, h1, h2, h3, h4, h5, h6, h7, h8, h9⟩ := PA_sum hI he
    rw [h7] at h ⊢
    rw [fmod2] at h
    have hlk : lo < k := by
      rcases Nat.lt_or_ge lo k with h10 | h10
      · exact h10
      · have e1 : lo = k := by omega
        exfalso
        obtain ⟨q, lo', hi', g1, g2, g3, g4, g5, g6⟩ := hI
        have e2 : lo' = lo := by omega
        subst e2
        rcases g2 with g2 | g2
        · rw [← e1, g2.1, D_self] at h; simp at h
        · rcases F1_spec y q with ⟨g7, _⟩ | ⟨k', g7, g8, _, _⟩ <;> omega
    refine ⟨?_, by simp only [Bool.not_false, Bool.false_eq_true, if_false, if_true]; omega⟩
    show PB y a _ _ _
    refine ⟨lo, k, h2, h3, hlk, h6, h9 hlk, by rw [h1], rfl, by omega, fun p hp1 hp2 hp3 => ?_⟩
    rcases Nat.lt_or_ge p k with hpk | hpk
    · exact h8 p hp1 hpk hp3
    · have : p = k := by omega
      subst this; omega
  | true =>
    rw [PB_sum hI]
    obtain ⟨lo, k, h1, h2, h3, h4, h5, h6, h7, h8, h9⟩ := hI
    have hk := lt_of_get h4
    have e1 : F1 y (e + 1) = k := by rw [h1]; exact h5
    rw [e1]
    refine ⟨?_, by simp only [Bool.not_true, Bool.false_eq_true, if_false, if_true]; omega⟩
    show PA y a _ _ _
    exact ⟨k + 1, k, rfl, by omega, .inr ⟨rfl, h4⟩, by omega, h6, h7, fun p hp1 hp2 hp3 => h9 p hp1 (by omega) hp3⟩
theorem PI_out {y : Str} {a : Nat} {b : Bool} {e i d : Int} (hI : PI y a b e i d) (ha : 1 ≤ a) (hal : a ≤ y.length) (he : ¬ 0 < e) : e < 0 ∧ Cut (lt y) a y.length := by
  cases b with
  | false =>
    obtain ⟨q, lo, hi, h1, h2, h3, h4, h5, h6⟩ := hI
    rcases F1_spec y q with ⟨h7, h8⟩ | ⟨k, h7, h8, h9, h10⟩
    · refine ⟨by omega, hal, by rw [len_lt]; omega, fun h => by rw [len_lt] at h; omega, fun p hp1 hp2 hp3 => ?_⟩
      rcases Nat.lt_or_ge p q with h | h
      · exact h6 p hp1 h hp3
      · exact absurd hp3 (h8 p h)
    · omega
  | true =>
    obtain ⟨lo, k, h1, h2, h3, h4, h5, h6, h7, h8, h9⟩ := hI
    omega

/- the pieces' values -/
theorem slice_seg (y : Str) {a b : Nat} (hab : a ≤ b) (hb : b ≤ y.length) : Txt.slice y (some (a : Int)) (some (b : Int)) = S (seg (lt y) a b) := StrLaws.sliceText_nat y hab hb
theorem find4_spec (y : Str) (c : Nat) {a b : Nat} (hab : a ≤ b) (hb : b ≤ y.length) :
    (find4 y ⟨#[c]⟩ a b = -1 ∧ c ∉ seg (lt y) a b) ∨ ∃ k : Nat, find4 y ⟨#[c]⟩ a b = k ∧ a ≤ k ∧ k < b ∧ (lt y)[k]? = some c ∧ c ∉ seg (lt y) a k := by
  have hmem : ∀ b', b' ≤ y.length → (c ∈ seg (lt y) a b' ↔ ∃ p, a ≤ p ∧ p < b' ∧ (lt y)[p]? = some c) := by
    intro b' hb'
    unfold seg
    rw [List.mem_iff_getElem?]
    constructor
    · rintro ⟨i, hi⟩
      have h1 := lt_of_get hi
      rw [List.getElem?_take_of_lt (by simp at h1; omega), List.getElem?_drop] at hi
      exact ⟨a + i, by omega, by simp at h1; omega, hi⟩
    · rintro ⟨p, h1, h2, h3⟩
      refine ⟨p - a, ?_⟩
      rw [List.getElem?_take_of_lt (by omega), List.getElem?_drop]
      rw [← h3]; congr 1; omega
  unfold find4
  rw [fromIndex_nat, endIdx_nat hb, StrLaws.occ_eq]
  rcases StrLaws.occ_first y ⟨#[c]⟩ b 1 (Nat.le_refl 1) (List.range' a (b + 1 - a)) a (fun i hi => (List.mem_range'_1.mp hi).1) with ⟨h0, hn⟩ | ⟨pre, k, post, e, h0, hk, hn⟩
  · rw [h0]
    refine .inl ⟨rfl, fun h => ?_⟩
    obtain ⟨p, h1, h2, h3⟩ := (hmem b hb).mp h
    refine hn p (List.mem_range'_1.mpr ⟨h1, by omega⟩) ?_
    have := (occ1 y c b p hb).mpr ⟨h2, h3⟩
    unfold Occ at this
    rw [Bool.and_eq_true, decide_eq_true_eq] at this
    exact this
  · have hs := StrLaws.range'_split_from e
    have h1 : Occ y ⟨#[c]⟩ b k = true := by unfold Occ; rw [Bool.and_eq_true, decide_eq_true_eq]; exact hk
    rw [occ1 y c b k hb] at h1
    refine .inr ⟨k, ?_, hs.1, h1.1, h1.2, fun h => ?_⟩
    · generalize (forIn (List.range' a (b + 1 - a)) ((#[] : Array Nat), a) (StrLaws.occBody y ⟨#[c]⟩ b 1)).run.fst = arr at h0
      have h2 : arr.toList[0]? = some k := by simpa using h0
      cases hL : arr.toList with
      | nil => rw [hL] at h2; cases h2
      | cons d t => rw [hL] at h2; simp at h2; simp [h2]
    · obtain ⟨p, h2, h3, h4⟩ := (hmem k (by omega)).mp h
      refine hn p (hs.2 p h2 h3) ?_
      have := (occ1 y c b p hb).mpr ⟨by omega, h4⟩
      unfold Occ at this
      rw [Bool.and_eq_true, decide_eq_true_eq] at this
      exact this
theorem eq_str : Str.ofString "=" = ⟨#[61]⟩ := by decide +kernel
theorem val_none {y : Str} {a b : Nat} (hab : a ≤ b) (hb : b ≤ y.length) (h : find4 y (Str.ofString "=") a b = -1) :
    Txt.strip (Txt.slice y (some (a : Int)) (some (b : Int))) = fmt (seg (lt y) a b) := by
  rw [eq_str] at h
  rcases find4_spec y 61 hab hb with ⟨_, h1⟩ | ⟨k, h1, _⟩
  · unfold fmt
    rw [if_neg h1, slice_seg y hab hb]
  · omega
theorem takeWhile_seg {u v : List Nat} (h : 61 ∉ u) : (u ++ 61 :: v).takeWhile (· != 61) = u ∧ ((u ++ 61 :: v).dropWhile (· != 61)).tail = v := by
  induction u with
  | nil => simp
  | cons c r ih =>
    simp at h
    have hc : (c != 61) = true := by simp; omega
    have := ih (by simpa using h.2)
    simp [hc, this]
theorem val_some {y : Str} {a b : Nat} (hab : a ≤ b) (hb : b ≤ y.length) (h : find4 y (Str.ofString "=") a b ≠ -1) :
    Txt.strip (Txt.lower (Txt.rstrip (Txt.slice y (some (a : Int)) (some (find4 y (Str.ofString "=") a b)))) ++ Str.ofString "=" ++ Txt.lstrip (Txt.slice y (some (find4 y (Str.ofString "=") a b + 1)) (some (b : Int)))) = fmt (seg (lt y) a b) := by
  rw [eq_str] at h ⊢
  rcases find4_spec y 61 hab hb with ⟨h1, _⟩ | ⟨k, h1, h2, h3, h4, h5⟩
  · exact absurd h1 h
  · have e1 : seg (lt y) a b = seg (lt y) a k ++ 61 :: seg (lt y) (k + 1) b := by
      rw [seg_split h2 (Nat.le_of_lt h3), seg_at h4 h3]
    have e2 : ((k : Int) + 1) = ((k + 1 : Nat) : Int) := by omega
    rw [h1, e2, slice_seg y h2 (by omega), slice_seg y (by omega) hb]
    unfold fmt
    rw [if_pos (by rw [e1]; simp), e1, (takeWhile_seg h5).1, (takeWhile_seg h5).2, eq_str]
end Mine

end
section
open PySem PySem.W PySem.Calls PyProof.Rows PySem.Builtin PySem.Builtin.Str
namespace Mine
local macro_rules | `(tactic| walk_at "call builtin:str.find cons str cons str cons int nil") => `(tactic| (refine find3_c ?_; intro _ _))
local macro_rules | `(tactic| walk_at "call builtin:str.find") => `(tactic| (refine find3_c ?_; intro _ _))
local macro_rules | `(tactic| walk_at "call builtin:str.find") => `(tactic| (refine find4_c ?_; intro _ _))
local macro_rules | `(tactic| walk_at "call builtin:str.count") => `(tactic| (refine count4_c ?_; intro _ _))
local macro_rules | `(tactic| walk_at "binaryOp Add str str") => `(tactic| (k_here; k_dflt (refine add_c (by omega) ?_); intro _ _ _))
local macro_rules | `(tactic| walk_at "call builtin:str.strip") => `(tactic| (k_here; k_dflt (refine strip_c (by omega) ?_); intro _ _ _))
local macro_rules | `(tactic| walk_at "call builtin:str.rstrip") => `(tactic| (k_here; k_dflt (refine rstrip_c (by omega) ?_); intro _ _ _))
local macro_rules | `(tactic| walk_at "call builtin:str.lstrip") => `(tactic| (k_here; k_dflt (refine lstrip_c (by omega) ?_); intro _ _ _))
local macro_rules | `(tactic| walk_at "call builtin:list.append") => `(tactic| (k_here; k_dflt (refine' append_c ?k1 ?k2 ?k3 ?z ?_; (case k1 => k_asm); (case k2 => k_asm); (case k3 => k_upd); (case z => omega); k_whole); intro h' F' N'; (try k_sweep)))
local macro_rules | `(tactic| walk_at "WPost") => `(tactic| dsimp only [WPost])
local macro_rules | `(tactic| walk_at "FPost") => `(tactic| dsimp only [FPost])
local macro_rules | `(tactic| walk_at "call builtin:str.lower") => `(tactic| (k_here; k_dflt (refine lower_c (by omega) ?_); intro _ _ _))
local macro_rules | `(tactic| k_upd) => `(tactic| first | exact updHere (by assumption) | exact updOff (by assumption) | (refine' Upd.tail ?a ?b; (case a => k_ne); (case b => k_upd)))
local macro_rules | `(tactic| walk_at "storeName") => `(tactic| (k_here; k_dflt (refine st_int (by with_reducible assumption) (by with_reducible assumption) ?_); intro h' t' _ F' N'; (try k_sweep)))
local macro_rules | `(tactic| walk_at "storeName") => `(tactic| (k_here; k_dflt (refine st_str (by with_reducible assumption) (by with_reducible assumption) ?_); intro h' t' _ F' N'; (try k_sweep)))
local macro_rules | `(tactic| walk_at "exec While Compare cons nil") => `(tactic| refine Stop.out ?_)

abbrev pY (x : Str) : Str := Str.ofString ";" ++ x
structure PO (x : Str) (c : Nat × Tok × List Value × Nat) : Prop where
  hle : c.1 ≤ (lt (pY x)).length
  hch : c.1 < (lt (pY x)).length → (lt (pY x))[c.1]? = some 59
  hvl : c.2.2.1.length ≤ c.1
  hdn : ∃ dn, StrsAre c.2.2.1 dn ∧ dn ++ restP (lt (pY x)) c.1 = parse x
theorem pY_len (x : Str) : (lt (pY x)).length = x.length + 1 := by
  rw [len_lt, Str.length_append]
  have : (Str.ofString ";").length = 1 := by decide
  omega
theorem pY_list (x : Str) : lt (pY x) = 59 :: x.cps.toList := by
  show (Str.ofString ";" ++ x).cps.toList = _
  rw [Str.cps_append, show (Str.ofString ";").cps = #[59] by decide +kernel]
  simp
theorem PO_start (x : Str) (t : Tok) : PO x (0, t, [], 0) where
  hle := Nat.zero_le _
  hch := fun _ => by rw [pY_list]; rfl
  hvl := Nat.le_refl _
  hdn := ⟨[], .nil, by
    show [] ++ restP (lt (pY x)) 0 = parse x
    unfold restP parse
    rw [if_pos (by rw [pY_len]; omega), pY_list]; rfl⟩
theorem PO_at {x : Str} {c : Nat × Tok × List Value × Nat} (h : PO x c) (hf : F1 (pY x) (c.1 : Int) = c.1) : c.1 < (lt (pY x)).length := by
  rcases F1_spec (pY x) c.1 with ⟨h1, _⟩ | ⟨k, h1, h2, h3, _⟩
  · omega
  · have : k = c.1 := by omega
    subst this
    exact lt_of_get h3
theorem PO_done {x : Str} {c : Nat × Tok × List Value × Nat} (h : PO x c) (hf : F1 (pY x) (c.1 : Int) ≠ c.1) : StrsAre c.2.2.1 (parse x) := by
  have : ¬ c.1 < (lt (pY x)).length := fun hlt => hf (F1_of (Nat.le_refl _) (h.hch hlt) fun p h1 h2 => by omega)
  obtain ⟨dn, h1, h2⟩ := h.hdn
  rw [← h2]
  unfold restP
  rw [if_neg this, List.append_nil]
  exact h1
theorem PO_next {x : Str} {st k : Nat} {tst t' : Tok} {vs : List Value} {n n' : Nat} {v : Str} {tv : Tok} (h : PO x (st, tst, vs, n)) (hs : st < (lt (pY x)).length) (hc : Cut (lt (pY x)) (st + 1) k) (hv : v = fmt (seg (lt (pY x)) (st + 1) k)) : PO x (k, t', vs ++ [.str v tv], n') where
  hle := hc.2.1
  hch := fun hk => (hc.2.2.1 hk).1
  hvl := by have := h.hvl; have := hc.1; simp at *; omega
  hdn := by
    obtain ⟨dn, h1, h2⟩ := h.hdn
    refine ⟨dn ++ [v], StrsAre.append' h1 (.cons _ _ .nil), ?_⟩
    rw [← h2, List.append_assoc]
    show dn ++ ([v] ++ restP (lt (pY x)) k) = dn ++ restP (lt (pY x)) st
    have e : restP (lt (pY x)) st = v :: restP (lt (pY x)) k := by
      rw [hv, ← cut_rest (by omega) hc]
      conv => lhs; unfold restP
      rw [if_pos hs]
    rw [e]; rfl

set_option maxRecDepth 100000 in
set_option maxHeartbeats 4000000 in
theorem parse_c {w : World} {loose : List Str} {mean : ExcName → Option Value} {mg mb : Str → Option Value}
    {dp un : Nat} {gd : Option (List Code)} {cn : Str} {cs : Scope} {a : Addr} {ccd : Value} {cl : List (Str × Addr)} {outer : List Env} {A₀ : Around} {base h₀ : Heap} {L : Addr} {m : Str → Option Value} {s : Shared} {Q E : Value → Shared → Prop} {news : List (Addr × Obj)}
    {x : Str} {tx : Tok}
    (B : Below A₀ base outer h₀) (F : Fr h₀ L s.heap m) (X : (hd.heap_39 w.params).In h₀) (N : News h₀ L s.heap news) (T : Top hd.view_39 loose mean mg mb h₀) (hk : cs.kind = .function)
    (hdp : dp + 1 < recursionLimit) (hun : un + 8 < cLine) (hx : x.length ≤ 1000)
    (ret : ∀ r vs n h' tk', Fr h₀ L h' m → News h₀ L h' ((r, listOf vs.toArray n) :: news) → (∀ p ∈ news, p.1 < r) → StrsAre vs (parse x) → vs.length ≤ x.length + 1 → Q (.ref r) { s with heap := h', toks := tk' }) :
    wpAny (model PR w) (ktrTop dp un gd cn cs L a ccd cl outer) (call (.ref 28) [.str x tx]) Q E s := by
  have kk : (fun (_ : OpenLaw) (K : Params → Frag) => True) PySem.Challenge.rw_at0001_02 hd.heap_39 := by w_top off; k_fill; trivial
  clear kk
  refine wpAny_call ?_
  k_dflt cell_enter
  refine no_raise ?_
  k_steps
  refine ⟨?_⟩
  rename Fr _ _ _ _ => F1
  rename News _ _ _ _ => N1
  have hsc : (Str.ofString ";").length = 1 := by decide
  have hsq : (Str.ofString "=").length = 1 := by decide
  rename_i t' _ l' _ l1 _ _ _ _
  with_unfolding_all refine' my_while (σ := Nat × Tok × List Value × Nat) (fun c => (l', listOf c.2.2.1.toArray c.2.2.2) :: news) (fun c => [(Str.ofString "s", Value.str (pY x) t'), (Str.ofString "plist", Value.ref l'), (Str.ofString "start", Value.int (c.1 : Int) c.2.1)]) (PO x) (fun c => (lt (pY x)).length + 1 - c.1) (0, _, [], _) F1 N1 ?k1 ?k2 PassesOwn.never ?_
  case k1 => kst_all
  case k2 => exact PO_start x _
  clear F1 N1
  rintro ⟨st, tst, vs, n⟩ u h tk hP F1 N1
  dsimp only at F1 N1
  (try k_fold)
  k_steps
  · refine ⟨?_⟩
    rename Fr _ _ _ _ => F1
    rename News _ _ _ _ => N1
    rename (Txt.find3 _ _ _ = _) => hfind
    rename (_ < _ ∧ AllLt _ _) => hD
    clear hD
    have hlt := PO_at hP hfind
    have hlen1 := pY_len x
    have hlen2 := len_lt (pY x)
    have hvl : vs.length ≤ st := hP.hvl
    replace N1 := cb_drop (news := (l', listOf vs.toArray n) :: news) N1 (fun p hp => .tail _ hp)
    with_unfolding_all refine' my_while (σ := Bool × Int × Tok × Int × Tok × Int × Tok) (fun c => (l', listOf vs.toArray n) :: news) (fun c => [(Str.ofString "s", Value.str (pY x) t'), (Str.ofString "plist", Value.ref l'), (Str.ofString "start", Value.int (((st + 1 : Nat)) : Int) _), (Str.ofString "end", Value.int c.2.1 c.2.2.1), (Str.ofString "ind", Value.int c.2.2.2.1 c.2.2.2.2.1), (Str.ofString "diff", Value.int c.2.2.2.2.2.1 c.2.2.2.2.2.2)]) (fun c => PI (pY x) (st + 1) c.1 c.2.1 c.2.2.2.1 c.2.2.2.2.2.1) (fun c => if c.1 = true then 2 * ((lt (pY x)).length - c.2.1.toNat) else 2 * ((lt (pY x)).length - c.2.2.2.1.toNat) + 1) (false, _, _, _, _, _, _) F1 N1 ?k1 ?k2 PassesOwn.never ?_
    case k1 => kst_all
    case k2 => exact PI_init (pY x) (a := st + 1) (by omega)
    clear F1 N1
    rintro ⟨b, e, te, i, ti, d, td⟩ u h tk hI F1 N1
    dsimp only at hI F1 N1
    have hz : 0 < e ∨ e < 0 := by
      by_cases he : 0 < e
      · exact .inl he
      · exact .inr (PI_out hI (by omega) (by omega) he).1
    (try k_fold)
    k_steps
    · with_reducible rename Fr _ _ _ _ => F2
      with_reducible rename News _ _ _ _ => N2
      with_reducible rename (find4 _ _ _ _ = -1) => hf
      with_reducible rename (Int.fmod _ _ = 0) => hm
      with_reducible rename (0 < e) => he
      obtain ⟨k, rfl, hk, hc⟩ := PI_break hI he hm
      refine' ⟨(k, _, vs ++ [_], n + 1), _, _, _, _, rfl, F2, N2, fun p hp => hp, ?a1, PO_next hP hlt hc (val_none hc.1 (by omega) hf), ?a2⟩
      case a1 => kst_all
      case a2 => have := hc.1; dsimp only at hlt ⊢; omega
    · with_reducible rename Fr _ _ _ _ => F2
      with_reducible rename News _ _ _ _ => N2
      with_reducible rename (find4 _ _ _ _ ≠ -1) => hf
      with_reducible rename (Int.fmod _ _ = 0) => hm
      with_reducible rename (0 < e) => he
      obtain ⟨k, rfl, hk, hc⟩ := PI_break hI he hm
      refine' ⟨(k, _, vs ++ [_], n + 1), _, _, _, _, rfl, F2, N2, fun p hp => hp, ?a1, PO_next hP hlt hc (val_some hc.1 (by omega) hf), ?a2⟩
      case a1 => kst_all
      case a2 => have := hc.1; dsimp only at hlt ⊢; omega
    · with_reducible rename Fr _ _ _ _ => F2
      with_reducible rename News _ _ _ _ => N2
      with_reducible rename (Int.fmod _ _ ≠ 0) => hm
      with_reducible rename (0 < e) => he
      obtain ⟨hn, hmu⟩ := PI_next hI he hm
      refine' ⟨(!b, i, _, _, _, _, _), _, _, _, _, rfl, F2, N2, fun p hp => .tail _ hp, ?a1, hn, hmu⟩
      case a1 => kst_all
    · with_reducible rename Fr _ _ _ _ => F2
      with_reducible rename News _ _ _ _ => N2
      with_reducible rename (find4 _ _ _ _ = -1) => hf
      with_reducible rename (¬ 0 < e) => he
      obtain ⟨_, hc⟩ := PI_out hI (by omega) (by omega) he
      refine' ⟨((pY x).length, _, vs ++ [_], n + 1), _, _, _, _, rfl, F2, N2, fun p hp => hp, ?a1, PO_next hP hlt hc (val_none hc.1 (Nat.le_refl _) hf), ?a2⟩
      case a1 => kst_all
      case a2 => dsimp only at hlt ⊢; omega
    · with_reducible rename Fr _ _ _ _ => F2
      with_reducible rename News _ _ _ _ => N2
      with_reducible rename (find4 _ _ _ _ ≠ -1) => hf
      with_reducible rename (¬ 0 < e) => he
      obtain ⟨_, hc⟩ := PI_out hI (by omega) (by omega) he
      refine' ⟨((pY x).length, _, vs ++ [_], n + 1), _, _, _, _, rfl, F2, N2, fun p hp => hp, ?a1, PO_next hP hlt hc (val_some hc.1 (Nat.le_refl _) hf), ?a2⟩
      case a1 => kst_all
      case a2 => dsimp only at hlt ⊢; omega
  · with_reducible rename (Txt.find3 _ _ _ ≠ _) => hf
    refine ret _ vs n _ _ (by assumption) (by assumption) l1 (PO_done hP hf) ?_
    have h1 : vs.length ≤ st := hP.hvl
    have h2 : st ≤ (lt (pY x)).length := hP.hle
    have h3 := pY_len x
    omega
end Mine

end
section
open PySem PySem.W PySem.Calls PyProof.Rows PyProof.V PySem.Builtin PySem.Builtin.Str
namespace Mine
section
variable {prog : Program} {w : World} {A : Around} {E : Value → Shared → Prop} {s : Shared} {h₀ : Heap} {L : Addr} {m : Str → Option Value} {env : Env}

structure CEnd (h₀ : Heap) (L : Addr) (m : Str → Option Value) (s₁ : Shared) (led : List (Addr × Obj)) (J : Prop) (s₂ : Shared) : Prop where
  j : J
  e : ∃ h' tk' news', s₂ = { s₁ with heap := h', toks := tk' } ∧ Fr h₀ L h' m ∧ News h₀ L h' news' ∧ ∀ p ∈ led, p ∈ news'

theorem my_rest {elt : Expr} {x : Str} {scope : Scope} {cl : List (Str × Addr)} {S : List (Addr × Obj) → Prop} {P : Nat → Value → Prop} {Fin : List Value → List (Addr × Obj) → Prop} {n : Nat} {news : List (Addr × Obj)} (J : Nat → List Value → Prop) (hS : S news) (h0 : J 0 [])
    (turn : ∀ i v ys I oI C oC D m₂ h tk (E' : Value → Shared → Prop), i < n → P i v → J i ys → ys.length ≤ i → LCg.NsObj oC m₂ → m₂ x = some v → Fr h₀ L h m → News h₀ L h ((I, oI) :: (C, oC) :: (D, LCg.lst ys) :: news) → LCg.Off3 I C D news → ((@Ne Nat I C) ∧ (@Ne Nat I D) ∧ (@Ne Nat C D)) →
      wpAny (model prog w) A (eval elt (compEnvC scope cl C env)) (fun y s₂ => CEnd h₀ L m { s with heap := h, toks := tk } ((I, oI) :: (C, oC) :: (D, LCg.lst ys) :: news) (J (i + 1) (ys ++ [y])) s₂) E' { s with heap := h, toks := tk })
    (fin : ∀ ys, J n ys → ys.length ≤ n → Fin ys news) : LCg.CompRest prog w A h₀ L m env elt x scope cl s S P Fin n 0 [] news := by
  have key : ∀ (j i : Nat) (ys : List Value), i + j = n → J i ys → ys.length ≤ i → LCg.CompRest prog w A h₀ L m env elt x scope cl s S P Fin j i ys news := by
    intro j
    induction j with
    | zero =>
      intro i ys hi hJ hl
      have : i = n := by omega
      subst this
      exact LCg.CompRest.zero (fin ys hJ hl)
    | succ j ih =>
      intro i ys hi hJ hl
      refine LCg.CompRest.succ ?_
      intro v I oI C oC D m₂ h tk E' hv hC hx F N off ne
      refine wpAny_mono (turn i v ys I oI C oC D m₂ h tk E' (by omega) hv hJ hl hC hx F N off ne) (fun y s₂ hq => ?_) fun _ _ e => e
      obtain ⟨hJ', h', tk', news', rfl, F', N', hn⟩ := hq
      exact ⟨h', tk', news, rfl, F', fun p hp => N' p (hn p hp), off, hS, ih (i + 1) _ (by omega) hJ' (by simp; omega)⟩
  exact key n 0 [] (by omega) h0 (Nat.le_refl _)

theorem my_restT {ct elt : Expr} {x : Str} {scope : Scope} {cl : List (Str × Addr)} {S : List (Addr × Obj) → Prop} {P : Nat → Value → Prop} {Fin : List Value → List (Addr × Obj) → Prop} {n : Nat} {news : List (Addr × Obj)} (J : Nat → List Value → Prop) (hS : S news) (h0 : J 0 [])
    (turn : ∀ i v ys I oI C oC D m₂ h tk (E' : Value → Shared → Prop), i < n → P i v → J i ys → ys.length ≤ i → LCg.NsObj oC m₂ → m₂ x = some v → Fr h₀ L h m → News h₀ L h ((I, oI) :: (C, oC) :: (D, LCg.lst ys) :: news) → LCg.Off3 I C D news → ((@Ne Nat I C) ∧ (@Ne Nat I D) ∧ (@Ne Nat C D)) →
      wpAny (model prog w) A (isTrue ct (compEnvC scope cl C env) (eval ct (compEnvC scope cl C env))) (fun ok s' => if ok = true then
        wpAny (model prog w) A (eval elt (compEnvC scope cl C env)) (fun y s₂ => CEnd h₀ L m { s with heap := h, toks := tk } ((I, oI) :: (C, oC) :: (D, LCg.lst ys) :: news) (J (i + 1) (ys ++ [y])) s₂) E' s'
        else CEnd h₀ L m { s with heap := h, toks := tk } ((I, oI) :: (C, oC) :: (D, LCg.lst ys) :: news) (J (i + 1) ys) s') E' { s with heap := h, toks := tk })
    (fin : ∀ ys, J n ys → ys.length ≤ n → Fin ys news) : LCt.CompRestT prog w A h₀ L m env ct elt x scope cl s S P Fin n 0 [] news := by
  have key : ∀ (j i : Nat) (ys : List Value), i + j = n → J i ys → ys.length ≤ i → LCt.CompRestT prog w A h₀ L m env ct elt x scope cl s S P Fin j i ys news := by
    intro j
    induction j with
    | zero =>
      intro i ys hi hJ hl
      have : i = n := by omega
      subst this
      exact LCt.CompRestT.zero (fin ys hJ hl)
    | succ j ih =>
      intro i ys hi hJ hl
      refine LCt.CompRestT.succ ?_
      intro v I oI C oC D m₂ h tk E' hv hC hx F N off ne
      refine wpAny_mono (turn i v ys I oI C oC D m₂ h tk E' (by omega) hv hJ hl hC hx F N off ne) (fun ok s₂ hq => ?_) fun _ _ e => e
      cases ok with
      | false =>
        simp only [Bool.false_eq_true, if_false] at hq ⊢
        obtain ⟨hJ', h', tk', news', rfl, F', N', hn⟩ := hq
        exact ⟨h', tk', news, rfl, F', fun p hp => N' p (hn p hp), off, hS, ih (i + 1) _ (by omega) hJ' (by omega)⟩
      | true =>
        simp only [if_true] at hq ⊢
        refine wpAny_mono hq (fun y s₃ hq => ?_) fun _ _ e => e
        obtain ⟨hJ', h', tk', news', rfl, F', N', hn⟩ := hq
        exact ⟨h', tk', news, rfl, F', fun p hp => N' p (hn p hp), off, hS, ih (i + 1) _ (by omega) hJ' (by simp; omega)⟩
  exact key n 0 [] (by omega) h0 (Nat.le_refl _)

def SrcStrT (prog : Program) (w : World) (A : Around) (h₀ : Heap) (L : Addr) (m : Str → Option Value) (env : Env) (ct elt : Expr) (x : Str) (scope : Scope) (cl : List (Str × Addr)) (Fin : Shared → List Value → List (Addr × Obj) → Prop) (xv : Value) (s₁ : Shared) : Prop :=
  ∃ y t news, xv = .str y t ∧ A.handled = none ∧ Fr h₀ L s₁.heap m ∧ News h₀ L s₁.heap news ∧ y.cps.size ≤ sizeLine ∧
    ∀ s₂ : Shared, (∃ h, s₂ = { s₁ with heap := h }) → LCt.CompRestT prog w A h₀ L m env ct elt x scope cl s₂ (fun _ => True) (SignAt y) (Fin s₂) y.cps.size 0 [] news

theorem comp_strT {ct elt iter : Expr} {x : Str} {px : Pos} {scope : Scope} {cl : List (Str × Addr)} {pos : Pos} {Q : Value → Shared → Prop} (F₀ : Fr h₀ L s.heap m)
    (hclos : closureFor scope env = pure cl) (hcell : ∀ y ∈ scope.names, y.2 ≠ .cell) (hkind : scope.kind = .function)
    (hnames : ∀ y ∈ scope.names, y.2 = .local → scope.names.lookup y.1 = some .local) (hx : scope.names.lookup x = some .local)
    (h : wpAny (model prog w) A (eval iter env) (SrcStrT prog w A h₀ L m env ct elt x scope cl (fun s₂ => LCg.FinE h₀ L m s₂ Q)) E s)
    (hs : ∀ x, foldedSetIterable iter env x = pure x := by intro _; rfl) :
    wpAny (model prog w) A (eval (.ListComp elt [⟨.Name x px, iter, [ct], 0⟩] scope pos) env) Q E s := by
  rw [eval_ListComp]
  refine wpAny_comprehension_free (use := none) rfl hs hclos hkind hnames (wpAny_mono h (fun xv s₁ h₁ => ?_) fun _ _ e => e)
  obtain ⟨y, t, news, rfl, hh, F, N, hsz, R⟩ := h₁
  cases ha : y.cps.all (· < 128)
  · refine wpAny_pyIter_wide ha ?_
    refine LCt.block_T (Walks.strWide hh s₁.heap.objs.size y t) hsz (fun i h st => let ⟨o, e, _⟩ := st; ⟨o, e⟩) (fun i h h' o nw st e e' _ _ _ => let ⟨o', q, r⟩ := st; ⟨o, e', by rw [e] at q; cases q; exact r⟩) hcell hkind hx ⟨_, Heap.get?_push_size _ rfl, rfl, rfl⟩ (fun b hb => ?_)
      (F.keeps fun _ _ e => Heap.get?_push_of_some _ e) (N.grown fun _ _ e => Heap.get?_push_of_some _ e) (Nat.ne_of_lt F.ns.lt) (next_is_new F) (fun p hp => Nat.ne_of_lt (Heap.lt_size (N p hp).1)) trivial (R _ ⟨_, rfl⟩) ?_
    · rw [List.mem_singleton.mp hb]
      show s₁.heap.objs.size < (s₁.heap.push _).objs.size
      rw [Heap.size_push]; exact Nat.lt_succ_self _
    · intro D C h tk m' ys news' F' N' o1 hn hC₀ hD₀ hCL hDL hCD offC fin
      refine ⟨m', hn, fun h'' hs'' => fin D h'' tk (F'.change hs'' hCL hC₀) (fun p hp => ?_) o1⟩
      refine ⟨hs''.extBut _ _ ?_ (N' p hp).1, (N' p hp).2⟩
      rcases List.mem_cons.mp hp with rfl | hp
      · exact Ne.symm hCD
      · exact offC p hp
  · refine wpAny_pyIter_ascii ha ?_
    refine LCt.block_T (Walks.strAscii hh s₁.heap.objs.size y t) hsz (fun i h st => let ⟨o, e, _⟩ := st; ⟨o, e⟩) (fun i h h' o nw st e e' _ _ _ => let ⟨o', q, r⟩ := st; ⟨o, e', by rw [e] at q; cases q; exact r⟩) hcell hkind hx ⟨_, Heap.get?_push_size _ rfl, rfl, rfl⟩ (fun b hb => ?_)
      (F.keeps fun _ _ e => Heap.get?_push_of_some _ e) (N.grown fun _ _ e => Heap.get?_push_of_some _ e) (Nat.ne_of_lt F.ns.lt) (next_is_new F) (fun p hp => Nat.ne_of_lt (Heap.lt_size (N p hp).1)) trivial (R _ ⟨_, rfl⟩) ?_
    · rw [List.mem_singleton.mp hb]
      show s₁.heap.objs.size < (s₁.heap.push _).objs.size
      rw [Heap.size_push]; exact Nat.lt_succ_self _
    · intro D C h tk m' ys news' F' N' o1 hn hC₀ hD₀ hCL hDL hCD offC fin
      refine ⟨m', hn, fun h'' hs'' => fin D h'' tk (F'.change hs'' hCL hC₀) (fun p hp => ?_) o1⟩
      refine ⟨hs''.extBut _ _ ?_ (N' p hp).1, (N' p hp).2⟩
      rcases List.mem_cons.mp hp with rfl | hp
      · exact Ne.symm hCD
      · exact offC p hp
end

structure Hd (p : Prop) : Prop where out : p
theorem mem2 {α : Type} {a b : α} {l : List α} : ∀ p ∈ a :: l, p ∈ a :: b :: l := fun p hp => by
  rcases List.mem_cons.mp hp with rfl | hp
  · exact .head _
  · exact .tail _ (.tail _ hp)
theorem isList_of {h₀ h : Heap} {L D : Addr} {news : List (Addr × Obj)} {vs : List Value} {n : Nat} (N : News h₀ L h news) (hm : (D, ({ cls := .type "list", data := .seq vs.toArray n } : Obj)) ∈ news) : h.IsList D vs.toArray := ⟨_, (N _ hm).1, rfl, n, rfl⟩
section
variable {prog : Program} {w : World} {A : Around} {E : Value → Shared → Prop} {Q : Value → Shared → Prop} {hp : Heap} {gs : Array GenState} {dr : Drawn} {tk : Nat} {os : OsState} {h₀ : Heap} {L D : Addr} {m : Str → Option Value} {news : List (Addr × Obj)} {x : Str} {t : Tok}
theorem join_c {vs : List Value} {n : Nat} {ys : List Str} (N : News h₀ L hp news) (hm : (D, ({ cls := .type "list", data := .seq vs.toArray n } : Obj)) ∈ news) (hy : StrsAre vs ys) (hs : (ys.map (·.length)).sum + ys.length * x.length ≤ 16777216)
    (h : ∀ t' k, Q (.str (Str.join x ys) t') ⟨hp, gs, dr, k, os⟩) : wpAny (model prog w) A (call (.builtin "str.join") [.str x t, .ref D]) Q E ⟨hp, gs, dr, tk, os⟩ :=
  join_list (s := ⟨hp, gs, dr, tk, os⟩) (isList_of N hm) (by simpa using hy) hs (fun t' k => by
    have e : Txt.join x ys = Str.join x ys := StrLaws.glued_eq_join x ys
    rw [e]; exact h t' k)
theorem join_cE {vs : List Value} {n : Nat} {ys : List Str} {b : Str} (N : News h₀ L hp news) (hm : (D, ({ cls := .type "list", data := .seq vs.toArray n } : Obj)) ∈ news) (hy : StrsAre vs ys) (hs : (ys.map (·.length)).sum + ys.length * x.length ≤ 16777216)
    (e : Str.join x ys = b) (h : ∀ t' k, Q (.str b t') ⟨hp, gs, dr, k, os⟩) : wpAny (model prog w) A (call (.builtin "str.join") [.str x t, .ref D]) Q E ⟨hp, gs, dr, tk, os⟩ :=
  join_c N hm hy hs (e ▸ h)
end
section
variable {prog : Program} {w : World} {A : Around} {E : Value → Shared → Prop} {Q : Value → Shared → Prop} {s : Shared} {h₀ : Heap} {L D : Addr} {news : List (Addr × Obj)}
theorem item_c {value slice : Expr} {vs : List Value} {n : Nat} {ys : List Str} {k : Int} {u : Tok} (N : News h₀ L s.heap news) (hm : (D, ({ cls := .type "list", data := .seq vs.toArray n } : Obj)) ∈ news) (hy : StrsAre vs ys) (h0 : 0 ≤ k) (h1 : k < ys.length) (h2 : ys.length ≤ 1000000)
    (h : ∀ t', Q (.str (ys.getD k.toNat Str.empty) t') s)
    (hs : subscripted slice false (.ref D) (.int k u) = operate [.ref D, .int k u] (getItem (.ref D) (.int k u)) := by with_unfolding_all rfl) :
    wpAny (model prog w) A (subscriptTail value slice (.ref D) (.int k u)) Q E s := by
  have hk : k.toNat < ys.length := by omega
  obtain ⟨t', ht⟩ := StrsAre.at hy (j := k.toNat) (y := ys.getD k.toNat Str.empty) (by simp [List.getD_eq_getElem?_getD, hk])
  have hL := isList_of N hm
  exact tail_any hL.typeIs slot_list_getitem.lookup (wpAny_getItem_list hL h0 (by omega) (by simpa using ht) (h t')) hs
end
def Ok (ns : List Str) : Prop := ∀ x ∈ ns, ∀ c ∈ x.cps.toList, c < 0x110000
theorem canAll_strs : ∀ ns : List Str, Ok ns → PyData.canLayAll0 (ns.map PyData.str) = true
  | [], _ => rfl
  | x :: r, h => by
    have h1 : PyData.strOk x = true := by
      unfold PyData.strOk
      rw [Array.all_eq_true']
      intro c hc
      simpa using h x (.head _) c (by simpa using hc)
    simp [PyData.canLayAll0, PyData.canLay0, h1, canAll_strs r fun y hy => h y (.tail _ hy)]
theorem depthAll_strs : ∀ ns : List Str, PyData.depthAll (ns.map PyData.str) = 0
  | [] => rfl
  | _ :: r => by simp [PyData.depthAll, PyData.depth, depthAll_strs r]
theorem shaped_strs (ns : List Str) (h : Ok ns) : SeqAt.shaped (.list (ns.map PyData.str)) = true := by
  simp [SeqAt.shaped, PyData.canLay0, PyData.depth, canAll_strs ns h, depthAll_strs]
theorem sameAll_strs : ∀ ns ms : List Str, PySem.Spec.sameAll (ns.map PyData.str) (ms.map PyData.str) = decide (ns = ms)
  | [], [] => by simp [PySem.Spec.sameAll]
  | [], _ :: _ => by simp [PySem.Spec.sameAll]
  | _ :: _, [] => by simp [PySem.Spec.sameAll]
  | a :: r, b :: t => by
    simp only [List.map_cons, PySem.Spec.sameAll, PySem.Spec.same, sameAll_strs r t]
    by_cases h : a = b <;> by_cases h' : r = t <;> simp [h, h']
section
variable {prog : Program} {w : World} {A : Around} {E : Value → Shared → Prop} {s : Shared} {a b : Addr} {xs ys : List Value} {ns ms : List Str} {Q : Value → Shared → Prop} {h₀ : Heap} {L : Addr} {news : List (Addr × Obj)} {n k : Nat}
theorem eq_strs (N : News h₀ L s.heap news) (ha : (a, ({ cls := .type "list", data := .seq xs.toArray n } : Obj)) ∈ news) (hb : (b, ({ cls := .type "list", data := .seq ys.toArray k } : Obj)) ∈ news) (hi : StrsAre xs ns) (hj : StrsAre ys ms) (oi : Ok ns) (oj : Ok ms) (hu : A.units + 64 < cLine) (h : Q (.bool (decide (ns = ms))) s) :
    wpAny (model prog w) A (compareOp .Eq (.ref a) (.ref b)) Q E s :=
  eq_dataH_same (reads_newData (isList_of N ha) (StrsAre.carried hi)) (reads_newData (isList_of N hb) (StrsAre.carried hj)) (shaped_strs _ oi) (shaped_strs _ oj) hu (SeqAt.noMix_of_shape (.list .str) rfl _ _ (list_map_has fun _ => rfl) (list_map_has fun _ => rfl)) (by
    have e : PySem.Spec.same (.list (ns.map PyData.str)) (.list (ms.map PyData.str)) = decide (ns = ms) := by simp only [PySem.Spec.same]; exact sameAll_strs ns ms
    rw [e]; exact h)
theorem eq_strsT (N : News h₀ L s.heap news) (ha : (a, ({ cls := .type "list", data := .seq xs.toArray n } : Obj)) ∈ news) (hb : (b, ({ cls := .type "list", data := .seq ys.toArray k } : Obj)) ∈ news) (hi : StrsAre xs ns) (hj : StrsAre ys ms) (oi : Ok ns) (oj : Ok ms) (hu : A.units + 64 < cLine) (e : ns = ms) (h : Q (.bool true) s) :
    wpAny (model prog w) A (compareOp .Eq (.ref a) (.ref b)) Q E s :=
  eq_strs N ha hb hi hj oi oj hu (by rw [decide_eq_true e]; exact h)
theorem ne_strs (N : News h₀ L s.heap news) (ha : (a, ({ cls := .type "list", data := .seq xs.toArray n } : Obj)) ∈ news) (hb : (b, ({ cls := .type "list", data := .seq ys.toArray k } : Obj)) ∈ news) (hi : StrsAre xs ns) (hj : StrsAre ys ms) (oi : Ok ns) (oj : Ok ms) (hu : A.units + 64 < cLine) (h : Q (.bool (!decide (ns = ms))) s) :
    wpAny (model prog w) A (compareOp .NotEq (.ref a) (.ref b)) Q E s :=
  ne_dataH_same (reads_newData (isList_of N ha) (StrsAre.carried hi)) (reads_newData (isList_of N hb) (StrsAre.carried hj)) (shaped_strs _ oi) (shaped_strs _ oj) hu (SeqAt.noMix_of_shape (.list .str) rfl _ _ (list_map_has fun _ => rfl) (list_map_has fun _ => rfl)) (by
    have e : PySem.Spec.same (.list (ns.map PyData.str)) (.list (ms.map PyData.str)) = decide (ns = ms) := by simp only [PySem.Spec.same]; exact sameAll_strs ns ms
    rw [e]; exact h)
end
theorem join_signs : ∀ (l : List Nat), Str.join (Str.ofString "") (l.map fun c => ⟨#[c]⟩) = S l
  | [] => rfl
  | [c] => rfl
  | c :: d :: r => by
    have ih := join_signs (d :: r)
    simp only [List.map_cons] at ih ⊢
    rw [Str.join, ih]
    · refine PySem.Str.ext' ?_
      rw [PySem.Str.cps_append, PySem.Str.cps_append]
      show #[c] ++ (Str.ofString "").cps ++ (d :: r).toArray = (c :: d :: r).toArray
      rw [show (Str.ofString "").cps = #[] by decide +kernel]
      simp
    · intro h; cases h
theorem sum_signs : ∀ (l : List Nat), ((l.map fun c => (⟨#[c]⟩ : Str)).map (·.length)).sum = l.length
  | [] => rfl
  | c :: r => by
    have ih := sum_signs r
    simp only [List.map_cons, List.sum_cons, List.length_cons] at ih ⊢
    rw [ih]
    show 1 + r.length = _
    omega
end Mine

end
section
open PySem PySem.W PySem.Calls PyProof.Rows PySem.Builtin PySem.Builtin.Str
namespace Mine
theorem len_joinS (sep : Str) : ∀ l : List Str, (Str.join sep l).length ≤ (l.map (·.length)).sum + l.length * sep.length
  | [] => by simp [Str.join, Str.empty, Str.length]
  | [x] => by simp [Str.join]
  | x :: y :: r => by
    have ih := len_joinS sep (y :: r)
    rw [Str.join]
    · simp only [Str.length_append, List.map_cons, List.sum_cons, List.length_cons] at ih ⊢
      simp only [Nat.add_mul, Nat.one_mul] at ih ⊢
      omega
    · intro h; cases h
def glu (own : List Str) : Str := Str.join (Str.ofString ";") own
abbrev evenQ (b : Str) : Prop := qs false b.cps.toList % 2 = 0
def gf (b : Str) : Str := if Txt.find b (Str.ofString "=") < 0 then b else Txt.lower (Txt.slice b none (some (Txt.find b (Str.ofString "=")))) ++ Txt.slice b (some (Txt.find b (Str.ofString "="))) none
theorem sum_le1 : ∀ {ps : List Str}, (∀ p ∈ ps, p.length ≤ 1) → (ps.map (·.length)).sum ≤ ps.length
  | [], _ => Nat.le_refl _
  | p :: r, h => by
    have h1 := h p (.head _)
    have h2 := sum_le1 (ps := r) fun q hq => h q (.tail _ hq)
    simp only [List.map_cons, List.sum_cons, List.length_cons]
    omega
theorem updFOff {d o : Addr} {ob : Obj} {r : List (Addr × Obj)} (h : ∀ p ∈ r, p.1 < o) (hd : o ≤ d) : UpdF d ob ((d, ob) :: r) (fun o' => (d, o') :: r) := .head fun p hp => Nat.ne_of_lt (Nat.lt_of_lt_of_le (h p hp) hd)
theorem strs_get {vs : List Value} {ns : List Str} (h : StrsAre vs ns) {i : Nat} {v : Value} (hv : vs[i]? = some v) : ∃ p t, v = .str p t ∧ ns[i]? = some p := by
  have hl := StrsAre.len_eq h
  have hi := (List.getElem?_eq_some_iff.mp hv).1
  obtain ⟨t, ht⟩ := StrsAre.at h (j := i) (y := ns[i]'(by omega)) (by simp)
  rw [hv] at ht
  cases ht
  exact ⟨_, t, rfl, by simp⟩
theorem take_snoc {ns : List Str} {i : Nat} {p : Str} (f : Str → Str) (h : ns[i]? = some p) : (ns.take (i + 1)).map f = (ns.take i).map f ++ [f p] := by
  rw [List.take_add_one, h]; simp
section
variable {prog : Program} {w : World} {A : Around} {E : Value → Shared → Prop} {Q : Value → Shared → Prop} {hp : Heap} {gs : Array GenState} {dr : Drawn} {tk : Nat} {os : OsState} {h₀ : Heap} {L D D' : Addr} {m : Str → Option Value} {news : List (Addr × Obj)}
theorem addL_c {vs us : List Value} {n k : Nat} (F : Fr h₀ L hp m) (N : News h₀ L hp news) (ha : (D, ({ cls := .type "list", data := .seq vs.toArray n } : Obj)) ∈ news) (hb : (D', ({ cls := .type "list", data := .seq us.toArray k } : Obj)) ∈ news)
    (hz : vs.length + us.length ≤ 16777216) (h : ∀ d h', Fr h₀ L h' m → News h₀ L h' ((d, listOf (vs ++ us).toArray 0) :: news) → (∀ p ∈ news, p.1 < d) → Q (.ref d) ⟨h', gs, dr, tk, os⟩) : wpAny (model prog w) A (binaryOp .Add (.ref D) (.ref D')) Q E ⟨hp, gs, dr, tk, os⟩ :=
  add_arrays (s := ⟨hp, gs, dr, tk, os⟩) F N (isList_of N ha) (isList_of N hb) (fun h' F' N' => h _ h' F' (by simpa using N') fun p hp => Heap.lt_size (N p hp).1) (by rw [sizeLine_eq, List.size_toArray, List.size_toArray]; exact hz)
end
section
variable {prog : Program} {w : World} {A : Around} {E : Value → Shared → Prop} {Q : Value → Shared → Prop} {s : Shared} {h₀ : Heap} {L D : Addr} {news : List (Addr × Obj)}
theorem item0_c {value slice : Expr} {vs : List Value} {n : Nat} {f : Int} {r : List Int} {u : Tok} (N : News h₀ L s.heap news) (hm : (D, ({ cls := .type "list", data := .seq vs.toArray n } : Obj)) ∈ news) (hi : IntsAre vs (f :: r))
    (h : ∀ t', Q (.int f t') s)
    (hs : subscripted slice false (.ref D) (.int 0 u) = operate [.ref D, .int 0 u] (getItem (.ref D) (.int 0 u)) := by with_unfolding_all rfl) :
    wpAny (model prog w) A (subscriptTail value slice (.ref D) (.int 0 u)) Q E s := by
  have hL := isList_of N hm
  cases hi with
  | cons _ t _ => exact tail_any hL.typeIs slot_list_getitem.lookup (wpAny_getItem_list hL (Int.le_refl 0) (by decide) (by rfl) (h t)) hs
end
section
variable {prog : Program} {w : World} {A : Around} {E : Value → Shared → Prop} {Q : Value → Shared → Prop} {hp : Heap} {gs : Array GenState} {dr : Drawn} {tk : Nat} {os : OsState} {h₀ : Heap} {L D : Addr} {m : Str → Option Value} {news : List (Addr × Obj)}
theorem lenL_c {vs : List Value} {n : Nat} (N : News h₀ L hp news) (hm : (D, ({ cls := .type "list", data := .seq vs.toArray n } : Obj)) ∈ news) (hz : vs.length ≤ 16384)
    (h : ∀ t k, Q (.int (vs.length : Int) t) ⟨hp, gs, dr, k, os⟩) : wpAny (model prog w) A (call (.builtin "len") [.ref D]) Q E ⟨hp, gs, dr, tk, os⟩ :=
  kun_lenL (s := ⟨hp, gs, dr, tk, os⟩) (isList_of N hm) rfl (by simp only [List.size_toArray]; omega) (by simpa using h _ _)
end
end Mine

end
section
open PySem PySem.W PySem.Calls PyProof.Rows PySem.Builtin PySem.Builtin.Str
namespace Mine
theorem sl_to {x : Str} {k : Nat} (h : k ≤ x.length) : Txt.slice x none (some (k : Int)) = S ((lt x).take k) := by
  have hn : x.cps.toList.length = x.length := len_lt x
  refine (StrLaws.sliceText_to (x := x) ⟨by omega, by omega⟩).trans ?_
  simp
theorem sl_from {x : Str} {k : Nat} (h : k ≤ x.length) : Txt.slice x (some (k : Int)) none = S ((lt x).drop k) := by
  have hn : x.cps.toList.length = x.length := len_lt x
  refine (StrLaws.sliceText_from (x := x) ⟨by omega, by omega⟩).trans ?_
  rw [List.take_of_length_le (by rw [List.length_drop]; omega)]
  simp
theorem S_lt (x : Str) : S (lt x) = x := PySem.Str.ext' (by simp)
theorem lt_S (l : List Nat) : lt (S l) = l := by simp
theorem S_app (u v : List Nat) : S u ++ S v = S (u ++ v) := PySem.Str.ext' (by rw [PySem.Str.cps_append]; simp)
theorem len_S (l : List Nat) : (S l).length = l.length := by simp [Str.length]
def NB (x : Str) (p : Int) : Prop := Txt.slice (Txt.slice x none (some p)) (some (-1)) none ≠ Str.ofString "\\"
theorem bs_str : Str.ofString "\\" = S [92] := by decide +kernel
theorem qm_str : Str.ofString "\"" = S [34] := by decide +kernel
theorem NB_zero (x : Str) : NB x 0 := by
  intro h
  have h1 := Txt.slice_le (Txt.slice x none (some 0)) (some (-1)) none
  have h2 := congrArg Str.length h
  have h3 := congrArg Str.length (sl_to (x := x) (k := 0) (Nat.zero_le _))
  rw [bs_str] at h2
  simp only [len_S, List.take_zero, List.length_nil, List.length_cons] at h2 h3
  have h4 : ((0 : Nat) : Int) = 0 := rfl
  rw [h4] at h3
  omega
theorem NB_at {x : Str} {k : Nat} (hk : k + 1 ≤ x.length) (h : NB x ((k + 1 : Nat) : Int)) : (lt x)[k]? ≠ some 92 := by
  intro hc
  apply h
  have hn := len_lt x
  rw [sl_to hk]
  generalize hv : lt x = v at hc hn
  have hyl : (S (v.take (k + 1))).cps.toList = v.take (k + 1) := by simp
  have hl : (S (v.take (k + 1))).length = k + 1 := by rw [len_S, List.length_take]; omega
  generalize S (v.take (k + 1)) = y at hyl hl
  refine (StrLaws.sliceText_from_neg (x := y) (by omega) (by omega)).trans ?_
  have e3 : ((-1 : Int) + (y.length : Int)).toNat = k := by omega
  rw [e3, hyl, List.take_add_one, hc, List.drop_append_of_le_length (by rw [List.length_take]; omega), List.drop_of_length_le (by rw [List.length_take]; omega), bs_str, List.nil_append]
  have e4 : ∀ z : Nat, 1 ≤ z → List.take z (some 92).toList = [92] := fun z hz => List.take_of_length_le (show 1 ≤ z from hz)
  rw [e4]
  simp
  omega
end Mine

end
section
open PySem PySem.W PySem.Calls PyProof.Rows PySem.Builtin PySem.Builtin.Str
namespace Mine
local macro_rules | `(tactic| walk_at "call builtin:str.find") => `(tactic| (k_here; refine find3_c ?_; intro _ _))
local macro_rules | `(tactic| walk_at "call builtin:str.find") => `(tactic| (k_here; refine find4_c ?_; intro _ _))
local macro_rules | `(tactic| walk_at "call builtin:str.count") => `(tactic| (k_here; refine count4_c ?_; intro _ _))
local macro_rules | `(tactic| walk_at "binaryOp Add str str") => `(tactic| (k_here; k_dflt (refine add_c (by omega) ?_); intro _ _ _))
local macro_rules | `(tactic| walk_at "call builtin:str.strip") => `(tactic| (k_here; k_dflt (refine strip_c (by omega) ?_); intro _ _ _))
local macro_rules | `(tactic| walk_at "call builtin:str.rstrip") => `(tactic| (k_here; k_dflt (refine rstrip_c (by omega) ?_); intro _ _ _))
local macro_rules | `(tactic| walk_at "call builtin:str.lstrip") => `(tactic| (k_here; k_dflt (refine lstrip_c (by omega) ?_); intro _ _ _))
local macro_rules | `(tactic| walk_at "call builtin:str.lower") => `(tactic| (k_here; k_dflt (refine lower_c (by omega) ?_); intro _ _ _))
local macro_rules | `(tactic| walk_at "call builtin:list.append") => `(tactic| (k_here; k_dflt (refine' append_c ?k1 ?k2 ?k3 ?z ?_; (case k1 => k_asm); (case k2 => k_asm); (case k3 => k_upd); (case z => omega); k_whole); intro h' F' N'; (try k_sweep)))
local macro_rules | `(tactic| walk_at "WPost") => `(tactic| dsimp only [WPost])
local macro_rules | `(tactic| walk_at "FPost") => `(tactic| dsimp only [FPost])
local macro_rules | `(tactic| k_upd) => `(tactic| first | exact updHere (by assumption) | exact updOff (by assumption) | (refine' Upd.tail ?a ?b; (case a => k_ne); (case b => k_upd)))
local macro_rules | `(tactic| walk_at "storeName") => `(tactic| (k_here; k_dflt (refine st_int (by with_reducible assumption) (by with_reducible assumption) ?_); intro h' t' _ F' N'; (try k_sweep)))
local macro_rules | `(tactic| walk_at "storeName") => `(tactic| (k_here; k_dflt (refine st_str (by with_reducible assumption) (by with_reducible assumption) ?_); intro h' t' _ F' N'; (try k_sweep)))
local macro_rules | `(tactic| walk_at "exec While Compare cons nil") => `(tactic| refine Stop.out ?_)
local macro_rules | `(tactic| walk_at "pyIter ref") => `(tactic| refine Stop.out ?_)
local macro_rules | `(tactic| walk_at "exec For Name Name cons nil") => `(tactic| (k_here; (rename Fr _ _ _ _ => lF'); (with_unfolding_all refine' For_invVF lF' ?k1 ?k2 ?_; (case k1 => exact rfl); (case k2 => exact rfl); k_whole)))
local macro_rules | `(tactic| walk_at "eval ListComp") => `(tactic| refine Stop.out ?_)
local macro_rules | `(tactic| walk_at "CompSrc") => `(tactic| refine Stop.out ?_)
theorem sg_len (k : Nat) : ([Str.ofString ";", Str.ofString ";", Str.ofString ";", Str.ofString ";", Str.ofString ";", Str.ofString "\"", Str.ofString "\"", Str.ofString "\\",
            Str.ofString "=", Str.ofString " ", Str.ofString "\u2003", Str.ofString "a", Str.ofString "B",
            Str.ofString "É", Str.ofString "é", Str.ofString "x"].getD k Str.empty).length ≤ 1 := by
  rcases Nat.lt_or_ge k 16 with h | h
  · revert k
    decide +kernel
  · rw [List.getD_eq_getElem?_getD, List.getElem?_eq_none (by simpa using h)]
    decide +kernel
local macro_rules | `(tactic| k_updF) => `(tactic| first | exact updFOff (by assumption) (Nat.le_add_right _ _) | (refine' UpdF.tail ?a ?b; (case a => k_ne); (case b => k_updF)))
set_option maxRecDepth 100000 in
set_option maxHeartbeats 4000000 in
theorem text_c {w : World} {loose : List Str} {mean : ExcName → Option Value} {mg mb : Str → Option Value}
    {dp un : Nat} {gd : Option (List Code)} {cn : Str} {cs : Scope} {a : Addr} {ccd : Value} {cl : List (Str × Addr)} {outer : List Env} {A₀ : Around} {base h₀ : Heap} {L : Addr} {m : Str → Option Value} {s : Shared} {Q E : Value → Shared → Prop} {news : List (Addr × Obj)}
    {ls : Addr} {vs : List Value} {ns : List Int}
    (B : Below A₀ base outer h₀) (F : Fr h₀ L s.heap m) (X : (hd.heap_39 w.params).In h₀) (N : News h₀ L s.heap news) (T : Top hd.view_39 loose mean mg mb h₀) (hk : cs.kind = .function)
    (hdp : dp + 2 < recursionLimit) (hun : un + 16 < cLine) (hl : base.IsList ls vs.toArray) (hi : IntsAre vs ns) (hn : ns.length ≤ 63)
    (ret : ∀ x t h' tk', x.length ≤ 63 → Fr h₀ L h' m → News h₀ L h' news → Q (.str x t) { s with heap := h', toks := tk' }) :
    wpAny (model PR w) (ktrTop dp un gd cn cs L a ccd cl outer) (call (.ref 33) [.ref ls]) Q E s := by
  have kk : (fun (_ : OpenLaw) (K : Params → Frag) => True) PySem.Challenge.rw_at0001_02 hd.heap_39 := by w_top off; k_fill; trivial
  clear kk
  refine wpAny_call ?_
  k_dflt (refine' code_defC (binds := [(Str.ofString "script", Value.ref ls)]) ?k1 ?k2 ?k3 ?k4 ?k5 ?kA ?kF ?kK ?k6 ?k7 ?k8 ?k9 ?kB ?kD ?_ ?c2 ?c3 ?c4; (case kA => exact rfl); (case kF => exact rfl); (case kK => assumption); (case k1 => k_asm); (case k2 => k_asm); (case k3 => k_asm); (case k4 => k_asm); (case k5 => k_asm); (case k6 => k_is); (case k7 => k_is); (case k8 => ktr_room); (case k9 => exact BindsTo.of_eq rfl); (case kB => exact rfl); (case kD => decide +kernel); (case c2 => exact rfl); (case c3 => exact rfl); (case c4 => exact rfl); k_whole; intro g' L' h' tk' cells' FG' F' N' Y' B' X' T' l1; (try k_lt l1); k_cells Y'; (try simp only [List.cons_append, List.nil_append] at N'); (try dsimp only); (try k_lift B'); (try k_fold))
  refine no_raise ?_
  k_steps
  refine ⟨?_⟩
  refine LCg.ListComp_U (F₀ := by k_asm) (by with_unfolding_all rfl) (by decide) (by rfl) (by decide) (by rfl) ?_
  k_steps
  refine ⟨?_⟩
  rename Fr _ _ _ _ => F2
  rename News _ _ _ _ => N2
  have hlv := IntsAre.length hi
  refine LCg.CompSrc.base rfl F2 N2 (by assumption) (by rw [sizeLine_eq, List.size_toArray]; omega) (fun g => my_rest (fun i ys => ∃ ps, StrsAre ys ps ∧ ∀ p ∈ ps, p.length ≤ 1) (.inl (by assumption)) ⟨[], .nil, fun p hp => nomatch hp⟩ ?t1 ?f1)
  case t1 =>
    clear F2 N2
    rintro i v ys I oI C oC D m₂ h tk E' hi' hv ⟨ps, hJ, hP⟩ hl hC hxv F3 N3 off ne
    have hz := IntsAre.at hi i v (by simpa using hv)
    obtain ⟨n, tn, rfl, hn'⟩ := hz
    (try k_fold)
    k_steps
    exact ⟨⟨ps ++ [_], StrsAre.append' hJ (.cons _ _ .nil), fun p hp => by
      rcases List.mem_append.mp hp with hp | hp
      · exact hP p hp
      · rw [List.mem_singleton.mp hp]; exact sg_len _⟩, _, _, _, rfl, by assumption, by assumption, fun p hp => hp⟩
  case f1 =>
    intro ys hJ hlen
    obtain ⟨ps, hJ, hP⟩ := hJ
    have hpl := StrsAre.len_eq hJ
    rw [List.size_toArray] at hlen
    have hsum := sum_le1 hP
    have hjl := len_joinS (Str.ofString "") ps
    have h3 : (Str.ofString "").length = 0 := by decide
    rw [h3] at hjl
    k_steps
    refine join_c (by assumption) (.head _) hJ (by rw [h3]; omega) ?_
    intro t' k
    k_steps
    exact ret _ _ _ _ (by omega) (by assumption) (cb_drop (by assumption) fun p hp => .tail _ (.tail _ (.tail _ hp)))
end Mine

end
section
open PySem PySem.W PySem.Calls PyProof.Rows PySem.Builtin PySem.Builtin.Str
namespace Mine
local macro_rules | `(tactic| walk_at "call builtin:str.find") => `(tactic| (k_here; refine find3_c ?_; intro _ _))
local macro_rules | `(tactic| walk_at "call builtin:str.find") => `(tactic| (k_here; refine find4_c ?_; intro _ _))
local macro_rules | `(tactic| walk_at "call builtin:str.count") => `(tactic| (k_here; refine count4_c ?_; intro _ _))
local macro_rules | `(tactic| walk_at "binaryOp Add str str") => `(tactic| (k_here; k_dflt (refine add_c (by omega) ?_); intro _ _ _))
local macro_rules | `(tactic| walk_at "call builtin:str.strip") => `(tactic| (k_here; k_dflt (refine strip_c (by omega) ?_); intro _ _ _))
local macro_rules | `(tactic| walk_at "call builtin:str.rstrip") => `(tactic| (k_here; k_dflt (refine rstrip_c (by omega) ?_); intro _ _ _))
local macro_rules | `(tactic| walk_at "call builtin:str.lstrip") => `(tactic| (k_here; k_dflt (refine lstrip_c (by omega) ?_); intro _ _ _))
local macro_rules | `(tactic| walk_at "call builtin:str.lower") => `(tactic| (k_here; k_dflt (refine lower_c (by omega) ?_); intro _ _ _))
local macro_rules | `(tactic| walk_at "call builtin:list.append") => `(tactic| (k_here; k_dflt (refine' append_c ?k1 ?k2 ?k3 ?z ?_; (case k1 => k_asm); (case k2 => k_asm); (case k3 => k_upd); (case z => omega); k_whole); intro h' F' N'; (try k_sweep)))
local macro_rules | `(tactic| walk_at "WPost") => `(tactic| dsimp only [WPost])
local macro_rules | `(tactic| walk_at "FPost") => `(tactic| dsimp only [FPost])
local macro_rules | `(tactic| k_upd) => `(tactic| first | exact updHere (by assumption) | exact updOff (by assumption) | (refine' Upd.tail ?a ?b; (case a => k_ne); (case b => k_upd)))
local macro_rules | `(tactic| walk_at "storeName") => `(tactic| (k_here; k_dflt (refine st_int (by with_reducible assumption) (by with_reducible assumption) ?_); intro h' t' _ F' N'; (try k_sweep)))
local macro_rules | `(tactic| walk_at "storeName") => `(tactic| (k_here; k_dflt (refine st_str (by with_reducible assumption) (by with_reducible assumption) ?_); intro h' t' _ F' N'; (try k_sweep)))
local macro_rules | `(tactic| walk_at "exec While Compare cons nil") => `(tactic| refine Stop.out ?_)
local macro_rules | `(tactic| walk_at "pyIter ref") => `(tactic| refine Stop.out ?_)
local macro_rules | `(tactic| walk_at "exec For Name Name cons nil") => `(tactic| (k_here; (rename Fr _ _ _ _ => lF'); (with_unfolding_all refine' For_invVF lF' ?k1 ?k2 ?_; (case k1 => exact rfl); (case k2 => exact rfl); k_whole)))
local macro_rules | `(tactic| walk_at "compareOp NotEq ref ref") => `(tactic| refine Stop.out ?_)
local macro_rules | `(tactic| walk_at "exec For Name BinOp cons nil") => `(tactic| (k_here; (rename Fr _ _ _ _ => lF'); (with_unfolding_all refine' For_invVF lF' ?k1 ?k2 ?_; (case k1 => exact rfl); (case k2 => exact rfl); k_whole)))
theorem mem4 {α : Type} {a b c d : α} {l : List α} : ∀ p ∈ a :: l, p ∈ a :: b :: c :: d :: l := fun p hp => by
  rcases List.mem_cons.mp hp with rfl | hp
  · exact .head _
  · exact .tail _ (.tail _ (.tail _ (.tail _ hp)))
set_option maxRecDepth 100000 in
set_option maxHeartbeats 4000000 in
theorem places_c {w : World} {loose : List Str} {mean : ExcName → Option Value} {mg mb : Str → Option Value}
    {dp un : Nat} {gd : Option (List Code)} {cn : Str} {cs : Scope} {a : Addr} {ccd : Value} {cl : List (Str × Addr)} {outer : List Env} {A₀ : Around} {base h₀ : Heap} {L : Addr} {m : Str → Option Value} {s : Shared} {Q E : Value → Shared → Prop} {news : List (Addr × Obj)}
    {ls : Addr} {vs : List Value} {ns : List Int} {x : Str} {tx : Tok}
    (B : Below A₀ base outer h₀) (F : Fr h₀ L s.heap m) (X : (hd.heap_39 w.params).In h₀) (N : News h₀ L s.heap news) (T : Top hd.view_39 loose mean mg mb h₀) (hk : cs.kind = .function)
    (hdp : dp + 2 < recursionLimit) (hun : un + 100 < cLine) (hl : base.IsList ls vs.toArray) (hi : IntsAre vs ns) (hn : ns.length ≤ 63) (hx : x.length ≤ 63)
    (ret : ∀ r gs n h' tk' (ps : List Int), Fr h₀ L h' m → News h₀ L h' ((r, listOf gs.toArray n) :: news) → (∀ p ∈ news, p.1 < r) → IntsAre gs ps → ps ≠ [] → ps.length ≤ 4 → ps.Pairwise (· ≤ ·) → (∀ p ∈ ps, 0 ≤ p ∧ p ≤ x.length ∧ NB x p) → Q (.ref r) { s with heap := h', toks := tk' }) :
    wpAny (model PR w) (ktrTop dp un gd cn cs L a ccd cl outer) (call (.ref 40) [.ref ls, .str x tx]) Q E s := by
  have kk : (fun (_ : OpenLaw) (K : Params → Frag) => True) PySem.Challenge.rw_at0001_02 hd.heap_39 := by w_top off; k_fill; trivial
  clear kk
  refine wpAny_call ?_
  k_dflt cell_enter
  refine no_raise ?_
  k_steps
  refine ⟨?_⟩
  rename_i g1 L1 _ FG BB XX TT lp _ lA _ it _ lB D ws _ F1 N1 hI lC
  refine' my_for (σ := List Value × Nat) (fun c => [(lp, listOf c.1.toArray c.2)]) ((D, listOf ws.toArray 0) :: news) (fun c => [(Str.ofString "places", Value.ref lp), (Str.ofString "text", Value.str x tx)]) (fun i c => ∃ ps, IntsAre c.1 ps ∧ ps.length ≤ 4 ∧ ∀ p ∈ ps, 0 ≤ p ∧ p ≤ x.length ∧ NB x p) ([], 0) rfl (isList_of N1 (.head _)) (N1 _ (.head _)).2.1 ?hcl F1 ?n0 ?k1 ?k2 ?turn ?done rfl
  case hcl => exact fun c p hp => by rw [List.mem_singleton.mp hp]; rfl
  case n0 => exact cb_drop N1 (fun p hp => by
    rcases List.mem_cons.mp hp with rfl | hp
    · exact .tail _ (.tail _ (.head _))
    · rcases List.mem_cons.mp hp with rfl | hp
      · exact .head _
      · exact .tail _ (.tail _ (.tail _ hp)))
  case k1 => kst_all
  case k2 => exact ⟨[], .nil, by decide, fun p hp => nomatch hp⟩
  case turn =>
    clear F1 N1
    rintro i v ⟨pv, pn⟩ u h tk own hv ⟨ps, hP1, hP2, hP3⟩ hoff F1 N1
    dsimp only at hP1 hP2 hP3 F1 N1
    simp only [List.nil_append, List.cons_append] at N1
    have hz := IntsAre.at hI i v hv
    obtain ⟨n, tn, rfl, hn'⟩ := hz
    have hpl := IntsAre.length hP1
    have hnD : ∀ p ∈ ((D, listOf ws.toArray 0) :: (news ++ own) : List (Addr × Obj)), p.1 ≠ lp := fun p hp => by
      rcases List.mem_cons.mp hp with rfl | hp
      · exact Nat.ne_of_gt lC.2.1
      · rcases List.mem_append.mp hp with hp | hp
        · exact Nat.ne_of_lt (lA p hp)
        · exact hoff _ (.head _) (Nat.ne_of_lt lC.2.1) p hp
    (try k_fold)
    k_steps
    · exact ⟨(pv, pn), _, _, _, _, rfl, by assumption, by assumption, fun p hp => hp, by kst_all, ps, hP1, hP2, hP3⟩
    · rename ((_ != _) = true) => hne
      refine ⟨(pv ++ [_], pn + 1), _, _, _, _, rfl, by assumption, by assumption, fun p hp => hp, by kst_all, ps ++ [_], IntsAre.append hP1 (.cons _ _ .nil), by rw [List.length_append]; simp only [List.length_cons, List.length_nil]; omega, fun p hp => ?_⟩
      rcases List.mem_append.mp hp with hp | hp
      · exact hP3 p hp
      · rw [List.mem_singleton.mp hp]
        exact ⟨Int.fmod_nonneg_of_pos _ (by omega), by have := Int.fmod_lt_of_pos (n.fdiv 16) (b := (x.length : Int) + 1) (by omega); omega, by unfold NB; simpa using hne⟩
    · exact ⟨(pv, pn), _, _, _, _, rfl, by assumption, by assumption, fun p hp => hp, by kst_all, ps, hP1, hP2, hP3⟩
    · exact ⟨(pv, pn), _, _, _, _, rfl, by assumption, by assumption, fun p hp => hp, by kst_all, ps, hP1, hP2, hP3⟩
  case done =>
    clear F1 N1
    rintro ⟨pv, pn⟩ u h tk ⟨ps, hP1, hP2, hP3⟩ F1 N1
    dsimp only at hP1 hP2 hP3 F1 N1
    simp only [List.nil_append, List.cons_append] at N1
    have hpl := IntsAre.length hP1
    (try k_fold)
    k_steps
    refine ⟨?_⟩
    rename News _ _ _ _ => N2
    refine ke_ne_ints (ys := []) (isList_of N2 (.tail _ (.head _))) (isList_of N2 (.head _)) hP1 .nil ?u1 ?_
    case u1 => ktr_units
    k_steps
    · rename (_ < _ ∧ _ < _ ∧ _ < _ ∧ AllLt _ news) => l5
      exact ret _ _ _ _ _ [0] (by assumption) (cb_drop (by assumption) mem4) (ltAll_of l5.2.2.2) (.cons _ _ .nil) (by decide) (by decide) (by simp) (fun p hp => by
        rw [List.mem_singleton.mp hp]
        exact ⟨by decide, by omega, NB_zero x⟩)
    · rename (_ < _ ∧ _ < _ ∧ _ < _ ∧ AllLt _ news) => l5
      rename (decide (ps = []) = false) => hne
      rename (List.length _ = ps.length) => e5
      rename (List.Perm _ ps) => p5
      rename (List.Pairwise _ _) => o5
      rename (IntsAre _ _) => i5
      have hne' : ps ≠ [] := by simpa using hne
      exact ret _ _ _ _ _ _ (by assumption) (cb_drop (by assumption) mem4) (ltAll_of l5.2.2.2) i5 (fun e => hne' (List.length_eq_zero_iff.mp (by rw [← e5, e]; rfl))) (by omega) o5 (fun p hp => hP3 p (p5.mem_iff.mp hp))
end Mine

end
section
open PySem PySem.W PySem.Calls PyProof.Rows PySem.Builtin PySem.Builtin.Str
namespace Mine
/-- a turn that ends as it should -/
def FPostN {σ : Type} (h₀ : Heap) (L : Addr) (s : Shared) (Led : σ → List (Addr × Obj)) (rest : List (Addr × Obj)) (ps : σ → List (Str × Value)) (P : σ → Prop) (f : Flow) (s₂ : Shared) : Prop :=
  match f with
  | .next => FEnd h₀ L s Led rest ps P s₂
  | _ => False
def plainD (o : Obj) : Bool := match o.data with | .seq _ _ => true | .cell _ => true | _ => false
section
variable {prog : Program} {w : World} {A : Around} {E : Value → Shared → Prop} {s : Shared} {env : Env} {h₀ : Heap} {L : Addr}
theorem my_forC {σ : Type} {l : Addr} {vs : List Value} {x : Str} {px : Pos} {body : List Stmt} {m₀ : Str → Option Value} {Q : Flow → Shared → Prop} (Led : σ → List (Addr × Obj)) (fix : List (Addr × Obj)) (ps : σ → List (Str × Value)) (P : Nat → σ → Prop) (c₀ : σ)
    (hh : A.handled = none) (hl : s.heap.IsList l vs.toArray) (hlL : l ≠ L) (hcl : ∀ i c, P i c → ∀ p ∈ Led c, plainD p.2 = true)
    (F : Fr h₀ L s.heap m₀) (N : News h₀ L s.heap (Led c₀ ++ fix)) (hk : ∀ p ∈ ps c₀, m₀ p.1 = some p.2) (hp : P 0 c₀)
    (turn : ∀ i v (c : σ) (u : Str → Option Value) (z : Shared) own, vs[i]? = some v → P i c → (∀ q ∈ Led c, q.1 ≠ l → ∀ p ∈ own, p.1 ≠ q.1) →
      Fr h₀ L z.heap (kb u (ps c)) → News h₀ L z.heap (Led c ++ (fix ++ own)) →
      wpAny (model prog w) A (storeName env x v) (fun _ s₃ => wpAny (model prog w) A (execs body env) (FPostN h₀ L z Led (fix ++ own) ps (P (i + 1))) E s₃) E z)
    (done : ∀ (c : σ) (u : Str → Option Value) h tk, P vs.length c → Fr h₀ L h (kb u (ps c)) → News h₀ L h (Led c ++ fix) → Q .next { s with heap := h, toks := tk }) (hLe : env.locals = L) :
    wpAny (model prog w) A (pyIter (.ref l)) (fun it s₂ => LoopAtT prog w A h₀ env (.Name x px) body Q E it s₂) E s := by
  subst hLe
  obtain ⟨ol, hol, hol'⟩ := id hl
  have hlt : l < s.heap.objs.size := Heap.lt_size hol
  have hne : l ≠ s.heap.objs.size := Nat.ne_of_lt hlt
  have hLlt : env.locals < s.heap.objs.size := F.ns.lt
  refine wpAny_pyIter_list hl ?_
  have W := Walks.list (prog := prog) (w := w) hh s.heap.objs.size l hne vs.toArray
  refine ⟨_, _, _, vs.toArray.size, _, _, m₀, Led c₀ ++ fix, fun i m nx => ∃ c : σ, nx = Led c ++ fix ∧ (∀ p ∈ ps c, m p.1 = some p.2) ∧ P i c, rfl, W, ?_, ?_, ?_, ⟨⟨_, Heap.get?_push_size _ rfl, rfl, rfl⟩, hl.at fun o e => Heap.get?_push_of_some _ e⟩, F.push _, (fun p hp => ⟨Heap.get?_push_of_some _ (N p hp).1, (N p hp).2⟩), (fun i s' v Q' st hQ' => letGo_listiter st.1 hQ'), ⟨c₀, rfl, hk, hp⟩, ?_, ?_⟩
  · intro hm
    rcases List.mem_cons.mp hm with e | hm
    · exact absurd hLlt (e ▸ Nat.lt_irrefl _)
    · exact hlL (List.mem_singleton.mp hm).symm
  · intro b hb
    rw [List.mem_singleton.mp hb]
    cases hq : h₀.get? s.heap.objs.size with
    | none => rfl
    | some o' => exact absurd (Heap.lt_size (F.keep _ _ hq)) (Nat.lt_irrefl _)
  · intro p hp hI
    exact absurd (Heap.lt_size (N p hp).1) ((List.mem_singleton.mp hI) ▸ Nat.lt_irrefl _)
  · rintro i v m₁ news₁ s₁ own hin hP ⟨c, rfl, h1, hp'⟩ hoff hown hownh hfp hst F₁ N₁
    have hfix : ∀ p ∈ fix, p.1 ≠ s.heap.objs.size := fun p hp => Nat.ne_of_lt (Heap.lt_size (N p (List.mem_append.mpr (.inr hp))).1)
    have hI : ∃ o, s₁.heap.get? s.heap.objs.size = some o ∧ plainD o = false := by
      obtain ⟨⟨o, ho, _, hd⟩, _⟩ := hst
      exact ⟨o, ho, by unfold plainD; rw [hd]⟩
    obtain ⟨oI, hoI, hcI⟩ := hI
    have hnI : h₀.get? s.heap.objs.size = none := by
      cases hq : h₀.get? s.heap.objs.size with
      | none => rfl
      | some o' => exact absurd (Heap.lt_size (F.keep _ _ hq)) (Nat.lt_irrefl _)
    have hmI : (s.heap.objs.size, oI) ∈ own := hfp _ (.head _) hnI _ hoI
    have N₂ : News h₀ env.locals s₁.heap (Led c ++ (fix ++ own)) := fun p hp => N₁ p (by
      rcases List.mem_append.mp hp with h | h
      · exact List.mem_append.mpr (.inr (List.mem_append.mpr (.inl h)))
      · rcases List.mem_append.mp h with h | h
        · exact List.mem_append.mpr (.inr (List.mem_append.mpr (.inr h)))
        · exact List.mem_append.mpr (.inl h))
    have e1 : m₁ = kb m₁ (ps c) := by rw [kb_eq (u := m₁) h1]
    rw [e1] at F₁
    have hv : vs[i]? = some v := by simpa using hP
    refine wpAny_assign_Name (wpAny_mono (turn i v c m₁ s₁ own hv hp' ?_ F₁ N₂) (fun _ s₃ h₃ => wpAny_mono h₃ (fun f s₂ p => ?_) fun _ _ e => e) fun _ _ e => e)
    · intro q hq hql p hp e
      rcases List.mem_cons.mp (hown p hp) with h2 | h2
      · have h3 := (N₂ q (List.mem_append.mpr (.inl hq))).1
        rw [← e, h2] at h3
        have h4 := hoI.symm.trans h3
        cases h4
        rw [hcl i c hp' q hq] at hcI
        cases hcI
      · exact hql (e ▸ List.mem_singleton.mp h2)
    · have fin : FEnd h₀ env.locals s₁ Led (fix ++ own) ps (P (i + 1)) s₂ → LoopStepU h₀ env.locals [s.heap.objs.size] own (fun m nx => ∃ c : σ, nx = Led c ++ fix ∧ (∀ p ∈ ps c, m p.1 = some p.2) ∧ P (i + 1) c) s₁ .next s₂ := by
        rintro ⟨c', h', tk, m', news', rfl, F', N', hn, hk9, hp9⟩
        have hin2 : ∀ p ∈ Led c' ++ fix, p ∈ news' := fun p hp => hn p (by
          rcases List.mem_append.mp hp with h | h
          · exact List.mem_append.mpr (.inl h)
          · exact List.mem_append.mpr (.inr (List.mem_append.mpr (.inl h))))
        have hino : ∀ p ∈ own, p ∈ news' := fun p hp => hn p (List.mem_append.mpr (.inr (List.mem_append.mpr (.inr hp))))
        refine ⟨rfl, h', tk, m', Led c' ++ fix, rfl, F', fun p hp => N' p ((List.mem_append.mp hp).elim (hino p) (hin2 p)), fun p hp hq => ?_, c', rfl, hk9, hp9⟩
        have e := List.mem_singleton.mp hq
        rcases List.mem_append.mp hp with h | h
        · have h3 := (N' p (hin2 p hp)).1
          have h4 := (N' _ (hino _ hmI)).1
          rw [e] at h3
          have h5 := h4.symm.trans h3
          cases h5
          rw [hcl (i + 1) c' hp9 p h] at hcI
          cases hcI
        · exact hfix p h e
      cases f with
      | next => exact fin p
      | _ => exact p.elim
  · rintro h' tk m' news' F' N' _ ⟨c, rfl, h1, hp'⟩
    rw [← kb_eq (u := m') h1] at F'
    exact done c m' h' tk (by simpa using hp') F' N'
end
end Mine

end
section
open PySem PySem.W PySem.Calls PyProof.Rows PySem.Builtin PySem.Builtin.Str
namespace Mine
theorem sub_list (x : Str) (i j : Nat) : (strSub x i j).cps.toList = (x.cps.toList.take j).drop i := by
  unfold strSub
  simp [List.drop_take]
theorem part_none {x : Str} (h : 59 ∉ x.cps.toList) : Txt.partition x (Str.ofString ";") = (x, Str.empty, Str.empty) := by
  have e : Str.ofString ";" = ⟨#[59]⟩ := by decide +kernel
  unfold Txt.partition
  rw [e]
  rcases StrLaws.occ_head_from x ⟨#[59]⟩ 0 1 (Nat.le_refl 1) with ⟨h0, _⟩ | ⟨k, r, h0, _, hk, _⟩
  · rw [h0]
  · exact absurd (List.mem_of_getElem? ((StrLaws.subAt_one x 59 k).mp hk)) h
theorem part_some {x : Str} {u v : List Nat} (h : x.cps.toList = u ++ 59 :: v) (hu : 59 ∉ u) : Txt.partition x (Str.ofString ";") = (S u, Str.ofString ";", S v) := by
  have e : Str.ofString ";" = ⟨#[59]⟩ := by decide +kernel
  have hn : x.cps.toList.length = x.length := by simp [Str.length]
  have hx : x.cps.toList[u.length]? = some 59 := by rw [h]; simp
  unfold Txt.partition
  rw [e]
  rcases StrLaws.occ_head_from x ⟨#[59]⟩ 0 1 (Nat.le_refl 1) with ⟨_, h0⟩ | ⟨k, r, h0, _, hk, hf⟩
  · exact absurd ((StrLaws.subAt_one x 59 u.length).mpr hx) (h0 _ (Nat.zero_le _))
  · have hk' := (StrLaws.subAt_one x 59 k).mp hk
    have e1 : k = u.length := by
      rcases Nat.lt_trichotomy k u.length with h1 | h1 | h1
      · rw [h, List.getElem?_append_left h1] at hk'
        exact absurd (List.mem_of_getElem? hk') hu
      · exact h1
      · exact absurd ((StrLaws.subAt_one x 59 u.length).mpr hx) (hf _ (Nat.zero_le _) h1)
    subst e1
    rw [h0]
    have e2 : ∀ i j, strSub x i j = S ((x.cps.toList.take j).drop i) := fun i j => PySem.Str.ext' (by
      have := sub_list x i j
      simpa using congrArg List.toArray this)
    dsimp only
    rw [e2, e2]
    have e3 : (⟨#[59]⟩ : Str).length = 1 := rfl
    rw [e3, ← hn, List.take_length, h]
    simp
theorem cut59 : ∀ l : List Nat, 59 ∉ l ∨ ∃ u v, l = u ++ 59 :: v ∧ 59 ∉ u
  | [] => .inl (by simp)
  | c :: r => by
    by_cases hc : c = 59
    · exact .inr ⟨[], r, by rw [hc]; rfl, by simp⟩
    · rcases cut59 r with h | ⟨u, v, rfl, h⟩
      · exact .inl (by simp [h, Ne.symm hc])
      · exact .inr ⟨c :: u, v, rfl, by simp [h, Ne.symm hc]⟩
theorem find59 {b : Str} {u v : List Nat} (h : b.cps.toList = u ++ 59 :: v) (hu : 59 ∉ u) : Txt.find b (Str.ofString ";") = (u.length : Int) := by
  have hx : b.cps.toList[u.length]? = some 59 := by rw [h]; simp
  unfold Txt.find
  rw [show Str.ofString ";" = ⟨#[59]⟩ by decide +kernel]
  rcases StrLaws.occ_head_from b ⟨#[59]⟩ 0 1 (Nat.le_refl 1) with ⟨_, h0⟩ | ⟨k, r, h0, _, hk, hf⟩
  · exact absurd ((StrLaws.subAt_one b 59 u.length).mpr hx) (h0 _ (Nat.zero_le _))
  · have hk' := (StrLaws.subAt_one b 59 k).mp hk
    rw [h0]
    rcases Nat.lt_trichotomy k u.length with h1 | h1 | h1
    · rw [h, List.getElem?_append_left h1] at hk'
      exact absurd (List.mem_of_getElem? hk') hu
    · rw [h1]
    · exact absurd ((StrLaws.subAt_one b 59 u.length).mpr hx) (hf _ (Nat.zero_le _) h1)
theorem semi_str : Str.ofString ";" = S [59] := by decide +kernel
theorem spl_none {x : Str} (h : 59 ∉ x.cps.toList) : spl x = (Txt.strip x, none) := by unfold spl; rw [part_none h]; rfl
theorem spl_some {x : Str} {u v : List Nat} (h : x.cps.toList = u ++ 59 :: v) (hu : 59 ∉ u) : spl x = (Txt.strip (S u), some (Txt.strip (S v))) := by unfold spl; rw [part_some h hu]; rfl
theorem spl_case (y : Str) : (Txt.find (y ++ Str.ofString ";") (Str.ofString ";") = y.length ∧ spl y = (Txt.strip (Txt.slice y none (some (Txt.find (y ++ Str.ofString ";") (Str.ofString ";")))), none)) ∨
    (0 ≤ Txt.find (y ++ Str.ofString ";") (Str.ofString ";") ∧ Txt.find (y ++ Str.ofString ";") (Str.ofString ";") < y.length ∧ spl y = (Txt.strip (Txt.slice y none (some (Txt.find (y ++ Str.ofString ";") (Str.ofString ";")))), some (Txt.strip (Txt.slice y (some (Txt.find (y ++ Str.ofString ";") (Str.ofString ";") + 1)) none)))) := by
  have hn := len_lt y
  have hc : (y ++ Str.ofString ";").cps.toList = lt y ++ [59] := by rw [Str.cps_append, semi_str]; simp
  rcases cut59 (lt y) with h | ⟨u, v, h, hu⟩
  · refine .inl ?_
    rw [find59 hc h, hn, sl_to (Nat.le_refl _), List.take_of_length_le (Nat.le_of_eq hn), S_lt]
    exact ⟨rfl, spl_none h⟩
  · refine .inr ?_
    have hl : u.length + 1 + v.length = y.length := by rw [← hn, h]; simp only [List.length_append, List.length_cons]; omega
    rw [find59 (u := u) (v := v ++ [59]) (by rw [hc, h]; simp) hu]
    have e : ((u.length : Int) + 1) = ((u.length + 1 : Nat) : Int) := by omega
    rw [e, sl_to (by omega), sl_from (by omega), h]
    refine ⟨by omega, by omega, ?_⟩
    rw [spl_some h hu]
    have e1 : List.take u.length (u ++ 59 :: v) = u := by simp
    have e2 : List.drop (u.length + 1) (u ++ 59 :: v) = v := by
      rw [List.drop_append]; simp
    rw [e1, e2]
end Mine

end
section
open PySem PySem.W PySem.Calls PyProof.Rows PySem.Builtin PySem.Builtin.Str
namespace Mine
theorem tcount (x : Str) : Txt.count x (Str.ofString ";") = (((lt x).count 59 : Nat) : Int) := by
  have e : Txt.count x (Str.ofString ";") = count4 x ⟨#[59]⟩ ((0 : Nat) : Int) (x.length : Int) := by
    rw [semi_str]
    unfold count4 Txt.count
    rw [fromIndex_nat, endIdx_nat (Nat.le_refl _)]
  rw [e, occ_count x ⟨#[59]⟩ (Nat.zero_le _) (Nat.le_refl _) (fun i j h1 h2 => by change j < i + 1 at h2; omega)]
  have h := cnt1 x 59 x.length (Nat.le_refl _) x.length 0 (by omega)
  have e2 : x.length + 1 - 0 = x.length + 1 := by omega
  rw [e2, h]
  have e3 : seg (lt x) 0 x.length = lt x := by
    unfold seg
    rw [List.drop_zero, Nat.sub_zero, List.take_of_length_le (by rw [len_lt]; exact Nat.le_refl _)]
  rw [e3]
/-- the cuts of a text -/
def cn : Bool → Bool → List Nat → Nat
  | _, _, [] => 0
  | o, e, c :: r => (if c = 59 ∧ o = false then 1 else 0) + cn (o != (c == 34 && !e)) (c == 92) r
theorem pcs_len : ∀ (l : List Nat) (o e : Bool), (pcs o e l).length = cn o e l + 1
  | [], _, _ => rfl
  | c :: r, o, e => by
    unfold pcs cn
    by_cases h : c = 59 ∧ o = false
    · obtain ⟨rfl, rfl⟩ := h
      rw [if_pos ⟨rfl, rfl⟩, if_pos ⟨rfl, rfl⟩, List.length_cons, pcs_len r]
      have e1 : (false != ((59 : Nat) == 34 && !e)) = false := by simp
      have e2 : ((59 : Nat) == 92) = false := by decide
      rw [e1, e2]; omega
    · rw [if_neg h, if_neg h]
      have ih := pcs_len r (o != (c == 34 && !e)) (c == 92)
      cases hp : pcs (o != (c == 34 && !e)) (c == 92) r with
      | nil => rw [hp] at ih; simp at ih
      | cons p ps => rw [hp] at ih; simp only [List.length_cons] at ih ⊢; omega
theorem cn_flip : ∀ (l : List Nat) (o e : Bool), cn o e l + cn (!o) e l = l.count 59
  | [], _, _ => rfl
  | c :: r, o, e => by
    unfold cn
    have ih := cn_flip r (o != (c == 34 && !e)) (c == 92)
    have e1 : ((!o) != (c == 34 && !e)) = !(o != (c == 34 && !e)) := by cases o <;> cases (c == 34 && !e) <;> rfl
    rw [e1, List.count_cons]
    by_cases h : c = 59
    · subst h
      cases o <;> simp at ih ⊢ <;> omega
    · have h2 : (c == 59) = false := by simpa using h
      simp [h] at ih ⊢
      omega
/-- the state behind a text -/
def stt : Bool → Bool → List Nat → Bool × Bool
  | o, e, [] => (o, e)
  | o, e, c :: r => stt (o != (c == 34 && !e)) (c == 92) r
theorem cn_app : ∀ (u r : List Nat) (o e : Bool), cn o e (u ++ r) = cn o e u + cn (stt o e u).1 (stt o e u).2 r
  | [], r, o, e => by simp [cn, stt]
  | c :: u, r, o, e => by
    simp only [List.cons_append, cn, stt, cn_app u r]
    omega
theorem stt_snoc : ∀ (u : List Nat) (c : Nat) (o e : Bool), (stt o e (u ++ [c])).2 = (c == 92)
  | [], c, o, e => rfl
  | d :: u, c, o, e => by simp only [List.cons_append, stt]; exact stt_snoc u c _ _
theorem stt_end {u : List Nat} (h : ∀ k, k + 1 = u.length → u[k]? ≠ some 92) : (stt false false u).2 = false := by
  rcases List.eq_nil_or_concat u with rfl | ⟨v, c, rfl⟩
  · rfl
  · rw [List.concat_eq_append, stt_snoc]
    have := h v.length (by simp)
    simp at this
    simpa using this
/-- one mark more at a place -/
theorem cn_mark {u : List Nat} (r : List Nat) (h : (stt false false u).2 = false) : cn false false (u ++ r) + cn false false (u ++ 34 :: r) = 2 * cn false false u + r.count 59 := by
  rw [cn_app, cn_app, h]
  have h1 : cn (stt false false u).1 false (34 :: r) = cn (!(stt false false u).1) false r := by
    rw [cn]
    cases (stt false false u).1 <;> simp
  rw [h1]
  have := cn_flip r (stt false false u).1 false
  omega
def insL (k : Nat) (w : List Nat) : List Nat := w.take k ++ 34 :: w.drop k
def wysL (x : List Nat) : List Nat → List (List Nat)
  | [] => [x]
  | p :: r => wysL x r ++ (wysL x r).map (insL p)
theorem wysL_inv {x : List Nat} {f : Nat} (hf : f ≤ x.length) : ∀ {r : List Nat}, (∀ p ∈ r, f ≤ p ∧ p ≤ x.length) → ∀ w ∈ wysL x r, x.length ≤ w.length ∧ w.take f = x.take f ∧ (w.drop f).count 59 = (x.drop f).count 59
  | [], _, w, h => by rw [List.mem_singleton.mp h]; exact ⟨Nat.le_refl _, rfl, rfl⟩
  | p :: r, hp, w, h => by
    have ih := wysL_inv hf (r := r) fun q hq => hp q (.tail _ hq)
    have hp0 := hp p (.head _)
    rcases List.mem_append.mp h with h | h
    · exact ih w h
    · obtain ⟨v, hv, rfl⟩ := List.mem_map.mp h
      obtain ⟨h1, h2, h3⟩ := ih v hv
      have hlen : (v.take p).length = p := by rw [List.length_take]; omega
      refine ⟨by unfold insL; simp only [List.length_append, List.length_cons, List.length_take, List.length_drop]; omega, ?_, ?_⟩
      · unfold insL
        rw [List.take_append_of_le_length (by omega), List.take_take, Nat.min_eq_left hp0.1, h2]
      · rw [← h3]
        unfold insL
        rw [List.drop_append_of_le_length (by omega), List.count_append, List.count_cons]
        have e : v.drop f = (v.take p).drop f ++ v.drop p := by
          conv => lhs; rw [← List.take_append_drop p v]
          rw [List.drop_append_of_le_length (by omega)]
        rw [e, List.count_append]
        simp
theorem sum_pair {x : List Nat} {f : Nat} (hf : f ≤ x.length) (hb : ∀ k, k + 1 = f → x[k]? ≠ some 92) : ∀ W : List (List Nat), (∀ w ∈ W, x.length ≤ w.length ∧ w.take f = x.take f ∧ (w.drop f).count 59 = (x.drop f).count 59) →
    (W.map (cn false false)).sum + ((W.map (insL f)).map (cn false false)).sum = W.length * (2 * cn false false (x.take f) + (x.drop f).count 59)
  | [], _ => by simp
  | w :: W, h => by
    have ih := sum_pair hf hb W fun v hv => h v (.tail _ hv)
    obtain ⟨h1, h2, h3⟩ := h w (.head _)
    have hst : (stt false false (x.take f)).2 = false := stt_end fun k hk => by
      rw [List.length_take, Nat.min_eq_left hf] at hk
      rw [List.getElem?_take_of_lt (by omega)]
      exact hb k hk
    have hm := cn_mark (w.drop f) hst
    rw [h3, ← h2] at hm
    rw [List.take_append_drop] at hm
    rw [h2] at hm
    have hm2 : cn false false (insL f w) = cn false false (x.take f ++ 34 :: w.drop f) := by unfold insL; rw [h2]
    simp only [List.map_cons, List.sum_cons, List.length_cons, Nat.add_mul, Nat.one_mul]
    rw [hm2]
    omega
theorem sum_map_cast (l : List (List Nat)) : ((l.map fun w => (((cn false false w : Nat) : Int)))).sum = (((l.map (cn false false)).sum : Nat) : Int) := by
  induction l with
  | nil => rfl
  | cons a r ih => simp [ih]
end Mine

end
section
open PySem PySem.W PySem.Calls PyProof.Rows PySem.Builtin PySem.Builtin.Str
namespace Mine
def insS (p : Int) (w : Str) : Str := Txt.slice w none (some p) ++ Str.ofString "\"" ++ Txt.slice w (some p) none
def wysS (x : Str) : List Int → List Str
  | [] => [x]
  | p :: r => wysS x r ++ (wysS x r).map (insS p)
theorem insS_S {w : List Nat} {k : Nat} (h : k ≤ w.length) : insS (k : Int) (S w) = S (insL k w) := by
  have hl : (S w).length = w.length := len_S w
  unfold insS insL
  rw [sl_to (by omega), sl_from (by omega), qm_str, S_app, S_app, lt_S, List.append_assoc]
  rfl
theorem wys_S {x : Str} : ∀ {ps : List Int}, (∀ p ∈ ps, 0 ≤ p ∧ p ≤ x.length) → wysS x ps = (wysL (lt x) (ps.map Int.toNat)).map S
  | [], _ => by simp [wysS, wysL]
  | p :: r, h => by
    have ih := wys_S (ps := r) fun q hq => h q (.tail _ hq)
    have hp := h p (.head _)
    have hn := len_lt x
    have hinv := wysL_inv (x := lt x) (Nat.zero_le _) (r := r.map Int.toNat) fun q hq => by
      obtain ⟨z, hz, rfl⟩ := List.mem_map.mp hq
      have := h z (.tail _ hz)
      omega
    obtain ⟨k, rfl⟩ : ∃ k : Nat, p = k := ⟨p.toNat, by omega⟩
    simp only [wysS, wysL, List.map_cons, List.map_append, ih, List.map_map, Int.toNat_natCast]
    congr 1
    refine List.map_congr_left fun w hw => ?_
    have := (hinv w hw).1
    exact insS_S (by omega)
theorem parse_len1 (x : Str) : ((parse x).length : Int) - 1 = ((cn false false (lt x) : Nat) : Int) := by
  unfold parse
  show _ = ((cn false false x.cps.toList : Nat) : Int)
  rw [List.length_map, pcs_len]
  omega
theorem sum_cast2 (l : List (List Nat)) : ((l.map S).map fun w => ((parse w).length : Int) - 1).sum = (((l.map (cn false false)).sum : Nat) : Int) := by
  induction l with
  | nil => rfl
  | cons a r ih =>
    simp only [List.map_cons, List.sum_cons]
    rw [ih, parse_len1, lt_S]
    omega
theorem plain2 {x : Str} {f : Int} {r : List Int} (hs : (f :: r).Pairwise (· ≤ ·)) (hp : ∀ p ∈ f :: r, 0 ≤ p ∧ p ≤ x.length ∧ NB x p) :
    ((wysS x (f :: r)).map fun w => ((parse w).length : Int) - 1).sum = ((wysS x (f :: r)).length : Int) * (((parse (Txt.slice x none (some f))).length : Int) - 1) + ((wysS x (f :: r)).length : Int).fdiv 2 * Txt.count (Txt.slice x (some f) none) (Str.ofString ";") := by
  have hf := hp f (.head _)
  have hn := len_lt x
  rw [wys_S fun p hq => ⟨(hp p hq).1, (hp p hq).2.1⟩]
  have hge : ∀ z ∈ r, f ≤ z := (List.pairwise_cons.mp hs).1
  have hinv := wysL_inv (x := lt x) (f := f.toNat) (by omega) (r := r.map Int.toNat) fun q hq => by
    obtain ⟨z, hz, rfl⟩ := List.mem_map.mp hq
    have h1 := hp z (.tail _ hz)
    have h2 := hge z hz
    omega
  obtain ⟨k, rfl⟩ : ∃ k : Nat, f = k := ⟨f.toNat, by omega⟩
  rw [Int.toNat_natCast] at hinv
  have hpair := sum_pair (x := lt x) (f := k) (by omega) (fun j hj => by
    subst hj
    exact NB_at (by omega) hf.2.2) _ hinv
  rw [sum_cast2, List.length_map, List.map_cons, Int.toNat_natCast]
  simp only [wysL]
  generalize wysL (lt x) (List.map Int.toNat r) = W at hpair
  rw [sl_to (by omega), sl_from (by omega), parse_len1, tcount, lt_S, lt_S]
  rw [List.map_append, List.sum_append, hpair, List.length_append, List.length_map]
  generalize cn false false (List.take k (lt x)) = a
  generalize List.count 59 (List.drop k (lt x)) = b
  generalize W.length = n
  have e : ((n + n : Nat) : Int).fdiv 2 = n := by
    rw [Int.fdiv_eq_ediv_of_nonneg _ (by decide)]; omega
  rw [e, Nat.mul_add, Nat.mul_left_comm]
  push_cast
  rw [Int.add_mul]
  omega
end Mine

end
section
open PySem PySem.W PySem.Calls PyProof.Rows PySem.Builtin PySem.Builtin.Str
namespace Mine
local macro_rules | `(tactic| walk_at "call builtin:str.find") => `(tactic| (k_here; refine find3_c ?_; intro _ _))
local macro_rules | `(tactic| walk_at "call builtin:str.find") => `(tactic| (k_here; refine find4_c ?_; intro _ _))
local macro_rules | `(tactic| walk_at "call builtin:str.count") => `(tactic| (k_here; refine count4_c ?_; intro _ _))
local macro_rules | `(tactic| walk_at "binaryOp Add str str") => `(tactic| (k_here; k_dflt (refine add_c (by omega) ?_); intro _ _ _))
local macro_rules | `(tactic| walk_at "call builtin:str.strip") => `(tactic| (k_here; k_dflt (refine strip_c (by omega) ?_); intro _ _ _))
local macro_rules | `(tactic| walk_at "call builtin:str.rstrip") => `(tactic| (k_here; k_dflt (refine rstrip_c (by omega) ?_); intro _ _ _))
local macro_rules | `(tactic| walk_at "call builtin:str.lstrip") => `(tactic| (k_here; k_dflt (refine lstrip_c (by omega) ?_); intro _ _ _))
local macro_rules | `(tactic| walk_at "call builtin:str.lower") => `(tactic| (k_here; k_dflt (refine lower_c (by omega) ?_); intro _ _ _))
local macro_rules | `(tactic| walk_at "call builtin:list.append") => `(tactic| (k_here; k_dflt (refine' append_c ?k1 ?k2 ?k3 ?z ?_; (case k1 => k_asm); (case k2 => k_asm); (case k3 => k_upd); (case z => omega); k_whole); intro h' F' N'; (try k_sweep)))
local macro_rules | `(tactic| walk_at "WPost") => `(tactic| dsimp only [WPost])
local macro_rules | `(tactic| walk_at "FPost") => `(tactic| dsimp only [FPost])
local macro_rules | `(tactic| k_upd) => `(tactic| first | exact updHere (by assumption) | exact updOff (by assumption) | (refine' Upd.tail ?a ?b; (case a => k_ne); (case b => k_upd)))
local macro_rules | `(tactic| walk_at "storeName") => `(tactic| (k_here; k_dflt (refine st_int (by with_reducible assumption) (by with_reducible assumption) ?_); intro h' t' _ F' N'; (try k_sweep)))
local macro_rules | `(tactic| walk_at "storeName") => `(tactic| (k_here; k_dflt (refine st_str (by with_reducible assumption) (by with_reducible assumption) ?_); intro h' t' _ F' N'; (try k_sweep)))
local macro_rules | `(tactic| walk_at "exec While Compare cons nil") => `(tactic| refine Stop.out ?_)
local macro_rules | `(tactic| walk_at "pyIter ref") => `(tactic| refine Stop.out ?_)
local macro_rules | `(tactic| walk_at "exec For Name Name cons nil") => `(tactic| (k_here; (rename Fr _ _ _ _ => lF'); (with_unfolding_all refine' For_invVF lF' ?k1 ?k2 ?_; (case k1 => exact rfl); (case k2 => exact rfl); k_whole)))
local macro_rules | `(tactic| walk_at "FPostN") => `(tactic| dsimp only [FPostN])
local macro_rules | `(tactic| walk_at "exec For Name Subscript cons nil") => `(tactic| (k_here; (rename Fr _ _ _ _ => lF'); (with_unfolding_all refine' For_invTF lF' ?_ ?zs; (case zs => (intro _; with_unfolding_all rfl)); k_whole)))
local macro_rules | `(tactic| walk_at "eval ListComp") => `(tactic| refine Stop.out ?_)
local macro_rules | `(tactic| walk_at "CompSrc") => `(tactic| refine Stop.out ?_)
local macro_rules | `(tactic| walk_at "binaryOp Add ref ref") => `(tactic| refine Stop.out ?_)
local macro_rules | `(tactic| k_updF) => `(tactic| first | exact .head (by with_reducible assumption) | exact updFOff (by assumption) (Nat.le_add_right _ _) | (refine' UpdF.tail ?a ?b; (case a => k_ne); (case b => k_updF)))
theorem pow_le4 {k : Nat} (h : k ≤ 4) : 2 ^ k ≤ 16 := Nat.pow_le_pow_right (by decide) h
theorem wys_count (x : Str) : ∀ ps, (wysS x ps).length = 2 ^ ps.length
  | [] => rfl
  | p :: r => by
    have ih := wys_count x r
    simp only [wysS, List.length_append, List.length_map, List.length_cons, Nat.pow_succ, ih]
    omega
theorem wys_len (x : Str) : ∀ ps, ∀ w ∈ wysS x ps, w.length + 1 ≤ (x.length + 1) * 2 ^ ps.length
  | [], w, h => by rw [List.mem_singleton.mp h]; simp
  | p :: r, w, h => by
    have ih := wys_len x r
    rw [List.length_cons, Nat.pow_succ, ← Nat.mul_assoc]
    rcases List.mem_append.mp h with h | h
    · have := ih w h; omega
    · obtain ⟨v, hv, rfl⟩ := List.mem_map.mp h
      have h0 := ih v hv
      have h1 := Txt.slice_le v none (some p)
      have h2 := Txt.slice_le v (some p) none
      have h3 : (Str.ofString "\"").length = 1 := by decide
      unfold insS
      rw [Str.length_append, Str.length_append, h3]
      omega
set_option maxRecDepth 100000 in
set_option maxHeartbeats 4000000 in
theorem ways_c {w : World} {loose : List Str} {mean : ExcName → Option Value} {mg mb : Str → Option Value}
    {dp un : Nat} {gd : Option (List Code)} {cn : Str} {cs : Scope} {a : Addr} {ccd : Value} {cl : List (Str × Addr)} {outer : List Env} {A₀ : Around} {base h₀ : Heap} {L : Addr} {m : Str → Option Value} {s : Shared} {Q E : Value → Shared → Prop} {news : List (Addr × Obj)}
    {lh : Addr} {pv : List Value} {pn : Nat} {ps : List Int} {x : Str} {tx : Tok}
    (B : Below A₀ base outer h₀) (F : Fr h₀ L s.heap m) (X : (hd.heap_39 w.params).In h₀) (N : News h₀ L s.heap news) (T : Top hd.view_39 loose mean mg mb h₀) (hk : cs.kind = .function)
    (hdp : dp + 2 < recursionLimit) (hun : un + 100 < cLine) (hm : (lh, listOf pv.toArray pn) ∈ news) (hi : IntsAre pv ps) (hpn : ps.length ≤ 4) (hx : x.length ≤ 63)
    (ret : ∀ r (gs : List Value) n h' tk', Fr h₀ L h' m → News h₀ L h' ((r, listOf gs.toArray n) :: news) → (∀ p ∈ news, p.1 < r) → StrsAre gs (wysS x ps) → Q (.ref r) { s with heap := h', toks := tk' }) :
    wpAny (model PR w) (ktrTop dp un gd cn cs L a ccd cl outer) (call (.ref 45) [.str x tx, .ref lh]) Q E s := by
  replace N : News h₀ L s.heap ((lh, listOf pv.toArray pn) :: news) := cb_drop N fun p hp => by
    rcases List.mem_cons.mp hp with rfl | hp
    · exact hm
    · exact hp
  have kk : (fun (_ : OpenLaw) (K : Params → Frag) => True) PySem.Challenge.rw_at0001_02 hd.heap_39 := by w_top off; k_fill; trivial
  clear kk
  refine wpAny_call ?_
  k_dflt (refine' code_defC (binds := [(Str.ofString "text", Value.str x tx), (Str.ofString "places", Value.ref lh)]) ?k1 ?k2 ?k3 ?k4 ?k5 ?kA ?kF ?kK ?k6 ?k7 ?k8 ?k9 ?kB ?kD ?_ ?c2 ?c3 ?c4; (case kA => exact rfl); (case kF => exact rfl); (case kK => assumption); (case k1 => k_asm); (case k2 => k_asm); (case k3 => k_asm); (case k4 => k_asm); (case k5 => k_asm); (case k6 => k_is); (case k7 => k_is); (case k8 => ktr_room); (case k9 => exact BindsTo.of_eq rfl); (case kB => exact rfl); (case kD => decide +kernel); (case c2 => exact rfl); (case c3 => exact rfl); (case c4 => exact rfl); k_whole; intro g' L' h' tk' cells' FG' F' N' Y' B' X' T' l1; (try k_lt l1); k_cells Y'; (try simp only [List.cons_append, List.nil_append] at N'); (try dsimp only); (try k_lift B'); (try k_fold))
  refine no_raise ?_
  k_steps
  refine ⟨?_⟩
  rename_i o₀ d₀ la _ lA _ D ws _ F1 N1 hI hC lC
  have hwl := IntsAre.length hI
  refine' my_forC (σ := Addr × List Value × Nat × Obj) (fun c => [(c.1, listOf c.2.1.toArray c.2.2.1), (L' + 1, c.2.2.2)]) ((D, listOf ws.toArray 0) :: (lh, listOf pv.toArray pn) :: news) (fun c => [(Str.ofString "ways", Value.ref c.1), (Str.ofString "text", Value.str x tx)]) (fun i c => (∃ v₀, c.2.2.2.data = .cell v₀) ∧ StrsAre c.2.1 (wysS x (ps.drop (ps.length - i))) ∧ @LT.lt Nat _ (L' + 1) c.1 ∧ @LT.lt Nat _ lh c.1 ∧ ∀ p ∈ news, p.1 < c.1) (la, [.str x tx], 0, o₀) rfl (isList_of N1 (.head _)) (N1 _ (.head _)).2.1 ?hcl F1 ?n0 ?k1 ?k2 ?turn ?done rfl
  case hcl =>
    rintro i c ⟨⟨v₀, hv₀⟩, -⟩ p hp
    rcases List.mem_cons.mp hp with rfl | hp
    · rfl
    · rw [List.mem_singleton.mp hp]
      unfold plainD
      rw [hv₀]
  case n0 => exact cb_drop N1 (fun p hp => by
    rcases List.mem_cons.mp hp with rfl | hp
    · exact .tail _ (.head _)
    · rcases List.mem_cons.mp hp with rfl | hp
      · exact .tail _ (.tail _ (.head _))
      · rcases List.mem_cons.mp hp with rfl | hp
        · exact .head _
        · exact .tail _ (.tail _ (.tail _ hp)))
  case k1 => kst_all
  case k2 => exact ⟨⟨_, d₀⟩, by rw [Nat.sub_zero, List.drop_length]; exact StrsAre.cons x tx .nil, lA.1, lA.2.1, ltAll_of lA.2.2⟩
  case turn =>
    clear F1 N1
    rintro i v ⟨wa, wv, wn, oc⟩ u ⟨h, gs', dr', tk, os'⟩ own hv ⟨⟨v₀, hoc⟩, hP1, hP2, hP4, hP5⟩ hoff F1 N1
    dsimp only at hoc hP1 hP2 hP4 hP5 F1 N1
    simp only [List.nil_append, List.cons_append] at N1
    have hz := IntsAre.at hI i v hv
    obtain ⟨n, tn, rfl, hn'⟩ := hz
    have hpl := StrsAre.len_eq hP1
    have hnC : ∀ p ∈ ((D, listOf ws.toArray 0) :: (lh, listOf pv.toArray pn) :: (news ++ own) : List (Addr × Obj)), p.1 ≠ L' + 1 := fun p hp => by
      rcases List.mem_cons.mp hp with rfl | hp
      · exact Nat.ne_of_gt lC.2.1
      · rcases List.mem_cons.mp hp with rfl | hp
        · exact Nat.ne_of_lt (Nat.lt_of_lt_of_le l1.1 (Nat.le_add_right _ _))
        · rcases List.mem_append.mp hp with hp | hp
          · exact Nat.ne_of_lt (Nat.lt_of_lt_of_le (ltAll_of l1.2 p hp) (Nat.le_add_right _ _))
          · exact hoff _ (.tail _ (.head _)) (Nat.ne_of_lt lC.2.1) p hp
    (try k_fold)
    k_steps
    refine ⟨?_⟩
    refine LCg.ListComp_U (F₀ := by k_asm) (by with_unfolding_all rfl) (by decide) (by rfl) (by decide) (by rfl) ?_
    k_steps
    refine ⟨?_⟩
    rename Fr _ _ _ _ => F2
    rename News _ _ _ _ => N2
    have hiL : i < ps.length := by have := (List.getElem?_eq_some_iff.mp hv).1; omega
    have hcount := wys_count x (ps.drop (ps.length - i))
    have hlen := wys_len x (ps.drop (ps.length - i))
    have hpw := pow_le4 (k := (ps.drop (ps.length - i)).length) (by rw [List.length_drop]; omega)
    have hwb : ∀ w ∈ wysS x (ps.drop (ps.length - i)), w.length ≤ 2000 := fun w hw => by
      have h1 := hlen w hw
      have h2 : (x.length + 1) * 2 ^ (ps.drop (ps.length - i)).length ≤ 64 * 16 := Nat.mul_le_mul (by omega) hpw
      omega
    have hP1h : Hd (StrsAre wv (wysS x (ps.drop (ps.length - i)))) := ⟨hP1⟩
    clear hP1
    refine LCg.CompSrc.ledger rfl F2 N2 (.head _) (by rw [sizeLine_eq, List.size_toArray]; omega) (fun g => my_rest (fun j ys => StrsAre ys (((wysS x (ps.drop (ps.length - i))).take j).map (insS n))) (.inr ⟨_, .head _, rfl, _, rfl⟩) .nil ?t1 ?f1)
    case t1 =>
      clear F2 N2
      rintro j v ys I oI C oC D m₂ h tk E' hi hv hJ hl hC hxv F3 N3 off ne
      have hzz := strs_get hP1h.out (by simpa using hv)
      obtain ⟨p, tp, rfl, hp⟩ := hzz
      have hpl' := hwb p (List.mem_of_getElem? hp)
      have hq1 : (Str.ofString "\"").length = 1 := by decide
      (try k_fold)
      k_steps
      refine ⟨?_, _, _, _, rfl, by assumption, by assumption, fun p hp => hp⟩
      rw [take_snoc (insS n) hp]
      exact StrsAre.append' hJ (.cons _ _ .nil)
    case f1 =>
      intro ys hJ hlen
      rw [List.size_toArray, hpl, List.take_length] at hJ
      have hyl := StrsAre.len_eq hJ
      rw [List.length_map] at hyl
      k_steps
      refine ⟨?_⟩
      rename Fr _ _ _ _ => F2
      rename News _ _ _ _ => N2
      refine addL_c F2 N2 (.tail _ (.head _)) (.head _) (by omega) ?_
      clear F2 N2
      intro d h' F2 N2 ld
      k_steps
      rename Fr _ _ _ _ => F3
      rename News _ _ _ _ => N3
      refine' ⟨(d, wv ++ ys, 0, _), _, _, _, _, rfl, F3, N3, ?in1, ?b1, ⟨_, by assumption⟩, ?s1, ld _ (.tail _ (.tail _ (.head _))), ld _ (.tail _ (.tail _ (.tail _ (.tail _ (.head _))))), fun p hp => ld p (.tail _ (.tail _ (.tail _ (.tail _ (.tail _ (List.mem_append_left _ hp))))))⟩
      case in1 =>
        intro p hp
        rcases List.mem_cons.mp hp with rfl | hp
        · exact .head _
        · rcases List.mem_cons.mp hp with rfl | hp
          · exact .tail _ (.tail _ (.tail _ (.head _)))
          · exact .tail _ (.tail _ (.tail _ (.tail _ hp)))
      case b1 => kst_all
      case s1 =>
        have e : ps.drop (ps.length - (i + 1)) = n :: ps.drop (ps.length - i) := by
          have h1 : ps.length - (i + 1) < ps.length := by omega
          rw [List.drop_eq_getElem_cons h1]
          have h2 : ps.length - (i + 1) + 1 = ps.length - i := by omega
          rw [h2]
          rw [List.getElem?_reverse hiL] at hn'
          have h3 : ps.length - 1 - i = ps.length - (i + 1) := by omega
          rw [h3, List.getElem?_eq_getElem h1] at hn'
          rw [Option.some.inj hn']
        rw [e]
        exact StrsAre.append' hP1h.out hJ
  case done =>
    clear F1 N1
    rintro ⟨wa, wv, wn, oc⟩ u h tk ⟨⟨v₀, hoc⟩, hP1, hP2, hP4, hP5⟩ F1 N1
    dsimp only at hoc hP1 hP2 hP4 hP5 F1 N1
    simp only [List.nil_append, List.cons_append] at N1
    have hP1h : Hd (StrsAre wv (wysS x (ps.drop (ps.length - ws.length)))) := ⟨hP1⟩
    clear hP1
    (try k_fold)
    k_steps
    have e : ps.length - ws.length = 0 := by omega
    refine ret _ wv wn _ _ (by assumption) (cb_drop (by assumption) fun p hp => ?_) hP5 ?_
    · rcases List.mem_cons.mp hp with rfl | hp
      · exact .head _
      · exact .tail _ (.tail _ (.tail _ (.tail _ hp)))
    · have := hP1h.out
      rw [e] at this
      exact this
end Mine

end
section
open PySem PySem.W PySem.Calls PyProof.Rows PySem.Builtin PySem.Builtin.Str
namespace Mine
theorem split_cN {w : World} {loose : List Str} {mean : ExcName → Option Value} {mg mb : Str → Option Value}
    {dp un : Nat} {gd : Option (List Code)} {cn : Str} {cs : Scope} {a : Addr} {ccd : Value} {cl : List (Str × Addr)} {outer : List Env} {A₀ : Around} {base h₀ : Heap} {L : Addr} {m : Str → Option Value} {s : Shared} {Q E : Value → Shared → Prop} {news : List (Addr × Obj)}
    {x : Str} {tx : Tok} {p : Str}
    (B : Below A₀ base outer h₀) (F : Fr h₀ L s.heap m) (X : (hd.heap_39 w.params).In h₀) (N : News h₀ L s.heap news) (T : Top hd.view_39 loose mean mg mb h₀) (hk : cs.kind = .function)
    (hdp : dp + 1 < recursionLimit) (hun : un + 8 < cLine) (hx : x.length ≤ 1000) (e : spl x = (p, none))
    (ret : ∀ r ta h' tk', Fr h₀ L h' m → News h₀ L h' ((r, tupO [.str p ta, .none]) :: news) → (∀ p ∈ news, p.1 < r) → Q (.ref r) { s with heap := h', toks := tk' }) :
    wpAny (model PR w) (ktrTop dp un gd cn cs L a ccd cl outer) (call (.ref 21) [.str x tx]) Q E s :=
  split_c B F X N T hk hdp hun hx (fun r ta tb h' tk' F' N' l => ret r ta h' tk' F' (by rw [e] at N'; exact N') l)
theorem split_cS {w : World} {loose : List Str} {mean : ExcName → Option Value} {mg mb : Str → Option Value}
    {dp un : Nat} {gd : Option (List Code)} {cn : Str} {cs : Scope} {a : Addr} {ccd : Value} {cl : List (Str × Addr)} {outer : List Env} {A₀ : Around} {base h₀ : Heap} {L : Addr} {m : Str → Option Value} {s : Shared} {Q E : Value → Shared → Prop} {news : List (Addr × Obj)}
    {x : Str} {tx : Tok} {p b : Str}
    (B : Below A₀ base outer h₀) (F : Fr h₀ L s.heap m) (X : (hd.heap_39 w.params).In h₀) (N : News h₀ L s.heap news) (T : Top hd.view_39 loose mean mg mb h₀) (hk : cs.kind = .function)
    (hdp : dp + 1 < recursionLimit) (hun : un + 8 < cLine) (hx : x.length ≤ 1000) (e : spl x = (p, some b))
    (ret : ∀ r ta tb h' tk', Fr h₀ L h' m → News h₀ L h' ((r, tupO [.str p ta, .str b tb]) :: news) → (∀ p ∈ news, p.1 < r) → Q (.ref r) { s with heap := h', toks := tk' }) :
    wpAny (model PR w) (ktrTop dp un gd cn cs L a ccd cl outer) (call (.ref 21) [.str x tx]) Q E s :=
  split_c B F X N T hk hdp hun hx (fun r ta tb h' tk' F' N' l => ret r ta tb h' tk' F' (by rw [e] at N'; exact N') l)
end Mine

end
section
open PySem PySem.W PySem.Calls PyProof.Rows PySem.Builtin PySem.Builtin.Str
namespace Mine
local macro_rules | `(tactic| walk_at "call builtin:str.find") => `(tactic| (k_here; refine find3_c ?_; intro _ _))
local macro_rules | `(tactic| walk_at "call builtin:str.find") => `(tactic| (k_here; refine find4_c ?_; intro _ _))
local macro_rules | `(tactic| walk_at "call builtin:str.count") => `(tactic| (k_here; refine count4_c ?_; intro _ _))
local macro_rules | `(tactic| walk_at "binaryOp Add str str") => `(tactic| (k_here; k_dflt (refine add_c (by omega) ?_); intro _ _ _))
local macro_rules | `(tactic| walk_at "call builtin:str.strip") => `(tactic| (k_here; k_dflt (refine strip_c (by omega) ?_); intro _ _ _))
local macro_rules | `(tactic| walk_at "call builtin:str.rstrip") => `(tactic| (k_here; k_dflt (refine rstrip_c (by omega) ?_); intro _ _ _))
local macro_rules | `(tactic| walk_at "call builtin:str.lstrip") => `(tactic| (k_here; k_dflt (refine lstrip_c (by omega) ?_); intro _ _ _))
local macro_rules | `(tactic| walk_at "call builtin:str.lower") => `(tactic| (k_here; k_dflt (refine lower_c (by omega) ?_); intro _ _ _))
local macro_rules | `(tactic| walk_at "call builtin:list.append") => `(tactic| (k_here; k_dflt (refine' append_c ?k1 ?k2 ?k3 ?z ?_; (case k1 => k_asm); (case k2 => k_asm); (case k3 => k_upd); (case z => omega); k_whole); intro h' F' N'; (try k_sweep)))
local macro_rules | `(tactic| walk_at "WPost") => `(tactic| dsimp only [WPost])
local macro_rules | `(tactic| walk_at "FPost") => `(tactic| dsimp only [FPost])
local macro_rules | `(tactic| k_upd) => `(tactic| first | exact updHere (by assumption) | exact updOff (by assumption) | (refine' Upd.tail ?a ?b; (case a => k_ne); (case b => k_upd)))
local macro_rules | `(tactic| walk_at "storeName") => `(tactic| (k_here; k_dflt (refine st_int (by with_reducible assumption) (by with_reducible assumption) ?_); intro h' t' _ F' N'; (try k_sweep)))
local macro_rules | `(tactic| walk_at "storeName") => `(tactic| (k_here; k_dflt (refine st_str (by with_reducible assumption) (by with_reducible assumption) ?_); intro h' t' _ F' N'; (try k_sweep)))
local macro_rules | `(tactic| walk_at "exec While Compare cons nil") => `(tactic| refine Stop.out ?_)
local macro_rules | `(tactic| walk_at "pyIter ref") => `(tactic| refine Stop.out ?_)
local macro_rules | `(tactic| walk_at "exec For Name Name cons nil") => `(tactic| (k_here; (rename Fr _ _ _ _ => lF'); (with_unfolding_all refine' For_invVF lF' ?k1 ?k2 ?_; (case k1 => exact rfl); (case k2 => exact rfl); k_whole)))
local macro_rules | `(tactic| walk_at "call ref") => `(tactic| (k_here; k_dflt (refine' text_c ?b1 ?b2 ?b3 ?b4 ?b5 ?b6 ?b7 ?b8 ?e0 ?e1 ?e2 ?_; (case b1 => k_asm); (case b2 => k_asm); (case b3 => k_asm); (case b4 => k_asm); (case b5 => k_asm); (case b6 => first | exact rfl | assumption); (case b7 => ktr_room); (case b8 => ktr_units); (case e0 => assumption); (case e1 => assumption); (case e2 => omega); k_whole); intro x t' h' tk' hxl F' N'; (try dsimp only)))
local macro_rules | `(tactic| walk_at "call ref") => `(tactic| (k_here; k_dflt (refine' places_c ?b1 ?b2 ?b3 ?b4 ?b5 ?b6 ?b7 ?b8 ?e0 ?e1 ?e2 ?e3 ?_; (case b1 => k_asm); (case b2 => k_asm); (case b3 => k_asm); (case b4 => k_asm); (case b5 => k_asm); (case b6 => first | exact rfl | assumption); (case b7 => ktr_room); (case b8 => ktr_units); (case e0 => assumption); (case e1 => assumption); (case e2 => omega); (case e3 => omega); k_whole); intro r' vs' n' h' tk' ps' F' N' l1 hpi hpe hpl hps hpp; (try k_lt l1); (try dsimp only)))
local macro_rules | `(tactic| walk_at "call ref") => `(tactic| (k_here; k_dflt (refine' ways_c ?b1 ?b2 ?b3 ?b4 ?b5 ?b6 ?b7 ?b8 ?e0 ?e1 ?e2 ?e3 ?_; (case b1 => k_asm); (case b2 => k_asm); (case b3 => k_asm); (case b4 => k_asm); (case b5 => k_asm); (case b6 => first | exact rfl | assumption); (case b7 => ktr_room); (case b8 => ktr_units); (case e0 => k_mem); (case e1 => assumption); (case e2 => omega); (case e3 => omega); k_whole); intro r' vs' n' h' tk' F' N' l1 hst; (try k_lt l1); (try dsimp only)))
local macro_rules | `(tactic| walk_at "call ref") => `(tactic| (k_here; k_dflt (refine' parse_c ?b1 ?b2 ?b3 ?b4 ?b5 ?b6 ?b7 ?b8 ?e0 ?_; (case b1 => k_asm); (case b2 => k_asm); (case b3 => k_asm); (case b4 => k_asm); (case b5 => k_asm); (case b6 => first | exact rfl | assumption); (case b7 => ktr_room); (case b8 => ktr_units); (case e0 => omega); k_whole); intro r' vs' n' h' tk' F' N' l1 hst hln; (try k_lt l1); (try dsimp only)))
local macro_rules | `(tactic| walk_at "subscriptTail Name Constant ref int") => `(tactic| refine Stop.out ?_)
local macro_rules | `(tactic| walk_at "call builtin:len cons ref nil") => `(tactic| (k_here; k_dflt (refine' lenL_c ?k1 ?k2 ?z ?_; (case k1 => k_asm); (case k2 => k_mem); (case z => omega)); intro t' k'))
local macro_rules | `(tactic| walk_at "call builtin:len") => `(tactic| (k_here; (with_reducible show wpAny _ _ (call (Value.builtin "len") [Value.ref _]) _ _ _); k_dflt (refine' lenL_c ?k1 ?k2 ?z ?_; (case k1 => k_asm); (case k2 => k_mem); (case z => omega)); intro t' k'))
local macro_rules | `(tactic| walk_at "call ref") => `(tactic| (k_here; k_dflt (refine' split_cN ?b1 ?b2 ?b3 ?b4 ?b5 ?b6 ?b7 ?b8 ?e0 ?e1 ?_; (case b1 => k_asm); (case b2 => k_asm); (case b3 => k_asm); (case b4 => k_asm); (case b5 => k_asm); (case b6 => first | exact rfl | assumption); (case b7 => ktr_room); (case b8 => ktr_units); (case e0 => omega); (case e1 => with_reducible assumption); k_whole); intro r' ta' h' tk' F' N' l1; (try k_lt l1); (try dsimp only)))
local macro_rules | `(tactic| walk_at "call ref") => `(tactic| (k_here; k_dflt (refine' split_cS ?b1 ?b2 ?b3 ?b4 ?b5 ?b6 ?b7 ?b8 ?e0 ?e1 ?_; (case b1 => k_asm); (case b2 => k_asm); (case b3 => k_asm); (case b4 => k_asm); (case b5 => k_asm); (case b6 => first | exact rfl | assumption); (case b7 => ktr_room); (case b8 => ktr_units); (case e0 => omega); (case e1 => with_reducible assumption); k_whole); intro r' ta' tb' h' tk' F' N' l1; (try k_lt l1); (try dsimp only)))
theorem step_sum {ws : List Str} {i : Nat} {y : Str} {c : Int} {n : Nat} (hP : c = ((ws.take i).map fun w => ((parse w).length : Int) - 1).sum) (hl : n = (parse y).length) (hy : ws[i]? = some y) :
    c + (n : Int) - 1 = ((ws.take (i + 1)).map fun w => ((parse w).length : Int) - 1).sum := by
  rw [List.take_add_one, hy, hP, hl, List.map_append, List.sum_append]
  simp
  omega
theorem wys_bd {x : Str} : ∀ {ps : List Int}, (∀ p ∈ ps, 0 ≤ p ∧ p ≤ x.length) → ∀ w ∈ wysS x ps, x.length ≤ w.length ∧ w.length ≤ x.length + ps.length
  | [], _, w, h => by rw [List.mem_singleton.mp h]; simp
  | p :: r, hp, w, h => by
    have ih := wys_bd (ps := r) fun q hq => hp q (.tail _ hq)
    have hp0 := hp p (.head _)
    rw [List.length_cons]
    rcases List.mem_append.mp h with h | h
    · have := ih w h; omega
    · obtain ⟨v, hv, rfl⟩ := List.mem_map.mp h
      have h0 := ih v hv
      obtain ⟨k, rfl⟩ : ∃ k : Nat, p = k := ⟨p.toNat, by omega⟩
      have hn := len_lt v
      unfold insS
      rw [sl_to (by omega), sl_from (by omega), qm_str, S_app, S_app, len_S (List.take k (lt v) ++ [34] ++ List.drop k (lt v))]
      simp only [List.length_append, List.length_take, List.length_drop, List.length_cons, List.length_nil]
      omega
set_option maxRecDepth 100000 in
set_option maxHeartbeats 4000000 in
theorem X : PySem.Challenge.rw_at0001_02.Holds := hd (by
  k_go0
  (all_goals try k_fold)
  k_steps
  refine ⟨?_⟩
  rename IntsAre _ _ => hpi
  rename (_ ≠ []) => hpe
  rename StrsAre _ _ => hws
  rename News _ _ _ _ => N1
  rename (∀ p ∈ _, 0 ≤ p ∧ _) => hpp
  rename (List.Pairwise _ _) => hps
  rename (List.length _ ≤ 4) => hpl
  rename_i x tx _ _ hxl _ _ _ rp pv pn _ _ ps _ _ _ rw wv wn _ _ lrw _ FF
  obtain ⟨f, r, rfl⟩ : ∃ f r, ps = f :: r := by
    cases ps with
    | nil => exact absurd rfl hpe
    | cons f r => exact ⟨f, r, rfl⟩
  have hwl := StrsAre.len_eq hws
  have hct := wys_count x (f :: r)
  have hpw := pow_le4 hpl
  refine item0_c N1 (.tail _ (.head _)) hpi ?_
  intro tf
  k_steps
  refine ⟨?_⟩
  rename Fr _ _ _ _ => F2
  rename News _ _ _ _ => N2
  rename StrsAre _ (parse _) => hst0
  have hl0 := StrsAre.len_eq hst0
  have hbd := wys_bd (fun p hp => ⟨(hpp p hp).1, (hpp p hp).2.1⟩)
  refine' my_for (σ := Int × Tok) (fun _ => []) [(rw, listOf wv.toArray wn)] (fun c => [(Str.ofString "cuts", .int c.1 c.2), (Str.ofString "due", _)]) (fun i c => c.1 = (((wysS x (f :: r)).take i).map fun w => ((parse w).length : Int) - 1).sum) (0, _) rfl (isList_of N2 (.tail _ (.head _))) (N2 _ (.tail _ (.head _))).2.1 (fun _ p hp => nomatch hp) F2 (cb_drop N2 (fun p hp => .tail _ (by rw [List.mem_singleton.mp hp]; exact .head _))) ?k1 rfl ?turn ?done rfl
  case k1 => kst_all
  case turn =>
    clear F2 N2
    rintro i v ⟨c, tc⟩ u h tk own hv hP hoff F2 N2
    dsimp only at hP F2 N2
    simp only [List.nil_append, List.cons_append] at N2
    have hzz := strs_get hws hv
    obtain ⟨y, ty, rfl, hy⟩ := hzz
    have hyl := hbd y (List.mem_of_getElem? hy)
    have hq1 : (Str.ofString ";").length = 1 := by decide
    have hsp := spl_case y
    rcases hsp with ⟨hA, hE⟩ | ⟨hA, hB, hE⟩
    · (try k_fold)
      k_steps
      · exfalso; omega
      · rename Fr _ _ _ _ => F3
        rename News _ _ _ _ => N3
        rename StrsAre _ (parse y) => hst1
        have hl1 := StrsAre.len_eq hst1
        refine' ⟨(_, _), _, _, _, _, rfl, F3, N3, fun p hp => .tail _ (.tail _ hp), ?ka, ?kb⟩
        case ka => kst_all
        case kb => exact step_sum hP hl1 hy
    · (try k_fold)
      k_steps
      · exfalso; omega
      · rename Fr _ _ _ _ => F3
        rename News _ _ _ _ => N3
        rename StrsAre _ (parse y) => hst1
        have hl1 := StrsAre.len_eq hst1
        refine' ⟨(_, _), _, _, _, _, rfl, F3, N3, fun p hp => .tail _ (.tail _ hp), ?ka', ?kb'⟩
        case ka' => kst_all
        case kb' => exact step_sum hP hl1 hy
  case done =>
    clear F2 N2
    rintro ⟨c, tc⟩ u h tk hP F2 N2
    dsimp only at hP F2 N2
    simp only [List.nil_append, List.cons_append] at N2
    have hfin := plain2 hps hpp
    rw [hwl, List.take_length] at hP
    rw [← hP, ← hl0, ← hwl] at hfin
    subst hfin
    clear hP
    (try k_fold)
    k_steps
    all_goals (try simp only [beq_self_eq_true])
    all_goals wrow_close)
end Mine

end
theorem PySem.Challenge.cw_at0001_02_holds : PySem.Challenge.rw_at0001_02.Holds := by
  exact Mine.X
