import PyProof.Rows.All
import Wide.All
import OpenK.AllK
import Wide.FinOn
import PySem.Challenge.RW_at0001_01
open PySem PySem.W PySem.Calls PyProof.Rows PySem.Builtin PySem.Builtin.Str
set_option Elab.async false
section
open PySem PySem.W PyProof.Rows
namespace Mine
set_option maxRecDepth 100000 in
set_option maxHeartbeats 8000000 in
open_top hd for PySem.Challenge.rw_at0001_01
end Mine
end
section
open PySem PySem.W PySem.Calls PyProof.Rows PySem.Builtin PySem.Builtin.Str
namespace Mine
/-- quotes that no backslash stands at once ahead of; e: a backslash stands ahead of the first sign -/
def qs : Bool → List Nat → Nat
  | _, [] => 0
  | e, c :: r => (if c = 34 ∧ e = false then 1 else 0) + qs (c == 92) r
def seg (l : List Nat) (a p : Nat) : List Nat := (l.drop a).take (p - a)
def D (l : List Nat) (a p : Nat) : Nat := qs false (seg l a p)
def pcs : Bool → Bool → List Nat → List (List Nat)
  | _, _, [] => [[]]
  | o, e, c :: r => if c = 59 ∧ o = false then [] :: pcs false false r else
      match pcs (o != (c == 34 && !e)) (c == 92) r with
      | p :: ps => (c :: p) :: ps
      | [] => []
abbrev lt (y : Str) : List Nat := y.cps.toList
abbrev F1 (y : Str) (q : Int) : Int := Txt.find3 y (Str.ofString ";") q
def PA (y : Str) (a : Nat) (e i d : Int) : Prop := ∃ q lo : Nat, i = lo ∧ a ≤ lo ∧ (lo = a ∧ q = a ∨ (q = lo + 1 ∧ (lt y)[lo]? = some 59)) ∧ q ≤ (lt y).length ∧ e = F1 y q ∧ d = (D (lt y) a lo : Int) ∧ ∀ p, a ≤ p → p < q → (lt y)[p]? = some 59 → D (lt y) a p % 2 = 1
def PB (y : Str) (a : Nat) (e i d : Int) : Prop := ∃ lo k : Nat, e = lo ∧ a ≤ lo ∧ lo < k ∧ (lt y)[k]? = some 59 ∧ F1 y (lo + 1) = k ∧ i = F1 y (k + 1) ∧ d = (D (lt y) a k : Int) ∧ D (lt y) a k % 2 = 1 ∧ ∀ p, a ≤ p → p ≤ k → (lt y)[p]? = some 59 → D (lt y) a p % 2 = 1
def PI (y : Str) (a : Nat) (b : Bool) (e i d : Int) : Prop := if b then PB y a e i d else PA y a e i d
def Cut (l : List Nat) (a k : Nat) : Prop := a ≤ k ∧ k ≤ l.length ∧ (k < l.length → l[k]? = some 59 ∧ D l a k % 2 = 0) ∧ ∀ p, a ≤ p → p < k → l[p]? = some 59 → D l a p % 2 = 1
abbrev S (l : List Nat) : Str := ⟨l.toArray⟩
def fmt (raw : List Nat) : Str :=
  if 61 ∈ raw then Txt.strip (Txt.lower (Txt.rstrip (S (raw.takeWhile (· != 61)))) ++ Str.ofString "=" ++ Txt.lstrip (S (raw.dropWhile (· != 61)).tail)) else Txt.strip (S raw)
def parse (x : Str) : List Str := (pcs false false x.cps.toList).map fmt
def restP (l : List Nat) (k : Nat) : List Str := if k < l.length then (pcs false false (l.drop (k + 1))).map fmt else []
def endIdx (len : Nat) (i : Int) : Nat := min (max 0 (if i < 0 then i + len else i)).toNat len
def find4 (x y : Str) (i j : Int) : Int := match occurrences x y (fromIndex x.length i) (endIdx x.length j) 1 with | k :: _ => (k : Int) | [] => -1
def count4 (x y : Str) (i j : Int) : Int := (occurrences x y (fromIndex x.length i) (endIdx x.length j) (x.length + 1)).length

/- find -/
theorem fromIndex_nat (n q : Nat) : fromIndex n (q : Int) = q := by unfold fromIndex; omega
theorem endIdx_nat {n q : Nat} (h : q ≤ n) : endIdx n (q : Int) = q := by unfold endIdx; omega
theorem len_lt (y : Str) : (lt y).length = y.length := by simp [Str.length]

theorem F1_spec (y : Str) (q : Nat) : (F1 y q = -1 ∧ ∀ p, q ≤ p → (lt y)[p]? ≠ some 59) ∨ ∃ k : Nat, F1 y q = k ∧ q ≤ k ∧ (lt y)[k]? = some 59 ∧ ∀ p, q ≤ p → p < k → (lt y)[p]? ≠ some 59 := by
  have e : Str.ofString ";" = ⟨#[59]⟩ := by decide +kernel
  unfold F1 Txt.find3
  rw [e, fromIndex_nat]
  rcases StrLaws.occ_head_from y ⟨#[59]⟩ q 1 (Nat.le_refl 1) with ⟨h0, hn⟩ | ⟨k, r, h0, hlo, hk, hn⟩
  · rw [h0]
    exact .inl ⟨rfl, fun v h1 h2 => hn v h1 ((StrLaws.subAt_one y 59 v).mpr h2)⟩
  · rw [h0]
    exact .inr ⟨k, rfl, hlo, (StrLaws.subAt_one y 59 k).mp hk, fun v h1 h2 he => hn v h1 h2 ((StrLaws.subAt_one y 59 v).mpr he)⟩

theorem lt_of_get {l : List Nat} {k c : Nat} (h : l[k]? = some c) : k < l.length := by
  rcases Nat.lt_or_ge k l.length with h1 | h1
  · exact h1
  · rw [List.getElem?_eq_none h1] at h; cases h

/- the pieces -/
theorem qs_append : ∀ (u v : List Nat) (e : Bool), qs e (u ++ v) = qs e u + qs (match u.getLast? with | some c => c == 92 | none => e) v
  | [], v, e => by simp [qs]
  | c :: u, v, e => by
    have ih := qs_append u v (c == 92)
    rw [List.cons_append, qs, ih, qs, List.getLast?_cons]
    cases u.getLast? with
    | none => simp only [Option.getD_none]; omega
    | some d => simp only [Option.getD_some]; omega
theorem qs_semi (e : Bool) (r : List Nat) : qs e (59 :: r) = qs false (59 :: r) := by simp [qs]
theorem seg_split {l : List Nat} {a k p : Nat} (h1 : a ≤ k) (h2 : k ≤ p) : seg l a p = seg l a k ++ seg l k p := by
  unfold seg
  have e1 : p - a = (k - a) + (p - k) := by omega
  rw [e1, List.take_add, List.drop_drop]
  congr 3
  omega
theorem seg_at {l : List Nat} {k p c : Nat} (h : l[k]? = some c) (hp : k < p) : seg l k p = c :: seg l (k + 1) p := by
  unfold seg
  have hk := lt_of_get h
  have hc : l[k] = c := by rw [List.getElem?_eq_getElem hk] at h; exact Option.some.inj h
  rw [List.drop_eq_getElem_cons hk, hc]
  have e : p - k = (p - (k + 1)) + 1 := by omega
  rw [e, List.take_succ_cons]
theorem seg_nil (l : List Nat) (k : Nat) : seg l k k = [] := by unfold seg; simp
theorem D_split {l : List Nat} {a k p : Nat} (h1 : a ≤ k) (h2 : k ≤ p) (hk : k = a ∨ l[k]? = some 59) : D l a p = D l a k + qs false (seg l k p) := by
  unfold D
  rcases hk with rfl | hk
  · rw [seg_nil]; simp [qs]
  · rw [seg_split h1 h2, qs_append]
    rcases Nat.lt_or_ge k p with h | h
    · rw [seg_at hk h, qs_semi]
    · have : p = k := by omega
      subst this
      rw [seg_nil]; simp [qs]

theorem pcs_ne : ∀ (l : List Nat) (o e : Bool), pcs o e l ≠ []
  | [], _, _ => by simp [pcs]
  | c :: r, o, e => by
    rw [pcs]
    split
    · simp
    · have := pcs_ne r (o != (c == 34 && !e)) (c == 92)
      split
      · simp
      · rename_i h; exact absurd h this
/-- how the pieces begin: o: an odd number of quotes stands ahead, e: a backslash -/
theorem pcs_cut : ∀ (l : List Nat) (o e : Bool) (k : Nat), k ≤ l.length → (k < l.length → l[k]? = some 59 ∧ (o.toNat + qs e (l.take k)) % 2 = 0) →
    (∀ p, p < k → l[p]? = some 59 → (o.toNat + qs e (l.take p)) % 2 = 1) → pcs o e l = l.take k :: if k < l.length then pcs false false (l.drop (k + 1)) else []
  | [], o, e, k, hk, _, _ => by
    have : k = 0 := by simpa using hk
    subst this
    simp [pcs]
  | c :: r, o, e, 0, _, h1, _ => by
    obtain ⟨h2, h3⟩ := h1 (by simp)
    have hc : c = 59 := by simpa using h2
    have ho : o = false := by cases o <;> simp [qs] at h3 ⊢
    subst hc ho
    simp [pcs]
  | c :: r, o, e, k + 1, hk, h1, h2 => by
    have hn : ¬ (c = 59 ∧ o = false) := by
      rintro ⟨rfl, rfl⟩
      have := h2 0 (by omega) (by simp)
      simp [qs] at this
    have key : ∀ q : List Nat, ((o != (c == 34 && !e)).toNat + qs (c == 92) q) % 2 = (o.toNat + qs e (c :: q)) % 2 := by
      intro q
      rw [qs]
      by_cases hc : c = 34
      · subst hc
        cases e <;> cases o <;> simp <;> omega
      · have h9 : (c == 34) = false := by simp [hc]
        simp [hc, h9]
    have ih := pcs_cut r (o != (c == 34 && !e)) (c == 92) k (by simpa using hk) (fun h => by
      obtain ⟨h3, h4⟩ := h1 (by simpa using h)
      refine ⟨by simpa using h3, ?_⟩
      rw [key]; simpa using h4) (fun p hp hc => by
      have := h2 (p + 1) (by omega) (by simpa using hc)
      rw [key]; simpa using this)
    rw [pcs, if_neg hn, ih]
    simp

theorem cut_rest {l : List Nat} {a k : Nat} (ha : a ≤ l.length) (h : Cut l a k) : (pcs false false (l.drop a)).map fmt = fmt (seg l a k) :: restP l k := by
  obtain ⟨h1, h2, h3, h4⟩ := h
  have := pcs_cut (l.drop a) false false (k - a) (by simp; omega) (fun hlt => by
      have hk : k < l.length := by simp at hlt; omega
      obtain ⟨h5, h6⟩ := h3 hk
      refine ⟨by rw [List.getElem?_drop]; rw [← h5]; congr 1; omega, by simpa [D, seg] using h6⟩) (fun p hp hc => by
      have h7 := h4 (a + p) (by omega) (by omega) (by rw [List.getElem?_drop] at hc; exact hc)
      simpa [D, seg] using h7)
  rw [this]
  unfold restP
  have e : (List.drop a l).length = l.length - a := by simp
  by_cases hk : k < l.length
  · rw [if_pos hk, if_pos (by omega), List.drop_drop]
    have : a + (k - a + 1) = k + 1 := by omega
    rw [this]; rfl
  · rw [if_neg hk, if_neg (by omega)]; rfl

/- counts -/
def Occ (s sub : Str) (hi i : Nat) : Bool := decide (i + sub.length ≤ hi) && subAt s sub i
theorem occ_filter (s sub : Str) (hi limit : Nat) :
    ∀ (n a : Nat) (st : Array Nat × Nat), (∀ i j, a ≤ i → i < j → j < i + sub.length → Occ s sub hi i = true → Occ s sub hi j = false) → st.1.size + n ≤ limit → (∀ j, a ≤ j → Occ s sub hi j = true → st.2 ≤ j) →
      (forIn (List.range' a n) st (StrLaws.occBody s sub hi limit)).run.fst.toList = st.1.toList ++ (List.range' a n).filter (Occ s sub hi)
  | 0, a, st, _, _, _ => by simp [pure, Id.run]
  | n + 1, a, st, hno, hs, hf => by
    rw [List.range'_succ, List.forIn_cons]
    unfold StrLaws.occBody
    by_cases hc : Occ s sub hi a = true
    · have hc' := hc
      unfold Occ at hc'
      rw [Bool.and_eq_true, decide_eq_true_eq] at hc'
      rw [if_pos ⟨⟨⟨by omega, hf a (Nat.le_refl _) hc⟩, hc'.1⟩, hc'.2⟩]
      have ih := occ_filter s sub hi limit n (a + 1) (st.1.push a, a + sub.length) (fun i j h => hno i j (by omega)) (by simp; omega) (fun j hj hoj => by
        rcases Nat.lt_or_ge j (a + sub.length) with h | h
        · have := hno a j (Nat.le_refl _) (by omega) h hc
          rw [hoj] at this; cases this
        · exact h)
      simp only [pure_bind]
      refine ih.trans ?_
      rw [List.filter_cons_of_pos hc]
      simp
    · have hc2 : ¬ (((st.1.size < limit ∧ st.2 ≤ a) ∧ a + sub.length ≤ hi) ∧ subAt s sub a = true) := fun h => hc (by
        unfold Occ; rw [Bool.and_eq_true, decide_eq_true_eq]; exact ⟨h.1.2, h.2⟩)
      rw [if_neg hc2]
      have ih := occ_filter s sub hi limit n (a + 1) st (fun i j h => hno i j (by omega)) (by omega) (fun j hj hoj => hf j (by omega) hoj)
      simp only [pure_bind]
      refine ih.trans ?_
      rw [List.filter_cons_of_neg hc]

theorem occ_count (y sub : Str) {a b : Nat} (hab : a ≤ b) (hb : b ≤ y.length) (hno : ∀ i j, i < j → j < i + sub.length → Occ y sub b i = true → Occ y sub b j = false) :
    count4 y sub a b = ((List.range' a (b + 1 - a)).filter (Occ y sub b)).length := by
  unfold count4
  rw [fromIndex_nat, endIdx_nat hb, StrLaws.occ_eq, occ_filter y sub b (y.length + 1) (b + 1 - a) a (#[], a) (fun i j _ => hno i j) (by simp; omega) (fun j h _ => h)]
  simp
theorem occ_count0 (y sub : Str) (i : Int) {b : Nat} (hb : b ≤ y.length) (hs : 1 ≤ sub.length) (h : b ≤ fromIndex y.length i) : count4 y sub i b = 0 := by
  have hO : ∀ p, fromIndex y.length i ≤ p → Occ y sub b p = false := by
    intro p hp
    unfold Occ
    have : ¬ (p + sub.length ≤ b) := by omega
    simp [this]
  unfold count4
  rw [endIdx_nat hb, StrLaws.occ_eq, occ_filter y sub b (y.length + 1) (b + 1 - fromIndex y.length i) (fromIndex y.length i) (#[], fromIndex y.length i) (fun p q hp _ _ h3 => by rw [hO p hp] at h3; cases h3) (by simp; omega) (fun j h _ => h)]
  have : (List.range' (fromIndex y.length i) (b + 1 - fromIndex y.length i)).filter (Occ y sub b) = [] := by
    rw [List.filter_eq_nil_iff]
    intro p hp
    rw [hO p (List.mem_range'_1.mp hp).1]
    simp
  rw [this]; simp
def pairs : List Nat → Nat
  | c :: d :: r => (if c = 92 ∧ d = 34 then 1 else 0) + pairs (d :: r)
  | _ => 0
theorem qs_pairs : ∀ (l : List Nat) (e : Bool), qs e l + pairs l + (if e = true ∧ l.head? = some 34 then 1 else 0) = l.count 34
  | [], e => by simp [qs, pairs]
  | [c], e => by by_cases h : c = 34 <;> cases e <;> simp [qs, pairs, h]
  | c :: d :: r, e => by
    have ih := qs_pairs (d :: r) (c == 92)
    rw [qs, pairs, List.count_cons]
    by_cases h1 : c = 34
    · subst h1
      cases e <;> simp at ih ⊢ <;> omega
    · by_cases h2 : c = 92
      · subst h2
        by_cases h3 : d = 34
        · subst h3; simp at ih ⊢; omega
        · simp [h3] at ih ⊢; omega
      · have : (c == 92) = false := by simp [h2]
        rw [this] at ih ⊢
        simp [h1, h2] at ih ⊢
        omega

theorem occ_at (y sub : Str) (b p : Nat) (hb : b ≤ y.length) : Occ y sub b p = true ↔ p + sub.length ≤ b ∧ ((lt y).drop p).take sub.length = lt sub := by
  unfold Occ
  rw [Bool.and_eq_true, decide_eq_true_eq, StrLaws.subAt_eq]
  simp
theorem occ1 (y : Str) (c b p : Nat) (hb : b ≤ y.length) : Occ y ⟨#[c]⟩ b p = true ↔ p < b ∧ (lt y)[p]? = some c := by
  rw [occ_at _ _ _ _ hb]
  show p + 1 ≤ b ∧ ((lt y).drop p).take 1 = [c] ↔ _
  constructor
  · rintro ⟨h1, h2⟩
    refine ⟨h1, ?_⟩
    have : (((lt y).drop p).take 1)[0]? = some c := by rw [h2]; rfl
    simpa using this
  · rintro ⟨h1, h2⟩
    refine ⟨h1, ?_⟩
    have hp := lt_of_get h2
    rw [List.drop_eq_getElem_cons hp]
    rw [List.getElem?_eq_getElem hp] at h2
    simp [Option.some.inj h2]
theorem occ2 (y : Str) (c d b p : Nat) (hb : b ≤ y.length) : Occ y ⟨#[c, d]⟩ b p = true ↔ p + 1 < b ∧ (lt y)[p]? = some c ∧ (lt y)[p + 1]? = some d := by
  rw [occ_at _ _ _ _ hb]
  show p + 2 ≤ b ∧ ((lt y).drop p).take 2 = [c, d] ↔ _
  constructor
  · rintro ⟨h1, h2⟩
    have h3 : (((lt y).drop p).take 2)[0]? = some c := by rw [h2]; rfl
    have h4 : (((lt y).drop p).take 2)[1]? = some d := by rw [h2]; rfl
    exact ⟨h1, by simpa using h3, by simpa using h4⟩
  · rintro ⟨h1, h2, h3⟩
    refine ⟨h1, ?_⟩
    have hp := lt_of_get h2
    have hq := lt_of_get h3
    rw [List.drop_eq_getElem_cons hp, List.drop_eq_getElem_cons hq]
    rw [List.getElem?_eq_getElem hp] at h2
    rw [List.getElem?_eq_getElem hq] at h3
    simp [Option.some.inj h2, Option.some.inj h3]
theorem seg_cons {l : List Nat} {a b : Nat} (h : a < b) (hb : b ≤ l.length) : ∃ c, l[a]? = some c ∧ seg l a b = c :: seg l (a + 1) b :=
  ⟨l[a], by simp, seg_at (by simp) h⟩
theorem cnt1 (y : Str) (c b : Nat) (hb : b ≤ y.length) : ∀ (n a : Nat), a + n = b → ((List.range' a (n + 1)).filter (Occ y ⟨#[c]⟩ b)).length = (seg (lt y) a b).count c
  | 0, a, h => by
    have : Occ y ⟨#[c]⟩ b a = false := by
      rw [← Bool.not_eq_true, occ1 _ _ _ _ hb]; omega
    simp at h
    subst h
    rw [seg_nil]
    simp [List.range'_succ, this]
  | n + 1, a, h => by
    rw [List.range'_succ]
    obtain ⟨d, hd, hs⟩ := seg_cons (l := lt y) (a := a) (b := b) (by omega) (by rw [len_lt]; exact hb)
    have ih := cnt1 y c b hb n (a + 1) (by omega)
    rw [hs, List.count_cons]
    by_cases hc : d = c
    · subst hc
      rw [List.filter_cons_of_pos ((occ1 _ _ _ _ hb).mpr ⟨by omega, hd⟩), List.length_cons, ih]
      simp
    · rw [List.filter_cons_of_neg (by rw [occ1 _ _ _ _ hb, hd]; simp [hc]), ih]
      simp [hc]
theorem cnt2 (y : Str) (b : Nat) (hb : b ≤ y.length) : ∀ (n a : Nat), a + n = b → ((List.range' a (n + 1)).filter (Occ y ⟨#[92, 34]⟩ b)).length = pairs (seg (lt y) a b)
  | 0, a, h => by
    have : Occ y ⟨#[92, 34]⟩ b a = false := by
      rw [← Bool.not_eq_true, occ2 _ _ _ _ _ hb]; omega
    simp at h
    subst h
    rw [seg_nil]
    simp [List.range'_succ, this, pairs]
  | 1, a, h => by
    have h1 : Occ y ⟨#[92, 34]⟩ b a = false := by
      rw [← Bool.not_eq_true, occ2 _ _ _ _ _ hb]; omega
    have h2 : Occ y ⟨#[92, 34]⟩ b (a + 1) = false := by
      rw [← Bool.not_eq_true, occ2 _ _ _ _ _ hb]; omega
    obtain ⟨d, hd, hs⟩ := seg_cons (l := lt y) (a := a) (b := b) (by omega) (by rw [len_lt]; exact hb)
    subst h
    rw [hs, seg_nil]
    simp [List.range'_succ, h1, h2, pairs]
  | n + 2, a, h => by
    rw [List.range'_succ]
    obtain ⟨d, hd, hs⟩ := seg_cons (l := lt y) (a := a) (b := b) (by omega) (by rw [len_lt]; exact hb)
    obtain ⟨d', hd', hs'⟩ := seg_cons (l := lt y) (a := a + 1) (b := b) (by omega) (by rw [len_lt]; exact hb)
    have ih := cnt2 y b hb (n + 1) (a + 1) (by omega)
    rw [hs, hs', pairs, ← hs']
    by_cases hc : d = 92 ∧ d' = 34
    · obtain ⟨rfl, rfl⟩ := hc
      rw [List.filter_cons_of_pos ((occ2 _ _ _ _ _ hb).mpr ⟨by omega, hd, hd'⟩), List.length_cons, ih]
      simp; omega
    · rw [List.filter_cons_of_neg (by rw [occ2 _ _ _ _ _ hb, hd, hd']; rintro ⟨_, h1, h2⟩; exact hc ⟨Option.some.inj h1, Option.some.inj h2⟩), ih]
      simp [hc]
/-- what the program reckons of a piece of text -/
theorem count_diff (y : Str) {a b : Nat} (hab : a ≤ b) (hb : b ≤ y.length) :
    count4 y (Str.ofString "\"") a b - count4 y (Str.ofString "\\\"") a b = (qs false (seg (lt y) a b) : Int) := by
  have e1 : Str.ofString "\"" = ⟨#[34]⟩ := by decide +kernel
  have e2 : Str.ofString "\\\"" = ⟨#[92, 34]⟩ := by decide +kernel
  have f : b + 1 - a = (b - a) + 1 := by omega
  rw [e1, e2, occ_count y _ hab hb ?_, occ_count y _ hab hb ?_, f, cnt1 y 34 b hb _ _ (by omega), cnt2 y b hb _ _ (by omega)]
  · have := qs_pairs (seg (lt y) a b) false
    simp at this
    omega
  · intro i j h1 h2 h3
    rw [← Bool.not_eq_true]
    intro h4
    rw [occ2 _ _ _ _ _ hb] at h3 h4
    have h5 : j = i + 1 := by change j < i + 2 at h2; omega
    subst h5
    rw [h3.2.2] at h4
    exact absurd (Option.some.inj h4.2.1) (by decide)
  · intro i j h1 h2
    change j < i + 1 at h2
    omega
theorem count_none (y : Str) (i : Int) {b : Nat} (hb : b ≤ y.length) (h : b ≤ fromIndex y.length i) : count4 y (Str.ofString "\"") i b - count4 y (Str.ofString "\\\"") i b = 0 := by
  rw [occ_count0 y _ i hb (by decide) h, occ_count0 y _ i hb (by decide) h]; rfl
end Mine

end
section
open PySem PySem.W PySem.Calls PyProof.Rows PySem.Builtin PySem.Builtin.Str
namespace Mine
theorem no_raise {α : Type} {M : Model} {A : Around} {t : Sem α} {Q : α → Shared → Prop} {E : Value → Shared → Prop} {s : Shared} (h : wpAny M A t Q (fun _ _ => False) s) : wpAny M A t Q E s := wpAny_mono h (fun _ _ x => x) fun _ _ x => x.elim
structure Stop (P : Prop) : Prop where out : P
theorem updHere {d : Addr} {o o' : Obj} {r : List (Addr × Obj)} (h : ∀ p ∈ r, p.1 < d) : Upd d o o' ((d, o) :: r) ((d, o') :: r) := .head fun p hp => Nat.ne_of_lt (h p hp)
theorem updOff {d : Addr} {o o' : Obj} {r : List (Addr × Obj)} (h : ∀ p ∈ r, p.1 ≠ d) : Upd d o o' ((d, o) :: r) ((d, o') :: r) := .head h
theorem ltAll_of {d : Addr} : ∀ {l : List (Addr × Obj)}, AllLt d l → ∀ p ∈ l, p.1 < d
  | [], _ => fun _ h => nomatch h
  | _ :: _, ⟨h, hr⟩ => fun q hq => by
    rcases List.mem_cons.mp hq with rfl | hq
    · exact h
    · exact ltAll_of hr q hq
/-- a name's value in a list of bindings ahead of what is not known -/
def kb (u : Str → Option Value) : List (Str × Value) → Str → Option Value
  | [] => u
  | p :: r => fun z => if z = p.1 then some p.2 else kb u r z
theorem kb_eq {m u : Str → Option Value} : ∀ {ps : List (Str × Value)}, (∀ p ∈ ps, m p.1 = some p.2) → kb m ps = m
  | [], _ => rfl
  | p :: r, h => by
    funext z
    show (if z = p.1 then some p.2 else kb m r z) = m z
    by_cases e : z = p.1
    · rw [if_pos e, e, h p (.head _)]
    · rw [if_neg e, kb_eq (u := u) fun q hq => h q (.tail _ hq)]

section
variable {prog : Program} {w : World} {A : Around} {E : Value → Shared → Prop} {s : Shared} {env : Env} {h₀ : Heap} {L : Addr}

def WEnd {σ : Type} (h₀ : Heap) (L : Addr) (s : Shared) (Led : σ → List (Addr × Obj)) (ps : σ → List (Str × Value)) (P : σ → Prop) (μ : σ → Nat) (c : σ) (s₂ : Shared) : Prop :=
  ∃ (c' : σ) (h' : Heap) (tk : Nat) (m' : Str → Option Value) (news' : List (Addr × Obj)), s₂ = { s with heap := h', toks := tk } ∧ Fr h₀ L h' m' ∧ News h₀ L h' news' ∧ (∀ p ∈ Led c', p ∈ news') ∧ (∀ p ∈ ps c', m' p.1 = some p.2) ∧ P c' ∧ μ c' < μ c
def WPost {σ : Type} (h₀ : Heap) (L : Addr) (s : Shared) (Led : σ → List (Addr × Obj)) (ps : σ → List (Str × Value)) (P : σ → Prop) (μ : σ → Nat) (Q : Flow → Shared → Prop) (c : σ) (f : Flow) (s₂ : Shared) : Prop :=
  match f with
  | .ret v => Q (.ret v) s₂
  | .brk => Q .next s₂
  | _ => WEnd h₀ L s Led ps P μ c s₂

theorem my_while {σ : Type} {test : Expr} {body : List Stmt} {pos : Pos} {m₀ : Str → Option Value} {Q : Flow → Shared → Prop} (Led : σ → List (Addr × Obj)) (ps : σ → List (Str × Value)) (P : σ → Prop) (μ : σ → Nat) (c₀ : σ)
    (F : Fr h₀ L s.heap m₀) (N : News h₀ L s.heap (Led c₀)) (hk : ∀ p ∈ ps c₀, m₀ p.1 = some p.2) (hp : P c₀) (hE : PassesOwn (model prog w) A env E)
    (turn : ∀ (c : σ) (u : Str → Option Value) h tk, P c → Fr h₀ L h (kb u (ps c)) → News h₀ L h (Led c) →
      wpAny (model prog w) A (isTrue test env (eval test env)) (fun b s₂ =>
        if b = true then wpAny (model prog w) A (execs body env) (WPost h₀ L s Led ps P μ Q c) E s₂ else Q .next s₂) E { s with heap := h, toks := tk }) :
    wpAny (model prog w) A (exec (.While test body [] pos) env) Q E s := by
  refine While_inv2 (fun n m nx => ∃ c : σ, nx = Led c ∧ μ c = n ∧ (∀ p ∈ ps c, m p.1 = some p.2) ∧ P c) F N ⟨c₀, rfl, rfl, hk, hp⟩ ?_ hE
  rintro n m₁ nx h tk F₁ N₁ ⟨c, hnx, hn, h1, hp'⟩
  subst hnx hn
  rw [← kb_eq (u := m₁) h1] at F₁
  refine wpAny_mono (turn c m₁ h tk hp' F₁ N₁) (fun b s₂ p => ?_) fun _ _ x => x
  cases b with
  | false => simpa using p
  | true =>
    simp only [if_true] at p ⊢
    refine wpAny_mono p (fun f s₃ q => ?_) fun _ _ x => x
    cases f with
    | ret v => exact q
    | brk => exact q
    | next =>
      obtain ⟨c', h', tk', m', news', rfl, F', N', hn, hk9, hp9, hm9⟩ := q
      exact ⟨h', tk', m', Led c', μ c', rfl, F', fun p hp => N' p (hn p hp), hm9, c', rfl, rfl, hk9, hp9⟩
    | cont =>
      obtain ⟨c', h', tk', m', news', rfl, F', N', hn, hk9, hp9, hm9⟩ := q
      exact ⟨h', tk', m', Led c', μ c', rfl, F', fun p hp => N' p (hn p hp), hm9, c', rfl, rfl, hk9, hp9⟩

def FEnd {σ : Type} (h₀ : Heap) (L : Addr) (s : Shared) (Led : σ → List (Addr × Obj)) (rest : List (Addr × Obj)) (ps : σ → List (Str × Value)) (P : σ → Prop) (s₂ : Shared) : Prop :=
  ∃ (c' : σ) (h' : Heap) (tk : Nat) (m' : Str → Option Value) (news' : List (Addr × Obj)), s₂ = { s with heap := h', toks := tk } ∧ Fr h₀ L h' m' ∧ News h₀ L h' news' ∧ (∀ p ∈ Led c' ++ rest, p ∈ news') ∧ (∀ p ∈ ps c', m' p.1 = some p.2) ∧ P c'
def FPost {σ : Type} (h₀ : Heap) (L : Addr) (s : Shared) (Led : σ → List (Addr × Obj)) (rest : List (Addr × Obj)) (ps : σ → List (Str × Value)) (P : σ → Prop) (Q : Flow → Shared → Prop) (f : Flow) (s₂ : Shared) : Prop :=
  match f with
  | .ret v => Q (.ret v) s₂
  | .brk => Q .next s₂
  | _ => FEnd h₀ L s Led rest ps P s₂
def notIt (o : Obj) : Bool := o.cls != .type "list_iterator" && o.cls != .type "range_iterator"

theorem my_for {σ : Type} {l : Addr} {vs : List Value} {x : Str} {body : List Stmt} {m₀ : Str → Option Value} {Q : Flow → Shared → Prop} (Led : σ → List (Addr × Obj)) (fix : List (Addr × Obj)) (ps : σ → List (Str × Value)) (P : Nat → σ → Prop) (c₀ : σ)
    (hh : A.handled = none) (hl : s.heap.IsList l vs.toArray) (hlL : l ≠ L) (hcl : ∀ c, ∀ p ∈ Led c, notIt p.2 = true)
    (F : Fr h₀ L s.heap m₀) (N : News h₀ L s.heap (Led c₀ ++ fix)) (hk : ∀ p ∈ ps c₀, m₀ p.1 = some p.2) (hp : P 0 c₀)
    (turn : ∀ i v (c : σ) (u : Str → Option Value) h tk own, vs[i]? = some v → P i c → (∀ q ∈ Led c, q.1 ≠ l → ∀ p ∈ own, p.1 ≠ q.1) →
      Fr h₀ L h (fun y => if y = x then some v else kb u (ps c) y) → News h₀ L h (Led c ++ (fix ++ own)) →
      wpAny (model prog w) A (execs body env) (FPost h₀ L s Led (fix ++ own) ps (P (i + 1)) Q) E { s with heap := h, toks := tk })
    (done : ∀ (c : σ) (u : Str → Option Value) h tk, P vs.length c → Fr h₀ L h (kb u (ps c)) → News h₀ L h (Led c ++ fix) → Q .next { s with heap := h, toks := tk }) (hLe : env.locals = L) :
    wpAny (model prog w) A (pyIter (.ref l)) (fun it s₂ => LoopAtV prog w A h₀ env x body Q E it s₂) E s := by
  subst hLe
  obtain ⟨ol, hol, hol'⟩ := id hl
  have hlt : l < s.heap.objs.size := Heap.lt_size hol
  have hne : l ≠ s.heap.objs.size := Nat.ne_of_lt hlt
  have hLlt : env.locals < s.heap.objs.size := F.ns.lt
  refine wpAny_pyIter_list hl ?_
  have W := Walks.list (prog := prog) (w := w) hh s.heap.objs.size l hne vs.toArray
  refine ⟨_, _, _, vs.toArray.size, _, _, m₀, Led c₀ ++ fix, fun i m nx => ∃ c : σ, nx = Led c ++ fix ∧ (∀ p ∈ ps c, m p.1 = some p.2) ∧ P i c, rfl, W, ?_, ?_, ?_, ⟨⟨_, Heap.get?_push_size _ rfl, rfl, rfl⟩, hl.at fun o e => Heap.get?_push_of_some _ e⟩, F.push _, (fun p hp => ⟨Heap.get?_push_of_some _ (N p hp).1, (N p hp).2⟩), ⟨c₀, rfl, hk, hp⟩, ?_, ?_⟩
  · intro hm
    rcases List.mem_cons.mp hm with e | hm
    · exact absurd hLlt (e ▸ Nat.lt_irrefl _)
    · exact hlL (List.mem_singleton.mp hm).symm
  · intro b hb
    rw [List.mem_singleton.mp hb]
    cases hq : h₀.get? s.heap.objs.size with
    | none => rfl
    | some o' => exact absurd (Heap.lt_size (F.keep _ _ hq)) (Nat.lt_irrefl _)
  · intro p hp hI
    exact absurd (Heap.lt_size (N p hp).1) ((List.mem_singleton.mp hI) ▸ Nat.lt_irrefl _)
  · rintro i v m₁ news₁ s₁ own ⟨hh', tk', rfl⟩ hin hP ⟨c, rfl, h1, hp'⟩ hoff hown hownh hfp hst F₁ N₁
    have hfix : ∀ p ∈ fix, p.1 ≠ s.heap.objs.size := fun p hp => Nat.ne_of_lt (Heap.lt_size (N p (List.mem_append.mpr (.inr hp))).1)
    have hI : ∃ o, hh'.get? s.heap.objs.size = some o ∧ notIt o = false := by
      obtain ⟨⟨o, ho, hc, _⟩, _⟩ := hst
      exact ⟨o, ho, by unfold notIt; rw [hc]; rfl⟩
    obtain ⟨oI, hoI, hcI⟩ := hI
    have hnI : h₀.get? s.heap.objs.size = none := by
      cases hq : h₀.get? s.heap.objs.size with
      | none => rfl
      | some o' => exact absurd (Heap.lt_size (F.keep _ _ hq)) (Nat.lt_irrefl _)
    have hmI : (s.heap.objs.size, oI) ∈ own := hfp _ (.head _) hnI _ hoI
    have N₂ : News h₀ env.locals hh' (Led c ++ (fix ++ own)) := fun p hp => N₁ p (by
      rcases List.mem_append.mp hp with h | h
      · exact List.mem_append.mpr (.inr (List.mem_append.mpr (.inl h)))
      · rcases List.mem_append.mp h with h | h
        · exact List.mem_append.mpr (.inr (List.mem_append.mpr (.inr h)))
        · exact List.mem_append.mpr (.inl h))
    have e1 : (fun y => if y = x then some v else m₁ y) = fun y => if y = x then some v else kb m₁ (ps c) y := by rw [kb_eq (u := m₁) h1]
    rw [e1] at F₁
    have hv : vs[i]? = some v := by simpa using hP
    refine wpAny_mono (turn i v c m₁ hh' tk' own hv hp' ?_ F₁ N₂) (fun f s₂ p => ?_) fun _ _ e => e
    · intro q hq hql p hp e
      rcases List.mem_cons.mp (hown p hp) with h2 | h2
      · have h3 := (N₂ q (List.mem_append.mpr (.inl hq))).1
        rw [← e, h2] at h3
        have h4 := hoI.symm.trans h3
        cases h4
        rw [hcl c q hq] at hcI
        cases hcI
      · exact hql (e ▸ List.mem_singleton.mp h2)
    · have fin : FEnd h₀ env.locals s Led (fix ++ own) ps (P (i + 1)) s₂ → LoopStepU h₀ env.locals [s.heap.objs.size] own (fun m nx => ∃ c : σ, nx = Led c ++ fix ∧ (∀ p ∈ ps c, m p.1 = some p.2) ∧ P (i + 1) c) { s with heap := hh', toks := tk' } .next s₂ := by
        rintro ⟨c', h', tk, m', news', rfl, F', N', hn, hk9, hp9⟩
        have hin2 : ∀ p ∈ Led c' ++ fix, p ∈ news' := fun p hp => hn p (by
          rcases List.mem_append.mp hp with h | h
          · exact List.mem_append.mpr (.inl h)
          · exact List.mem_append.mpr (.inr (List.mem_append.mpr (.inl h))))
        have hino : ∀ p ∈ own, p ∈ news' := fun p hp => hn p (List.mem_append.mpr (.inr (List.mem_append.mpr (.inr hp))))
        refine ⟨rfl, h', tk, m', Led c' ++ fix, rfl, F', fun p hp => N' p ((List.mem_append.mp hp).elim (hino p) (hin2 p)), fun p hp hq => ?_, c', rfl, hk9, hp9⟩
        have e := List.mem_singleton.mp hq
        rcases List.mem_append.mp hp with h | h
        · have h3 := (N' p (hin2 p hp)).1
          have h4 := (N' _ (hino _ hmI)).1
          rw [e] at h3
          have h5 := h4.symm.trans h3
          cases h5
          rw [hcl c' p h] at hcI
          cases hcI
        · exact hfix p h e
      cases f with
      | ret v => exact .ret p
      | brk => exact .brk p
      | next => exact .next (fin p)
      | cont => exact .cont (fin p)
  · rintro h' tk m' news' F' N' _ ⟨c, rfl, h1, hp'⟩
    rw [← kb_eq (u := m') h1] at F'
    exact done c m' h' tk (by simpa using hp') F' N'

theorem my_forR {σ : Type} {r : Addr} {a₀ b₀ : Int} {t₀ u₀ v₀ : Tok} {n : Nat} {x : Str} {body : List Stmt} {m₀ : Str → Option Value} {Q : Flow → Shared → Prop} (Led : σ → List (Addr × Obj)) (fix : List (Addr × Obj)) (ps : σ → List (Str × Value)) (P : Nat → σ → Prop) (c₀ : σ)
    (hh : A.handled = none) (hr : IsRange s.heap r a₀ b₀ 1 t₀ u₀ v₀) (hsmall : Builtin.Range.small a₀ b₀ 1 = true) (hsz : Builtin.Range.rangeSize a₀ b₀ 1 = (n : Int)) (hcl : ∀ c, ∀ p ∈ Led c, notIt p.2 = true)
    (F : Fr h₀ L s.heap m₀) (N : News h₀ L s.heap (Led c₀ ++ fix)) (hk : ∀ p ∈ ps c₀, m₀ p.1 = some p.2) (hp : P 0 c₀)
    (turn : ∀ i t (c : σ) (u : Str → Option Value) h tk own, i < n → P i c → (∀ q ∈ Led c, ∀ p ∈ own, p.1 ≠ q.1) →
      Fr h₀ L h (fun y => if y = x then some (.int (a₀ + (i : Int)) t) else kb u (ps c) y) → News h₀ L h (Led c ++ (fix ++ own)) →
      wpAny (model prog w) A (execs body env) (FPost h₀ L s Led (fix ++ own) ps (P (i + 1)) Q) E { s with heap := h, toks := tk })
    (done : ∀ (c : σ) (u : Str → Option Value) h tk, P n c → Fr h₀ L h (kb u (ps c)) → News h₀ L h (Led c ++ fix) → Q .next { s with heap := h, toks := tk }) (hLe : env.locals = L) :
    wpAny (model prog w) A (pyIter (.ref r)) (fun it s₂ => LoopAtV prog w A h₀ env x body Q E it s₂) E s := by
  subst hLe
  have hLlt : env.locals < s.heap.objs.size := F.ns.lt
  refine wpAny_pyIter_range hr hsmall ?_
  have W : Walks prog w A s.heap.objs.size [s.heap.objs.size] [s.heap.objs.size] n (fun i v => i < n ∧ ∃ t, v = .int (a₀ + i * 1) t)
      (fun i h => IsRangeIter h s.heap.objs.size (a₀ + (i : Nat) * 1) ((n : Int) - (i : Nat)) 1) := (Walks.range hh _ a₀ 1 n).bound
  have hnI : h₀.get? s.heap.objs.size = none := by
    cases hq : h₀.get? s.heap.objs.size with
    | none => rfl
    | some o' => exact absurd (Heap.lt_size (F.keep _ _ hq)) (Nat.lt_irrefl _)
  refine ⟨_, _, _, n, _, _, m₀, Led c₀ ++ fix, fun i m nx => ∃ c : σ, nx = Led c ++ fix ∧ (∀ p ∈ ps c, m p.1 = some p.2) ∧ P i c, rfl, W, ?_, ?_, ?_, (by show IsRangeIter _ _ _ _ _; rw [hsz]; simpa using Heap.get?_push_size _ rfl), F.push _, (fun p hp => ⟨Heap.get?_push_of_some _ (N p hp).1, (N p hp).2⟩), ⟨c₀, rfl, hk, hp⟩, ?_, ?_⟩
  · intro hm
    exact absurd hLlt ((List.mem_singleton.mp hm) ▸ Nat.lt_irrefl _)
  · intro b hb
    rw [List.mem_singleton.mp hb]
    exact hnI
  · intro p hp hI
    exact absurd (Heap.lt_size (N p hp).1) ((List.mem_singleton.mp hI) ▸ Nat.lt_irrefl _)
  · rintro i v m₁ news₁ s₁ own ⟨hh', tk', rfl⟩ hin ⟨_, t, rfl⟩ ⟨c, rfl, h1, hp'⟩ hoff hown hownh hfp hst F₁ N₁
    have hfix : ∀ p ∈ fix, p.1 ≠ s.heap.objs.size := fun p hp => Nat.ne_of_lt (Heap.lt_size (N p (List.mem_append.mpr (.inr hp))).1)
    obtain ⟨oI, hoI, hcI⟩ : ∃ o, hh'.get? s.heap.objs.size = some o ∧ notIt o = false := ⟨_, hst, rfl⟩
    have hmI : (s.heap.objs.size, oI) ∈ own := hfp _ (.head _) hnI _ hoI
    have N₂ : News h₀ env.locals hh' (Led c ++ (fix ++ own)) := fun p hp => N₁ p (by
      rcases List.mem_append.mp hp with h | h
      · exact List.mem_append.mpr (.inr (List.mem_append.mpr (.inl h)))
      · rcases List.mem_append.mp h with h | h
        · exact List.mem_append.mpr (.inr (List.mem_append.mpr (.inr h)))
        · exact List.mem_append.mpr (.inl h))
    have e0 : a₀ + (i : Int) * 1 = a₀ + (i : Int) := by omega
    rw [e0] at F₁
    have e1 : (fun y => if y = x then some (Value.int (a₀ + (i : Int)) t) else m₁ y) = fun y => if y = x then some (Value.int (a₀ + (i : Int)) t) else kb m₁ (ps c) y := by rw [kb_eq (u := m₁) h1]
    rw [e1] at F₁
    refine wpAny_mono (turn i t c m₁ hh' tk' own hin hp' ?_ F₁ N₂) (fun f s₂ p => ?_) fun _ _ e => e
    · intro q hq p hp e
      have h2 := List.mem_singleton.mp (hown p hp)
      have h3 := (N₂ q (List.mem_append.mpr (.inl hq))).1
      rw [← e, h2] at h3
      have h4 := hoI.symm.trans h3
      cases h4
      rw [hcl c q hq] at hcI
      cases hcI
    · have fin : FEnd h₀ env.locals s Led (fix ++ own) ps (P (i + 1)) s₂ → LoopStepU h₀ env.locals [s.heap.objs.size] own (fun m nx => ∃ c : σ, nx = Led c ++ fix ∧ (∀ p ∈ ps c, m p.1 = some p.2) ∧ P (i + 1) c) { s with heap := hh', toks := tk' } .next s₂ := by
        rintro ⟨c', h', tk, m', news', rfl, F', N', hn, hk9, hp9⟩
        have hin2 : ∀ p ∈ Led c' ++ fix, p ∈ news' := fun p hp => hn p (by
          rcases List.mem_append.mp hp with h | h
          · exact List.mem_append.mpr (.inl h)
          · exact List.mem_append.mpr (.inr (List.mem_append.mpr (.inl h))))
        have hino : ∀ p ∈ own, p ∈ news' := fun p hp => hn p (List.mem_append.mpr (.inr (List.mem_append.mpr (.inr hp))))
        refine ⟨rfl, h', tk, m', Led c' ++ fix, rfl, F', fun p hp => N' p ((List.mem_append.mp hp).elim (hino p) (hin2 p)), fun p hp hq => ?_, c', rfl, hk9, hp9⟩
        have e := List.mem_singleton.mp hq
        rcases List.mem_append.mp hp with h | h
        · have h3 := (N' p (hin2 p hp)).1
          have h4 := (N' _ (hino _ hmI)).1
          rw [e] at h3
          have h5 := h4.symm.trans h3
          cases h5
          rw [hcl c' p h] at hcI
          cases hcI
        · exact hfix p h e
      cases f with
      | ret v => exact .ret p
      | brk => exact .brk p
      | next => exact .next (fin p)
      | cont => exact .cont (fin p)
  · rintro h' tk m' news' F' N' _ ⟨c, rfl, h1, hp'⟩
    rw [← kb_eq (u := m') h1] at F'
    exact done c m' h' tk hp' F' N'

theorem my_forB {σ : Type} {l : Addr} {vs : List Value} {x : Str} {body : List Stmt} {m₀ : Str → Option Value} {Q : Flow → Shared → Prop} (Led : σ → List (Addr × Obj)) (fix : List (Addr × Obj)) (ps : σ → List (Str × Value)) (P : Nat → σ → Prop) (c₀ : σ)
    (hh : A.handled = none) (hl : h₀.IsList l vs.toArray) (hcl : ∀ c, ∀ p ∈ Led c, notIt p.2 = true)
    (F : Fr h₀ L s.heap m₀) (N : News h₀ L s.heap (Led c₀ ++ fix)) (hk : ∀ p ∈ ps c₀, m₀ p.1 = some p.2) (hp : P 0 c₀)
    (turn : ∀ i v (c : σ) (u : Str → Option Value) h tk own, vs[i]? = some v → P i c → (∀ q ∈ Led c, ∀ p ∈ own, p.1 ≠ q.1) →
      Fr h₀ L h (fun y => if y = x then some v else kb u (ps c) y) → News h₀ L h (Led c ++ (fix ++ own)) →
      wpAny (model prog w) A (execs body env) (FPost h₀ L s Led (fix ++ own) ps (P (i + 1)) Q) E { s with heap := h, toks := tk })
    (done : ∀ (c : σ) (u : Str → Option Value) h tk, P vs.length c → Fr h₀ L h (kb u (ps c)) → News h₀ L h (Led c ++ fix) → Q .next { s with heap := h, toks := tk }) (hLe : env.locals = L) :
    wpAny (model prog w) A (pyIter (.ref l)) (fun it s₂ => LoopAtV prog w A h₀ env x body Q E it s₂) E s := by
  subst hLe
  obtain ⟨ol, hol, _⟩ := id hl
  refine my_for Led fix ps P c₀ hh (hl.at fun o e => F.keep l o e) (Nat.ne_of_lt (Nat.lt_of_lt_of_le (Heap.lt_size hol) F.above)) hcl F N hk hp ?_ done rfl
  intro i v c u h tk own h1 h2 h3 F' N'
  refine turn i v c u h tk own h1 h2 (fun q hq p hp => h3 q hq (fun e => ?_) p hp) F' N'
  have := (N' q (List.mem_append.mpr (.inl hq))).2.2
  rw [e, hol] at this
  cases this
end

section
variable {M : Model} {A : Around} {E : Value → Shared → Prop} {name : Str} {scope : Scope} {L a : Addr} {cd : Value} {h₀ : Heap} {m : Str → Option Value} {news : List (Addr × Obj)}
  {hp : Heap} {gs : Array GenState} {dr : Drawn} {tk : Nat} {os : OsState}
theorem st_int {x : Str} {n : Int} {t : Tok} {Q : Unit → Shared → Prop} (F : Fr h₀ L hp m) (N : News h₀ L hp news)
    (h : ∀ h' t' k, Fr h₀ L h' (fun y => if y = x then some (.int n t') else m y) → News h₀ L h' news → Q () ⟨h', gs, dr, k, os⟩)
    (hk : scope.kind = .function := by rfl) (hl : (envOf name scope L a cd).kindOf x = some .local := by rfl) :
    wpAny M A (storeName (envOf name scope L a cd) x (.int n t)) Q E ⟨hp, gs, dr, tk, os⟩ := stN (s := ⟨hp, gs, dr, tk, os⟩) F N (fun h' F' N' => h h' _ _ F' N') hk hl
theorem st_str {x : Str} {n : Str} {t : Tok} {Q : Unit → Shared → Prop} (F : Fr h₀ L hp m) (N : News h₀ L hp news)
    (h : ∀ h' t' k, Fr h₀ L h' (fun y => if y = x then some (.str n t') else m y) → News h₀ L h' news → Q () ⟨h', gs, dr, k, os⟩)
    (hk : scope.kind = .function := by rfl) (hl : (envOf name scope L a cd).kindOf x = some .local := by rfl) :
    wpAny M A (storeName (envOf name scope L a cd) x (.str n t)) Q E ⟨hp, gs, dr, tk, os⟩ := stN (s := ⟨hp, gs, dr, tk, os⟩) F N (fun h' F' N' => h h' _ _ F' N') hk hl
end
theorem gives_find4 (x y : Str) (i j : Int) (t u v v' : Tok) : Gives («str.find» ⟨[.str x t, .str y u, .int i v, .int j v'], []⟩) (.int (find4 x y i j)) := by
  show Gives (match occurrences x y (fromIndex x.length i) (endIdx x.length j) 1 with | k :: _ => retInt k | [] => (do rule "str.find.not-found"; retInt (-1))) _
  unfold find4
  cases occurrences x y (fromIndex x.length i) (endIdx x.length j) 1 with
  | nil => exact .rule (.of_eq rfl)
  | cons k _ => exact .of_eq rfl
theorem gives_count4 (x y : Str) (i j : Int) (t u v v' : Tok) : Gives («str.count» ⟨[.str x t, .str y u, .int i v, .int j v'], []⟩) (.int (count4 x y i j)) := by
  show Gives (retInt (occurrences x y (fromIndex x.length i) (endIdx x.length j) (x.length + 1)).length) _
  exact .of_eq rfl
section
variable {prog : Program} {w : World} {A : Around} {E : Value → Shared → Prop} {x y : Str} {t u v v' : Tok} {i j : Int} {Q : Value → Shared → Prop}
  {hp : Heap} {gs : Array GenState} {dr : Drawn} {tk : Nat} {os : OsState}
theorem find3_c (hq : ∀ t' k, Q (.int (Txt.find3 x y i) t') ⟨hp, gs, dr, k, os⟩) : wpAny (model prog w) A (call (.builtin "str.find") [.str x t, .str y u, .int i v]) Q E ⟨hp, gs, dr, tk, os⟩ :=
  SC.find3 (hq _ _)
theorem find4_c (hq : ∀ t' k, Q (.int (find4 x y i j) t') ⟨hp, gs, dr, k, os⟩) : wpAny (model prog w) A (call (.builtin "str.find") [.str x t, .str y u, .int i v, .int j v']) Q E ⟨hp, gs, dr, tk, os⟩ :=
  call_gives F.slot_str_find (typeIs_str _ _ _) F.entry_str_find (F.args_str_find_4 _ _ _ _) (gives_find4 x y i j t u v v') (hq _ _)
theorem count4_c (hq : ∀ t' k, Q (.int (count4 x y i j) t') ⟨hp, gs, dr, k, os⟩) : wpAny (model prog w) A (call (.builtin "str.count") [.str x t, .str y u, .int i v, .int j v']) Q E ⟨hp, gs, dr, tk, os⟩ :=
  call_gives F.slot_str_count (typeIs_str _ _ _) F.entry_str_count (F.args_str_count_4 _ _ _ _) (gives_count4 x y i j t u v v') (hq _ _)
theorem add_c (hs : x.length + y.length ≤ 16777216) (h : ∀ t' k, (x ++ y).length = x.length + y.length → Q (.str (x ++ y) t') ⟨hp, gs, dr, k, os⟩) : wpAny (model prog w) A (binaryOp .Add (.str x t) (.str y u)) Q E ⟨hp, gs, dr, tk, os⟩ :=
  SB.add (fun t' k => h t' k (Str.length_append x y)) (by rw [sizeLine_eq]; omega)
theorem strip_c (hs : x.length ≤ 16777216) (h : ∀ t' k, (Txt.strip x).length ≤ x.length → Q (.str (Txt.strip x) t') ⟨hp, gs, dr, k, os⟩) : wpAny (model prog w) A (call (.builtin "str.strip") [.str x t]) Q E ⟨hp, gs, dr, tk, os⟩ :=
  SCL.strip h (by rw [sizeLine_eq]; omega)
theorem rstrip_c (hs : x.length ≤ 16777216) (h : ∀ t' k, (Txt.rstrip x).length ≤ x.length → Q (.str (Txt.rstrip x) t') ⟨hp, gs, dr, k, os⟩) : wpAny (model prog w) A (call (.builtin "str.rstrip") [.str x t]) Q E ⟨hp, gs, dr, tk, os⟩ :=
  SCL.rstrip h (by rw [sizeLine_eq]; omega)
theorem lstrip_c (hs : x.length ≤ 16777216) (h : ∀ t' k, (Txt.lstrip x).length ≤ x.length → Q (.str (Txt.lstrip x) t') ⟨hp, gs, dr, k, os⟩) : wpAny (model prog w) A (call (.builtin "str.lstrip") [.str x t]) Q E ⟨hp, gs, dr, tk, os⟩ :=
  SCL.lstrip h (by rw [sizeLine_eq]; omega)
theorem lower_c (hx : x.length ≤ 5592405) (hq : ∀ t' k, (Txt.lower x).length ≤ 3 * x.length → Q (.str (Txt.lower x) t') ⟨hp, gs, dr, k, os⟩) : wpAny (model prog w) A (call (.builtin "str.lower") [.str x t]) Q E ⟨hp, gs, dr, tk, os⟩ :=
  SCL.lower hx fun h => hq _ _ h
end
section
variable {prog : Program} {w : World} {A : Around} {E : Value → Shared → Prop} {Q : Value → Shared → Prop} {hp : Heap} {gs : Array GenState} {dr : Drawn} {tk : Nat} {os : OsState} {h₀ : Heap} {L D : Addr} {m : Str → Option Value} {news news' : List (Addr × Obj)}
theorem append_c {vs : List Value} {n : Nat} {x : Value} (F : Fr h₀ L hp m) (N : News h₀ L hp news) (U : Upd D (listOf vs.toArray n) (listOf (vs ++ [x]).toArray (n + 1)) news news') (hs : vs.length ≤ 16777216)
    (h : ∀ h', Fr h₀ L h' m → News h₀ L h' news' → Q .none ⟨h', gs, dr, tk, os⟩) : wpAny (model prog w) A (call (.builtin "list.append") [.ref D, x]) Q E ⟨hp, gs, dr, tk, os⟩ :=
  append_K (s := ⟨hp, gs, dr, tk, os⟩) (its := vs.toArray) (n := n) F N (by rw [show vs.toArray.push x = (vs ++ [x]).toArray by simp]; exact U) h (by rw [sizeLine_eq, List.size_toArray]; omega)
end
abbrev tupO (vs : List Value) : Obj := { cls := .type "tuple", data := .seq vs.toArray }
def optV : Option Str → Tok → Value
  | none, _ => .none
  | some b, t => .str b t
def spl (x : Str) : Str × Option Str :=
  (Txt.strip (Txt.partition x (Str.ofString ";")).1, if (Txt.partition x (Str.ofString ";")).2.1.length = 0 then none else some (Txt.strip (Txt.partition x (Str.ofString ";")).2.2))
end Mine

end
section
open PySem PySem.W PySem.Calls PyProof.Rows
namespace Mine
abbrev PR : Program := PySem.Challenge.rw_at0001_01.row.toRowW.prog
set_option maxRecDepth 100000 in
set_option maxHeartbeats 8000000 in
theorem split_c {w : World} {loose : List Str} {mean : ExcName → Option Value} {mg mb : Str → Option Value}
    {dp un : Nat} {gd : Option (List Code)} {cn : Str} {cs : Scope} {a : Addr} {ccd : Value} {cl : List (Str × Addr)} {outer : List Env} {A₀ : Around} {base h₀ : Heap} {L : Addr} {m : Str → Option Value} {s : Shared} {Q E : Value → Shared → Prop} {news : List (Addr × Obj)}
    {x : Str} {tx : Tok}
    (B : Below A₀ base outer h₀) (F : Fr h₀ L s.heap m) (X : (hd.heap_39 w.params).In h₀) (N : News h₀ L s.heap news) (T : Top hd.view_39 loose mean mg mb h₀) (hk : cs.kind = .function)
    (hdp : dp + 1 < recursionLimit) (hun : un + 8 < cLine) (hx : x.length ≤ 1000)
    (ret : ∀ r ta tb h' tk', Fr h₀ L h' m → News h₀ L h' ((r, tupO [.str (spl x).1 ta, optV (spl x).2 tb]) :: news) → (∀ p ∈ news, p.1 < r) → Q (.ref r) { s with heap := h', toks := tk' }) :
    wpAny (model PR w) (ktrTop dp un gd cn cs L a ccd cl outer) (call (.ref 21) [.str x tx]) Q E s := by
  have kk : (fun (_ : OpenLaw) (K : Params → Frag) => True) PySem.Challenge.rw_at0001_01 hd.heap_39 := by w_top off; k_fill; trivial
  clear kk
  refine wpAny_call ?_
  k_dflt cell_enter
  k_steps
  all_goals (
    refine' ret _ _ _ _ _ (by assumption) (cb_drop (by assumption) ?hin) ?hlt
    (case hlt => rename (_ ∧ AllLt _ news) => hl; exact ltAll_of hl.2)
    (case hin =>
      intro p hp
      rcases List.mem_cons.mp hp with rfl | hp
      · first
        | (rw [show (spl x).2 = some (Txt.strip (Txt.partition x (Str.ofString ";")).2.2) from if_neg (by omega)]; exact .head _)
        | (rw [show (spl x).2 = none from if_pos (by omega)]; exact .head _)
      · exact .tail _ (.tail _ hp)))
  all_goals exact 0
end Mine

end
section
open PySem PySem.W PySem.Calls PyProof.Rows PySem.Builtin PySem.Builtin.Str
namespace Mine
theorem D_self (l : List Nat) (a : Nat) : D l a a = 0 := by unfold D; rw [seg_nil]; rfl
theorem PI_init (y : Str) {a : Nat} (ha : a ≤ y.length) : PI y a false (F1 y a) a 0 := by
  show PA y a _ _ _
  refine ⟨a, a, rfl, Nat.le_refl _, .inl ⟨rfl, rfl⟩, by rw [len_lt]; exact ha, rfl, by rw [D_self]; rfl, fun p h1 h2 => by omega⟩
theorem F1_of {y : Str} {q k : Nat} (h1 : q ≤ k) (h2 : (lt y)[k]? = some 59) (h3 : ∀ p, q ≤ p → p < k → (lt y)[p]? ≠ some 59) : F1 y q = k := by
  rcases F1_spec y q with ⟨_, h4⟩ | ⟨k', h4, h5, h6, h7⟩
  · exact absurd h2 (h4 k h1)
  · rcases Nat.lt_trichotomy k k' with h | h | h
    · exact absurd h2 (h7 k h1 h)
    · rw [h4, h]
    · exact absurd h6 (h3 k' h5 h)
theorem PA_sum {y : Str} {a : Nat} {e i d : Int} (h : PA y a e i d) (he : 0 < e) : ∃ k lo : Nat, e = k ∧ i = lo ∧ a ≤ lo ∧ lo ≤ k ∧ k < (lt y).length ∧ (lt y)[k]? = some 59 ∧
    d + (count4 y (Str.ofString "\"") i e - count4 y (Str.ofString "\\\"") i e) = (D (lt y) a k : Int) ∧ (∀ p, a ≤ p → p < k → (lt y)[p]? = some 59 → D (lt y) a p % 2 = 1) ∧ (lo < k → F1 y (lo + 1) = k) := by
  obtain ⟨q, lo, hi, h1, h2, h3, h4, h5, h6⟩ := h
  rcases F1_spec y q with ⟨h7, _⟩ | ⟨k, h7, h8, h9, h10⟩
  · omega
  · have hlk : lo ≤ k := by omega
    have hk := lt_of_get h9
    have hkl : k ≤ y.length := by rw [← len_lt]; omega
    have e1 : e = (k : Int) := by rw [h4, h7]
    refine ⟨k, lo, e1, hi, h1, hlk, hk, h9, ?_, ?_, ?_⟩
    · rw [e1, hi, count_diff y hlk hkl, h5, D_split h1 hlk (by rcases h2 with h | h; exact .inl h.1; exact .inr h.2)]
      omega
    · intro p hp1 hp2 hp3
      rcases Nat.lt_or_ge p q with h | h
      · exact h6 p hp1 h hp3
      · exact absurd hp3 (h10 p h hp2)
    · intro hlt
      refine F1_of (q := lo + 1) (by omega) h9 fun p hp1 hp2 => ?_
      rcases Nat.lt_or_ge p q with h | h
      · omega
      · exact h10 p h hp2
theorem PB_sum {y : Str} {a : Nat} {e i d : Int} (h : PB y a e i d) : 
    d + (count4 y (Str.ofString "\"") i e - count4 y (Str.ofString "\\\"") i e) = d := by
  obtain ⟨lo, k, h1, h2, h3, h4, h5, h6, h7, h8, h9⟩ := h
  have hk := lt_of_get h4
  rw [len_lt] at hk
  rw [h1, count_none y i (by omega) ?_]
  · omega
  · rcases F1_spec y (k + 1) with ⟨h10, _⟩ | ⟨k', h10, h11, h12, _⟩
    · have : i = -1 := by rw [h6]; exact_mod_cast h10
      rw [this]; unfold fromIndex; omega
    · have : i = (k' : Int) := by rw [h6]; exact_mod_cast h10
      rw [this, fromIndex_nat]; omega
theorem fmod2 (n : Nat) : Int.fmod (n : Int) 2 = ((n % 2 : Nat) : Int) := by
  rw [Int.fmod_eq_emod_of_nonneg _ (by decide)]; omega

theorem PI_break {y : Str} {a : Nat} {b : Bool} {e i d : Int} (hI : PI y a b e i d) (he : 0 < e) (h : (d + (count4 y (Str.ofString "\"") i e - count4 y (Str.ofString "\\\"") i e)).fmod 2 = 0) :
    ∃ k : Nat, e = k ∧ k < (lt y).length ∧ Cut (lt y) a k := by
  cases b with
  | false =>
    obtain ⟨k, lo, h1, h2, h3, h4, h5, h6, h7, h8, _⟩ := PA_sum hI he
    rw [h7, fmod2] at h
    exact ⟨k, h1, h5, by omega, by omega, fun _ => ⟨h6, by omega⟩, h8⟩
  | true =>
    rw [PB_sum hI] at h
    obtain ⟨lo, k, h1, h2, h3, h4, h5, h6, h7, h8, h9⟩ := hI
    rw [h7, fmod2] at h
    omega
theorem PI_next {y : Str} {a : Nat} {b : Bool} {e i d : Int} (hI : PI y a b e i d) (he : 0 < e) (h : (d + (count4 y (Str.ofString "\"") i e - count4 y (Str.ofString "\\\"") i e)).fmod 2 ≠ 0) :
    PI y a (!b) i (F1 y (e + 1)) (d + (count4 y (Str.ofString "\"") i e - count4 y (Str.ofString "\\\"") i e)) ∧
    (if (!b) = true then 2 * ((lt y).length - i.toNat) else 2 * ((lt y).length - (F1 y (e + 1)).toNat) + 1) < (if b = true then 2 * ((lt y).length - e.toNat) else 2 * ((lt y).length - i.toNat) + 1) := by
  cases b with
  | false =>
    obtain ⟨k, lo, h1, h2, h3, h4, h5, h6, h7, h8, h9⟩ := PA_sum hI he
    rw [h7] at h ⊢
    rw [fmod2] at h
    have hlk : lo < k := by
      rcases Nat.lt_or_ge lo k with h10 | h10
      · exact h10
      · have e1 : lo = k := by omega
        exfalso
        obtain ⟨q, lo', hi', g1, g2, g3, g4, g5, g6⟩ := hI
        have e2 : lo' = lo := by omega
        subst e2
        rcases g2 with g2 | g2
        · rw [← e1, g2.1, D_self] at h; simp at h
        · rcases F1_spec y q with ⟨g7, _⟩ | ⟨k', g7, g8, _, _⟩ <;> omega
    refine ⟨?_, by simp only [Bool.not_false, Bool.false_eq_true, if_false, if_true]; omega⟩
    show PB y a _ _ _
    refine ⟨lo, k, h2, h3, hlk, h6, h9 hlk, by rw [h1], rfl, by omega, fun p hp1 hp2 hp3 => ?_⟩
    rcases Nat.lt_or_ge p k with hpk | hpk
    · exact h8 p hp1 hpk hp3
    · have : p = k := by omega
      subst this; omega
  | true =>
    rw [PB_sum hI]
    obtain ⟨lo, k, h1, h2, h3, h4, h5, h6, h7, h8, h9⟩ := hI
    have hk := lt_of_get h4
    have e1 : F1 y (e + 1) = k := by rw [h1]; exact h5
    rw [e1]
    refine ⟨?_, by simp only [Bool.not_true, Bool.false_eq_true, if_false, if_true]; omega⟩
    show PA y a _ _ _
    exact ⟨k + 1, k, rfl, by omega, .inr ⟨rfl, h4⟩, by omega, h6, h7, fun p hp1 hp2 hp3 => h9 p hp1 (by omega) hp3⟩
theorem PI_out {y : Str} {a : Nat} {b : Bool} {e i d : Int} (hI : PI y a b e i d) (ha : 1 ≤ a) (hal : a ≤ y.length) (he : ¬ 0 < e) : e < 0 ∧ Cut (lt y) a y.length := by
  cases b with
  | false =>
    obtain ⟨q, lo, hi, h1, h2, h3, h4, h5, h6⟩ := hI
    rcases F1_spec y q with ⟨h7, h8⟩ | ⟨k, h7, h8, h9, h10⟩
    · refine ⟨by omega, hal, by rw [len_lt]; omega, fun h => by rw [len_lt] at h; omega, fun p hp1 hp2 hp3 => ?_⟩
      rcases Nat.lt_or_ge p q with h | h
      · exact h6 p hp1 h hp3
      · exact absurd hp3 (h8 p h)
    · omega
  | true =>
    obtain ⟨lo, k, h1, h2, h3, h4, h5, h6, h7, h8, h9⟩ := hI
    omega

/- the pieces' values -/
theorem slice_seg (y : Str) {a b : Nat} (hab : a ≤ b) (hb : b ≤ y.length) : Txt.slice y (some (a : Int)) (some (b : Int)) = S (seg (lt y) a b) := StrLaws.sliceText_nat y hab hb
theorem find4_spec (y : Str) (c : Nat) {a b : Nat} (hab : a ≤ b) (hb : b ≤ y.length) :
    (find4 y ⟨#[c]⟩ a b = -1 ∧ c ∉ seg (lt y) a b) ∨ ∃ k : Nat, find4 y ⟨#[c]⟩ a b = k ∧ a ≤ k ∧ k < b ∧ (lt y)[k]? = some c ∧ c ∉ seg (lt y) a k := by
  have hmem : ∀ b', b' ≤ y.length → (c ∈ seg (lt y) a b' ↔ ∃ p, a ≤ p ∧ p < b' ∧ (lt y)[p]? = some c) := by
    intro b' hb'
    unfold seg
    rw [List.mem_iff_getElem?]
    constructor
    · rintro ⟨i, hi⟩
      have h1 := lt_of_get hi
      rw [List.getElem?_take_of_lt (by simp at h1; omega), List.getElem?_drop] at hi
      exact ⟨a + i, by omega, by simp at h1; omega, hi⟩
    · rintro ⟨p, h1, h2, h3⟩
      refine ⟨p - a, ?_⟩
      rw [List.getElem?_take_of_lt (by omega), List.getElem?_drop]
      rw [← h3]; congr 1; omega
  unfold find4
  rw [fromIndex_nat, endIdx_nat hb, StrLaws.occ_eq]
  rcases StrLaws.occ_first y ⟨#[c]⟩ b 1 (Nat.le_refl 1) (List.range' a (b + 1 - a)) a (fun i hi => (List.mem_range'_1.mp hi).1) with ⟨h0, hn⟩ | ⟨pre, k, post, e, h0, hk, hn⟩
  · rw [h0]
    refine .inl ⟨rfl, fun h => ?_⟩
    obtain ⟨p, h1, h2, h3⟩ := (hmem b hb).mp h
    refine hn p (List.mem_range'_1.mpr ⟨h1, by omega⟩) ?_
    have := (occ1 y c b p hb).mpr ⟨h2, h3⟩
    unfold Occ at this
    rw [Bool.and_eq_true, decide_eq_true_eq] at this
    exact this
  · have hs := StrLaws.range'_split_from e
    have h1 : Occ y ⟨#[c]⟩ b k = true := by unfold Occ; rw [Bool.and_eq_true, decide_eq_true_eq]; exact hk
    rw [occ1 y c b k hb] at h1
    refine .inr ⟨k, ?_, hs.1, h1.1, h1.2, fun h => ?_⟩
    · generalize (forIn (List.range' a (b + 1 - a)) ((#[] : Array Nat), a) (StrLaws.occBody y ⟨#[c]⟩ b 1)).run.fst = arr at h0
      have h2 : arr.toList[0]? = some k := by simpa using h0
      cases hL : arr.toList with
      | nil => rw [hL] at h2; cases h2
      | cons d t => rw [hL] at h2; simp at h2; simp [h2]
    · obtain ⟨p, h2, h3, h4⟩ := (hmem k (by omega)).mp h
      refine hn p (hs.2 p h2 h3) ?_
      have := (occ1 y c b p hb).mpr ⟨by omega, h4⟩
      unfold Occ at this
      rw [Bool.and_eq_true, decide_eq_true_eq] at this
      exact this
theorem eq_str : Str.ofString "=" = ⟨#[61]⟩ := by decide +kernel
theorem val_none {y : Str} {a b : Nat} (hab : a ≤ b) (hb : b ≤ y.length) (h : find4 y (Str.ofString "=") a b = -1) :
    Txt.strip (Txt.slice y (some (a : Int)) (some (b : Int))) = fmt (seg (lt y) a b) := by
  rw [eq_str] at h
  rcases find4_spec y 61 hab hb with ⟨_, h1⟩ | ⟨k, h1, _⟩
  · unfold fmt
    rw [if_neg h1, slice_seg y hab hb]
  · omega
theorem takeWhile_seg {u v : List Nat} (h : 61 ∉ u) : (u ++ 61 :: v).takeWhile (· != 61) = u ∧ ((u ++ 61 :: v).dropWhile (· != 61)).tail = v := by
  induction u with
  | nil => simp
  | cons c r ih =>
    simp at h
    have hc : (c != 61) = true := by simp; omega
    have := ih (by simpa using h.2)
    simp [hc, this]
theorem val_some {y : Str} {a b : Nat} (hab : a ≤ b) (hb : b ≤ y.length) (h : find4 y (Str.ofString "=") a b ≠ -1) :
    Txt.strip (Txt.lower (Txt.rstrip (Txt.slice y (some (a : Int)) (some (find4 y (Str.ofString "=") a b)))) ++ Str.ofString "=" ++ Txt.lstrip (Txt.slice y (some (find4 y (Str.ofString "=") a b + 1)) (some (b : Int)))) = fmt (seg (lt y) a b) := by
  rw [eq_str] at h ⊢
  rcases find4_spec y 61 hab hb with ⟨h1, _⟩ | ⟨k, h1, h2, h3, h4, h5⟩
  · exact absurd h1 h
  · have e1 : seg (lt y) a b = seg (lt y) a k ++ 61 :: seg (lt y) (k + 1) b := by
      rw [seg_split h2 (Nat.le_of_lt h3), seg_at h4 h3]
    have e2 : ((k : Int) + 1) = ((k + 1 : Nat) : Int) := by omega
    rw [h1, e2, slice_seg y h2 (by omega), slice_seg y (by omega) hb]
    unfold fmt
    rw [if_pos (by rw [e1]; simp), e1, (takeWhile_seg h5).1, (takeWhile_seg h5).2, eq_str]
end Mine

end
section
open PySem PySem.W PySem.Calls PyProof.Rows PySem.Builtin PySem.Builtin.Str
namespace Mine
local macro_rules | `(tactic| walk_at "call builtin:str.find cons str cons str cons int nil") => `(tactic| (refine find3_c ?_; intro _ _))
local macro_rules | `(tactic| walk_at "call builtin:str.find") => `(tactic| (refine find3_c ?_; intro _ _))
local macro_rules | `(tactic| walk_at "call builtin:str.find") => `(tactic| (refine find4_c ?_; intro _ _))
local macro_rules | `(tactic| walk_at "call builtin:str.count") => `(tactic| (refine count4_c ?_; intro _ _))
local macro_rules | `(tactic| walk_at "binaryOp Add str str") => `(tactic| (k_here; k_dflt (refine add_c (by omega) ?_); intro _ _ _))
local macro_rules | `(tactic| walk_at "call builtin:str.strip") => `(tactic| (k_here; k_dflt (refine strip_c (by omega) ?_); intro _ _ _))
local macro_rules | `(tactic| walk_at "call builtin:str.rstrip") => `(tactic| (k_here; k_dflt (refine rstrip_c (by omega) ?_); intro _ _ _))
local macro_rules | `(tactic| walk_at "call builtin:str.lstrip") => `(tactic| (k_here; k_dflt (refine lstrip_c (by omega) ?_); intro _ _ _))
local macro_rules | `(tactic| walk_at "call builtin:list.append") => `(tactic| (k_here; k_dflt (refine' append_c ?k1 ?k2 ?k3 ?z ?_; (case k1 => k_asm); (case k2 => k_asm); (case k3 => k_upd); (case z => omega); k_whole); intro h' F' N'; (try k_sweep)))
local macro_rules | `(tactic| walk_at "WPost") => `(tactic| dsimp only [WPost])
local macro_rules | `(tactic| walk_at "FPost") => `(tactic| dsimp only [FPost])
local macro_rules | `(tactic| walk_at "call builtin:str.lower") => `(tactic| (k_here; k_dflt (refine lower_c (by omega) ?_); intro _ _ _))
local macro_rules | `(tactic| k_upd) => `(tactic| first | exact updHere (by assumption) | exact updOff (by assumption) | (refine' Upd.tail ?a ?b; (case a => k_ne); (case b => k_upd)))
local macro_rules | `(tactic| walk_at "storeName") => `(tactic| (k_here; k_dflt (refine st_int (by with_reducible assumption) (by with_reducible assumption) ?_); intro h' t' _ F' N'; (try k_sweep)))
local macro_rules | `(tactic| walk_at "storeName") => `(tactic| (k_here; k_dflt (refine st_str (by with_reducible assumption) (by with_reducible assumption) ?_); intro h' t' _ F' N'; (try k_sweep)))
local macro_rules | `(tactic| walk_at "exec While Compare cons nil") => `(tactic| refine Stop.out ?_)

abbrev pY (x : Str) : Str := Str.ofString ";" ++ x
structure PO (x : Str) (c : Nat × Tok × List Value × Nat) : Prop where
  hle : c.1 ≤ (lt (pY x)).length
  hch : c.1 < (lt (pY x)).length → (lt (pY x))[c.1]? = some 59
  hvl : c.2.2.1.length ≤ c.1
  hdn : ∃ dn, StrsAre c.2.2.1 dn ∧ dn ++ restP (lt (pY x)) c.1 = parse x
theorem pY_len (x : Str) : (lt (pY x)).length = x.length + 1 := by
  rw [len_lt, Str.length_append]
  have : (Str.ofString ";").length = 1 := by decide
  omega
theorem pY_list (x : Str) : lt (pY x) = 59 :: x.cps.toList := by
  show (Str.ofString ";" ++ x).cps.toList = _
  rw [Str.cps_append, show (Str.ofString ";").cps = #[59] by decide +kernel]
  simp
theorem PO_start (x : Str) (t : Tok) : PO x (0, t, [], 0) where
  hle := Nat.zero_le _
  hch := fun _ => by rw [pY_list]; rfl
  hvl := Nat.le_refl _
  hdn := ⟨[], .nil, by
    show [] ++ restP (lt (pY x)) 0 = parse x
    unfold restP parse
    rw [if_pos (by rw [pY_len]; omega), pY_list]; rfl⟩
theorem PO_at {x : Str} {c : Nat × Tok × List Value × Nat} (h : PO x c) (hf : F1 (pY x) (c.1 : Int) = c.1) : c.1 < (lt (pY x)).length := by
  rcases F1_spec (pY x) c.1 with ⟨h1, _⟩ | ⟨k, h1, h2, h3, _⟩
  · omega
  · have : k = c.1 := by omega
    subst this
    exact lt_of_get h3
theorem PO_done {x : Str} {c : Nat × Tok × List Value × Nat} (h : PO x c) (hf : F1 (pY x) (c.1 : Int) ≠ c.1) : StrsAre c.2.2.1 (parse x) := by
  have : ¬ c.1 < (lt (pY x)).length := fun hlt => hf (F1_of (Nat.le_refl _) (h.hch hlt) fun p h1 h2 => by omega)
  obtain ⟨dn, h1, h2⟩ := h.hdn
  rw [← h2]
  unfold restP
  rw [if_neg this, List.append_nil]
  exact h1
theorem PO_next {x : Str} {st k : Nat} {tst t' : Tok} {vs : List Value} {n n' : Nat} {v : Str} {tv : Tok} (h : PO x (st, tst, vs, n)) (hs : st < (lt (pY x)).length) (hc : Cut (lt (pY x)) (st + 1) k) (hv : v = fmt (seg (lt (pY x)) (st + 1) k)) : PO x (k, t', vs ++ [.str v tv], n') where
  hle := hc.2.1
  hch := fun hk => (hc.2.2.1 hk).1
  hvl := by have := h.hvl; have := hc.1; simp at *; omega
  hdn := by
    obtain ⟨dn, h1, h2⟩ := h.hdn
    refine ⟨dn ++ [v], StrsAre.append' h1 (.cons _ _ .nil), ?_⟩
    rw [← h2, List.append_assoc]
    show dn ++ ([v] ++ restP (lt (pY x)) k) = dn ++ restP (lt (pY x)) st
    have e : restP (lt (pY x)) st = v :: restP (lt (pY x)) k := by
      rw [hv, ← cut_rest (by omega) hc]
      conv => lhs; unfold restP
      rw [if_pos hs]
    rw [e]; rfl

set_option maxRecDepth 100000 in
set_option maxHeartbeats 4000000 in
theorem parse_c {w : World} {loose : List Str} {mean : ExcName → Option Value} {mg mb : Str → Option Value}
    {dp un : Nat} {gd : Option (List Code)} {cn : Str} {cs : Scope} {a : Addr} {ccd : Value} {cl : List (Str × Addr)} {outer : List Env} {A₀ : Around} {base h₀ : Heap} {L : Addr} {m : Str → Option Value} {s : Shared} {Q E : Value → Shared → Prop} {news : List (Addr × Obj)}
    {x : Str} {tx : Tok}
    (B : Below A₀ base outer h₀) (F : Fr h₀ L s.heap m) (X : (hd.heap_39 w.params).In h₀) (N : News h₀ L s.heap news) (T : Top hd.view_39 loose mean mg mb h₀) (hk : cs.kind = .function)
    (hdp : dp + 1 < recursionLimit) (hun : un + 8 < cLine) (hx : x.length ≤ 1000)
    (ret : ∀ r vs n h' tk', Fr h₀ L h' m → News h₀ L h' ((r, listOf vs.toArray n) :: news) → (∀ p ∈ news, p.1 < r) → StrsAre vs (parse x) → vs.length ≤ x.length + 1 → Q (.ref r) { s with heap := h', toks := tk' }) :
    wpAny (model PR w) (ktrTop dp un gd cn cs L a ccd cl outer) (call (.ref 28) [.str x tx]) Q E s := by
  have kk : (fun (_ : OpenLaw) (K : Params → Frag) => True) PySem.Challenge.rw_at0001_01 hd.heap_39 := by w_top off; k_fill; trivial
  clear kk
  refine wpAny_call ?_
  k_dflt cell_enter
  refine no_raise ?_
  k_steps
  refine ⟨?_⟩
  rename Fr _ _ _ _ => F1
  rename News _ _ _ _ => N1
  have hsc : (Str.ofString ";").length = 1 := by decide
  have hsq : (Str.ofString "=").length = 1 := by decide
  rename_i t' _ l' _ l1 _ _ _ _
  with_unfolding_all refine' my_while (σ := Nat × Tok × List Value × Nat) (fun c => (l', listOf c.2.2.1.toArray c.2.2.2) :: news) (fun c => [(Str.ofString "s", Value.str (pY x) t'), (Str.ofString "plist", Value.ref l'), (Str.ofString "start", Value.int (c.1 : Int) c.2.1)]) (PO x) (fun c => (lt (pY x)).length + 1 - c.1) (0, _, [], _) F1 N1 ?k1 ?k2 PassesOwn.never ?_
  case k1 => kst_all
  case k2 => exact PO_start x _
  clear F1 N1
  rintro ⟨st, tst, vs, n⟩ u h tk hP F1 N1
  dsimp only at F1 N1
  (try k_fold)
  k_steps
  · refine ⟨?_⟩
    rename Fr _ _ _ _ => F1
    rename News _ _ _ _ => N1
    rename (Txt.find3 _ _ _ = _) => hfind
    rename (_ < _ ∧ AllLt _ _) => hD
    clear hD
    have hlt := PO_at hP hfind
    have hlen1 := pY_len x
    have hlen2 := len_lt (pY x)
    have hvl : vs.length ≤ st := hP.hvl
    replace N1 := cb_drop (news := (l', listOf vs.toArray n) :: news) N1 (fun p hp => .tail _ hp)
    with_unfolding_all refine' my_while (σ := Bool × Int × Tok × Int × Tok × Int × Tok) (fun c => (l', listOf vs.toArray n) :: news) (fun c => [(Str.ofString "s", Value.str (pY x) t'), (Str.ofString "plist", Value.ref l'), (Str.ofString "start", Value.int (((st + 1 : Nat)) : Int) _), (Str.ofString "end", Value.int c.2.1 c.2.2.1), (Str.ofString "ind", Value.int c.2.2.2.1 c.2.2.2.2.1), (Str.ofString "diff", Value.int c.2.2.2.2.2.1 c.2.2.2.2.2.2)]) (fun c => PI (pY x) (st + 1) c.1 c.2.1 c.2.2.2.1 c.2.2.2.2.2.1) (fun c => if c.1 = true then 2 * ((lt (pY x)).length - c.2.1.toNat) else 2 * ((lt (pY x)).length - c.2.2.2.1.toNat) + 1) (false, _, _, _, _, _, _) F1 N1 ?k1 ?k2 PassesOwn.never ?_
    case k1 => kst_all
    case k2 => exact PI_init (pY x) (a := st + 1) (by omega)
    clear F1 N1
    rintro ⟨b, e, te, i, ti, d, td⟩ u h tk hI F1 N1
    dsimp only at hI F1 N1
    have hz : 0 < e ∨ e < 0 := by
      by_cases he : 0 < e
      · exact .inl he
      · exact .inr (PI_out hI (by omega) (by omega) he).1
    (try k_fold)
    k_steps
    · with_reducible rename Fr _ _ _ _ => F2
      with_reducible rename News _ _ _ _ => N2
      with_reducible rename (find4 _ _ _ _ = -1) => hf
      with_reducible rename (Int.fmod _ _ = 0) => hm
      with_reducible rename (0 < e) => he
      obtain ⟨k, rfl, hk, hc⟩ := PI_break hI he hm
      refine' ⟨(k, _, vs ++ [_], n + 1), _, _, _, _, rfl, F2, N2, fun p hp => hp, ?a1, PO_next hP hlt hc (val_none hc.1 (by omega) hf), ?a2⟩
      case a1 => kst_all
      case a2 => have := hc.1; dsimp only at hlt ⊢; omega
    · with_reducible rename Fr _ _ _ _ => F2
      with_reducible rename News _ _ _ _ => N2
      with_reducible rename (find4 _ _ _ _ ≠ -1) => hf
      with_reducible rename (Int.fmod _ _ = 0) => hm
      with_reducible rename (0 < e) => he
      obtain ⟨k, rfl, hk, hc⟩ := PI_break hI he hm
      refine' ⟨(k, _, vs ++ [_], n + 1), _, _, _, _, rfl, F2, N2, fun p hp => hp, ?a1, PO_next hP hlt hc (val_some hc.1 (by omega) hf), ?a2⟩
      case a1 => kst_all
      case a2 => have := hc.1; dsimp only at hlt ⊢; omega
    · with_reducible rename Fr _ _ _ _ => F2
      with_reducible rename News _ _ _ _ => N2
      with_reducible rename (Int.fmod _ _ ≠ 0) => hm
      with_reducible rename (0 < e) => he
      obtain ⟨hn, hmu⟩ := PI_next hI he hm
      refine' ⟨(!b, i, _, _, _, _, _), _, _, _, _, rfl, F2, N2, fun p hp => .tail _ hp, ?a1, hn, hmu⟩
      case a1 => kst_all
    · with_reducible rename Fr _ _ _ _ => F2
      with_reducible rename News _ _ _ _ => N2
      with_reducible rename (find4 _ _ _ _ = -1) => hf
      with_reducible rename (¬ 0 < e) => he
      obtain ⟨_, hc⟩ := PI_out hI (by omega) (by omega) he
      refine' ⟨((pY x).length, _, vs ++ [_], n + 1), _, _, _, _, rfl, F2, N2, fun p hp => hp, ?a1, PO_next hP hlt hc (val_none hc.1 (Nat.le_refl _) hf), ?a2⟩
      case a1 => kst_all
      case a2 => dsimp only at hlt ⊢; omega
    · with_reducible rename Fr _ _ _ _ => F2
      with_reducible rename News _ _ _ _ => N2
      with_reducible rename (find4 _ _ _ _ ≠ -1) => hf
      with_reducible rename (¬ 0 < e) => he
      obtain ⟨_, hc⟩ := PI_out hI (by omega) (by omega) he
      refine' ⟨((pY x).length, _, vs ++ [_], n + 1), _, _, _, _, rfl, F2, N2, fun p hp => hp, ?a1, PO_next hP hlt hc (val_some hc.1 (Nat.le_refl _) hf), ?a2⟩
      case a1 => kst_all
      case a2 => dsimp only at hlt ⊢; omega
  · with_reducible rename (Txt.find3 _ _ _ ≠ _) => hf
    refine ret _ vs n _ _ (by assumption) (by assumption) l1 (PO_done hP hf) ?_
    have h1 : vs.length ≤ st := hP.hvl
    have h2 : st ≤ (lt (pY x)).length := hP.hle
    have h3 := pY_len x
    omega
end Mine

end
section
open PySem PySem.W PySem.Calls PyProof.Rows PyProof.V PySem.Builtin PySem.Builtin.Str
namespace Mine
section
variable {prog : Program} {w : World} {A : Around} {E : Value → Shared → Prop} {s : Shared} {h₀ : Heap} {L : Addr} {m : Str → Option Value} {env : Env}

structure CEnd (h₀ : Heap) (L : Addr) (m : Str → Option Value) (s₁ : Shared) (led : List (Addr × Obj)) (J : Prop) (s₂ : Shared) : Prop where
  j : J
  e : ∃ h' tk' news', s₂ = { s₁ with heap := h', toks := tk' } ∧ Fr h₀ L h' m ∧ News h₀ L h' news' ∧ ∀ p ∈ led, p ∈ news'

theorem my_rest {elt : Expr} {x : Str} {scope : Scope} {cl : List (Str × Addr)} {S : List (Addr × Obj) → Prop} {P : Nat → Value → Prop} {Fin : List Value → List (Addr × Obj) → Prop} {n : Nat} {news : List (Addr × Obj)} (J : Nat → List Value → Prop) (hS : S news) (h0 : J 0 [])
    (turn : ∀ i v ys I oI C oC D m₂ h tk (E' : Value → Shared → Prop), i < n → P i v → J i ys → ys.length ≤ i → LCg.NsObj oC m₂ → m₂ x = some v → Fr h₀ L h m → News h₀ L h ((I, oI) :: (C, oC) :: (D, LCg.lst ys) :: news) → LCg.Off3 I C D news → ((@Ne Nat I C) ∧ (@Ne Nat I D) ∧ (@Ne Nat C D)) →
      wpAny (model prog w) A (eval elt (compEnvC scope cl C env)) (fun y s₂ => CEnd h₀ L m { s with heap := h, toks := tk } ((I, oI) :: (C, oC) :: (D, LCg.lst ys) :: news) (J (i + 1) (ys ++ [y])) s₂) E' { s with heap := h, toks := tk })
    (fin : ∀ ys, J n ys → ys.length ≤ n → Fin ys news) : LCg.CompRest prog w A h₀ L m env elt x scope cl s S P Fin n 0 [] news := by
  have key : ∀ (j i : Nat) (ys : List Value), i + j = n → J i ys → ys.length ≤ i → LCg.CompRest prog w A h₀ L m env elt x scope cl s S P Fin j i ys news := by
    intro j
    induction j with
    | zero =>
      intro i ys hi hJ hl
      have : i = n := by omega
      subst this
      exact LCg.CompRest.zero (fin ys hJ hl)
    | succ j ih =>
      intro i ys hi hJ hl
      refine LCg.CompRest.succ ?_
      intro v I oI C oC D m₂ h tk E' hv hC hx F N off ne
      refine wpAny_mono (turn i v ys I oI C oC D m₂ h tk E' (by omega) hv hJ hl hC hx F N off ne) (fun y s₂ hq => ?_) fun _ _ e => e
      obtain ⟨hJ', h', tk', news', rfl, F', N', hn⟩ := hq
      exact ⟨h', tk', news, rfl, F', fun p hp => N' p (hn p hp), off, hS, ih (i + 1) _ (by omega) hJ' (by simp; omega)⟩
  exact key n 0 [] (by omega) h0 (Nat.le_refl _)

theorem my_restT {ct elt : Expr} {x : Str} {scope : Scope} {cl : List (Str × Addr)} {S : List (Addr × Obj) → Prop} {P : Nat → Value → Prop} {Fin : List Value → List (Addr × Obj) → Prop} {n : Nat} {news : List (Addr × Obj)} (J : Nat → List Value → Prop) (hS : S news) (h0 : J 0 [])
    (turn : ∀ i v ys I oI C oC D m₂ h tk (E' : Value → Shared → Prop), i < n → P i v → J i ys → ys.length ≤ i → LCg.NsObj oC m₂ → m₂ x = some v → Fr h₀ L h m → News h₀ L h ((I, oI) :: (C, oC) :: (D, LCg.lst ys) :: news) → LCg.Off3 I C D news → ((@Ne Nat I C) ∧ (@Ne Nat I D) ∧ (@Ne Nat C D)) →
      wpAny (model prog w) A (isTrue ct (compEnvC scope cl C env) (eval ct (compEnvC scope cl C env))) (fun ok s' => if ok = true then
        wpAny (model prog w) A (eval elt (compEnvC scope cl C env)) (fun y s₂ => CEnd h₀ L m { s with heap := h, toks := tk } ((I, oI) :: (C, oC) :: (D, LCg.lst ys) :: news) (J (i + 1) (ys ++ [y])) s₂) E' s'
        else CEnd h₀ L m { s with heap := h, toks := tk } ((I, oI) :: (C, oC) :: (D, LCg.lst ys) :: news) (J (i + 1) ys) s') E' { s with heap := h, toks := tk })
    (fin : ∀ ys, J n ys → ys.length ≤ n → Fin ys news) : LCt.CompRestT prog w A h₀ L m env ct elt x scope cl s S P Fin n 0 [] news := by
  have key : ∀ (j i : Nat) (ys : List Value), i + j = n → J i ys → ys.length ≤ i → LCt.CompRestT prog w A h₀ L m env ct elt x scope cl s S P Fin j i ys news := by
    intro j
    induction j with
    | zero =>
      intro i ys hi hJ hl
      have : i = n := by omega
      subst this
      exact LCt.CompRestT.zero (fin ys hJ hl)
    | succ j ih =>
      intro i ys hi hJ hl
      refine LCt.CompRestT.succ ?_
      intro v I oI C oC D m₂ h tk E' hv hC hx F N off ne
      refine wpAny_mono (turn i v ys I oI C oC D m₂ h tk E' (by omega) hv hJ hl hC hx F N off ne) (fun ok s₂ hq => ?_) fun _ _ e => e
      cases ok with
      | false =>
        simp only [Bool.false_eq_true, if_false] at hq ⊢
        obtain ⟨hJ', h', tk', news', rfl, F', N', hn⟩ := hq
        exact ⟨h', tk', news, rfl, F', fun p hp => N' p (hn p hp), off, hS, ih (i + 1) _ (by omega) hJ' (by omega)⟩
      | true =>
        simp only [if_true] at hq ⊢
        refine wpAny_mono hq (fun y s₃ hq => ?_) fun _ _ e => e
        obtain ⟨hJ', h', tk', news', rfl, F', N', hn⟩ := hq
        exact ⟨h', tk', news, rfl, F', fun p hp => N' p (hn p hp), off, hS, ih (i + 1) _ (by omega) hJ' (by simp; omega)⟩
  exact key n 0 [] (by omega) h0 (Nat.le_refl _)

def SrcStrT (prog : Program) (w : World) (A : Around) (h₀ : Heap) (L : Addr) (m : Str → Option Value) (env : Env) (ct elt : Expr) (x : Str) (scope : Scope) (cl : List (Str × Addr)) (Fin : Shared → List Value → List (Addr × Obj) → Prop) (xv : Value) (s₁ : Shared) : Prop :=
  ∃ y t news, xv = .str y t ∧ A.handled = none ∧ Fr h₀ L s₁.heap m ∧ News h₀ L s₁.heap news ∧ y.cps.size ≤ sizeLine ∧
    ∀ s₂ : Shared, (∃ h, s₂ = { s₁ with heap := h }) → LCt.CompRestT prog w A h₀ L m env ct elt x scope cl s₂ (fun _ => True) (SignAt y) (Fin s₂) y.cps.size 0 [] news

theorem comp_strT {ct elt iter : Expr} {x : Str} {px : Pos} {scope : Scope} {cl : List (Str × Addr)} {pos : Pos} {Q : Value → Shared → Prop} (F₀ : Fr h₀ L s.heap m)
    (hclos : closureFor scope env = pure cl) (hcell : ∀ y ∈ scope.names, y.2 ≠ .cell) (hkind : scope.kind = .function)
    (hnames : ∀ y ∈ scope.names, y.2 = .local → scope.names.lookup y.1 = some .local) (hx : scope.names.lookup x = some .local)
    (h : wpAny (model prog w) A (eval iter env) (SrcStrT prog w A h₀ L m env ct elt x scope cl (fun s₂ => LCg.FinE h₀ L m s₂ Q)) E s)
    (hs : ∀ x, foldedSetIterable iter env x = pure x := by intro _; rfl) :
    wpAny (model prog w) A (eval (.ListComp elt [⟨.Name x px, iter, [ct], 0⟩] scope pos) env) Q E s := by
  rw [eval_ListComp]
  refine wpAny_comprehension_free (use := none) rfl hs hclos hkind hnames (wpAny_mono h (fun xv s₁ h₁ => ?_) fun _ _ e => e)
  obtain ⟨y, t, news, rfl, hh, F, N, hsz, R⟩ := h₁
  cases ha : y.cps.all (· < 128)
  · refine wpAny_pyIter_wide ha ?_
    refine LCt.block_T (Walks.strWide hh s₁.heap.objs.size y t) hsz (fun i h st => let ⟨o, e, _⟩ := st; ⟨o, e⟩) (fun i h h' o nw st e e' _ _ _ => let ⟨o', q, r⟩ := st; ⟨o, e', by rw [e] at q; cases q; exact r⟩) hcell hkind hx ⟨_, Heap.get?_push_size _ rfl, rfl, rfl⟩ (fun b hb => ?_)
      (F.keeps fun _ _ e => Heap.get?_push_of_some _ e) (N.grown fun _ _ e => Heap.get?_push_of_some _ e) (Nat.ne_of_lt F.ns.lt) (next_is_new F) (fun p hp => Nat.ne_of_lt (Heap.lt_size (N p hp).1)) trivial (R _ ⟨_, rfl⟩) ?_
    · rw [List.mem_singleton.mp hb]
      show s₁.heap.objs.size < (s₁.heap.push _).objs.size
      rw [Heap.size_push]; exact Nat.lt_succ_self _
    · intro D C h tk m' ys news' F' N' o1 hn hC₀ hD₀ hCL hDL hCD offC fin
      refine ⟨m', hn, fun h'' hs'' => fin D h'' tk (F'.change hs'' hCL hC₀) (fun p hp => ?_) o1⟩
      refine ⟨hs''.extBut _ _ ?_ (N' p hp).1, (N' p hp).2⟩
      rcases List.mem_cons.mp hp with rfl | hp
      · exact Ne.symm hCD
      · exact offC p hp
  · refine wpAny_pyIter_ascii ha ?_
    refine LCt.block_T (Walks.strAscii hh s₁.heap.objs.size y t) hsz (fun i h st => let ⟨o, e, _⟩ := st; ⟨o, e⟩) (fun i h h' o nw st e e' _ _ _ => let ⟨o', q, r⟩ := st; ⟨o, e', by rw [e] at q; cases q; exact r⟩) hcell hkind hx ⟨_, Heap.get?_push_size _ rfl, rfl, rfl⟩ (fun b hb => ?_)
      (F.keeps fun _ _ e => Heap.get?_push_of_some _ e) (N.grown fun _ _ e => Heap.get?_push_of_some _ e) (Nat.ne_of_lt F.ns.lt) (next_is_new F) (fun p hp => Nat.ne_of_lt (Heap.lt_size (N p hp).1)) trivial (R _ ⟨_, rfl⟩) ?_
    · rw [List.mem_singleton.mp hb]
      show s₁.heap.objs.size < (s₁.heap.push _).objs.size
      rw [Heap.size_push]; exact Nat.lt_succ_self _
    · intro D C h tk m' ys news' F' N' o1 hn hC₀ hD₀ hCL hDL hCD offC fin
      refine ⟨m', hn, fun h'' hs'' => fin D h'' tk (F'.change hs'' hCL hC₀) (fun p hp => ?_) o1⟩
      refine ⟨hs''.extBut _ _ ?_ (N' p hp).1, (N' p hp).2⟩
      rcases List.mem_cons.mp hp with rfl | hp
      · exact Ne.symm hCD
      · exact offC p hp
end

structure Hd (p : Prop) : Prop where out : p
theorem mem2 {α : Type} {a b : α} {l : List α} : ∀ p ∈ a :: l, p ∈ a :: b :: l := fun p hp => by
  rcases List.mem_cons.mp hp with rfl | hp
  · exact .head _
  · exact .tail _ (.tail _ hp)
theorem isList_of {h₀ h : Heap} {L D : Addr} {news : List (Addr × Obj)} {vs : List Value} {n : Nat} (N : News h₀ L h news) (hm : (D, ({ cls := .type "list", data := .seq vs.toArray n } : Obj)) ∈ news) : h.IsList D vs.toArray := ⟨_, (N _ hm).1, rfl, n, rfl⟩
section
variable {prog : Program} {w : World} {A : Around} {E : Value → Shared → Prop} {Q : Value → Shared → Prop} {hp : Heap} {gs : Array GenState} {dr : Drawn} {tk : Nat} {os : OsState} {h₀ : Heap} {L D : Addr} {m : Str → Option Value} {news : List (Addr × Obj)} {x : Str} {t : Tok}
theorem join_c {vs : List Value} {n : Nat} {ys : List Str} (N : News h₀ L hp news) (hm : (D, ({ cls := .type "list", data := .seq vs.toArray n } : Obj)) ∈ news) (hy : StrsAre vs ys) (hs : (ys.map (·.length)).sum + ys.length * x.length ≤ 16777216)
    (h : ∀ t' k, Q (.str (Str.join x ys) t') ⟨hp, gs, dr, k, os⟩) : wpAny (model prog w) A (call (.builtin "str.join") [.str x t, .ref D]) Q E ⟨hp, gs, dr, tk, os⟩ :=
  join_list (s := ⟨hp, gs, dr, tk, os⟩) (isList_of N hm) (by simpa using hy) hs (fun t' k => by
    have e : Txt.join x ys = Str.join x ys := StrLaws.glued_eq_join x ys
    rw [e]; exact h t' k)
theorem join_cE {vs : List Value} {n : Nat} {ys : List Str} {b : Str} (N : News h₀ L hp news) (hm : (D, ({ cls := .type "list", data := .seq vs.toArray n } : Obj)) ∈ news) (hy : StrsAre vs ys) (hs : (ys.map (·.length)).sum + ys.length * x.length ≤ 16777216)
    (e : Str.join x ys = b) (h : ∀ t' k, Q (.str b t') ⟨hp, gs, dr, k, os⟩) : wpAny (model prog w) A (call (.builtin "str.join") [.str x t, .ref D]) Q E ⟨hp, gs, dr, tk, os⟩ :=
  join_c N hm hy hs (e ▸ h)
end
section
variable {prog : Program} {w : World} {A : Around} {E : Value → Shared → Prop} {Q : Value → Shared → Prop} {s : Shared} {h₀ : Heap} {L D : Addr} {news : List (Addr × Obj)}
theorem item_c {value slice : Expr} {vs : List Value} {n : Nat} {ys : List Str} {k : Int} {u : Tok} (N : News h₀ L s.heap news) (hm : (D, ({ cls := .type "list", data := .seq vs.toArray n } : Obj)) ∈ news) (hy : StrsAre vs ys) (h0 : 0 ≤ k) (h1 : k < ys.length) (h2 : ys.length ≤ 1000000)
    (h : ∀ t', Q (.str (ys.getD k.toNat Str.empty) t') s)
    (hs : subscripted slice false (.ref D) (.int k u) = operate [.ref D, .int k u] (getItem (.ref D) (.int k u)) := by with_unfolding_all rfl) :
    wpAny (model prog w) A (subscriptTail value slice (.ref D) (.int k u)) Q E s := by
  have hk : k.toNat < ys.length := by omega
  obtain ⟨t', ht⟩ := StrsAre.at hy (j := k.toNat) (y := ys.getD k.toNat Str.empty) (by simp [List.getD_eq_getElem?_getD, hk])
  have hL := isList_of N hm
  exact tail_any hL.typeIs slot_list_getitem.lookup (wpAny_getItem_list hL h0 (by omega) (by simpa using ht) (h t')) hs
end
def Ok (ns : List Str) : Prop := ∀ x ∈ ns, ∀ c ∈ x.cps.toList, c < 0x110000
theorem canAll_strs : ∀ ns : List Str, Ok ns → PyData.canLayAll0 (ns.map PyData.str) = true
  | [], _ => rfl
  | x :: r, h => by
    have h1 : PyData.strOk x = true := by
      unfold PyData.strOk
      rw [Array.all_eq_true']
      intro c hc
      simpa using h x (.head _) c (by simpa using hc)
    simp [PyData.canLayAll0, PyData.canLay0, h1, canAll_strs r fun y hy => h y (.tail _ hy)]
theorem depthAll_strs : ∀ ns : List Str, PyData.depthAll (ns.map PyData.str) = 0
  | [] => rfl
  | _ :: r => by simp [PyData.depthAll, PyData.depth, depthAll_strs r]
theorem shaped_strs (ns : List Str) (h : Ok ns) : SeqAt.shaped (.list (ns.map PyData.str)) = true := by
  simp [SeqAt.shaped, PyData.canLay0, PyData.depth, canAll_strs ns h, depthAll_strs]
theorem sameAll_strs : ∀ ns ms : List Str, PySem.Spec.sameAll (ns.map PyData.str) (ms.map PyData.str) = decide (ns = ms)
  | [], [] => by simp [PySem.Spec.sameAll]
  | [], _ :: _ => by simp [PySem.Spec.sameAll]
  | _ :: _, [] => by simp [PySem.Spec.sameAll]
  | a :: r, b :: t => by
    simp only [List.map_cons, PySem.Spec.sameAll, PySem.Spec.same, sameAll_strs r t]
    by_cases h : a = b <;> by_cases h' : r = t <;> simp [h, h']
section
variable {prog : Program} {w : World} {A : Around} {E : Value → Shared → Prop} {s : Shared} {a b : Addr} {xs ys : List Value} {ns ms : List Str} {Q : Value → Shared → Prop} {h₀ : Heap} {L : Addr} {news : List (Addr × Obj)} {n k : Nat}
theorem eq_strs (N : News h₀ L s.heap news) (ha : (a, ({ cls := .type "list", data := .seq xs.toArray n } : Obj)) ∈ news) (hb : (b, ({ cls := .type "list", data := .seq ys.toArray k } : Obj)) ∈ news) (hi : StrsAre xs ns) (hj : StrsAre ys ms) (oi : Ok ns) (oj : Ok ms) (hu : A.units + 64 < cLine) (h : Q (.bool (decide (ns = ms))) s) :
    wpAny (model prog w) A (compareOp .Eq (.ref a) (.ref b)) Q E s :=
  eq_dataH_same (reads_newData (isList_of N ha) (StrsAre.carried hi)) (reads_newData (isList_of N hb) (StrsAre.carried hj)) (shaped_strs _ oi) (shaped_strs _ oj) hu (SeqAt.noMix_of_shape (.list .str) rfl _ _ (list_map_has fun _ => rfl) (list_map_has fun _ => rfl)) (by
    have e : PySem.Spec.same (.list (ns.map PyData.str)) (.list (ms.map PyData.str)) = decide (ns = ms) := by simp only [PySem.Spec.same]; exact sameAll_strs ns ms
    rw [e]; exact h)
theorem eq_strsT (N : News h₀ L s.heap news) (ha : (a, ({ cls := .type "list", data := .seq xs.toArray n } : Obj)) ∈ news) (hb : (b, ({ cls := .type "list", data := .seq ys.toArray k } : Obj)) ∈ news) (hi : StrsAre xs ns) (hj : StrsAre ys ms) (oi : Ok ns) (oj : Ok ms) (hu : A.units + 64 < cLine) (e : ns = ms) (h : Q (.bool true) s) :
    wpAny (model prog w) A (compareOp .Eq (.ref a) (.ref b)) Q E s :=
  eq_strs N ha hb hi hj oi oj hu (by rw [decide_eq_true e]; exact h)
theorem ne_strs (N : News h₀ L s.heap news) (ha : (a, ({ cls := .type "list", data := .seq xs.toArray n } : Obj)) ∈ news) (hb : (b, ({ cls := .type "list", data := .seq ys.toArray k } : Obj)) ∈ news) (hi : StrsAre xs ns) (hj : StrsAre ys ms) (oi : Ok ns) (oj : Ok ms) (hu : A.units + 64 < cLine) (h : Q (.bool (!decide (ns = ms))) s) :
    wpAny (model prog w) A (compareOp .NotEq (.ref a) (.ref b)) Q E s :=
  ne_dataH_same (reads_newData (isList_of N ha) (StrsAre.carried hi)) (reads_newData (isList_of N hb) (StrsAre.carried hj)) (shaped_strs _ oi) (shaped_strs _ oj) hu (SeqAt.noMix_of_shape (.list .str) rfl _ _ (list_map_has fun _ => rfl) (list_map_has fun _ => rfl)) (by
    have e : PySem.Spec.same (.list (ns.map PyData.str)) (.list (ms.map PyData.str)) = decide (ns = ms) := by simp only [PySem.Spec.same]; exact sameAll_strs ns ms
    rw [e]; exact h)
end
theorem join_signs : ∀ (l : List Nat), Str.join (Str.ofString "") (l.map fun c => ⟨#[c]⟩) = S l
  | [] => rfl
  | [c] => rfl
  | c :: d :: r => by
    have ih := join_signs (d :: r)
    simp only [List.map_cons] at ih ⊢
    rw [Str.join, ih]
    · refine PySem.Str.ext' ?_
      rw [PySem.Str.cps_append, PySem.Str.cps_append]
      show #[c] ++ (Str.ofString "").cps ++ (d :: r).toArray = (c :: d :: r).toArray
      rw [show (Str.ofString "").cps = #[] by decide +kernel]
      simp
    · intro h; cases h
theorem sum_signs : ∀ (l : List Nat), ((l.map fun c => (⟨#[c]⟩ : Str)).map (·.length)).sum = l.length
  | [] => rfl
  | c :: r => by
    have ih := sum_signs r
    simp only [List.map_cons, List.sum_cons, List.length_cons] at ih ⊢
    rw [ih]
    show 1 + r.length = _
    omega
end Mine

end
section
open PySem PySem.W PySem.Calls PyProof.Rows PySem.Builtin PySem.Builtin.Str
namespace Mine
theorem len_joinS (sep : Str) : ∀ l : List Str, (Str.join sep l).length ≤ (l.map (·.length)).sum + l.length * sep.length
  | [] => by simp [Str.join, Str.empty, Str.length]
  | [x] => by simp [Str.join]
  | x :: y :: r => by
    have ih := len_joinS sep (y :: r)
    rw [Str.join]
    · simp only [Str.length_append, List.map_cons, List.sum_cons, List.length_cons] at ih ⊢
      simp only [Nat.add_mul, Nat.one_mul] at ih ⊢
      omega
    · intro h; cases h
def glu (own : List Str) : Str := Str.join (Str.ofString ";") own
abbrev evenQ (b : Str) : Prop := qs false b.cps.toList % 2 = 0
def gf (b : Str) : Str := if Txt.find b (Str.ofString "=") < 0 then b else Txt.lower (Txt.slice b none (some (Txt.find b (Str.ofString "=")))) ++ Txt.slice b (some (Txt.find b (Str.ofString "="))) none
theorem sum_le1 : ∀ {ps : List Str}, (∀ p ∈ ps, p.length ≤ 1) → (ps.map (·.length)).sum ≤ ps.length
  | [], _ => Nat.le_refl _
  | p :: r, h => by
    have h1 := h p (.head _)
    have h2 := sum_le1 (ps := r) fun q hq => h q (.tail _ hq)
    simp only [List.map_cons, List.sum_cons, List.length_cons]
    omega
theorem updFOff {d o : Addr} {ob : Obj} {r : List (Addr × Obj)} (h : ∀ p ∈ r, p.1 < o) (hd : o ≤ d) : UpdF d ob ((d, ob) :: r) (fun o' => (d, o') :: r) := .head fun p hp => Nat.ne_of_lt (Nat.lt_of_lt_of_le (h p hp) hd)
theorem strs_get {vs : List Value} {ns : List Str} (h : StrsAre vs ns) {i : Nat} {v : Value} (hv : vs[i]? = some v) : ∃ p t, v = .str p t ∧ ns[i]? = some p := by
  have hl := StrsAre.len_eq h
  have hi := (List.getElem?_eq_some_iff.mp hv).1
  obtain ⟨t, ht⟩ := StrsAre.at h (j := i) (y := ns[i]'(by omega)) (by simp)
  rw [hv] at ht
  cases ht
  exact ⟨_, t, rfl, by simp⟩
theorem take_snoc {ns : List Str} {i : Nat} {p : Str} (f : Str → Str) (h : ns[i]? = some p) : (ns.take (i + 1)).map f = (ns.take i).map f ++ [f p] := by
  rw [List.take_add_one, h]; simp
section
variable {prog : Program} {w : World} {A : Around} {E : Value → Shared → Prop} {Q : Value → Shared → Prop} {hp : Heap} {gs : Array GenState} {dr : Drawn} {tk : Nat} {os : OsState} {h₀ : Heap} {L D D' : Addr} {m : Str → Option Value} {news : List (Addr × Obj)}
theorem addL_c {vs us : List Value} {n k : Nat} (F : Fr h₀ L hp m) (N : News h₀ L hp news) (ha : (D, ({ cls := .type "list", data := .seq vs.toArray n } : Obj)) ∈ news) (hb : (D', ({ cls := .type "list", data := .seq us.toArray k } : Obj)) ∈ news)
    (hz : vs.length + us.length ≤ 16777216) (h : ∀ d h', Fr h₀ L h' m → News h₀ L h' ((d, listOf (vs ++ us).toArray 0) :: news) → (∀ p ∈ news, p.1 < d) → Q (.ref d) ⟨h', gs, dr, tk, os⟩) : wpAny (model prog w) A (binaryOp .Add (.ref D) (.ref D')) Q E ⟨hp, gs, dr, tk, os⟩ :=
  add_arrays (s := ⟨hp, gs, dr, tk, os⟩) F N (isList_of N ha) (isList_of N hb) (fun h' F' N' => h _ h' F' (by simpa using N') fun p hp => Heap.lt_size (N p hp).1) (by rw [sizeLine_eq, List.size_toArray, List.size_toArray]; exact hz)
end
section
variable {prog : Program} {w : World} {A : Around} {E : Value → Shared → Prop} {Q : Value → Shared → Prop} {s : Shared} {h₀ : Heap} {L D : Addr} {news : List (Addr × Obj)}
theorem item0_c {value slice : Expr} {vs : List Value} {n : Nat} {f : Int} {r : List Int} {u : Tok} (N : News h₀ L s.heap news) (hm : (D, ({ cls := .type "list", data := .seq vs.toArray n } : Obj)) ∈ news) (hi : IntsAre vs (f :: r))
    (h : ∀ t', Q (.int f t') s)
    (hs : subscripted slice false (.ref D) (.int 0 u) = operate [.ref D, .int 0 u] (getItem (.ref D) (.int 0 u)) := by with_unfolding_all rfl) :
    wpAny (model prog w) A (subscriptTail value slice (.ref D) (.int 0 u)) Q E s := by
  have hL := isList_of N hm
  cases hi with
  | cons _ t _ => exact tail_any hL.typeIs slot_list_getitem.lookup (wpAny_getItem_list hL (Int.le_refl 0) (by decide) (by rfl) (h t)) hs
end
section
variable {prog : Program} {w : World} {A : Around} {E : Value → Shared → Prop} {Q : Value → Shared → Prop} {hp : Heap} {gs : Array GenState} {dr : Drawn} {tk : Nat} {os : OsState} {h₀ : Heap} {L D : Addr} {m : Str → Option Value} {news : List (Addr × Obj)}
theorem lenL_c {vs : List Value} {n : Nat} (N : News h₀ L hp news) (hm : (D, ({ cls := .type "list", data := .seq vs.toArray n } : Obj)) ∈ news) (hz : vs.length ≤ 16384)
    (h : ∀ t k, Q (.int (vs.length : Int) t) ⟨hp, gs, dr, k, os⟩) : wpAny (model prog w) A (call (.builtin "len") [.ref D]) Q E ⟨hp, gs, dr, tk, os⟩ :=
  kun_lenL (s := ⟨hp, gs, dr, tk, os⟩) (isList_of N hm) rfl (by simp only [List.size_toArray]; omega) (by simpa using h _ _)
end
end Mine

end
section
open PySem PySem.W PySem.Calls PyProof.Rows PySem.Builtin PySem.Builtin.Str
namespace Mine
/-- a turn that ends as it should -/
def FPostN {σ : Type} (h₀ : Heap) (L : Addr) (s : Shared) (Led : σ → List (Addr × Obj)) (rest : List (Addr × Obj)) (ps : σ → List (Str × Value)) (P : σ → Prop) (f : Flow) (s₂ : Shared) : Prop :=
  match f with
  | .next => FEnd h₀ L s Led rest ps P s₂
  | _ => False
def plainD (o : Obj) : Bool := match o.data with | .seq _ _ => true | .cell _ => true | _ => false
section
variable {prog : Program} {w : World} {A : Around} {E : Value → Shared → Prop} {s : Shared} {env : Env} {h₀ : Heap} {L : Addr}
theorem my_forC {σ : Type} {l : Addr} {vs : List Value} {x : Str} {px : Pos} {body : List Stmt} {m₀ : Str → Option Value} {Q : Flow → Shared → Prop} (Led : σ → List (Addr × Obj)) (fix : List (Addr × Obj)) (ps : σ → List (Str × Value)) (P : Nat → σ → Prop) (c₀ : σ)
    (hh : A.handled = none) (hl : s.heap.IsList l vs.toArray) (hlL : l ≠ L) (hcl : ∀ i c, P i c → ∀ p ∈ Led c, plainD p.2 = true)
    (F : Fr h₀ L s.heap m₀) (N : News h₀ L s.heap (Led c₀ ++ fix)) (hk : ∀ p ∈ ps c₀, m₀ p.1 = some p.2) (hp : P 0 c₀)
    (turn : ∀ i v (c : σ) (u : Str → Option Value) (z : Shared) own, vs[i]? = some v → P i c → (∀ q ∈ Led c, q.1 ≠ l → ∀ p ∈ own, p.1 ≠ q.1) →
      Fr h₀ L z.heap (kb u (ps c)) → News h₀ L z.heap (Led c ++ (fix ++ own)) →
      wpAny (model prog w) A (storeName env x v) (fun _ s₃ => wpAny (model prog w) A (execs body env) (FPostN h₀ L z Led (fix ++ own) ps (P (i + 1))) E s₃) E z)
    (done : ∀ (c : σ) (u : Str → Option Value) h tk, P vs.length c → Fr h₀ L h (kb u (ps c)) → News h₀ L h (Led c ++ fix) → Q .next { s with heap := h, toks := tk }) (hLe : env.locals = L) :
    wpAny (model prog w) A (pyIter (.ref l)) (fun it s₂ => LoopAtT prog w A h₀ env (.Name x px) body Q E it s₂) E s := by
  subst hLe
  obtain ⟨ol, hol, hol'⟩ := id hl
  have hlt : l < s.heap.objs.size := Heap.lt_size hol
  have hne : l ≠ s.heap.objs.size := Nat.ne_of_lt hlt
  have hLlt : env.locals < s.heap.objs.size := F.ns.lt
  refine wpAny_pyIter_list hl ?_
  have W := Walks.list (prog := prog) (w := w) hh s.heap.objs.size l hne vs.toArray
  refine ⟨_, _, _, vs.toArray.size, _, _, m₀, Led c₀ ++ fix, fun i m nx => ∃ c : σ, nx = Led c ++ fix ∧ (∀ p ∈ ps c, m p.1 = some p.2) ∧ P i c, rfl, W, ?_, ?_, ?_, ⟨⟨_, Heap.get?_push_size _ rfl, rfl, rfl⟩, hl.at fun o e => Heap.get?_push_of_some _ e⟩, F.push _, (fun p hp => ⟨Heap.get?_push_of_some _ (N p hp).1, (N p hp).2⟩), (fun i s' v Q' st hQ' => letGo_listiter st.1 hQ'), ⟨c₀, rfl, hk, hp⟩, ?_, ?_⟩
  · intro hm
    rcases List.mem_cons.mp hm with e | hm
    · exact absurd hLlt (e ▸ Nat.lt_irrefl _)
    · exact hlL (List.mem_singleton.mp hm).symm
  · intro b hb
    rw [List.mem_singleton.mp hb]
    cases hq : h₀.get? s.heap.objs.size with
    | none => rfl
    | some o' => exact absurd (Heap.lt_size (F.keep _ _ hq)) (Nat.lt_irrefl _)
  · intro p hp hI
    exact absurd (Heap.lt_size (N p hp).1) ((List.mem_singleton.mp hI) ▸ Nat.lt_irrefl _)
  · rintro i v m₁ news₁ s₁ own hin hP ⟨c, rfl, h1, hp'⟩ hoff hown hownh hfp hst F₁ N₁
    have hfix : ∀ p ∈ fix, p.1 ≠ s.heap.objs.size := fun p hp => Nat.ne_of_lt (Heap.lt_size (N p (List.mem_append.mpr (.inr hp))).1)
    have hI : ∃ o, s₁.heap.get? s.heap.objs.size = some o ∧ plainD o = false := by
      obtain ⟨⟨o, ho, _, hd⟩, _⟩ := hst
      exact ⟨o, ho, by unfold plainD; rw [hd]⟩
    obtain ⟨oI, hoI, hcI⟩ := hI
    have hnI : h₀.get? s.heap.objs.size = none := by
      cases hq : h₀.get? s.heap.objs.size with
      | none => rfl
      | some o' => exact absurd (Heap.lt_size (F.keep _ _ hq)) (Nat.lt_irrefl _)
    have hmI : (s.heap.objs.size, oI) ∈ own := hfp _ (.head _) hnI _ hoI
    have N₂ : News h₀ env.locals s₁.heap (Led c ++ (fix ++ own)) := fun p hp => N₁ p (by
      rcases List.mem_append.mp hp with h | h
      · exact List.mem_append.mpr (.inr (List.mem_append.mpr (.inl h)))
      · rcases List.mem_append.mp h with h | h
        · exact List.mem_append.mpr (.inr (List.mem_append.mpr (.inr h)))
        · exact List.mem_append.mpr (.inl h))
    have e1 : m₁ = kb m₁ (ps c) := by rw [kb_eq (u := m₁) h1]
    rw [e1] at F₁
    have hv : vs[i]? = some v := by simpa using hP
    refine wpAny_assign_Name (wpAny_mono (turn i v c m₁ s₁ own hv hp' ?_ F₁ N₂) (fun _ s₃ h₃ => wpAny_mono h₃ (fun f s₂ p => ?_) fun _ _ e => e) fun _ _ e => e)
    · intro q hq hql p hp e
      rcases List.mem_cons.mp (hown p hp) with h2 | h2
      · have h3 := (N₂ q (List.mem_append.mpr (.inl hq))).1
        rw [← e, h2] at h3
        have h4 := hoI.symm.trans h3
        cases h4
        rw [hcl i c hp' q hq] at hcI
        cases hcI
      · exact hql (e ▸ List.mem_singleton.mp h2)
    · have fin : FEnd h₀ env.locals s₁ Led (fix ++ own) ps (P (i + 1)) s₂ → LoopStepU h₀ env.locals [s.heap.objs.size] own (fun m nx => ∃ c : σ, nx = Led c ++ fix ∧ (∀ p ∈ ps c, m p.1 = some p.2) ∧ P (i + 1) c) s₁ .next s₂ := by
        rintro ⟨c', h', tk, m', news', rfl, F', N', hn, hk9, hp9⟩
        have hin2 : ∀ p ∈ Led c' ++ fix, p ∈ news' := fun p hp => hn p (by
          rcases List.mem_append.mp hp with h | h
          · exact List.mem_append.mpr (.inl h)
          · exact List.mem_append.mpr (.inr (List.mem_append.mpr (.inl h))))
        have hino : ∀ p ∈ own, p ∈ news' := fun p hp => hn p (List.mem_append.mpr (.inr (List.mem_append.mpr (.inr hp))))
        refine ⟨rfl, h', tk, m', Led c' ++ fix, rfl, F', fun p hp => N' p ((List.mem_append.mp hp).elim (hino p) (hin2 p)), fun p hp hq => ?_, c', rfl, hk9, hp9⟩
        have e := List.mem_singleton.mp hq
        rcases List.mem_append.mp hp with h | h
        · have h3 := (N' p (hin2 p hp)).1
          have h4 := (N' _ (hino _ hmI)).1
          rw [e] at h3
          have h5 := h4.symm.trans h3
          cases h5
          rw [hcl (i + 1) c' hp9 p h] at hcI
          cases hcI
        · exact hfix p h e
      cases f with
      | next => exact fin p
      | _ => exact p.elim
  · rintro h' tk m' news' F' N' _ ⟨c, rfl, h1, hp'⟩
    rw [← kb_eq (u := m') h1] at F'
    exact done c m' h' tk (by simpa using hp') F' N'
end
end Mine

end
section
open PySem PySem.W PySem.Calls PyProof.Rows PySem.Builtin PySem.Builtin.Str
namespace Mine
theorem sl_to {x : Str} {k : Nat} (h : k ≤ x.length) : Txt.slice x none (some (k : Int)) = S ((lt x).take k) := by
  have hn : x.cps.toList.length = x.length := len_lt x
  refine (StrLaws.sliceText_to (x := x) ⟨by omega, by omega⟩).trans ?_
  simp
theorem sl_from {x : Str} {k : Nat} (h : k ≤ x.length) : Txt.slice x (some (k : Int)) none = S ((lt x).drop k) := by
  have hn : x.cps.toList.length = x.length := len_lt x
  refine (StrLaws.sliceText_from (x := x) ⟨by omega, by omega⟩).trans ?_
  rw [List.take_of_length_le (by rw [List.length_drop]; omega)]
  simp
theorem S_lt (x : Str) : S (lt x) = x := PySem.Str.ext' (by simp)
theorem lt_S (l : List Nat) : lt (S l) = l := by simp
theorem S_app (u v : List Nat) : S u ++ S v = S (u ++ v) := PySem.Str.ext' (by rw [PySem.Str.cps_append]; simp)
theorem len_S (l : List Nat) : (S l).length = l.length := by simp [Str.length]
def NB (x : Str) (p : Int) : Prop := Txt.slice (Txt.slice x none (some p)) (some (-1)) none ≠ Str.ofString "\\"
theorem bs_str : Str.ofString "\\" = S [92] := by decide +kernel
theorem qm_str : Str.ofString "\"" = S [34] := by decide +kernel
theorem NB_zero (x : Str) : NB x 0 := by
  intro h
  have h1 := Txt.slice_le (Txt.slice x none (some 0)) (some (-1)) none
  have h2 := congrArg Str.length h
  have h3 := congrArg Str.length (sl_to (x := x) (k := 0) (Nat.zero_le _))
  rw [bs_str] at h2
  simp only [len_S, List.take_zero, List.length_nil, List.length_cons] at h2 h3
  have h4 : ((0 : Nat) : Int) = 0 := rfl
  rw [h4] at h3
  omega
theorem NB_at {x : Str} {k : Nat} (hk : k + 1 ≤ x.length) (h : NB x ((k + 1 : Nat) : Int)) : (lt x)[k]? ≠ some 92 := by
  intro hc
  apply h
  have hn := len_lt x
  rw [sl_to hk]
  generalize hv : lt x = v at hc hn
  have hyl : (S (v.take (k + 1))).cps.toList = v.take (k + 1) := by simp
  have hl : (S (v.take (k + 1))).length = k + 1 := by rw [len_S, List.length_take]; omega
  generalize S (v.take (k + 1)) = y at hyl hl
  refine (StrLaws.sliceText_from_neg (x := y) (by omega) (by omega)).trans ?_
  have e3 : ((-1 : Int) + (y.length : Int)).toNat = k := by omega
  rw [e3, hyl, List.take_add_one, hc, List.drop_append_of_le_length (by rw [List.length_take]; omega), List.drop_of_length_le (by rw [List.length_take]; omega), bs_str, List.nil_append]
  have e4 : ∀ z : Nat, 1 ≤ z → List.take z (some 92).toList = [92] := fun z hz => List.take_of_length_le (show 1 ≤ z from hz)
  rw [e4]
  simp
  omega
end Mine

end
section
open PySem PySem.W PySem.Calls PyProof.Rows PySem.Builtin PySem.Builtin.Str
namespace Mine
local macro_rules | `(tactic| walk_at "call builtin:str.find") => `(tactic| (k_here; refine find3_c ?_; intro _ _))
local macro_rules | `(tactic| walk_at "call builtin:str.find") => `(tactic| (k_here; refine find4_c ?_; intro _ _))
local macro_rules | `(tactic| walk_at "call builtin:str.count") => `(tactic| (k_here; refine count4_c ?_; intro _ _))
local macro_rules | `(tactic| walk_at "binaryOp Add str str") => `(tactic| (k_here; k_dflt (refine add_c (by omega) ?_); intro _ _ _))
local macro_rules | `(tactic| walk_at "call builtin:str.strip") => `(tactic| (k_here; k_dflt (refine strip_c (by omega) ?_); intro _ _ _))
local macro_rules | `(tactic| walk_at "call builtin:str.rstrip") => `(tactic| (k_here; k_dflt (refine rstrip_c (by omega) ?_); intro _ _ _))
local macro_rules | `(tactic| walk_at "call builtin:str.lstrip") => `(tactic| (k_here; k_dflt (refine lstrip_c (by omega) ?_); intro _ _ _))
local macro_rules | `(tactic| walk_at "call builtin:str.lower") => `(tactic| (k_here; k_dflt (refine lower_c (by omega) ?_); intro _ _ _))
local macro_rules | `(tactic| walk_at "call builtin:list.append") => `(tactic| (k_here; k_dflt (refine' append_c ?k1 ?k2 ?k3 ?z ?_; (case k1 => k_asm); (case k2 => k_asm); (case k3 => k_upd); (case z => omega); k_whole); intro h' F' N'; (try k_sweep)))
local macro_rules | `(tactic| walk_at "WPost") => `(tactic| dsimp only [WPost])
local macro_rules | `(tactic| walk_at "FPost") => `(tactic| dsimp only [FPost])
local macro_rules | `(tactic| k_upd) => `(tactic| first | exact updHere (by assumption) | exact updOff (by assumption) | (refine' Upd.tail ?a ?b; (case a => k_ne); (case b => k_upd)))
local macro_rules | `(tactic| walk_at "storeName") => `(tactic| (k_here; k_dflt (refine st_int (by with_reducible assumption) (by with_reducible assumption) ?_); intro h' t' _ F' N'; (try k_sweep)))
local macro_rules | `(tactic| walk_at "storeName") => `(tactic| (k_here; k_dflt (refine st_str (by with_reducible assumption) (by with_reducible assumption) ?_); intro h' t' _ F' N'; (try k_sweep)))
local macro_rules | `(tactic| walk_at "exec While Compare cons nil") => `(tactic| refine Stop.out ?_)
local macro_rules | `(tactic| walk_at "pyIter ref") => `(tactic| refine Stop.out ?_)
local macro_rules | `(tactic| walk_at "exec For Name Name cons nil") => `(tactic| (k_here; (rename Fr _ _ _ _ => lF'); (with_unfolding_all refine' For_invVF lF' ?k1 ?k2 ?_; (case k1 => exact rfl); (case k2 => exact rfl); k_whole)))
def A1 : List Nat := [59, 34, 92, 61, 97, 122, 46, 55, 233, 20013]
def sg (l : List Nat) : List Str := l.map fun c => S [c]
local macro_rules | `(tactic| walk_at "subscriptTail Name BinOp ref int") => `(tactic| (k_here; k_dflt (refine' item_c ?k1 ?k2 ?k3 ?k4 ?k5 ?k6 ?_ ?k7; (case k1 => k_asm); (case k2 => k_mem); (case k3 => exact .cons _ _ (.cons _ _ (.cons _ _ (.cons _ _ (.cons _ _ (.cons _ _ (.cons _ _ .nil))))))); (case k4 => omega); (case k5 => (dsimp only [List.length]; omega)); (case k6 => decide); (case k7 => with_unfolding_all rfl); k_whole); intro t'))
theorem sg_snoc {pv : List Value} {l : List Nat} {i c : Nat} {x : Str} {t : Tok} (hP1 : StrsAre pv (sg l)) (hP2 : l.length = i) (hP3 : ∀ ch ∈ l, ch ∈ A1) (hc : c ∈ A1) (e : x = S [c]) :
    ∃ l, StrsAre (pv ++ [.str x t]) (sg l) ∧ l.length = i + 1 ∧ ∀ ch ∈ l, ch ∈ A1 := by
  subst e
  refine ⟨l ++ [c], ?_, by simp [hP2], fun d hd => ?_⟩
  · unfold sg
    rw [List.map_append]
    exact StrsAre.append' hP1 (.cons _ _ .nil)
  · rcases List.mem_append.mp hd with hd | hd
    · exact hP3 d hd
    · rw [List.mem_singleton.mp hd]; exact hc
theorem pick7 : ∀ k : Nat, k < 7 → ∃ c, c ∈ A1 ∧ ([Str.ofString "=", Str.ofString "a", Str.ofString "z", Str.ofString ".", Str.ofString "7", Str.ofString "é", Str.ofString "中"].getD k Str.empty) = S [c]
  | 0, _ => ⟨61, by decide, by decide +kernel⟩
  | 1, _ => ⟨97, by decide, by decide +kernel⟩
  | 2, _ => ⟨122, by decide, by decide +kernel⟩
  | 3, _ => ⟨46, by decide, by decide +kernel⟩
  | 4, _ => ⟨55, by decide, by decide +kernel⟩
  | 5, _ => ⟨233, by decide, by decide +kernel⟩
  | 6, _ => ⟨20013, by decide, by decide +kernel⟩
  | k + 7, h => by omega
set_option maxRecDepth 100000 in
set_option maxHeartbeats 4000000 in
theorem signs_c {w : World} {loose : List Str} {mean : ExcName → Option Value} {mg mb : Str → Option Value}
    {dp un : Nat} {gd : Option (List Code)} {cn : Str} {cs : Scope} {a : Addr} {ccd : Value} {cl : List (Str × Addr)} {outer : List Env} {A₀ : Around} {base h₀ : Heap} {L : Addr} {m : Str → Option Value} {s : Shared} {Q E : Value → Shared → Prop} {news : List (Addr × Obj)}
    {ls : Addr} {vs : List Value} {ns : List Int}
    (B : Below A₀ base outer h₀) (F : Fr h₀ L s.heap m) (X : (hd.heap_39 w.params).In h₀) (N : News h₀ L s.heap news) (T : Top hd.view_39 loose mean mg mb h₀) (hk : cs.kind = .function)
    (hdp : dp + 2 < recursionLimit) (hun : un + 100 < cLine) (hl : base.IsList ls vs.toArray) (hi : IntsAre vs ns) (hn : ns.length ≤ 63)
    (ret : ∀ r (gs : List Value) n h' tk' (l : List Nat), Fr h₀ L h' m → News h₀ L h' ((r, listOf gs.toArray n) :: news) → (∀ p ∈ news, p.1 < r) → StrsAre gs (sg l) → l.length = ns.length → (∀ c ∈ l, c ∈ A1) → Q (.ref r) { s with heap := h', toks := tk' }) :
    wpAny (model PR w) (ktrTop dp un gd cn cs L a ccd cl outer) (call (.ref 35) [.ref ls]) Q E s := by
  have kk : (fun (_ : OpenLaw) (K : Params → Frag) => True) PySem.Challenge.rw_at0001_01 hd.heap_39 := by w_top off; k_fill; trivial
  clear kk
  refine wpAny_call ?_
  k_dflt cell_enter
  refine no_raise ?_
  k_steps
  refine ⟨?_⟩
  rename Fr _ _ _ _ => F1
  rename News _ _ _ _ => N1
  rename (∀ p ∈ news, p.1 < _) => lA
  rename_i lr _ _
  refine' my_forB (σ := List Value × Nat) (fun c => [(lr, listOf c.1.toArray c.2)]) news (fun c => [(Str.ofString "signs", Value.ref lr)]) (fun i c => ∃ l, StrsAre c.1 (sg l) ∧ l.length = i ∧ ∀ ch ∈ l, ch ∈ A1) ([], 0) rfl (by assumption) ?hcl F1 N1 ?k1 ?k2 ?turn ?done rfl
  case hcl => exact fun c p hp => by rw [List.mem_singleton.mp hp]; rfl
  case k1 => kst_all
  case k2 => exact ⟨[], .nil, rfl, fun c h => nomatch h⟩
  case turn =>
    clear F1 N1
    rintro i v ⟨pv, pn⟩ u h tk own hv ⟨l, hP1, hP2, hP3⟩ hoff F1 N1
    dsimp only at hP1 F1 N1
    simp only [List.nil_append, List.cons_append] at N1
    have hz := IntsAre.at hi i v hv
    obtain ⟨n, tn, rfl, hn'⟩ := hz
    have hpl := StrsAre.len_eq hP1
    have hP1h : Hd (StrsAre pv (sg l)) := ⟨hP1⟩
    have hfm := Int.fmod_lt_of_pos n (b := 16) (by decide)
    have hsg : (sg l).length = l.length := List.length_map _
    have hi63 : i < 63 := by have := (List.getElem?_eq_some_iff.mp hn').1; omega
    have hnD : ∀ p ∈ (news ++ own : List (Addr × Obj)), p.1 ≠ lr := fun p hp => by
      rcases List.mem_append.mp hp with hp | hp
      · exact Nat.ne_of_lt (lA p hp)
      · exact hoff _ (.head _) p hp
    (try k_fold)
    k_steps
    · exact ⟨(_, pn + 1), _, _, _, _, rfl, by assumption, by assumption, fun p hp => hp, by kst_all, sg_snoc (c := 59) hP1h.out hP2 hP3 (by decide) (by decide +kernel)⟩
    · exact ⟨(_, pn + 1), _, _, _, _, rfl, by assumption, by assumption, fun p hp => hp, by kst_all, sg_snoc (c := 34) hP1h.out hP2 hP3 (by decide) (by decide +kernel)⟩
    · exact ⟨(_, pn + 1), _, _, _, _, rfl, by assumption, by assumption, fun p hp => hp, by kst_all, sg_snoc (c := 55) hP1h.out hP2 hP3 (by decide) (by decide +kernel)⟩
    · exact ⟨(_, pn + 1), _, _, _, _, rfl, by assumption, by assumption, fun p hp => hp, by kst_all, sg_snoc (c := 92) hP1h.out hP2 hP3 (by decide) (by decide +kernel)⟩
    · have h7 := pick7 (n.fmod 16 - 9).toNat (by omega)
      obtain ⟨c, hc, he⟩ := h7
      exact ⟨(_, pn + 1), _, _, _, _, rfl, by assumption, by assumption, fun p hp => .tail _ hp, by kst_all, sg_snoc hP1h.out hP2 hP3 hc he⟩
  case done =>
    clear F1 N1
    rintro ⟨pv, pn⟩ u h tk ⟨l, hP1, hP2, hP3⟩ F1 N1
    dsimp only at hP1 F1 N1
    simp only [List.nil_append, List.cons_append] at N1
    have hlv := IntsAre.length hi
    have hP1h : Hd (StrsAre pv (sg l)) := ⟨hP1⟩
    (try k_fold)
    k_steps
    exact ret _ pv pn _ _ l (by assumption) (by assumption) lA hP1h.out (by omega) hP3
end Mine

end
section
open PySem PySem.W PySem.Calls PyProof.Rows PySem.Builtin PySem.Builtin.Str
namespace Mine
theorem cut_at : ∀ (l : List Value) (k : Nat) (h : k < l.length), kl_cut l k = some (l.take k, l[k], l.drop (k + 1))
  | [], k, h => by simp at h
  | x :: r, 0, h => by simp [kl_cut]
  | x :: r, k + 1, h => by
    have ih := cut_at r k (by simpa using h)
    simp [kl_cut, ih]
theorem ints_erase : ∀ {us : List Value} {l : List Int}, IntsAre us l → ∀ k, IntsAre (us.eraseIdx k) (l.eraseIdx k)
  | _, _, .nil, _ => .nil
  | _, _, .cons _ _ r, 0 => r
  | _, _, .cons n t r, k + 1 => .cons n t (ints_erase r k)
theorem ints_get : ∀ {us : List Value} {l : List Int}, IntsAre us l → ∀ k, k < l.length → ∃ t, us[k]? = some (.int (l.getD k 0) t)
  | _, _, .cons n t r, 0, _ => ⟨t, rfl⟩
  | _, _, .cons n t r, k + 1, h => by
    obtain ⟨u, hu⟩ := ints_get r k (by simpa using h)
    exact ⟨u, by simpa using hu⟩
theorem erase_perm : ∀ {l : List Int} {k : Nat}, k < l.length → (l.getD k 0 :: l.eraseIdx k).Perm l
  | [], k, h => by simp at h
  | x :: r, 0, _ => by simp
  | x :: r, k + 1, h => by
    have ih := erase_perm (l := r) (k := k) (by simpa using h)
    have e : (x :: r).getD (k + 1) 0 = r.getD k 0 := by simp [List.getD_eq_getElem?_getD]
    rw [e, List.eraseIdx_cons_succ]
    exact (List.Perm.swap _ _ _).trans (ih.cons x)
section
variable {prog : Program} {w : World} {A : Around} {E : Value → Shared → Prop} {Q : Value → Shared → Prop} {hp : Heap} {gs : Array GenState} {dr : Drawn} {tk : Nat} {os : OsState} {h₀ : Heap} {L D a b : Addr} {m : Str → Option Value} {news news' : List (Addr × Obj)}
theorem popI_c {us : List Value} {n : Nat} {l : List Int} {i : Int} {u : Tok} (F : Fr h₀ L hp m) (N : News h₀ L hp news) (hi : IntsAre us l) (h0 : 0 ≤ i) (h1 : i < l.length) (hz : l.length ≤ 1000)
    (U : Upd D (listOf us.toArray n) (listOf (us.eraseIdx i.toNat).toArray (n + 1)) news news')
    (h : ∀ h' t, Fr h₀ L h' m → News h₀ L h' news' → Q (.int (l.getD i.toNat 0) t) ⟨h', gs, dr, tk, os⟩) : wpAny (model prog w) A (call (.builtin "list.pop") [.ref D, .int i u]) Q E ⟨hp, gs, dr, tk, os⟩ := by
  have hl := IntsAre.length hi
  have hk : i.toNat < us.length := by omega
  obtain ⟨t, ht⟩ := ints_get hi i.toNat (by omega)
  have hy : us[i.toNat] = .int (l.getD i.toNat 0) t := by rw [List.getElem?_eq_getElem hk] at ht; exact Option.some.inj ht
  have e : us.take i.toNat ++ us.drop (i.toNat + 1) = us.eraseIdx i.toNat := (List.eraseIdx_eq_take_drop_succ us i.toNat).symm
  refine kl_popAt (s := ⟨hp, gs, dr, tk, os⟩) (its := us.toArray) (n := n) (k := i.toNat) F N ?_ ?_ (cut_at us i.toNat hk) (by rw [e]; exact U) (by rw [sizeLine_eq]; simp; omega) (fun h' F' N' => ?_)
  · unfold Builtin.List.listFitsIndex; simp; omega
  · unfold seqIndex?; simp; omega
  · rw [hy]; exact h h' t F' N'
end
section
variable {prog : Program} {w : World} {A : Around} {E : Value → Shared → Prop} {s : Shared} {a b : Addr} {xs ys : List Value} {ns ms : List Int} {Q : Value → Shared → Prop} {h₀ : Heap} {L : Addr} {news : List (Addr × Obj)} {n k : Nat}
theorem neI_nil (N : News h₀ L s.heap news) (ha : (a, ({ cls := .type "list", data := .seq xs.toArray n } : Obj)) ∈ news) (hb : (b, ({ cls := .type "list", data := .seq #[] k } : Obj)) ∈ news) (hi : IntsAre xs ns) (hu : A.units + 64 < cLine) (h : Q (.bool (!decide (ns = []))) s) :
    wpAny (model prog w) A (compareOp .NotEq (.ref a) (.ref b)) Q E s := ke_ne_ints (ys := []) (isList_of N ha) (isList_of (vs := []) N hb) hi .nil hu h
end
end Mine

end
section
open PySem PySem.W PySem.Calls PyProof.Rows PySem.Builtin PySem.Builtin.Str
namespace Mine
local macro_rules | `(tactic| walk_at "call builtin:str.find") => `(tactic| (k_here; refine find3_c ?_; intro _ _))
local macro_rules | `(tactic| walk_at "call builtin:str.find") => `(tactic| (k_here; refine find4_c ?_; intro _ _))
local macro_rules | `(tactic| walk_at "call builtin:str.count") => `(tactic| (k_here; refine count4_c ?_; intro _ _))
local macro_rules | `(tactic| walk_at "binaryOp Add str str") => `(tactic| (k_here; k_dflt (refine add_c (by omega) ?_); intro _ _ _))
local macro_rules | `(tactic| walk_at "call builtin:str.strip") => `(tactic| (k_here; k_dflt (refine strip_c (by omega) ?_); intro _ _ _))
local macro_rules | `(tactic| walk_at "call builtin:str.rstrip") => `(tactic| (k_here; k_dflt (refine rstrip_c (by omega) ?_); intro _ _ _))
local macro_rules | `(tactic| walk_at "call builtin:str.lstrip") => `(tactic| (k_here; k_dflt (refine lstrip_c (by omega) ?_); intro _ _ _))
local macro_rules | `(tactic| walk_at "call builtin:str.lower") => `(tactic| (k_here; k_dflt (refine lower_c (by omega) ?_); intro _ _ _))
local macro_rules | `(tactic| walk_at "call builtin:list.append") => `(tactic| (k_here; k_dflt (refine' append_c ?k1 ?k2 ?k3 ?z ?_; (case k1 => k_asm); (case k2 => k_asm); (case k3 => k_upd); (case z => omega); k_whole); intro h' F' N'; (try k_sweep)))
local macro_rules | `(tactic| walk_at "WPost") => `(tactic| dsimp only [WPost])
local macro_rules | `(tactic| walk_at "FPost") => `(tactic| dsimp only [FPost])
local macro_rules | `(tactic| k_upd) => `(tactic| first | exact updHere (by assumption) | exact updOff (by assumption) | (refine' Upd.tail ?a ?b; (case a => k_ne); (case b => k_upd)))
local macro_rules | `(tactic| walk_at "storeName") => `(tactic| (k_here; k_dflt (refine st_int (by with_reducible assumption) (by with_reducible assumption) ?_); intro h' t' _ F' N'; (try k_sweep)))
local macro_rules | `(tactic| walk_at "storeName") => `(tactic| (k_here; k_dflt (refine st_str (by with_reducible assumption) (by with_reducible assumption) ?_); intro h' t' _ F' N'; (try k_sweep)))
local macro_rules | `(tactic| walk_at "exec While Compare cons nil") => `(tactic| refine Stop.out ?_)
local macro_rules | `(tactic| walk_at "pyIter ref") => `(tactic| refine Stop.out ?_)
local macro_rules | `(tactic| walk_at "exec For Name Name cons nil") => `(tactic| (k_here; (rename Fr _ _ _ _ => lF'); (with_unfolding_all refine' For_invVF lF' ?k1 ?k2 ?_; (case k1 => exact rfl); (case k2 => exact rfl); k_whole)))
local macro_rules | `(tactic| walk_at "eval ListComp") => `(tactic| refine Stop.out ?_)
local macro_rules | `(tactic| walk_at "CompSrc") => `(tactic| refine Stop.out ?_)
local macro_rules | `(tactic| walk_at "CompSrcT") => `(tactic| refine Stop.out ?_)
local macro_rules | `(tactic| walk_at "CompSrcT ref") => `(tactic| refine Stop.out ?_)
local macro_rules | `(tactic| k_updF) => `(tactic| first | exact .head (by with_reducible assumption) | exact updFOff (by assumption) (Nat.le_add_right _ _) | (refine' UpdF.tail ?a ?b; (case a => k_ne); (case b => k_updF)))
local macro_rules | `(tactic| walk_at "subscriptTail Name Name ref int") => `(tactic| (k_here; k_dflt (refine' item_c ?k1 ?k2 ?k3 ?k4 ?k5 ?k6 ?_ ?k7; (case k1 => k_asm); (case k2 => k_mem); (case k3 => assumption); (case k4 => omega); (case k5 => omega); (case k6 => omega); (case k7 => with_unfolding_all rfl); k_whole); intro t'))
def qpk (l : List Nat) (i : Nat) : List Int := ((List.range i).filter fun k => l.getD k 0 == 34).map fun k => ((k : Nat) : Int)
theorem off1_mem {D : Addr} : ∀ {l : List (Addr × Obj)}, LCg.Off1 D l → ∀ p ∈ l, p.1 ≠ D
  | [], _, _, h => nomatch h
  | _ :: _, x, p, h => by
    rcases List.mem_cons.mp h with rfl | h
    · exact x.1
    · exact off1_mem x.2 p h
theorem sg_get {l : List Nat} {i : Nat} (h : i < l.length) : (sg l).getD i Str.empty = S [l.getD i 0] := by
  simp [sg, List.getD_eq_getElem?_getD, h]
theorem one_eq (c d : Nat) : (S [c] == S [d]) = (c == d) := by
  by_cases h : c = d
  · subst h; rw [beq_self_eq_true, beq_self_eq_true]
  · have : S [c] ≠ S [d] := fun e => h (by injection e with e; simpa using e)
    rw [beq_eq_false_iff_ne.mpr this, beq_eq_false_iff_ne.mpr h]
theorem qpk_succ (l : List Nat) (i : Nat) : qpk l (i + 1) = qpk l i ++ (if (l.getD i 0 == 34) = true then [((i : Nat) : Int)] else []) := by
  unfold qpk
  rw [List.range_succ, List.filter_append, List.map_append]
  congr 1
  cases h : l.getD i 0 == 34 with
  | true => rw [List.filter_cons_of_pos (by rw [h])]; rfl
  | false => rw [List.filter_cons_of_neg (by rw [h]; decide)]; rfl
theorem qpk_len (l : List Nat) (i : Nat) : (qpk l i).length ≤ i := by
  unfold qpk
  rw [List.length_map]
  exact Nat.le_trans (List.length_filter_le _ _) (by simp)
local macro_rules | `(tactic| walk_at "compareOp NotEq ref ref") => `(tactic| (k_here; k_dflt (refine' neI_nil ?k1 ?k2 ?k3 ?k4 ?k5 ?_; (case k1 => k_asm); (case k2 => k_mem); (case k3 => k_mem); (case k4 => assumption); (case k5 => ktr_units))))
local macro_rules | `(tactic| walk_at "call builtin:list.pop") => `(tactic| (k_here; k_dflt (refine' popI_c ?k1 ?k2 ?k3 ?k4 ?k5 ?k6 ?k7 ?_; (case k1 => k_asm); (case k2 => k_asm); (case k3 => assumption); (case k7 => k_upd); (case k4 => first | omega | exact Int.fmod_nonneg_of_pos _ (by omega)); (case k5 => first | omega | exact Int.fmod_lt_of_pos _ (by omega)); (case k6 => omega); k_whole); intro h' t' F' N'; (try k_sweep)))
set_option maxRecDepth 100000 in
set_option maxHeartbeats 4000000 in
theorem order_c {w : World} {loose : List Str} {mean : ExcName → Option Value} {mg mb : Str → Option Value}
    {dp un : Nat} {gd : Option (List Code)} {cn : Str} {cs : Scope} {a : Addr} {ccd : Value} {cl : List (Str × Addr)} {outer : List Env} {A₀ : Around} {base h₀ : Heap} {L : Addr} {m : Str → Option Value} {s : Shared} {Q E : Value → Shared → Prop} {news : List (Addr × Obj)}
    {ls : Addr} {vs : List Value} {ns : List Int} {lg : Addr} {gv : List Value} {gn : Nat} {l : List Nat}
    (B : Below A₀ base outer h₀) (F : Fr h₀ L s.heap m) (X : (hd.heap_39 w.params).In h₀) (N : News h₀ L s.heap news) (T : Top hd.view_39 loose mean mg mb h₀) (hk : cs.kind = .function)
    (hdp : dp + 2 < recursionLimit) (hun : un + 100 < cLine) (hl : base.IsList ls vs.toArray) (hi : IntsAre vs ns) (hn : ns.length ≤ 63) (hm : (lg, listOf gv.toArray gn) ∈ news) (hg : StrsAre gv (sg l)) (hll : l.length = ns.length)
    (ret : ∀ r (os : List Value) n h' tk' (qs : List Int), Fr h₀ L h' m → News h₀ L h' ((r, listOf os.toArray n) :: news) → (∀ p ∈ news, p.1 < r) → IntsAre os qs → qs.Perm (qpk l l.length) → Q (.ref r) { s with heap := h', toks := tk' }) :
    wpAny (model PR w) (ktrTop dp un gd cn cs L a ccd cl outer) (call (.ref 40) [.ref ls, .ref lg]) Q E s := by
  replace N : News h₀ L s.heap ((lg, listOf gv.toArray gn) :: news) := cb_drop N fun p hp => by
    rcases List.mem_cons.mp hp with rfl | hp
    · exact hm
    · exact hp
  have kk : (fun (_ : OpenLaw) (K : Params → Frag) => True) PySem.Challenge.rw_at0001_01 hd.heap_39 := by w_top off; k_fill; trivial
  clear kk
  refine wpAny_call ?_
  k_dflt (refine' code_defC (binds := [(Str.ofString "script", Value.ref ls), (Str.ofString "signs", Value.ref lg)]) ?k1 ?k2 ?k3 ?k4 ?k5 ?kA ?kF ?kK ?k6 ?k7 ?k8 ?k9 ?kB ?kD ?_ ?c2 ?c3 ?c4; (case kA => exact rfl); (case kF => exact rfl); (case kK => assumption); (case k1 => k_asm); (case k2 => k_asm); (case k3 => k_asm); (case k4 => k_asm); (case k5 => k_asm); (case k6 => k_is); (case k7 => k_is); (case k8 => ktr_room); (case k9 => exact BindsTo.of_eq rfl); (case kB => exact rfl); (case kD => decide +kernel); (case c2 => exact rfl); (case c3 => exact rfl); (case c4 => exact rfl); k_whole; intro g' L' h' tk' cells' FG' F' N' Y' B' X' T' l1; (try k_lt l1); k_cells Y'; (try simp only [List.cons_append, List.nil_append] at N'); (try dsimp only); (try k_lift B'); (try k_fold))
  refine no_raise ?_
  have hgl := StrsAre.len_eq hg
  have hsg : (sg l).length = l.length := List.length_map _
  k_steps
  refine ⟨?_⟩
  rename (IsRange _ _ _ _ _ _ _ _) => hR
  rename Fr _ _ _ _ => F2
  rename News _ _ _ _ => N2
  refine LCt.CompSrcT.range rfl F2 N2 hR (small_one (by omega) (by omega) (by omega) (by omega)) (n := l.length) (by rw [rangeSize_nat]; omega) (by rw [sizeLine_eq]; omega) (fun g => my_restT (fun i ys => IntsAre ys (qpk l i)) trivial .nil ?t1 ?f1)
  case t1 =>
    clear F2 N2
    rintro i v ys I oI C oC D m₂ h tk E' hi' ⟨tv, rfl⟩ hJ hl' hC hxv F3 N3 off ne
    (try k_fold)
    k_steps
    · rename ((_ == _) = true) => ht
      refine ⟨?_, _, _, _, rfl, by assumption, by assumption, fun p hp => hp⟩
      rw [Int.zero_add] at ht ⊢
      rw [Int.toNat_natCast, sg_get hi', qm_str, one_eq] at ht
      rw [qpk_succ, ht]
      exact IntsAre.append hJ (.cons _ _ .nil)
    · rename ((_ == _) = false) => ht
      refine ⟨?_, _, _, _, rfl, by assumption, by assumption, fun p hp => hp⟩
      rw [Int.zero_add, Int.toNat_natCast, sg_get hi', qm_str, one_eq] at ht
      rw [qpk_succ, ht]
      simpa using hJ
  case f1 =>
    intro ys hJ hlen
    k_steps
    refine ⟨?_⟩
    rename Fr _ _ _ _ => F2
    rename News _ _ _ _ => N2
    rename (_ < _ ∧ _ < _ ∧ _ < _ ∧ AllLt _ news) => l5
    rename (_ ∧ _ ∧ LCg.Off1 _ news) => o5
    rename_i ll _ _ lo _ _
    have hqlen := qpk_len l l.length
    refine' my_forB (σ := List Value × Nat × List Value × Nat) (fun c => [(ll, listOf c.1.toArray c.2.1), (lo, listOf c.2.2.1.toArray c.2.2.2)]) news (fun c => [(Str.ofString "left", Value.ref ll), (Str.ofString "order", Value.ref lo)]) (fun i c => ∃ lf od, IntsAre c.1 lf ∧ IntsAre c.2.2.1 od ∧ (od ++ lf).Perm (qpk l l.length) ∧ (lf ≠ [] → od.length = i)) (ys, ys.length, [], 0) rfl (by assumption) ?hcl F2 ?n0 ?k1 ?k2 ?turn ?done rfl
    case hcl =>
      intro c p hp
      rcases List.mem_cons.mp hp with rfl | hp
      · rfl
      · rw [List.mem_singleton.mp hp]; rfl
    case n0 => exact cb_drop N2 (fun p hp => by
      rcases List.mem_cons.mp hp with rfl | hp
      · exact .tail _ (.head _)
      · rcases List.mem_cons.mp hp with rfl | hp
        · exact .head _
        · exact .tail _ (.tail _ (.tail _ (.tail _ hp))))
    case k1 => kst_all
    case k2 => exact ⟨_, [], hJ, .nil, .refl _, fun _ => rfl⟩
    case turn =>
      clear F2 N2
      rintro i v ⟨lv, ln, ov, on⟩ u h tk own hv ⟨lf, od, hP1, hP2, hP3, hP4⟩ hoff F1 N1
      dsimp only at hP1 hP2 hP3 hP4 F1 N1
      simp only [List.nil_append, List.cons_append] at N1
      have hz := IntsAre.at hi i v hv
      obtain ⟨n, tn, rfl, hn'⟩ := hz
      have hpl := IntsAre.length hP1
      have hpo := IntsAre.length hP2
      have hpp := hP3.length_eq
      rw [List.length_append] at hpp
      have hlo : @LT.lt Nat _ ll lo := l5.1
      have hn1 : ∀ p ∈ ((lo, listOf ov.toArray on) :: (news ++ own) : List (Addr × Obj)), p.1 ≠ ll := fun p hp => by
        rcases List.mem_cons.mp hp with rfl | hp
        · exact Nat.ne_of_gt hlo
        · rcases List.mem_append.mp hp with hp | hp
          · exact off1_mem o5.2.2 p hp
          · exact hoff _ (.head _) p hp
      have hn2 : ∀ p ∈ (news ++ own : List (Addr × Obj)), p.1 ≠ lo := fun p hp => by
        rcases List.mem_append.mp hp with hp | hp
        · exact Nat.ne_of_lt (ltAll_of l5.2.2.2 p hp)
        · exact hoff _ (.tail _ (.head _)) p hp
      have hP1h : Hd (IntsAre lv lf) := ⟨hP1⟩
      have hP2h : Hd (IntsAre ov od) := ⟨hP2⟩
      clear hP2
      (try k_fold)
      k_steps
      · rename (lf = []) => hne
        exact ⟨(lv, ln, ov, on), _, _, _, _, rfl, by assumption, by assumption, fun p hp => .tail _ hp, by kst_all, lf, od, hP1h.out, hP2h.out, hP3, fun h => absurd hne h⟩
      · rename (¬ lf = []) => hne
        exact absurd (List.length_eq_zero_iff.mp (by omega)) hne
      · rename (¬ lf = []) => hne
        have hlf0 : 0 < lf.length := List.length_pos_iff.mpr hne
        have hk0 := Int.fmod_nonneg_of_pos n (b := (lf.length : Int)) (by omega)
        have hk1 := Int.fmod_lt_of_pos n (b := (lf.length : Int)) (by omega)
        refine ⟨(_, ln + 1, _, on + 1), _, _, _, _, rfl, by assumption, by assumption, fun p hp => .tail _ hp, by kst_all, _, _, ints_erase hP1h.out _, IntsAre.append hP2h.out (.cons _ _ .nil), ?_, fun _ => ?_⟩
        · rw [List.append_assoc]
          exact (List.Perm.append_left od (erase_perm (by omega))).trans hP3
        · rw [List.length_append, hP4 hne]; rfl
    case done =>
      clear F2 N2
      rintro ⟨lv, ln, ov, on⟩ u h tk ⟨lf, od, hP1, hP2, hP3, hP4⟩ F1 N1
      dsimp only at hP1 hP2 hP3 hP4 F1 N1
      simp only [List.nil_append, List.cons_append] at N1
      have hP2h : Hd (IntsAre ov od) := ⟨hP2⟩
      have hpp := hP3.length_eq
      rw [List.length_append] at hpp
      have hlf : lf = [] := by
        cases hc : lf with
        | nil => rfl
        | cons z r =>
          have h1 := hP4 (by rw [hc]; simp)
          have h2 := IntsAre.length hi
          rw [hc] at hpp
          simp only [List.length_cons] at hpp
          omega
      subst hlf
      rw [List.append_nil] at hP3
      (try k_fold)
      k_steps
      exact ret _ ov on _ _ od (by assumption) (cb_drop (by assumption) fun p hp => by
        rcases List.mem_cons.mp hp with rfl | hp
        · exact .tail _ (.head _)
        · exact .tail _ (.tail _ hp)) (ltAll_of l5.2.2.2) hP2h.out hP3
end Mine

end
section
open PySem PySem.W PySem.Calls PyProof.Rows PySem.Builtin PySem.Builtin.Str
namespace Mine
theorem len_strip_le (x : Str) : (Txt.strip x).length ≤ x.length := len_strip x
theorem spl_len {x r : Str} (h : (spl x).2 = some r) : r.length < x.length := by
  unfold spl at h
  simp only at h
  split at h
  · cases h
  · rename_i hq
    have e := congrArg Str.length (StrLaws.partition_sum x (Str.ofString ";"))
    simp only [Str.length_append] at e
    have := len_strip_le (Txt.partition x (Str.ofString ";")).2.2
    cases h
    omega
def headsF : Nat → Str → List Str
  | 0, _ => []
  | k + 1, x => (spl x).1 :: match (spl x).2 with | none => [] | some r => headsF k r
theorem headsF_eq : ∀ (k k' : Nat) (x : Str), x.length < k → x.length < k' → headsF k x = headsF k' x
  | 0, _, x, h, _ => by omega
  | _, 0, x, _, h => by omega
  | k + 1, k' + 1, x, h, h' => by
    unfold headsF
    cases hr : (spl x).2 with
    | none => rfl
    | some r =>
      have := spl_len hr
      simp only
      rw [headsF_eq k k' r (by omega) (by omega)]
def heads (x : Str) : List Str := headsF (x.length + 1) x
theorem heads_eq (x : Str) : heads x = (spl x).1 :: match (spl x).2 with | none => [] | some r => heads r := by
  unfold heads
  conv => lhs; unfold headsF
  cases hr : (spl x).2 with
  | none => rfl
  | some r =>
    have := spl_len hr
    simp only
    rw [headsF_eq x.length (r.length + 1) r (by omega) (by omega)]
def headsO : Option Str → List Str
  | none => []
  | some r => heads r
structure PH (x : Str) (c : Option Str × Tok × List Value × Nat) : Prop where
  hl : ∀ r, c.1 = some r → r.length + c.2.2.1.length ≤ x.length
  hd : ∃ dn, StrsAre c.2.2.1 dn ∧ dn ++ headsO c.1 = heads x
  hn : c.2.2.1.length ≤ x.length + 1
theorem PH_start (x : Str) (t : Tok) (n : Nat) : PH x (some x, t, [], n) where
  hl := fun r h => by cases h; simp
  hd := ⟨[], .nil, rfl⟩
  hn := Nat.zero_le _
theorem PH_next {x r : Str} {t t' ta : Tok} {vs : List Value} {n n' : Nat} (h : PH x (some r, t, vs, n)) : PH x ((spl r).2, t', vs ++ [.str (spl r).1 ta], n') where
  hl := fun r' hr => by
    have h1 := h.hl r rfl
    have h2 := spl_len hr
    simp at h1 ⊢
    omega
  hd := by
    obtain ⟨dn, h1, h2⟩ := h.hd
    refine ⟨dn ++ [(spl r).1], StrsAre.append' h1 (.cons _ _ .nil), ?_⟩
    rw [← h2]
    show dn ++ [(spl r).1] ++ headsO (spl r).2 = dn ++ heads r
    rw [heads_eq r, List.append_assoc]
    cases (spl r).2 <;> rfl
  hn := by
    have := h.hl r rfl
    simp at this ⊢
    omega
def measO : Option Str → Nat
  | none => 0
  | some r => r.length + 1
theorem measO_lt {r : Str} : measO (spl r).2 < measO (some r) := by
  cases hr : (spl r).2 with
  | none => simp [measO]
  | some q => have := spl_len hr; simp [measO]; omega
end Mine

end
section
open PySem PySem.W PySem.Calls PyProof.Rows PySem.Builtin PySem.Builtin.Str
namespace Mine
local macro_rules | `(tactic| walk_at "call builtin:str.find") => `(tactic| (k_here; refine find3_c ?_; intro _ _))
local macro_rules | `(tactic| walk_at "call builtin:str.find") => `(tactic| (k_here; refine find4_c ?_; intro _ _))
local macro_rules | `(tactic| walk_at "call builtin:str.count") => `(tactic| (k_here; refine count4_c ?_; intro _ _))
local macro_rules | `(tactic| walk_at "binaryOp Add str str") => `(tactic| (k_here; k_dflt (refine add_c (by omega) ?_); intro _ _ _))
local macro_rules | `(tactic| walk_at "call builtin:str.strip") => `(tactic| (k_here; k_dflt (refine strip_c (by omega) ?_); intro _ _ _))
local macro_rules | `(tactic| walk_at "call builtin:str.rstrip") => `(tactic| (k_here; k_dflt (refine rstrip_c (by omega) ?_); intro _ _ _))
local macro_rules | `(tactic| walk_at "call builtin:str.lstrip") => `(tactic| (k_here; k_dflt (refine lstrip_c (by omega) ?_); intro _ _ _))
local macro_rules | `(tactic| walk_at "call builtin:str.lower") => `(tactic| (k_here; k_dflt (refine lower_c (by omega) ?_); intro _ _ _))
local macro_rules | `(tactic| walk_at "call builtin:list.append") => `(tactic| (k_here; k_dflt (refine' append_c ?k1 ?k2 ?k3 ?z ?_; (case k1 => k_asm); (case k2 => k_asm); (case k3 => k_upd); (case z => omega); k_whole); intro h' F' N'; (try k_sweep)))
local macro_rules | `(tactic| walk_at "WPost") => `(tactic| dsimp only [WPost])
local macro_rules | `(tactic| walk_at "FPost") => `(tactic| dsimp only [FPost])
local macro_rules | `(tactic| k_upd) => `(tactic| first | exact updHere (by assumption) | exact updOff (by assumption) | (refine' Upd.tail ?a ?b; (case a => k_ne); (case b => k_upd)))
local macro_rules | `(tactic| walk_at "storeName") => `(tactic| (k_here; k_dflt (refine st_int (by with_reducible assumption) (by with_reducible assumption) ?_); intro h' t' _ F' N'; (try k_sweep)))
local macro_rules | `(tactic| walk_at "storeName") => `(tactic| (k_here; k_dflt (refine st_str (by with_reducible assumption) (by with_reducible assumption) ?_); intro h' t' _ F' N'; (try k_sweep)))
local macro_rules | `(tactic| walk_at "exec While Compare cons nil") => `(tactic| refine Stop.out ?_)
local macro_rules | `(tactic| walk_at "pyIter ref") => `(tactic| refine Stop.out ?_)
local macro_rules | `(tactic| walk_at "exec For Name Name cons nil") => `(tactic| (k_here; (rename Fr _ _ _ _ => lF'); (with_unfolding_all refine' For_invVF lF' ?k1 ?k2 ?_; (case k1 => exact rfl); (case k2 => exact rfl); k_whole)))
local macro_rules | `(tactic| walk_at "call ref") => `(tactic| (k_here; k_dflt (refine' split_c ?b1 ?b2 ?b3 ?b4 ?b5 ?b6 ?b7 ?b8 ?e0 ?_; (case b1 => k_asm); (case b2 => k_asm); (case b3 => k_asm); (case b4 => k_asm); (case b5 => k_asm); (case b6 => first | exact rfl | assumption); (case b7 => ktr_room); (case b8 => ktr_units); (case e0 => omega); k_whole); intro r' ta' tb' h' tk' F' N' l1; (try k_lt l1); (try dsimp only)))
set_option maxRecDepth 100000 in
set_option maxHeartbeats 4000000 in
theorem heads_c {w : World} {loose : List Str} {mean : ExcName → Option Value} {mg mb : Str → Option Value}
    {dp un : Nat} {gd : Option (List Code)} {cn : Str} {cs : Scope} {a : Addr} {ccd : Value} {cl : List (Str × Addr)} {outer : List Env} {A₀ : Around} {base h₀ : Heap} {L : Addr} {m : Str → Option Value} {s : Shared} {Q E : Value → Shared → Prop} {news : List (Addr × Obj)}
    {x : Str} {tx : Tok}
    (B : Below A₀ base outer h₀) (F : Fr h₀ L s.heap m) (X : (hd.heap_39 w.params).In h₀) (N : News h₀ L s.heap news) (T : Top hd.view_39 loose mean mg mb h₀) (hk : cs.kind = .function)
    (hdp : dp + 2 < recursionLimit) (hun : un + 16 < cLine) (hx : x.length ≤ 1000)
    (ret : ∀ r vs n h' tk', Fr h₀ L h' m → News h₀ L h' ((r, listOf vs.toArray n) :: news) → (∀ p ∈ news, p.1 < r) → StrsAre vs (heads x) → vs.length ≤ x.length + 1 → Q (.ref r) { s with heap := h', toks := tk' }) :
    wpAny (model PR w) (ktrTop dp un gd cn cs L a ccd cl outer) (call (.ref 47) [.str x tx]) Q E s := by
  have kk : (fun (_ : OpenLaw) (K : Params → Frag) => True) PySem.Challenge.rw_at0001_01 hd.heap_39 := by w_top off; k_fill; trivial
  clear kk
  refine wpAny_call ?_
  k_dflt cell_enter
  refine no_raise ?_
  k_steps
  refine ⟨?_⟩
  rename Fr _ _ _ _ => F1
  rename News _ _ _ _ => N1
  rename (∀ p ∈ news, p.1 < _) => l1
  refine' my_while (σ := Option Str × Tok × List Value × Nat) (fun c => (_, listOf c.2.2.1.toArray c.2.2.2) :: news) (fun c => [(Str.ofString "rows", Value.ref _), (Str.ofString "rest", optV c.1 c.2.1)]) (PH x) (fun c => measO c.1) (some x, _, [], _) F1 N1 ?k1 ?k2 PassesOwn.never ?turn
  case k1 => kst_all
  case k2 => exact PH_start x _ _
  case turn =>
    clear F1 N1
    rintro ⟨rest, tr, vs, n⟩ u h tk hP F1 N1
    dsimp only at F1 N1
    have hvl := hP.hn
    dsimp only at hvl
    cases rest with
    | none =>
      dsimp only [optV] at F1
      (try k_fold)
      k_steps
      obtain ⟨dn, h1, h2⟩ := hP.hd
      refine ret _ vs n _ _ (by assumption) (by assumption) l1 ?_ hvl
      rw [← h2]
      show StrsAre vs (dn ++ [])
      rw [List.append_nil]
      exact h1
    | some r =>
      have hrl := hP.hl r rfl
      dsimp only at hrl
      dsimp only [optV] at F1
      (try k_fold)
      k_steps
      rename Fr _ _ _ _ => F2
      rename News _ _ _ _ => N2
      refine' ⟨((spl r).2, _, vs ++ [_], n + 1), _, _, _, _, rfl, F2, N2, fun p hp => .tail _ hp, ?a1, PH_next hP, measO_lt⟩
      case a1 => kst_all
end Mine

end
section
open PySem PySem.W PySem.Calls PyProof.Rows PySem.Builtin PySem.Builtin.Str
namespace Mine
local macro_rules | `(tactic| walk_at "call builtin:str.find") => `(tactic| (k_here; refine find3_c ?_; intro _ _))
local macro_rules | `(tactic| walk_at "call builtin:str.find") => `(tactic| (k_here; refine find4_c ?_; intro _ _))
local macro_rules | `(tactic| walk_at "call builtin:str.count") => `(tactic| (k_here; refine count4_c ?_; intro _ _))
local macro_rules | `(tactic| walk_at "binaryOp Add str str") => `(tactic| (k_here; k_dflt (refine add_c (by omega) ?_); intro _ _ _))
local macro_rules | `(tactic| walk_at "call builtin:str.strip") => `(tactic| (k_here; k_dflt (refine strip_c (by omega) ?_); intro _ _ _))
local macro_rules | `(tactic| walk_at "call builtin:str.rstrip") => `(tactic| (k_here; k_dflt (refine rstrip_c (by omega) ?_); intro _ _ _))
local macro_rules | `(tactic| walk_at "call builtin:str.lstrip") => `(tactic| (k_here; k_dflt (refine lstrip_c (by omega) ?_); intro _ _ _))
local macro_rules | `(tactic| walk_at "call builtin:str.lower") => `(tactic| (k_here; k_dflt (refine lower_c (by omega) ?_); intro _ _ _))
local macro_rules | `(tactic| walk_at "call builtin:list.append") => `(tactic| (k_here; k_dflt (refine' append_c ?k1 ?k2 ?k3 ?z ?_; (case k1 => k_asm); (case k2 => k_asm); (case k3 => k_upd); (case z => omega); k_whole); intro h' F' N'; (try k_sweep)))
local macro_rules | `(tactic| walk_at "WPost") => `(tactic| dsimp only [WPost])
local macro_rules | `(tactic| walk_at "FPost") => `(tactic| dsimp only [FPost])
local macro_rules | `(tactic| k_upd) => `(tactic| first | exact updHere (by assumption) | exact updOff (by assumption) | (refine' Upd.tail ?a ?b; (case a => k_ne); (case b => k_upd)))
local macro_rules | `(tactic| walk_at "storeName") => `(tactic| (k_here; k_dflt (refine st_int (by with_reducible assumption) (by with_reducible assumption) ?_); intro h' t' _ F' N'; (try k_sweep)))
local macro_rules | `(tactic| walk_at "storeName") => `(tactic| (k_here; k_dflt (refine st_str (by with_reducible assumption) (by with_reducible assumption) ?_); intro h' t' _ F' N'; (try k_sweep)))
local macro_rules | `(tactic| walk_at "exec While Compare cons nil") => `(tactic| refine Stop.out ?_)
local macro_rules | `(tactic| walk_at "pyIter ref") => `(tactic| refine Stop.out ?_)
local macro_rules | `(tactic| walk_at "exec For Name Name cons nil") => `(tactic| (k_here; (rename Fr _ _ _ _ => lF'); (with_unfolding_all refine' For_invVF lF' ?k1 ?k2 ?_; (case k1 => exact rfl); (case k2 => exact rfl); k_whole)))
local macro_rules | `(tactic| walk_at "exec For Name Subscript cons nil") => `(tactic| (k_here; (rename Fr _ _ _ _ => lF'); (with_unfolding_all refine' For_invVF lF' ?k1 ?k2 ?_; (case k1 => exact rfl); (case k2 => exact rfl); k_whole)))
local macro_rules | `(tactic| walk_at "subscriptTail Name Slice ref ref") => `(tactic| refine Stop.out ?_)
theorem butlast_e (vs : List Value) : (slicePick vs.toArray none (some (-1)) none).toList = vs.take (vs.length - 1) := by
  have h := slicePick_butLast vs.toArray 1 (Nat.le_refl 1)
  have e : (-((1 : Nat) : Int)) = -1 := rfl
  rw [e] at h
  rw [h]
  simp
def lc : Nat → List Nat → List Nat
  | _, [] => []
  | a, n :: r => (a + n) :: lc (a + n + 1) r
theorem lc_snoc : ∀ (ls : List Nat) (a n : Nat), lc a (ls ++ [n]) = lc a ls ++ [a + ls.sum + ls.length + n]
  | [], a, n => by simp [lc]
  | x :: r, a, n => by
    simp only [List.cons_append, lc, lc_snoc r, List.sum_cons, List.length_cons]
    congr 3
    omega
theorem lc_len : ∀ (a : Nat) (ls : List Nat), (lc a ls).length = ls.length
  | _, [] => rfl
  | a, n :: r => by simp [lc, lc_len]
def toI (l : List Nat) : List Int := l.map fun k => ((k : Nat) : Int)
theorem cut_step {ps : List Str} {k i : Nat} {y : Str} {cv : List Value} {at' : Int} (hy : (ps.take k)[i]? = some y) (hP1 : IntsAre cv (toI (lc 0 ((ps.map (·.length)).take i)))) (hP2 : at' = ((((ps.map (·.length)).take i).sum + i : Nat) : Int)) :
    (∀ t, IntsAre (cv ++ [.int (at' + (y.length : Int)) t]) (toI (lc 0 ((ps.map (·.length)).take (i + 1))))) ∧ at' + (y.length : Int) + 1 = ((((ps.map (·.length)).take (i + 1)).sum + (i + 1) : Nat) : Int) := by
  have hik : i < k ∧ ps[i]? = some y := by
    have h := (List.getElem?_eq_some_iff.mp hy).1
    rw [List.length_take] at h
    refine ⟨by omega, ?_⟩
    rwa [List.getElem?_take_of_lt (by omega)] at hy
  have hil := (List.getElem?_eq_some_iff.mp hik.2).1
  have e : (ps.map (·.length)).take (i + 1) = (ps.map (·.length)).take i ++ [y.length] := by
    rw [List.take_add_one, List.getElem?_map, hik.2]; rfl
  have hl : ((ps.map (·.length)).take i).length = i := by rw [List.length_take, List.length_map]; omega
  rw [e, lc_snoc, hl]
  refine ⟨fun t => ?_, ?_⟩
  · unfold toI
    rw [List.map_append]
    have e2 : at' + (y.length : Int) = ((0 + ((ps.map (·.length)).take i).sum + i + y.length : Nat) : Int) := by rw [hP2]; omega
    rw [e2]
    exact IntsAre.append hP1 (.cons _ _ .nil)
  · rw [hP2, List.sum_append]
    simp
    omega
set_option maxRecDepth 100000 in
set_option maxHeartbeats 4000000 in
theorem cuts_c {w : World} {loose : List Str} {mean : ExcName → Option Value} {mg mb : Str → Option Value}
    {dp un : Nat} {gd : Option (List Code)} {cn : Str} {cs : Scope} {a : Addr} {ccd : Value} {cl : List (Str × Addr)} {outer : List Env} {A₀ : Around} {base h₀ : Heap} {L : Addr} {m : Str → Option Value} {s : Shared} {Q E : Value → Shared → Prop} {news : List (Addr × Obj)}
    {lp : Addr} {pv : List Value} {pn : Nat} {ps : List Str}
    (B : Below A₀ base outer h₀) (F : Fr h₀ L s.heap m) (X : (hd.heap_39 w.params).In h₀) (N : News h₀ L s.heap news) (T : Top hd.view_39 loose mean mg mb h₀) (hk : cs.kind = .function)
    (hdp : dp + 2 < recursionLimit) (hun : un + 100 < cLine) (hm : (lp, listOf pv.toArray pn) ∈ news) (hp : StrsAre pv ps) (hl : ps.length ≤ 200) (hpl : ∀ p ∈ ps, p.length ≤ 1000)
    (ret : ∀ r (gs : List Value) n h' tk', Fr h₀ L h' m → News h₀ L h' ((r, listOf gs.toArray n) :: news) → (∀ p ∈ news, p.1 < r) → IntsAre gs (toI (lc 0 ((ps.take (ps.length - 1)).map (·.length)))) → Q (.ref r) { s with heap := h', toks := tk' }) :
    wpAny (model PR w) (ktrTop dp un gd cn cs L a ccd cl outer) (call (.ref 54) [.ref lp]) Q E s := by
  replace N : News h₀ L s.heap ((lp, listOf pv.toArray pn) :: news) := cb_drop N fun p hp => by
    rcases List.mem_cons.mp hp with rfl | hp
    · exact hm
    · exact hp
  have kk : (fun (_ : OpenLaw) (K : Params → Frag) => True) PySem.Challenge.rw_at0001_01 hd.heap_39 := by w_top off; k_fill; trivial
  clear kk
  refine wpAny_call ?_
  k_dflt cell_enter
  refine no_raise ?_
  have hpv := StrsAre.len_eq hp
  k_steps
  refine ⟨?_⟩
  rename (_ < _ ∧ AllLt _ news) => lA
  rename_i lcu _ _ _ t0 _ _ _
  (k_here; k_dflt (refine' kmk_slice_lit ?zF ?zN ?zl ?zp ?zq ?ze ?_ ?zs ?zt ?zz; (case zF => k_asm); (case zN => k_asm); (case zl => exact isList_of (by k_asm) (by k_mem)); (case zp => kmk_part); (case zq => kmk_part); (case ze => exact butlast_e _); (case zs => with_unfolding_all rfl); (case zt => kmk_pure); (case zz => (rw [sizeLine_eq, List.size_toArray]; omega))); intro D h' F' N' lD; (try k_lt lD))
  k_steps
  refine ⟨?_⟩
  rename Fr _ _ _ _ => F1
  rename News _ _ _ _ => N1
  have hpt := StrsAre.take' hp (pv.length - 1)
  refine' my_for (σ := List Value × Nat × Int × Tok) (fun c => [(lcu, listOf c.1.toArray c.2.1)]) ((D, listOf (pv.take (pv.length - 1)).toArray 0) :: news) (fun c => [(Str.ofString "cuts", Value.ref lcu), (Str.ofString "at", Value.int c.2.2.1 c.2.2.2)]) (fun i c => i ≤ ps.length - 1 ∧ IntsAre c.1 (toI (lc 0 ((ps.map (·.length)).take i))) ∧ c.2.2.1 = ((((ps.map (·.length)).take i).sum + i : Nat) : Int)) ([], 0, 0, _) rfl (isList_of N1 (.head _)) (N1 _ (.head _)).2.1 ?hcl F1 ?n0 ?k1 ?k2 ?turn ?done rfl
  case hcl => exact fun c p hp => by rw [List.mem_singleton.mp hp]; rfl
  case n0 => exact cb_drop N1 (fun p hp => by
    rcases List.mem_cons.mp hp with rfl | hp
    · exact .tail _ (.head _)
    · rcases List.mem_cons.mp hp with rfl | hp
      · exact .head _
      · exact .tail _ (.tail _ (.tail _ hp)))
  case k1 => kst_all
  case k2 => exact ⟨Nat.zero_le _, .nil, rfl⟩
  case turn =>
    clear F1 N1
    rintro i v ⟨cv, cn', at', tat⟩ u h tk own hv ⟨hP0, hP1, hP2⟩ hoff F1 N1
    dsimp only at hP0 hP1 hP2 F1 N1
    simp only [List.nil_append, List.cons_append] at N1
    have hz := strs_get hpt hv
    obtain ⟨y, ty, rfl, hy⟩ := hz
    have hyl : y.length ≤ 1000 := hpl y (List.mem_of_mem_take (List.mem_of_getElem? hy))
    have hpc := IntsAre.length hP1
    have hP1h : Hd (IntsAre cv _) := ⟨hP1⟩
    have hlc := lc_len 0 ((ps.map (·.length)).take i)
    have hti : (toI (lc 0 ((ps.map (·.length)).take i))).length ≤ 1000 := by
      unfold toI
      rw [List.length_map, hlc, List.length_take, List.length_map]
      omega
    have hnD : ∀ p ∈ ((D, listOf (pv.take (pv.length - 1)).toArray 0) :: (news ++ own) : List (Addr × Obj)), p.1 ≠ lcu := fun p hp => by
      rcases List.mem_cons.mp hp with rfl | hp
      · exact Nat.ne_of_gt lD.1
      · rcases List.mem_append.mp hp with hp | hp
        · exact Nat.ne_of_lt (ltAll_of lA.2 p hp)
        · exact hoff _ (.head _) (Nat.ne_of_lt lD.1) p hp
    (try k_fold)
    k_steps
    have hs := cut_step hy hP1h.out hP2
    exact ⟨(_, cn' + 1, _, _), _, _, _, _, rfl, by assumption, by assumption, fun p hp => hp, by kst_all, by have := (List.getElem?_eq_some_iff.mp hy).1; rw [List.length_take] at this; omega, hs.1 _, hs.2⟩
  case done =>
    clear F1 N1
    rintro ⟨cv, cn', at', tat⟩ u h tk ⟨hP0, hP1, hP2⟩ F1 N1
    dsimp only at hP0 hP1 hP2 F1 N1
    simp only [List.nil_append, List.cons_append] at N1
    have hP1h : Hd (IntsAre cv _) := ⟨hP1⟩
    clear hP1
    (try k_fold)
    k_steps
    refine ret _ cv cn' _ _ (by assumption) (cb_drop (by assumption) fun p hp => by
      rcases List.mem_cons.mp hp with rfl | hp
      · exact .head _
      · exact .tail _ (.tail _ hp)) (ltAll_of lA.2) ?_
    have h9 := hP1h.out
    rw [List.length_take, hpv, Nat.min_eq_left (Nat.sub_le _ _), ← List.map_take] at h9
    exact h9
end Mine

end
section
open PySem PySem.W PySem.Calls PyProof.Rows PySem.Builtin PySem.Builtin.Str
namespace Mine
theorem sub_list (x : Str) (i j : Nat) : (strSub x i j).cps.toList = (x.cps.toList.take j).drop i := by
  unfold strSub
  simp [List.drop_take]
theorem part_none {x : Str} (h : 59 ∉ x.cps.toList) : Txt.partition x (Str.ofString ";") = (x, Str.empty, Str.empty) := by
  have e : Str.ofString ";" = ⟨#[59]⟩ := by decide +kernel
  unfold Txt.partition
  rw [e]
  rcases StrLaws.occ_head_from x ⟨#[59]⟩ 0 1 (Nat.le_refl 1) with ⟨h0, _⟩ | ⟨k, r, h0, _, hk, _⟩
  · rw [h0]
  · exact absurd (List.mem_of_getElem? ((StrLaws.subAt_one x 59 k).mp hk)) h
theorem part_some {x : Str} {u v : List Nat} (h : x.cps.toList = u ++ 59 :: v) (hu : 59 ∉ u) : Txt.partition x (Str.ofString ";") = (S u, Str.ofString ";", S v) := by
  have e : Str.ofString ";" = ⟨#[59]⟩ := by decide +kernel
  have hn : x.cps.toList.length = x.length := by simp [Str.length]
  have hx : x.cps.toList[u.length]? = some 59 := by rw [h]; simp
  unfold Txt.partition
  rw [e]
  rcases StrLaws.occ_head_from x ⟨#[59]⟩ 0 1 (Nat.le_refl 1) with ⟨_, h0⟩ | ⟨k, r, h0, _, hk, hf⟩
  · exact absurd ((StrLaws.subAt_one x 59 u.length).mpr hx) (h0 _ (Nat.zero_le _))
  · have hk' := (StrLaws.subAt_one x 59 k).mp hk
    have e1 : k = u.length := by
      rcases Nat.lt_trichotomy k u.length with h1 | h1 | h1
      · rw [h, List.getElem?_append_left h1] at hk'
        exact absurd (List.mem_of_getElem? hk') hu
      · exact h1
      · exact absurd ((StrLaws.subAt_one x 59 u.length).mpr hx) (hf _ (Nat.zero_le _) h1)
    subst e1
    rw [h0]
    have e2 : ∀ i j, strSub x i j = S ((x.cps.toList.take j).drop i) := fun i j => PySem.Str.ext' (by
      have := sub_list x i j
      simpa using congrArg List.toArray this)
    dsimp only
    rw [e2, e2]
    have e3 : (⟨#[59]⟩ : Str).length = 1 := rfl
    rw [e3, ← hn, List.take_length, h]
    simp
theorem cut59 : ∀ l : List Nat, 59 ∉ l ∨ ∃ u v, l = u ++ 59 :: v ∧ 59 ∉ u
  | [] => .inl (by simp)
  | c :: r => by
    by_cases hc : c = 59
    · exact .inr ⟨[], r, by rw [hc]; rfl, by simp⟩
    · rcases cut59 r with h | ⟨u, v, rfl, h⟩
      · exact .inl (by simp [h, Ne.symm hc])
      · exact .inr ⟨c :: u, v, rfl, by simp [h, Ne.symm hc]⟩
theorem find59 {b : Str} {u v : List Nat} (h : b.cps.toList = u ++ 59 :: v) (hu : 59 ∉ u) : Txt.find b (Str.ofString ";") = (u.length : Int) := by
  have hx : b.cps.toList[u.length]? = some 59 := by rw [h]; simp
  unfold Txt.find
  rw [show Str.ofString ";" = ⟨#[59]⟩ by decide +kernel]
  rcases StrLaws.occ_head_from b ⟨#[59]⟩ 0 1 (Nat.le_refl 1) with ⟨_, h0⟩ | ⟨k, r, h0, _, hk, hf⟩
  · exact absurd ((StrLaws.subAt_one b 59 u.length).mpr hx) (h0 _ (Nat.zero_le _))
  · have hk' := (StrLaws.subAt_one b 59 k).mp hk
    rw [h0]
    rcases Nat.lt_trichotomy k u.length with h1 | h1 | h1
    · rw [h, List.getElem?_append_left h1] at hk'
      exact absurd (List.mem_of_getElem? hk') hu
    · rw [h1]
    · exact absurd ((StrLaws.subAt_one b 59 u.length).mpr hx) (hf _ (Nat.zero_le _) h1)
theorem semi_str : Str.ofString ";" = S [59] := by decide +kernel
theorem spl_none {x : Str} (h : 59 ∉ x.cps.toList) : spl x = (Txt.strip x, none) := by unfold spl; rw [part_none h]; rfl
theorem spl_some {x : Str} {u v : List Nat} (h : x.cps.toList = u ++ 59 :: v) (hu : 59 ∉ u) : spl x = (Txt.strip (S u), some (Txt.strip (S v))) := by unfold spl; rw [part_some h hu]; rfl
theorem spl_case (y : Str) : (Txt.find (y ++ Str.ofString ";") (Str.ofString ";") = y.length ∧ spl y = (Txt.strip (Txt.slice y none (some (Txt.find (y ++ Str.ofString ";") (Str.ofString ";")))), none)) ∨
    (0 ≤ Txt.find (y ++ Str.ofString ";") (Str.ofString ";") ∧ Txt.find (y ++ Str.ofString ";") (Str.ofString ";") < y.length ∧ spl y = (Txt.strip (Txt.slice y none (some (Txt.find (y ++ Str.ofString ";") (Str.ofString ";")))), some (Txt.strip (Txt.slice y (some (Txt.find (y ++ Str.ofString ";") (Str.ofString ";") + 1)) none)))) := by
  have hn := len_lt y
  have hc : (y ++ Str.ofString ";").cps.toList = lt y ++ [59] := by rw [Str.cps_append, semi_str]; simp
  rcases cut59 (lt y) with h | ⟨u, v, h, hu⟩
  · refine .inl ?_
    rw [find59 hc h, hn, sl_to (Nat.le_refl _), List.take_of_length_le (Nat.le_of_eq hn), S_lt]
    exact ⟨rfl, spl_none h⟩
  · refine .inr ?_
    have hl : u.length + 1 + v.length = y.length := by rw [← hn, h]; simp only [List.length_append, List.length_cons]; omega
    rw [find59 (u := u) (v := v ++ [59]) (by rw [hc, h]; simp) hu]
    have e : ((u.length : Int) + 1) = ((u.length + 1 : Nat) : Int) := by omega
    rw [e, sl_to (by omega), sl_from (by omega), h]
    refine ⟨by omega, by omega, ?_⟩
    rw [spl_some h hu]
    have e1 : List.take u.length (u ++ 59 :: v) = u := by simp
    have e2 : List.drop (u.length + 1) (u ++ 59 :: v) = v := by
      rw [List.drop_append]; simp
    rw [e1, e2]
end Mine

end
section
open PySem PySem.W PySem.Calls PyProof.Rows PySem.Builtin PySem.Builtin.Str
namespace Mine
theorem tcount (x : Str) : Txt.count x (Str.ofString ";") = (((lt x).count 59 : Nat) : Int) := by
  have e : Txt.count x (Str.ofString ";") = count4 x ⟨#[59]⟩ ((0 : Nat) : Int) (x.length : Int) := by
    rw [semi_str]
    unfold count4 Txt.count
    rw [fromIndex_nat, endIdx_nat (Nat.le_refl _)]
  rw [e, occ_count x ⟨#[59]⟩ (Nat.zero_le _) (Nat.le_refl _) (fun i j h1 h2 => by change j < i + 1 at h2; omega)]
  have h := cnt1 x 59 x.length (Nat.le_refl _) x.length 0 (by omega)
  have e2 : x.length + 1 - 0 = x.length + 1 := by omega
  rw [e2, h]
  have e3 : seg (lt x) 0 x.length = lt x := by
    unfold seg
    rw [List.drop_zero, Nat.sub_zero, List.take_of_length_le (by rw [len_lt]; exact Nat.le_refl _)]
  rw [e3]
/-- the cuts of a text -/
def cn : Bool → Bool → List Nat → Nat
  | _, _, [] => 0
  | o, e, c :: r => (if c = 59 ∧ o = false then 1 else 0) + cn (o != (c == 34 && !e)) (c == 92) r
theorem pcs_len : ∀ (l : List Nat) (o e : Bool), (pcs o e l).length = cn o e l + 1
  | [], _, _ => rfl
  | c :: r, o, e => by
    unfold pcs cn
    by_cases h : c = 59 ∧ o = false
    · obtain ⟨rfl, rfl⟩ := h
      rw [if_pos ⟨rfl, rfl⟩, if_pos ⟨rfl, rfl⟩, List.length_cons, pcs_len r]
      have e1 : (false != ((59 : Nat) == 34 && !e)) = false := by simp
      have e2 : ((59 : Nat) == 92) = false := by decide
      rw [e1, e2]; omega
    · rw [if_neg h, if_neg h]
      have ih := pcs_len r (o != (c == 34 && !e)) (c == 92)
      cases hp : pcs (o != (c == 34 && !e)) (c == 92) r with
      | nil => rw [hp] at ih; simp at ih
      | cons p ps => rw [hp] at ih; simp only [List.length_cons] at ih ⊢; omega
theorem cn_flip : ∀ (l : List Nat) (o e : Bool), cn o e l + cn (!o) e l = l.count 59
  | [], _, _ => rfl
  | c :: r, o, e => by
    unfold cn
    have ih := cn_flip r (o != (c == 34 && !e)) (c == 92)
    have e1 : ((!o) != (c == 34 && !e)) = !(o != (c == 34 && !e)) := by cases o <;> cases (c == 34 && !e) <;> rfl
    rw [e1, List.count_cons]
    by_cases h : c = 59
    · subst h
      cases o <;> simp at ih ⊢ <;> omega
    · have h2 : (c == 59) = false := by simpa using h
      simp [h] at ih ⊢
      omega
/-- the state behind a text -/
def stt : Bool → Bool → List Nat → Bool × Bool
  | o, e, [] => (o, e)
  | o, e, c :: r => stt (o != (c == 34 && !e)) (c == 92) r
theorem cn_app : ∀ (u r : List Nat) (o e : Bool), cn o e (u ++ r) = cn o e u + cn (stt o e u).1 (stt o e u).2 r
  | [], r, o, e => by simp [cn, stt]
  | c :: u, r, o, e => by
    simp only [List.cons_append, cn, stt, cn_app u r]
    omega
theorem stt_snoc : ∀ (u : List Nat) (c : Nat) (o e : Bool), (stt o e (u ++ [c])).2 = (c == 92)
  | [], c, o, e => rfl
  | d :: u, c, o, e => by simp only [List.cons_append, stt]; exact stt_snoc u c _ _
theorem stt_end {u : List Nat} (h : ∀ k, k + 1 = u.length → u[k]? ≠ some 92) : (stt false false u).2 = false := by
  rcases List.eq_nil_or_concat u with rfl | ⟨v, c, rfl⟩
  · rfl
  · rw [List.concat_eq_append, stt_snoc]
    have := h v.length (by simp)
    simp at this
    simpa using this
/-- one mark more at a place -/
theorem cn_mark {u : List Nat} (r : List Nat) (h : (stt false false u).2 = false) : cn false false (u ++ r) + cn false false (u ++ 34 :: r) = 2 * cn false false u + r.count 59 := by
  rw [cn_app, cn_app, h]
  have h1 : cn (stt false false u).1 false (34 :: r) = cn (!(stt false false u).1) false r := by
    rw [cn]
    cases (stt false false u).1 <;> simp
  rw [h1]
  have := cn_flip r (stt false false u).1 false
  omega
def insL (k : Nat) (w : List Nat) : List Nat := w.take k ++ 34 :: w.drop k
def wysL (x : List Nat) : List Nat → List (List Nat)
  | [] => [x]
  | p :: r => wysL x r ++ (wysL x r).map (insL p)
theorem wysL_inv {x : List Nat} {f : Nat} (hf : f ≤ x.length) : ∀ {r : List Nat}, (∀ p ∈ r, f ≤ p ∧ p ≤ x.length) → ∀ w ∈ wysL x r, x.length ≤ w.length ∧ w.take f = x.take f ∧ (w.drop f).count 59 = (x.drop f).count 59
  | [], _, w, h => by rw [List.mem_singleton.mp h]; exact ⟨Nat.le_refl _, rfl, rfl⟩
  | p :: r, hp, w, h => by
    have ih := wysL_inv hf (r := r) fun q hq => hp q (.tail _ hq)
    have hp0 := hp p (.head _)
    rcases List.mem_append.mp h with h | h
    · exact ih w h
    · obtain ⟨v, hv, rfl⟩ := List.mem_map.mp h
      obtain ⟨h1, h2, h3⟩ := ih v hv
      have hlen : (v.take p).length = p := by rw [List.length_take]; omega
      refine ⟨by unfold insL; simp only [List.length_append, List.length_cons, List.length_take, List.length_drop]; omega, ?_, ?_⟩
      · unfold insL
        rw [List.take_append_of_le_length (by omega), List.take_take, Nat.min_eq_left hp0.1, h2]
      · rw [← h3]
        unfold insL
        rw [List.drop_append_of_le_length (by omega), List.count_append, List.count_cons]
        have e : v.drop f = (v.take p).drop f ++ v.drop p := by
          conv => lhs; rw [← List.take_append_drop p v]
          rw [List.drop_append_of_le_length (by omega)]
        rw [e, List.count_append]
        simp
theorem sum_pair {x : List Nat} {f : Nat} (hf : f ≤ x.length) (hb : ∀ k, k + 1 = f → x[k]? ≠ some 92) : ∀ W : List (List Nat), (∀ w ∈ W, x.length ≤ w.length ∧ w.take f = x.take f ∧ (w.drop f).count 59 = (x.drop f).count 59) →
    (W.map (cn false false)).sum + ((W.map (insL f)).map (cn false false)).sum = W.length * (2 * cn false false (x.take f) + (x.drop f).count 59)
  | [], _ => by simp
  | w :: W, h => by
    have ih := sum_pair hf hb W fun v hv => h v (.tail _ hv)
    obtain ⟨h1, h2, h3⟩ := h w (.head _)
    have hst : (stt false false (x.take f)).2 = false := stt_end fun k hk => by
      rw [List.length_take, Nat.min_eq_left hf] at hk
      rw [List.getElem?_take_of_lt (by omega)]
      exact hb k hk
    have hm := cn_mark (w.drop f) hst
    rw [h3, ← h2] at hm
    rw [List.take_append_drop] at hm
    rw [h2] at hm
    have hm2 : cn false false (insL f w) = cn false false (x.take f ++ 34 :: w.drop f) := by unfold insL; rw [h2]
    simp only [List.map_cons, List.sum_cons, List.length_cons, Nat.add_mul, Nat.one_mul]
    rw [hm2]
    omega
theorem sum_map_cast (l : List (List Nat)) : ((l.map fun w => (((cn false false w : Nat) : Int)))).sum = (((l.map (cn false false)).sum : Nat) : Int) := by
  induction l with
  | nil => rfl
  | cons a r ih => simp [ih]
end Mine

end
section
open PySem PySem.W PySem.Calls PyProof.Rows PySem.Builtin PySem.Builtin.Str
namespace Mine
def Z (h s : List Nat) : Prop := ∃ a b, (∀ c ∈ a, Unicode.isSpace c = true) ∧ (∀ c ∈ b, Unicode.isSpace c = true) ∧ s = a ++ h ++ b
theorem strip_Z (l r : Bool) (x : Str) : Z (Txt.stripBy Unicode.isSpace l r x).cps.toList x.cps.toList := by
  rw [PyProof.Rows.stripBy_eq, sub_list]
  have hlo : stripLo Unicode.isSpace l x ≤ x.length ∧ ∀ k, k < stripLo Unicode.isSpace l x → Unicode.isSpace (x.cps.getD k 0) = true := by
    cases l with
    | true => exact ⟨(lo_facts _ x).1, (lo_facts _ x).2.1⟩
    | false => simp [stripLo]
  generalize stripLo Unicode.isSpace l x = lo at hlo
  have hhi : lo ≤ stripHi Unicode.isSpace r x lo ∧ stripHi Unicode.isSpace r x lo ≤ x.length ∧ ∀ k, stripHi Unicode.isSpace r x lo ≤ k → k < x.length → Unicode.isSpace (x.cps.getD k 0) = true := by
    cases r with
    | true => have := hi_facts Unicode.isSpace x lo hlo.1; exact ⟨this.1, this.2.1, this.2.2.1⟩
    | false => simp [stripHi]; exact ⟨hlo.1, fun k h1 h2 => by omega⟩
  generalize stripHi Unicode.isSpace r x lo = hi at hhi
  have hn : x.cps.toList.length = x.length := by simp [Str.length]
  refine ⟨x.cps.toList.take lo, x.cps.toList.drop hi, fun c hc => ?_, fun c hc => ?_, ?_⟩
  · obtain ⟨k, hk⟩ := List.mem_iff_getElem?.mp hc
    rw [List.getElem?_take] at hk
    split at hk
    · rename_i h1
      have := hlo.2 k h1
      rwa [← getD_list, List.getD_eq_getElem?_getD, hk] at this
    · cases hk
  · obtain ⟨k, hk⟩ := List.mem_iff_getElem?.mp hc
    rw [List.getElem?_drop] at hk
    have h1 := lt_of_get hk
    have := hhi.2.2 (hi + k) (by omega) (by omega)
    rwa [← getD_list, List.getD_eq_getElem?_getD, hk] at this
  · have e1 : x.cps.toList.take lo ++ (x.cps.toList.take hi).drop lo = x.cps.toList.take hi := by
      have := List.take_append_drop lo (x.cps.toList.take hi)
      rwa [List.take_take, Nat.min_eq_left hhi.1] at this
    rw [e1, List.take_append_drop]
theorem a1_sp : ∀ c ∈ A1, Unicode.isSpace c = false := by decide +kernel
theorem a1_low : ∀ c ∈ A1, Unicode.lowerOf c = [c] := by decide +kernel
theorem a1_sig : ∀ c ∈ A1, c ≠ 0x3A3 := by decide +kernel
theorem a1_max : ∀ c ∈ A1, c < 0x110000 := by decide +kernel
theorem a1_61 : 61 ∈ A1 := by decide
theorem a1_34 : 34 ∈ A1 := by decide
theorem Z_raw {h s : List Nat} (z : Z h s) (hs : ∀ c ∈ s, c ∈ A1) : h = s := by
  obtain ⟨a, b, h1, h2, rfl⟩ := z
  have ha : a = [] := by
    cases a with
    | nil => rfl
    | cons c r => have := h1 c (.head _); rw [a1_sp c (hs c (by simp))] at this; cases this
  have hb : b = [] := by
    cases b with
    | nil => rfl
    | cons c r => have := h2 c (.head _); rw [a1_sp c (hs c (by simp))] at this; cases this
  rw [ha, hb]; simp
theorem stripB_raw (l r : Bool) {x : Str} (h : ∀ c ∈ x.cps.toList, c ∈ A1) : Txt.stripBy Unicode.isSpace l r x = x :=
  PySem.Str.ext' (by have := Z_raw (strip_Z l r x) h; exact Array.toList_inj.mp this)
theorem strip_raw {x : Str} (h : ∀ c ∈ x.cps.toList, c ∈ A1) : Txt.strip x = x := stripB_raw true true h
theorem rstrip_raw {x : Str} (h : ∀ c ∈ x.cps.toList, c ∈ A1) : Txt.rstrip x = x := stripB_raw false true h
theorem lstrip_raw {x : Str} (h : ∀ c ∈ x.cps.toList, c ∈ A1) : Txt.lstrip x = x := stripB_raw true false h
theorem lower_raw {x : Str} (h : ∀ c ∈ x.cps.toList, c ∈ A1) : Txt.lower x = x := by
  refine PySem.Str.ext' (Array.toList_inj.mp ?_)
  have e0 : x.cps.toList = (x.cps.toList.map fun c => [c]).flatten := by
    induction x.cps.toList with
    | nil => rfl
    | cons c r ih => simp; exact ih
  conv => rhs; rw [e0]
  unfold Txt.lower placed
  rw [Array.toList_flatten, Array.toList_mapIdx]
  congr 1
  refine List.ext_getElem (by simp) fun i h1 h2 => ?_
  simp only [List.getElem_map, List.getElem_mapIdx]
  have hi : i < x.cps.size := by simpa using h1
  have hc := h (x.cps.toList[i]'(by simpa using hi)) (List.getElem_mem _)
  unfold Unicode.lowerAt
  rw [Array.getElem?_eq_getElem hi]
  have h3 := a1_sig _ hc
  have h4 := a1_low _ hc
  simp only [Array.getElem_toList] at h3 h4 ⊢
  rw [show (x.cps[i] == 0x3A3) = false by simpa using h3]
  simp [h4]
theorem cutq : ∀ l : List Nat, 61 ∉ l ∨ ∃ u v, l = u ++ 61 :: v ∧ 61 ∉ u
  | [] => .inl (by simp)
  | c :: r => by
    by_cases hc : c = 61
    · exact .inr ⟨[], r, by rw [hc]; rfl, by simp⟩
    · rcases cutq r with h | ⟨u, v, rfl, h⟩
      · exact .inl (by simp [h, Ne.symm hc])
      · exact .inr ⟨c :: u, v, rfl, by simp [h, Ne.symm hc]⟩
theorem fmt_raw {raw : List Nat} (h : ∀ c ∈ raw, c ∈ A1) : fmt raw = S raw := by
  unfold fmt
  rcases cutq raw with h1 | ⟨u, v, rfl, h1⟩
  · rw [if_neg h1]; exact strip_raw h
  · have hu : ∀ c ∈ (S u).cps.toList, c ∈ A1 := fun c hc => h c (by simp at hc; simp [hc])
    have hv : ∀ c ∈ (S v).cps.toList, c ∈ A1 := fun c hc => h c (by simp at hc; simp [hc])
    rw [if_pos (by simp), (takeWhile_seg (v := v) h1).1, (takeWhile_seg (v := v) h1).2, rstrip_raw hu, lower_raw hu, lstrip_raw hv, show Str.ofString "=" = S [61] by decide +kernel, S_app, S_app, strip_raw (x := S (u ++ [61] ++ v)) (fun c hc => h c (by simpa using hc))]
    simp
theorem pcs_mem : ∀ (l : List Nat) (o e : Bool), ∀ p ∈ pcs o e l, ∀ c ∈ p, c ∈ l
  | [], _, _, p, hp, c, hc => by simp [pcs] at hp; subst hp; cases hc
  | d :: r, o, e, p, hp, c, hc => by
    unfold pcs at hp
    split at hp
    · rcases List.mem_cons.mp hp with rfl | hp
      · cases hc
      · exact .tail _ (pcs_mem r _ _ p hp c hc)
    · have ih := pcs_mem r (o != (d == 34 && !e)) (d == 92)
      split at hp
      · rename_i q qs hq
        rw [hq] at ih
        rcases List.mem_cons.mp hp with rfl | hp
        · rcases List.mem_cons.mp hc with rfl | hc
          · exact .head _
          · exact .tail _ (ih q (.head _) c hc)
        · exact .tail _ (ih p (.tail _ hp) c hc)
      · cases hp
theorem parse_raw {x : Str} (h : ∀ c ∈ lt x, c ∈ A1) : parse x = (pcs false false (lt x)).map S := by
  unfold parse
  exact List.map_congr_left fun p hp => fmt_raw fun c hc => h c (pcs_mem _ _ _ p hp c hc)
theorem join_cons2 (sep x : Str) (r : List Str) (h : r ≠ []) : Str.join sep (x :: r) = x ++ sep ++ Str.join sep r := by
  cases r with
  | nil => exact absurd rfl h
  | cons y r => rw [Str.join]; intro h; cases h
theorem join_head (sep : Str) (c : Nat) (p : List Nat) : ∀ r : List Str, Str.join sep (S (c :: p) :: r) = S [c] ++ Str.join sep (S p :: r)
  | [] => by
    show S (c :: p) = S [c] ++ S p
    rw [S_app]; rfl
  | y :: r => by
    rw [join_cons2 sep (S (c :: p)) (y :: r) (by simp), join_cons2 sep (S p) (y :: r) (by simp)]
    have e : S (c :: p) = S [c] ++ S p := by rw [S_app]; rfl
    rw [e]
    refine PySem.Str.ext' ?_
    simp only [PySem.Str.cps_append, Array.append_assoc]
theorem pcs_join : ∀ (l : List Nat) (o e : Bool), Str.join (Str.ofString ";") ((pcs o e l).map S) = S l
  | [], _, _ => rfl
  | c :: r, o, e => by
    unfold pcs
    by_cases h : c = 59 ∧ o = false
    · rw [if_pos h, List.map_cons, join_cons2 _ _ _ (by simp [pcs_ne]), pcs_join r, semi_str, h.1, S_app, S_app]
      rfl
    · rw [if_neg h]
      have ih := pcs_join r (o != (c == 34 && !e)) (c == 92)
      cases hp : pcs (o != (c == 34 && !e)) (c == 92) r with
      | nil => exact absurd hp (pcs_ne _ _ _)
      | cons p ps =>
        rw [hp] at ih
        simp only [List.map_cons] at ih ⊢
        rw [join_head, ih, S_app]
        rfl
theorem parse_join {x : Str} (h : ∀ c ∈ lt x, c ∈ A1) : Str.join (Str.ofString ";") (parse x) = x := by
  rw [parse_raw h, pcs_join, S_lt]
theorem pcs_plain : ∀ (l : List Nat) (e : Bool), 59 ∉ l → 34 ∉ l → pcs false e l = [l]
  | [], _, _, _ => rfl
  | c :: r, e, h1, h2 => by
    have hc : c ≠ 59 := fun h => h1 (by rw [h]; exact .head _)
    have hq : (c == 34) = false := by
      have : c ≠ 34 := fun h => h2 (by rw [h]; exact .head _)
      simpa using this
    unfold pcs
    rw [if_neg (by simp [hc]), hq]
    have ih := pcs_plain r (c == 92) (fun h => h1 (.tail _ h)) (fun h => h2 (.tail _ h))
    simp only [Bool.false_and, bne_self_eq_false]
    rw [ih]
theorem pcs_first : ∀ (u v : List Nat) (e : Bool), 59 ∉ u → 34 ∉ u → pcs false e (u ++ 59 :: v) = u :: pcs false false v
  | [], v, e, _, _ => by
    show pcs false e (59 :: v) = _
    conv => lhs; unfold pcs
    rw [if_pos ⟨rfl, rfl⟩]
  | c :: u, v, e, h1, h2 => by
    have hc : c ≠ 59 := fun h => h1 (by rw [h]; exact .head _)
    have hq : (c == 34) = false := by
      have : c ≠ 34 := fun h => h2 (by rw [h]; exact .head _)
      simpa using this
    rw [List.cons_append]
    conv => lhs; unfold pcs
    rw [if_neg (by simp [hc]), hq]
    have ih := pcs_first u v (c == 92) (fun h => h1 (.tail _ h)) (fun h => h2 (.tail _ h))
    simp only [Bool.false_and, bne_self_eq_false]
    rw [ih]
theorem heads_raw : ∀ (n : Nat) (l : List Nat), l.length < n → (∀ c ∈ l, c ∈ A1) → 34 ∉ l → heads (S l) = (pcs false false l).map S
  | 0, l, h, _, _ => by omega
  | n + 1, l, h, hA, hq => by
    rw [heads_eq]
    rcases cut59 l with h1 | ⟨u, v, rfl, h1⟩
    · rw [spl_none (x := S l) (by simpa using h1), pcs_plain l false h1 hq]
      show [Txt.strip (S l)] = [S l]
      rw [strip_raw (x := S l) (fun c hc => hA c (by simpa using hc))]
    · have hu : ∀ c ∈ u, c ∈ A1 := fun c hc => hA c (by simp [hc])
      have hv : ∀ c ∈ v, c ∈ A1 := fun c hc => hA c (by simp [hc])
      rw [spl_some (x := S (u ++ 59 :: v)) (u := u) (v := v) (by simp) h1, pcs_first u v false h1 (fun h => hq (by simp [h]))]
      show Txt.strip (S u) :: heads (Txt.strip (S v)) = _
      rw [strip_raw (x := S u) (fun c hc => hu c (by simpa using hc)), strip_raw (x := S v) (fun c hc => hv c (by simpa using hc))]
      rw [heads_raw n v (by simp at h; omega) hv (fun h => hq (by simp [h]))]
      rfl
theorem heads_parse {x : Str} (h : ∀ c ∈ lt x, c ∈ A1) (hq : 34 ∉ lt x) : heads x = parse x := by
  have := heads_raw _ (lt x) (Nat.lt_succ_self _) h hq
  rw [S_lt] at this
  rw [this, parse_raw h]
end Mine

end
section
open PySem PySem.W PySem.Calls PyProof.Rows PySem.Builtin PySem.Builtin.Str
namespace Mine
theorem bq0 (b : Bool) : (b == false) = !b := by cases b <;> rfl
theorem bq1 (b : Bool) : (b == true) = b := by cases b <;> rfl
/-- the places of the cuts -/
def cpo : Bool → Bool → Nat → List Nat → List Nat
  | _, _, _, [] => []
  | o, e, i, c :: r => (if c = 59 ∧ o = false then [i] else []) ++ cpo (o != (c == 34 && !e)) (c == 92) (i + 1) r
theorem lc_pcs : ∀ (l : List Nat) (o e : Bool) (a : Nat), lc a (((pcs o e l).take ((pcs o e l).length - 1)).map (·.length)) = cpo o e a l
  | [], _, _, _ => rfl
  | c :: r, o, e, a => by
    unfold cpo
    by_cases h : c = 59 ∧ o = false
    · have hp : pcs o e (c :: r) = [] :: pcs false false r := by
        conv => lhs; unfold pcs
        rw [if_pos h]
      have e1 : (o != (c == 34 && !e)) = false := by rw [h.1, h.2]; rfl
      have e2 : (c == 92) = false := by rw [h.1]; rfl
      rw [hp, if_pos h, e1, e2, ← lc_pcs r false false (a + 1)]
      have hl := pcs_len r false false
      have e3 : ([] :: pcs false false r).length - 1 = ((pcs false false r).length - 1) + 1 := by simp only [List.length_cons]; omega
      rw [e3, List.take_succ_cons, List.map_cons, lc]
      rfl
    · rw [if_neg h, List.nil_append, ← lc_pcs r _ _ (a + 1)]
      have hp : pcs o e (c :: r) = match pcs (o != (c == 34 && !e)) (c == 92) r with | p :: ps => (c :: p) :: ps | [] => [] := by
        conv => lhs; unfold pcs
        rw [if_neg h] <;> cases pcs (o != (c == 34 && !e)) (c == 92) r <;> rfl
      rw [hp]
      cases hq : pcs (o != (c == 34 && !e)) (c == 92) r with
      | nil => exact absurd hq (pcs_ne _ _ _)
      | cons p ps =>
        cases ps with
        | nil => rfl
        | cons q qs =>
          have e3 : ((c :: p) :: q :: qs).length - 1 = qs.length + 1 := by simp
          have e4 : (p :: q :: qs).length - 1 = qs.length + 1 := by simp
          simp only []
          rw [e3, e4, List.take_succ_cons, List.take_succ_cons, List.map_cons, List.map_cons, lc, lc, List.length_cons]
          have e5 : a + (p.length + 1) = a + 1 + p.length := by omega
          rw [e5]
def isCut : Bool → Bool → List Nat → Nat → Bool
  | _, _, [], _ => false
  | o, _, c :: _, 0 => c == 59 && !o
  | o, e, c :: r, j + 1 => isCut (o != (c == 34 && !e)) (c == 92) r j
theorem cpo_is : ∀ (l : List Nat) (o e : Bool) (i : Nat), cpo o e i l = ((List.range l.length).filter (isCut o e l)).map (i + ·)
  | [], _, _, _ => rfl
  | c :: r, o, e, i => by
    rw [cpo, cpo_is r, List.length_cons, List.range_succ_eq_map, List.filter_cons, List.filter_map]
    have e1 : (isCut o e (c :: r) ∘ Nat.succ) = isCut (o != (c == 34 && !e)) (c == 92) r := rfl
    rw [e1]
    have e2 : ∀ m : List Nat, (m.map Nat.succ).map (i + ·) = m.map (i + 1 + ·) := fun m => by
      rw [List.map_map]
      exact List.map_congr_left fun k _ => by simp; omega
    by_cases h : c = 59 ∧ o = false
    · have h0 : isCut o e (c :: r) 0 = true := by simp [isCut, h.1, h.2]
      rw [if_pos h, h0, if_pos rfl, List.map_cons, e2]
      rfl
    · have h0 : isCut o e (c :: r) 0 = false := by
        simp only [isCut]
        cases o
        · simp at h ⊢; exact h
        · simp
      rw [if_neg h, h0, if_neg (by decide), e2]
      rfl
theorem isCut_59 : ∀ (l : List Nat) (o e : Bool) (j : Nat), isCut o e l j = true → l.getD j 0 = 59
  | [], _, _, _, h => by cases h
  | c :: r, o, e, 0, h => by simp [isCut] at h; simp [h.1]
  | c :: r, o, e, j + 1, h => by
    have := isCut_59 r _ _ j h
    simpa using this
theorem isCut_flip : ∀ (l : List Nat) (o e : Bool) (j : Nat), isCut (!o) e l j = (l.getD j 0 == 59 && !isCut o e l j)
  | [], _, _, _ => by simp [isCut]
  | c :: r, o, e, 0 => by
    simp only [isCut, List.getD_cons_zero]
    cases o <;> cases (c == 59) <;> rfl
  | c :: r, o, e, j + 1 => by
    have e1 : ((!o) != (c == 34 && !e)) = !(o != (c == 34 && !e)) := by cases o <;> cases (c == 34 && !e) <;> rfl
    simp only [isCut, List.getD_cons_succ]
    rw [e1, isCut_flip r]
theorem isCut_left : ∀ (u r : List Nat) (o e : Bool) (j : Nat), j < u.length → isCut o e (u ++ r) j = isCut o e u j
  | [], _, _, _, _, h => by simp at h
  | c :: u, r, o, e, 0, _ => rfl
  | c :: u, r, o, e, j + 1, h => by
    simp only [List.cons_append, isCut]
    exact isCut_left u r _ _ j (by simpa using h)
theorem isCut_right : ∀ (u r : List Nat) (o e : Bool) (j : Nat), isCut o e (u ++ r) (u.length + j) = isCut (stt o e u).1 (stt o e u).2 r j
  | [], r, o, e, j => by simp [stt]
  | c :: u, r, o, e, j => by
    have : (c :: u).length + j = (u.length + j) + 1 := by simp; omega
    rw [this]
    simp only [List.cons_append, isCut, stt]
    exact isCut_right u r _ _ j
/-- behind a backslash, and no mark ahead of what follows -/
def deadL (u r : List Nat) : Bool := (stt false false u).2 && !(r.head? == some 34)
theorem isCut_mark (r : List Nat) (o e : Bool) (j : Nat) : isCut o e (34 :: r) (j + 1) = (r.getD j 0 == 59 && (isCut o e r j == (e && !(r.head? == some 34)))) := by
  simp only [isCut]
  have h92 : ((34 : Nat) == 92) = false := by decide
  rw [h92]
  cases e with
  | false =>
    have e1 : (o != ((34 : Nat) == 34 && !false)) = !o := by cases o <;> rfl
    rw [e1, isCut_flip, Bool.false_and, bq0]
  | true =>
    have e1 : (o != ((34 : Nat) == 34 && !true)) = o := by cases o <;> rfl
    rw [e1, Bool.true_and]
    cases r with
    | nil => simp [isCut]
    | cons c s =>
      by_cases hc : c = 34
      · subst hc
        have hd : (!((34 :: s).head? == some 34)) = false := by simp
        rw [hd, bq0]
        cases j with
        | zero => simp [isCut]
        | succ j =>
          simp only [isCut, List.getD_cons_succ]
          have e2 : (o != ((34 : Nat) == 34 && !false)) = !o := by cases o <;> rfl
          have e3 : (o != ((34 : Nat) == 34 && !true)) = o := by cases o <;> rfl
          rw [e2, e3, isCut_flip]
      · have hd : (!((c :: s).head? == some 34)) = true := by simp [hc]
        have hc' : (c == 34) = false := by simpa using hc
        rw [hd]
        have e2 : isCut o false (c :: s) j = isCut o true (c :: s) j := by
          cases j with
          | zero => rfl
          | succ j => simp only [isCut, hc']; simp
        rw [e2, bq1]
        cases h : isCut o true (c :: s) j with
        | false => simp
        | true => rw [isCut_59 _ _ _ _ h]; rfl
/-- what stands behind the mark -/
def behF (t : List Nat) (a : Nat) (d : Bool) (n : Nat) : List Nat := ((List.range n).filter fun j => t.getD (a + j) 0 == 59 && (isCut false false t (a + j) == d)).map (a + ·)
abbrev cp (t : List Nat) : List Nat := cpo false false 0 t
theorem cp_is (t : List Nat) : cp t = (List.range t.length).filter (isCut false false t) := by
  show cpo false false 0 t = _
  rw [cpo_is]
  have : (fun k => 0 + k) = (id : Nat → Nat) := by funext k; simp
  rw [this, List.map_id]
theorem getD_right (u r : List Nat) (j : Nat) : (u ++ r).getD (u.length + j) 0 = r.getD j 0 := by
  rw [List.getD_eq_getElem?_getD, List.getD_eq_getElem?_getD, List.getElem?_append_right (by omega), Nat.add_sub_cancel_left]
theorem range_parts (a b : Nat) : List.range (a + b) = List.range a ++ (List.range b).map (a + ·) := List.range_add
theorem cuts_mark (u r : List Nat) : cp (u ++ 34 :: r) = (cp (u ++ r)).filter (fun k => decide (k < u.length)) ++ (behF (u ++ r) u.length (deadL u r) r.length).map (· + 1) := by
  have hleft : ∀ (v : List Nat), (List.range u.length).filter (isCut false false (u ++ v)) = (List.range u.length).filter (isCut false false u) := fun v =>
    List.filter_congr fun j hj => by rw [isCut_left u v _ _ j (List.mem_range.mp hj)]
  have h1 : cp (u ++ 34 :: r) = (List.range u.length).filter (isCut false false u) ++ ((List.range r.length).filter fun j => isCut (stt false false u).1 (stt false false u).2 (34 :: r) (j + 1)).map fun j => u.length + (j + 1) := by
    rw [cp_is, List.length_append, List.length_cons, range_parts, List.filter_append, hleft]
    congr 1
    rw [List.filter_map, List.range_succ_eq_map, List.filter_cons]
    have h0 : (isCut false false (u ++ 34 :: r) ∘ fun x => u.length + x) 0 = false := by
      show isCut false false (u ++ 34 :: r) (u.length + 0) = false
      rw [isCut_right]
      simp [isCut]
    rw [h0, if_neg (by decide), List.filter_map, List.map_map]
    have h2 : ((isCut false false (u ++ 34 :: r) ∘ fun x => u.length + x) ∘ Nat.succ) = fun j => isCut (stt false false u).1 (stt false false u).2 (34 :: r) (j + 1) := by
      funext j
      show isCut false false (u ++ 34 :: r) (u.length + (j + 1)) = _
      rw [isCut_right]
    rw [h2]
    rfl
  have h3 : (cp (u ++ r)).filter (fun k => decide (k < u.length)) = (List.range u.length).filter (isCut false false u) := by
    rw [cp_is, List.length_append, range_parts, List.filter_append, List.filter_append, hleft]
    have h4 : ((List.range u.length).filter (isCut false false u)).filter (fun k => decide (k < u.length)) = (List.range u.length).filter (isCut false false u) :=
      List.filter_eq_self.mpr fun k hk => by simpa using (List.mem_filter.mp hk).1
    rw [h4]
    have h5 : (((List.range r.length).map (u.length + ·)).filter (isCut false false (u ++ r))).filter (fun k => decide (k < u.length)) = [] :=
      List.filter_eq_nil_iff.mpr fun k hk => by
        obtain ⟨j, _, rfl⟩ := List.mem_map.mp (List.mem_filter.mp hk).1
        simp
    rw [h5, List.append_nil]
  rw [h1, h3]
  congr 1
  unfold behF deadL
  rw [List.map_map]
  have h6 : (List.range r.length).filter (fun j => isCut (stt false false u).1 (stt false false u).2 (34 :: r) (j + 1)) = (List.range r.length).filter (fun j => (u ++ r).getD (u.length + j) 0 == 59 && (isCut false false (u ++ r) (u.length + j) == ((stt false false u).2 && !(r.head? == some 34)))) :=
    List.filter_congr fun j _ => by rw [isCut_mark, getD_right, isCut_right]
  rw [h6]
  rfl
end Mine

end
section
open PySem PySem.W PySem.Calls PyProof.Rows PySem.Builtin PySem.Builtin.Str
namespace Mine
theorem sorted_uniq : ∀ {a b : List Int}, a.Perm b → a.Pairwise (· ≤ ·) → b.Pairwise (· ≤ ·) → a = b
  | [], b, h, _, _ => by rw [List.nil_perm.mp h]
  | x :: a, [], h, _, _ => by have := h.length_eq; simp at this
  | x :: a, y :: b, h, h1, h2 => by
    have h3 := List.pairwise_cons.mp h1
    have h4 := List.pairwise_cons.mp h2
    have hy : y ∈ x :: a := h.mem_iff.mpr (.head _)
    have hx : x ∈ y :: b := h.mem_iff.mp (.head _)
    have hxy : x ≤ y := by
      rcases List.mem_cons.mp hy with e | hy
      · rw [e]; exact Int.le_refl _
      · exact h3.1 y hy
    have hyx : y ≤ x := by
      rcases List.mem_cons.mp hx with e | hx
      · rw [e]; exact Int.le_refl _
      · exact h4.1 x hx
    have e : x = y := Int.le_antisymm hxy hyx
    subst e
    rw [sorted_uniq (List.Perm.cons_inv h) h3.2 h4.2]
theorem sorted_cut (pl : Int) : ∀ {ths : List Int}, ths.Pairwise (· ≤ ·) → ths = ths.filter (fun k => decide (k < pl)) ++ ths.filter (fun k => !decide (k < pl))
  | [], _ => rfl
  | x :: r, h => by
    have h1 := List.pairwise_cons.mp h
    have ih := sorted_cut pl h1.2
    by_cases hx : x < pl
    · rw [List.filter_cons_of_pos (by simpa using hx), List.filter_cons_of_neg (by simpa using hx), List.cons_append, ← ih]
    · have e1 : r.filter (fun k => decide (k < pl)) = [] := List.filter_eq_nil_iff.mpr fun k hk => by
        have := h1.1 k hk
        simp; omega
      have e2 : r.filter (fun k => !decide (k < pl)) = r := List.filter_eq_self.mpr fun k hk => by
        have := h1.1 k hk
        simp; omega
      rw [List.filter_cons_of_neg (by simpa using hx), List.filter_cons_of_pos (by simpa using hx), e1, e2, List.nil_append]
theorem ins_sorted {ths ns : List Int} {pl : Int} (hs : ths.Pairwise (· ≤ ·)) (hp : ns.Perm (ths ++ [pl])) (hn : ns.Pairwise (· ≤ ·)) :
    ns = ths.take (ths.filter (fun k => decide (k < pl))).length ++ pl :: ths.drop (ths.filter (fun k => decide (k < pl))).length := by
  have e := sorted_cut pl hs
  have hA : ∀ k ∈ ths.filter (fun k => decide (k < pl)), k < pl := fun k hk => by simpa using (List.mem_filter.mp hk).2
  have hB : ∀ k ∈ ths.filter (fun k => !decide (k < pl)), pl ≤ k := fun k hk => by
    have := (List.mem_filter.mp hk).2
    simp at this; omega
  generalize ths.filter (fun k => decide (k < pl)) = A at e hA
  generalize ths.filter (fun k => !decide (k < pl)) = B at e hB
  subst e
  rw [List.take_left, List.drop_left]
  have hAB := List.pairwise_append.mp hs
  refine sorted_uniq (hp.trans ?_) hn ?_
  · rw [List.append_assoc]
    exact List.Perm.append_left A List.perm_append_comm
  · refine List.pairwise_append.mpr ⟨hAB.1, List.pairwise_cons.mpr ⟨hB, hAB.2.1⟩, fun x hx y hy => ?_⟩
    rcases List.mem_cons.mp hy with rfl | hy
    · exact Int.le_of_lt (hA x hx)
    · exact hAB.2.2 x hx y hy
def nqk (l : List Nat) (i : Nat) : List Int := toI ((List.range i).filter fun k => !(l.getD k 0 == 34))
theorem nqk_succ (l : List Nat) (i : Nat) : nqk l (i + 1) = nqk l i ++ (if (l.getD i 0 == 34) = true then [] else [((i : Nat) : Int)]) := by
  unfold nqk toI
  rw [List.range_succ, List.filter_append, List.map_append]
  congr 1
  cases h : l.getD i 0 == 34 with
  | true => rw [List.filter_cons_of_neg (by rw [h]; decide)]; rfl
  | false => rw [List.filter_cons_of_pos (by rw [h]; rfl)]; rfl
theorem range_sorted (n : Nat) (p : Nat → Bool) : (toI ((List.range n).filter p)).Pairwise (· ≤ ·) := by
  unfold toI
  refine List.pairwise_map.mpr ?_
  refine List.Pairwise.imp (R := fun a b => a < b) (fun h => by omega) ?_
  exact List.Pairwise.filter _ List.pairwise_lt_range
theorem part_perm {α : Type} (p : α → Bool) : ∀ l : List α, (l.filter (fun k => !p k) ++ l.filter p).Perm l
  | [] => .nil
  | x :: r => by
    have ih := part_perm p r
    cases h : p x with
    | true =>
      rw [List.filter_cons_of_neg (by rw [h]; decide), List.filter_cons_of_pos h]
      exact List.perm_middle.trans (ih.cons x)
    | false =>
      rw [List.filter_cons_of_pos (by rw [h]; rfl), List.filter_cons_of_neg (by rw [h]; decide)]
      exact ih.cons x
theorem all_perm (l : List Nat) : (nqk l l.length ++ qpk l l.length).Perm (toI (List.range l.length)) := by
  unfold nqk qpk toI
  rw [← List.map_append]
  exact (part_perm (fun k => l.getD k 0 == 34) (List.range l.length)).map _
/-- the text that the places tell -/
def tx (l : List Nat) (ths : List Int) : List Nat := ths.map fun k => l.getD k.toNat 0
theorem tx_all (l : List Nat) : tx l (toI (List.range l.length)) = l := by
  unfold tx toI
  rw [List.map_map]
  refine List.ext_getElem (by simp) fun i h1 h2 => ?_
  simp [List.getD_eq_getElem?_getD, h2]
theorem tx_mem {l : List Nat} (hA : ∀ c ∈ l, c ∈ A1) {ths : List Int} (h : ∀ k ∈ ths, 0 ≤ k ∧ k < l.length) : ∀ c ∈ tx l ths, c ∈ A1 := fun c hc => by
  obtain ⟨k, hk, rfl⟩ := List.mem_map.mp hc
  have := h k hk
  have hl : k.toNat < l.length := by omega
  apply hA
  rw [List.getD_eq_getElem?_getD, List.getElem?_eq_getElem hl]
  exact List.getElem_mem _
theorem nqk_mem {l : List Nat} {k : Int} (h : k ∈ nqk l l.length) : 0 ≤ k ∧ k < l.length ∧ l.getD k.toNat 0 ≠ 34 := by
  obtain ⟨j, hj, rfl⟩ := List.mem_map.mp h
  obtain ⟨h1, h2⟩ := List.mem_filter.mp hj
  have := List.mem_range.mp h1
  refine ⟨by omega, by omega, ?_⟩
  rw [Int.toNat_natCast]
  simpa using h2
theorem qpk_mem {l : List Nat} {k : Int} (h : k ∈ qpk l l.length) : 0 ≤ k ∧ k < l.length ∧ l.getD k.toNat 0 = 34 := by
  obtain ⟨j, hj, rfl⟩ := List.mem_map.mp h
  obtain ⟨h1, h2⟩ := List.mem_filter.mp hj
  have := List.mem_range.mp h1
  refine ⟨by omega, by omega, ?_⟩
  rw [Int.toNat_natCast]
  simpa using h2
theorem nq_no34 (l : List Nat) : 34 ∉ tx l (nqk l l.length) := fun h => by
  obtain ⟨k, hk, e⟩ := List.mem_map.mp h
  exact (nqk_mem hk).2.2 e
/-- what the loop keeps -/
structure TH (l : List Nat) (qs : List Int) (i : Nat) (ths : List Int) : Prop where
  perm : ths.Perm (nqk l l.length ++ qs.take i)
  sorted : ths.Pairwise (· ≤ ·)
theorem TH_start (l : List Nat) (qs : List Int) : TH l qs 0 (nqk l l.length) where
  perm := by rw [List.take_zero, List.append_nil]
  sorted := range_sorted _ _
theorem TH_mem {l : List Nat} {qs : List Int} {i : Nat} {ths : List Int} (hq : qs.Perm (qpk l l.length)) (h : TH l qs i ths) : ∀ k ∈ ths, 0 ≤ k ∧ k < l.length := fun k hk => by
  rcases List.mem_append.mp (h.perm.mem_iff.mp hk) with h1 | h1
  · have := nqk_mem h1; exact ⟨this.1, this.2.1⟩
  · have := qpk_mem (hq.mem_iff.mp (List.mem_of_mem_take h1)); exact ⟨this.1, this.2.1⟩
theorem TH_len {l : List Nat} {qs : List Int} {i : Nat} {ths : List Int} (hq : qs.Perm (qpk l l.length)) (h : TH l qs i ths) (hi : i < qs.length) : ths.length + 1 ≤ l.length := by
  have h1 := h.perm.length_eq
  have h2 := (all_perm l).length_eq
  have h3 := hq.length_eq
  unfold toI at h2
  simp only [List.length_append, List.length_take, List.length_map, List.length_range] at h1 h2
  omega
theorem TH_next {l : List Nat} {qs ths ns : List Int} {i : Nat} {pl : Int} (h : TH l qs i ths) (hi : qs[i]? = some pl) (hp : ns.Perm (ths ++ [pl])) (hn : ns.Pairwise (· ≤ ·)) : TH l qs (i + 1) ns where
  perm := by
    refine hp.trans ?_
    rw [List.take_add_one, hi, ← List.append_assoc]
    exact List.Perm.append_right _ h.perm
  sorted := hn
theorem TH_text {l : List Nat} {qs ths ns : List Int} {i : Nat} {pl : Int} (hq : qs.Perm (qpk l l.length)) (h : TH l qs i ths) (hi : qs[i]? = some pl) (hp : ns.Perm (ths ++ [pl])) (hn : ns.Pairwise (· ≤ ·)) :
    tx l ns = (tx l ths).take (ths.filter (fun k => decide (k < pl))).length ++ 34 :: (tx l ths).drop (ths.filter (fun k => decide (k < pl))).length := by
  have h34 := (qpk_mem (hq.mem_iff.mp (List.mem_of_getElem? hi))).2.2
  rw [ins_sorted h.sorted hp hn]
  generalize (ths.filter (fun k => decide (k < pl))).length = a
  unfold tx
  rw [List.map_append, List.map_cons, List.map_take, List.map_drop, h34]
theorem TH_end {l : List Nat} {qs ths : List Int} (hq : qs.Perm (qpk l l.length)) (h : TH l qs qs.length ths) : tx l ths = l := by
  have hp : ths.Perm (toI (List.range l.length)) := by
    refine h.perm.trans ?_
    rw [List.take_length]
    exact (List.Perm.append_left _ hq).trans (all_perm l)
  have hs : (toI (List.range l.length)).Pairwise (· ≤ ·) := by
    have := range_sorted l.length (fun _ => true)
    rwa [List.filter_eq_self.mpr (fun _ _ => rfl)] at this
  rw [sorted_uniq hp h.sorted hs, tx_all]
/- the words of the program -/
theorem last_is {x : Str} {a : Nat} (ha : a ≤ x.length) : (Txt.slice (Txt.slice x none (some (a : Int))) (some (-1)) none == Str.ofString "\\") = (stt false false ((lt x).take a)).2 := by
  have hn := len_lt x
  rw [sl_to ha]
  generalize hv : (lt x).take a = v
  have hva : v.length = a := by rw [← hv, List.length_take]; omega
  rcases List.eq_nil_or_concat v with rfl | ⟨w, c, rfl⟩
  · have h1 := Txt.slice_le (S []) (some (-1)) none
    have h2 : (Txt.slice (S []) (some (-1)) none).length ≤ 0 := by simpa [Str.length] using h1
    rw [beq_eq_false_iff_ne.mpr]
    · rfl
    · intro h3
      rw [h3] at h2
      exact absurd h2 (by decide)
  · rw [List.concat_eq_append, stt_snoc]
    have hyl : (S (w ++ [c])).cps.toList = w ++ [c] := by simp
    have hl : (S (w ++ [c])).length = w.length + 1 := by rw [len_S (w ++ [c])]; simp
    generalize S (w ++ [c]) = y at hyl hl
    have e0 : Txt.slice y (some (-1)) none = S [c] := by
      refine (StrLaws.sliceText_from_neg (x := y) (by omega) (by omega)).trans ?_
      have e3 : ((-1 : Int) + (y.length : Int)).toNat = w.length := by omega
      rw [e3, hyl, List.drop_left]
      rw [List.take_of_length_le (by simp; omega)]
    rw [e0, bs_str, one_eq]
theorem idx_end (n : Nat) : strSliceIndices (some (n : Int)) (some ((n : Int) + 1)) 1 n = strSliceIndices (some (n : Int)) (some (n : Int)) 1 n := by
  have a1 : ¬ ((n : Int) + 1 < 0) := by omega
  have a2 : ¬ ((n : Int) < 0) := by omega
  have e1 : max (0 : Int) (min ((n : Int) + 1) (n : Int)) = n := by omega
  have e2 : max (0 : Int) (min (n : Int) (n : Int)) = n := by omega
  simp [strSliceIndices, a1, a2, e1, e2]
theorem next_is {x : Str} {a : Nat} (ha : a ≤ x.length) : (Txt.slice x (some (a : Int)) (some ((a : Int) + 1)) != Str.ofString "\"") = !(((lt x).drop a).head? == some 34) := by
  have hn := len_lt x
  rcases Nat.lt_or_ge a x.length with h | h
  · have e : ((a : Int) + 1) = ((a + 1 : Nat) : Int) := by omega
    rw [e, slice_seg x (Nat.le_succ a) h, qm_str]
    have e2 : seg (lt x) a (a + 1) = [(lt x).getD a 0] := by
      unfold seg
      have h1 : a + 1 - a = 1 := by omega
      rw [h1, List.drop_eq_getElem_cons (by omega), List.take_succ_cons, List.take_zero]
      simp [List.getD_eq_getElem?_getD, hn, h]
    rw [e2, bne, one_eq, List.head?_drop, List.getElem?_eq_getElem (by omega)]
    have e3 : (lt x).getD a 0 = (lt x)[a]'(by omega) := by simp [List.getD_eq_getElem?_getD, hn, h]
    rw [e3]
    rfl
  · have e1 : (lt x).drop a = [] := List.drop_eq_nil_iff.mpr (by omega)
    have e0 : a = x.length := by omega
    have e2 : Txt.slice x (some (a : Int)) (some ((a : Int) + 1)) ≠ Str.ofString "\"" := by
      have e3 : Txt.slice x (some (a : Int)) (some ((a : Int) + 1)) = Txt.slice x (some (a : Int)) (some (a : Int)) := by
        show StrLaws.sliceText x _ _ = StrLaws.sliceText x _ _
        unfold StrLaws.sliceText
        rw [e0, idx_end]
      rw [e3, slice_seg x (Nat.le_refl a) ha, seg_nil, qm_str]
      decide
    rw [e1, bne, beq_eq_false_iff_ne.mpr e2]
    rfl
end Mine

end
section
open PySem PySem.W PySem.Calls PyProof.Rows PySem.Builtin PySem.Builtin.Str
namespace Mine
section
variable {prog : Program} {w : World} {A : Around} {E : Value → Shared → Prop} {s : Shared} {a b : Addr} {xs ys : List Value} {ns ms : List Str} {is js : List Int} {Q : Value → Shared → Prop} {h₀ : Heap} {L : Addr} {news : List (Addr × Obj)} {n k : Nat}
theorem ne_strsF (N : News h₀ L s.heap news) (ha : (a, ({ cls := .type "list", data := .seq xs.toArray n } : Obj)) ∈ news) (hb : (b, ({ cls := .type "list", data := .seq ys.toArray k } : Obj)) ∈ news) (hi : StrsAre xs ns) (hj : StrsAre ys ms) (oi : Ok ns) (oj : Ok ms) (hu : A.units + 64 < cLine) (e : ns = ms) (h : Q (.bool false) s) :
    wpAny (model prog w) A (compareOp .NotEq (.ref a) (.ref b)) Q E s :=
  ne_strs N ha hb hi hj oi oj hu (by rw [decide_eq_true e]; exact h)
theorem ne_intsF (N : News h₀ L s.heap news) (ha : (a, ({ cls := .type "list", data := .seq xs.toArray n } : Obj)) ∈ news) (hb : (b, ({ cls := .type "list", data := .seq ys.toArray k } : Obj)) ∈ news) (hi : IntsAre xs is) (hj : IntsAre ys js) (hu : A.units + 64 < cLine) (e : is = js) (h : Q (.bool false) s) :
    wpAny (model prog w) A (compareOp .NotEq (.ref a) (.ref b)) Q E s :=
  ke_ne_ints (isList_of N ha) (isList_of N hb) hi hj hu (by rw [decide_eq_true e]; exact h)
theorem eq_intsT (N : News h₀ L s.heap news) (ha : (a, ({ cls := .type "list", data := .seq xs.toArray n } : Obj)) ∈ news) (hb : (b, ({ cls := .type "list", data := .seq ys.toArray k } : Obj)) ∈ news) (hi : IntsAre xs is) (hj : IntsAre ys js) (hu : A.units + 64 < cLine) (e : is = js) (h : Q (.bool true) s) :
    wpAny (model prog w) A (compareOp .Eq (.ref a) (.ref b)) Q E s :=
  ke_eq_ints (isList_of N ha) (isList_of N hb) hi hj hu (by rw [decide_eq_true e]; exact h)
end
theorem fr_one {h₀ h : Heap} {L : Addr} {kindOf : Str → Option NameKind} {x : Str} {v : Value} (F : Fr h₀ L h (bindL kindOf [(x, v)] fun _ => none)) (hk : kindOf x = some .local) : Fr h₀ L h (fun y => if y = x then some v else none) := by
  have e : bindL kindOf [(x, v)] (fun _ => none) = fun y => if y = x then some v else none := by
    unfold bindL bindL
    rw [if_pos hk]
  rwa [e] at F
theorem cell_any {o : Obj} {v : Option Value} (h : o.data = .cell v) : ∃ v₀, o.data = .cell v₀ := ⟨_, h⟩
theorem sg_length {l : List Nat} : (sg l).length = l.length := List.length_map _
theorem pcs_plen : ∀ (l : List Nat) (o e : Bool), ∀ p ∈ pcs o e l, p.length ≤ l.length
  | [], _, _, p, hp => by simp [pcs] at hp; subst hp; simp
  | c :: r, o, e, p, hp => by
    unfold pcs at hp
    split at hp
    · rcases List.mem_cons.mp hp with rfl | hp
      · simp
      · have := pcs_plen r _ _ p hp; simp; omega
    · have ih := pcs_plen r (o != (c == 34 && !e)) (c == 92)
      split at hp
      · rename_i q qs hq
        rw [hq] at ih
        rcases List.mem_cons.mp hp with rfl | hp
        · have := ih q (.head _); simp; omega
        · have := ih p (.tail _ hp); simp; omega
      · cases hp
theorem cn_le : ∀ (l : List Nat) (o e : Bool), cn o e l ≤ l.length
  | [], _, _ => Nat.le_refl _
  | c :: r, o, e => by
    have := cn_le r (o != (c == 34 && !e)) (c == 92)
    unfold cn
    split <;> simp <;> omega
/-- a text of these signs, and what is told of it -/
structure RW (x : Str) : Prop where
  A : ∀ c ∈ lt x, c ∈ A1
  len : x.length ≤ 63
theorem RW.pl {x : Str} (h : RW x) : ∀ p ∈ parse x, p.length ≤ 63 := fun p hp => by
  rw [parse_raw h.A] at hp
  obtain ⟨q, hq, rfl⟩ := List.mem_map.mp hp
  have h1 := pcs_plen _ _ _ q hq
  rw [len_S q]
  have := len_lt x
  have := h.len
  omega
theorem RW.pl' {x : Str} (h : RW x) : ∀ p ∈ parse x, p.length ≤ 1000 := fun p hp => Nat.le_trans (h.pl p hp) (by decide)
theorem RW.pn {x : Str} (h : RW x) : (parse x).length ≤ 64 := by
  rw [parse_raw h.A, List.length_map, pcs_len]
  have h1 := cn_le (lt x) false false
  have := len_lt x
  have := h.len
  omega
theorem RW.ok {x : Str} (h : RW x) : Ok (parse x) := fun p hp c hc => by
  rw [parse_raw h.A] at hp
  obtain ⟨q, hq, rfl⟩ := List.mem_map.mp hp
  exact a1_max c (h.A c (pcs_mem _ _ _ q hq c (by simpa using hc)))
theorem sum_le_mul : ∀ {ps : List Str} {B : Nat}, (∀ p ∈ ps, p.length ≤ B) → (ps.map (·.length)).sum ≤ ps.length * B
  | [], _, _ => by simp
  | p :: r, B, h => by
    have h1 := h p (.head _)
    have h2 := sum_le_mul (ps := r) (B := B) fun q hq => h q (.tail _ hq)
    simp only [List.map_cons, List.sum_cons, List.length_cons, Nat.add_mul, Nat.one_mul]
    omega
theorem RW.size {x : Str} (h : RW x) : ((parse x).map (·.length)).sum + (parse x).length * (Str.ofString ";").length ≤ 16777216 := by
  have h1 := sum_le_mul h.pl
  have h2 := h.pn
  have h3 : (Str.ofString ";").length = 1 := by decide
  rw [h3]
  omega
theorem RW.cuts {x : Str} (h : RW x) : lc 0 (((parse x).take ((parse x).length - 1)).map (·.length)) = cp (lt x) := by
  show _ = cpo false false 0 (lt x)
  rw [← lc_pcs, parse_raw h.A, List.length_map, ← List.map_take, List.map_map]
  have e : ((fun y : Str => y.length) ∘ S) = fun p : List Nat => p.length := by
    funext p
    exact len_S p
  have e2 : ((·.length) ∘ S : List Nat → Nat) = fun p : List Nat => p.length := e
  rw [e2]
theorem RW.of_tx {l : List Nat} (hA : ∀ c ∈ l, c ∈ A1) {ths : List Int} (h : ∀ k ∈ ths, 0 ≤ k ∧ k < l.length) (hl : ths.length ≤ 63) : RW (S (tx l ths)) where
  A := fun c hc => tx_mem hA h c (by simpa using hc)
  len := by rw [len_S (tx l ths)]; unfold tx; rw [List.length_map]; exact hl
theorem nqk_len (l : List Nat) (i : Nat) : (nqk l i).length ≤ i := by
  unfold nqk toI
  rw [List.length_map]
  exact Nat.le_trans (List.length_filter_le _ _) (by simp)
theorem RW.start {l : List Nat} (hA : ∀ c ∈ l, c ∈ A1) (hl : l.length ≤ 63) : RW (S (tx l (nqk l l.length))) :=
  RW.of_tx hA (fun k hk => ⟨(nqk_mem hk).1, (nqk_mem hk).2.1⟩) (Nat.le_trans (nqk_len l l.length) hl)
theorem start_heads {l : List Nat} (hA : ∀ c ∈ l, c ∈ A1) (hl : l.length ≤ 63) : parse (S (tx l (nqk l l.length))) = heads (S (tx l (nqk l l.length))) :=
  (heads_parse (RW.start hA hl).A (by simpa using nq_no34 l)).symm
theorem join_sg (ys : List Nat) : Str.join (Str.ofString "") (sg ys) = S ys := join_signs ys
theorem sum_sg (ys : List Nat) : ((sg ys).map (·.length)).sum = ys.length := sum_signs ys
theorem sg_tx_snoc {l : List Nat} {pv : List Value} {ks : List Int} {i : Nat} {k : Int} {t : Tok} (h : StrsAre pv (sg (tx l (ks.take i)))) (hk : ks[i]? = some k) (h0 : 0 ≤ k) (h1 : k < l.length) : StrsAre (pv ++ [.str ((sg l).getD k.toNat Str.empty) t]) (sg (tx l (ks.take (i + 1)))) := by
  rw [sg_get (by omega)]
  unfold sg tx at *
  rw [List.take_add_one, hk, List.map_append, List.map_append]
  exact StrsAre.append' h (.cons _ _ .nil)
theorem take_filt_pos {ks : List Int} {p : Int → Bool} {i : Nat} {k : Int} (h : p k = true) (hk : ks[i]? = some k) : (ks.take (i + 1)).filter p = (ks.take i).filter p ++ [k] := by
  rw [List.take_add_one, hk, List.filter_append]
  simp [h]
theorem take_filt_neg {ks : List Int} {p : Int → Bool} {i : Nat} {k : Int} (h : p k = false) (hk : ks[i]? = some k) : (ks.take (i + 1)).filter p = (ks.take i).filter p := by
  rw [List.take_add_one, hk, List.filter_append]
  simp [h]
theorem any_cut {t : List Nat} {k : Nat} (hk : k < t.length) (z : Int) (hz : z = k) : ((toI (cp t)).any fun y => y == z) = isCut false false t k := by
  subst hz
  rw [Bool.eq_iff_iff, List.any_eq_true]
  unfold toI
  rw [cp_is]
  constructor
  · rintro ⟨y, hy, he⟩
    obtain ⟨j, hj, rfl⟩ := List.mem_map.mp hy
    have : j = k := by have := beq_iff_eq.mp he; omega
    subst this
    exact (List.mem_filter.mp hj).2
  · intro h
    exact ⟨(k : Int), List.mem_map.mpr ⟨k, List.mem_filter.mpr ⟨List.mem_range.mpr hk, h⟩, rfl⟩, by simp⟩
theorem behF_succ (t : List Nat) (a : Nat) (d : Bool) (i : Nat) : behF t a d (i + 1) = behF t a d i ++ (if (t.getD (a + i) 0 == 59 && (isCut false false t (a + i) == d)) = true then [a + i] else []) := by
  unfold behF
  rw [List.range_succ, List.filter_append, List.map_append]
  congr 1
  cases h : (t.getD (a + i) 0 == 59 && (isCut false false t (a + i) == d)) with
  | true => rw [List.filter_cons_of_pos (by rw [h])]; rfl
  | false => rw [List.filter_cons_of_neg (by rw [h]; decide)]; rfl
theorem item_59 {x : Str} {k : Nat} (hk : k < x.length) (z : Int) (hz : z = k) : (Txt.item x z == Str.ofString ";") = ((lt x).getD k 0 == 59) := by
  subst hz
  rw [item_meets ⟨by omega, by omega⟩, semi_str]
  have e : x.cps.getD (k : Int).toNat 0 = (lt x).getD k 0 := by rw [Int.toNat_natCast]; exact (getD_list x k).symm
  rw [e]
  exact one_eq _ _
theorem toI_app (u v : List Nat) : toI (u ++ v) = toI u ++ toI v := List.map_append
theorem beh_yes {x : Str} {a i : Nat} {d : Bool} (hi : a + i < x.length) (h1 : (Txt.item x ((a : Int) + (i : Int)) == Str.ofString ";") = true) (h2 : (((toI (cp (lt x))).any fun y => y == (a : Int) + (i : Int)) == d) = true) : toI (behF (lt x) a d (i + 1)) = toI (behF (lt x) a d i) ++ [(a : Int) + (i : Int)] := by
  have e : (a : Int) + (i : Int) = ((a + i : Nat) : Int) := by omega
  rw [item_59 hi _ e] at h1
  rw [any_cut (by rw [len_lt]; exact hi) _ e] at h2
  rw [behF_succ, h1, h2, toI_app, e]
  rfl
theorem beh_no2 {x : Str} {a i : Nat} {d : Bool} (hi : a + i < x.length) (h2 : (((toI (cp (lt x))).any fun y => y == (a : Int) + (i : Int)) == d) = false) : toI (behF (lt x) a d (i + 1)) = toI (behF (lt x) a d i) := by
  have e : (a : Int) + (i : Int) = ((a + i : Nat) : Int) := by omega
  rw [any_cut (by rw [len_lt]; exact hi) _ e] at h2
  rw [behF_succ, h2, Bool.and_false, if_neg (by decide), List.append_nil]
theorem beh_no1 {x : Str} {a i : Nat} {d : Bool} (hi : a + i < x.length) (h1 : (Txt.item x ((a : Int) + (i : Int)) == Str.ofString ";") = false) : toI (behF (lt x) a d (i + 1)) = toI (behF (lt x) a d i) := by
  have e : (a : Int) + (i : Int) = ((a + i : Nat) : Int) := by omega
  rw [item_59 hi _ e] at h1
  rw [behF_succ, h1, Bool.false_and, if_neg (by decide), List.append_nil]
theorem toI_filter (l : List Nat) (a : Nat) : (toI l).filter (fun k => decide (k < (a : Int))) = toI (l.filter fun k => decide (k < a)) := by
  unfold toI
  rw [List.filter_map]
  congr 1
  refine List.filter_congr fun k _ => ?_
  simp
theorem toI_succ (l : List Nat) : (toI l).map (fun k => k + 1) = toI (l.map (· + 1)) := by
  unfold toI
  rw [List.map_map, List.map_map]
  exact List.map_congr_left fun k _ => by simp
/-- the cuts behind a mark -/
theorem cuts_next {x : Str} {a : Nat} (ha : a ≤ x.length) : toI (cp ((lt x).take a ++ 34 :: (lt x).drop a)) = (toI (cp (lt x))).filter (fun k => decide (k < (a : Int))) ++ (toI (behF (lt x) a (deadL ((lt x).take a) ((lt x).drop a)) (x.length - a))).map (fun k => k + 1) := by
  have hn := len_lt x
  have hu : ((lt x).take a).length = a := by rw [List.length_take]; omega
  have hr : ((lt x).drop a).length = x.length - a := by rw [List.length_drop]; omega
  rw [cuts_mark, hu, hr, List.take_append_drop, toI_app, toI_filter, toI_succ]
theorem mark_text {x : Str} {a : Nat} (ha : a ≤ x.length) : Txt.slice x none (some (a : Int)) ++ Str.ofString "\"" ++ Txt.slice x (some (a : Int)) none = S ((lt x).take a ++ 34 :: (lt x).drop a) := by
  rw [sl_to ha, sl_from ha, qm_str, S_app, S_app, List.append_assoc]
  rfl
theorem cp_len (t : List Nat) : (toI (cp t)).length ≤ t.length := by
  unfold toI
  rw [cp_is, List.length_map]
  exact Nat.le_trans (List.length_filter_le _ _) (by simp)
theorem beh_len (t : List Nat) (a : Nat) (d : Bool) (n : Nat) : (toI (behF t a d n)).length ≤ n := by
  unfold toI behF
  rw [List.length_map, List.length_map]
  exact Nat.le_trans (List.length_filter_le _ _) (by simp)
theorem take_map1 {ks : List Int} {i : Nat} {k : Int} (hk : ks[i]? = some k) : ((ks.take (i + 1)).map fun k => k + 1) = ((ks.take i).map fun k => k + 1) ++ [k + 1] := by
  rw [List.take_add_one, hk, List.map_append]
  rfl
theorem take_len {ps : List Str} {i : Nat} {p : Str} (hp : ps[i]? = some p) : toI ((ps.take (i + 1)).map (·.length)) = toI ((ps.take i).map (·.length)) ++ [((p.length : Nat) : Int)] := by
  rw [List.take_add_one, hp, List.map_append, toI_app]
  rfl
end Mine

end
section
open PySem PySem.W PySem.Calls PyProof.Rows PySem.Builtin PySem.Builtin.Str
namespace Mine
local macro_rules | `(tactic| walk_at "call builtin:str.find") => `(tactic| (k_here; refine find3_c ?_; intro _ _))
local macro_rules | `(tactic| walk_at "call builtin:str.find") => `(tactic| (k_here; refine find4_c ?_; intro _ _))
local macro_rules | `(tactic| walk_at "call builtin:str.count") => `(tactic| (k_here; refine count4_c ?_; intro _ _))
local macro_rules | `(tactic| walk_at "binaryOp Add str str") => `(tactic| (k_here; k_dflt (refine add_c (by omega) ?_); intro _ _ _))
local macro_rules | `(tactic| walk_at "call builtin:str.strip") => `(tactic| (k_here; k_dflt (refine strip_c (by omega) ?_); intro _ _ _))
local macro_rules | `(tactic| walk_at "call builtin:str.rstrip") => `(tactic| (k_here; k_dflt (refine rstrip_c (by omega) ?_); intro _ _ _))
local macro_rules | `(tactic| walk_at "call builtin:str.lstrip") => `(tactic| (k_here; k_dflt (refine lstrip_c (by omega) ?_); intro _ _ _))
local macro_rules | `(tactic| walk_at "call builtin:str.lower") => `(tactic| (k_here; k_dflt (refine lower_c (by omega) ?_); intro _ _ _))
local macro_rules | `(tactic| walk_at "call builtin:list.append") => `(tactic| (k_here; k_dflt (refine' append_c ?k1 ?k2 ?k3 ?z ?_; (case k1 => k_asm); (case k2 => k_asm); (case k3 => k_upd); (case z => omega); k_whole); intro h' F' N'; (try k_sweep)))
local macro_rules | `(tactic| walk_at "WPost") => `(tactic| dsimp only [WPost])
local macro_rules | `(tactic| walk_at "FPost") => `(tactic| dsimp only [FPost])
local macro_rules | `(tactic| k_upd) => `(tactic| first | exact updHere (by assumption) | exact updOff (by assumption) | (refine' Upd.tail ?a ?b; (case a => k_ne); (case b => k_upd)))
local macro_rules | `(tactic| walk_at "storeName") => `(tactic| (k_here; k_dflt (refine st_int (by with_reducible assumption) (by with_reducible assumption) ?_); intro h' t' _ F' N'; (try k_sweep)))
local macro_rules | `(tactic| walk_at "storeName") => `(tactic| (k_here; k_dflt (refine st_str (by with_reducible assumption) (by with_reducible assumption) ?_); intro h' t' _ F' N'; (try k_sweep)))
local macro_rules | `(tactic| walk_at "exec While Compare cons nil") => `(tactic| refine Stop.out ?_)
local macro_rules | `(tactic| walk_at "pyIter ref") => `(tactic| refine Stop.out ?_)
local macro_rules | `(tactic| walk_at "exec For Name Name cons nil") => `(tactic| (k_here; (rename Fr _ _ _ _ => lF'); (with_unfolding_all refine' For_invVF lF' ?k1 ?k2 ?_; (case k1 => exact rfl); (case k2 => exact rfl); k_whole)))
local macro_rules | `(tactic| walk_at "FPostN") => `(tactic| dsimp only [FPostN])
local macro_rules | `(tactic| walk_at "call ref") => `(tactic| (k_here; k_dflt (refine' signs_c ?b1 ?b2 ?b3 ?b4 ?b5 ?b6 ?b7 ?b8 ?e0 ?e1 ?e2 ?_; (case b1 => k_asm); (case b2 => k_asm); (case b3 => k_asm); (case b4 => k_asm); (case b5 => k_asm); (case b6 => first | exact rfl | assumption); (case b7 => ktr_room); (case b8 => ktr_units); (case e0 => assumption); (case e1 => assumption); (case e2 => omega); k_whole); intro r' vs' n' h' tk' l' F' N' l1 hsl hll hlA; (try k_lt l1); (try dsimp only)))
local macro_rules | `(tactic| walk_at "call ref") => `(tactic| (k_here; k_dflt (refine' order_c ?b1 ?b2 ?b3 ?b4 ?b5 ?b6 ?b7 ?b8 ?e0 ?e1 ?e2 ?e3 ?e4 ?e5 ?_; (case b1 => k_asm); (case b2 => k_asm); (case b3 => k_asm); (case b4 => k_asm); (case b5 => k_asm); (case b6 => first | exact rfl | assumption); (case b7 => ktr_room); (case b8 => ktr_units); (case e0 => assumption); (case e1 => assumption); (case e2 => omega); (case e3 => k_mem); (case e4 => assumption); (case e5 => assumption); k_whole); intro r' vs' n' h' tk' qs' F' N' l1 hqi hqp; (try k_lt l1); (try dsimp only)))
local macro_rules | `(tactic| walk_at "call ref") => `(tactic| (k_here; k_dflt (refine' parse_c ?b1 ?b2 ?b3 ?b4 ?b5 ?b6 ?b7 ?b8 ?e0 ?_; (case b1 => k_asm); (case b2 => k_asm); (case b3 => k_asm); (case b4 => k_asm); (case b5 => k_asm); (case b6 => first | exact rfl | assumption); (case b7 => ktr_room); (case b8 => ktr_units); (case e0 => omega); k_whole); intro r' vs' n' h' tk' F' N' l1 hst hln; (try k_lt l1); (try dsimp only)))
local macro_rules | `(tactic| walk_at "call ref") => `(tactic| (k_here; k_dflt (refine' heads_c ?b1 ?b2 ?b3 ?b4 ?b5 ?b6 ?b7 ?b8 ?e0 ?_; (case b1 => k_asm); (case b2 => k_asm); (case b3 => k_asm); (case b4 => k_asm); (case b5 => k_asm); (case b6 => first | exact rfl | assumption); (case b7 => ktr_room); (case b8 => ktr_units); (case e0 => omega); k_whole); intro r' vs' n' h' tk' F' N' l1 hst hln; (try k_lt l1); (try dsimp only)))
local macro_rules | `(tactic| walk_at "call ref") => `(tactic| (k_here; k_dflt (refine' cuts_c ?b1 ?b2 ?b3 ?b4 ?b5 ?b6 ?b7 ?b8 ?e0 ?e1 ?e2 ?e3 ?_; (case b1 => k_asm); (case b2 => k_asm); (case b3 => k_asm); (case b4 => k_asm); (case b5 => k_asm); (case b6 => first | exact rfl | assumption); (case b7 => ktr_room); (case b8 => ktr_units); (case e0 => k_mem); (case e1 => assumption); (case e2 => omega); (case e3 => assumption); k_whole); intro r' vs' n' h' tk' F' N' l1 hci; (try k_lt l1); (try dsimp only)))
local macro_rules | `(tactic| walk_at "exec For Name Call cons nil") => `(tactic| (k_here; (rename Fr _ _ _ _ => lF'); (with_unfolding_all refine' For_invTF lF' ?_ ?zs; (case zs => (intro _; with_unfolding_all rfl)); k_whole)))
local macro_rules | `(tactic| walk_at "eval ListComp") => `(tactic| refine Stop.out ?_)
local macro_rules | `(tactic| walk_at "CompSrc") => `(tactic| refine Stop.out ?_)
local macro_rules | `(tactic| walk_at "CompSrcT") => `(tactic| refine Stop.out ?_)
local macro_rules | `(tactic| walk_at "CompSrcT ref") => `(tactic| refine Stop.out ?_)
local macro_rules | `(tactic| walk_at "compareOp Eq ref ref") => `(tactic| refine Stop.out ?_)
local macro_rules | `(tactic| walk_at "compareOp NotEq ref ref") => `(tactic| refine Stop.out ?_)
local macro_rules | `(tactic| walk_at "subscriptTail Name Name ref int") => `(tactic| (k_here; k_dflt (refine' item_c ?k1 ?k2 ?k3 ?k4 ?k5 ?k6 ?_ ?k7; (case k1 => k_asm); (case k2 => k_mem); (case k3 => assumption); (case k4 => omega); (case k5 => omega); (case k6 => omega); (case k7 => with_unfolding_all rfl); k_whole); intro t'))
local macro_rules | `(tactic| walk_at "exec Assign cons ListComp") => `(tactic| refine Stop.out ?_)
local macro_rules | `(tactic| walk_at "call builtin:len") => `(tactic| (k_here; (with_reducible show wpAny _ _ (call (Value.builtin "len") [Value.ref _]) _ _ _); k_dflt (refine' lenL_c ?k1 ?k2 ?z ?_; (case k1 => k_asm); (case k2 => k_mem); (case z => omega)); intro t' k'))
local macro_rules | `(tactic| k_all) => `(tactic| (with_reducible assumption))
local macro_rules | `(tactic| walk_at "call builtin:str.join") => `(tactic| refine Stop.out ?_)
structure LS where
  x : Str
  tx : Tok
  oT : Obj
  oC : Obj
  oP : Obj
  oA : Obj
  oD : Obj
  th : Addr
  tv : List Value
  tn : Nat
  cu : Addr
  cv : List Value
  cn : Nat
  to : Addr
  ov : List Value
  on : Nat
structure LP (l : List Nat) (qs : List Int) (i : Nat) (c : LS) : Prop where
  dT : c.oT.data = .cell (some (.str c.x c.tx))
  dC : c.oC.data = .cell (some (.ref c.cu))
  dP : ∃ v, c.oP.data = .cell v
  dA : ∃ v, c.oA.data = .cell v
  dD : ∃ v, c.oD.data = .cell v
  th : ∃ ths, TH l qs i ths ∧ IntsAre c.tv ths ∧ c.x = S (tx l ths)
  cv : IntsAre c.cv (toI (cp (lt c.x)))
  ov : StrsAre c.ov (parse c.x)
structure Far (z : Nat) (c : LS) : Prop where
  t2 : @Ne Nat (z + 1 + 1) c.th
  t3 : @Ne Nat (z + 1 + 1 + 1) c.th
  t4 : @Ne Nat (z + 1 + 1 + 1 + 1) c.th
  t5 : @Ne Nat (z + 1 + 1 + 1 + 1 + 1) c.th
  t6 : @Ne Nat (z + 1 + 1 + 1 + 1 + 1 + 1) c.th
  cu : @LT.lt Nat _ (z + 1 + 1 + 1 + 1 + 1 + 1) c.cu
  to : @LT.lt Nat _ (z + 1 + 1 + 1 + 1 + 1 + 1) c.to
theorem LP.plain {l : List Nat} {qs : List Int} {i : Nat} {c : LS} (h : LP l qs i c) (a b d e f : Addr) : ∀ p ∈ ([(a, c.oT), (b, c.oC), (d, c.oP), (e, c.oA), (f, c.oD), (c.th, listOf c.tv.toArray c.tn), (c.cu, listOf c.cv.toArray c.cn), (c.to, listOf c.ov.toArray c.on)] : List (Addr × Obj)), plainD p.2 = true := by
  obtain ⟨vP, hP⟩ := h.dP
  obtain ⟨vA, hA⟩ := h.dA
  obtain ⟨vD, hD⟩ := h.dD
  have hT := h.dT
  have hC := h.dC
  intro p hp
  simp only [List.mem_cons, List.not_mem_nil, or_false] at hp
  rcases hp with rfl | rfl | rfl | rfl | rfl | rfl | rfl | rfl <;> simp [plainD, *]
local macro_rules | `(tactic| walk_at "binaryOp Add ref ref") => `(tactic| refine Stop.out ?_)
local macro_rules | `(tactic| walk_at "call builtin:sorted") => `(tactic| refine Stop.out ?_)
theorem lt2 {d : Addr} {a b : Addr × Obj} {l : List (Addr × Obj)} (h : ∀ p ∈ a :: b :: l, p.1 < d) : ∀ p ∈ l, p.1 < d := fun p hp => h p (.tail _ (.tail _ hp))
theorem drop2 {α : Type} {a b c : α} {l m : List α} (h : m = a :: b :: c :: l) : ∀ p ∈ a :: l, p ∈ m := fun p hp => by
  subst h
  rcases List.mem_cons.mp hp with rfl | hp
  · exact .head _
  · exact .tail _ (.tail _ (.tail _ hp))
theorem lt3 {d : Addr} {a b c : Addr × Obj} {l : List (Addr × Obj)} (h : ∀ p ∈ a :: b :: c :: l, p.1 < d) : ∀ p ∈ l, p.1 < d := fun p hp => h p (.tail _ (.tail _ (.tail _ hp)))
theorem drop3 {α : Type} {a b c d : α} {l m : List α} (h : m = a :: b :: c :: d :: l) : ∀ p ∈ a :: l, p ∈ m := fun p hp => by
  subst h
  rcases List.mem_cons.mp hp with rfl | hp
  · exact .head _
  · exact .tail _ (.tail _ (.tail _ (.tail _ hp)))
section
variable {M : Model} {A : Around} {E : Value → Shared → Prop} {t : Sem Value} {Q : Value → Shared → Prop} {hp : Heap} {gs : Array GenState} {dr : Drawn} {tk : Nat} {os : OsState} {h₀ : Heap} {L : Addr} {m : Str → Option Value} {news : List (Addr × Obj)}
structure BEnd (h₀ : Heap) (L : Addr) (m : Str → Option Value) (news : List (Addr × Obj)) (gs : Array GenState) (dr : Drawn) (os : OsState) (d b : Bool) (s' : Shared) : Prop where
  e : b = d
  s : ∃ h' tk', s' = ⟨h', gs, dr, tk', os⟩ ∧ Fr h₀ L h' m ∧ News h₀ L h' news
def BoolTo (P : Bool → Shared → Prop) (v : Value) (s' : Shared) : Prop := match v with
  | .bool b => P b s'
  | _ => False
theorem join_bool {d : Bool} (_F : Fr h₀ L hp m) (_N : News h₀ L hp news) (h : wpAny M A t (BoolTo (BEnd h₀ L m news gs dr os d)) E ⟨hp, gs, dr, tk, os⟩)
    (k : ∀ h' tk', Fr h₀ L h' m → News h₀ L h' news → Q (.bool d) ⟨h', gs, dr, tk', os⟩) : wpAny M A t Q E ⟨hp, gs, dr, tk, os⟩ :=
  wpAny_mono h (fun v s' hq => by
    cases v with
    | bool b =>
      obtain ⟨rfl, h', tk', rfl, F', N'⟩ := hq
      exact k h' tk' F' N'
    | _ => exact hq.elim) fun _ _ e => e
end
local macro_rules | `(tactic| walk_at "eval BoolOp") => `(tactic| ((fail_if_success (with_reducible show wpAny _ _ _ (BoolTo _) _ _)); refine Stop.out ?_))
local macro_rules | `(tactic| walk_at "BoolTo") => `(tactic| dsimp only [BoolTo])
set_option maxRecDepth 100000 in
set_option maxHeartbeats 40000000 in
theorem X : PySem.Challenge.rw_at0001_01.Holds := hd (by
  k_go0
  (all_goals try k_fold)
  rename Shared => s1
  rename Fr _ _ _ _ => F0
  have F1 := fr_one F0 (by rfl)
  clear F0
  rename (Obj.data _ = Data.cell _) => c6
  replace c6 := cell_any c6
  rename (Obj.data _ = Data.cell _) => c5
  replace c5 := cell_any c5
  rename (Obj.data _ = Data.cell _) => c4
  replace c4 := cell_any c4
  rename (Obj.data _ = Data.cell _) => c3
  replace c3 := cell_any c3
  rename (Obj.data _ = Data.cell _) => c2
  replace c2 := cell_any c2
  rename (Obj.data _ = Data.cell _) => c1
  replace c1 := cell_any c1
  rename CellsAre _ _ _ => XX
  clear XX
  obtain ⟨q1, c1⟩ := c1
  obtain ⟨q2, c2⟩ := c2
  obtain ⟨q3, c3⟩ := c3
  obtain ⟨q4, c4⟩ := c4
  obtain ⟨q5, c5⟩ := c5
  obtain ⟨q6, c6⟩ := c6
  w_top off
  dsimp only at F1
  dsimp only
  rename IntsAre _ _ => hI
  have hnl := IntsAre.length hI
  rename (¬ _ < _) => hc63
  k_steps
  refine ⟨?_⟩
  rename StrsAre _ _ => hsl
  rename (∀ c ∈ _, c ∈ A1) => hlA
  rename (List.length _ = List.length _) => hll
  rename (Obj.data _ = Data.cell (some _)) => dS
  rename Fr _ _ _ _ => F2
  rename News _ _ _ _ => N2
  rename (_ < _ ∧ _ < _ ∧ _ < _ ∧ _ < _ ∧ _ < _ ∧ _ < _) => l6
  rename_i oD oA oP oC oT _ _ lg gv gn _ _ l _ oS
  have hgl := StrsAre.len_eq hsl
  rw [sg_length] at hgl
  have hl63 : l.length ≤ 63 := by omega
  have hsgl : (sg l).length = l.length := sg_length
  refine LCt.Assign_ListComp_T (F₀ := by k_asm) (by rfl) (by with_unfolding_all rfl) (by with_unfolding_all rfl) (by decide) (by rfl) (by decide) (by rfl) (by rfl) (by rfl) ?_
  k_steps
  refine ⟨?_⟩
  rename (IsRange _ _ _ _ _ _ _ _) => hR
  rename Fr _ _ _ _ => F2
  rename News _ _ _ _ => N2
  refine LCt.CompSrcT.range rfl F2 N2 hR (small_one (by omega) (by omega) (by omega) (by omega)) (n := l.length) (by rw [rangeSize_nat]; omega) (by rw [sizeLine_eq]; omega) (fun g => my_restT (fun i ys => IntsAre ys (nqk l i)) trivial .nil ?t1 ?f1)
  case t1 =>
    clear F2 N2
    rintro i v ys I oI C oC D m₂ h tk E' hi' ⟨tv, rfl⟩ hJ hl' hC hxv F3 N3 off ne
    (try k_fold)
    k_steps
    · rename ((_ != _) = true) => ht
      refine ⟨?_, _, _, _, rfl, by assumption, by assumption, fun p hp => hp⟩
      rw [Int.zero_add] at ht ⊢
      rw [Int.toNat_natCast, sg_get hi', qm_str, bne, one_eq] at ht
      rw [nqk_succ]
      cases h34 : l.getD i 0 == 34 with
      | true => rw [h34] at ht; cases ht
      | false => exact IntsAre.append hJ (.cons _ _ .nil)
    · rename ((_ != _) = false) => ht
      refine ⟨?_, _, _, _, rfl, by assumption, by assumption, fun p hp => hp⟩
      rw [Int.zero_add, Int.toNat_natCast, sg_get hi', qm_str, bne, one_eq] at ht
      rw [nqk_succ]
      cases h34 : l.getD i 0 == 34 with
      | true => rw [if_pos rfl, List.append_nil]; exact hJ
      | false => rw [h34] at ht; cases ht
  case f1 =>
    intro ys hJ hlen
    k_steps
    refine ⟨?_⟩
    refine LCg.ListComp_U (F₀ := by k_asm) (by with_unfolding_all rfl) (by decide) (by rfl) (by decide) (by rfl) ?_
    k_steps
    refine ⟨?_⟩
    rename Fr _ _ _ _ => F2
    rename News _ _ _ _ => N2
    rename_i lth _ _ oth
    have hthl := IntsAre.length hJ
    have hnq := nqk_len l l.length
    have hRW := RW.start hlA hl63
    have hHD := start_heads hlA hl63
    have hJh : Hd (IntsAre ys (nqk l l.length)) := ⟨hJ⟩
    clear hJ
    refine LCg.CompSrc.ledger rfl F2 N2 (.head _) (by rw [sizeLine_eq, List.size_toArray]; omega) (fun g => my_rest (fun i ys => StrsAre ys (sg (tx l ((nqk l l.length).take i)))) (.inr ⟨_, .head _, rfl, _, rfl⟩) .nil ?t2 ?f2)
    case t2 =>
      clear F2 N2
      rintro i v ys I oI C oC D m₂ h tk E' hi' hv hJ hl' hC hxv F3 N3 off ne
      have hz := IntsAre.at hJh.out i v (by simpa using hv)
      obtain ⟨n, tn, rfl, hn'⟩ := hz
      have hnm := nqk_mem (List.mem_of_getElem? hn')
      have hn0 := hnm.1
      have hn1 := hnm.2.1
      clear hnm
      (try k_fold)
      k_steps
      exact ⟨sg_tx_snoc hJ hn' hn0 hn1, _, _, _, rfl, by assumption, by assumption, fun p hp => hp⟩
    case f2 =>
      intro zs hJ2 hlen2
      rw [List.size_toArray, hthl, List.take_length] at hJ2
      have hJ2l := StrsAre.len_eq hJ2
      k_steps
      refine ⟨?_⟩
      have h3 : (Str.ofString "").length = 0 := by decide
      have hsz : (tx l (nqk l l.length)).length ≤ 63 := by unfold tx; rw [List.length_map]; omega
      have hje := join_sg (tx l (nqk l l.length))
      have hss := sum_sg (tx l (nqk l l.length))
      have hx0 : ∃ x0, S (tx l (nqk l l.length)) = x0 := ⟨_, rfl⟩
      obtain ⟨x0, hx0⟩ := hx0
      rw [hx0] at hRW hHD hje
      have hx0h : Hd (S (tx l (nqk l l.length)) = x0) := ⟨hx0⟩
      have hx0l := hRW.len
      have hpn0 := hRW.pn
      have hpl0 := hRW.pl'
      have hok0 := hRW.ok
      have hsz0 := hRW.size
      have hjn0 := parse_join hRW.A
      have hct0 := hRW.cuts
      rename News _ _ _ _ => N3
      refine join_cE N3 (.head _) hJ2 (by rw [hss, h3]; omega) hje ?_
      clear hJ2
      intro tx0 kx0
      k_steps
      refine ⟨?_⟩
      rename StrsAre _ (parse x0) => hpv
      rename StrsAre _ (heads x0) => hhv
      rename News _ _ _ _ => N4
      rename Fr _ _ _ _ => F4
      rename_i ozs _ oT2 dT2 _ lto tov ton _ _ hln1 lto1 _ _ _ _ _ _ _ _ hln2 lhd1
      refine ne_strsF N4 (.tail _ (.head _)) (.head _) hpv hhv hok0 (hHD ▸ hok0) ?u1 hHD ?_
      case u1 => first | ktr_units | decide
      k_steps
      refine ⟨?_⟩
      rename News _ _ _ _ => N5
      refine join_cE N5 (.tail _ (.head _)) hpv hsz0 hjn0 ?_
      intro tj kj
      k_steps
      refine ⟨?_⟩
      rename Fr _ _ _ _ => F6
      rename News _ _ _ _ => N6
      rename IntsAre _ _ => hqi
      rename IntsAre _ (toI _) => hci
      rename List.Perm _ _ => hqp
      rename_i lcu cuv cun _ _ lcu1 _ oC2 _ _ dC2 lqs qv qn _ _ qs lqs1
      rw [hct0] at hci
      have hpvh : Hd (StrsAre tov (parse x0)) := ⟨hpv⟩
      have hcih : Hd (IntsAre cuv (toI (cp (lt x0)))) := ⟨hci⟩
      clear hpv hhv hci
      refine' my_forC (σ := LS) (fun c => [(s1.heap.objs.size + 1 + 1, c.oT), (s1.heap.objs.size + 1 + 1 + 1, c.oC), (s1.heap.objs.size + 1 + 1 + 1 + 1, c.oP), (s1.heap.objs.size + 1 + 1 + 1 + 1 + 1, c.oA), (s1.heap.objs.size + 1 + 1 + 1 + 1 + 1 + 1, c.oD), (c.th, listOf c.tv.toArray c.tn), (c.cu, listOf c.cv.toArray c.cn), (c.to, listOf c.ov.toArray c.on)]) [(lqs, listOf qv.toArray qn), (s1.heap.objs.size + 1, oS), (lg, listOf gv.toArray gn)] (fun c => [(Str.ofString "there", Value.ref c.th), (Str.ofString "told", Value.ref c.to)]) (fun i c => LP l qs i c ∧ Far (s1.heap.objs.size) c) ⟨x0, tx0, oT2, oC2, oP, oA, oD, lth, ys, ys.length, lcu, cuv, cun, lto, tov, ton⟩ rfl (isList_of N6 (.head _)) (N6 _ (.head _)).2.1 ?hcl F6 ?n0 ?k1 ?k2 ?turn ?done rfl
      case hcl => exact fun i c hP => hP.1.plain _ _ _ _ _
      case n0 => exact cb_drop N6 (fun p hp => by
        simp only [List.cons_append, List.nil_append, List.mem_cons, List.not_mem_nil, or_false] at hp ⊢
        rcases hp with rfl | rfl | rfl | rfl | rfl | rfl | rfl | rfl | rfl | rfl | rfl <;> simp)
      case k1 => kst_all
      case k2 => exact ⟨⟨dT2, dC2, ⟨_, c3⟩, ⟨_, c2⟩, ⟨_, c1⟩, ⟨_, TH_start l qs, hJh.out, hx0h.out.symm⟩, hcih.out, hpvh.out⟩, by constructor <;> (dsimp only; omega)⟩
      case turn =>
        clear F6 N6 oth lto1 lhd1 lcu1 ozs hln1 hln2 hsz hss hje hHD hRW hx0 hx0h hx0l hpn0 hpl0 hok0 hsz0 hjn0 hct0 hJ2l hlen2 hthl hnq hlen dT2 dC2 hpvh hcih hJh c1 c2 c3 c4 c5 c6
        rintro i v ⟨x1, tx1, oT, oC, oP, oA, oD, th, tv, tn, cu, cv, cn', to', ov, on'⟩ u ⟨h, gs', dr', tk, os'⟩ own hv ⟨hP, hF⟩ hoff F6 N6
        dsimp only at F6 N6
        simp only [List.nil_append, List.cons_append] at N6
        have hz := IntsAre.at hqi i v hv
        obtain ⟨pl, tpl, rfl, hpl⟩ := hz
        have hz := hP.th
        obtain ⟨ths, hTH, hths, hxe⟩ := hz
        have hT := hP.dT
        have hC := hP.dC
        have hz := hP.dP
        obtain ⟨vP, hPd⟩ := hz
        have hz := hP.dA
        obtain ⟨vA, hAd⟩ := hz
        have hz := hP.dD
        obtain ⟨vD, hDd⟩ := hz
        have hcvh : Hd (IntsAre cv (toI (cp (lt x1)))) := ⟨hP.cv⟩
        have hthh : Hd (IntsAre tv ths) := ⟨hths⟩
        have f2 := hF.t2
        have f3 := hF.t3
        have f4 := hF.t4
        have f5 := hF.t5
        have f6 := hF.t6
        have f7 := hF.cu
        have f8 := hF.to
        dsimp only at hT hC hPd hAd hDd f2 f3 f4 f5 f6 f7 f8 hxe hths
        clear hF hP
        have hiq : i < qs.length := (List.getElem?_eq_some_iff.mp hpl).1
        have hthn := TH_len hqp hTH hiq
        have hRW1 : RW x1 := hxe ▸ RW.of_tx hlA (TH_mem hqp hTH) (by omega)
        have hx1l := hRW1.len
        have htl := IntsAre.length hths
        clear hths
        have hw2 : ∀ p ∈ own, p.1 ≠ s1.heap.objs.size + 1 + 1 := hoff (s1.heap.objs.size + 1 + 1, oT) (by simp) (show @Ne Nat (s1.heap.objs.size + 1 + 1) lqs by omega)
        have hw3 : ∀ p ∈ own, p.1 ≠ s1.heap.objs.size + 1 + 1 + 1 := hoff (s1.heap.objs.size + 1 + 1 + 1, oC) (by simp) (show @Ne Nat (s1.heap.objs.size + 1 + 1 + 1) lqs by omega)
        have hw4 : ∀ p ∈ own, p.1 ≠ s1.heap.objs.size + 1 + 1 + 1 + 1 := hoff (s1.heap.objs.size + 1 + 1 + 1 + 1, oP) (by simp) (show @Ne Nat (s1.heap.objs.size + 1 + 1 + 1 + 1) lqs by omega)
        have hw5 : ∀ p ∈ own, p.1 ≠ s1.heap.objs.size + 1 + 1 + 1 + 1 + 1 := hoff (s1.heap.objs.size + 1 + 1 + 1 + 1 + 1, oA) (by simp) (show @Ne Nat (s1.heap.objs.size + 1 + 1 + 1 + 1 + 1) lqs by omega)
        have hw6 : ∀ p ∈ own, p.1 ≠ s1.heap.objs.size + 1 + 1 + 1 + 1 + 1 + 1 := hoff (s1.heap.objs.size + 1 + 1 + 1 + 1 + 1 + 1, oD) (by simp) (show @Ne Nat (s1.heap.objs.size + 1 + 1 + 1 + 1 + 1 + 1) lqs by omega)
        clear hoff
        (try k_fold)
        k_steps
        refine ⟨?_⟩
        refine LCt.ListComp_T (F₀ := by k_asm) (by with_unfolding_all rfl) (by decide) (by rfl) (by decide) (by rfl) ?_
        k_steps
        refine ⟨?_⟩
        rename Fr _ _ _ _ => F7
        rename News _ _ _ _ => N7
        refine LCt.CompSrcT.ledger rfl F7 N7 (.tail _ (.tail _ (.tail _ (.tail _ (.tail _ (.head _)))))) (by rw [sizeLine_eq, List.size_toArray]; omega) (fun g => my_restT (fun i ys => IntsAre ys ((ths.take i).filter fun k => decide (k < pl))) (.inr ⟨_, .tail _ (.tail _ (.tail _ (.tail _ (.tail _ (.head _))))), rfl, _, rfl⟩) .nil ?tq3 ?fq3)
        case tq3 =>
          clear F7 N7
          rintro i v ys I oI C oC D m₂ h tk E' hi' hv hJ hl' hC hxv F8 N8 off ne
          have hz := IntsAre.at hthh.out i v (by simpa using hv)
          obtain ⟨k, tk9, rfl, hk⟩ := hz
          (try k_fold)
          k_steps
          · rename (k < pl) => hlt
            exact ⟨by rw [take_filt_pos (by simpa using hlt) hk]; exact IntsAre.append hJ (.cons _ _ .nil), _, _, _, rfl, by assumption, by assumption, fun p hp => hp⟩
          · rename (¬ k < pl) => hlt
            exact ⟨by rw [take_filt_neg (by simpa using hlt) hk]; exact hJ, _, _, _, rfl, by assumption, by assumption, fun p hp => hp⟩
        case fq3 =>
          intro ys3 hJ3 hlen3
          rw [List.size_toArray, htl, List.take_length] at hJ3
          have hl3 := IntsAre.length hJ3
          rw [List.size_toArray] at hlen3
          have hx1t : x1.length = ths.length := by rw [hxe, len_S (tx l ths)]; unfold tx; rw [List.length_map]
          have ha3 : ys3.length ≤ x1.length := by
            have := List.length_filter_le (fun k => decide (k < pl)) ths
            omega
          k_steps
          refine ⟨?_⟩
          rename (Obj.data _ = Data.cell (some (Value.int _ _))) => dA
          rename (_ ≠ _ ∧ _) => ox
          rename Fr _ _ _ _ => F8
          rename News _ _ _ _ => N8
          have hdd : ∃ dd, deadL ((lt x1).take ys3.length) ((lt x1).drop ys3.length) = dd := ⟨_, rfl⟩
          obtain ⟨dd, hdd⟩ := hdd
          refine join_bool (d := dd) F8 N8 ?_ ?_
          · k_steps
            · rename ((_ == _) = true) => hlast
              exact ⟨by rw [next_is ha3, ← hdd]; unfold deadL; rw [← last_is ha3, hlast, Bool.true_and], _, _, rfl, by assumption, by assumption⟩
            · rename ((_ == _) = false) => hlast
              exact ⟨by rw [← hdd]; unfold deadL; rw [← last_is ha3, hlast, Bool.false_and], _, _, rfl, by assumption, by assumption⟩
          · clear F8 N8
            intro h8' tk8' F8 N8
            k_steps
            rename (Obj.data _ = Data.cell (some (Value.bool _))) => dD
            clear ox
            rename News _ _ _ _ => N8
            replace N8 := cb_drop N8 fun p hp => .tail _ hp
            refine ⟨?_⟩
            refine LCt.Assign_ListComp_T (F₀ := by k_asm) (by rfl) (by with_unfolding_all rfl) (by with_unfolding_all rfl) (by decide) (by rfl) (by decide) (by rfl) (by rfl) (by rfl) ?_
            k_steps
            refine ⟨?_⟩
            rename (IsRange _ _ _ _ _ _ _ _) => hR2
            rename Fr _ _ _ _ => F9
            rename News _ _ _ _ => N9
            rw [← hl3] at hR2
            refine LCt.CompSrcT.range rfl F9 N9 hR2 (small_one (by omega) (by omega) (by omega) (by omega)) (n := x1.length - ys3.length) (by rw [rangeSize_nat]; omega) (by rw [sizeLine_eq]; omega) (fun g => my_restT (fun i ys => IntsAre ys (toI (behF (lt x1) ys3.length dd i))) trivial .nil ?_ ?_)
            · clear F9 N9
              rintro i v ys I oI C oC Dd m₂ h tk E' hi' ⟨tv', rfl⟩ hJ hl' hC' hxv F8 N8 off ne
              have hJh5 : Hd (IntsAre ys (toI (behF (lt x1) ys3.length dd i))) := ⟨hJ⟩
              have hcv5 := hcvh.out
              clear hJ
              (try k_fold)
              k_steps
              · rename ((Txt.item _ _ == _) = true) => hq1
                rename ((List.any _ _ == dd) = true) => hq2
                exact ⟨by rw [beh_yes (by omega) hq1 hq2]; exact IntsAre.append hJh5.out (.cons _ _ .nil), _, _, _, rfl, by assumption, by assumption, fun p hp => hp⟩
              · rename ((List.any _ _ == dd) = false) => hq2
                exact ⟨by rw [beh_no2 (by omega) hq2]; exact hJh5.out, _, _, _, rfl, by assumption, by assumption, fun p hp => hp⟩
              · rename ((Txt.item _ _ == _) = false) => hq1
                exact ⟨by rw [beh_no1 (by omega) hq1]; exact hJh5.out, _, _, _, rfl, by assumption, by assumption, fun p hp => hp⟩
            · intro ys4 hJ4 hlen4
              have hJ4h : Hd (IntsAre ys4 _) := ⟨hJ4⟩
              have hJ4l := IntsAre.length hJ4
              clear hJ4
              have hcvl := IntsAre.length hcvh.out
              have hcpl := cp_len (lt x1)
              rw [len_lt] at hcpl
              k_steps
              refine ⟨?_⟩
              rename (_ ≠ _ ∧ _) => ox
              clear ox
              refine LCt.ListComp_T (F₀ := by k_asm) (by with_unfolding_all rfl) (by decide) (by rfl) (by decide) (by rfl) ?_
              k_steps
              refine ⟨?_⟩
              rename Fr _ _ _ _ => F10
              rename News _ _ _ _ => N10
              refine LCt.CompSrcT.ledger rfl F10 N10 (.tail _ (.tail _ (.tail _ (.tail _ (.tail _ (.tail _ (.tail _ (.head _)))))))) (by rw [sizeLine_eq, List.size_toArray]; omega) (fun g => my_restT (fun i ys => IntsAre ys (((toI (cp (lt x1))).take i).filter fun k => decide (k < (ys3.length : Int)))) (.inr ⟨_, .tail _ (.tail _ (.tail _ (.tail _ (.tail _ (.tail _ (.tail _ (.head _))))))), rfl, _, rfl⟩) .nil ?_ ?_)
              · clear F10 N10
                rintro i v ys I oI C oC Dd m₂ h tk E' hi' hv hJ hl' hC' hxv F8 N8 off ne
                have hz := IntsAre.at hcvh.out i v (by simpa using hv)
                obtain ⟨k, tk9, rfl, hk⟩ := hz
                (try k_fold)
                k_steps
                · rename (k < _) => hlt
                  exact ⟨by rw [take_filt_pos (by simpa using hlt) hk]; exact IntsAre.append hJ (.cons _ _ .nil), _, _, _, rfl, by assumption, by assumption, fun p hp => hp⟩
                · rename (¬ k < _) => hlt
                  exact ⟨by rw [take_filt_neg (by simpa using hlt) hk]; exact hJ, _, _, _, rfl, by assumption, by assumption, fun p hp => hp⟩
              · intro ys5 hJ5 hlen5
                rw [List.size_toArray, hcvl, List.take_length] at hJ5
                have hJ5h : Hd (IntsAre ys5 _) := ⟨hJ5⟩
                clear hJ5
                k_steps
                refine ⟨?_⟩
                rename (_ ≠ _ ∧ _) => ox
                clear ox
                refine LCg.ListComp_U (F₀ := by k_asm) (by with_unfolding_all rfl) (by decide) (by rfl) (by decide) (by rfl) ?_
                k_steps
                refine ⟨?_⟩
                rename Fr _ _ _ _ => F11
                rename News _ _ _ _ => N11
                have hb4 := beh_len (lt x1) ys3.length dd (x1.length - ys3.length)
                refine LCg.CompSrc.ledger rfl F11 N11 (.tail _ (.head _)) (by rw [sizeLine_eq, List.size_toArray]; omega) (fun g => my_rest (fun i ys => IntsAre ys (((toI (behF (lt x1) ys3.length dd (x1.length - ys3.length))).take i).map fun k => k + 1)) (.inr ⟨_, .tail _ (.head _), rfl, _, rfl⟩) .nil ?_ ?_)
                · clear F11 N11
                  rintro i v ys I oI C oC Dd m₂ h tk E' hi' hv hJ hl' hC' hxv F8 N8 off ne
                  have hz := IntsAre.at hJ4h.out i v (by simpa using hv)
                  obtain ⟨k, tk9, rfl, hk⟩ := hz
                  (try k_fold)
                  k_steps
                  exact ⟨by rw [take_map1 hk]; exact IntsAre.append hJ (.cons _ _ .nil), _, _, _, rfl, by assumption, by assumption, fun p hp => hp⟩
                · intro ys6 hJ6 hlen6
                  rw [List.size_toArray, hJ4l, List.take_length] at hJ6
                  k_steps
                  refine ⟨?_⟩
                  rename (_ ≠ _ ∧ _) => ox
                  clear ox
                  rename Fr _ _ _ _ => F12
                  rename News _ _ _ _ => N12
                  have hJ6l := IntsAre.length hJ6
                  rw [List.length_map] at hJ6l
                  have hJ5l := IntsAre.length hJ5h.out
                  have hfl := List.length_filter_le (fun k => decide (k < (ys3.length : Int))) (toI (cp (lt x1)))
                  refine addL_c F12 N12 (.tail _ (.head _)) (.head _) (by omega) ?_
                  have hcu2 := IntsAre.append hJ5h.out hJ6
                  rw [← hdd, ← cuts_next ha3] at hcu2
                  have hcu2h : Hd (IntsAre _ _) := ⟨hcu2⟩
                  clear F12 N12 hJ6 hcu2
                  intro cu2 h2' F12 N12 lcu2
                  replace lcu2 := lt3 lcu2
                  replace N12 := cb_drop N12 (drop3 rfl)
                  k_lt lcu2
                  k_steps
                  refine ⟨?_⟩
                  rename (Obj.data _ = Data.cell (some (Value.str _ _))) => dT'
                  rename (Obj.data _ = Data.cell (some (Value.ref cu2))) => dC'
                  rename (Obj.data _ = Data.cell (some (Value.int pl _))) => dP'
                  rename Fr _ _ _ _ => F13
                  rename News _ _ _ _ => N13
                  refine addL_c (us := [.int pl tpl]) F13 N13 (.tail _ (.tail _ (.tail _ (.tail _ (.tail _ (.tail _ (.tail _ (.head _)))))))) (.head _) (by simp only [List.length_cons, List.length_nil]; omega) ?_
                  have hti : IntsAre (tv ++ [.int pl tpl]) (ths ++ [pl]) := IntsAre.append hthh.out (.cons _ _ .nil)
                  have htih : Hd (IntsAre (tv ++ [.int pl tpl]) (ths ++ [pl])) := ⟨hti⟩
                  clear F13 N13 hti
                  intro th1 h3' F13 N13 lth1
                  clear lth1
                  k_steps
                  refine ⟨?_⟩
                  rename Fr _ _ _ _ => F14
                  rename News _ _ _ _ => N14
                  refine kso_sorted F14 N14 (isList_of N14 (.head _)) htih.out (by simp only [List.length_append, List.length_cons, List.length_nil]; omega) ?_
                  clear F14 N14
                  intro th2 tv2 ns2 tn2 h4' F14 N14 lth2 hi2 he2 hp2 ho2 hb2
                  clear hb2
                  replace lth2 := lt2 lth2
                  replace N14 := cb_drop N14 (drop2 rfl)
                  k_lt lth2
                  rw [List.length_append] at he2
                  simp only [List.length_cons, List.length_nil] at he2
                  have hi2h : Hd (IntsAre tv2 ns2) := ⟨hi2⟩
                  clear hi2
                  have hTH2 := TH_next hTH hpl hp2 ho2
                  have hx2t : (lt x1).take ys3.length ++ 34 :: (lt x1).drop ys3.length = tx l ns2 := by
                    rw [TH_text hqp hTH hpl hp2 ho2, ← hl3, hxe]
                  have hmt := mark_text ha3
                  rw [hx2t] at hmt
                  have hx2 : ∃ x2, S (tx l ns2) = x2 := ⟨_, rfl⟩
                  obtain ⟨x2, hx2⟩ := hx2
                  rw [hmt, hx2] at dT'
                  have hRW2 : RW x2 := hx2 ▸ RW.of_tx hlA (TH_mem hqp hTH2) (by omega)
                  have hx2c : lt x2 = tx l ns2 := by rw [← hx2]
                  have hx2h : Hd (x2 = S (tx l ns2)) := ⟨hx2.symm⟩
                  have hcu3 := hcu2h.out
                  rw [hx2t, ← hx2c] at hcu3
                  have hcu3h : Hd (IntsAre (ys5 ++ ys6) (toI (cp (lt x2)))) := ⟨hcu3⟩
                  clear hcu3 hmt hx2 hx2c hx2t
                  have hx2l := hRW2.len
                  have hpn2 := hRW2.pn
                  have hpl2 := hRW2.pl'
                  have hsz2 := hRW2.size
                  have hjn2 := parse_join hRW2.A
                  have hct2 := hRW2.cuts
                  k_steps
                  refine ⟨?_⟩
                  rename StrsAre _ (parse x2) => hpv2
                  rename News _ _ _ _ => N15
                  have hpv2h : Hd (StrsAre _ (parse x2)) := ⟨hpv2⟩
                  refine join_cE N15 (.head _) hpv2 hsz2 hjn2 ?_
                  intro tj kj
                  k_steps
                  refine ⟨?_⟩
                  rename IntsAre _ _ => hci2
                  rename News _ _ _ _ => N16
                  refine ne_intsF N16 (.head _) (.tail _ (.tail _ (.tail _ (.head _)))) hci2 hcu3h.out ?_ (by rw [hct2]) ?_
                  · first | ktr_units | decide
                  · k_steps
                    rename Fr _ _ _ _ => F17
                    rename News _ _ _ _ => N17
                    rename_i lto2 tov2 ton2 _ _ _ _ _ _ _ _ _ _ _ _ _
                    refine ⟨⟨x2, _, _, _, _, _, _, th2, tv2, tn2, cu2, ys5 ++ ys6, 0, lto2, tov2, ton2⟩, _, _, _, _, rfl, F17, N17, fun p hp => ?_, ?_, ⟨dT', dC', ⟨_, dP'⟩, ⟨_, dA⟩, ⟨_, dD⟩, ⟨ns2, hTH2, hi2h.out, hx2h.out⟩, hcu3h.out, hpv2h.out⟩, ?_⟩
                    · dsimp only at hp
                      simp only [List.cons_append, List.nil_append, List.mem_cons] at hp ⊢
                      rcases hp with rfl | rfl | rfl | rfl | rfl | rfl | rfl | rfl | rfl | rfl | rfl | hp <;> simp [*]
                    · kst_all
                    · constructor <;> (dsimp only; omega)
      case done =>
        clear F6 N6 oth lto1 lhd1 lcu1 ozs hln1 hln2 hsz hss hje hHD hRW hx0 hx0h hx0l hpn0 hpl0 hok0 hsz0 hjn0 hct0 hJ2l hlen2 hthl hnq hlen dT2 dC2 hpvh hcih hJh c1 c2 c3 c4 c5 c6
        rintro ⟨x1, tx1, oT, oC, oP, oA, oD, th, tv, tn, cu, cv, cn', to', ov, on'⟩ u h tk ⟨hP, hF⟩ F6 N6
        dsimp only at F6 N6
        simp only [List.nil_append, List.cons_append] at N6
        have hz := hP.th
        obtain ⟨ths, hTH, hths, hxe⟩ := hz
        have hqn := IntsAre.length hqi
        rw [hqn] at hTH
        have hov := hP.ov
        dsimp only at hxe hov
        rw [TH_end hqp hTH] at hxe
        have hxl : ∃ xl, S l = xl := ⟨_, rfl⟩
        obtain ⟨xl, hxl⟩ := hxl
        have hRWl : RW xl := hxl ▸ ⟨fun c hc => hlA c (by simpa using hc), by rw [len_S l]; exact hl63⟩
        rw [hxe, hxl] at hov
        have hovh : Hd (StrsAre ov (parse xl)) := ⟨hov⟩
        have hovl := StrsAre.len_eq hov
        have hje := join_sg l
        have hss := sum_sg l
        rw [hxl] at hje
        have hxll := hRWl.len
        have hpnl := hRWl.pn
        have hpll := hRWl.pl'
        have h3 : (Str.ofString "").length = 0 := by decide
        clear hF hP hths hov hxe hxl hTH
        (try k_fold)
        k_steps
        refine ⟨?_⟩
        refine LCg.ListComp_U (F₀ := by k_asm) (by with_unfolding_all rfl) (by decide) (by rfl) (by decide) (by rfl) ?_
        k_steps
        refine ⟨?_⟩
        rename News _ _ _ _ => N7
        refine join_cE N7 (.tail _ (.tail _ (.tail _ (.tail _ (.tail _ (.tail _ (.tail _ (.tail _ (.tail _ (.tail _ (.head _))))))))))) hsl (by rw [hss, h3]; omega) hje ?_
        intro tj kj
        k_steps
        refine ⟨?_⟩
        rename Fr _ _ _ _ => F8
        rename News _ _ _ _ => N8
        rename StrsAre _ (parse xl) => hpv
        have hpvl := StrsAre.len_eq hpv
        have hpvh : Hd (StrsAre _ (parse xl)) := ⟨hpv⟩
        clear hpv
        refine LCg.CompSrc.ledger rfl F8 N8 (.head _) (by rw [sizeLine_eq, List.size_toArray]; omega) (fun g => my_rest (fun i ys => IntsAre ys (toI (((parse xl).take i).map (·.length)))) (.inr ⟨_, .head _, rfl, _, rfl⟩) .nil ?_ ?_)
        · clear F8 N8
          rintro i v ys I oI C oC Dd m₂ h tk E' hi' hv hJ hl' hC' hxv F9 N9 off ne
          have hz := strs_get hpvh.out (by simpa using hv)
          obtain ⟨p, tp, rfl, hp⟩ := hz
          have hpb := hpll p (List.mem_of_getElem? hp)
          (try k_fold)
          k_steps
          exact ⟨by rw [take_len hp]; exact IntsAre.append hJ (.cons _ _ .nil), _, _, _, rfl, by assumption, by assumption, fun p hp => hp⟩
        · intro ys1 hJ1 hlen1
          rw [List.size_toArray, hpvl, List.take_length] at hJ1
          have hJ1h : Hd (IntsAre ys1 _) := ⟨hJ1⟩
          clear hJ1
          k_steps
          refine ⟨?_⟩
          refine LCg.ListComp_U (F₀ := by k_asm) (by with_unfolding_all rfl) (by decide) (by rfl) (by decide) (by rfl) ?_
          k_steps
          refine ⟨?_⟩
          rename Fr _ _ _ _ => F10
          rename News _ _ _ _ => N10
          refine LCg.CompSrc.ledger rfl F10 N10 (.tail _ (.tail _ (.tail _ (.tail _ (.tail _ (.tail _ (.tail _ (.tail _ (.tail _ (.head _)))))))))) (by rw [sizeLine_eq, List.size_toArray]; omega) (fun g => my_rest (fun i ys => IntsAre ys (toI (((parse xl).take i).map (·.length)))) (.inr ⟨_, .tail _ (.tail _ (.tail _ (.tail _ (.tail _ (.tail _ (.tail _ (.tail _ (.tail _ (.head _))))))))), rfl, _, rfl⟩) .nil ?_ ?_)
          · clear F10 N10
            rintro i v ys I oI C oC Dd m₂ h tk E' hi' hv hJ hl' hC' hxv F9 N9 off ne
            have hz := strs_get hovh.out (by simpa using hv)
            obtain ⟨p, tp, rfl, hp⟩ := hz
            have hpb := hpll p (List.mem_of_getElem? hp)
            (try k_fold)
            k_steps
            exact ⟨by rw [take_len hp]; exact IntsAre.append hJ (.cons _ _ .nil), _, _, _, rfl, by assumption, by assumption, fun p hp => hp⟩
          · intro ys2 hJ2 hlen2
            rw [List.size_toArray, hovl, List.take_length] at hJ2
            k_steps
            refine ⟨?_⟩
            rename News _ _ _ _ => N11
            refine eq_intsT N11 (.tail _ (.head _)) (.head _) hJ1h.out hJ2 ?_ rfl ?_
            · first | ktr_units | decide
            · k_steps
              all_goals wrow_close)
end Mine

end
theorem PySem.Challenge.cw_at0001_01_holds : PySem.Challenge.rw_at0001_01.Holds := by
  exact Mine.X
