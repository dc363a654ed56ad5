import PyProof.Rows.All
import Wide.All
import OpenK.AllK
import Wide.FinOn
import PySem.Challenge.RW_qb0002_01
set_option Elab.async false

-- part T0
section
open PySem PySem.W PyProof.Rows
namespace Mine
set_option maxRecDepth 100000 in
set_option maxHeartbeats 8000000 in
open_top hd for PySem.Challenge.rw_qb0002_01
end Mine
end

-- part G1
section
namespace Mine
namespace G

inductive R (E : Nat → List Nat) : Nat → Nat → Prop
  | refl (x : Nat) : R E x x
  | step {x y z : Nat} : y ∈ E x → R E y z → R E x z

theorem R.trans {E : Nat → List Nat} {x y z : Nat} (h : R E x y) (h' : R E y z) : R E x z := by
  induction h with
  | refl => exact h'
  | step hy _ ih => exact .step hy (ih h')

theorem R.one {E : Nat → List Nat} {x y : Nat} (h : y ∈ E x) : R E x y := .step h (.refl _)

theorem R.closed {E : Nat → List Nat} {p : Nat → Prop} (hp : ∀ u, p u → ∀ v ∈ E u, p v) {x y : Nat} (h : R E x y) (hx : p x) : p y := by
  induction h with
  | refl => exact hx
  | step hy _ ih => exact ih (hp _ hx _ hy)

/- the walk that enters a name not met yet -/
def walked (E : Nat → List Nat) : Nat → Nat → List Nat → Option (List Nat)
  | 0, _, _ => none
  | f + 1, x, met => if x ∈ met then some met else (E x).foldlM (fun m y => walked E f y m) (met ++ [x])

theorem walked_succ (E : Nat → List Nat) (f x : Nat) (met : List Nat) :
    walked E (f + 1) x met = if x ∈ met then some met else (E x).foldlM (fun m y => walked E f y m) (met ++ [x]) := by
  rw [walked]

structure WSpec (E : Nat → List Nat) (src : Nat → Prop) (met met' : List Nat) : Prop where
  pre : met <+: met'
  nodup : met.Nodup → met'.Nodup
  from_ : ∀ z ∈ met', z ∈ met ∨ src z
  closed : ∀ z ∈ met', z ∉ met → ∀ u ∈ E z, u ∈ met'

theorem foldW {E : Nat → List Nat} {f : Nat} (ih : ∀ x met met', walked E f x met = some met' → x ∈ met' ∧ WSpec E (R E x) met met') :
    ∀ (l : List Nat) (m m' : List Nat), l.foldlM (fun m y => walked E f y m) m = some m' →
      (∀ y ∈ l, y ∈ m') ∧ WSpec E (fun z => ∃ y ∈ l, R E y z) m m' := by
  intro l
  induction l with
  | nil =>
    intro m m' h
    have e : m = m' := by simpa using h
    subst e
    exact ⟨by simp, ⟨List.prefix_refl _, id, fun z hz => .inl hz, fun z hz hn => absurd hz hn⟩⟩
  | cons y l ihl =>
    intro m m' h
    rw [List.foldlM_cons] at h
    cases e : walked E f y m with
    | none => rw [e] at h; cases h
    | some m1 =>
      rw [e] at h
      obtain ⟨a1, a2⟩ := ih y m m1 e
      obtain ⟨b1, b2⟩ := ihl m1 m' h
      refine ⟨?_, ⟨a2.pre.trans b2.pre, fun hn => b2.nodup (a2.nodup hn), ?_, ?_⟩⟩
      · intro z hz
        rcases List.mem_cons.mp hz with rfl | hz
        · exact b2.pre.subset a1
        · exact b1 z hz
      · intro z hz
        rcases b2.from_ z hz with h1 | ⟨w, hw, hr⟩
        · rcases a2.from_ z h1 with h2 | h2
          · exact .inl h2
          · exact .inr ⟨y, List.mem_cons_self, h2⟩
        · exact .inr ⟨w, List.mem_cons_of_mem _ hw, hr⟩
      · intro z hz hn u hu
        by_cases h1 : z ∈ m1
        · exact b2.pre.subset (a2.closed z h1 hn u hu)
        · exact b2.closed z hz h1 u hu

theorem walked_spec {E : Nat → List Nat} : ∀ (f x : Nat) (met met' : List Nat), walked E f x met = some met' → x ∈ met' ∧ WSpec E (R E x) met met' := by
  intro f
  induction f with
  | zero => intro x met met' h; simp [walked] at h
  | succ f ih =>
    intro x met met' h
    rw [walked_succ] at h
    by_cases hx : x ∈ met
    · rw [if_pos hx] at h
      cases h
      exact ⟨hx, ⟨List.prefix_refl _, id, fun z hz => .inl hz, fun z hz hn => absurd hz hn⟩⟩
    · rw [if_neg hx] at h
      obtain ⟨b1, b2⟩ := foldW ih (E x) _ _ h
      have hx' : x ∈ met' := b2.pre.subset (by simp)
      refine ⟨hx', ⟨(List.prefix_append _ _).trans b2.pre, fun hn => b2.nodup ?_, ?_, ?_⟩⟩
      · rw [List.nodup_append]
        refine ⟨hn, by simp, ?_⟩
        intro a ha b hb e
        have : b = x := by simpa using hb
        subst this; subst e; exact hx ha
      · intro z hz
        rcases b2.from_ z hz with h1 | ⟨y, hy, hr⟩
        · rcases List.mem_append.mp h1 with h2 | h2
          · exact .inl h2
          · have : z = x := by simpa using h2
            subst this; exact .inr (.refl _)
        · exact .inr (.step hy hr)
      · intro z hz hn u hu
        by_cases h1 : z = x
        · subst h1; exact b1 u hu
        · exact b2.closed z hz (by simp [hn, h1]) u hu

theorem foldlM_mono {α β : Type} {F G : β → α → Option β} (h : ∀ b a b', F b a = some b' → G b a = some b') :
    ∀ (l : List α) (b b' : β), l.foldlM F b = some b' → l.foldlM G b = some b' := by
  intro l
  induction l with
  | nil => intro b b' e; simpa using e
  | cons a l ih =>
    intro b b' e
    rw [List.foldlM_cons] at e ⊢
    cases e1 : F b a with
    | none => rw [e1] at e; cases e
    | some b1 => rw [e1] at e; rw [h _ _ _ e1]; exact ih _ _ e

theorem walked_mono1 {E : Nat → List Nat} : ∀ (f x : Nat) (met met' : List Nat), walked E f x met = some met' → walked E (f + 1) x met = some met' := by
  intro f
  induction f with
  | zero => intro x met met' h; simp [walked] at h
  | succ f ih =>
    intro x met met' h
    rw [walked_succ] at h ⊢
    by_cases hx : x ∈ met
    · rw [if_pos hx] at h ⊢; exact h
    · rw [if_neg hx] at h ⊢
      exact foldlM_mono (fun b a b' e => ih a b b' e) _ _ _ h

theorem walked_mono {E : Nat → List Nat} {f g x : Nat} {met met' : List Nat} (h : walked E f x met = some met') (hfg : f ≤ g) : walked E g x met = some met' := by
  induction hfg with
  | refl => exact h
  | step _ ih => exact walked_mono1 _ _ _ _ ih

theorem walked_det {E : Nat → List Nat} {f g x : Nat} {met a b : List Nat} (h : walked E f x met = some a) (h' : walked E g x met = some b) : a = b := by
  have h1 := walked_mono h (Nat.le_max_left f g)
  have h2 := walked_mono h' (Nat.le_max_right f g)
  rw [h1] at h2; exact Option.some.inj h2

/- how many of the names are not met yet -/
def unv (n : Nat) (met : List Nat) : Nat := ((List.range n).filter fun i => decide (i ∉ met)).length

theorem filter_length_le_of {α : Type} {p q : α → Bool} : ∀ {l : List α}, (∀ x ∈ l, p x = true → q x = true) → (l.filter p).length ≤ (l.filter q).length
  | [], _ => by simp
  | x :: l, h => by
    have ih := filter_length_le_of (l := l) (p := p) (q := q) fun y hy => h y (List.mem_cons_of_mem _ hy)
    have hx := h x List.mem_cons_self
    simp only [List.filter_cons]
    cases hp : p x <;> cases hq : q x <;> simp <;> first | lia | (rw [hp] at hx; simp [hq] at hx)

theorem filter_length_lt_of {α : Type} {p q : α → Bool} {x : α} : ∀ {l : List α}, x ∈ l → p x = false → q x = true → (∀ y ∈ l, p y = true → q y = true) → (l.filter p).length < (l.filter q).length
  | y :: l, hx, hp, hq, h => by
    have hl := filter_length_le_of (l := l) (p := p) (q := q) fun z hz => h z (List.mem_cons_of_mem _ hz)
    simp only [List.filter_cons]
    rcases List.mem_cons.mp hx with rfl | hx
    · simp [hp, hq]; lia
    · have ih := filter_length_lt_of hx hp hq fun z hz => h z (List.mem_cons_of_mem _ hz)
      have hy := h y List.mem_cons_self
      cases hp' : p y <;> cases hq' : q y <;> simp <;> first | lia | (rw [hp'] at hy; simp [hq'] at hy)

theorem unv_le {n : Nat} {met met' : List Nat} (h : ∀ x ∈ met, x ∈ met') : unv n met' ≤ unv n met :=
  filter_length_le_of fun x _ hx => by
    simp only [decide_eq_true_eq] at hx ⊢
    exact fun hm => hx (h x hm)

theorem unv_lt {n x : Nat} {met : List Nat} (hn : x < n) (hx : x ∉ met) : unv n (met ++ [x]) < unv n met :=
  filter_length_lt_of (x := x) (List.mem_range.mpr hn) (by simp) (by simpa using hx) fun y _ hy => by
    simp only [decide_eq_true_eq, List.mem_append, not_or] at hy ⊢
    exact hy.1

theorem unv_nil (n : Nat) : unv n [] = n := by unfold unv; rw [List.filter_eq_self.mpr (by simp)]; simp

theorem walked_some {E : Nat → List Nat} {n : Nat} (hE : ∀ x, x < n → ∀ y ∈ E x, y < n) : ∀ (f x : Nat) (met : List Nat), x < n → unv n met < f → ∃ met', walked E f x met = some met' := by
  intro f
  induction f with
  | zero => intro x met _ h; lia
  | succ f ih =>
    intro x met hx h
    rw [walked_succ]
    by_cases hm : x ∈ met
    · exact ⟨met, by rw [if_pos hm]⟩
    · rw [if_neg hm]
      have hf : unv n (met ++ [x]) < f := by have := unv_lt hx hm; lia
      have fold : ∀ (l : List Nat) (m : List Nat), (∀ y ∈ l, y < n) → unv n m < f → ∃ m', l.foldlM (fun m y => walked E f y m) m = some m' := by
        intro l
        induction l with
        | nil => intro m _ _; exact ⟨m, rfl⟩
        | cons y l ihl =>
          intro m hl hm
          obtain ⟨m1, e1⟩ := ih y m (hl y List.mem_cons_self) hm
          have := unv_le (n := n) (walked_spec _ _ _ _ e1).2.pre.subset
          obtain ⟨m2, e2⟩ := ihl m1 (fun z hz => hl z (List.mem_cons_of_mem _ hz)) (by lia)
          exact ⟨m2, by rw [List.foldlM_cons, e1]; exact e2⟩
      exact fold _ _ (hE x hx) hf

/- a walk over names told one by one -/
theorem walks_some {E : Nat → List Nat} {n : Nat} (hE : ∀ x, x < n → ∀ y ∈ E x, y < n) {f : Nat} (hf : n < f) : ∀ (l : List Nat) (m : List Nat), (∀ y ∈ l, y < n) → ∃ m', l.foldlM (fun m y => walked E f y m) m = some m' := by
  intro l
  induction l with
  | nil => intro m _; exact ⟨m, rfl⟩
  | cons y l ihl =>
    intro m hl
    have hu : unv n m ≤ n := by have := unv_le (n := n) (met := []) (met' := m) (by simp); rwa [unv_nil] at this
    obtain ⟨m1, e1⟩ := walked_some hE f y m (hl y List.mem_cons_self) (by lia)
    obtain ⟨m2, e2⟩ := ihl m1 (fun z hz => hl z (List.mem_cons_of_mem _ hz))
    exact ⟨m2, by rw [List.foldlM_cons, e1]; exact e2⟩

theorem walks_spec {E : Nat → List Nat} {f : Nat} {l m m' : List Nat} (h : l.foldlM (fun m y => walked E f y m) m = some m') :
    (∀ y ∈ l, y ∈ m') ∧ WSpec E (fun z => ∃ y ∈ l, R E y z) m m' := foldW (fun x met met' => walked_spec f x met met') l m m' h

/- what a walk from nothing meets: just what is reached -/
theorem walked_nil_iff {E : Nat → List Nat} {f x : Nat} {m : List Nat} (h : walked E f x [] = some m) (z : Nat) : z ∈ m ↔ R E x z := by
  obtain ⟨hx, w⟩ := walked_spec f x [] m h
  refine ⟨fun hz => (w.from_ z hz).resolve_left (by simp), fun hz => ?_⟩
  exact R.closed (p := fun z => z ∈ m) (fun u hu v hv => w.closed u hu (by simp) v hv) hz hx
end G
end Mine
end

-- part G2
section
namespace Mine
namespace G

/- what is new of B goes behind A -/
def mrg {α : Type} [DecidableEq α] (A B : List α) : List α := B.foldl (fun acc a => if a ∈ acc then acc else acc ++ [a]) A
def once {α : Type} [DecidableEq α] (B : List α) : List α := mrg [] B

section
variable {α : Type} [DecidableEq α]
@[simp] theorem mrg_nil (A : List α) : mrg A [] = A := rfl
theorem mrg_cons (A : List α) (b : α) (B : List α) : mrg A (b :: B) = mrg (if b ∈ A then A else A ++ [b]) B := rfl
theorem mrg_append (A B C : List α) : mrg A (B ++ C) = mrg (mrg A B) C := List.foldl_append ..
theorem once_append (B C : List α) : once (B ++ C) = mrg (once B) C := mrg_append ..

theorem mem_mrg {A B : List α} {x : α} : x ∈ mrg A B ↔ x ∈ A ∨ x ∈ B := by
  induction B generalizing A with
  | nil => simp
  | cons b B ih =>
    rw [mrg_cons, ih]
    by_cases h : b ∈ A
    · rw [if_pos h]; simp only [List.mem_cons]; constructor
      · rintro (h1 | h1); exact .inl h1; exact .inr (.inr h1)
      · rintro (h1 | rfl | h1); exact .inl h1; exact .inl h; exact .inr h1
    · rw [if_neg h]; simp only [List.mem_cons, List.mem_append, List.not_mem_nil, or_false]; constructor
      · rintro ((h1 | h1) | h1); exact .inl h1; exact .inr (.inl h1); exact .inr (.inr h1)
      · rintro (h1 | h1 | h1); exact .inl (.inl h1); exact .inl (.inr h1); exact .inr h1
theorem mem_once {B : List α} {x : α} : x ∈ once B ↔ x ∈ B := by unfold once; rw [mem_mrg]; simp

theorem mrg_sub {A B : List α} (h : ∀ x ∈ B, x ∈ A) : mrg A B = A := by
  induction B generalizing A with
  | nil => rfl
  | cons b B ih =>
    rw [mrg_cons, if_pos (h b List.mem_cons_self)]
    exact ih fun x hx => h x (List.mem_cons_of_mem _ hx)

theorem nodup_snoc {A : List α} {b : α} (hA : A.Nodup) (hb : b ∉ A) : (A ++ [b]).Nodup := by
  rw [List.nodup_append]
  refine ⟨hA, by simp, ?_⟩
  intro a ha c hc e
  have : c = b := by simpa using hc
  subst this; subst e; exact hb ha

theorem mrg_nodup {A B : List α} (hA : A.Nodup) : (mrg A B).Nodup := by
  induction B generalizing A with
  | nil => exact hA
  | cons b B ih =>
    rw [mrg_cons]
    by_cases h : b ∈ A
    · rw [if_pos h]; exact ih hA
    · rw [if_neg h]; exact ih (nodup_snoc hA h)
theorem mrg_pre (A B : List α) : A <+: mrg A B := by
  induction B generalizing A with
  | nil => exact List.prefix_refl _
  | cons b B ih =>
    rw [mrg_cons]
    by_cases h : b ∈ A
    · rw [if_pos h]; exact ih _
    · rw [if_neg h]; exact (List.prefix_append _ _).trans (ih _)

theorem mrg_new {A B : List α} (hB : B.Nodup) (h : ∀ x ∈ B, x ∉ A) : mrg A B = A ++ B := by
  induction B generalizing A with
  | nil => simp
  | cons b B ih =>
    rw [mrg_cons, if_neg (h b List.mem_cons_self)]
    obtain ⟨hb, hB'⟩ := List.nodup_cons.mp hB
    rw [ih hB' fun x hx hm => ?_]
    · simp
    · rcases List.mem_append.mp hm with h1 | h1
      · exact h x (List.mem_cons_of_mem _ hx) h1
      · have : x = b := by simpa using h1
        subst this; exact hb hx
theorem once_of_nodup {B : List α} (hB : B.Nodup) : once B = B := by unfold once; rw [mrg_new hB (by simp)]; simp

/- only first tellings count -/
theorem mrg_once (A B : List α) : mrg A (once B) = mrg A B := by
  suffices h : ∀ (B C : List α) (A : List α), (∀ x ∈ C, x ∈ A) → mrg A (mrg C B) = mrg A B by
    unfold once; exact h B [] A (by simp)
  intro B
  induction B with
  | nil => intro C A h; exact mrg_sub h
  | cons b B ih =>
    intro C A h
    rw [mrg_cons, mrg_cons]
    by_cases hc : b ∈ C
    · rw [if_pos hc, if_pos (h b hc)]; exact ih C A h
    · rw [if_neg hc]
      by_cases ha : b ∈ A
      · rw [if_pos ha]
        exact ih _ _ fun x hx => (List.mem_append.mp hx).elim (h x) fun e => by
          have : x = b := by simpa using e
          subst this; exact ha
      · rw [if_neg ha]
        -- the new item is told first
        have key : ∀ (B' C' A' : List α), (∀ x ∈ C', x ∈ A') → mrg A' (C' ++ b :: B') = mrg A' (b :: B') := by
          intro B' C' A' h'
          rw [mrg_append, mrg_sub h']
        have pre : ∃ D, mrg (C ++ [b]) B = C ++ b :: D := by
          obtain ⟨D, hD⟩ := mrg_pre (C ++ [b]) B
          exact ⟨D, by rw [← hD]; simp⟩
        obtain ⟨D, hD⟩ := pre
        rw [hD, key D C A h, mrg_cons, if_neg ha]
        have := ih (C ++ [b]) (A ++ [b]) fun x hx => (List.mem_append.mp hx).elim (fun e => List.mem_append_left _ (h x e)) fun e => List.mem_append_right _ e
        rw [hD, mrg_append, mrg_sub (B := C) (fun x hx => List.mem_append_left _ (h x hx)), mrg_cons, if_pos (by simp)] at this
        exact this

theorem mrg_assoc (A B C : List α) : mrg A (mrg B C) = mrg (mrg A B) C := by
  have h : mrg B C = mrg B C := rfl
  suffices h : ∀ (C B A : List α), mrg A (mrg B C) = mrg (mrg A B) C from h C B A
  intro C
  induction C with
  | nil => intro B A; rfl
  | cons c C ih =>
    intro B A
    rw [mrg_cons, mrg_cons, ih]
    congr 1
    by_cases hb : c ∈ B
    · rw [if_pos hb, if_pos (mem_mrg.mpr (.inr hb))]
    · rw [if_neg hb, mrg_append, mrg_cons]; rfl
end

section
variable {α : Type} [DecidableEq α]
theorem mrg_flat (V : Nat → List α) (A : List α) (Z1 Z2 : List Nat) (h : ∀ z ∈ Z1, ∀ a ∈ V z, a ∈ A) : mrg A ((Z2.filter fun z => decide (z ∉ Z1)).flatMap V) = mrg A (Z2.flatMap V) := by
  induction Z2 generalizing A with
  | nil => rfl
  | cons z Z2 ih =>
    by_cases hz : z ∈ Z1
    · rw [List.filter_cons_of_neg (by simpa using hz), List.flatMap_cons, mrg_append, mrg_sub (h z hz)]
      exact ih A h
    · rw [List.filter_cons_of_pos (by simpa using hz), List.flatMap_cons, List.flatMap_cons, mrg_append, mrg_append]
      exact ih _ fun y hy a ha => mem_mrg.mpr (.inl (h y hy a ha))

theorem mrg_eq_filter {A B : List α} (hB : B.Nodup) : mrg A B = A ++ B.filter fun b => decide (b ∉ A) := by
  induction B generalizing A with
  | nil => simp
  | cons b B ih =>
    obtain ⟨hb, hB'⟩ := List.nodup_cons.mp hB
    rw [mrg_cons]
    by_cases h : b ∈ A
    · rw [if_pos h, List.filter_cons_of_neg (by simpa using h)]; exact ih hB'
    · rw [if_neg h, List.filter_cons_of_pos (by simpa using h), ih hB']
      rw [List.append_assoc]
      congr 1
      show b :: _ = b :: _
      congr 1
      apply List.filter_congr
      intro x hx
      have : x ≠ b := fun e => hb (e ▸ hx)
      simp [this]

/- two lists of values met by their names -/
theorem once_flat_mrg (V : Nat → List α) {Z1 Z2 : List Nat} (h2 : Z2.Nodup) : once ((mrg Z1 Z2).flatMap V) = mrg (once (Z1.flatMap V)) (once (Z2.flatMap V)) := by
  rw [mrg_once, mrg_eq_filter h2, List.flatMap_append, once_append]
  exact mrg_flat V _ Z1 Z2 fun z hz a ha => mem_once.mpr (List.mem_flatMap.mpr ⟨z, hz, ha⟩)
end

/- the walk goes on in the same way where what is met already is closed -/
theorem walked_over {P : Nat → List Nat} {M : List Nat} : ∀ (f y : Nat) (m m' : List Nat), (∀ z ∈ M, R P y z → ∀ u, R P z u → u ∈ M) → m.Nodup → walked P f y m = some m' → walked P f y (mrg M m) = some (mrg M m') := by
  intro f
  induction f with
  | zero => intro y m m' _ _ h; simp [walked] at h
  | succ f ih =>
    intro y m m' hcl hnd h
    have hs := walked_spec _ _ _ _ h
    by_cases hM : y ∈ M
    · have e : mrg M m' = mrg M m := by
        obtain ⟨d, hd⟩ := hs.2.pre
        rw [← hd, mrg_append]
        refine mrg_sub fun z hz => mem_mrg.mpr ?_
        rcases hs.2.from_ z (by rw [← hd]; exact List.mem_append_right _ hz) with h1 | h1
        · exact .inr h1
        · exact .inl (hcl y hM (.refl _) z h1)
      rw [e, walked_succ, if_pos (mem_mrg.mpr (.inl hM))]
    · rw [walked_succ] at h ⊢
      by_cases hy : y ∈ m
      · rw [if_pos hy] at h; cases h
        rw [if_pos (mem_mrg.mpr (.inr hy))]
      · rw [if_neg hy] at h
        rw [if_neg (fun e => (mem_mrg.mp e).elim hM hy)]
        have e0 : mrg M m ++ [y] = mrg M (m ++ [y]) := by
          rw [mrg_append, mrg_cons, if_neg (fun e => (mem_mrg.mp e).elim hM hy)]; rfl
        rw [e0]
        have fold : ∀ (l : List Nat) (m m' : List Nat), (∀ x ∈ l, x ∈ P y) → m.Nodup → l.foldlM (fun m y => walked P f y m) m = some m' → l.foldlM (fun m y => walked P f y m) (mrg M m) = some (mrg M m') := by
          intro l
          induction l with
          | nil => intro m m' _ _ e; have e : m = m' := by simpa using e
                   subst e; rfl
          | cons x l ihl =>
            intro m m' hl hn e
            rw [List.foldlM_cons] at e ⊢
            cases e1 : walked P f x m with
            | none => rw [e1] at e; cases e
            | some m1 =>
              rw [e1] at e
              rw [ih x m m1 (fun z hz hr => hcl z hz (.step (hl x List.mem_cons_self) hr)) hn e1]
              exact ihl m1 m' (fun z hz => hl z (List.mem_cons_of_mem _ hz)) ((walked_spec _ _ _ _ e1).2.nodup hn) e
        exact fold (P y) (m ++ [y]) m' (fun _ h => h) (nodup_snoc hnd hy) h
end G
end Mine
end

-- part G3
section
namespace Mine
namespace G

structure TS (α : Type) where
  N : Nat → Int
  stack : List Nat
  begun : List Nat
  fid : Nat → Nat
  C : Nat → List α

def upd {β : Type} (f : Nat → β) (k : Nat) (v : β) : Nat → β := fun i => if i = k then v else f i
@[simp] theorem upd_self {β : Type} (f : Nat → β) (k : Nat) (v : β) : upd f k v k = v := by simp [upd]
theorem upd_ne {β : Type} (f : Nat → β) {k i : Nat} (v : β) (h : i ≠ k) : upd f k v i = f i := by simp [upd, h]

def MAXI : Int := 9223372036854775807

section
variable {α : Type} [DecidableEq α]

def popTo (x : Nat) : Nat → TS α → Option (TS α)
  | 0, _ => none
  | k + 1, σ => match σ.stack.getLast? with
    | none => none
    | some e =>
      if e = x then some { σ with N := upd σ.N e MAXI, fid := upd σ.fid e (σ.fid x), stack := σ.stack.dropLast }
      else popTo x k { σ with N := upd σ.N e MAXI, fid := upd σ.fid e (σ.fid x), stack := σ.stack.dropLast }

def meet (x y : Nat) (σ : TS α) : TS α :=
  { σ with N := upd σ.N x (min (σ.N x) (σ.N y)), C := upd σ.C (σ.fid x) (mrg (σ.C (σ.fid x)) (σ.C (σ.fid y))) }

def turn (tr : Nat → TS α → Option (TS α)) (x : Nat) (σ : TS α) (y : Nat) : Option (TS α) :=
  (if σ.N y = 0 then tr y σ else some σ).bind fun σ1 =>
    if x ∈ σ1.begun ∧ y ∈ σ1.begun then some (meet x y σ1) else none

def enter (V : Nat → List α) (x : Nat) (σ : TS α) : TS α :=
  { N := upd σ.N x (σ.stack.length + 1), stack := σ.stack ++ [x], begun := σ.begun ++ [x], fid := upd σ.fid x x, C := upd σ.C x (V x) }

def trav (E : Nat → List Nat) (V : Nat → List α) : Nat → Nat → TS α → Option (TS α)
  | 0, _, _ => none
  | f + 1, x, σ =>
    ((E x).foldlM (turn (trav E V f) x) (enter V x σ)).bind fun σ1 =>
      if σ1.N x = σ.stack.length + 1 then popTo x σ1.stack.length σ1 else some σ1

def start : TS α := { N := fun _ => 0, stack := [], begun := [], fid := fun i => i, C := fun _ => [] }

def digr (E : Nat → List Nat) (V : Nat → List α) (f : Nat) (order : List Nat) : Option (TS α) :=
  order.foldlM (fun σ x => if σ.N x = 0 then trav E V f x σ else some σ) start

theorem trav_succ (E : Nat → List Nat) (V : Nat → List α) (f x : Nat) (σ : TS α) : trav E V (f + 1) x σ =
    ((E x).foldlM (turn (trav E V f) x) (enter V x σ)).bind fun σ1 =>
      if σ1.N x = σ.stack.length + 1 then popTo x σ1.stack.length σ1 else some σ1 := by rw [trav]

theorem popTo_spec (x : Nat) (s : List Nat) : ∀ (t : List Nat) (k : Nat) (σ : TS α), σ.stack = s ++ x :: t → x ∉ t → t.length < k → 
    ∃ σ', popTo x k σ = some σ' ∧ σ'.stack = s ∧ σ'.begun = σ.begun ∧ σ'.C = σ.C ∧ (∀ i, σ'.N i = if i ∈ x :: t then MAXI else σ.N i) ∧ (∀ i, σ'.fid i = if i ∈ x :: t then σ.fid x else σ.fid i) := by
  intro t
  induction h : t.length generalizing t with
  | zero =>
    intro k σ hs hx hk
    have ht : t = [] := List.length_eq_zero_iff.mp h
    subst ht
    cases k with
    | zero => lia
    | succ k =>
      have hl : σ.stack.getLast? = some x := by rw [hs]; simp
      refine ⟨{ σ with N := upd σ.N x MAXI, fid := upd σ.fid x (σ.fid x), stack := σ.stack.dropLast }, ?_, ?_, rfl, rfl, ?_, ?_⟩
      · unfold popTo; rw [hl]; simp
      · show σ.stack.dropLast = s; rw [hs]; simp
      · intro i; by_cases hi : i = x <;> simp [upd, hi]
      · intro i; by_cases hi : i = x <;> simp [upd, hi]
  | succ n ih =>
    intro k σ hs hx hk
    have hne : t ≠ [] := by intro e; subst e; simp at h
    obtain ⟨t', e, rfl⟩ : ∃ t' e, t = t' ++ [e] := ⟨t.dropLast, t.getLast hne, (List.dropLast_concat_getLast hne).symm⟩
    have hex : e ≠ x := by rintro rfl; exact hx (by simp)
    have hxt : x ∉ t' := fun hm => hx (by simp [hm])
    cases k with
    | zero => lia
    | succ k =>
      have hs' : σ.stack = (s ++ x :: t') ++ [e] := by rw [hs]; simp
      have hl : σ.stack.getLast? = some e := by rw [hs', List.getLast?_concat]
      have hd : σ.stack.dropLast = s ++ x :: t' := by rw [hs', List.dropLast_concat]
      have hlen : t'.length = n := by simpa using h
      obtain ⟨σ', h1, h2, h3, h4, h5, h6⟩ := ih t' hlen k { σ with N := upd σ.N e MAXI, fid := upd σ.fid e (σ.fid x), stack := σ.stack.dropLast } hd hxt (by simp at hk; lia)
      refine ⟨σ', ?_, h2, h3, h4, ?_, ?_⟩
      · unfold popTo; rw [hl]; simp only [if_neg hex]; exact h1
      · intro i; rw [h5]
        by_cases h' : i = e
        · subst h'; simp [upd]
        · simp [upd, h']
      · intro i; rw [h6]
        have hxe : upd σ.fid e (σ.fid x) x = σ.fid x := upd_ne _ _ (Ne.symm hex)
        simp only [hxe]
        by_cases h' : i = e
        · subst h'; simp [upd]
        · simp [upd, h']

end

/- the place on the stack, from one -/
def pos (s : List Nat) (x : Nat) : Int := (s.idxOf x : Int) + 1

theorem pos_pre {s s' : List Nat} (h : s <+: s') {x : Nat} (hx : x ∈ s) : pos s' x = pos s x := by
  obtain ⟨t, rfl⟩ := h
  unfold pos
  rw [List.idxOf_append, if_pos hx]
theorem pos_le {s : List Nat} {x : Nat} (hx : x ∈ s) : pos s x ≤ s.length := by
  unfold pos
  have := List.idxOf_lt_length_of_mem hx
  lia
theorem pos_last {s : List Nat} {x : Nat} (hx : x ∉ s) : pos (s ++ [x]) x = s.length + 1 := by
  unfold pos
  rw [List.idxOf_append, if_neg hx]; simp
theorem pos_new {s s' : List Nat} (h : s <+: s') {x : Nat} (hx : x ∉ s) : (s.length : Int) + 1 ≤ pos s' x := by
  obtain ⟨t, rfl⟩ := h
  unfold pos
  rw [List.idxOf_append, if_neg hx]; lia
theorem pos_old {s s' : List Nat} (h : s <+: s') {x : Nat} (hx : x ∈ s) : pos s' x ≤ s.length := by rw [pos_pre h hx]; exact pos_le hx
theorem mem_of_pos {s s' : List Nat} (h : s <+: s') {x : Nat} (hp : pos s' x ≤ s.length) : x ∈ s := by
  by_cases hx : x ∈ s
  · exact hx
  · have := pos_new h hx; lia
end G
end Mine
end

-- part G4
section
set_option linter.unusedSectionVars false
namespace Mine
namespace G

def S (E : Nat → List Nat) (x y : Nat) : Prop := R E x y ∧ R E y x
theorem S.symm {E : Nat → List Nat} {x y : Nat} (h : S E x y) : S E y x := ⟨h.2, h.1⟩
theorem S.trans {E : Nat → List Nat} {x y z : Nat} (h : S E x y) (h' : S E y z) : S E x z := ⟨h.1.trans h'.1, h'.2.trans h.2⟩
theorem S.refl (E : Nat → List Nat) (x : Nat) : S E x x := ⟨.refl _, .refl _⟩

structure Gr (α : Type) where
  E : Nat → List Nat
  n : Nat
  V : Nat → List α
  rp : Nat → Nat
  pl : Nat → Nat → Nat
  W : List Nat
def Gr.P {α : Type} (G : Gr α) (x : Nat) : List Nat := (G.E x).map (G.pl x)

structure Given {α : Type} (G : Gr α) : Prop where
  small : (G.n : Int) + 1 < MAXI
  inn : ∀ x, x < G.n → ∀ y ∈ G.E x, y < G.n
  vnd : ∀ x, x < G.n → (G.V x).Nodup
  same : ∀ x y, x < G.n → y ∈ G.E x → S G.E x y → G.pl x y = y
  other : ∀ x y, x < G.n → y ∈ G.E x → ¬ S G.E x y → G.pl x y = G.rp y
  repS : ∀ y, y < G.n → S G.E y (G.rp y) ∧ G.rp y < G.n
  first : ∀ b y, (b ++ [y]) <+: G.W → (∀ z ∈ b, ¬ S G.E y z) → ∀ e, S G.E y e → G.rp e = y

section
variable {α : Type} [DecidableEq α] {G : Gr α}

theorem Given.path (H : Given G) {x z : Nat} (h : R G.P x z) (hx : x < G.n) : R G.E x z ∧ z < G.n := by
  induction h with
  | refl => exact ⟨.refl _, hx⟩
  | @step x u z hu _ ih =>
    obtain ⟨y, hy, rfl⟩ := List.mem_map.mp hu
    have hyn := H.inn x hx y hy
    by_cases hs : S G.E x y
    · rw [H.same x y hx hy hs] at ih
      exact ⟨.step hy (ih hyn).1, (ih hyn).2⟩
    · rw [H.other x y hx hy hs] at ih
      have hr := H.repS y hyn
      exact ⟨.step hy (hr.1.1.trans (ih hr.2).1), (ih hr.2).2⟩

structure Inv (G : Gr α) (σ : TS α) (Z : Nat → List Nat) (g : List Nat) : Prop where
  nd : σ.begun.Nodup
  lt : ∀ x ∈ σ.begun, x < G.n
  zero : ∀ x, x < G.n → (σ.N x = 0 ↔ x ∉ σ.begun)
  stk : σ.stack = σ.begun.filter fun x => decide (σ.N x ≠ MAXI)
  low : ∀ x ∈ σ.stack, 1 ≤ σ.N x ∧ σ.N x ≤ pos σ.stack x
  popd : ∀ x ∈ σ.begun, σ.N x = MAXI → ∀ y ∈ G.E x, y ∈ σ.begun ∧ σ.N y = MAXI
  fin : ∀ u ∈ σ.stack, u ∉ g → ∀ v ∈ G.E u, v ∈ σ.begun ∧ (v ∈ σ.stack → σ.N u ≤ pos σ.stack v)
  att : ∀ u ∈ σ.stack, ∃ z ∈ σ.stack, pos σ.stack z = σ.N u ∧ R G.E u z
  gry : ∀ y ∈ σ.stack, ∃ c ∈ g, pos σ.stack c ≤ pos σ.stack y ∧ R G.E y c
  gsub : ∀ c ∈ g, c ∈ σ.stack
  rch : ∀ c ∈ g, ∀ y ∈ σ.stack, pos σ.stack c ≤ pos σ.stack y → R G.E c y
  own : ∀ u ∈ σ.stack, σ.fid u = u
  fidp : ∀ y ∈ σ.begun, σ.N y = MAXI → σ.fid y = G.rp y ∧ G.rp y ∈ σ.begun ∧ σ.N (G.rp y) = MAXI ∧ ∃ f, walked G.P f (G.rp y) [] = some (Z (G.rp y))
  cont : ∀ i ∈ σ.begun, σ.C i = once ((Z i).flatMap G.V) ∧ (Z i).Nodup

structure KH (G : Gr α) (x : Nat) (σ : TS α) (Z : Nat → List Nat) (M : List Nat) : Prop where
  nd : M.Nodup
  same : ∀ z, S G.E x z → (z ∈ M ↔ z ∈ σ.begun)
  clo : ∀ z ∈ M, ¬ S G.E x z → ∀ u, R G.P z u → u ∈ M
  zin : ∀ z ∈ σ.stack, S G.E x z → ∀ a ∈ Z z, a ∈ M
  low : ∀ z ∈ M, z < G.n

theorem Inv.stackIn {σ : TS α} {Z : Nat → List Nat} {g : List Nat} (I : Inv G σ Z g) {x : Nat} : x ∈ σ.stack ↔ x ∈ σ.begun ∧ σ.N x ≠ MAXI := by
  rw [I.stk]; simp
theorem Inv.stackNd {σ : TS α} {Z : Nat → List Nat} {g : List Nat} (I : Inv G σ Z g) : σ.stack.Nodup := by
  rw [I.stk]; exact I.nd.filter _
theorem Inv.popClosed {σ : TS α} {Z : Nat → List Nat} {g : List Nat} (I : Inv G σ Z g) {x y : Nat} (h : R G.E x y) (hx : x ∈ σ.begun) (hm : σ.N x = MAXI) : y ∈ σ.begun ∧ σ.N y = MAXI :=
  R.closed (p := fun z => z ∈ σ.begun ∧ σ.N z = MAXI) (fun u hu v hv => I.popd u hu.1 hu.2 v hv) h ⟨hx, hm⟩
theorem Inv.len {σ : TS α} {Z : Nat → List Nat} {g : List Nat} (I : Inv G σ Z g) : σ.stack.length ≤ G.n := by
  have h1 : σ.stack.length ≤ σ.begun.length := by rw [I.stk]; exact List.length_filter_le _ _
  have h2 : σ.begun.length ≤ (List.range G.n).length := I.nd.length_le_of_subset (fun x hx => List.mem_range.mpr (I.lt x hx))
  simp at h2; omega
end
end G
end Mine
end

-- part G5
section
set_option linter.unusedSectionVars false
namespace Mine
namespace G
section
variable {α : Type} [DecidableEq α] {G : Gr α}

structure LI (G : Gr α) (σ : TS α) (Z : Nat → List Nat) (g M : List Nat) (x : Nat) (σc : TS α) (Zc : Nat → List Nat) (Mc done : List Nat) : Prop where
  inv : Inv G σc Zc (g ++ [x])
  pre : (σ.stack ++ [x]) <+: σc.stack
  bpre : (σ.begun ++ [x]) <+: σc.begun
  frame : ∀ u ∈ σ.begun, σc.N u = σ.N u ∧ σc.fid u = σ.fid u ∧ Zc u = Z u ∧ σc.C u = σ.C u
  kh : KH G x σc Zc Mc
  mm : mrg M (Zc x) = Mc
  l2 : ∀ u ∈ σc.stack, u ∉ σ.stack → σc.N x ≤ σc.N u
  proc : ∀ v ∈ done, v ∈ σc.begun ∧ (v ∈ σc.stack → σc.N x ≤ pos σc.stack v)

theorem Inv.nPos (H : Given G) {σ : TS α} {Z : Nat → List Nat} {g : List Nat} (I : Inv G σ Z g) {y : Nat} (hy : y ∈ σ.begun) : 1 ≤ σ.N y := by
  by_cases h : σ.N y = MAXI
  · rw [h]; decide
  · exact (I.low y (I.stackIn.mpr ⟨hy, h⟩)).1
theorem Inv.nSmall (H : Given G) {σ : TS α} {Z : Nat → List Nat} {g : List Nat} (I : Inv G σ Z g) {y : Nat} (hy : y ∈ σ.stack) : σ.N y < MAXI := by
  have h1 := (I.low y hy).2
  have h2 := pos_le hy
  have h3 := I.len
  have h4 := H.small
  lia

theorem meet_ok (H : Given G) {σ : TS α} {Z : Nat → List Nat} {g M : List Nat} {x y : Nat} {σ1 : TS α} {Z1 : Nat → List Nat} {M2 done : List Nat}
    (hxb : x ∉ σ.begun) (hxy : y ∈ G.E x)
    (inv : Inv G σ1 Z1 (g ++ [x])) (pre : (σ.stack ++ [x]) <+: σ1.stack) (bpre : (σ.begun ++ [x]) <+: σ1.begun)
    (frame : ∀ u ∈ σ.begun, σ1.N u = σ.N u ∧ σ1.fid u = σ.fid u ∧ Z1 u = Z u ∧ σ1.C u = σ.C u)
    (hy : y ∈ σ1.begun) (kh : KH G x σ1 Z1 M2) (hM2 : mrg M (mrg (Z1 x) (Z1 (σ1.fid y))) = M2)
    (c : ∀ u ∈ σ1.stack, u ∉ σ.stack → min (σ1.N x) (σ1.N y) ≤ σ1.N u)
    (proc : ∀ v ∈ done, v ∈ σ1.begun ∧ (v ∈ σ1.stack → σ1.N x ≤ pos σ1.stack v)) :
    LI G σ Z g M x (meet x y σ1) (upd Z1 x (mrg (Z1 x) (Z1 (σ1.fid y)))) M2 (done ++ [y]) := by
  have hxs : x ∈ σ1.stack := pre.subset (by simp)
  have hxb1 : x ∈ σ1.begun := (inv.stackIn.mp hxs).1
  have hfx : σ1.fid x = x := inv.own x hxs
  have hNx : 1 ≤ σ1.N x ∧ σ1.N x ≤ pos σ1.stack x := inv.low x hxs
  have hNxs := inv.nSmall H hxs
  have hNy := inv.nPos H hy
  have hfy : σ1.fid y ∈ σ1.begun := by
    by_cases h : σ1.N y = MAXI
    · rw [(inv.fidp y hy h).1]; exact (inv.fidp y hy h).2.1
    · rw [inv.own y (inv.stackIn.mpr ⟨hy, h⟩)]; exact hy
  have eN : ∀ u, (meet x y σ1).N u = if u = x then min (σ1.N x) (σ1.N y) else σ1.N u := fun u => rfl
  have eMx : ∀ u, (meet x y σ1).N u = MAXI ↔ σ1.N u = MAXI := by
    intro u; rw [eN]
    by_cases h : u = x
    · subst h; rw [if_pos rfl]; constructor <;> intro h <;> lia
    · rw [if_neg h]
  have eC : ∀ u, (meet x y σ1).C u = if u = x then mrg (σ1.C x) (σ1.C (σ1.fid y)) else σ1.C u := fun u => by
    show upd σ1.C (σ1.fid x) (mrg (σ1.C (σ1.fid x)) (σ1.C (σ1.fid y))) u = _
    rw [hfx]; rfl
  have eZ : ∀ u, upd Z1 x (mrg (Z1 x) (Z1 (σ1.fid y))) u = if u = x then mrg (Z1 x) (Z1 (σ1.fid y)) else Z1 u := fun u => rfl
  refine ⟨⟨inv.nd, inv.lt, ?_, ?_, ?_, ?_, ?_, ?_, inv.gry, inv.gsub, inv.rch, inv.own, ?_, ?_⟩, pre, bpre, ?_, ⟨kh.nd, kh.same, kh.clo, ?_, kh.low⟩, ?_, ?_, ?_⟩
  · intro u hu
    rw [eN]
    by_cases h : u = x
    · subst h
      rw [if_pos rfl]
      constructor
      · intro h; lia
      · intro h; exact absurd hxb1 h
    · rw [if_neg h]; exact inv.zero u hu
  · show σ1.stack = σ1.begun.filter _
    rw [inv.stk]
    apply List.filter_congr
    intro u _
    rw [decide_eq_decide]
    exact not_congr (eMx u).symm
  · intro u hu
    rw [eN]
    show _ ∧ _ ≤ pos σ1.stack u
    by_cases h : u = x
    · subst h; rw [if_pos rfl]; lia
    · rw [if_neg h]; exact inv.low u hu
  · intro u hu hm v hv
    have := inv.popd u hu ((eMx u).mp hm) v hv
    exact ⟨this.1, (eMx v).mpr this.2⟩
  · intro u hu hg v hv
    have hux : u ≠ x := fun e => hg (by simp [e])
    rw [eN, if_neg hux]
    exact inv.fin u hu hg v hv
  · intro u hu
    rw [eN]
    show ∃ z ∈ σ1.stack, pos σ1.stack z = _ ∧ _
    by_cases h : u = x
    · subst h
      rw [if_pos rfl]
      by_cases hle : σ1.N u ≤ σ1.N y
      · rw [Int.min_eq_left hle]; exact inv.att u hu
      · have hle' : σ1.N y ≤ σ1.N u := by lia
        rw [Int.min_eq_right hle']
        have hys : y ∈ σ1.stack := inv.stackIn.mpr ⟨hy, by lia⟩
        obtain ⟨z, hz, hp, hr⟩ := inv.att y hys
        exact ⟨z, hz, hp, .step hxy hr⟩
    · rw [if_neg h]; exact inv.att u hu
  · intro u hu hm
    obtain ⟨h1, h2, h3, k, h4⟩ := inv.fidp u hu ((eMx u).mp hm)
    refine ⟨h1, h2, (eMx _).mpr h3, k, ?_⟩
    have : G.rp u ≠ x := by rintro e; rw [e] at h3; lia
    rw [eZ, if_neg this]; exact h4
  · intro i hi
    rw [eC, eZ]
    by_cases h : i = x
    · subst h
      rw [if_pos rfl, if_pos rfl]
      obtain ⟨c1, d1⟩ := inv.cont i hi
      obtain ⟨c2, d2⟩ := inv.cont _ hfy
      rw [c1, c2]
      exact ⟨(once_flat_mrg G.V d2).symm, mrg_nodup d1⟩
    · rw [if_neg h, if_neg h]; exact inv.cont i hi
  · intro u hu
    have hux : u ≠ x := by rintro rfl; exact hxb hu
    rw [eN, if_neg hux, eZ, if_neg hux, eC, if_neg hux]
    exact frame u hu
  · intro z hz hs a ha
    rw [eZ] at ha
    by_cases h : z = x
    · subst h
      rw [if_pos rfl] at ha
      rw [← hM2]; exact mem_mrg.mpr (.inr ha)
    · rw [if_neg h] at ha; exact kh.zin z hz hs a ha
  · rw [eZ, if_pos rfl]; exact hM2
  · intro u hu hn
    rw [eN, eN, if_pos rfl]
    by_cases h : u = x
    · subst h; rw [if_pos rfl]; exact Int.le_refl _
    · rw [if_neg h]; exact c u hu hn
  · intro v hv
    rw [eN, if_pos rfl]
    show v ∈ σ1.begun ∧ (v ∈ σ1.stack → _ ≤ pos σ1.stack v)
    rcases List.mem_append.mp hv with h | h
    · obtain ⟨h1, h2⟩ := proc v h
      refine ⟨h1, fun hs => ?_⟩
      have := h2 hs; lia
    · have : v = y := by simpa using h
      subst this
      refine ⟨hy, fun hs => ?_⟩
      have := (inv.low v hs).2; lia
end
end G
end Mine
end

-- part G6
section
set_option linter.unusedSectionVars false
namespace Mine
namespace G
section
variable {α : Type} [DecidableEq α] {G : Gr α}

theorem enter_ok (H : Given G) {σ : TS α} {Z : Nat → List Nat} {g M : List Nat} {x : Nat} (I : Inv G σ Z g) (hx : x < G.n) (hxb : x ∉ σ.begun) (hg : ∀ c ∈ g, R G.E c x) (K : KH G x σ Z M) :
    LI G σ Z g M x (enter G.V x σ) (upd Z x [x]) (M ++ [x]) [] := by
  have hxM : x ∉ M := fun h => hxb ((K.same x (S.refl _ _)).mp h)
  have hxs : x ∉ σ.stack := fun h => hxb (I.stackIn.mp h).1
  have hp : σ.stack <+: σ.stack ++ [x] := List.prefix_append _ _
  have hlen := I.len
  have hsm := H.small
  have ne : ∀ u ∈ σ.begun, u ≠ x := fun u hu e => hxb (e ▸ hu)
  have nes : ∀ u ∈ σ.stack, u ≠ x := fun u hu => ne u (I.stackIn.mp hu).1
  have eN : ∀ u, (enter G.V x σ).N u = if u = x then (σ.stack.length + 1 : Int) else σ.N u := fun u => rfl
  have eZ : ∀ u, upd Z x [x] u = if u = x then [x] else Z u := fun u => rfl
  have eC : ∀ u, (enter G.V x σ).C u = if u = x then G.V x else σ.C u := fun u => rfl
  have eF : ∀ u, (enter G.V x σ).fid u = if u = x then x else σ.fid u := fun u => rfl
  have eS : (enter G.V x σ).stack = σ.stack ++ [x] := rfl
  have eB : (enter G.V x σ).begun = σ.begun ++ [x] := rfl
  have px := pos_last hxs
  refine ⟨⟨?_, ?_, ?_, ?_, ?_, ?_, ?_, ?_, ?_, ?_, ?_, ?_, ?_, ?_⟩, List.prefix_refl _, List.prefix_refl _, ?_, ⟨?_, ?_, ?_, ?_, ?_⟩, ?_, ?_, ?_⟩
  · exact nodup_snoc I.nd hxb
  · intro u hu
    rcases List.mem_append.mp hu with h | h
    · exact I.lt u h
    · rw [show u = x by simpa using h]; exact hx
  · intro u hu
    rw [eN, eB]
    by_cases h : u = x
    · subst h; rw [if_pos rfl]; constructor
      · intro h; lia
      · intro h; exact absurd (by simp) h
    · rw [if_neg h, I.zero u hu]; simp [h]
  · rw [eS, eB, List.filter_append, I.stk]
    congr 1
    · apply List.filter_congr
      intro u hu; rw [eN, if_neg (ne u hu)]
    · have : ¬ ((enter G.V x σ).N x = MAXI) := by rw [eN, if_pos rfl]; lia
      simp [this]
  · intro u hu
    rw [eN, eS]
    rcases List.mem_append.mp hu with h | h
    · rw [if_neg (nes u h), pos_pre hp h]; exact I.low u h
    · have : u = x := by simpa using h
      subst this; rw [if_pos rfl, px]; lia
  · intro u hu hm v hv
    have hux : u ≠ x := by rintro rfl; rw [eN, if_pos rfl] at hm; lia
    rw [eN, if_neg hux] at hm
    have hub : u ∈ σ.begun := (List.mem_append.mp hu).resolve_right (by simpa using hux)
    have := I.popd u hub hm v hv
    exact ⟨List.mem_append_left _ this.1, by rw [eN, if_neg (ne v this.1)]; exact this.2⟩
  · intro u hu hug v hv
    have hux : u ≠ x := fun e => hug (by simp [e])
    have hus : u ∈ σ.stack := (List.mem_append.mp hu).resolve_right (by simpa using hux)
    have hv' := I.fin u hus (fun h => hug (by simp [h])) v hv
    refine ⟨List.mem_append_left _ hv'.1, fun hvs => ?_⟩
    have hvs' : v ∈ σ.stack := (List.mem_append.mp hvs).resolve_right (by simpa using ne v hv'.1)
    rw [eN, if_neg hux, eS, pos_pre hp hvs']; exact hv'.2 hvs'
  · intro u hu
    rw [eS, eN]
    rcases List.mem_append.mp hu with h | h
    · obtain ⟨z, hz, h1, h2⟩ := I.att u h
      exact ⟨z, List.mem_append_left _ hz, by rw [if_neg (nes u h), pos_pre hp hz]; exact h1, h2⟩
    · have : u = x := by simpa using h
      subst this
      exact ⟨u, by simp, by rw [if_pos rfl, px], .refl _⟩
  · intro y hy
    rw [eS]
    rcases List.mem_append.mp hy with h | h
    · obtain ⟨c, hc, h1, h2⟩ := I.gry y h
      exact ⟨c, List.mem_append_left _ hc, by rw [pos_pre hp h, pos_pre hp (I.gsub c hc)]; exact h1, h2⟩
    · have : y = x := by simpa using h
      subst this; exact ⟨y, by simp, Int.le_refl _, .refl _⟩
  · intro c hc
    rcases List.mem_append.mp hc with h | h
    · exact List.mem_append_left _ (I.gsub c h)
    · exact List.mem_append_right _ h
  · intro c hc y hy
    rw [eS]
    intro hle
    rcases List.mem_append.mp hc with h | h
    · rcases List.mem_append.mp hy with h' | h'
      · rw [pos_pre hp h', pos_pre hp (I.gsub c h)] at hle
        exact I.rch c h y h' hle
      · rw [show y = x by simpa using h']; exact hg c h
    · have : c = x := by simpa using h
      subst this
      rcases List.mem_append.mp hy with h' | h'
      · rw [px] at hle; have := pos_old hp h'; lia
      · rw [show y = c by simpa using h']; exact .refl _
  · intro u hu
    rw [eF]
    rcases List.mem_append.mp hu with h | h
    · rw [if_neg (nes u h)]; exact I.own u h
    · have : u = x := by simpa using h
      subst this; rw [if_pos rfl]
  · intro y hy hm
    have hyx : y ≠ x := by rintro rfl; rw [eN, if_pos rfl] at hm; lia
    rw [eN, if_neg hyx] at hm
    have hyb : y ∈ σ.begun := (List.mem_append.mp hy).resolve_right (by simpa using hyx)
    obtain ⟨h1, h2, h3, k, h4⟩ := I.fidp y hyb hm
    rw [eF, if_neg hyx, eN, if_neg (ne _ h2), eZ, if_neg (ne _ h2)]
    exact ⟨h1, List.mem_append_left _ h2, h3, k, h4⟩
  · intro i hi
    rw [eC, eZ]
    rcases List.mem_append.mp hi with h | h
    · rw [if_neg (ne i h), if_neg (ne i h)]; exact I.cont i h
    · have : i = x := by simpa using h
      subst this
      rw [if_pos rfl, if_pos rfl]
      refine ⟨?_, by simp⟩
      simp only [List.flatMap_cons, List.flatMap_nil, List.append_nil]
      exact (once_of_nodup (H.vnd i hx)).symm
  · intro u hu
    rw [eN, eF, eZ, eC]
    simp [ne u hu]
  · exact nodup_snoc K.nd hxM
  · intro z hz
    rw [eB]
    by_cases h : z = x
    · simp [h]
    · simp [h, K.same z hz]
  · intro z hz hs u hu
    rcases List.mem_append.mp hz with h | h
    · exact List.mem_append_left _ (K.clo z h hs u hu)
    · exact absurd (by rw [show z = x by simpa using h]; exact S.refl _ _) hs
  · intro z hz hs a ha
    rw [eZ] at ha
    rcases List.mem_append.mp hz with h | h
    · rw [if_neg (nes z h)] at ha; exact List.mem_append_left _ (K.zin z h hs a ha)
    · rw [if_pos (by simpa using h)] at ha; exact List.mem_append_right _ ha
  · intro z hz
    rcases List.mem_append.mp hz with h | h
    · exact K.low z h
    · rw [show z = x by simpa using h]; exact hx
  · rw [eZ, if_pos rfl, mrg_cons, if_neg hxM]; rfl
  · intro u hu hn
    have : u = x := by
      rcases List.mem_append.mp hu with h | h
      · exact absurd h hn
      · simpa using h
    subst this; exact Int.le_refl _
  · intro v hv; simp at hv

def Main (G : Gr α) (f : Nat) : Prop := ∀ (x : Nat) (σ : TS α) (Z : Nat → List Nat) (g M b' : List Nat), Inv G σ Z g → x < G.n → x ∉ σ.begun → (∀ c ∈ g, R G.E c x) →
  walked G.E f x σ.begun = some b' → b' <+: G.W → KH G x σ Z M → (M = [] ∨ ∃ z ∈ σ.begun, S G.E x z) →
  ∃ σ' Z', trav G.E G.V f x σ = some σ' ∧ σ'.begun = b' ∧ Inv G σ' Z' g ∧ (∀ u ∈ σ.begun, σ'.N u = σ.N u ∧ σ'.fid u = σ.fid u ∧ Z' u = Z u ∧ σ'.C u = σ.C u) ∧
    (∃ k M', walked G.P k x M = some M' ∧ mrg M (Z' x) = M' ∧ KH G x σ' Z' M') ∧
    ((σ'.N x = MAXI ∧ σ'.stack = σ.stack ∧ σ'.fid x = x) ∨ (x ∈ σ'.stack ∧ σ.stack <+: σ'.stack ∧ σ'.N x ≤ σ.stack.length ∧ ∀ u ∈ σ'.stack, u ∉ σ.stack → σ'.N x ≤ σ'.N u))

theorem walked_enter {E : Nat → List Nat} {f y : Nat} {b b1 : List Nat} (h : walked E f y b = some b1) (hy : y ∉ b) : (b ++ [y]) <+: b1 := by
  cases f with
  | zero => simp [walked] at h
  | succ f => rw [walked_succ, if_neg hy] at h; exact (walks_spec h).2.pre
theorem walked_skip {E : Nat → List Nat} {f y : Nat} {b b1 : List Nat} (h : walked E f y b = some b1) (hy : y ∈ b) : b1 = b := by
  cases f with
  | zero => simp [walked] at h
  | succ f => rw [walked_succ, if_pos hy] at h; exact (Option.some.inj h).symm

theorem KH.of_same {x y : Nat} {σ : TS α} {Z : Nat → List Nat} {M : List Nat} (h : S G.E x y) (K : KH G x σ Z M) : KH G y σ Z M :=
  ⟨K.nd, fun z hz => K.same z (h.trans hz), fun z hz hn => K.clo z hz fun hs => hn (h.symm.trans hs), fun z hz hs => K.zin z hz (h.trans hs), K.low⟩

theorem turn_ok (H : Given G) {f : Nat} (IH : Main G f) {σ : TS α} {Z : Nat → List Nat} {g M : List Nat} {x y : Nat} {σc : TS α} {Zc : Nat → List Nat} {Mc done b1 : List Nat}
    (hxn : x < G.n) (hxb : x ∉ σ.begun) (hg : ∀ c ∈ g, R G.E c x) (hy : y ∈ G.E x) (L : LI G σ Z g M x σc Zc Mc done) (hw : walked G.E f y σc.begun = some b1) (hW : b1 <+: G.W) :
    ∃ σ2 Z2 M2, turn (trav G.E G.V f) x σc y = some σ2 ∧ σ2.begun = b1 ∧ (∃ k, walked G.P k (G.pl x y) Mc = some M2) ∧ LI G σ Z g M x σ2 Z2 M2 (done ++ [y]) := by
  have hyn := H.inn x hxn y hy
  have hxs : x ∈ σc.stack := L.pre.subset (by simp)
  have hxc : x ∈ σc.begun := (L.inv.stackIn.mp hxs).1
  have hxM : σc.N x ≠ MAXI := (L.inv.stackIn.mp hxs).2
  have grx : ∀ c ∈ g ++ [x], R G.E c x := fun c hc => by
    rcases List.mem_append.mp hc with h | h
    · exact hg c h
    · rw [show c = x by simpa using h]; exact .refl _
  -- what stands on the stack reaches x
  have stx : ∀ z ∈ σc.stack, R G.E z x := fun z hz => by
    obtain ⟨c, hc, _, hr⟩ := L.inv.gry z hz
    exact hr.trans (grx c hc)
  by_cases hyc : y ∈ σc.begun
  · -- met already
    have e1 : b1 = σc.begun := walked_skip hw hyc
    subst e1
    have hN : σc.N y ≠ 0 := fun h => ((L.inv.zero y hyn).mp h) hyc
    have ht : turn (trav G.E G.V f) x σc y = some (meet x y σc) := by
      unfold turn; rw [if_neg hN]; simp [hxc, hyc]
    by_cases hp : σc.N y = MAXI
    · -- of another knot, finished
      have hns : ¬ S G.E x y := fun hs => hxM (L.inv.popClosed hs.2 hyc hp).2
      obtain ⟨h1, h2, h3, k, h4⟩ := L.inv.fidp y hyc hp
      have hrS := H.repS y hyn
      have hcl : ∀ z ∈ Mc, R G.P (G.rp y) z → ∀ u, R G.P z u → u ∈ Mc := fun z hz hr => by
        refine L.kh.clo z hz fun hs => hns ⟨.one hy, ?_⟩
        exact hrS.1.1.trans ((H.path hr hrS.2).1.trans hs.2)
      have hov := walked_over k (G.rp y) [] (Zc (G.rp y)) hcl .nil h4
      rw [mrg_nil] at hov
      have hz4 := fun z => walked_nil_iff h4 z
      have hM2 : mrg M (mrg (Zc x) (Zc (σc.fid y))) = mrg Mc (Zc (G.rp y)) := by rw [mrg_assoc, L.mm, h1]
      refine ⟨meet x y σc, _, _, ht, rfl, ⟨k, by rw [H.other x y hxn hy hns]; exact hov⟩, meet_ok H hxb hy L.inv L.pre L.bpre L.frame hyc ?_ hM2 ?_ L.proc⟩
      · refine ⟨mrg_nodup L.kh.nd, ?_, ?_, ?_, ?_⟩
        · intro z hz
          rw [← L.kh.same z hz, mem_mrg]
          refine ⟨fun h => h.resolve_right fun hz' => ?_, .inl⟩
          have := H.path ((hz4 z).mp hz') hrS.2
          exact hns ⟨.one hy, hrS.1.1.trans (this.1.trans hz.2)⟩
        · intro z hz hn u hu
          rcases mem_mrg.mp hz with h | h
          · exact mem_mrg.mpr (.inl (L.kh.clo z h hn u hu))
          · exact mem_mrg.mpr (.inr ((hz4 u).mpr (((hz4 z).mp h).trans hu)))
        · intro z hz hs a ha; exact mem_mrg.mpr (.inl (L.kh.zin z hz hs a ha))
        · intro z hz
          rcases mem_mrg.mp hz with h | h
          · exact L.kh.low z h
          · exact (H.path ((hz4 z).mp h) hrS.2).2
      · intro u hu hn; have := L.l2 u hu hn; lia
    · -- of the same knot
      have hys : y ∈ σc.stack := L.inv.stackIn.mpr ⟨hyc, hp⟩
      have hs : S G.E x y := ⟨.one hy, stx y hys⟩
      have hyM : y ∈ Mc := (L.kh.same y hs).mpr hyc
      have hfy := L.inv.own y hys
      have hsub : mrg Mc (Zc y) = Mc := mrg_sub (L.kh.zin y hys hs)
      have hM2 : mrg M (mrg (Zc x) (Zc (σc.fid y))) = Mc := by rw [mrg_assoc, L.mm, hfy, hsub]
      refine ⟨meet x y σc, _, _, ht, rfl, ⟨1, by rw [H.same x y hxn hy hs, walked_succ, if_pos hyM]⟩, meet_ok H hxb hy L.inv L.pre L.bpre L.frame hyc L.kh hM2 ?_ L.proc⟩
      intro u hu hn; have := L.l2 u hu hn; lia
  · -- not met yet
    have hN : σc.N y = 0 := (L.inv.zero y hyn).mpr hyc
    have hgy : ∀ c ∈ g ++ [x], R G.E c y := fun c hc => (grx c hc).trans (.one hy)
    have hin := (walked_spec _ _ _ _ hw).1
    have hspec := (walked_spec _ _ _ _ hw).2
    have hent := walked_enter hw hyc
    by_cases hs : S G.E x y
    · obtain ⟨σ1, Z1, t1, t2, t3, t4, ⟨k, M', k1, k2, k3⟩, t5⟩ := IH y σc Zc (g ++ [x]) Mc b1 L.inv hyn hyc hgy hw hW (L.kh.of_same hs) (.inr ⟨x, hxc, hs.symm⟩)
      have hb1 : ∀ u ∈ σc.begun, u ∈ σ1.begun := fun u hu => by rw [t2]; exact hspec.pre.subset hu
      have hNx : σ1.N x = σc.N x := (t4 x hxc).1
      have hy1 : y ∈ σ1.begun := by rw [t2]; exact hin
      rcases t5 with ⟨p1, p2, p3⟩ | ⟨p1, p2, p3, p4⟩
      · exact absurd (t3.popClosed hs.2 hy1 p1).2 (by rw [hNx]; exact hxM)
      · have hfy := t3.own y p1
        have ht : turn (trav G.E G.V f) x σc y = some (meet x y σ1) := by
          unfold turn; rw [if_pos hN, t1]; simp [hb1 x hxc, hy1]
        have hM2 : mrg M (mrg (Z1 x) (Z1 (σ1.fid y))) = M' := by rw [mrg_assoc, hfy, (t4 x hxc).2.2.1, L.mm, k2]
        refine ⟨meet x y σ1, _, _, ht, t2, ⟨k, by rw [H.same x y hxn hy hs]; exact k1⟩, meet_ok H hxb hy t3 (L.pre.trans p2) (by rw [t2]; exact L.bpre.trans hspec.pre) ?_ hy1 (k3.of_same hs.symm) hM2 ?_ ?_⟩
        · intro u hu
          have hu' : u ∈ σc.begun := L.bpre.subset (by simp [hu])
          have e := t4 u hu'; have e' := L.frame u hu
          exact ⟨e.1.trans e'.1, e.2.1.trans e'.2.1, e.2.2.1.trans e'.2.2.1, e.2.2.2.trans e'.2.2.2⟩
        · intro u hu hn
          by_cases hc : u ∈ σc.stack
          · have := L.l2 u hc hn
            have e := (t4 u (L.inv.stackIn.mp hc).1).1
            lia
          · have := p4 u hu hc; lia
        · intro v hv
          have := L.proc v hv
          refine ⟨hb1 v this.1, fun hvs => ?_⟩
          have e := (t4 v this.1).1
          have hvc : v ∈ σc.stack := L.inv.stackIn.mpr ⟨this.1, by rw [← e]; exact (t3.stackIn.mp hvs).2⟩
          rw [hNx, pos_pre p2 hvc]; exact this.2 hvc
    · -- a knot that is met for the first time
      have hno : ∀ z ∈ σc.begun, ¬ S G.E y z := fun z hz hyz => by
        by_cases hp : σc.N z = MAXI
        · exact hyc (L.inv.popClosed hyz.2 hz hp).1
        · exact hs ⟨.one hy, hyz.1.trans (stx z (L.inv.stackIn.mpr ⟨hz, hp⟩))⟩
      have K0 : KH G y σc Zc [] := ⟨.nil, fun z hz => ⟨fun h => absurd h (by simp), fun h => absurd hz (hno z h)⟩, fun z hz => absurd hz (by simp),
        fun z hz h => absurd h (hno z (L.inv.stackIn.mp hz).1), fun z hz => absurd hz (by simp)⟩
      obtain ⟨σ1, Z1, t1, t2, t3, t4, ⟨k, M', k1, k2, k3⟩, t5⟩ := IH y σc Zc (g ++ [x]) [] b1 L.inv hyn hyc hgy hw hW K0 (.inl rfl)
      have hb1 : ∀ u ∈ σc.begun, u ∈ σ1.begun := fun u hu => by rw [t2]; exact hspec.pre.subset hu
      have hNx : σ1.N x = σc.N x := (t4 x hxc).1
      have hy1 : y ∈ σ1.begun := by rw [t2]; exact hin
      rcases t5 with ⟨p1, p2, p3⟩ | ⟨p1, p2, p3, p4⟩
      · have hz1 : M' = Z1 y := by rw [← k2]; exact once_of_nodup (t3.cont y hy1).2
        have hz4 := fun z => walked_nil_iff k1 z
        rw [hz1] at hz4 k1
        have hcl : ∀ z ∈ Mc, R G.P y z → ∀ u, R G.P z u → u ∈ Mc := fun z hz hr =>
          L.kh.clo z hz fun hsz => hs ⟨.one hy, (H.path hr hyn).1.trans hsz.2⟩
        have hov := walked_over k y [] (Z1 y) hcl .nil k1
        rw [mrg_nil] at hov
        have hpl : G.pl x y = y := by
          rw [H.other x y hxn hy hs]
          exact H.first σc.begun y (hent.trans hW) hno y (S.refl _ _)
        have ht : turn (trav G.E G.V f) x σc y = some (meet x y σ1) := by
          unfold turn; rw [if_pos hN, t1]; simp [hb1 x hxc, hy1]
        have hM2 : mrg M (mrg (Z1 x) (Z1 (σ1.fid y))) = mrg Mc (Z1 y) := by rw [mrg_assoc, p3, (t4 x hxc).2.2.1, L.mm]
        refine ⟨meet x y σ1, _, _, ht, t2, ⟨k, by rw [hpl]; exact hov⟩, meet_ok H hxb hy t3 (by rw [p2]; exact L.pre) (by rw [t2]; exact L.bpre.trans hspec.pre) ?_ hy1 ?_ hM2 ?_ ?_⟩
        · intro u hu
          have hu' : u ∈ σc.begun := L.bpre.subset (by simp [hu])
          have e := t4 u hu'; have e' := L.frame u hu
          exact ⟨e.1.trans e'.1, e.2.1.trans e'.2.1, e.2.2.1.trans e'.2.2.1, e.2.2.2.trans e'.2.2.2⟩
        · refine ⟨mrg_nodup L.kh.nd, ?_, ?_, ?_, ?_⟩
          · intro z hz
            have hnz : z ∉ Z1 y := fun hz' => hs ⟨.one hy, (H.path ((hz4 z).mp hz') hyn).1.trans hz.2⟩
            rw [mem_mrg, L.kh.same z hz, t2]
            refine ⟨fun h => hspec.pre.subset (h.resolve_right hnz), fun h => .inl ?_⟩
            refine (hspec.from_ z h).resolve_right fun hr => hs ⟨.one hy, hr.trans hz.2⟩
          · intro z hz hn u hu
            rcases mem_mrg.mp hz with h | h
            · exact mem_mrg.mpr (.inl (L.kh.clo z h hn u hu))
            · exact mem_mrg.mpr (.inr ((hz4 u).mpr (((hz4 z).mp h).trans hu)))
          · intro z hz hsz a ha
            rw [p2] at hz
            have e := (t4 z (L.inv.stackIn.mp hz).1).2.2.1
            rw [e] at ha
            exact mem_mrg.mpr (.inl (L.kh.zin z hz hsz a ha))
          · intro z hz
            rcases mem_mrg.mp hz with h | h
            · exact L.kh.low z h
            · exact (H.path ((hz4 z).mp h) hyn).2
        · intro u hu hn
          rw [p2] at hu
          have := L.l2 u hu hn
          have e := (t4 u (L.inv.stackIn.mp hu).1).1
          lia
        · intro v hv
          have := L.proc v hv
          refine ⟨hb1 v this.1, fun hvs => ?_⟩
          rw [p2] at hvs ⊢
          rw [hNx]; exact this.2 hvs
      · -- it would be of x's knot
        exfalso
        obtain ⟨z, hz, hp, hr⟩ := t3.att y p1
        have hzc : z ∈ σc.stack := mem_of_pos p2 (by rw [hp]; exact p3)
        exact hs ⟨.one hy, hr.trans (stx z hzc)⟩

theorem loop_ok (H : Given G) {f : Nat} (IH : Main G f) {σ : TS α} {Z : Nat → List Nat} {g M : List Nat} {x : Nat} {b' : List Nat}
    (hxn : x < G.n) (hxb : x ∉ σ.begun) (hg : ∀ c ∈ g, R G.E c x) (hW : b' <+: G.W) :
    ∀ (l done : List Nat) (σc : TS α) (Zc : Nat → List Nat) (Mc : List Nat), (∀ v ∈ l, v ∈ G.E x) → LI G σ Z g M x σc Zc Mc done → l.foldlM (fun m y => walked G.E f y m) σc.begun = some b' →
    ∃ σ' Z' M', l.foldlM (turn (trav G.E G.V f) x) σc = some σ' ∧ σ'.begun = b' ∧ (∃ k, (l.map (G.pl x)).foldlM (fun m y => walked G.P k y m) Mc = some M') ∧ LI G σ Z g M x σ' Z' M' (done ++ l) := by
  intro l
  induction l with
  | nil =>
    intro done σc Zc Mc _ L h
    have e : σc.begun = b' := by simpa using h
    exact ⟨σc, Zc, Mc, rfl, e, ⟨0, rfl⟩, by simpa using L⟩
  | cons y l ih =>
    intro done σc Zc Mc hl L h
    rw [List.foldlM_cons] at h
    cases e1 : walked G.E f y σc.begun with
    | none => rw [e1] at h; cases h
    | some b1 =>
      rw [e1] at h
      have h : l.foldlM (fun m y => walked G.E f y m) b1 = some b' := h
      obtain ⟨σ2, Z2, M2, a1, a2, ⟨k, a3⟩, a4⟩ := turn_ok H IH hxn hxb hg (hl y List.mem_cons_self) L e1 ((walks_spec h).2.pre.trans hW)
      rw [← a2] at h
      obtain ⟨σ', Z', M', c1, c2, ⟨k', c3⟩, c4⟩ := ih (done ++ [y]) σ2 Z2 M2 (fun v hv => hl v (List.mem_cons_of_mem _ hv)) a4 h
      refine ⟨σ', Z', M', ?_, c2, ⟨max k k', ?_⟩, by simpa using c4⟩
      · rw [List.foldlM_cons, a1]; exact c1
      · rw [List.map_cons, List.foldlM_cons, walked_mono a3 (Nat.le_max_left _ _)]
        exact foldlM_mono (fun b a b' e => walked_mono e (Nat.le_max_right _ _)) _ _ _ c3
end
end G
end Mine
end

-- part G7
section
set_option linter.unusedSectionVars false
namespace Mine
namespace G
section
variable {α : Type} [DecidableEq α] {G : Gr α}

theorem main_ok (H : Given G) : ∀ f, Main G f := by
  intro f
  induction f with
  | zero => intro x σ Z g M b' _ _ _ _ hw; simp [walked] at hw
  | succ f IH =>
    intro x σ Z g M b' I hxn hxb hg hw hW K hM
    have hxM : x ∉ M := fun h => hxb ((K.same x (S.refl _ _)).mp h)
    rw [walked_succ, if_neg hxb] at hw
    obtain ⟨σ1, Z1, M1, a1, a2, ⟨k, a3⟩, L⟩ := loop_ok H IH hxn hxb hg hW (G.E x) [] _ _ _ (fun _ h => h) (enter_ok H I hxn hxb hg K) hw
    rw [List.nil_append] at L
    have hP : walked G.P (k + 1) x M = some M1 := by rw [walked_succ, if_neg hxM]; exact a3
    have hxs : x ∉ σ.stack := fun h => hxb (I.stackIn.mp h).1
    have hxs1 : x ∈ σ1.stack := L.pre.subset (by simp)
    have hpre : σ.stack <+: σ1.stack := (List.prefix_append _ _).trans L.pre
    have hpx : pos σ1.stack x = σ.stack.length + 1 := by rw [pos_pre L.pre (by simp)]; exact pos_last hxs
    have hgx : ∀ c ∈ g, c ≠ x := fun c hc e => hxs (e ▸ I.gsub c hc)
    have hNx := L.inv.low x hxs1
    rw [hpx] at hNx
    rw [trav_succ, a1]
    show ∃ σ' Z', (if σ1.N x = (σ.stack.length : Int) + 1 then popTo x σ1.stack.length σ1 else some σ1) = some σ' ∧ _
    by_cases hd : σ1.N x = (σ.stack.length : Int) + 1
    · -- the knot's first name: the knot leaves the stack
      rw [if_pos hd]
      obtain ⟨t, ht⟩ := L.pre
      have ht : σ1.stack = σ.stack ++ x :: t := by rw [← ht]; simp
      have hnd := L.inv.stackNd
      rw [ht, List.nodup_append, List.nodup_cons] at hnd
      obtain ⟨hnd1, ⟨hxt, hnd2⟩, hdis⟩ := hnd
      obtain ⟨σ', b1, b2, b3, b4, b5, b6⟩ := popTo_spec x σ.stack t σ1.stack.length σ1 ht hxt (by rw [ht]; simp; lia)
      have hDs : ∀ u ∈ x :: t, u ∈ σ1.stack := fun u hu => by rw [ht]; exact List.mem_append_right _ hu
      have hDn : ∀ u ∈ x :: t, u ∉ σ.stack := fun u hu hs => hdis u hs u hu rfl
      have hsD : ∀ u ∈ σ1.stack, u ∉ σ.stack → u ∈ x :: t := fun u hu hn => by rw [ht] at hu; exact (List.mem_append.mp hu).resolve_left hn
      have hDb : ∀ u ∈ x :: t, u ∉ σ.begun := fun u hu hb => by
        have h1 := (L.inv.stackIn.mp (hDs u hu)).2
        rw [(L.frame u hb).1] at h1
        exact hDn u hu (I.stackIn.mpr ⟨hb, h1⟩)
      -- edges out of the knot lead to what is finished
      have good : ∀ u ∈ x :: t, ∀ v ∈ G.E u, v ∈ σ1.begun ∧ (σ1.N v = MAXI ∨ v ∈ x :: t) := by
        intro u hu v hv
        have hle : v ∈ σ1.begun ∧ (v ∈ σ1.stack → (σ.stack.length : Int) + 1 ≤ pos σ1.stack v) := by
          by_cases hux : u = x
          · subst hux
            have := L.proc v hv
            exact ⟨this.1, fun hs => by have := this.2 hs; lia⟩
          · have hug : u ∉ g ++ [x] := fun h => by
              rcases List.mem_append.mp h with h | h
              · exact hDn u hu (I.gsub u h)
              · exact hux (by simpa using h)
            have := L.inv.fin u (hDs u hu) hug v hv
            have h2 := L.l2 u (hDs u hu) (hDn u hu)
            exact ⟨this.1, fun hs => by have := this.2 hs; lia⟩
        refine ⟨hle.1, ?_⟩
        by_cases hm : σ1.N v = MAXI
        · exact .inl hm
        · have hvs := L.inv.stackIn.mpr ⟨hle.1, hm⟩
          refine .inr (hsD v hvs fun h => ?_)
          have := hle.2 hvs
          have := pos_old hpre h
          lia
      have close : ∀ z, R G.E x z → z ∈ σ1.begun ∧ (σ1.N z = MAXI ∨ z ∈ x :: t) := fun z hr =>
        R.closed (p := fun z => z ∈ σ1.begun ∧ (σ1.N z = MAXI ∨ z ∈ x :: t)) (fun u hu v hv => by
          rcases hu.2 with h | h
          · have := L.inv.popd u hu.1 h v hv; exact ⟨this.1, .inl this.2⟩
          · exact good u h v hv) hr ⟨(L.inv.stackIn.mp hxs1).1, .inr List.mem_cons_self⟩
      have noMate : ∀ z ∈ σ.begun, ¬ S G.E x z := fun z hz hs => by
        rcases (close z hs.1).2 with h | h
        · have hz1 : z ∈ σ1.begun := L.bpre.subset (by simp [hz])
          exact (L.inv.stackIn.mp hxs1).2 (L.inv.popClosed hs.2 hz1 h).2
        · exact hDb z h hz
      have hM0 : M = [] := hM.resolve_right fun ⟨z, hz, hs⟩ => noMate z hz hs
      subst hM0
      have hZ1 : M1 = Z1 x := by rw [← L.mm]; exact once_of_nodup (L.inv.cont x (L.inv.stackIn.mp hxs1).1).2
      have mates : ∀ e ∈ x :: t, S G.E x e := fun e he => by
        refine ⟨L.inv.rch x (by simp) e (hDs e he) (by rw [hpx]; exact pos_new hpre (hDn e he)), ?_⟩
        obtain ⟨c, hc, _, hr⟩ := L.inv.gry e (hDs e he)
        rcases List.mem_append.mp hc with h | h
        · exact hr.trans (hg c h)
        · rw [show c = x by simpa using h] at hr; exact hr
      have hrp : ∀ e ∈ x :: t, G.rp e = x := fun e he => H.first σ.begun x (L.bpre.trans (by rw [a2]; exact hW)) noMate e (mates e he)
      have n5 : ∀ u, u ∉ x :: t → σ'.N u = σ1.N u := fun u hu => by rw [b5, if_neg hu]
      have n5' : ∀ u, σ1.N u = MAXI → σ'.N u = MAXI := fun u hu => by rw [b5]; split; rfl; exact hu
      have n6 : ∀ u, σ'.N u = MAXI → σ1.N u = MAXI ∨ u ∈ x :: t := fun u hu => by
        by_cases h : u ∈ x :: t
        · exact .inr h
        · rw [n5 u h] at hu; exact .inl hu
      have sD : ∀ u ∈ σ.stack, u ∉ x :: t := fun u hu h => hDn u h hu
      have ps : ∀ u ∈ σ.stack, pos σ1.stack u = pos σ.stack u := fun u hu => pos_pre hpre hu
      refine ⟨σ', Z1, b1, by rw [b3]; exact a2, ⟨by rw [b3]; exact L.inv.nd, by rw [b3]; exact L.inv.lt, ?_, ?_, ?_, ?_, ?_, ?_, ?_, ?_, ?_, ?_, ?_, ?_⟩, ?_, ⟨k + 1, M1, hP, L.mm, ⟨L.kh.nd, by rw [b3]; exact L.kh.same, L.kh.clo, ?_, L.kh.low⟩⟩, .inl ⟨?_, b2, ?_⟩⟩
      · intro u hu
        rw [b3]
        by_cases h : u ∈ x :: t
        · rw [b5, if_pos h]
          have := (L.inv.stackIn.mp (hDs u h)).1
          simp [this]; decide
        · rw [n5 u h]; exact L.inv.zero u hu
      · rw [b2, b3]
        have e : (σ1.begun.filter fun u => decide (σ'.N u ≠ MAXI)) = (σ1.begun.filter fun u => decide (σ1.N u ≠ MAXI)).filter fun u => decide (u ∉ x :: t) := by
          rw [List.filter_filter]
          apply List.filter_congr
          intro u _
          by_cases h : u ∈ x :: t
          · rw [b5, if_pos h]; simp [h]
          · rw [n5 u h]; simp [h]
        rw [e, ← L.inv.stk, ht, List.filter_append, List.filter_eq_self.mpr (fun u hu => by simpa using sD u hu), List.filter_eq_nil_iff.mpr (fun u hu => by simp only [decide_eq_true_eq]; exact fun h => h hu)]
        simp
      · intro u hu
        rw [b2] at hu ⊢
        rw [n5 u (sD u hu), ← ps u hu]; exact L.inv.low u (hpre.subset hu)
      · intro u hu hm v hv
        rw [b3] at hu ⊢
        rcases n6 u hm with h | h
        · have := L.inv.popd u hu h v hv; exact ⟨this.1, n5' v this.2⟩
        · have := good u h v hv
          refine ⟨this.1, this.2.elim (n5' v) fun h' => by rw [b5, if_pos h']⟩
      · intro u hu hug v hv
        rw [b2] at hu
        have hug' : u ∉ g ++ [x] := fun h => by
          rcases List.mem_append.mp h with h | h
          · exact hug h
          · exact hxs (by rw [← show u = x by simpa using h]; exact hu)
        have := L.inv.fin u (hpre.subset hu) hug' v hv
        rw [b3, b2, n5 u (sD u hu)]
        refine ⟨this.1, fun hs => ?_⟩
        rw [← ps v hs]; exact this.2 (hpre.subset hs)
      · intro u hu
        rw [b2] at hu ⊢
        obtain ⟨z, hz, h1, h2⟩ := L.inv.att u (hpre.subset hu)
        have hl := (L.inv.low u (hpre.subset hu)).2
        have hz' : z ∈ σ.stack := mem_of_pos hpre (by have := pos_old hpre hu; lia)
        exact ⟨z, hz', by rw [← ps z hz', n5 u (sD u hu)]; exact h1, h2⟩
      · intro y hy
        rw [b2] at hy ⊢
        obtain ⟨c, hc, h1, h2⟩ := L.inv.gry y (hpre.subset hy)
        have hcx : c ≠ x := by
          rintro rfl
          have := pos_old hpre hy
          lia
        have hcg : c ∈ g := (List.mem_append.mp hc).resolve_right (by simpa using hcx)
        exact ⟨c, hcg, by rw [← ps c (I.gsub c hcg), ← ps y hy]; exact h1, h2⟩
      · intro c hc; rw [b2]; exact I.gsub c hc
      · intro c hc y hy
        rw [b2] at hy ⊢
        intro hle
        rw [← ps c (I.gsub c hc), ← ps y hy] at hle
        exact L.inv.rch c (by simp [hc]) y (hpre.subset hy) hle
      · intro u hu
        rw [b2] at hu
        rw [b6, if_neg (sD u hu)]; exact L.inv.own u (hpre.subset hu)
      · intro y hy hm
        rw [b3] at hy ⊢
        by_cases h : y ∈ x :: t
        · rw [b6, if_pos h, hrp y h, L.inv.own x hxs1]
          exact ⟨rfl, (L.inv.stackIn.mp hxs1).1, by rw [b5, if_pos List.mem_cons_self], k + 1, by rw [hP, hZ1]⟩
        · rw [b6, if_neg h]
          obtain ⟨h1, h2, h3, h4⟩ := L.inv.fidp y hy ((n6 y hm).resolve_right h)
          exact ⟨h1, h2, n5' _ h3, h4⟩
      · intro i hi
        rw [b3] at hi; rw [b4]; exact L.inv.cont i hi
      · intro u hu
        have hun : u ∉ x :: t := fun h => hDb u h hu
        rw [n5 u hun, b6, if_neg hun, b4]
        exact L.frame u hu
      · intro z hz hs; rw [b2] at hz; exact L.kh.zin z (hpre.subset hz) hs
      · rw [b5, if_pos List.mem_cons_self]
      · rw [b6, if_pos List.mem_cons_self]; exact L.inv.own x hxs1
    · rw [if_neg hd]
      have hlow : σ1.N x ≤ σ.stack.length := by lia
      refine ⟨σ1, Z1, rfl, a2, ⟨L.inv.nd, L.inv.lt, L.inv.zero, L.inv.stk, L.inv.low, L.inv.popd, ?_, L.inv.att, ?_, ?_, ?_, L.inv.own, L.inv.fidp, L.inv.cont⟩, L.frame, ⟨k + 1, M1, hP, L.mm, L.kh⟩, .inr ⟨hxs1, hpre, hlow, L.l2⟩⟩
      · intro u hu hug v hv
        by_cases hux : u = x
        · subst hux; exact L.proc v hv
        · exact L.inv.fin u hu (fun h => by
            rcases List.mem_append.mp h with h | h
            · exact hug h
            · exact hux (by simpa using h)) v hv
      · intro y hy
        obtain ⟨c, hc, h1, h2⟩ := L.inv.gry y hy
        rcases List.mem_append.mp hc with h | h
        · exact ⟨c, h, h1, h2⟩
        · have hcx : c = x := by simpa using h
          subst hcx
          obtain ⟨z, hz, h3, h4⟩ := L.inv.att c hxs1
          obtain ⟨c', hc', h5, h6⟩ := L.inv.gry z hz
          have hne : c' ≠ c := by rintro rfl; lia
          exact ⟨c', (List.mem_append.mp hc').resolve_right (by simpa using hne), by lia, h2.trans (h4.trans h6)⟩
      · intro c hc; exact L.inv.gsub c (by simp [hc])
      · intro c hc; exact L.inv.rch c (by simp [hc])
end
end G
end Mine
end

-- part G8
section
set_option linter.unusedSectionVars false
namespace Mine
namespace G

section
variable {α : Type} [DecidableEq α]

def said (E : Nat → List Nat) (V : Nat → List α) (pl : Nat → Nat → Nat) : Nat → Nat → List Nat → Option (List α × List Nat)
  | 0, _, _ => none
  | f + 1, x, met => (E x).foldlM (fun (q : List α × List Nat) y => if pl x y ∈ q.2 then some q else (said E V pl f (pl x y) q.2).map fun r => (q.1 ++ r.1, r.2)) (V x, met ++ [x])

theorem said_succ (E : Nat → List Nat) (V : Nat → List α) (pl : Nat → Nat → Nat) (f x : Nat) (met : List Nat) : said E V pl (f + 1) x met =
    (E x).foldlM (fun (q : List α × List Nat) y => if pl x y ∈ q.2 then some q else (said E V pl f (pl x y) q.2).map fun r => (q.1 ++ r.1, r.2)) (V x, met ++ [x]) := by rw [said]

theorem said_of_walked (E : Nat → List Nat) (V : Nat → List α) (pl : Nat → Nat → Nat) : ∀ (f x : Nat) (met met' : List Nat), x ∉ met → walked (fun x => (E x).map (pl x)) f x met = some met' →
    said E V pl f x met = some ((met'.drop met.length).flatMap V, met') := by
  intro f
  induction f with
  | zero => intro x met met' _ h; simp [walked] at h
  | succ f ih =>
    intro x met met' hx h
    rw [walked_succ, if_neg hx] at h
    rw [said_succ]
    have fold : ∀ (l : List Nat) (m : List Nat), met <+: m → (l.map (pl x)).foldlM (fun m y => walked (fun x => (E x).map (pl x)) f y m) m = some met' →
        l.foldlM (fun (q : List α × List Nat) y => if pl x y ∈ q.2 then some q else (said E V pl f (pl x y) q.2).map fun r => (q.1 ++ r.1, r.2)) ((m.drop met.length).flatMap V, m) = some ((met'.drop met.length).flatMap V, met') := by
      intro l
      induction l with
      | nil => intro m _ e
               have e : m = met' := by simpa using e
               subst e; rfl
      | cons y l ihl =>
        intro m hm e
        rw [List.map_cons, List.foldlM_cons] at e
        cases e1 : walked (fun x => (E x).map (pl x)) f (pl x y) m with
        | none => rw [e1] at e; cases e
        | some m1 =>
          rw [e1] at e
          rw [List.foldlM_cons]
          by_cases hp : pl x y ∈ m
          · have : m1 = m := walked_skip e1 hp
            subst this
            simp only [hp, if_true]
            exact ihl _ hm e
          · simp only [hp, if_false]
            rw [ih _ _ _ hp e1]
            have hpre := (walked_spec _ _ _ _ e1).2.pre
            have hlen : met.length ≤ m.length := hm.length_le
            have : (m.drop met.length).flatMap V ++ (m1.drop m.length).flatMap V = (m1.drop met.length).flatMap V := by
              rw [← List.flatMap_append]
              congr 1
              obtain ⟨t, rfl⟩ := hpre
              rw [List.drop_left, List.drop_append_of_le_length hlen]
            show l.foldlM _ ((m.drop met.length).flatMap V ++ (m1.drop m.length).flatMap V, m1) = _
            rw [this]
            exact ihl m1 (hm.trans hpre) e
    have h0 := fold (E x) (met ++ [x]) (List.prefix_append _ _) h
    rw [List.drop_left] at h0
    simpa using h0
end

section
variable {α : Type} [DecidableEq α] (E : Nat → List Nat) (V : Nat → List α) (n f : Nat) (order : List Nat)

def reach (x : Nat) : List Nat := (walked E f x []).getD []
def walkL : List Nat := (order.foldlM (fun m y => walked E f y m) []).getD []
def knots (x : Nat) : List Nat := (walkL E f order).filter fun y => decide (y ∈ reach E f x) && decide (x ∈ reach E f y)
def rpOf (x : Nat) : Nat := (knots E f order x).headD x
def plOf (x y : Nat) : Nat := if y ∈ knots E f order x then y else rpOf E f order y
def grOf : Gr α := { E := E, n := n, V := V, rp := rpOf E f order, pl := plOf E f order, W := walkL E f order }

structure Asked : Prop where
  small : n < 1000
  fuel : n < f
  inn : ∀ x, x < n → ∀ y ∈ E x, y < n
  vnd : ∀ x, x < n → (V x).Nodup
  ord : ∀ x, x ∈ order ↔ x < n
end

section
variable {α : Type} [DecidableEq α] {E : Nat → List Nat} {V : Nat → List α} {n f : Nat} {order : List Nat}

theorem R.under (hE : ∀ x, x < n → ∀ y ∈ E x, y < n) {x y : Nat} (h : R E x y) (hx : x < n) : y < n := R.closed (p := fun z => z < n) (fun u hu v hv => hE u hu v hv) h hx

theorem Asked.walk (A : Asked E V n f order) : order.foldlM (fun m y => walked E f y m) [] = some (walkL E f order) := by
  obtain ⟨m, hm⟩ := walks_some A.inn A.fuel order [] (fun y hy => (A.ord y).mp hy)
  rw [walkL, hm]; rfl
theorem Asked.walkMem (A : Asked E V n f order) (x : Nat) : x ∈ walkL E f order ↔ x < n := by
  obtain ⟨h1, h2⟩ := walks_spec A.walk
  refine ⟨fun h => ?_, fun h => h1 x ((A.ord x).mpr h)⟩
  rcases h2.from_ x h with h | ⟨y, hy, hr⟩
  · simp at h
  · exact hr.under A.inn ((A.ord y).mp hy)
theorem Asked.walkNd (A : Asked E V n f order) : (walkL E f order).Nodup := (walks_spec A.walk).2.nodup .nil
theorem Asked.reached (A : Asked E V n f order) {x : Nat} (hx : x < n) : walked E f x [] = some (reach E f x) := by
  obtain ⟨m, hm⟩ := walked_some A.inn f x [] hx (by rw [unv_nil]; exact A.fuel)
  rw [reach, hm]; rfl
theorem Asked.reachMem (A : Asked E V n f order) {x : Nat} (hx : x < n) (z : Nat) : z ∈ reach E f x ↔ R E x z := walked_nil_iff (A.reached hx) z
theorem Asked.knotMem (A : Asked E V n f order) {x : Nat} (hx : x < n) (y : Nat) : y ∈ knots E f order x ↔ S E x y := by
  unfold knots
  rw [List.mem_filter, A.walkMem]
  constructor
  · rintro ⟨hy, h⟩
    simp only [Bool.and_eq_true, decide_eq_true_eq, A.reachMem hx, A.reachMem hy] at h
    exact h
  · intro h
    have hy := h.1.under A.inn hx
    refine ⟨hy, ?_⟩
    simp only [Bool.and_eq_true, decide_eq_true_eq, A.reachMem hx, A.reachMem hy]
    exact h
theorem Asked.knotHead (A : Asked E V n f order) {x : Nat} (hx : x < n) : ∃ t, knots E f order x = rpOf E f order x :: t := by
  have h := (A.knotMem hx x).mpr (S.refl _ _)
  unfold rpOf
  cases e : knots E f order x with
  | nil => rw [e] at h; simp at h
  | cons a t => exact ⟨t, rfl⟩
theorem Asked.rpS (A : Asked E V n f order) {x : Nat} (hx : x < n) : S E x (rpOf E f order x) ∧ rpOf E f order x < n := by
  obtain ⟨t, ht⟩ := A.knotHead hx
  have h : S E x (rpOf E f order x) := (A.knotMem hx _).mp (by rw [ht]; exact List.mem_cons_self)
  exact ⟨h, h.1.under A.inn hx⟩
theorem Asked.rpSame (A : Asked E V n f order) {x y : Nat} (hx : x < n) (hy : y < n) (h : S E x y) : rpOf E f order x = rpOf E f order y := by
  have e : knots E f order x = knots E f order y := by
    unfold knots
    apply List.filter_congr
    intro z hz
    have hzn := (A.walkMem z).mp hz
    rw [Bool.eq_iff_iff]
    simp only [Bool.and_eq_true, decide_eq_true_eq, A.reachMem hx, A.reachMem hy, A.reachMem hzn]
    exact ⟨fun k => h.symm.trans k, fun k => h.trans k⟩
  obtain ⟨t, ht⟩ := A.knotHead hx
  obtain ⟨u, hu⟩ := A.knotHead hy
  rw [e, hu] at ht
  exact (List.cons.inj ht).1.symm

theorem Asked.given (A : Asked E V n f order) : Given (grOf E V n f order) := by
  have hsm := A.small
  refine ⟨?_, A.inn, A.vnd, ?_, ?_, ?_, ?_⟩
  · show (n : Int) + 1 < MAXI
    have : (1001 : Int) < MAXI := by decide
    lia
  · intro x y hx hy hs
    show plOf E f order x y = y
    unfold plOf; rw [if_pos ((A.knotMem hx y).mpr hs)]
  · intro x y hx hy hs
    show plOf E f order x y = rpOf E f order y
    unfold plOf; rw [if_neg (fun h => hs ((A.knotMem hx y).mp h))]
  · intro y hy; exact A.rpS hy
  · intro b y hb hno e hs
    show rpOf E f order e = y
    have hb : (b ++ [y]) <+: walkL E f order := hb
    have hyn : y < n := (A.walkMem y).mp (hb.subset (by simp))
    have hen : e < n := hs.1.under A.inn hyn
    have hbn : ∀ z ∈ b, z < n := fun z hz => (A.walkMem z).mp (hb.subset (by simp [hz]))
    obtain ⟨t, ht⟩ := hb
    unfold rpOf knots
    rw [← ht, List.filter_append, List.filter_append, List.filter_eq_nil_iff.mpr (fun z hz => ?_), List.nil_append, List.filter_cons_of_pos]
    · rfl
    · simp only [Bool.and_eq_true, decide_eq_true_eq, A.reachMem hen, A.reachMem hyn]
      exact ⟨hs.2, hs.1⟩
    · simp only [Bool.and_eq_true, decide_eq_true_eq, A.reachMem hen, A.reachMem (hbn z hz)]
      exact fun h => hno z hz (hs.trans h)

theorem start_inv : Inv (grOf E V n f order) start (fun _ => []) [] := by
  have no : ∀ {x : Nat}, x ∈ ([] : List Nat) → False := fun h => by simp at h
  exact ⟨.nil, fun _ h => (no h).elim, fun x _ => by simp [start], rfl, fun _ h => (no h).elim, fun _ h => (no h).elim, fun _ h => (no h).elim, fun _ h => (no h).elim, fun _ h => (no h).elim, fun _ h => (no h).elim,
    fun _ h => (no h).elim, fun _ h => (no h).elim, fun _ h => (no h).elim, fun _ h => (no h).elim⟩

theorem Inv.noStack {G : Gr α} {σ : TS α} {Z : Nat → List Nat} (I : Inv G σ Z []) : σ.stack = [] := by
  cases e : σ.stack with
  | nil => rfl
  | cons a t =>
    obtain ⟨c, hc, _⟩ := I.gry a (by rw [e]; exact List.mem_cons_self)
    simp at hc

theorem digr_ok (A : Asked E V n f order) : ∃ σ Z, digr E V f order = some σ ∧ σ.begun = walkL E f order ∧ Inv (grOf E V n f order) σ Z [] := by
  have H := A.given
  have fold : ∀ (l : List Nat) (σ : TS α) (Z : Nat → List Nat), (∀ x ∈ l, x < n) → Inv (grOf E V n f order) σ Z [] → l.foldlM (fun m y => walked E f y m) σ.begun = some (walkL E f order) →
      ∃ σ' Z', l.foldlM (fun σ x => if σ.N x = 0 then trav E V f x σ else some σ) σ = some σ' ∧ σ'.begun = walkL E f order ∧ Inv (grOf E V n f order) σ' Z' [] := by
    intro l
    induction l with
    | nil =>
      intro σ Z _ I e
      have e : σ.begun = walkL E f order := by simpa using e
      exact ⟨σ, Z, rfl, e, I⟩
    | cons x l ih =>
      intro σ Z hl I e
      have hxn := hl x List.mem_cons_self
      rw [List.foldlM_cons] at e ⊢
      cases e1 : walked E f x σ.begun with
      | none => rw [e1] at e; cases e
      | some b1 =>
        rw [e1] at e
        have e : l.foldlM (fun m y => walked E f y m) b1 = some (walkL E f order) := e
        have hl' : ∀ x ∈ l, x < n := fun z hz => hl z (List.mem_cons_of_mem _ hz)
        by_cases hx : x ∈ σ.begun
        · have hb : b1 = σ.begun := walked_skip e1 hx
          subst hb
          have hN : σ.N x ≠ 0 := fun h => (I.zero x hxn).mp h hx
          rw [if_neg hN]
          exact ih σ Z hl' I e
        · have hN : σ.N x = 0 := (I.zero x hxn).mpr hx
          rw [if_pos hN]
          have hpop : ∀ z ∈ σ.begun, σ.N z = MAXI := fun z hz => by
            by_cases h : σ.N z = MAXI
            · exact h
            · have := I.stackIn.mpr ⟨hz, h⟩; rw [I.noStack] at this; simp at this
          have hno : ∀ z ∈ σ.begun, ¬ S E x z := fun z hz hs => hx (I.popClosed hs.2 hz (hpop z hz)).1
          have K0 : KH (grOf E V n f order) x σ Z [] := ⟨.nil, fun z hz => ⟨fun h => absurd h (by simp), fun h => absurd hz (hno z h)⟩, fun z hz => absurd hz (by simp),
            fun z hz => absurd hz (by rw [I.noStack]; simp), fun z hz => absurd hz (by simp)⟩
          obtain ⟨σ1, Z1, t1, t2, t3, _⟩ := main_ok H f x σ Z [] [] b1 I hxn hx (by simp) e1 ((walks_spec e).2.pre) K0 (.inl rfl)
          have t1 : trav E V f x σ = some σ1 := t1
          rw [t1]
          rw [← t2] at e
          exact ih σ1 Z1 hl' t3 e
  exact fold order start _ (fun x hx => (A.ord x).mp hx) start_inv A.walk

/- what the law asks, in plain words -/
theorem law_ok (A : Asked E V n f order) : ∃ σ : TS α, digr E V f order = some σ ∧ σ.begun = walkL E f order ∧
    (∀ x, x < n → σ.fid x = rpOf E f order x ∧ rpOf E f order x < n ∧ (∃ t, knots E f order x = rpOf E f order x :: t) ∧
      ∃ ws m, said E V (plOf E f order) f (rpOf E f order x) [] = some (ws, m) ∧ σ.C (rpOf E f order x) = once ws) ∧
    (∀ x y, x < n → y < n → (y ∈ knots E f order x ↔ rpOf E f order y = rpOf E f order x)) := by
  obtain ⟨σ, Z, h1, h2, I⟩ := digr_ok A
  refine ⟨σ, h1, h2, ?_, ?_⟩
  · intro x hx
    have hxb : x ∈ σ.begun := by rw [h2]; exact (A.walkMem x).mpr hx
    have hxm : σ.N x = MAXI := by
      by_cases h : σ.N x = MAXI
      · exact h
      · have := I.stackIn.mpr ⟨hxb, h⟩; rw [I.noStack] at this; simp at this
    obtain ⟨a1, a2, a3, k, a4⟩ := I.fidp x hxb hxm
    have hr := A.rpS hx
    refine ⟨a1, hr.2, A.knotHead hx, ?_⟩
    have hPn : ∀ x, x < n → ∀ y ∈ (fun x => (E x).map (plOf E f order x)) x, y < n := by
      intro x hx y hy
      obtain ⟨z, hz, rfl⟩ := List.mem_map.mp hy
      have hzn := A.inn x hx z hz
      unfold plOf
      split
      · exact hzn
      · exact (A.rpS hzn).2
    obtain ⟨m, hm⟩ := walked_some hPn f (rpOf E f order x) [] hr.2 (by rw [unv_nil]; exact A.fuel)
    have hs := said_of_walked E V (plOf E f order) f _ [] m (by simp) hm
    have hZ : Z (rpOf E f order x) = m := walked_det a4 hm
    refine ⟨_, m, hs, ?_⟩
    have hc := (I.cont _ a2).1
    have hc : σ.C (rpOf E f order x) = once ((Z (rpOf E f order x)).flatMap V) := hc
    rw [hc, hZ]; rfl
  · intro x y hx hy
    rw [A.knotMem hx]
    refine ⟨fun h => (A.rpSame hx hy h).symm, fun h => ?_⟩
    have h1 := (A.rpS hx).1
    have h2 := (A.rpS hy).1
    rw [h] at h2
    exact h1.trans h2.symm
end
end G
end Mine
end

-- part N1
section
open PySem PySem.W PyProof.Rows PySem.Spec
set_option linter.unusedSectionVars false
set_option linter.unusedVariables false
namespace Mine

/- the sign of a name told as a text -/
def letter (k : Nat) : Str := ⟨#[65 + k]⟩
def tagN : Str := Str.ofString "N"
def tupObj (k : Nat) (t t' : Tok) (n : Nat) : Obj := { cls := .type "tuple", data := .seq #[.int k t, .str tagN t'] n }

/- v is the name k: an int, a text or a pair, by the kind -/
def NameIs (kd : Nat) (h : Heap) (k : Nat) (v : Value) : Prop :=
  ((k + kd) % 3 = 0 ∧ ∃ t, v = .int k t) ∨ ((k + kd) % 3 = 1 ∧ ∃ t, v = .str (letter k) t) ∨
  ((k + kd) % 3 = 2 ∧ ∃ a t t' n, v = .ref a ∧ h.get? a = some (tupObj k t t' n))

def sumKind (prog : Program) (w : World) : KeyKind prog w (Int ⊕ Str) where
  is := fun k v => match k with | .inl i => Value.isInt i v | .inr x => Value.isStrOf x v
  hash := fun k => match k with | .inl i => hashInt i | .inr x => hashStr w x
  inj := fun v a b ha hb => by
    cases a with
    | inl i =>
      cases b with
      | inl j => rw [Value.isInt_inj v i j ha hb]
      | inr y =>
        obtain ⟨t, rfl⟩ := Value.isInt_shape ha
        obtain ⟨u, e⟩ := Value.isStrOf_shape hb
        cases e
    | inr x =>
      cases b with
      | inl j =>
        obtain ⟨t, rfl⟩ := Value.isInt_shape hb
        obtain ⟨u, e⟩ := Value.isStrOf_shape ha
        cases e
      | inr y => rw [Value.isStrOf_inj v x y ha hb]
  byValue := fun k v h => by
    cases k with
    | inl i => obtain ⟨t, rfl⟩ := Value.isInt_shape h; rfl
    | inr x => obtain ⟨t, rfl⟩ := Value.isStrOf_shape h; rfl
  pyHash := fun {A E s k v Q} hv h => by
    cases k with
    | inl i => obtain ⟨t, rfl⟩ := Value.isInt_shape hv; exact wpAny_pyHash_int h
    | inr x => obtain ⟨t, rfl⟩ := Value.isStrOf_shape hv; exact wpAny_pyHash_str h
  eqBool := fun {A E s a b u v Q} hu hv h => by
    cases a with
    | inl i =>
      obtain ⟨t, rfl⟩ := Value.isInt_shape hu
      cases b with
      | inl j =>
        obtain ⟨u, rfl⟩ := Value.isInt_shape hv
        refine wpAny_eqBool_int ?_
        have e : (i == j) = decide ((Sum.inl i : Int ⊕ Str) = .inl j) := by
          rw [Bool.eq_iff_iff]; simp
        rw [e]; exact h
      | inr y =>
        obtain ⟨u, rfl⟩ := Value.isStrOf_shape hv
        refine SeqAt.EqAt.int_str i t y u prog w E Q ?_
        simpa using h
    | inr x =>
      obtain ⟨t, rfl⟩ := Value.isStrOf_shape hu
      cases b with
      | inl j =>
        obtain ⟨u, rfl⟩ := Value.isInt_shape hv
        refine SeqAt.EqAt.str_int x t j u prog w E Q ?_
        simpa using h
      | inr y =>
        obtain ⟨u, rfl⟩ := Value.isStrOf_shape hv
        refine wpAny_eqBool_str ?_
        have e : decide (x = y) = decide ((Sum.inr x : Int ⊕ Str) = .inr y) := by
          rw [decide_eq_decide]; simp
        rw [e]; exact h
  «strs» := fun k x t v h => by
    cases k with
    | inl i => obtain ⟨t', e⟩ := Value.isInt_shape h; cases e
    | inr y =>
      obtain ⟨t', e⟩ := Value.isStrOf_shape h
      injection e with e _
      subst e
      cases v <;> rfl

def nhash (w : World) (kd k : Nat) : Int :=
  if (k + kd) % 3 = 0 then hashInt k else if (k + kd) % 3 = 1 then hashStr w (letter k) else reduceHash (Builtin.Tuple.tupleHashOf [hashInt k, hashStr w tagN])

section
variable {prog : Program} {w : World} {A : Around} {E : Value → Shared → Prop} {s : Shared} {kd : Nat}

theorem tup_key {h : Heap} {a : Addr} {k : Nat} {t t' : Tok} {n : Nat} (ho : h.get? a = some (tupObj k t t' n)) : IsTupleKey (sumKind prog w) h [.inl k, .inr tagN] a :=
  ⟨_, _, n, ho, rfl, rfl, .cons (by simp [sumKind, Value.isInt]) (.cons (by simp [sumKind, Value.isStrOf]) .nil)⟩
theorem tup_is {h : Heap} {a : Addr} {k : Nat} {t t' : Tok} {n : Nat} (ho : h.get? a = some (tupObj k t t' n)) : h.IsTuple a #[.int k t, .str tagN t'] := ⟨_, ho, rfl, n, rfl⟩

theorem name_hash {k : Nat} {v : Value} {Q : Int → Shared → Prop} (hu : A.units < cLine) (hv : NameIs kd s.heap k v) (h : ∀ tk, Q (nhash w kd k) { s with toks := tk }) :
    wpAny (model prog w) A (pyHash v) Q E s := by
  rcases hv with ⟨hk, t, rfl⟩ | ⟨hk, t, rfl⟩ | ⟨hk, a, t, t', n, rfl, ho⟩
  · refine wpAny_pyHash_int ?_
    have e : nhash w kd k = hashInt k := by simp [nhash, hk]
    rw [← e]; exact h _
  · refine wpAny_pyHash_str ?_
    have e : nhash w kd k = hashStr w (letter k) := by simp [nhash, hk]
    rw [← e]; exact h _
  · refine wpAny_pyHash_tuple (knd := sumKind prog w) hu (tup_key ho) ?_
    have e : nhash w kd k = tupleKeyHash (sumKind prog w) [.inl k, .inr tagN] := by simp [nhash, hk]; rfl
    rw [← e]; exact h _

theorem letter_inj {x y : Nat} (h : letter x = letter y) : x = y := by
  have : (letter x).cps = (letter y).cps := by rw [h]
  simp [letter] at this; exact this

theorem name_eqAt {x y : Nat} {u v : Value} (hu : A.units < cLine) (hx : NameIs kd s.heap x u) (hy : NameIs kd s.heap y v) : SeqAt.EqAt A s u v (decide (x = y)) := by
  rcases hx with ⟨hk, t, rfl⟩ | ⟨hk, t, rfl⟩ | ⟨hk, a, t, t', n, rfl, ho⟩ <;> rcases hy with ⟨hk', u, rfl⟩ | ⟨hk', u, rfl⟩ | ⟨hk', b, u, u', n', rfl, ho'⟩
  · have e : decide (x = y) = ((x : Int) == (y : Int)) := by rw [Bool.eq_iff_iff]; simp; omega
    rw [e]; exact SeqAt.EqAt.int_int _ _ _ _
  · have e : decide (x = y) = false := by simp; rintro rfl; omega
    rw [e]; exact SeqAt.EqAt.int_str _ _ _ _
  · have e : decide (x = y) = false := by simp; rintro rfl; omega
    rw [e]; exact SeqAt.EqAt.int_tuple _ _ (tup_is ho') hu
  · have e : decide (x = y) = false := by simp; rintro rfl; omega
    rw [e]; exact SeqAt.EqAt.str_int _ _ _ _
  · have e : decide (x = y) = (letter x == letter y) := by
      rw [Bool.eq_iff_iff]; simp only [decide_eq_true_eq, beq_iff_eq]
      exact ⟨fun h => by rw [h], letter_inj⟩
    rw [e]; exact SeqAt.EqAt.str_str _ _ _ _
  · have e : decide (x = y) = false := by simp; rintro rfl; omega
    rw [e]; exact SeqAt.EqAt.str_tuple _ _ (tup_is ho') hu
  · have e : decide (x = y) = false := by simp; rintro rfl; omega
    rw [e]; exact SeqAt.EqAt.tuple_int _ _ (tup_is ho) hu
  · have e : decide (x = y) = false := by simp; rintro rfl; omega
    rw [e]; exact SeqAt.EqAt.tuple_str _ _ (tup_is ho) hu
  · intro prog w E Q hq
    refine wpAny_eqBool_tuple (knd := sumKind prog w) hu (tup_key ho) (tup_key ho') ?_
    have e : decide (x = y) = decide (([.inl (x : Int), .inr tagN] : List (Int ⊕ Str)) = [.inl (y : Int), .inr tagN]) := by
      rw [decide_eq_decide]; simp; omega
    rw [← e]; exact hq

theorem name_quiet {k : Nat} {v : Value} {Q : Bool → Shared → Prop} (hv : NameIs kd s.heap k v) (h : Q true s) : wpAny (model prog w) A (eqIsQuiet 8 v) Q E s := by
  rcases hv with ⟨hk, t, rfl⟩ | ⟨hk, t, rfl⟩ | ⟨hk, a, t, t', n, rfl, ho⟩
  · rw [eqIsQuiet_byValue 8 rfl]; exact wpAny_pure h
  · rw [eqIsQuiet_byValue 8 rfl]; exact wpAny_pure h
  · exact wpAny_eqIsQuiet_tuple (knd := sumKind prog w) (tup_key ho) h

theorem NameIs.inj {h : Heap} {x y : Nat} {v : Value} (hx : NameIs kd h x v) (hy : NameIs kd h y v) : x = y := by
  rcases hx with ⟨hk, t, rfl⟩ | ⟨hk, t, rfl⟩ | ⟨hk, a, t, t', n, rfl, ho⟩ <;> rcases hy with ⟨hk', u, e⟩ | ⟨hk', u, e⟩ | ⟨hk', b, u, u', n', e, ho'⟩ <;> first | cases e | skip
  · rfl
  · injection e with e; exact letter_inj e
  · rw [ho] at ho'
    have := Option.some.inj ho'
    simp [tupObj] at this
    omega
end
end Mine
end

-- part N2
section
open PySem PySem.W PyProof.Rows PySem.Spec
set_option linter.unusedSectionVars false
set_option linter.unusedVariables false
namespace Mine

/- a dict keyed by names -/
def dEnt (w : World) (kd : Nat) (nv : Nat → Value) (p : Nat × Value) : DictEntry := ⟨nhash w kd p.1, nv p.1, p.2⟩
def dObj (w : World) (kd : Nat) (nv : Nat → Value) (es : List (Nat × Value)) (ep : Nat) : Obj := { cls := .type "dict", data := .dict (es.map (dEnt w kd nv)).toArray ep }
def dget (es : List (Nat × Value)) (k : Nat) : Option Value := (es.find? fun p => p.1 == k).map (·.2)
def dput (es : List (Nat × Value)) (k : Nat) (v : Value) : List (Nat × Value) :=
  if (es.findIdx? fun p => p.1 == k).isSome then es.map fun p => if p.1 = k then (k, v) else p else es ++ [(k, v)]

theorem findIdx_of {es : List (Nat × Value)} (hnd : (es.map (·.1)).Nodup) {i k : Nat} {v : Value} (h : es[i]? = some (k, v)) : es.findIdx? (fun p => p.1 == k) = some i := by
  induction es generalizing i with
  | nil => simp at h
  | cons p es ih =>
    rw [List.map_cons, List.nodup_cons] at hnd
    cases i with
    | zero =>
      have e : p = (k, v) := by simpa using h
      subst e; simp [List.findIdx?_cons]
    | succ i =>
      have h : es[i]? = some (k, v) := by simpa using h
      have hne : p.1 ≠ k := fun e => hnd.1 (by rw [e]; exact List.mem_map.mpr ⟨_, List.mem_of_getElem? h, rfl⟩)
      simp [List.findIdx?_cons, hne, ih hnd.2 h]
theorem findIdx_none {es : List (Nat × Value)} {k : Nat} (h : ∀ (i : Nat) (v : Value), es[i]? ≠ some (k, v)) : es.findIdx? (fun p => p.1 == k) = none := by
  rw [List.findIdx?_eq_none_iff]
  intro p hp
  obtain ⟨i, hi⟩ := List.mem_iff_getElem?.mp hp
  cases hb : p.1 == k with
  | false => rfl
  | true => exact absurd (by rw [hi, ← eq_of_beq hb]) (h i p.2)
theorem dget_of {es : List (Nat × Value)} (hnd : (es.map (·.1)).Nodup) {i k : Nat} {v : Value} (h : es[i]? = some (k, v)) : dget es k = some v := by
  unfold dget
  induction es generalizing i with
  | nil => simp at h
  | cons p es ih =>
    rw [List.map_cons, List.nodup_cons] at hnd
    cases i with
    | zero =>
      have e : p = (k, v) := by simpa using h
      subst e; simp
    | succ i =>
      have h : es[i]? = some (k, v) := by simpa using h
      have hne : p.1 ≠ k := fun e => hnd.1 (by rw [e]; exact List.mem_map.mpr ⟨_, List.mem_of_getElem? h, rfl⟩)
      rw [List.find?_cons_of_neg (by simpa using hne)]
      exact ih hnd.2 h
theorem dget_idx {es : List (Nat × Value)} {k : Nat} : dget es k = (es.findIdx? fun p => p.1 == k).bind fun i => es[i]?.map (·.2) := by
  unfold dget
  induction es with
  | nil => rfl
  | cons p es ih =>
    by_cases h : p.1 = k
    · simp [List.findIdx?_cons, h]
    · rw [List.find?_cons_of_neg (by simpa using h), ih, List.findIdx?_cons]
      have : (p.1 == k) = false := by simpa using h
      rw [this]
      cases List.findIdx? (fun p => p.1 == k) es <;> simp

theorem findIdx_isStr {es : List (Nat × Value)} {w : World} {kd : Nat} {nv : Nat → Value} {x : Str} {k : Nat} (h : ∀ p ∈ es, (nv p.1).isStr x = (p.1 == k)) :
    ((es.map (dEnt w kd nv)).toArray.findIdx? fun e => e.key.isStr x) = es.findIdx? fun p => p.1 == k := by
  rw [List.findIdx?_toArray]
  induction es with
  | nil => rfl
  | cons p es ih =>
    have hp := h p List.mem_cons_self
    simp only [List.map_cons, List.findIdx?_cons]
    rw [ih fun q hq => h q (List.mem_cons_of_mem _ hq)]
    show (if (nv p.1).isStr x = true then _ else _) = _
    rw [hp]

section
variable {prog : Program} {w : World} {A : Around} {E : Value → Shared → Prop} {s : Shared} {kd : Nat} {nv : Nat → Value} {es : List (Nat × Value)} {d : Addr} {ep k : Nat}

theorem name_mayTell {key : Value} {stored : List Value} {Q : Bool → Shared → Prop} (hk : NameIs kd s.heap k key) (hst : ∀ v ∈ stored, ∃ k', NameIs kd s.heap k' v) (h : Q false s) :
    wpAny (model prog w) A (tableMayTell key stored) Q E s := by
  unfold tableMayTell
  split
  · exact wpAny_pure h
  · refine wpAny_bind (name_quiet hk ?_)
    simp only [Bool.not_true, Bool.false_eq_true, if_false]
    refine wpAny_bind ?_
    refine wpAny_forIn_list _ (fun rest r s' => s' = s ∧ r = (none, ()) ∧ ∀ v ∈ rest, ∃ k', NameIs kd s.heap k' v) _ ?_ ?_ _ _ ⟨rfl, rfl, hst⟩
    · rintro x rest r s' ⟨rfl, rfl, hr⟩
      obtain ⟨k', hb⟩ := hr x List.mem_cons_self
      refine wpAny_bind (name_quiet hb ?_)
      simp only [Bool.not_true, Bool.false_eq_true, if_false]
      exact wpAny_pure ⟨rfl, rfl, fun v hv => hr v (List.mem_cons_of_mem _ hv)⟩
    · rintro r s' ⟨rfl, rfl, _⟩
      exact wpAny_pure h

theorem loop_abs {M : Model} {A : Around} {E : Value → Shared → Prop} {s : Shared} {Q : Option Nat → Shared → Prop} {es : List (Nat × Value)} {k : Nat} {ps : List Nat}
    {F : Nat → Option (Option Nat) × Option Nat → Sem (ForInStep (Option (Option Nat) × Option Nat))} {K : Option (Option Nat) × Option Nat → Sem (Option Nat)}
    (hnd : (es.map (·.1)).Nodup) (hpnd : ps.Nodup) (hlt : ∀ i ∈ ps, ∃ p, es[i]? = some p) (hin : ∀ (i : Nat) (v : Value), es[i]? = some (k, v) → i ∈ ps) (h : Q (es.findIdx? fun p => p.1 == k) s)
    (hmiss : ∀ x hit k' v' (P : ForInStep (Option (Option Nat) × Option Nat) → Shared → Prop), es[x]? = some (k', v') → k' ≠ k → P (.yield (none, hit)) s → wpAny M A (F x (none, hit)) P E s)
    (hhit : ∀ x v' (P : ForInStep (Option (Option Nat) × Option Nat) → Shared → Prop), es[x]? = some (k, v') → P (.done (some (some x), none)) s → P (.yield (none, some x)) s → wpAny M A (F x (none, none)) P E s)
    (hKd : ∀ x, Q (some x) s → wpAny M A (K (some (some x), none)) Q E s) (hKe : ∀ hit, Q hit s → wpAny M A (K (none, hit)) Q E s) : wpAny M A (forIn ps (none, none) F >>= K) Q E s := by
  refine wpAny_bind ?_
  refine wpAny_forIn_list _ (fun rest b s' => s' = s ∧ rest.Nodup ∧ (∀ i ∈ rest, i ∈ ps) ∧ ∃ hit, b = (none, hit) ∧
    ((hit = none ∧ ∀ (i : Nat) (v : Value), es[i]? = some (k, v) → i ∈ rest) ∨ ∃ j v, hit = some j ∧ es[j]? = some (k, v) ∧ j ∉ rest)) _ ?_ ?_ _ _ ⟨rfl, hpnd, fun _ h => h, none, rfl, .inl ⟨rfl, hin⟩⟩
  · rintro x rest b s' ⟨rfl, hnd', hsub, hit, rfl, hh⟩
    obtain ⟨⟨k', v'⟩, hx⟩ := hlt x (hsub x List.mem_cons_self)
    obtain ⟨hxr, hnd''⟩ := List.nodup_cons.mp hnd'
    have hsub' : ∀ i ∈ rest, i ∈ ps := fun i hi => hsub i (List.mem_cons_of_mem _ hi)
    by_cases hkk : k' = k
    · subst hkk
      rcases hh with ⟨rfl, _⟩ | ⟨j, v, rfl, hj, hjr⟩
      · refine hhit x v' _ hx ?_ ⟨rfl, hnd'', hsub', some x, rfl, .inr ⟨x, v', rfl, hx, hxr⟩⟩
        rw [findIdx_of hnd hx] at h; exact hKd x h
      · have e := findIdx_of hnd hj
        rw [findIdx_of hnd hx] at e
        injection e with e
        subst e
        exact absurd List.mem_cons_self hjr
    · refine hmiss x hit k' v' _ hx hkk ⟨rfl, hnd'', hsub', hit, rfl, ?_⟩
      rcases hh with ⟨e, hall⟩ | ⟨j, v, e, hj, hjr⟩
      · refine .inl ⟨e, fun i v hi => ?_⟩
        rcases List.mem_cons.mp (hall i v hi) with rfl | h'
        · rw [hx] at hi; injection hi with hi; injection hi with hi; exact absurd hi hkk
        · exact h'
      · exact .inr ⟨j, v, e, hj, fun h' => hjr (List.mem_cons_of_mem _ h')⟩
  · rintro b s' ⟨rfl, _, _, hit, rfl, hh⟩
    rcases hh with ⟨rfl, hall⟩ | ⟨j, v, rfl, hj, _⟩
    · rw [findIdx_none fun i v hi => by simpa using hall i v hi] at h
      exact hKe _ h
    · rw [findIdx_of hnd hj] at h
      exact hKe _ h
theorem share {T C : Value → Prop} {G : Prop} (main : (∀ key, C key → T key) → G) (tail : ∀ key, C key → T key) : G := main tail
theorem wpAny_ite_same {α : Type} {M : Model} {A : Around} {Q : α → Shared → Prop} {E : Value → Shared → Prop} {s : Shared} {c : Prop} [Decidable c] {e : Sem Bool} {K : Bool → Sem α} (ht : ∀ {Q : Bool → Shared → Prop}, Q false s → wpAny M A e Q E s) (h : wpAny M A (K false) Q E s) : wpAny M A (if c then (pure false >>= K) else (e >>= K)) Q E s := by
  by_cases hc : c
  · rw [if_pos hc]; exact wpAny_bind (wpAny_pure h)
  · rw [if_neg hc]; exact wpAny_bind (ht h)
theorem dictFind_names {Q : Option Nat → Shared → Prop} (hu : A.units < cLine) (hes : ∀ p ∈ es, NameIs kd s.heap p.1 (nv p.1)) (hk : NameIs kd s.heap k (nv k)) (hnd : (es.map (·.1)).Nodup)
    (ho : s.heap.get? d = some (dObj w kd nv es ep)) (h : Q (es.findIdx? fun p => p.1 == k) s) : wpAny (model prog w) A (dictFind d (nv k) (nhash w kd k)) Q E s := by
  have hat : ∀ i : Nat, (es.map (dEnt w kd nv)).toArray[i]? = es[i]?.map (dEnt w kd nv) := fun i => by simp
  -- the places with the hash bear the name, if any does
  generalize hpl : placesWithHash (es.map (dEnt w kd nv)).toArray.size (fun i : Nat => (es.map (dEnt w kd nv)).toArray[i]?.map (·.hash)) (nhash w kd k) = ps
  have hin : ∀ (i : Nat) (v : Value), es[i]? = some (k, v) → i ∈ ps := fun i v hi => by
    rw [← hpl, placesWithHash, List.mem_filter]
    have hlt : i < es.length := (List.getElem?_eq_some_iff.mp hi).1
    refine ⟨by simpa using hlt, ?_⟩
    rw [hat, hi]; simp [dEnt]
  have hpnd : ps.Nodup := by rw [← hpl, placesWithHash]; exact List.nodup_range.filter _
  have hlt : ∀ i ∈ ps, ∃ p, es[i]? = some p := fun i hi => by
    rw [← hpl, placesWithHash, List.mem_filter] at hi
    have : i < es.length := by simpa using hi.1
    exact ⟨es[i], by simp [this]⟩
  have hget : ∀ {i : Nat} {p : Nat × Value}, es[i]? = some p → (es.map (dEnt w kd nv)).toArray[i]? = some (dEnt w kd nv p) := fun hi => by rw [hat, hi]; rfl
  have hmem : ∀ {i : Nat} {p : Nat × Value}, es[i]? = some p → NameIs kd s.heap p.1 (nv p.1) := fun hi => hes _ (List.mem_of_getElem? hi)
  have plain : wpAny (model prog w) A (dictWalkPlain d (nv k) (nhash w kd k) (es.map (dEnt w kd nv)).toArray ps) Q E s := by
    refine wpAny_bind ?_
    refine wpAny_forIn_list _ (fun rest b s' => s' = s ∧ b = (none, ()) ∧ (∀ i ∈ rest, i ∈ ps) ∧ ∀ (i : Nat) (v : Value), es[i]? = some (k, v) → i ∈ rest) _ ?_ ?_ _ _ ⟨rfl, rfl, fun _ h => h, hin⟩
    · rintro x rest b s' ⟨rfl, rfl, hsub, hall⟩
      obtain ⟨⟨k', v'⟩, hx⟩ := hlt x (hsub x List.mem_cons_self)
      have go : k' ≠ k → ∀ (i : Nat) (v : Value), es[i]? = some (k, v) → i ∈ rest := fun hne i v hi => by
        rcases List.mem_cons.mp (hall i v hi) with rfl | h'
        · rw [hx] at hi; injection hi with hi; injection hi with hi; exact absurd hi hne
        · exact h'
      have hsub' : ∀ i ∈ rest, i ∈ ps := fun i hi => hsub i (List.mem_cons_of_mem _ hi)
      rw [hget hx]
      dsimp only
      by_cases hh : ((dEnt w kd nv (k', v')).hash == nhash w kd k) = true
      · rw [if_pos hh]
        refine wpAny_bind (wpAny_dictEpoch ho rfl (wpAny_bind (name_eqAt hu (hmem hx) hk prog w _ _ (wpAny_bind (wpAny_dictEpoch ho rfl ?_)))))
        show wpAny _ _ (if (ep != ep) = true then _ else _) _ E _
        rw [if_neg (by simp)]
        by_cases hkk : k' = k
        · subst hkk
          rw [decide_eq_true rfl]
          rw [findIdx_of hnd hx] at h
          exact wpAny_bind (wpAny_rule (wpAny_pure (wpAny_pure h)))
        · rw [decide_eq_false hkk]
          exact wpAny_bind (wpAny_rule (wpAny_pure ⟨rfl, rfl, hsub', go hkk⟩))
      · rw [if_neg hh]
        refine wpAny_pure ⟨rfl, rfl, hsub', go ?_⟩
        rintro rfl
        simp [dEnt] at hh
    · rintro b s' ⟨rfl, rfl, _, hall⟩
      rw [findIdx_none fun i v hi => by simpa using hall i v hi] at h
      exact wpAny_pure h
  unfold dictFind
  try with_reducible refine wpAny_holding ?_
  refine wpAny_bind (wpAny_dictEntries ho rfl ?_)
  dsimp only
  rw [hpl]
  apply share (C := NameIs kd s.heap k)
  · intro hT
    have hst : ∀ v ∈ (ps.filterMap fun i : Nat => (es.map (dEnt w kd nv)).toArray[i]?.map (·.key)), ∃ k', NameIs kd s.heap k' v := by
      intro v hv
      obtain ⟨i, hi, he⟩ := List.mem_filterMap.mp hv
      obtain ⟨p, hp⟩ := hlt i hi
      rw [hat, hp] at he
      have e : nv p.1 = v := by simpa [dEnt] using he
      exact ⟨p.1, e ▸ hmem hp⟩
    have hany : ¬ ((es.map (dEnt w kd nv)).toArray.any fun e => e.key == nv k && e.hash != nhash w kd k) = true := by
      rw [← Array.any_toList, List.any_eq_true]
      rintro ⟨e, hin', hc⟩
      obtain ⟨p, hp, rfl⟩ := List.mem_map.mp (show e ∈ es.map (dEnt w kd nv) from hin')
      simp only [dEnt, Bool.and_eq_true, beq_iff_eq, bne_iff_ne, ne_eq] at hc
      have h1 := hes p hp
      rw [hc.1] at h1
      exact hc.2 (by rw [h1.inj hk])
    have hk0 := hk
    have hstr : ∀ x t, nv k = .str x t → ∀ p ∈ es, (nv p.1).isStr x = (p.1 == k) := by
      intro x t hx p hp
      have hp' := hes p hp
      rw [hx] at hk0
      rcases hk0 with ⟨h3, u, e⟩ | ⟨h3, u, e⟩ | ⟨h3, a, u, u', n, e, _⟩
      · cases e
      · injection e with e _
        subst e
        rcases hp' with ⟨h3', u', e'⟩ | ⟨h3', u', e'⟩ | ⟨h3', a, u', u'', n, e', _⟩
        · rw [e']
          have : p.1 ≠ k := by rintro e; rw [e] at h3'; lia
          simpa [Value.isStr] using this
        · rw [e']
          show (letter p.1 == letter k) = _
          rw [Bool.eq_iff_iff]; simp only [beq_iff_eq]
          exact ⟨letter_inj, fun h => by rw [h]⟩
        · rw [e']
          have : p.1 ≠ k := by rintro e; rw [e] at h3'; lia
          simpa [Value.isStr] using this
      · cases e
    have found : ∀ x t, nv k = .str x t → wpAny (model prog w) A (foundByValue d (nv k) (es.map (dEnt w kd nv)).toArray x) Q E s := by
      intro x t hx
      unfold foundByValue
      rw [findIdx_isStr (hstr x t hx)]
      cases hf : es.findIdx? fun p => p.1 == k with
      | none => rw [hf] at h; exact wpAny_pure h
      | some i =>
        rw [hf] at h
        obtain ⟨hil, hik, _⟩ := List.findIdx?_eq_some_iff_getElem.mp hf
        have hi : es[i]? = some es[i] := by simp
        dsimp only
        rw [hget hi]
        dsimp only
        have hik : es[i].1 = k := by simpa using hik
        have hki := hmem hi
        refine wpAny_bind (wpAny_dictEpoch ho rfl (wpAny_bind (name_eqAt hu hki hk prog w _ _ (wpAny_bind (wpAny_dictEpoch ho rfl ?_)))))
        show wpAny _ _ (if (ep != ep) = true then _ else _) _ E _
        rw [if_neg (by simp), decide_eq_true hik]
        exact wpAny_bind (wpAny_rule (wpAny_pure h))
    have hk1 := hk
    have hk2 := hk
    have plain2 := plain
    generalize hkey : nv k = key at hk2 plain2 hany hk1 found hstr ⊢
    rcases hk2 with ⟨hk3, t, rfl⟩ | ⟨hk3, t, rfl⟩ | ⟨hk3, a, t, t', n, rfl, hao⟩
    · dsimp only
      by_cases hall : ((Value.int k t :: (ps.filterMap fun i : Nat => (es.map (dEnt w kd nv)).toArray[i]?.map (·.key))).all carriedByValue) = true
      · rw [if_pos hall]; exact plain2
      rw [if_neg hall]
      refine wpAny_ite_same (fun h => name_mayTell hk1 hst h) ?_
      rw [if_neg (by simp)]
      revert hk1
      generalize Value.int k t = key0
      exact hT key0
    · dsimp only
      by_cases hex : ((es.map (dEnt w kd nv)).toArray.all fun e => isExactStrKey e.key) = true
      · rw [if_pos hex]; exact found _ _ rfl
      rw [if_neg hex]
      by_cases hall : ((Value.str (letter k) t :: (ps.filterMap fun i : Nat => (es.map (dEnt w kd nv)).toArray[i]?.map (·.key))).all carriedByValue) = true
      · rw [if_pos hall]; exact plain2
      rw [if_neg hall]
      refine wpAny_ite_same (fun h => name_mayTell hk1 hst h) ?_
      rw [if_neg (by simp)]
      revert hk1
      generalize Value.str (letter k) t = key0
      exact hT key0
    · dsimp only
      rw [if_neg (show ¬ ((Value.ref a :: (ps.filterMap fun i : Nat => (es.map (dEnt w kd nv)).toArray[i]?.map (·.key))).all carriedByValue) = true by simp [carriedByValue])]
      rw [if_neg hany]
      refine wpAny_ite_same (fun h => name_mayTell hk1 hst h) ?_
      rw [if_neg (by simp)]
      revert hk1
      generalize Value.ref a = key0
      exact hT key0
  · intro key0 hk1
    show wpAny _ _ _ _ _ _
    refine loop_abs hnd hpnd hlt hin h ?_ ?_ (fun _ h => wpAny_pure h) (fun _ h => wpAny_pure h)
    · intro x hit k' v' P hx hne hP
      rw [hget hx]
      dsimp only
      by_cases hhash : ((dEnt w kd nv (k', v')).hash == nhash w kd k) = true
      · rw [if_pos hhash]
        refine wpAny_bind (wpAny_dictEpoch ho rfl (wpAny_bind (name_eqAt hu (hmem hx) hk1 prog w _ _ (wpAny_bind (wpAny_dictEpoch ho rfl ?_)))))
        show wpAny _ _ (if (ep != ep) = true then _ else _) _ E _
        rw [if_neg (by simp), decide_eq_false hne, if_neg (by simp)]
        refine wpAny_bind (wpAny_rule ?_)
        first | rw [if_neg (by simp)] | skip
        exact wpAny_pure hP
      · rw [if_neg hhash]; exact wpAny_pure hP
    · intro x v' P hx h1 h2
      rw [hget hx]
      dsimp only
      rw [if_pos (show ((dEnt w kd nv (k, v')).hash == nhash w kd k) = true by simp [dEnt])]
      refine wpAny_bind (wpAny_dictEpoch ho rfl (wpAny_bind (name_eqAt hu (hmem hx) hk1 prog w _ _ (wpAny_bind (wpAny_dictEpoch ho rfl ?_)))))
      show wpAny _ _ (if (ep != ep) = true then _ else _) _ E _
      rw [if_neg (by simp), decide_eq_true rfl, if_pos rfl, if_neg (by simp)]
      refine wpAny_bind (wpAny_rule ?_)
      split
      · exact wpAny_pure h1
      · exact wpAny_pure h2
end
end Mine
end

-- part N3
section
open PySem PySem.W PyProof.Rows PySem.Spec
set_option linter.unusedSectionVars false
set_option linter.unusedVariables false
namespace Mine

theorem dput_new {es : List (Nat × Value)} {k : Nat} {v : Value} (h : es.findIdx? (fun p => p.1 == k) = none) : dput es k v = es ++ [(k, v)] := by simp [dput, h]
theorem dput_old {es : List (Nat × Value)} {k i : Nat} {v : Value} (h : es.findIdx? (fun p => p.1 == k) = some i) : dput es k v = es.map fun p => if p.1 = k then (k, v) else p := by simp [dput, h]
theorem dput_keys {es : List (Nat × Value)} {k : Nat} {v : Value} (hnd : (es.map (·.1)).Nodup) : ((dput es k v).map (·.1)).Nodup := by
  cases h : es.findIdx? (fun p => p.1 == k) with
  | none =>
    rw [dput_new h, List.map_append, List.nodup_append]
    refine ⟨hnd, by simp, ?_⟩
    intro a ha b hb e
    have hb : b = k := by simpa using hb
    subst hb; subst e
    obtain ⟨p, hp, e⟩ := List.mem_map.mp ha
    have := List.findIdx?_eq_none_iff.mp h p hp
    simp [e] at this
  | some i =>
    rw [dput_old h, List.map_map]
    have e : ((fun x : Nat × Value => x.1) ∘ fun p => if p.1 = k then (k, v) else p) = fun p => p.1 := by
      funext p; by_cases h' : p.1 = k <;> simp [h']
    rw [e]; exact hnd
theorem dput_mem {es : List (Nat × Value)} {k : Nat} {v : Value} {q : Nat × Value} (h : q ∈ dput es k v) : q.1 = k ∨ q ∈ es := by
  cases hf : es.findIdx? (fun p => p.1 == k) with
  | none =>
    rw [dput_new hf] at h
    rcases List.mem_append.mp h with h | h
    · exact .inr h
    · left; rw [show q = (k, v) by simpa using h]
  | some i =>
    rw [dput_old hf] at h
    obtain ⟨p, hp, rfl⟩ := List.mem_map.mp h
    by_cases h' : p.1 = k
    · left; rw [if_pos h']
    · right; rw [if_neg h']; exact hp
theorem dget_dput_self (es : List (Nat × Value)) (k : Nat) (v : Value) : dget (dput es k v) k = some v := by
  cases hf : es.findIdx? (fun p => p.1 == k) with
  | none =>
    rw [dput_new hf]
    unfold dget
    rw [List.find?_append, List.find?_eq_none.mpr (fun p hp => by have := List.findIdx?_eq_none_iff.mp hf p hp; simpa using this)]
    simp
  | some i =>
    rw [dput_old hf]
    unfold dget
    obtain ⟨hil, hik, hx⟩ := List.findIdx?_eq_some_iff_getElem.mp hf
    clear hf hx
    induction es generalizing i with
    | nil => simp at hil
    | cons p es ih =>
      by_cases h' : p.1 = k
      · simp [h']
      · rw [List.map_cons, if_neg h', List.find?_cons_of_neg (by simpa using h')]
        cases i with
        | zero => simp [h'] at hik
        | succ i => exact ih i (by simpa using hil) (by simpa using hik)
theorem dget_dput_ne {es : List (Nat × Value)} {k j : Nat} {v : Value} (hjk : j ≠ k) : dget (dput es k v) j = dget es j := by
  cases hf : es.findIdx? (fun p => p.1 == k) with
  | none =>
    rw [dput_new hf]
    unfold dget
    rw [List.find?_append]
    have : List.find? (fun p : Nat × Value => p.1 == j) [(k, v)] = none := by simp [Ne.symm hjk]
    rw [this]; simp
  | some i =>
    rw [dput_old hf]
    unfold dget
    clear hf
    induction es with
    | nil => rfl
    | cons p es ih =>
      rw [List.map_cons]
      by_cases h' : p.1 = k
      · rw [if_pos h', List.find?_cons_of_neg (by simpa using Ne.symm hjk), List.find?_cons_of_neg (by simp [h', Ne.symm hjk])]; exact ih
      · rw [if_neg h']
        by_cases hj : p.1 = j
        · rw [List.find?_cons_of_pos (by simpa using hj), List.find?_cons_of_pos (by simpa using hj)]
        · rw [List.find?_cons_of_neg (by simpa using hj), List.find?_cons_of_neg (by simpa using hj)]; exact ih

theorem ents_modify {w : World} {kd : Nat} {nv : Nat → Value} {es : List (Nat × Value)} (hnd : (es.map (·.1)).Nodup) {k i : Nat} {v : Value} (h : es.findIdx? (fun p => p.1 == k) = some i) :
    (es.map (dEnt w kd nv)).toArray.modify i (fun e => { e with val := v }) = ((dput es k v).map (dEnt w kd nv)).toArray := by
  rw [dput_old h]
  apply Array.ext'
  rw [Array.toList_modify]
  show (es.map (dEnt w kd nv)).modify i _ = (es.map fun p => if p.1 = k then (k, v) else p).map (dEnt w kd nv)
  obtain ⟨hil, hik, hx⟩ := List.findIdx?_eq_some_iff_getElem.mp h
  clear h hx
  induction es generalizing i with
  | nil => simp at hil
  | cons p es ih =>
    rw [List.map_cons, List.nodup_cons] at hnd
    cases i with
    | zero =>
      have hik : p.1 = k := by simpa using hik
      have hno : ∀ q ∈ es, q.1 ≠ k := fun q hq e => hnd.1 (by rw [hik, ← e]; exact List.mem_map.mpr ⟨q, hq, rfl⟩)
      simp only [List.map_cons, List.modify_zero_cons, if_pos hik]
      have : (es.map fun p => if p.1 = k then (k, v) else p) = es := by
        conv => rhs; rw [← List.map_id es]
        apply List.map_congr_left
        intro q hq; rw [if_neg (hno q hq)]; rfl
      rw [this]
      simp [dEnt, hik]
    | succ i =>
      have hil' : i < es.length := by simpa using hil
      have hik' : es[i].1 = k := by simpa using hik
      have hpk : p.1 ≠ k := fun e => hnd.1 (by rw [e, ← hik']; exact List.mem_map.mpr ⟨_, List.getElem_mem _, rfl⟩)
      simp only [List.map_cons, List.modify_succ_cons, if_neg hpk]
      rw [ih hnd.2 (by simpa using hil) (by simpa using hik)]

section
variable {prog : Program} {w : World} {A : Around} {E : Value → Shared → Prop} {s : Shared} {kd : Nat} {nv : Nat → Value} {es : List (Nat × Value)} {d : Addr} {ep k : Nat}

theorem dictGet_names {Q : Option Value → Shared → Prop} (hu : A.units < cLine) (hes : ∀ p ∈ es, NameIs kd s.heap p.1 (nv p.1)) (hk : NameIs kd s.heap k (nv k)) (hnd : (es.map (·.1)).Nodup)
    (ho : s.heap.get? d = some (dObj w kd nv es ep)) (h : ∀ tk, Q (dget es k) { s with toks := tk }) : wpAny (model prog w) A (dictGet d (nv k)) Q E s := by
  unfold dictGet
  try with_reducible refine wpAny_holding ?_
  refine wpAny_bind (name_hash hu hk fun tk => wpAny_bind (dictFind_names (s := { s with toks := tk }) hu hes hk hnd ho ?_))
  have h := h tk
  rw [dget_idx] at h
  cases hf : es.findIdx? (fun p => p.1 == k) with
  | none => rw [hf] at h; exact wpAny_pure h
  | some i =>
    rw [hf] at h
    refine wpAny_bind (wpAny_dictEntries (s := { s with toks := tk }) ho rfl ?_)
    have e : ((es.map (dEnt w kd nv)).toArray[i]?).map (·.val) = es[i]?.map (·.2) := by
      simp only [List.getElem?_toArray, List.getElem?_map, Option.map_map]; rfl
    rw [e]
    exact wpAny_pure h

theorem dictSet_names {v : Value} {Q : Unit → Shared → Prop} (hu : A.units < cLine) (hes : ∀ p ∈ es, NameIs kd s.heap p.1 (nv p.1)) (hk : NameIs kd s.heap k (nv k)) (hnd : (es.map (·.1)).Nodup)
    (ho : s.heap.get? d = some (dObj w kd nv es ep)) (hsz : es.length ≤ sizeLine)
    (h : ∀ h' tk ep', h'.get? d = some (dObj w kd nv (dput es k v) ep') → Heap.SameBut d s.heap h' → Q () { s with heap := h', toks := tk }) : wpAny (model prog w) A (dictSet d (nv k) v) Q E s := by
  unfold dictSet
  try with_reducible refine wpAny_holding ?_
  refine wpAny_bind (name_hash hu hk fun tk => ?_)
  unfold dictSetHashed
  try with_reducible refine wpAny_holding ?_
  refine wpAny_bind (dictFind_names (s := { s with toks := tk }) hu hes hk hnd ho ?_)
  cases hf : es.findIdx? (fun p => p.1 == k) with
  | none =>
    refine wpAny_bind (wpAny_rule (wpAny_updateDictKeys (hz := by simpa using hsz) (s := { s with toks := tk }) ho rfl (h _ tk (ep + 1) ?_ (Heap.SameBut.update ..))))
    have e : Obj.mapDictKeys (fun x => x.push ⟨nhash w kd k, nv k, v⟩) (dObj w kd nv es ep) = dObj w kd nv (dput es k v) (ep + 1) := by
      rw [dput_new hf]
      show ({ cls := .type "dict", data := .dict ((es.map (dEnt w kd nv)).toArray.push ⟨nhash w kd k, nv k, v⟩) (ep + 1) } : Obj) = _
      unfold dObj
      congr 2
      simp [dEnt]
    rw [← e]
    exact Heap.get?_update_self _ ho rfl
  | some i =>
    refine wpAny_bind (wpAny_rule (wpAny_bind (wpAny_updateDict (s := { s with toks := tk }) ho rfl (wpAny_point (h _ tk ep ?_ (Heap.SameBut.update ..))))))
    have e : Obj.mapDict (fun x => x.modify i fun e => { e with val := v }) (dObj w kd nv es ep) = dObj w kd nv (dput es k v) ep := by
      show ({ cls := .type "dict", data := .dict ((es.map (dEnt w kd nv)).toArray.modify i fun e => { e with val := v }) ep } : Obj) = _
      rw [ents_modify hnd hf]; rfl
    rw [← e]
    exact Heap.get?_update_self _ ho rfl

theorem dObj_typeIs (ho : s.heap.get? d = some (dObj w kd nv es ep)) : s.TypeIs (.ref d) "dict" := ⟨_, ho, rfl⟩

theorem getItem_names {v : Value} {Q : Value → Shared → Prop} (hu : A.units + 1 < cLine) (hes : ∀ p ∈ es, NameIs kd s.heap p.1 (nv p.1)) (hk : NameIs kd s.heap k (nv k)) (hnd : (es.map (·.1)).Nodup)
    (ho : s.heap.get? d = some (dObj w kd nv es ep)) (hv : dget es k = some v) (h : ∀ tk, Q v { s with toks := tk }) : wpAny (model prog w) A (getItem (.ref d) (nv k)) Q E s := by
  unfold getItem
  try with_reducible refine wpAny_holding ?_
  refine wpAny_bind (wpAny_sequenceKey (dObj_typeIs ho) (by decide) ?_)
  refine wpAny_bind (wpAny_callSpecial?_slot (name := Str.ofString "__getitem__") (dObj_typeIs ho) slot_dict_getitem
    (wpAny_call_entry slot_dict_getitem (dObj_typeIs ho) entry_dict_getitem ?_ (args_dict_getitem _ _)))
  show wpAny _ _ (dictGet d (nv k) >>= _) _ _ s
  refine wpAny_bind (dictGet_names (A := A.in1) hu hes hk hnd ho fun tk => ?_)
  rw [hv]
  exact wpAny_pure ⟨v, rfl, wpAny_pure (h tk)⟩

theorem setItem_names {v : Value} {Q : Unit → Shared → Prop} (hu : A.units + 1 < cLine) (hes : ∀ p ∈ es, NameIs kd s.heap p.1 (nv p.1)) (hk : NameIs kd s.heap k (nv k)) (hnd : (es.map (·.1)).Nodup)
    (ho : s.heap.get? d = some (dObj w kd nv es ep)) (hsz : es.length ≤ sizeLine)
    (h : ∀ h' tk ep', h'.get? d = some (dObj w kd nv (dput es k v) ep') → Heap.SameBut d s.heap h' → Q () { s with heap := h', toks := tk }) : wpAny (model prog w) A (setItem (.ref d) (nv k) v) Q E s := by
  unfold setItem
  try with_reducible refine wpAny_holding ?_
  refine wpAny_bind (wpAny_sequenceKey (dObj_typeIs ho) (by decide) ?_)
  refine wpAny_bind (wpAny_callSpecial?_slot (name := Str.ofString "__setitem__") (dObj_typeIs ho) slot_dict_setitem
    (wpAny_call_entry slot_dict_setitem (dObj_typeIs ho) entry_dict_setitem ?_ (args_dict_setitem _ _ _)))
  show wpAny _ _ (Builtin.Dict.notOrdered "__setitem__" ⟨[.ref d, nv k, v], []⟩ >>= _) _ _ s
  refine wpAny_bind (wpAny_notOrdered_dict (dObj_typeIs ho) ?_)
  show wpAny _ _ (dictSet d (nv k) v >>= _) _ _ s
  exact wpAny_bind (dictSet_names (A := A.in1) hu hes hk hnd ho hsz fun h' tk ep' ho' hs' => wpAny_pure ⟨.none, rfl, wpAny_pure (h h' tk ep' ho' hs')⟩)

theorem meets_get_names (hd : (d == sysModules) = false) (dflt : Value) :
    MeetsIn prog w (Builtin.«dict.get» ⟨[.ref d, nv k, dflt], []⟩) (fun A R s => A.in1.units < cLine ∧ ∃ es ep, (∀ p ∈ es, NameIs kd s.heap p.1 (nv p.1)) ∧ NameIs kd s.heap k (nv k) ∧ (es.map (·.1)).Nodup ∧
      s.heap.get? d = some (dObj w kd nv es ep) ∧ ∀ tk, R (.ok (.ret ((dget es k).getD dflt))) { s with toks := tk }) :=
  .of_wp fun A R s ⟨hu, es, ep, hes, hk, hnd, ho, h⟩ => by
    show wpAny _ _ (dictGet d (nv k) >>= _) _ _ s
    refine wpAny_bind (dictGet_names (A := A.in1) hu hes hk hnd ho fun tk => ?_)
    have h := h tk
    cases hf : dget es k with
    | some v =>
      rw [hf] at h
      exact wpAny_pure ⟨v, rfl, h⟩
    | none =>
      rw [hf] at h
      show wpAny _ _ (Builtin.Dict.missed d (nv k) >>= _) _ _ _
      exact wpAny_bind (wpAny_missed_other hd (wpAny_pure ⟨dflt, rfl, h⟩))

theorem dict_get2_names {pos : Pos} {x y : Sem Value} {Q : Value → Shared → Prop} (hu : A.units + 1 < cLine) (hd : (d == sysModules) = false)
    (h : wpAny (model prog w) A x (fun key s₁ => wpAny (model prog w) A y (fun dflt s₂ => ∃ k es ep, key = nv k ∧ (∀ p ∈ es, NameIs kd s₂.heap p.1 (nv p.1)) ∧ NameIs kd s₂.heap k (nv k) ∧ (es.map (·.1)).Nodup ∧
      s₂.heap.get? d = some (dObj w kd nv es ep) ∧ ∀ tk, Q ((dget es k).getD dflt) { s₂ with toks := tk }) E s₁) E s) :
    wpAny (model prog w) A (callWith pos (.builtin "dict.get") [.ref d] [(false, x), (false, y)] []) Q E s :=
  method2_meetsIn F.slot_dict_get F.entry_dict_get (wpAny_mono h (fun key _ h₁ => wpAny_mono h₁ (fun dflt _ h₂ => by
    obtain ⟨k, es, ep, rfl, hes, hk, hnd, ho, hq⟩ := h₂
    exact ⟨dObj_typeIs ho, F.args_dict_get_3 _ _ _, _, meets_get_names hd dflt, hu, es, ep, hes, hk, hnd, ho, hq⟩) fun _ _ e => e) fun _ _ e => e)
end
end Mine
end

-- part S1
section
set_option linter.unusedSectionVars false
set_option linter.unusedVariables false
namespace Mine
namespace ST
open PySem PySem.SetTable

def adv (m : Nat) (p : Probe) : Probe :=
  if p.more > 0 then { p with j := p.j + 1, more := p.more - 1 } else
  { p with j := (leap m p.i p.perturb).1, more := runEnd m (leap m p.i p.perturb).1 - (leap m p.i p.perturb).1, i := (leap m p.i p.perturb).1, perturb := (leap m p.i p.perturb).2 }
theorem advance_eq (t : SetTable) (p : Probe) : t.advance p = adv t.mask p := by unfold SetTable.advance adv; rfl
def at0 (m : Nat) (q : Nat × Nat) : Probe := { j := q.1, more := runEnd m q.1 - q.1, i := q.1, perturb := q.2, dummy := none }
def bas (m x : Nat) : Nat → Nat × Nat
  | 0 => (x % (m + 1), x)
  | n + 1 => leap m (bas m x n).1 (bas m x n).2
def pos (m : Nat) (h : Int) : Nat → Probe
  | 0 => at0 m (bas m (bits h) 0)
  | k + 1 => adv m (pos m h k)
theorem start_eq (t : SetTable) (h : Int) : t.probeStart h = pos t.mask h 0 := rfl

theorem run_end (m i : Nat) : runEnd m i - i ≤ 9 := by unfold runEnd; split <;> lia
theorem pos_run (m : Nat) (h : Int) (k : Nat) : ∀ r, r ≤ (pos m h k).more → pos m h (k + r) = { pos m h k with j := (pos m h k).j + r, more := (pos m h k).more - r } := by
  intro r
  induction r with
  | zero => intro _; rfl
  | succ r ih =>
    intro hr
    show adv m (pos m h (k + r)) = _
    rw [ih (by lia)]
    unfold adv
    rw [if_pos (by show (pos m h k).more - r > 0; lia)]
    show ({ pos m h k with j := _, more := _ } : Probe) = _
    congr 1
theorem base_pos (m : Nat) (h : Int) : ∀ n, ∃ k, k ≤ 10 * n ∧ pos m h k = at0 m (bas m (bits h) n) := by
  intro n
  induction n with
  | zero => exact ⟨0, Nat.le_refl _, rfl⟩
  | succ n ih =>
    obtain ⟨k, hk, e⟩ := ih
    have hr : (pos m h k).more ≤ 9 := by rw [e]; exact run_end m _
    refine ⟨k + (pos m h k).more + 1, by lia, ?_⟩
    show adv m (pos m h (k + (pos m h k).more)) = _
    rw [pos_run m h k _ (Nat.le_refl _)]
    unfold adv
    rw [if_neg (by show ¬ ((pos m h k).more - (pos m h k).more > 0); lia), e]
    rfl
theorem pos_le (m : Nat) (h : Int) (k : Nat) : (pos m h k).j + (pos m h k).more ≤ m ∧ (pos m h k).dummy = none := by
  have base : ∀ q : Nat × Nat, q.1 ≤ m → q.1 + (runEnd m q.1 - q.1) ≤ m := by
    intro q hq; unfold runEnd; split <;> lia
  induction k with
  | zero => exact ⟨base _ (by show bits h % (m + 1) ≤ m; have : bits h % (m + 1) < m + 1 := Nat.mod_lt _ (Nat.succ_pos m); exact Nat.le_of_lt_succ this), rfl⟩
  | succ k ih =>
    show (adv m (pos m h k)).j + (adv m (pos m h k)).more ≤ m ∧ (adv m (pos m h k)).dummy = none
    unfold adv
    split
    · refine ⟨?_, ih.2⟩
      show (pos m h k).j + 1 + ((pos m h k).more - 1) ≤ m; lia
    · refine ⟨base (leap m (pos m h k).i (pos m h k).perturb) ?_, ih.2⟩
      show (_ % (m + 1)) ≤ m
      have : ((pos m h k).i * 5 + 1 + (pos m h k).perturb / 32) % (m + 1) < m + 1 := Nat.mod_lt _ (Nat.succ_pos m)
      lia

theorem bas_perturb (m x : Nat) : ∀ n, (bas m x n).2 = x / 32 ^ n := by
  intro n
  induction n with
  | zero => simp [bas]
  | succ n ih =>
    show (bas m x n).2 / 32 = _
    rw [ih, Nat.div_div_eq_div_mul, Nat.pow_succ]
def it (m i : Nat) : Nat → Nat
  | 0 => i
  | r + 1 => (it m i r * 5 + 1) % (m + 1)
theorem it_succ (m i : Nat) : ∀ r, it m i (r + 1) = it m ((i * 5 + 1) % (m + 1)) r := by
  intro r
  induction r with
  | zero => rfl
  | succ r ih => show (it m i (r + 1) * 5 + 1) % (m + 1) = (it m ((i * 5 + 1) % (m + 1)) r * 5 + 1) % (m + 1); rw [ih]
def orb (m : Nat) : Nat → Nat → List Nat
  | 0, i => [i]
  | r + 1, i => i :: orb m r ((i * 5 + 1) % (m + 1))
theorem mem_orb {m y : Nat} : ∀ {r i : Nat}, y ∈ orb m r i → ∃ q, q ≤ r ∧ it m i q = y := by
  intro r
  induction r with
  | zero => intro i h; exact ⟨0, Nat.le_refl _, (by simpa [orb] using h : y = i).symm⟩
  | succ r ih =>
    intro i h
    rcases List.mem_cons.mp (show y ∈ i :: orb m r ((i * 5 + 1) % (m + 1)) from h) with h | h
    · exact ⟨0, Nat.zero_le _, h.symm⟩
    · obtain ⟨q, hq, e⟩ := ih h
      exact ⟨q + 1, by lia, by rw [it_succ]; exact e⟩
theorem orb_all {m : Nat} (hm : m = 7 ∨ m = 15 ∨ m = 31) : ∀ i, i < m + 1 → ∀ j, j < m + 1 → j ∈ orb m m i := by
  rcases hm with rfl | rfl | rfl <;> decide +kernel
theorem bas_it (m x : Nat) (hx : x < 2 ^ 64) : ∀ r, (bas m x (13 + r)).1 = it m (bas m x 13).1 r := by
  intro r
  induction r with
  | zero => rfl
  | succ r ih =>
    show (leap m (bas m x (13 + r)).1 (bas m x (13 + r)).2).1 = _
    have e : (bas m x (13 + r)).2 = 0 := by
      rw [bas_perturb]
      apply Nat.div_eq_of_lt
      calc x < 2 ^ 64 := hx
        _ ≤ 32 ^ 13 := by decide
        _ ≤ 32 ^ (13 + r) := Nat.pow_le_pow_right (by decide) (by lia)
    rw [e, ih]; rfl
theorem bits_lt (h : Int) : bits h < 2 ^ 64 := by
  unfold bits
  have h1 := Int.emod_lt_of_pos h (show (0 : Int) < 2 ^ 64 by decide)
  have h2 := Int.emod_nonneg h (show (2 ^ 64 : Int) ≠ 0 by decide)
  lia
theorem cover {m : Nat} (hm : m = 7 ∨ m = 15 ∨ m = 31) (h : Int) {j : Nat} (hj : j ≤ m) : ∃ k, k < 10 * turns m ∧ (pos m h k).j = j := by
  have hb : (bas m (bits h) 13).1 < m + 1 := Nat.mod_lt _ (Nat.succ_pos m)
  obtain ⟨q, hq, e⟩ := mem_orb (orb_all hm _ hb j (by lia))
  rw [← bas_it m _ (bits_lt h)] at e
  obtain ⟨k, hk, e2⟩ := base_pos m h (13 + q)
  refine ⟨k, by unfold turns; lia, ?_⟩
  rw [e2]; exact e
theorem least {p : Nat → Prop} (hd : ∀ k, p k ∨ ¬ p k) : ∀ k, p k → ∃ K, K ≤ k ∧ p K ∧ ∀ k', k' < K → ¬ p k' := by
  intro k
  induction k using Nat.strongRecOn with
  | _ k ih =>
    intro hk
    by_cases h : ∃ k', k' < k ∧ p k'
    · obtain ⟨k', h1, h2⟩ := h
      obtain ⟨K, a, b, c⟩ := ih k' h1 h2
      exact ⟨K, by lia, b, c⟩
    · exact ⟨k, Nat.le_refl _, hk, fun k' h' hp => h ⟨k', h', hp⟩⟩
/- on its way each hash meets a free place -/
theorem firstFree {m : Nat} (hm : m = 7 ∨ m = 15 ∨ m = 31) (h : Int) {occ : List Nat} {j : Nat} (hj : j ≤ m) (hf : j ∉ occ) :
    ∃ K, K < 10 * turns m ∧ (pos m h K).j ∉ occ ∧ ∀ k, k < K → (pos m h k).j ∈ occ := by
  obtain ⟨k, hk, e⟩ := cover hm h hj
  obtain ⟨K, a, b, c⟩ := least (p := fun k => (pos m h k).j ∉ occ) (fun k => Decidable.em _) k (by rw [e]; exact hf)
  exact ⟨K, by lia, b, fun k' hk' => Decidable.not_not.mp (c k' hk')⟩

/- the binary search -/
theorem below_go {xs : Array Nat} (hs : ∀ i j (hi : i < xs.size) (hj : j < xs.size), i < j → xs[i] < xs[j]) (y : Nat) : ∀ fuel lo hi, lo ≤ hi → hi ≤ xs.size → hi - lo ≤ fuel →
    (∀ i (h : i < xs.size), i < lo → xs[i] < y) → (∀ i (h : i < xs.size), hi ≤ i → y ≤ xs[i]) →
    below.go xs y fuel lo hi ≤ xs.size ∧ (∀ i (h : i < xs.size), i < below.go xs y fuel lo hi → xs[i] < y) ∧ (∀ i (h : i < xs.size), below.go xs y fuel lo hi ≤ i → y ≤ xs[i]) := by
  intro fuel
  induction fuel with
  | zero =>
    intro lo hi h1 h2 h3 ha hb
    have : lo = hi := by lia
    subst this
    unfold below.go
    exact ⟨h2, ha, hb⟩
  | succ fuel ih =>
    intro lo hi h1 h2 h3 ha hb
    unfold below.go
    by_cases hlt : lo < hi
    · rw [if_pos hlt]
      have hmid : (lo + hi) / 2 < xs.size := by lia
      have hg : xs.getD ((lo + hi) / 2) y = xs[(lo + hi) / 2] := by simp [Array.getD, hmid]
      simp only [hg]
      by_cases hc : xs[(lo + hi) / 2] < y
      · rw [if_pos hc]
        refine ih _ _ (by lia) h2 (by lia) (fun i h hi' => ?_) hb
        rcases Nat.lt_or_eq_of_le (Nat.le_of_lt_succ hi') with h' | h'
        · exact Nat.lt_trans (hs i _ h hmid h') hc
        · subst h'; exact hc
      · rw [if_neg hc]
        refine ih _ _ (by lia) (by lia) (by lia) ha (fun i h hi' => ?_)
        rcases Nat.lt_or_eq_of_le hi' with h' | h'
        · exact Nat.le_trans (Nat.not_lt.mp hc) (Nat.le_of_lt (hs _ i hmid h h'))
        · subst h'; exact Nat.not_lt.mp hc
    · rw [if_neg hlt]
      have : lo = hi := by lia
      subst this
      exact ⟨h2, ha, hb⟩
theorem below_spec {xs : Array Nat} (hs : ∀ i j (hi : i < xs.size) (hj : j < xs.size), i < j → xs[i] < xs[j]) (y : Nat) :
    below xs y ≤ xs.size ∧ (∀ i (h : i < xs.size), i < below xs y → xs[i] < y) ∧ (∀ i (h : i < xs.size), below xs y ≤ i → y ≤ xs[i]) :=
  below_go hs y xs.size 0 xs.size (Nat.zero_le _) (Nat.le_refl _) (Nat.le_refl _) (fun _ _ h => absurd h (Nat.not_lt_zero _)) (fun i h h' => absurd h (Nat.not_lt.mpr h'))

/- a hash's way leads to this place over held places alone -/
def Along (m : Nat) (h : Int) (occ : List Nat) (j : Nat) : Prop := ∃ K, K < 10 * turns m ∧ (pos m h K).j = j ∧ ∀ k, k < K → (pos m h k).j ∈ occ
theorem Along.mono {m : Nat} {h : Int} {occ occ' : List Nat} {j : Nat} (A : Along m h occ j) (hs : ∀ x ∈ occ, x ∈ occ') : Along m h occ' j := by
  obtain ⟨K, a, b, c⟩ := A
  exact ⟨K, a, b, fun k hk => hs _ (c k hk)⟩

structure WT (t : SetTable) (hs : List Int) : Prop where
  dm : t.dummies = #[]
  sz : t.place.size = hs.length
  srt : ∀ i j (hi : i < t.place.size) (hj : j < t.place.size), i < j → t.place[i] < t.place[j]
  le : ∀ j ∈ t.place.toList, j ≤ t.mask
  msk : t.mask = 7 ∨ t.mask = 15 ∨ t.mask = 31
  room : hs.length ≤ t.mask
  al : ∀ (i j : Nat) (h : Int), t.place[i]? = some j → hs[i]? = some h → Along t.mask h t.place.toList j

variable {t : SetTable} {hs : List Int}
theorem WT.slot_live (W : WT t hs) {i j : Nat} (h : t.place[i]? = some j) : t.slot j = .live i := by
  obtain ⟨h1, h2, h3⟩ := below_spec W.srt j
  obtain ⟨hi, e⟩ := Array.getElem?_eq_some_iff.mp h
  have e2 : below t.place j = i := by
    rcases Nat.lt_trichotomy (below t.place j) i with h' | h' | h'
    · have a := h3 (below t.place j) (by lia) (Nat.le_refl _)
      have b := W.srt _ _ (show below t.place j < t.place.size by lia) hi h'
      lia
    · exact h'
    · have a := h2 i hi h'; lia
  unfold SetTable.slot
  simp only [e2, h, beq_self_eq_true, if_true]
theorem WT.slot_empty (W : WT t hs) {j : Nat} (h : j ∉ t.place.toList) : t.slot j = .empty := by
  have hne : (t.place[below t.place j]? == some j) = false := by
    rw [beq_eq_false_iff_ne]
    intro e
    obtain ⟨hi, e⟩ := Array.getElem?_eq_some_iff.mp e
    exact h (by rw [← e]; exact Array.getElem_mem_toList hi)
  have hd : has t.dummies j = false := by rw [W.dm]; rfl
  unfold SetTable.slot
  simp only [hne, hd, Bool.false_eq_true, if_false]
theorem WT.has_free (W : WT t hs) : ∃ j, j ≤ t.mask ∧ j ∉ t.place.toList := by
  by_cases h : ∃ j, j ≤ t.mask ∧ j ∉ t.place.toList
  · exact h
  · have hall : ∀ j, j < t.mask + 1 → j ∈ t.place.toList := fun j hj => Decidable.not_not.mp fun hn => h ⟨j, by lia, hn⟩
    have := (List.nodup_range (n := t.mask + 1)).length_le_of_subset (l₂ := t.place.toList) (fun x hx => hall x (List.mem_range.mp hx))
    have h2 := W.sz; have h3 := W.room
    simp at this; lia
theorem WT.mem_place (W : WT t hs) {j : Nat} (h : j ∈ t.place.toList) : ∃ (i : Nat) (hh : Int), t.place[i]? = some j ∧ hs[i]? = some hh := by
  obtain ⟨i, hi⟩ := List.mem_iff_getElem?.mp h
  rw [Array.getElem?_toList] at hi
  have hl := (Array.getElem?_eq_some_iff.mp hi).1
  have hl' : i < hs.length := by have := W.sz; lia
  exact ⟨i, hs[i], hi, by simp [hl']⟩

/- the probe, up to a free place -/
theorem WT.go_free (W : WT t hs) {hashAt : Nat → Int} {h : Int} {K : Nat} (hK : (pos t.mask h K).j ∉ t.place.toList) (hb : ∀ k, k < K → (pos t.mask h k).j ∈ t.place.toList) : ∀ fuel k, k ≤ K → K - k < fuel →
    SetTable.probe.go t hashAt h fuel (pos t.mask h k) = some (.empty (pos t.mask h K).j none) ∨
    ∃ k' i, k ≤ k' ∧ k' < K ∧ t.place[i]? = some (pos t.mask h k').j ∧ hashAt i = h ∧ SetTable.probe.go t hashAt h fuel (pos t.mask h k) = some (.candidate (pos t.mask h k').j i (pos t.mask h (k' + 1))) := by
  intro fuel
  induction fuel with
  | zero => intro k _ h'; lia
  | succ fuel ih =>
    intro k hk hf
    unfold SetTable.probe.go
    rcases Nat.lt_or_eq_of_le hk with hlt | rfl
    · obtain ⟨i, hh, hi, _⟩ := W.mem_place (hb k hlt)
      rw [W.slot_live hi]
      dsimp only
      rw [advance_eq]
      by_cases he : hashAt i = h
      · right
        exact ⟨k, i, Nat.le_refl _, hlt, hi, he, by rw [he]; simp; rfl⟩
      · have : (hashAt i == h) = false := beq_eq_false_iff_ne.mpr he
        rw [this]
        simp only [Bool.false_eq_true, if_false]
        rcases ih (k + 1) hlt (by lia) with h' | ⟨k', i', a, b, c, d, e⟩
        · exact .inl h'
        · exact .inr ⟨k', i', by lia, b, c, d, e⟩
    · left
      rw [W.slot_empty hK]
      dsimp only
      rw [(pos_le t.mask h k).2]
/- the probe, up to a place that is held -/
theorem WT.go_held (W : WT t hs) {hashAt : Nat → Int} {h : Int} {K i₀ : Nat} (hK : t.place[i₀]? = some (pos t.mask h K).j) (h0 : hashAt i₀ = h) (hb : ∀ k, k < K → (pos t.mask h k).j ∈ t.place.toList) : ∀ fuel k, k ≤ K → K - k < fuel →
    ∃ k' i, k ≤ k' ∧ (k' < K ∨ i = i₀) ∧ t.place[i]? = some (pos t.mask h k').j ∧ hashAt i = h ∧ SetTable.probe.go t hashAt h fuel (pos t.mask h k) = some (.candidate (pos t.mask h k').j i (pos t.mask h (k' + 1))) := by
  intro fuel
  induction fuel with
  | zero => intro k _ h'; lia
  | succ fuel ih =>
    intro k hk hf
    unfold SetTable.probe.go
    rcases Nat.lt_or_eq_of_le hk with hlt | rfl
    · obtain ⟨i, hh, hi, _⟩ := W.mem_place (hb k hlt)
      rw [W.slot_live hi]
      dsimp only
      rw [advance_eq]
      by_cases he : hashAt i = h
      · exact ⟨k, i, Nat.le_refl _, .inl hlt, hi, he, by rw [he]; simp; rfl⟩
      · have : (hashAt i == h) = false := beq_eq_false_iff_ne.mpr he
        rw [this]
        simp only [Bool.false_eq_true, if_false]
        obtain ⟨k', i', a, b, c, d, e⟩ := ih (k + 1) hlt (by lia)
        exact ⟨k', i', by lia, b, c, d, e⟩
    · rw [W.slot_live hK]
      dsimp only
      rw [advance_eq, h0]
      refine ⟨k, i₀, Nat.le_refl _, .inr rfl, hK, h0, ?_⟩
      simp; rfl
end ST
end Mine
end

-- part S2
section
set_option linter.unusedSectionVars false
set_option linter.unusedVariables false
namespace Mine
namespace ST
open PySem PySem.SetTable

theorem getElem?_ins {α : Type} (l : List α) (p : Nat) (x : α) (hp : p ≤ l.length) (i : Nat) : (l.take p ++ x :: l.drop p)[i]? = if i < p then l[i]? else if i = p then some x else l[i - 1]? := by
  rw [List.getElem?_append, List.length_take, Nat.min_eq_left hp]
  by_cases h : i < p
  · rw [if_pos h, if_pos h, List.getElem?_take, if_pos h]
  · rw [if_neg h, if_neg h]
    by_cases e : i = p
    · rw [if_pos e, e]; simp
    · rw [if_neg e, show i - p = (i - p - 1) + 1 by lia, List.getElem?_cons_succ, List.getElem?_drop]
      congr 1; lia

theorem srt_iff {xs : Array Nat} : (∀ i j (hi : i < xs.size) (hj : j < xs.size), i < j → xs[i] < xs[j]) ↔ xs.toList.Pairwise (· < ·) := by
  rw [List.pairwise_iff_getElem]
  constructor
  · intro h i j hi hj hij
    have := h i j (by simpa using hi) (by simpa using hj) hij
    simpa using this
  · intro h i j hi hj hij
    have := h i j (by simpa using hi) (by simpa using hj) hij
    simpa using this

variable {t : SetTable} {hs : List Int}

theorem WT.put (W : WT t hs) {h : Int} {K : Nat} (hK : (pos t.mask h K).j ∉ t.place.toList) (hKl : K < 10 * turns t.mask) (hb : ∀ k, k < K → (pos t.mask h k).j ∈ t.place.toList) (hroom : hs.length + 1 ≤ t.mask) :
    (t.put (pos t.mask h K).j).2 ≤ hs.length ∧ (t.put (pos t.mask h K).j).1.mask = t.mask ∧ (t.put (pos t.mask h K).j).1.plain = t.plain ∧ (t.put (pos t.mask h K).j).1.moves = t.moves ∧ (t.put (pos t.mask h K).j).1.led = t.led ∧
    WT (t.put (pos t.mask h K).j).1 (hs.take (t.put (pos t.mask h K).j).2 ++ h :: hs.drop (t.put (pos t.mask h K).j).2) := by
  generalize hj : (pos t.mask h K).j = j at hK ⊢
  have hd : has t.dummies j = false := by rw [W.dm]; rfl
  have e : t.put j = ({ t with place := insertAt t.place (below t.place j) j }, below t.place j) := by
    unfold SetTable.put; simp only [hd, Bool.false_eq_true, if_false]
  rw [e]
  obtain ⟨h1, h2, h3⟩ := below_spec W.srt j
  generalize below t.place j = p at h1 h2 h3 ⊢
  have hsz := W.sz
  have hp : p ≤ hs.length := by lia
  have hpl : p ≤ t.place.toList.length := by simpa using h1
  refine ⟨hp, rfl, rfl, rfl, rfl, ?_⟩
  have hins := SetTable.toList_insertAt t.place p j
  have hmem : ∀ x ∈ t.place.toList, x ∈ (insertAt t.place p j).toList := by
    intro x hx
    rw [hins]
    rw [← List.take_append_drop p t.place.toList] at hx
    rcases List.mem_append.mp hx with h | h
    · exact List.mem_append_left _ h
    · exact List.mem_append_right _ (.tail _ h)
  have hmask : (pos t.mask h K).j ≤ t.mask := by have := (pos_le t.mask h K).1; lia
  rw [hj] at hmask
  refine ⟨W.dm, ?_, ?_, ?_, W.msk, ?_, ?_⟩
  · show (insertAt t.place p j).size = _
    rw [← Array.length_toList, hins]; simp; lia
  · show ∀ i j' (hi : i < (insertAt t.place p j).size) (hj : j' < (insertAt t.place p j).size), i < j' → (insertAt t.place p j)[i] < (insertAt t.place p j)[j']
    rw [srt_iff, hins]
    have hpw := srt_iff.mp W.srt
    rw [← List.take_append_drop p t.place.toList, List.pairwise_append] at hpw
    rw [List.pairwise_append]
    have hlo : ∀ a ∈ t.place.toList.take p, a < j := by
      intro a ha
      obtain ⟨i, hi, rfl⟩ := List.mem_take_iff_getElem.mp ha
      have hi' : i < p ∧ i < t.place.size := by simp at hi; lia
      have := h2 i hi'.2 hi'.1
      simpa using this
    have hhi : ∀ a ∈ t.place.toList.drop p, j < a := by
      intro a ha
      have hne : a ≠ j := fun e => hK (e ▸ List.mem_of_mem_drop ha)
      obtain ⟨i, hi, rfl⟩ := List.mem_iff_getElem.mp ha
      have hi' : p + i < t.place.size := by simp at hi; lia
      have := h3 (p + i) hi' (by lia)
      have e : (t.place.toList.drop p)[i] = t.place[p + i] := by simp
      rw [e] at hne ⊢
      lia
    refine ⟨hpw.1, List.pairwise_cons.mpr ⟨hhi, hpw.2.1⟩, fun a ha b hb' => ?_⟩
    rcases List.mem_cons.mp hb' with rfl | hb'
    · exact hlo a ha
    · exact hpw.2.2 a ha b hb'
  · show ∀ x ∈ (insertAt t.place p j).toList, x ≤ t.mask
    intro x hx
    rw [hins] at hx
    rcases List.mem_append.mp hx with h | h
    · exact W.le x (List.mem_of_mem_take h)
    · rcases List.mem_cons.mp h with rfl | h
      · exact hmask
      · exact W.le x (List.mem_of_mem_drop h)
  · show _ ≤ t.mask
    simp; lia
  · intro i j' h' hi hh
    have hi : (insertAt t.place p j)[i]? = some j' := hi
    show Along t.mask h' (insertAt t.place p j).toList j'
    rw [← Array.getElem?_toList, hins, getElem?_ins _ _ _ hpl] at hi
    rw [getElem?_ins _ _ _ hp] at hh
    by_cases c1 : i < p
    · rw [if_pos c1] at hi hh
      exact (W.al i j' h' (by rw [← Array.getElem?_toList]; exact hi) hh).mono hmem
    · rw [if_neg c1] at hi hh
      by_cases c2 : i = p
      · rw [if_pos c2] at hi hh
        cases hi; cases hh
        exact ⟨K, hKl, hj, fun k hk => hmem _ (hb k hk)⟩
      · rw [if_neg c2] at hi hh
        exact (W.al (i - 1) j' h' (by rw [← Array.getElem?_toList]; exact hi) hh).mono hmem

/- a free place by a probe that knows no hash -/
theorem WT.freeSlot (W : WT t hs) (h : Int) : ∃ K, K < 10 * turns t.mask ∧ (pos t.mask h K).j ∉ t.place.toList ∧ (∀ k, k < K → (pos t.mask h k).j ∈ t.place.toList) ∧ t.freeSlot h = some ((pos t.mask h K).j, false) := by
  obtain ⟨j, hj, hf⟩ := W.has_free
  obtain ⟨K, hKl, hK, hb⟩ := firstFree W.msk h hj hf
  refine ⟨K, hKl, hK, hb, ?_⟩
  unfold SetTable.freeSlot SetTable.probe
  rw [start_eq]
  rcases W.go_free (hashAt := fun _ => h + 1) hK hb (10 * turns t.mask) 0 (Nat.zero_le _) (by lia) with h' | ⟨k', i, _, _, _, he, _⟩
  · rw [h']; rfl
  · lia

theorem WT.fits (W : WT t hs) {n : Nat} (hn : n = hs.length) : t.fits n = true := by
  have h1 := W.sz; have h2 := W.room; have h3 : t.dummies.size = 0 := by rw [W.dm]; rfl
  unfold SetTable.fits SetTable.fill
  simp; lia

/- a new one laid without a search -/
theorem WT.layNew {es : Array (Int × Value)} (W : WT t (es.toList.map (·.1))) (h : Int) (x : Value) (hroom : es.size + 1 ≤ t.mask) :
    ∃ t' p, layNew t es h x = (insertAt es p (h, x), t', false, false) ∧ p ≤ es.size ∧ t'.mask = t.mask ∧ t'.plain = t.plain ∧ WT t' ((insertAt es p (h, x)).toList.map (·.1)) := by
  obtain ⟨K, hKl, hK, hb, e⟩ := W.freeSlot h
  obtain ⟨a1, a2, a3, a4, a5, W'⟩ := W.put hK hKl hb (by simpa using hroom)
  have e2 : (es.toList.map (·.1)).take (t.put (pos t.mask h K).j).2 ++ h :: (es.toList.map (·.1)).drop (t.put (pos t.mask h K).j).2 = (insertAt es (t.put (pos t.mask h K).j).2 (h, x)).toList.map (·.1) := by
    rw [SetTable.toList_insertAt, List.map_append, List.map_cons, List.map_take, List.map_drop]
  rw [e2] at W'
  have hf : (t.put (pos t.mask h K).j).1.fits (insertAt es (t.put (pos t.mask h K).j).2 (h, x)).size = true := W'.fits (by rw [← Array.length_toList, List.length_map])
  refine ⟨(t.put (pos t.mask h K).j).1, (t.put (pos t.mask h K).j).2, ?_, by simpa using a1, a2, a3, W'⟩
  unfold PySem.layNew
  rw [e]
  dsimp only
  unfold SetTable.orStandIn
  rw [hf]
  rfl
end ST
end Mine
end

-- part S3
section
set_option linter.unusedSectionVars false
set_option linter.unusedVariables false
namespace Mine
namespace ST
open PySem PySem.SetTable

/- where the runs begin -/
def kOf (m : Nat) (h : Int) : Nat → Nat
  | 0 => 0
  | n + 1 => kOf m h n + (runEnd m (bas m (bits h) n).1 - (bas m (bits h) n).1) + 1
theorem pos_kOf (m : Nat) (h : Int) : ∀ n, pos m h (kOf m h n) = at0 m (bas m (bits h) n) := by
  intro n
  induction n with
  | zero => rfl
  | succ n ih =>
    have hm : (pos m h (kOf m h n)).more = runEnd m (bas m (bits h) n).1 - (bas m (bits h) n).1 := by rw [ih]; rfl
    show adv m (pos m h (kOf m h n + (runEnd m (bas m (bits h) n).1 - (bas m (bits h) n).1))) = _
    rw [pos_run m h _ _ (by rw [hm]; exact Nat.le_refl _)]
    unfold adv
    rw [if_neg (by show ¬ ((pos m h (kOf m h n)).more - _ > 0); lia), ih]
    rfl
theorem kOf_mono (m : Nat) (h : Int) {a b : Nat} (hab : a ≤ b) : kOf m h a ≤ kOf m h b := by
  induction hab with
  | refl => exact Nat.le_refl _
  | step _ ih => exact Nat.le_trans ih (by show _ ≤ kOf m h _ + _ + 1; lia)
theorem cover' {m : Nat} (hm : m = 7 ∨ m = 15 ∨ m = 31) (h : Int) {j : Nat} (hj : j ≤ m) : ∃ n, n ≤ 13 + m ∧ (pos m h (kOf m h n)).j = j := by
  have hb : (bas m (bits h) 13).1 < m + 1 := Nat.mod_lt _ (Nat.succ_pos m)
  obtain ⟨q, hq, e⟩ := mem_orb (orb_all hm _ hb j (by lia))
  rw [← bas_it m _ (bits_lt h)] at e
  exact ⟨13 + q, by lia, by rw [pos_kOf]; exact e⟩
theorem kOf_le (m : Nat) (h : Int) : ∀ n, kOf m h n ≤ 10 * n := by
  intro n
  induction n with
  | zero => exact Nat.le_refl _
  | succ n ih =>
    have := run_end m (bas m (bits h) n).1
    show kOf m h n + _ + 1 ≤ _
    lia

def freeAt (owner : Array (Option Nat)) (j : Nat) : Bool := (owner.getD j (some 0)).isNone

theorem free_find {m : Nat} {h : Int} {owner : Array (Option Nat)} {K : Nat} (hK : freeAt owner (pos m h K).j = true) (hb : ∀ k, k < K → freeAt owner (pos m h k).j = false) :
    ∀ fuel n, kOf m h n ≤ K → K < kOf m h (n + fuel) → layClean.free m owner fuel (bas m (bits h) n).1 (bas m (bits h) n).2 = some (pos m h K).j := by
  intro fuel
  induction fuel with
  | zero => intro n h1 h2; exact absurd h2 (Nat.not_lt.mpr h1)
  | succ fuel ih =>
    intro n h1 h2
    have hbase := pos_kOf m h n
    have hmore : (pos m h (kOf m h n)).more = runEnd m (bas m (bits h) n).1 - (bas m (bits h) n).1 := by rw [hbase]; rfl
    have hjb : (pos m h (kOf m h n)).j = (bas m (bits h) n).1 := by rw [hbase]; rfl
    have hle : (bas m (bits h) n).1 ≤ runEnd m (bas m (bits h) n).1 := by unfold runEnd; split <;> lia
    have hat : ∀ r, r ≤ runEnd m (bas m (bits h) n).1 - (bas m (bits h) n).1 → (pos m h (kOf m h n + r)).j = (bas m (bits h) n).1 + r := by
      intro r hr
      rw [pos_run m h _ r (by rw [hmore]; exact hr)]
      show (pos m h (kOf m h n)).j + r = _
      rw [hjb]
    unfold layClean.free
    by_cases hlt : K < kOf m h (n + 1)
    · have hlt : K < kOf m h n + (runEnd m (bas m (bits h) n).1 - (bas m (bits h) n).1) + 1 := hlt
      have hr := hat (K - kOf m h n) (by lia)
      rw [show kOf m h n + (K - kOf m h n) = K by lia] at hr
      have hf : (List.range (runEnd m (bas m (bits h) n).1 + 1 - (bas m (bits h) n).1)).find? (fun k => (owner.getD ((bas m (bits h) n).1 + k) (some 0)).isNone) = some (K - kOf m h n) := by
        rw [List.find?_range_eq_some]
        refine ⟨?_, List.mem_range.mpr (by lia), fun j hj => ?_⟩
        · rw [← hr]; exact hK
        · have := hb (kOf m h n + j) (by lia)
          rw [hat j (by lia)] at this
          rw [show (owner.getD ((bas m (bits h) n).1 + j) (some 0)).isNone = false from this]; rfl
      rw [hf]
      dsimp only
      rw [hr]
    · have hf : (List.range (runEnd m (bas m (bits h) n).1 + 1 - (bas m (bits h) n).1)).find? (fun k => (owner.getD ((bas m (bits h) n).1 + k) (some 0)).isNone) = none := by
        rw [List.find?_eq_none]
        intro r hr
        have hr := List.mem_range.mp hr
        have hlt' : kOf m h n + (runEnd m (bas m (bits h) n).1 - (bas m (bits h) n).1) + 1 ≤ K := Nat.not_lt.mp hlt
        have := hb (kOf m h n + r) (by lia)
        rw [hat r (by lia)] at this
        rw [show (owner.getD ((bas m (bits h) n).1 + r) (some 0)).isNone = false from this]; simp
      rw [hf]
      dsimp only
      refine ih (n + 1) (Nat.not_lt.mp hlt) ?_
      rw [show n + 1 + fuel = n + (fuel + 1) by lia]; exact h2

def occL (m : Nat) (owner : Array (Option Nat)) : List Nat := (List.range (m + 1)).filter fun j => (owner.getD j none).isSome

structure LInv (m : Nat) (done : List Int) (owner : Array (Option Nat)) : Prop where
  sz : owner.size = m + 1
  at_ : ∀ (j i : Nat), owner[j]? = some (some i) → ∃ h, done[i]? = some h ∧ Along m h (occL m owner) j
  ex : ∀ i, i < done.length → ∃ j : Nat, owner[j]? = some (some i)
  inj : ∀ (j j' i : Nat), owner[j]? = some (some i) → owner[j']? = some (some i) → j = j'

theorem mem_occL {m : Nat} {owner : Array (Option Nat)} (hs : owner.size = m + 1) {j : Nat} (hj : j ≤ m) : j ∈ occL m owner ↔ freeAt owner j = false := by
  unfold occL freeAt
  have hlt : j < owner.size := by lia
  rw [List.mem_filter, List.mem_range]
  simp only [Array.getD, hlt, dif_pos]
  cases owner.getInternal j hlt <;> simp <;> lia
theorem mem_occL' {m : Nat} {owner : Array (Option Nat)} (hs : owner.size = m + 1) {j : Nat} : j ∈ occL m owner ↔ ∃ i, owner[j]? = some (some i) := by
  unfold occL
  rw [List.mem_filter, List.mem_range]
  by_cases hlt : j < owner.size
  · have : owner[j]? = some owner[j] := by simp [hlt]
    rw [this]
    simp only [Array.getD, hlt, dif_pos]
    rw [show owner.getInternal j hlt = owner[j] from rfl]
    cases owner[j] <;> simp <;> lia
  · rw [Array.getElem?_eq_none (by lia)]
    simp; lia

theorem LInv.step {m : Nat} (hm : m = 7 ∨ m = 15 ∨ m = 31) {done : List Int} {owner : Array (Option Nat)} (L : LInv m done owner) (h : Int) (hroom : done.length ≤ m) :
    ∃ j, layClean.free m owner (turns m) (bits h % (m + 1)) (bits h) = some j ∧ LInv m (done ++ [h]) (owner.setIfInBounds j (some done.length)) := by
  -- a free place
  have hfree : ∃ j, j ≤ m ∧ j ∉ occL m owner := by
    by_cases hx : ∃ j, j ≤ m ∧ j ∉ occL m owner
    · exact hx
    · have hall : ∀ j, j < m + 1 → ∃ i, owner[j]? = some (some i) := fun j hj => (mem_occL' L.sz).mp (Decidable.not_not.mp fun hn => hx ⟨j, by lia, hn⟩)
      let g : Nat → Nat := fun j => ((owner[j]?).getD none).getD 0
      have hg : ∀ j, j < m + 1 → owner[j]? = some (some (g j)) := fun j hj => by obtain ⟨i, hi⟩ := hall j hj; show _ = some (some (((owner[j]?).getD none).getD 0)); rw [hi]; rfl
      have hnd : ((List.range (m + 1)).map g).Nodup := by
        unfold List.Nodup
        rw [List.pairwise_map]
        refine List.Pairwise.imp_of_mem ?_ List.nodup_range
        intro a b ha hb hab e
        have h1 := hg a (List.mem_range.mp ha)
        have h2 := hg b (List.mem_range.mp hb)
        rw [← e] at h2
        exact hab (L.inj a b _ h1 h2)
      have := hnd.length_le_of_subset (l₂ := List.range done.length) (fun x hx => by
        obtain ⟨j, hj, rfl⟩ := List.mem_map.mp hx
        obtain ⟨h, hh, _⟩ := L.at_ j (g j) (hg j (List.mem_range.mp hj))
        exact List.mem_range.mpr (List.getElem?_eq_some_iff.mp hh).1)
      simp at this; lia
  obtain ⟨j, hj, hjf⟩ := hfree
  obtain ⟨n, hn, hnj⟩ := cover' hm h hj
  obtain ⟨K, hKl, hK, hb⟩ := least (p := fun k => (pos m h k).j ∉ occL m owner) (fun k => Decidable.em _) (kOf m h n) (by rw [hnj]; exact hjf)
  have hple : ∀ k, (pos m h k).j ≤ m := fun k => by have := (pos_le m h k).1; lia
  have hKf : freeAt owner (pos m h K).j = true := by
    cases e : freeAt owner (pos m h K).j with
    | true => rfl
    | false => exact absurd ((mem_occL L.sz (hple K)).mpr e) hK
  have hbo : ∀ k, k < K → (pos m h k).j ∈ occL m owner := fun k hk => Decidable.not_not.mp (hb k hk)
  have hbf : ∀ k, k < K → freeAt owner (pos m h k).j = false := fun k hk => (mem_occL L.sz (hple k)).mp (hbo k hk)
  have hlast : K < kOf m h (0 + turns m) := by
    have h1 : kOf m h n < kOf m h (n + 1) := by show _ < kOf m h n + _ + 1; lia
    have h2 : kOf m h (n + 1) ≤ kOf m h (0 + turns m) := kOf_mono m h (by unfold turns; lia)
    lia
  have hKb : K < 10 * turns m := by
    have := kOf_le m h n
    unfold turns; lia
  refine ⟨(pos m h K).j, free_find hKf hbf (turns m) 0 (Nat.zero_le _) hlast, ?_⟩
  have hpj : (pos m h K).j < owner.size := by have := hple K; have := L.sz; lia
  have hno : ∀ i, owner[(pos m h K).j]? ≠ some (some i) := fun i e => hK ((mem_occL' L.sz).mpr ⟨i, e⟩)
  have hsz' : (owner.setIfInBounds (pos m h K).j (some done.length)).size = m + 1 := by rw [Array.size_setIfInBounds]; exact L.sz
  have hget : ∀ j', (owner.setIfInBounds (pos m h K).j (some done.length))[j']? = if (pos m h K).j = j' then some (some done.length) else owner[j']? := by
    intro j'; rw [Array.getElem?_setIfInBounds, if_pos hpj]
  have hsub : ∀ x ∈ occL m owner, x ∈ occL m (owner.setIfInBounds (pos m h K).j (some done.length)) := by
    intro x hx
    obtain ⟨i, hi⟩ := (mem_occL' L.sz).mp hx
    refine (mem_occL' hsz').mpr ?_
    rw [hget]
    split
    · exact ⟨_, rfl⟩
    · exact ⟨i, hi⟩
  refine ⟨hsz', ?_, ?_, ?_⟩
  · intro j' i hi
    rw [hget] at hi
    by_cases e : (pos m h K).j = j'
    · rw [if_pos e] at hi
      cases hi
      exact ⟨h, by simp, K, hKb, e, fun k hk => hsub _ (hbo k hk)⟩
    · rw [if_neg e] at hi
      obtain ⟨h', hh, A⟩ := L.at_ j' i hi
      exact ⟨h', by rw [List.getElem?_append_left (List.getElem?_eq_some_iff.mp hh).1]; exact hh, A.mono hsub⟩
  · intro i hi
    by_cases e : i = done.length
    · exact ⟨(pos m h K).j, by rw [hget, if_pos rfl, e]⟩
    · obtain ⟨j', hj'⟩ := L.ex i (by simp at hi; lia)
      refine ⟨j', ?_⟩
      rw [hget, if_neg (fun q => hno i (by rw [q]; exact hj'))]; exact hj'
  · intro a b i ha hb'
    rw [hget] at ha hb'
    have hlt : ∀ {j' : Nat}, owner[j']? = some (some done.length) → False := fun h' => by
      obtain ⟨_, hh, _⟩ := L.at_ _ _ h'
      exact Nat.lt_irrefl _ (List.getElem?_eq_some_iff.mp hh).1
    by_cases e1 : (pos m h K).j = a
    · by_cases e2 : (pos m h K).j = b
      · rw [← e1, ← e2]
      · rw [if_pos e1] at ha; rw [if_neg e2] at hb'
        cases ha; exact (hlt hb').elim
    · by_cases e2 : (pos m h K).j = b
      · rw [if_neg e1] at ha; rw [if_pos e2] at hb'
        cases hb'; exact (hlt ha).elim
      · rw [if_neg e1] at ha; rw [if_neg e2] at hb'
        exact L.inj a b i ha hb'

theorem layClean_ok {m : Nat} (hm : m = 7 ∨ m = 15 ∨ m = 31) (hashes : Array Int) (hroom : hashes.size ≤ m) : ∃ owner, layClean m hashes = some owner ∧ LInv m hashes.toList owner := by
  have L0 : LInv m [] (Array.replicate (m + 1) none) := by
    refine ⟨by simp, ?_, by simp, ?_⟩
    · intro j i h
      rw [Array.getElem?_replicate] at h
      split at h <;> cases h
    · intro j j' i h
      rw [Array.getElem?_replicate] at h
      split at h <;> cases h
  have key : ∀ (l done : List Int) (owner : Array (Option Nat)), LInv m done owner → done.length + l.length ≤ m → ∃ owner', (l.foldl (init := some (owner, done.length)) fun (acc : Option (Array (Option Nat) × Nat)) h => do
      let (owner, k) ← acc
      let j ← layClean.free m owner (turns m) (bits h % (m + 1)) (bits h)
      pure (owner.setIfInBounds j (some k), k + 1)) = some (owner', done.length + l.length) ∧ LInv m (done ++ l) owner' := by
    intro l
    induction l with
    | nil => intro done owner L _; exact ⟨owner, rfl, by simpa using L⟩
    | cons h l ih =>
      intro done owner L hl
      obtain ⟨j, e, L'⟩ := L.step hm h (by simp at hl; lia)
      obtain ⟨o', e', L''⟩ := ih (done ++ [h]) _ L' (by simp at hl ⊢; lia)
      refine ⟨o', ?_, by simpa using L''⟩
      rw [List.foldl_cons]
      show l.foldl _ ((some (owner, done.length)).bind fun x => (layClean.free m x.1 (turns m) (bits h % (m + 1)) (bits h)).bind fun j => some (x.1.setIfInBounds j (some x.2), x.2 + 1)) = _
      simp only [Option.bind_some, e]
      rw [List.length_append] at e'
      rw [show done.length + (h :: l).length = done.length + [h].length + l.length by simp; lia]
      exact e'
  obtain ⟨o, e, L⟩ := key hashes.toList [] _ L0 (by simpa using hroom)
  refine ⟨o, ?_, by simpa using L⟩
  unfold layClean
  rw [← Array.foldl_toList]
  rw [show (0 : Nat) = ([] : List Int).length from rfl, e]
  rfl
end ST
end Mine
end

-- part S4
section
set_option linter.unusedSectionVars false
set_option linter.unusedVariables false
namespace Mine
namespace ST
open PySem PySem.SetTable

theorem live_fst (f : Nat → Option Nat) : ∀ l : List Nat, (l.filterMap fun j => (f j).map (j, ·)).map (·.1) = l.filter fun j => (f j).isSome := by
  intro l
  induction l with
  | nil => rfl
  | cons j l ih =>
    cases e : f j with
    | none => simp [e, ih]
    | some i => simp [e, ih]
theorem mem_live {f : Nat → Option Nat} {l : List Nat} {q : Nat × Nat} : q ∈ (l.filterMap fun j => (f j).map (j, ·)) ↔ q.1 ∈ l ∧ f q.1 = some q.2 := by
  rw [List.mem_filterMap]
  constructor
  · rintro ⟨j, hj, e⟩
    obtain ⟨i, hi, rfl⟩ := Option.map_eq_some_iff.mp e
    exact ⟨hj, hi⟩
  · rintro ⟨h1, h2⟩
    exact ⟨q.1, h1, by rw [h2]; rfl⟩

/- a table laid anew bears the same things -/
theorem laid_ok {m : Nat} (hm : m = 7 ∨ m = 15 ∨ m = 31) (fin mv : Nat) (led plain : Bool) {es : Array (Int × Value)} (hroom : es.size ≤ m) :
    ∃ t order, SetTable.laid m fin mv led plain (es.map (·.1)) = some (t, order) ∧ t.mask = m ∧ t.plain = plain ∧ (order.filterMap (es[·]?)).size = es.size ∧ (order.filterMap (es[·]?)).toList.Perm es.toList ∧ WT t ((order.filterMap (es[·]?)).toList.map (·.1)) := by
  obtain ⟨owner, e, L⟩ := layClean_ok hm (es.map (·.1)) (by simpa using hroom)
  obtain ⟨f, hf⟩ : ∃ f : Nat → Option Nat, f = fun j => owner.getD j none := ⟨_, rfl⟩
  obtain ⟨live, hlive⟩ : ∃ live, live = (List.range (m + 1)).filterMap fun j => (f j).map (j, ·) := ⟨_, rfl⟩
  have hfat : ∀ j i, f j = some i ↔ owner[j]? = some (some i) := by
    intro j i
    rw [hf]
    by_cases hlt : j < owner.size
    · have : owner[j]? = some owner[j] := by simp [hlt]
      rw [this]
      simp [Array.getD, hlt]
    · rw [Array.getElem?_eq_none (by lia)]
      simp [Array.getD, hlt]
  have hml : ∀ q, q ∈ live ↔ owner[q.1]? = some (some q.2) := by
    intro q
    rw [hlive, mem_live, hfat]
    refine ⟨fun h => h.2, fun h => ⟨List.mem_range.mpr ?_, h⟩⟩
    have := (Array.getElem?_eq_some_iff.mp h).1
    have := L.sz; lia
  have hfst : live.map (·.1) = occL m owner := by rw [hlive, live_fst]; unfold occL; rw [hf]
  have hpw : (live.map (·.1)).Pairwise (· < ·) := by rw [hfst]; exact List.pairwise_lt_range.filter _
  have hlen : (es.map (·.1)).toList.length = es.size := by simp
  have hsnd : ∀ i, i ∈ live.map (·.2) ↔ i < es.size := by
    intro i
    constructor
    · intro h
      obtain ⟨q, hq, rfl⟩ := List.mem_map.mp h
      obtain ⟨h, hh, _⟩ := L.at_ _ _ ((hml q).mp hq)
      have := (List.getElem?_eq_some_iff.mp hh).1
      lia
    · intro h
      obtain ⟨j, hj⟩ := L.ex i (by lia)
      exact List.mem_map.mpr ⟨(j, i), (hml _).mpr hj, rfl⟩
  have hnd : (live.map (·.2)).Nodup := by
    unfold List.Nodup
    rw [List.pairwise_map]
    rw [List.pairwise_map] at hpw
    refine List.Pairwise.imp_of_mem ?_ hpw
    intro a b ha hb hab e2
    have h1 := (hml a).mp ha
    have h2 := (hml b).mp hb
    rw [← e2] at h2
    have := L.inj _ _ _ h1 h2
    lia
  have hperm : (live.map (·.2)).Perm (List.range es.size) := (List.perm_ext_iff_of_nodup hnd List.nodup_range).mpr fun i => by rw [hsnd, List.mem_range]
  have hesl : (((live.map (·.2)).toArray).filterMap (es[·]?)).toList = (live.map (·.2)).filterMap (es[·]?) := by rw [Array.toList_filterMap]
  have hp2 : (((live.map (·.2)).toArray).filterMap (es[·]?)).toList.Perm es.toList := by
    rw [hesl]
    exact (hperm.filterMap _).trans (by rw [filterMap_getElem?_range])
  have hsz : (((live.map (·.2)).toArray).filterMap (es[·]?)).size = es.size := by rw [← Array.length_toList, hp2.length_eq, Array.length_toList]
  have hll : live.length = es.size := by have := hperm.length_eq; simpa using this
  refine ⟨{ mask := m, place := (live.map (·.1)).toArray, dummies := #[], finger := fin, led := led, moves := mv, plain := plain }, (live.map (·.2)).toArray, ?_, rfl, rfl, hsz, hp2, ?_⟩
  · unfold SetTable.laid
    rw [e, hlive, hf]; rfl
  · -- item by item
    have hat : ∀ (i : Nat) (hh : Int), ((((live.map (·.2)).toArray).filterMap (es[·]?)).toList.map (·.1))[i]? = some hh → ∃ q, live[i]? = some q ∧ (es.map (·.1)).toList[q.2]? = some hh := by
      have key : ∀ (l : List (Nat × Nat)), (∀ q ∈ l, q.2 < es.size) → ∀ (i : Nat) (hh : Int), (((l.map (·.2)).filterMap (es[·]?)).map (·.1))[i]? = some hh → ∃ q, l[i]? = some q ∧ (es.map (·.1)).toList[q.2]? = some hh := by
        intro l
        induction l with
        | nil => intro _ i hh h; simp at h
        | cons q l ih =>
          intro hl i hh h
          have hq := hl q List.mem_cons_self
          have e1 : es[q.2]? = some es[q.2] := by simp [hq]
          rw [List.map_cons, List.filterMap_cons_some e1, List.map_cons] at h
          cases i with
          | zero =>
            refine ⟨q, rfl, ?_⟩
            have h : es[q.2].1 = hh := by simpa using h
            rw [← h]; simp [hq]
          | succ i => exact ih (fun x hx => hl x (List.mem_cons_of_mem _ hx)) i hh (by simpa using h)
      intro i hh h
      rw [hesl] at h
      exact key live (fun q hq => (hsnd q.2).mp (List.mem_map.mpr ⟨q, hq, rfl⟩)) i hh h
    refine ⟨rfl, ?_, ?_, ?_, hm, ?_, ?_⟩
    · show ((live.map (·.1)).toArray).size = _
      rw [List.length_map, Array.length_toList, hsz, List.size_toArray, List.length_map, hll]
    · exact srt_iff.mpr hpw
    · intro j hj
      have hj : j ∈ live.map (·.1) := hj
      obtain ⟨q, hq, rfl⟩ := List.mem_map.mp hj
      have := (Array.getElem?_eq_some_iff.mp ((hml q).mp hq)).1
      have := L.sz
      show q.1 ≤ m; lia
    · rw [List.length_map, Array.length_toList, hsz]; exact hroom
    · intro i j hh hi hhh
      obtain ⟨q, hq, hq2⟩ := hat i hh hhh
      have hi : ((live.map (·.1)).toArray)[i]? = some j := hi
      have hj : q.1 = j := by
        rw [List.getElem?_toArray, List.getElem?_map, hq] at hi
        simpa using hi
      obtain ⟨h', hh', A⟩ := L.at_ _ _ ((hml q).mp (List.mem_of_getElem? hq))
      rw [hq2] at hh'
      cases hh'
      show Along m hh (live.map (·.1)).toArray.toList j
      rw [hfst, ← hj]; exact A
end ST
end Mine
end

-- part S5
section
open PySem PySem.W PyProof.Rows PySem.Spec
set_option linter.unusedSectionVars false
set_option linter.unusedVariables false
namespace Mine
open Mine.ST

def tokOk : Value → Prop
  | .int _ t => t ≠ 0
  | .str _ t => t ≠ 0
  | _ => True

abbrev sObj (es : Array (Int × Value)) (ep : Nat) (t : SetTable) : Obj := { cls := .type "set", dict := none, data := .set es ep t }

section
variable {prog : Program} {w : World} {A : Around} {E : Value → Shared → Prop} {s : Shared} {kd : Nat}

theorem wpAny_ite_any {M : Model} {α : Type} {c : Prop} [Decidable c] {x y : Sem α} {Q : α → Shared → Prop} (h1 : wpAny M A x Q E s) (h2 : wpAny M A y Q E s) : wpAny M A (if c then x else y) Q E s := by split <;> assumption
theorem name_isSame {k : Nat} {v : Value} {Q : Bool → Shared → Prop} (hv : NameIs kd s.heap k v) (hk : k < 200) (ht : tokOk v) (h : Q true s) : wpAny (model prog w) A (isSame v v) Q E s := by
  rcases hv with ⟨_, t, rfl⟩ | ⟨_, t, rfl⟩ | ⟨_, a, t, t', n, rfl, ho⟩
  · have ht : t ≠ 0 := ht
    unfold isSame
    have h1 : ((k : Int) == (k : Int) && smallInt (k : Int)) = true := by
      unfold smallInt; simp; lia
    simp only [h1, if_true]
    unfold isSame.cachedInt
    have h2 : (t == 0 || t == 0) = false := by simp [ht]
    rw [h2]
    simp only [Bool.false_eq_true, if_false]
    exact wpAny_bind (wpAny_rule (wpAny_pure h))
  · have ht : t ≠ 0 := ht
    unfold isSame isSame.created
    have h2 : (t == 0 || t == 0) = false := by simp [ht]
    simp only [h2, Bool.false_eq_true, if_false]
    simp only [beq_self_eq_true, if_true]
    exact wpAny_pure h
  · exact wpAny_isSame_ref_self h

theorem name_ofAClass {k : Nat} {v : Value} {Q : Bool → Shared → Prop} (hv : NameIs kd s.heap k v) (h : Q false s) : wpAny (model prog w) A (ofAClassStatement 8 v) Q E s := by
  rcases hv with ⟨_, t, rfl⟩ | ⟨_, t, rfl⟩ | ⟨_, a, t, t', n, rfl, ho⟩
  · unfold ofAClassStatement; exact wpAny_pure h
  · unfold ofAClassStatement; exact wpAny_pure h
  · unfold ofAClassStatement
    refine wpAny_bind (wpAny_typeOf (T := "tuple") ⟨_, ho, rfl⟩ ?_)
    dsimp only
    rw [if_pos (by decide)]
    refine wpAny_bind (wpAny_pure ?_)
    simp only [Bool.not_true, Bool.false_eq_true, if_false]
    refine wpAny_bind (wpAny_seqItems ho rfl ?_)
    dsimp only
    refine wpAny_bind ?_
    rw [← Array.forIn_toList]
    refine wpAny_forIn_list _ (fun rest r s' => r = (none, ()) ∧ s' = s ∧ ∀ v ∈ rest, ∀ {Q : Bool → Shared → Prop}, Q false s → wpAny (model prog w) A (ofAClassStatement 7 v) Q E s) _ ?_ ?_ _ _ ⟨rfl, rfl, ?_⟩
    · rintro v rest r s' ⟨rfl, rfl, hall⟩
      refine wpAny_bind (hall v List.mem_cons_self ?_)
      simp only [Bool.false_eq_true, if_false]
      exact wpAny_pure ⟨rfl, rfl, fun u hu' => hall u (List.mem_cons_of_mem _ hu')⟩
    · rintro r s' ⟨rfl, rfl, _⟩
      exact wpAny_pure h
    · intro v hv Q hq
      have hv : v = .int k t ∨ v = .str tagN t' := by simpa using hv
      rcases hv with rfl | rfl <;> (unfold ofAClassStatement; exact wpAny_pure hq)

theorem name_search {key : Value} {k : Nat} {stored : List Value} {Q : Bool → Shared → Prop} (hk : NameIs kd s.heap k key) (hst : ∀ v ∈ stored, ∃ k', NameIs kd s.heap k' v) (h : Q false s) :
    wpAny (model prog w) A (searchCouldBeSeen key stored) Q E s := by
  unfold searchCouldBeSeen
  refine wpAny_bind ?_
  refine wpAny_forIn_list _ (fun rest r s' => s' = s ∧ r = (none, ()) ∧ ∀ v ∈ rest, ∃ k', NameIs kd s.heap k' v) _ ?_ ?_ _ _ ⟨rfl, rfl, hst⟩
  · rintro x rest r s' ⟨rfl, rfl, hr⟩
    obtain ⟨k', hb⟩ := hr x List.mem_cons_self
    have hr' : ∀ v ∈ rest, ∃ k', NameIs kd s'.heap k' v := fun v hv => hr v (List.mem_cons_of_mem _ hv)
    dsimp only
    refine wpAny_ite_any (wpAny_pure ⟨rfl, rfl, hr'⟩) ?_
    refine wpAny_bind (name_quiet hk ?_)
    simp only [Bool.not_true, Bool.false_eq_true, if_false]
    refine wpAny_bind (name_quiet hb ?_)
    simp only [Bool.not_true, Bool.false_eq_true, if_false]
    refine wpAny_bind (name_ofAClass hk ?_)
    simp only [Bool.false_eq_true, if_false]
    refine wpAny_bind (name_ofAClass hb ?_)
    simp only [Bool.false_eq_true, if_false]
    exact wpAny_pure ⟨rfl, rfl, hr'⟩
  · rintro r s' ⟨rfl, rfl, _⟩
    exact wpAny_pure h

/- what is known of a set of names -/
structure SetO (w : World) (kd : Nat) (nv : Nat → Value) (o : Obj) (ks : List Nat) (m : Nat) : Prop where
  ex : ∃ es ep t, o = sObj es ep t ∧ t.mask = m ∧ WT t (es.toList.map (·.1)) ∧ es.toList.Perm (ks.map fun k => (nhash w kd k, nv k)) ∧ (t.plain = true → ∀ k ∈ ks, (k + kd) % 3 = 0)

variable {nv : Nat → Value} {a : Addr} {es : Array (Int × Value)} {ep k n : Nat} {t : SetTable} {ks : List Nat}

theorem ST.WT.fitsEs (W : WT t (es.toList.map (·.1))) : t.fits es.size = true := W.fits (by rw [List.length_map, Array.length_toList])

theorem ST.WT.notGave (W : WT t (es.toList.map (·.1))) : t.gaveWay = false := by
  unfold SetTable.gaveWay
  rcases W.msk with h | h | h <;> rw [h] <;> rfl
theorem ST.WT.same (W : WT t (es.toList.map (·.1))) : t.sameMemory t.moves t.mask = some true := by
  unfold SetTable.sameMemory; simp

/- the search for a name that is not there -/
theorem searchFrom_free {adding : Bool} {Q : SetFound → Shared → Prop} {K : Nat} (hu : A.units < cLine) (ho : s.heap.get? a = some (sObj es ep t)) (W : WT t (es.toList.map (·.1))) (hk : NameIs kd s.heap k (nv k)) (hel : ∀ e ∈ es.toList, ∃ k', NameIs kd s.heap k' e.2 ∧ k' ≠ k ∧ k' < 200 ∧ tokOk e.2)
    (hK : (pos t.mask (nhash w kd k) K).j ∉ t.place.toList) (hb : ∀ k', k' < K → (pos t.mask (nhash w kd k) k').j ∈ t.place.toList) (hKl : K < 10 * SetTable.turns t.mask) (h : Q (.free (pos t.mask (nhash w kd k) K).j false) s) :
    ∀ fuel k0 stand, k0 ≤ K → K - k0 < fuel → stand.getD (t.probeStart (nhash w kd k)) = pos t.mask (nhash w kd k) k0 → wpAny (model prog w) A (setSearchFrom a (nv k) (nhash w kd k) adding fuel stand) Q E s := by
  intro fuel
  induction fuel with
  | zero => intro k0 stand _ h'; lia
  | succ fuel ih =>
    intro k0 stand hk0 hf hst
    unfold setSearchFrom
    refine wpAny_bind (wpAny_setState_of ho rfl W.fitsEs ?_)
    dsimp only
    rw [W.notGave]
    simp only [Bool.false_eq_true, if_false]
    rw [hst]
    have hl : ∀ {i j : Nat}, t.place[i]? = some j → ∃ e, es[i]? = some e ∧ e ∈ es.toList := by
      intro i j hi
      have h1 := (Array.getElem?_eq_some_iff.mp hi).1
      have h2 := W.sz
      rw [List.length_map, Array.length_toList] at h2
      exact ⟨es[i], by simp [h2 ▸ h1], Array.getElem_mem_toList _⟩
    rcases W.go_free (hashAt := fun i => (es[i]?.map (·.1)).getD 0) hK hb (10 * SetTable.turns t.mask) k0 hk0 (by lia) with h' | ⟨k', i, h1, h2, h3, h4, h'⟩
    · have e : t.probe (fun i => (es[i]?.map (·.1)).getD 0) (nhash w kd k) (pos t.mask (nhash w kd k) k0) = _ := h'
      erw [e]
      exact wpAny_pure h
    · have e : t.probe (fun i => (es[i]?.map (·.1)).getD 0) (nhash w kd k) (pos t.mask (nhash w kd k) k0) = _ := h'
      erw [e]
      dsimp only
      obtain ⟨⟨hh, y⟩, hes, hem⟩ := hl h3
      obtain ⟨k1, hy, hne, hks, htk⟩ := hel _ hem
      have hst' : ∀ v ∈ ((es.filter (·.1 == nhash w kd k)).toList.map (·.2)), ∃ k', NameIs kd s.heap k' v := by
        intro v hv
        obtain ⟨e, he, rfl⟩ := List.mem_map.mp hv
        have he : e ∈ es.toList := by
          have := Array.mem_toList_iff.mp he
          exact Array.mem_toList_iff.mpr (Array.mem_filter.mp this).1
        obtain ⟨k2, h5, _⟩ := hel e he
        exact ⟨k2, h5⟩
      have hsl := W.slot_live h3
      have rest : ∀ {Q' : Prop}, Q' → Q' := fun h => h
      cases hled : t.led with
      | false =>
        simp only [Bool.not_false, if_true]
        refine wpAny_bind (name_search hk hst' ?_)
        simp only [Bool.false_eq_true, if_false, hes]
        refine wpAny_bind (wpAny_holding (name_eqAt hu hy hk prog w _ _ (wpAny_bind (wpAny_setState_of ho rfl W.fitsEs ?_))))
        rw [decide_eq_false hne]
        simp only [Bool.and_false, Bool.false_eq_true, if_false, W.same, if_true, hsl, hes]
        refine wpAny_bind (name_isSame hy hks htk ?_)
        simp only [if_true]
        refine wpAny_bind (wpAny_pure ?_)
        dsimp only
        exact ih (k' + 1) _ (by lia) (by lia) rfl
      | true =>
        simp only [Bool.not_true, Bool.false_eq_true, if_false, hes]
        refine wpAny_bind (wpAny_holding (name_eqAt hu hy hk prog w _ _ (wpAny_bind (wpAny_setState_of ho rfl W.fitsEs ?_))))
        rw [decide_eq_false hne]
        simp only [Bool.and_false, Bool.false_eq_true, if_false, W.same, if_true, hsl, hes]
        refine wpAny_bind (name_isSame hy hks htk ?_)
        simp only [if_true]
        refine wpAny_bind (wpAny_pure ?_)
        dsimp only
        exact ih (k' + 1) _ (by lia) (by lia) rfl
end
end Mine
end

-- part S6
section
open PySem PySem.W PyProof.Rows PySem.Spec
set_option linter.unusedSectionVars false
set_option linter.unusedVariables false
namespace Mine
open Mine.ST

section
variable {prog : Program} {w : World} {A : Around} {E : Value → Shared → Prop} {s : Shared} {kd : Nat} {nv : Nat → Value} {a : Addr} {es : Array (Int × Value)} {ep k n : Nat} {t : SetTable} {ks : List Nat}

theorem searchFrom_held {Q : SetFound → Shared → Prop} {K i₀ : Nat} {y₀ : Value} (hu : A.units < cLine) (ho : s.heap.get? a = some (sObj es ep t)) (W : WT t (es.toList.map (·.1))) (hk : NameIs kd s.heap k (nv k)) (hel : ∀ e ∈ es.toList, ∃ k', NameIs kd s.heap k' e.2 ∧ k' < 200 ∧ tokOk e.2)
    (hK : t.place[i₀]? = some (pos t.mask (nhash w kd k) K).j) (h0 : es[i₀]? = some (nhash w kd k, y₀)) (hy0 : NameIs kd s.heap k y₀) (hb : ∀ k', k' < K → (pos t.mask (nhash w kd k) k').j ∈ t.place.toList) (hKl : K < 10 * SetTable.turns t.mask) (h : ∀ i, Q (.there (some i)) s) :
    ∀ fuel k0 stand, k0 ≤ K → K - k0 < fuel → stand.getD (t.probeStart (nhash w kd k)) = pos t.mask (nhash w kd k) k0 → wpAny (model prog w) A (setSearchFrom a (nv k) (nhash w kd k) false fuel stand) Q E s := by
  intro fuel
  induction fuel with
  | zero => intro k0 stand _ h'; lia
  | succ fuel ih =>
    intro k0 stand hk0 hf hst
    unfold setSearchFrom
    refine wpAny_bind (wpAny_setState_of ho rfl W.fitsEs ?_)
    dsimp only
    rw [W.notGave]
    simp only [Bool.false_eq_true, if_false]
    rw [hst]
    have hl : ∀ {i j : Nat}, t.place[i]? = some j → ∃ e, es[i]? = some e ∧ e ∈ es.toList := by
      intro i j hi
      have h1 := (Array.getElem?_eq_some_iff.mp hi).1
      have h2 := W.sz
      rw [List.length_map, Array.length_toList] at h2
      exact ⟨es[i], by simp [h2 ▸ h1], Array.getElem_mem_toList _⟩
    obtain ⟨k', i, h1, h2, h3, h4, h'⟩ := W.go_held (hashAt := fun i => (es[i]?.map (·.1)).getD 0) hK (by simp [h0]) hb (10 * SetTable.turns t.mask) k0 hk0 (by lia)
    have e : t.probe (fun i => (es[i]?.map (·.1)).getD 0) (nhash w kd k) (pos t.mask (nhash w kd k) k0) = _ := h'
    erw [e]
    dsimp only
    obtain ⟨⟨hh, y⟩, hes, hem⟩ := hl h3
    obtain ⟨k1, hy, hks, htk⟩ := hel _ hem
    have hst' : ∀ v ∈ ((es.filter (·.1 == nhash w kd k)).toList.map (·.2)), ∃ k', NameIs kd s.heap k' v := by
      intro v hv
      obtain ⟨e, he, rfl⟩ := List.mem_map.mp hv
      have he : e ∈ es.toList := by
        have := Array.mem_toList_iff.mp he
        exact Array.mem_toList_iff.mpr (Array.mem_filter.mp this).1
      obtain ⟨k2, h5, _⟩ := hel e he
      exact ⟨k2, h5⟩
    have hsl := W.slot_live h3
    have hlast : k1 ≠ k → k' < K := by
      intro hne
      rcases h2 with h2 | h2
      · exact h2
      · rw [h2, h0] at hes
        cases hes
        exact absurd (hy.inj hy0) hne
    have fin : wpAny (model prog w) A (if decide (k1 = k) = true then pure (SetFound.there (some i)) else setSearchFrom a (nv k) (nhash w kd k) false fuel (some (pos t.mask (nhash w kd k) (k' + 1)))) Q E s := by
      by_cases hkk : k1 = k
      · rw [decide_eq_true hkk]; exact wpAny_pure (h i)
      · rw [decide_eq_false hkk]
        have := hlast hkk
        exact ih (k' + 1) _ (by lia) (by lia) rfl
    cases hled : t.led with
    | false =>
      simp only [Bool.not_false, if_true]
      refine wpAny_bind (name_search hk hst' ?_)
      simp only [Bool.false_eq_true, if_false, hes]
      refine wpAny_bind (wpAny_holding (name_eqAt hu hy hk prog w _ _ (wpAny_bind (wpAny_setState_of ho rfl W.fitsEs ?_))))
      simp only [Bool.false_and, Bool.false_eq_true, if_false, W.same, if_true, hsl, hes]
      refine wpAny_bind (name_isSame hy hks htk ?_)
      simp only [if_true]
      refine wpAny_bind (wpAny_pure ?_)
      exact fin
    | true =>
      simp only [Bool.not_true, Bool.false_eq_true, if_false, hes]
      refine wpAny_bind (wpAny_holding (name_eqAt hu hy hk prog w _ _ (wpAny_bind (wpAny_setState_of ho rfl W.fitsEs ?_))))
      simp only [Bool.false_and, Bool.false_eq_true, if_false, W.same, if_true, hsl, hes]
      refine wpAny_bind (name_isSame hy hks htk ?_)
      simp only [if_true]
      refine wpAny_bind (wpAny_pure ?_)
      exact fin

theorem SetO.elems {o : Obj} {m : Nat} (hes : es.toList.Perm (ks.map fun k => (nhash w kd k, nv k))) {h : Heap} (hn : ∀ k, k < n → NameIs kd h k (nv k)) (hks : ∀ k ∈ ks, k < n) (hsm : n ≤ 200) (hT : ∀ k, k < n → tokOk (nv k)) : ∀ e ∈ es.toList, ∃ k', NameIs kd h k' e.2 ∧ k' ∈ ks ∧ k' < 200 ∧ tokOk e.2 := by
  intro e he
  obtain ⟨k', hk', rfl⟩ := List.mem_map.mp (hes.mem_iff.mp he)
  exact ⟨k', hn k' (hks k' hk'), hk', by have := hks k' hk'; lia, hT k' (hks k' hk')⟩

theorem name_scannable {h : Heap} {k : Nat} {v : Value} (hv : NameIs kd h k v) : v.scannable = decide ((k + kd) % 3 ≠ 2) := by
  rcases hv with ⟨hk, t, rfl⟩ | ⟨hk, t, rfl⟩ | ⟨hk, a, t, t', n, rfl, ho⟩
  · simp [Value.scannable, hk]
  · simp [Value.scannable, hk]
  · simp [Value.scannable, hk]

/- a name that is there is found -/
theorem setFind_name {o : Obj} {m : Nat} {Q : Option Nat → Shared → Prop} (hu : A.units < cLine) (ho : s.heap.get? a = some o) (SO : SetO w kd nv o ks m) (hn : ∀ k, k < n → NameIs kd s.heap k (nv k)) (hks : ∀ k ∈ ks, k < n) (hsm : n ≤ 200) (hT : ∀ k, k < n → tokOk (nv k))
    (hk : k ∈ ks) (htup : ∃ k' ∈ ks, (k' + kd) % 3 = 2) (h : ∀ i, Q (some i) s) : wpAny (model prog w) A (setFind a (nv k) (nhash w kd k)) Q E s := by
  obtain ⟨es, ep, t, rfl, hm, W, hp, _⟩ := SO.ex
  have hel := SetO.elems (o := sObj es ep t) (m := m) hp hn hks hsm hT
  unfold setFind setFindIn
  refine wpAny_bind (wpAny_setState_of ho rfl W.fitsEs ?_)
  dsimp only
  have hns : byScan (nv k) es = false := by
    obtain ⟨k', hk', h2⟩ := htup
    have hmem : (nhash w kd k', nv k') ∈ es.toList := hp.mem_iff.mpr (List.mem_map.mpr ⟨k', hk', rfl⟩)
    have h3 : (nv k').scannable = false := by rw [name_scannable (hn k' (hks k' hk'))]; simp [h2]
    have h4 : es.all (·.2.scannable) = false := by
      rw [← Array.all_toList, List.all_eq_false]
      exact ⟨_, hmem, by simp [h3]⟩
    unfold byScan
    rw [h4]; simp
  rw [hns]
  simp only [Bool.false_eq_true, if_false]
  have hmem : (nhash w kd k, nv k) ∈ es.toList := hp.mem_iff.mpr (List.mem_map.mpr ⟨k, hk, rfl⟩)
  obtain ⟨i₀, hi₀⟩ := List.mem_iff_getElem?.mp hmem
  rw [Array.getElem?_toList] at hi₀
  have hlt := (Array.getElem?_eq_some_iff.mp hi₀).1
  have hsz := W.sz
  rw [List.length_map, Array.length_toList] at hsz
  have hpl : t.place[i₀]? = some t.place[i₀] := by simp [hsz ▸ hlt]
  obtain ⟨K, hKl, hKj, hb⟩ := W.al i₀ _ (nhash w kd k) hpl (by rw [List.getElem?_map, Array.getElem?_toList, hi₀]; rfl)
  have ht := W.msk
  refine wpAny_bind ?_
  unfold setSearch
  refine searchFrom_held (y₀ := nv k) hu ho W (hn k (hks k hk)) (fun e he => let ⟨k', a1, _, a2, a3⟩ := hel e he; ⟨k', a1, a2, a3⟩) (i₀ := i₀) (K := K) (by rw [hKj]; exact hpl) hi₀ (hn k (hks k hk)) hb hKl (fun i => ?_) 100000 0 none (Nat.zero_le _) ?_ rfl
  · exact wpAny_pure (h i)
  · have : SetTable.turns t.mask ≤ 46 := by unfold SetTable.turns; lia
    lia

theorem name_hashByValue {v : Value} {Q : Bool → Shared → Prop} (hv : NameIs kd s.heap k v) (h : Q (decide ((k + kd) % 3 = 0)) s) : wpAny (model prog w) A (hashByValue 8 v) Q E s := by
  rcases hv with ⟨hk, t, rfl⟩ | ⟨hk, t, rfl⟩ | ⟨hk, a, t, t', n, rfl, ho⟩
  · rw [decide_eq_true hk] at h; unfold hashByValue; exact wpAny_pure h
  · rw [decide_eq_false (by lia)] at h; unfold hashByValue; exact wpAny_pure h
  · rw [decide_eq_false (by lia)] at h
    unfold hashByValue
    refine wpAny_bind (wpAny_specialOf (T := "tuple") ⟨_, ho, rfl⟩ F.slot_tuple_hash.lookup ?_)
    dsimp only
    show wpAny _ _ (seqItems? (.ref a) >>= _) _ _ s
    refine wpAny_bind (wpAny_seqItems ho rfl ?_)
    refine wpAny_bind ?_
    show wpAny _ _ (forIn (#[Value.int k t, .str tagN t'] : Array Value) _ _) _ _ s
    rw [← Array.forIn_toList]
    show wpAny _ _ (forIn [Value.int k t, .str tagN t'] _ _) _ _ s
    have e1 : hashByValue 7 (Value.int k t) = pure true := by unfold hashByValue; rfl
    have e2 : hashByValue 7 (Value.str tagN t') = pure false := by unfold hashByValue; rfl
    rw [List.forIn_cons]
    refine wpAny_bind (wpAny_bind (wpAny_of_eq e1 (wpAny_pure ?_)))
    simp only [Bool.not_true, Bool.false_eq_true, if_false]
    refine wpAny_pure ?_
    dsimp only
    exact wpAny_pure h
end
end Mine
end

-- part S7
section
open PySem PySem.W PyProof.Rows PySem.Spec
set_option linter.unusedSectionVars false
set_option linter.unusedVariables false
set_option linter.unusedSimpArgs false
namespace Mine
open Mine.ST

def againOrder (es : Array (Int × Value)) (laid : Option (SetTable × Array Nat)) : Sem (Array (Int × Value) × SetTable) := do
  let some (t, order) := laid | unsupported "internal:set-table-without-room"
  let es' := order.filterMap (es[·]?)
  if es'.size != es.size then unsupported "internal:set-table-lost-an-element"
  pure (es', t)
theorem nodupN {n : Nat} {l : List Nat} (hnd : l.Nodup) (h : ∀ i ∈ l, i < n) : l.length ≤ n := by
  have := hnd.length_le_of_subset (l₂ := List.range n) (fun x hx => List.mem_range.mpr (h x hx))
  simpa using this
theorem setRelay_eq (a : Addr) (wanted : Nat) : setRelay a wanted = (do
  let (es, _, t) ← setState a
  if SetTable.sizeAbove wanted > sizeLine then unsupported "set:memory"
  let (es, t) ← againOrder es (t.relaid (es.map (·.1)) wanted)
  storeSet a es t) := by unfold setRelay; rfl

section
variable {prog : Program} {w : World} {A : Around} {E : Value → Shared → Prop} {s : Shared} {kd : Nat} {nv : Nat → Value} {a : Addr} {es : Array (Int × Value)} {ep k n : Nat} {t : SetTable} {ks : List Nat}

theorem getSet_store {h : Heap} (es' : Array (Int × Value)) (t' : SetTable) (ho : h.get? a = some (sObj es ep t)) : (h.update a (Obj.putSet es' t')).get? a = some (sObj es' (ep + 1) t') := by
  have := Heap.get?_update_self (Obj.putSet es' t') ho (by rw [putSet_of es' t' rfl]; rfl)
  rw [putSet_of es' t' rfl] at this; exact this

theorem relay_ok {wanted m : Nat} {Q : Unit → Shared → Prop} (ho : s.heap.get? a = some (sObj es ep t)) (W : WT t (es.toList.map (·.1))) (hw : SetTable.sizeAbove wanted = m + 1) (hm : m = 7 ∨ m = 15 ∨ m = 31) (hsz : es.size ≤ m)
    (h : ∀ h' es' t', Heap.SameBut a s.heap h' → h'.get? a = some (sObj es' (ep + 1) t') → t'.mask = m → t'.plain = t.plain → es'.toList.Perm es.toList → WT t' (es'.toList.map (·.1)) → Q () { s with heap := h' }) :
    wpAny (model prog w) A (setRelay a wanted) Q E s := by
  rw [setRelay_eq]
  refine wpAny_bind (wpAny_setState_of ho rfl W.fitsEs ?_)
  dsimp only
  have h1 : ¬ SetTable.sizeAbove wanted > sizeLine := by rw [hw]; have : sizeLine = 16777216 := rfl; lia
  rw [if_neg h1]
  obtain ⟨t', order, e, hm', hp', hs', hpm, W'⟩ := laid_ok hm t.finger (t.movedTo (SetTable.sizeAbove wanted - 1)) t.led t.plain hsz
  have e2 : t.relaid (es.map (·.1)) wanted = some (t', order) := by
    unfold SetTable.relaid
    rw [show SetTable.sizeAbove wanted - 1 = m by lia] at e ⊢
    exact e
  rw [e2]
  unfold againOrder
  dsimp only
  have h2 : ((order.filterMap (es[·]?)).size != es.size) = false := by simp [hs']
  rw [h2]
  simp only [Bool.false_eq_true, if_false]
  refine wpAny_bind (wpAny_pure ?_)
  dsimp only
  refine wpAny_storeSet_of ho rfl (h _ _ t' (Heap.SameBut.update _ a _) (getSet_store _ _ ho) hm' hp' hpm W') (by rw [hs']; have : sizeLine = 16777216 := rfl; lia)

theorem WT.off (W : WT t (es.toList.map (·.1))) (b : Bool) : WT { t with plain := b } (es.toList.map (·.1)) := ⟨W.dm, W.sz, W.srt, W.le, W.msk, W.room, W.al⟩

theorem add_search {Q : Bool → Shared → Prop} {o : Obj} {m : Nat} (hu : A.units < cLine) (ho : s.heap.get? a = some o) (SO : SetO w kd nv o ks m) (hn : ∀ k, k < n → NameIs kd s.heap k (nv k)) (hks : ∀ k ∈ ks, k < n) (hsm : n ≤ 7) (hT : ∀ k, k < n → tokOk (nv k))
    (hk : k < n) (hkn : k ∉ ks) (hnd : ks.Nodup) (hm7 : m = 7 → ks.length ≤ 4) (htup : (k + kd) % 3 = 2 ∨ ∃ k' ∈ ks, (k' + kd) % 3 = 2)
    (h : ∀ h' o' m', Heap.SameBut a s.heap h' → h'.get? a = some o' → SetO w kd nv o' (ks ++ [k]) m' → (m' = 7 → ks.length + 1 ≤ 4) → (m' = m ∨ m' = 31) → Q true { s with heap := h' }) :
    wpAny (model prog w) A (setAddHashed a (nv k) (nhash w kd k)) Q E s := by
  obtain ⟨es, ep, t, rfl, hm, W, hp, hpl⟩ := SO.ex
  have hel := SetO.elems (o := sObj es ep t) (m := m) hp hn hks (by lia) hT
  have hlen : es.size = ks.length := by rw [← Array.length_toList, hp.length_eq, List.length_map]
  have hkl : ks.length + 1 ≤ n := by
    have := nodupN (n := n) (l := ks ++ [k]) (G.nodup_snoc hnd hkn) (fun i hi => by
      rcases List.mem_append.mp hi with h | h
      · exact hks i h
      · rw [show i = k by simpa using h]; exact hk)
    simpa using this
  unfold setAddHashed setAddHashedIn
  refine wpAny_holding (wpAny_bind (wpAny_setState_of ho rfl W.fitsEs ?_))
  dsimp only
  have hns : byScan (nv k) es = false := by
    rcases htup with h2 | ⟨k', hk', h2⟩
    · unfold byScan
      rw [name_scannable (hn k hk)]; simp [h2]
    · have hmem : (nhash w kd k', nv k') ∈ es.toList := hp.mem_iff.mpr (List.mem_map.mpr ⟨k', hk', rfl⟩)
      have h3 : (nv k').scannable = false := by rw [name_scannable (hn k' (hks k' hk'))]; simp [h2]
      have h4 : es.all (·.2.scannable) = false := by
        rw [← Array.all_toList, List.all_eq_false]
        exact ⟨_, hmem, by simp [h3]⟩
      unfold byScan
      rw [h4]; simp
  rw [hns]
  simp only [Bool.false_eq_true, if_false]
  obtain ⟨K, hKl, hK, hb, _⟩ := W.freeSlot (nhash w kd k)
  have ht := W.msk
  have hmb : 7 ≤ t.mask := by lia
  have hK1 : K < 100000 := by
    have : SetTable.turns t.mask ≤ 46 := by unfold SetTable.turns; lia
    lia
  refine wpAny_bind ?_
  unfold setSearch
  refine searchFrom_free hu ho W (hn k hk) (fun e he => let ⟨k', a1, a0, a2, a3⟩ := hel e he; ⟨k', a1, fun e => hkn (e ▸ a0), a2, a3⟩) hK hb hKl ?_ 100000 0 none (Nat.zero_le _) (by lia) rfl
  dsimp only
  refine wpAny_bind (wpAny_setState_of ho rfl W.fitsEs ?_)
  dsimp only
  obtain ⟨a1, a2, a3, a4, a5, W'⟩ := W.put hK hKl hb (by rw [List.length_map, Array.length_toList]; lia)
  generalize hput : t.put (pos t.mask (nhash w kd k) K).j = tp at a1 a2 a3 a4 a5 W' ⊢
  obtain ⟨t', p⟩ := tp
  dsimp only at a1 a2 a3 a4 a5 W' ⊢
  have e2 : (es.toList.map (·.1)).take p ++ nhash w kd k :: (es.toList.map (·.1)).drop p = (SetTable.insertAt es p (nhash w kd k, nv k)).toList.map (·.1) := by
    rw [SetTable.toList_insertAt, List.map_append, List.map_cons, List.map_take, List.map_drop]
  rw [e2] at W'
  have hperm : (SetTable.insertAt es p (nhash w kd k, nv k)).toList.Perm ((ks ++ [k]).map fun k => (nhash w kd k, nv k)) := by
    refine (SetTable.insertAt_perm es p _).trans ?_
    rw [Array.toList_push, List.map_append]
    exact hp.append (List.Perm.refl _)
  have hsz1 : (SetTable.insertAt es p (nhash w kd k, nv k)).size = ks.length + 1 := by rw [← Array.length_toList, hperm.length_eq]; simp
  have tail : ∀ (b : Bool), (b = true → (k + kd) % 3 = 0) ∨ t'.plain = false → wpAny (model prog w) A (do
      storeSet a (SetTable.insertAt es p (nhash w kd k, nv k)) (if b = true then t' else { t' with plain := false })
      if (!false && (if b = true then t' else { t' with plain := false }).tooFull) = true then do
        setRelay a (SetTable.grown (es.size + 1))
        pure true
      else pure true) Q E s := by
    intro b hbp
    obtain ⟨t2, ht2⟩ : ∃ t2, t2 = (if b = true then t' else { t' with plain := false } : SetTable) := ⟨_, rfl⟩
    rw [← ht2]
    have W2 : WT t2 ((SetTable.insertAt es p (nhash w kd k, nv k)).toList.map (·.1)) := by
      rw [ht2]; cases b
      · exact WT.off W' false
      · exact W'
    have hm2 : t2.mask = m := by rw [ht2, ← hm, ← a2]; cases b <;> rfl
    have hpl2 : t2.plain = true → ∀ k' ∈ ks ++ [k], (k' + kd) % 3 = 0 := by
      intro hq k' hk'
      rw [ht2] at hq
      cases b with
      | false => cases hq
      | true =>
        have hq : t'.plain = true := hq
        rcases List.mem_append.mp hk' with h' | h'
        · exact hpl (a3 ▸ hq) k' h'
        · rw [show k' = k by simpa using h']
          rcases hbp with h3 | h3
          · exact h3 rfl
          · rw [h3] at hq; cases hq
    refine wpAny_bind (wpAny_storeSet_of ho rfl ?_ (by rw [hsz1]; have : sizeLine = 16777216 := rfl; lia))
    have ho2 := getSet_store (SetTable.insertAt es p (nhash w kd k, nv k)) t2 ho
    have hsb := Heap.SameBut.update s.heap a (Obj.putSet (SetTable.insertAt es p (nhash w kd k, nv k)) t2)
    have hfill : t2.fill = ks.length + 1 := by
      have h1 := W2.sz
      rw [List.length_map, Array.length_toList, hsz1] at h1
      unfold SetTable.fill
      rw [W2.dm, h1]; rfl
    by_cases hfull : t2.tooFull = true
    · rw [hfull]
      simp only [Bool.not_false, Bool.true_and, if_true]
      have h5 : m = 7 ∧ ks.length = 4 := by
        unfold SetTable.tooFull at hfull
        simp only [hfill, hm2, ge_iff_le, decide_eq_true_eq] at hfull
        rw [hm] at ht
        rcases ht with h' | h' | h'
        · have := hm7 h'; lia
        · lia
        · lia
      have hg : SetTable.sizeAbove (SetTable.grown (es.size + 1)) = 31 + 1 := by rw [hlen, h5.2]; decide +kernel
      refine wpAny_bind (relay_ok (s := { s with heap := s.heap.update a (Obj.putSet (SetTable.insertAt es p (nhash w kd k, nv k)) t2) }) ho2 W2 hg (.inr (.inr rfl)) (by rw [hsz1]; lia) fun h' es' t3 hsb' ho3 hm3 hp3 hpm3 W3 => ?_)
      exact wpAny_pure (h h' _ 31 (hsb.trans hsb') ho3 ⟨es', _, t3, rfl, hm3, W3, hpm3.trans hperm, fun hq => hpl2 (hp3 ▸ hq)⟩ (fun h => by cases h) (.inr rfl))
    · have hfull : t2.tooFull = false := by simpa using hfull
      rw [hfull]
      simp only [Bool.and_false, Bool.false_eq_true, if_false]
      refine wpAny_pure (h _ _ m hsb ho2 ⟨_, _, t2, rfl, hm2, W2, hperm, hpl2⟩ (fun h7 => ?_) (.inl rfl))
      unfold SetTable.tooFull at hfull
      simp only [hfill, hm2, ge_iff_le, decide_eq_false_iff_not] at hfull
      rw [h7] at hfull; lia
  by_cases hpt : t'.plain = true
  · rw [hpt]
    simp only [if_true]
    refine wpAny_bind (name_hashByValue (hn k hk) ?_)
    refine tail _ (.inl fun h' => ?_)
    simpa using h'
  · have hpt' : t'.plain = false := by simpa using hpt
    rw [hpt']
    simp only [Bool.false_eq_true, if_false]
    exact wpAny_bind (wpAny_pure (tail true (.inr hpt')))
end
end Mine
end

-- part S8
section
open PySem PySem.W PyProof.Rows PySem.Spec
set_option linter.unusedSectionVars false
set_option linter.unusedVariables false
set_option linter.unusedSimpArgs false
namespace Mine
open Mine.ST

section
variable {prog : Program} {w : World} {A : Around} {E : Value → Shared → Prop} {s : Shared} {kd : Nat} {nv : Nat → Value} {a : Addr} {es : Array (Int × Value)} {ep k n : Nat} {t : SetTable} {ks : List Nat}

def nkey (kd k : Nat) : Int ⊕ Str := if (k + kd) % 3 = 0 then .inl k else .inr (letter k)
theorem name_key {h : Heap} {v : Value} (hv : NameIs kd h k v) (h2 : (k + kd) % 3 ≠ 2) : (sumKind prog w).is (nkey kd k) v = true ∧ (sumKind prog w).hash (nkey kd k) = nhash w kd k ∧ v.scannable = true := by
  rcases hv with ⟨hk, t, rfl⟩ | ⟨hk, t, rfl⟩ | ⟨hk, a, t, t', n, rfl, ho⟩
  · refine ⟨?_, ?_, rfl⟩
    · unfold nkey; rw [if_pos hk]; simp [sumKind, Value.isInt]
    · unfold nkey; rw [if_pos hk]; simp [sumKind, nhash, hk]
  · have h0 : ¬ (k + kd) % 3 = 0 := by lia
    refine ⟨?_, ?_, rfl⟩
    · unfold nkey; rw [if_neg h0]; simp [sumKind, Value.isStrOf]
    · unfold nkey; rw [if_neg h0]; simp [sumKind, nhash, hk]
  · exact absurd hk h2
theorem nkey_inj {i j : Nat} (h : nkey kd i = nkey kd j) : i = j := by
  unfold nkey at h
  by_cases h1 : (i + kd) % 3 = 0 <;> by_cases h2 : (j + kd) % 3 = 0
  · rw [if_pos h1, if_pos h2] at h; injection h with h; lia
  · rw [if_pos h1, if_neg h2] at h; cases h
  · rw [if_neg h1, if_pos h2] at h; cases h
  · rw [if_neg h1, if_neg h2] at h; injection h with h; exact letter_inj h

theorem add_scan {Q : Bool → Shared → Prop} {o : Obj} {m : Nat} (ho : s.heap.get? a = some o) (SO : SetO w kd nv o ks m) (hn : ∀ k, k < n → NameIs kd s.heap k (nv k)) (hks : ∀ k ∈ ks, k < n) (hsm : n ≤ 7)
    (hk : k < n) (hkn : k ∉ ks) (hnd : ks.Nodup) (hm7 : m = 7 → ks.length + 1 ≤ 4) (h1 : (k + kd) % 3 ≠ 2) (h2 : ∀ k' ∈ ks, (k' + kd) % 3 ≠ 2)
    (h : ∀ h' o' m', Heap.SameBut a s.heap h' → h'.get? a = some o' → SetO w kd nv o' (ks ++ [k]) m' → (m' = 7 → ks.length + 1 ≤ 4) → (m' = m ∨ m' = 31) → Q true { s with heap := h' }) :
    wpAny (model prog w) A (setAddHashed a (nv k) (nhash w kd k)) Q E s := by
  obtain ⟨es, ep, t, rfl, hm, W, hp, hpl⟩ := SO.ex
  have hlen : es.size = ks.length := by rw [← Array.length_toList, hp.length_eq, List.length_map]
  have hkl : ks.length + 1 ≤ n := by
    have := nodupN (n := n) (l := ks ++ [k]) (G.nodup_snoc hnd hkn) (fun i hi => by
      rcases List.mem_append.mp hi with h | h
      · exact hks i h
      · rw [show i = k by simpa using h]; exact hk)
    simpa using this
  obtain ⟨q1, q2, q3⟩ := name_key (prog := prog) (w := w) (hn k hk) h1
  have hel : ElemsOf (sumKind prog w) es.toList := by
    intro e he
    obtain ⟨k', hk', rfl⟩ := List.mem_map.mp (hp.mem_iff.mp he)
    obtain ⟨r1, r2, r3⟩ := name_key (prog := prog) (w := w) (hn k' (hks k' hk')) (h2 k' hk')
    exact ⟨⟨_, r1, r2.symm⟩, r3⟩
  have hno : es.toList.findIdx? (fun e => (sumKind prog w).is (nkey kd k) e.2) = none := by
    rw [List.findIdx?_eq_none_iff]
    intro e he
    obtain ⟨k', hk', rfl⟩ := List.mem_map.mp (hp.mem_iff.mp he)
    obtain ⟨r1, r2, r3⟩ := name_key (prog := prog) (w := w) (hn k' (hks k' hk')) (h2 k' hk')
    cases hc : (sumKind prog w).is (nkey kd k) (nv k') with
    | false => rfl
    | true =>
      have := (sumKind prog w).inj _ _ _ hc r1
      exact absurd (nkey_inj this) (fun e => hkn (e ▸ hk'))
  unfold setAddHashed setAddHashedIn
  refine wpAny_holding (wpAny_bind (wpAny_setState_of ho rfl W.fitsEs ?_))
  dsimp only
  rw [byScan_of q3 (by rw [hlen]; unfold scanBound; lia) hel]
  simp only [↓reduceIte]
  unfold setAddByScan
  refine wpAny_bind ?_
  refine wpAny_bind (wpAny_rule ?_)
  rw [← q2]
  refine wpAny_bind (wpAny_setScan_of q1 ho rfl W.fitsEs hel ?_)
  rw [hno]
  dsimp only
  have hgw : ∀ (b : Bool) {s₁ : Shared} {Q' : Unit → Shared → Prop}, Q' () s₁ → wpAny (model prog w) A (match b with | true => rule "set.scan.the-table-gave-way" | false => pure ()) Q' E s₁ :=
    fun b s₁ Q' hq => by cases b <;> first | exact wpAny_pure hq | exact wpAny_rule hq
  rw [q2]
  have ht := W.msk
  obtain ⟨t', p, e, hpe, a2, a3, W'⟩ := ST.WT.layNew W (nhash w kd k) (nv k) (by lia)
  rw [e]
  dsimp only
  refine wpAny_bind (hgw false ?_)
  have hperm : (SetTable.insertAt es p (nhash w kd k, nv k)).toList.Perm ((ks ++ [k]).map fun k => (nhash w kd k, nv k)) := by
    refine (SetTable.insertAt_perm es p _).trans ?_
    rw [Array.toList_push, List.map_append]
    exact hp.append (List.Perm.refl _)
  have hsz1 : (SetTable.insertAt es p (nhash w kd k, nv k)).size = ks.length + 1 := by rw [← Array.length_toList, hperm.length_eq]; simp
  have fin : ∀ t2 : SetTable, WT t2 ((SetTable.insertAt es p (nhash w kd k, nv k)).toList.map (·.1)) → t2.mask = m → (t2.plain = true → ∀ k' ∈ ks ++ [k], (k' + kd) % 3 = 0) →
      ∀ (R : Option Bool → Shared → Prop) (X : Sem (Option Bool)), (∀ h' o' m', Heap.SameBut a s.heap h' → h'.get? a = some o' → SetO w kd nv o' (ks ++ [k]) m' → (m' = 7 → ks.length + 1 ≤ 4) → (m' = m ∨ m' = 31) → R (some true) { s with heap := h' }) →
      wpAny (model prog w) A (do
        storeSet a (SetTable.insertAt es p (nhash w kd k, nv k)) t2
        if (!false && t2.tooFull) = true then X else pure (some true)) R E s := by
    intro t2 W2 hm2 hpl2 R X hR
    refine wpAny_bind (wpAny_storeSet_of ho rfl ?_ (by rw [hsz1]; have : sizeLine = 16777216 := rfl; lia))
    have ho2 := getSet_store (SetTable.insertAt es p (nhash w kd k, nv k)) t2 ho
    have hsb := Heap.SameBut.update s.heap a (Obj.putSet (SetTable.insertAt es p (nhash w kd k, nv k)) t2)
    have hfill : t2.fill = ks.length + 1 := by
      have h1 := W2.sz
      rw [List.length_map, Array.length_toList, hsz1] at h1
      unfold SetTable.fill
      rw [W2.dm, h1]; rfl
    have hfull : t2.tooFull = false := by
      unfold SetTable.tooFull
      simp only [hfill, hm2, ge_iff_le, decide_eq_false_iff_not]
      rw [hm] at ht
      rcases ht with h' | h' | h'
      · have := hm7 h'; lia
      · lia
      · lia
    rw [hfull]
    simp only [Bool.and_false, Bool.false_eq_true, if_false]
    exact wpAny_pure (hR _ _ m hsb ho2 ⟨_, _, t2, rfl, hm2, W2, hperm, hpl2⟩ hm7 (.inl rfl))
  by_cases hpt : t'.plain = true
  · rw [hpt]
    simp only [if_true]
    refine wpAny_bind (name_hashByValue (hn k hk) ?_)
    by_cases h0 : (k + kd) % 3 = 0
    · rw [decide_eq_true h0]
      simp only [if_true]
      refine fin t' W' (a2.trans hm) (fun hq k' hk' => ?_) _ _ fun h' o' m' b1 b2 b3 b4 b5 => wpAny_pure (h h' o' m' b1 b2 b3 b4 b5)
      rcases List.mem_append.mp hk' with h' | h'
      · exact hpl (a3 ▸ hq) k' h'
      · rw [show k' = k by simpa using h']; exact h0
    · rw [decide_eq_false h0]
      simp only [Bool.false_eq_true, if_false]
      exact fin { t' with plain := false } (WT.off W' false) (a2.trans hm) (fun hq => by cases hq) _ _ fun h' o' m' b1 b2 b3 b4 b5 => wpAny_pure (h h' o' m' b1 b2 b3 b4 b5)
  · have hpt' : t'.plain = false := by simpa using hpt
    rw [hpt']
    simp only [Bool.false_eq_true, if_false]
    refine wpAny_bind (wpAny_pure ?_)
    simp only [if_true]
    exact fin t' W' (a2.trans hm) (fun hq => by rw [hpt'] at hq; cases hq) _ _ fun h' o' m' b1 b2 b3 b4 b5 => wpAny_pure (h h' o' m' b1 b2 b3 b4 b5)

/- a new name goes into a set -/
theorem add_name {Q : Bool → Shared → Prop} {o : Obj} {m : Nat} (hu : A.units < cLine) (ho : s.heap.get? a = some o) (SO : SetO w kd nv o ks m) (hn : ∀ k, k < n → NameIs kd s.heap k (nv k)) (hks : ∀ k ∈ ks, k < n) (hsm : n ≤ 7) (hT : ∀ k, k < n → tokOk (nv k))
    (hk : k < n) (hkn : k ∉ ks) (hnd : ks.Nodup) (hm7 : m = 7 → ks.length ≤ 4) (hfew : m ≠ 7 ∨ ks.length + 1 ≤ 4 ∨ ∃ k' ∈ ks, (k' + kd) % 3 = 2)
    (h : ∀ h' o' m', Heap.SameBut a s.heap h' → h'.get? a = some o' → SetO w kd nv o' (ks ++ [k]) m' → (m' = 7 → ks.length + 1 ≤ 4) → (m' = m ∨ m' = 31) → Q true { s with heap := h' }) :
    wpAny (model prog w) A (setAddHashed a (nv k) (nhash w kd k)) Q E s := by
  by_cases ht : (k + kd) % 3 = 2 ∨ ∃ k' ∈ ks, (k' + kd) % 3 = 2
  · exact add_search hu ho SO hn hks hsm hT hk hkn hnd hm7 ht h
  · have h1 : (k + kd) % 3 ≠ 2 := fun e => ht (.inl e)
    have h2 : ∀ k' ∈ ks, (k' + kd) % 3 ≠ 2 := fun k' hk' e => ht (.inr ⟨k', hk', e⟩)
    refine add_scan ho SO hn hks hsm hk hkn hnd (fun e => ?_) h1 h2 h
    rcases hfew with h' | h' | ⟨k', hk', e'⟩
    · exact absurd e h'
    · exact h'
    · exact absurd e' (h2 k' hk')
end
end Mine
end

-- part S9
section
open PySem PySem.W PyProof.Rows PySem.Spec
set_option linter.unusedSectionVars false
set_option linter.unusedVariables false
set_option linter.unusedSimpArgs false
namespace Mine
open Mine.ST

section
variable {prog : Program} {w : World} {A : Around} {E : Value → Shared → Prop} {s : Shared} {kd : Nat} {nv : Nat → Value}

set_option maxRecDepth 100000 in
set_option maxHeartbeats 3200000 in
/- set(x), where what fills it is told -/
theorem call_set_by {x : Value} {Q : Value → Shared → Prop}
    (h : ∀ led : Bool, wpAny (model prog w) A.in1.in1 (Builtin.Frozenset.updateFrom "set.__init__" s.heap.objs.size x) (fun _ s' => Q (.ref s.heap.objs.size) s') E { s with heap := s.heap.push (sObj #[] 0 (.fresh 0 0 led)) }) :
    wpAny (model prog w) A (call (.type "set") [x]) Q E s := by
  obtain ⟨c, tl, hmro⟩ := F.called_set.mro
  have hmade := F.called_set.made
  have hsub := F.called_set.sub
  refine wpAny_call (codeAny_of_tree ?_)
  show wpAny _ _ (callAny (.type "set") _) _ _ _
  refine wpAny_pure ⟨Code.quiet_builtin _ (by decide +kernel), codeAny_builtin F.entry_type_call ?_⟩
  rw [Around.under_plain (weight_type_call_type "set" [x] []) rfl]
  have h1 := F.called_set.notType
  have h2 := F.called_set.canCreate
  have hct := F.typeCall_set_1 x
  repeat (any_goals (first | assumption | wp_step))
  refine codeAny_mono (code_set_new_1 x (E := E) (Q₁ := fun obj s₁ => ∃ led : Bool, obj = .ref s.heap.objs.size ∧ s₁ = { s with heap := s.heap.push (sObj #[] 0 (.fresh 0 0 led)) }) fun led => ⟨led, rfl, rfl⟩) fun r s₁ hr => ?_
  cases r with
  | error e => exact hr
  | ok fl =>
    cases fl with
    | ret obj =>
      obtain ⟨led, rfl, rfl⟩ := hr
      have hS : (s.heap.push (sObj #[] 0 (.fresh 0 0 led))).get? s.heap.objs.size = some (sObj #[] 0 (.fresh 0 0 led)) := Heap.get?_push_size _ rfl
      have hT : Shared.TypeIs { s with heap := s.heap.push (sObj #[] 0 (.fresh 0 0 led)) } (.ref s.heap.objs.size) "set" := ⟨_, hS, rfl⟩
      have hli := F.called_set.init.lookup
      have hbi := F.called_set.init.bind (.ref s.heap.objs.size)
      repeat (any_goals (first | assumption | wp_step))
      refine codeAny_mono (codeAny_call_builtin (R := wants (fun r s₂ => r = .none ∧ Q (.ref s.heap.objs.size) s₂) E) F.called_set.init.plain F.entry_set_init (check_set_init_1 hT ?_)) fun r₂ s₂ hr₂ => ?_
      · have h := h led
        unfold Builtin.«set.__init__» noKeywords
        generalize hU : Builtin.Frozenset.updateFrom = U at h
        wp_walk
        subst hU
        refine wpAny_mono h (fun _ s' hq => ?_) fun _ _ he => he
        show wpAny _ _ (ret Value.none) _ _ _
        exact wpAny_pure ⟨rfl, hq⟩
      · cases r₂ with
        | error e => exact hr₂
        | ok fl₂ =>
          cases fl₂ with
          | ret r =>
            obtain ⟨rfl, hq⟩ := hr₂
            repeat (any_goals (first | assumption | wp_step))
          | _ => exact hr₂.elim
    | _ => exact hr.elim
end
end Mine
end

-- part S10
section
open PySem PySem.W PyProof.Rows PySem.Spec
set_option linter.unusedSectionVars false
set_option linter.unusedVariables false
set_option linter.unusedSimpArgs false
namespace Mine
open Mine.ST
theorem sub_dict_set : isSubtype (.type "dict") (.type "set") = pure false := by rw [isSubtype_type]; kernel_rfl
theorem sub_dict_frozenset : isSubtype (.type "dict") (.type "frozenset") = pure false := by rw [isSubtype_type]; kernel_rfl

section
variable {prog : Program} {w : World} {A : Around} {E : Value → Shared → Prop} {s : Shared} {kd : Nat} {nv : Nat → Value} {S d : Addr} {k n : Nat} {ks : List Nat}

theorem isAnySet_no {v : Value} {T : String} {Q : Bool → Shared → Prop} (hT : s.TypeIs v T) (h1 : isSubtype (.type T) (.type "set") = pure false) (h2 : isSubtype (.type T) (.type "frozenset") = pure false) (h : Q false s) :
    wpAny (model prog w) A (Builtin.Frozenset.isAnySet v) Q E s := by
  unfold Builtin.Frozenset.isAnySet
  refine wpAny_bind (wpAny_isInstance hT h1 ?_)
  exact wpAny_isInstance hT h2 h

theorem fresh_set (led : Bool) : SetO w kd nv (sObj #[] 0 (.fresh 0 0 led)) [] 7 := by
  refine ⟨#[], 0, .fresh 0 0 led, rfl, rfl, ⟨rfl, rfl, ?_, ?_, .inl rfl, by simp, ?_⟩, by simp, fun _ k hk => by cases hk⟩
  · intro i j hi; simp [SetTable.fresh] at hi
  · intro j hj; simp [SetTable.fresh] at hj
  · intro i j h hi; simp [SetTable.fresh] at hi

theorem roomFor_ok {o : Obj} {Q : Unit → Shared → Prop} (hn7 : n ≤ 7) (ho : s.heap.get? S = some o) (SO : SetO w kd nv o [] 7) (h : ∀ h' o' m, Heap.SameBut S s.heap h' → h'.get? S = some o' → SetO w kd nv o' [] m → (m = 7 → n ≤ 4) → Q () { s with heap := h' }) :
    wpAny (model prog w) A (setRoomFor S n) Q E s := by
  obtain ⟨es, ep, t, rfl, hm, W, hp, hpl⟩ := SO.ex
  have hes : es.size = 0 := by rw [← Array.length_toList, hp.length_eq]; rfl
  unfold setRoomFor
  refine wpAny_bind (wpAny_setState_of ho rfl W.fitsEs ?_)
  dsimp only
  have hfill : t.fill = 0 := by
    have h1 := W.sz
    rw [List.length_map, Array.length_toList, hes] at h1
    unfold SetTable.fill
    rw [W.dm, h1]; rfl
  unfold SetTable.roomFor
  rw [hfill, hm]
  by_cases h5 : (0 + n) * 5 ≥ 7 * 3
  · rw [if_pos h5]
    dsimp only
    have hpz : t.place.size = 0 := by have h1 := W.sz; rw [List.length_map, Array.length_toList, hes] at h1; exact h1
    have hw : SetTable.sizeAbove ((t.place.size + n) * 2) = 15 + 1 := by
      rw [hpz]
      have : n = 5 ∨ n = 6 ∨ n = 7 := by lia
      rcases this with rfl | rfl | rfl <;> decide +kernel
    exact relay_ok ho W hw (.inr (.inl rfl)) (by lia) fun h' es' t' hsb ho' hm' hp' hpm W' => h h' _ 15 hsb ho' ⟨es', _, t', rfl, hm', W', hpm.trans hp, fun _ k hk => by cases hk⟩ (fun e => by cases e)
  · rw [if_neg h5]
    dsimp only
    exact wpAny_pure (h s.heap _ 7 (Heap.SameBut.refl S s.heap) ho ⟨es, ep, t, rfl, hm, W, hp, hpl⟩ fun _ => by lia)

theorem updateFrom_dict {es : List (Nat × Value)} {o : Obj} {epd : Nat} {id : String} {Q : Unit → Shared → Prop} (hu : A.units < cLine) (hd : s.heap.get? d = some (dObj w kd nv es epd)) (hdS : d ≠ S) (hsys : (d == sysModules) = false) (ho : s.heap.get? S = some o) (SO : SetO w kd nv o [] 7)
    (hn : ∀ h', Heap.SameBut S s.heap h' → ∀ k, k < n → NameIs kd h' k (nv k)) (hnd : (es.map (·.1)).Nodup) (hlt : ∀ p ∈ es, p.1 < n) (hlen : es.length = n) (hsm : n ≤ 7) (hT : ∀ k, k < n → tokOk (nv k))
    (h : ∀ h' o' m, Heap.SameBut S s.heap h' → h'.get? S = some o' → SetO w kd nv o' (es.map (·.1)) m → Q () { s with heap := h' }) :
    wpAny (model prog w) A (Builtin.Frozenset.updateFrom id S (.ref d)) Q E s := by
  unfold Builtin.Frozenset.updateFrom
  have hTd : s.TypeIs (.ref d) "dict" := ⟨_, hd, rfl⟩
  refine wpAny_bind (isAnySet_no hTd sub_dict_set sub_dict_frozenset ?_)
  simp only [Bool.false_eq_true, if_false]
  refine wpAny_bind (wpAny_typeOf hTd ?_)
  have hb : (Value.type "dict" == Value.type "dict") = true := by decide
  rw [hb]
  simp only [if_true]
  refine wpAny_bind (wpAny_rule ?_)
  refine wpAny_bind (m := Builtin.Frozenset.addrOf (.ref d)) (wpAny_pure ?_)
  rw [hsys]
  simp only [Bool.false_eq_true, if_false]
  refine wpAny_bind (wpAny_dictEpoch hd rfl ?_)
  refine wpAny_bind (wpAny_dictEntries hd rfl ?_)
  have hsz : (es.map (dEnt w kd nv)).toArray.size = n := by simp [hlen]
  rw [hsz]
  refine wpAny_bind (roomFor_ok hsm ho SO fun h1 o1 m1 hs1 ho1 SO1 hm1 => ?_)
  have hd1 : h1.get? d = some (dObj w kd nv es epd) := (hs1.2 _ hdS).trans hd
  refine wpAny_bind (wpAny_dictEntries (s := { s with heap := h1 }) hd1 rfl ?_)
  rw [hsz]
  refine wpAny_bind ?_
  rw [Std.Legacy.Range.forIn_eq_forIn_range']
  have hkl : ∀ i, i < n → ∃ k v, es[i]? = some (k, v) ∧ k < n := fun i hi => ⟨es[i].1, es[i].2, by simp [hlen, hi], hlt _ (List.getElem_mem _)⟩
  refine wpAny_forIn_list _ (fun rest b s' => ∃ i h' o' m', rest = List.range' i (n - i) ∧ i ≤ n ∧ s' = { s with heap := h' } ∧ Heap.SameBut S s.heap h' ∧ h'.get? S = some o' ∧ SetO w kd nv o' ((es.map (·.1)).take i) m' ∧ (m' = 7 → i ≤ 4) ∧ (m' = 7 → n ≤ 4)) _ ?_ ?_ _ _ ⟨0, h1, o1, m1, by simp [Std.Legacy.Range.size], Nat.zero_le _, rfl, hs1, ho1, SO1, fun _ => by lia, hm1⟩
  · rintro x rest b s' ⟨i, h', o', m', hr, hi, rfl, hs', ho', SO', hm', hmn⟩
    have hin : i < n := by
      rcases Nat.lt_or_eq_of_le hi with h' | h'
      · exact h'
      · subst h'; simp at hr
    rw [show n - i = (n - i - 1) + 1 by lia, List.range'_succ] at hr
    obtain ⟨rfl, rfl⟩ := List.cons.inj hr
    have hd' : h'.get? d = some (dObj w kd nv es epd) := (hs'.2 _ hdS).trans hd
    refine wpAny_bind (wpAny_dictEntries (s := { s with heap := h' }) hd' rfl ?_)
    obtain ⟨k, v, hk, hkn⟩ := hkl x hin
    have he : (es.map (dEnt w kd nv)).toArray[x]? = some (dEnt w kd nv (k, v)) := by rw [List.getElem?_toArray, List.getElem?_map, hk]; rfl
    rw [he]
    dsimp only
    have htl : ((es.map (·.1)).take x).length = x := by rw [List.length_take, List.length_map, hlen]; lia
    have htake : (es.map (·.1)).take (x + 1) = (es.map (·.1)).take x ++ [k] := by rw [List.take_add_one, List.getElem?_map, hk]; rfl
    have hnd2 : ((es.map (·.1)).take x ++ [k]).Nodup := by rw [← htake]; exact hnd.sublist (List.take_sublist _ _)
    have hkx : k ∉ (es.map (·.1)).take x := by
      rw [List.nodup_append] at hnd2
      intro hm; exact hnd2.2.2 k hm k (by simp) rfl
    refine wpAny_bind (wpAny_holding (add_name (s := { s with heap := h' }) hu ho' SO' (hn h' hs') (fun k hk => ?_) hsm hT hkn hkx (hnd.sublist (List.take_sublist _ _)) (fun e => by rw [htl]; exact hm' e) ?_ fun h2 o2 m2 hs2 ho2 SO2 hm2 hmm => ?_))
    · obtain ⟨p, hp, rfl⟩ := List.mem_map.mp (List.mem_of_mem_take hk); exact hlt p hp
    · by_cases e : m' = 7
      · have := hmn e; exact .inr (.inl (by rw [htl]; lia))
      · exact .inl e
    · have hd2 : h2.get? d = some (dObj w kd nv es epd) := (hs2.2 _ hdS).trans hd'
      refine wpAny_bind (wpAny_dictEpoch (s := { s with heap := h2 }) hd2 rfl ?_)
      have hbb : (epd != epd) = false := by simp
      rw [hbb]
      simp only [Bool.false_eq_true, if_false]
      refine wpAny_pure ⟨x + 1, h2, o2, m2, by rw [show n - (x + 1) = n - x - 1 by lia], by lia, rfl, hs'.trans hs2, ho2, by rw [htake]; exact SO2, fun e => by have := hm2 e; rw [htl] at this; exact this, fun e => ?_⟩
      rcases hmm with h' | h'
      · exact hmn (h' ▸ e)
      · rw [h'] at e; cases e
  · rintro b s' ⟨i, h', o', m', hr, hi, rfl, hs', ho', SO', hm', hmn⟩
    have hin : i = n := by
      rcases Nat.lt_or_eq_of_le hi with h' | h'
      · rw [show n - i = (n - i - 1) + 1 by lia, List.range'_succ] at hr; cases hr
      · exact h'
    subst hin
    rw [List.take_of_length_le (by rw [List.length_map, hlen]; exact Nat.le_refl _)] at SO'
    exact wpAny_pure (h h' o' m' hs' ho' SO')
end
end Mine
end

-- part S11
section
open PySem PySem.W PyProof.Rows PySem.Spec
set_option linter.unusedSectionVars false
set_option linter.unusedVariables false
set_option linter.unusedSimpArgs false
namespace Mine
open Mine.ST

section
variable {prog : Program} {w : World} {A : Around} {E : Value → Shared → Prop} {s : Shared} {kd : Nat} {nv : Nat → Value} {S l : Addr} {k n : Nat} {ks : List Nat}

theorem update_loop {I : Addr} {R : Result → Shared → Prop} (hu : A.in1.units < cLine) (hh : A.in1.handled = none) (hIS : I ≠ S) (hlS : l ≠ S) (hlI : l ≠ I) (hlen : ks.length ≤ n) (hnd : ks.Nodup) (hlt : ∀ k ∈ ks, k < n) (hsm : n ≤ 7) (hT : ∀ k, k < n → tokOk (nv k)) (h₀ : Heap)
    (hn : ∀ h', (∀ b o, b ≠ S → b ≠ I → h₀.get? b = some o → h'.get? b = some o) → ∀ k, k < n → NameIs kd h' k (nv k)) (hl : ∃ ep, h₀.get? l = some (({ cls := .type "list", data := .seq (ks.map nv).toArray ep } : Obj)))
    (htup : 4 ≤ n → ∃ k' ∈ ks.take 4, (k' + kd) % 3 = 2)
    (hR : ∀ h' o' m tk, (∀ b o, b ≠ S → b ≠ I → h₀.get? b = some o → h'.get? b = some o) → h'.get? S = some o' → SetO w kd nv o' ks m → R (.ok (.ret .none)) { s with heap := h', toks := tk }) :
    ∀ (j i : Nat) (h' : Heap) (tk : Nat) (o' : Obj) (m : Nat), ks.length - i = j → i ≤ ks.length → (∀ b o, b ≠ S → b ≠ I → h₀.get? b = some o → h'.get? b = some o) → h'.IsListIter I l i → h'.get? S = some o' → SetO w kd nv o' (ks.take i) m → (m = 7 → i ≤ 4) →
      codeAny (model prog w) A (.builtin "set.update.loop" ⟨[.ref S, .ref I], []⟩) R { s with heap := h', toks := tk } := by
  have hlist : ∀ {h' : Heap}, (∀ b o, b ≠ S → b ≠ I → h₀.get? b = some o → h'.get? b = some o) → h'.IsList l (ks.map nv).toArray := fun hk => by
    obtain ⟨ep, e⟩ := hl
    exact ⟨_, hk l _ hlS hlI e, rfl, ep, rfl⟩
  intro j
  induction j with
  | zero =>
    intro i h' tk o' m hj hi hk hit ho' SO' hm'
    have hin : i = ks.length := by lia
    subst hin
    refine codeAny_builtin F.entry_set_update_loop ?_
    rw [Around.under_plainId F.plain_set_update_loop _]
    show wpAny _ A.in1 (pyNext (.ref I) >>= _) _ _ _
    refine wpAny_bind (wpAny_pyNext_list_end (s := { s with heap := h', toks := tk }) hh hit (hlist hk) (by simp) fun h₂ hs₂ => ?_)
    show wpAny _ A.in1 (ret Value.none) _ _ _
    rw [List.take_length] at SO'
    exact wpAny_pure (hR h₂ o' m tk (fun b o hb hb' e => hs₂ b o hb' (hk b o hb hb' e)) (hs₂ S o' (Ne.symm hIS) ho') SO')
  | succ j ih =>
    intro i h' tk o' m hj hi hk hit ho' SO' hm'
    have hlt' : i < ks.length := by lia
    refine codeAny_builtin F.entry_set_update_loop ?_
    rw [Around.under_plainId F.plain_set_update_loop _]
    show wpAny _ A.in1 (pyNext (.ref I) >>= _) _ _ _
    refine wpAny_bind (wpAny_pyNext_list_item (s := { s with heap := h', toks := tk }) (x := nv ks[i]) hit (hlist hk) (by simp [hlt']) fun h₂ hit₂ hs₂ => ?_)
    have hk2 : ∀ b o, b ≠ S → b ≠ I → h₀.get? b = some o → h₂.get? b = some o := fun b o hb hb' e => (hs₂.2 b hb').trans (hk b o hb hb' e)
    have hkn : ks[i] < n := hlt _ (List.getElem_mem _)
    show wpAny _ A.in1 (holding [nv ks[i]] (setAdd S (nv ks[i])) >>= _) _ _ _
    refine wpAny_bind (wpAny_holding ?_)
    unfold setAdd
    refine wpAny_holding ?_
    refine wpAny_bind (name_hash (w := w) (s := { s with heap := h₂, toks := tk }) hu (hn h₂ hk2 _ hkn) fun tk2 => ?_)
    have htl : (ks.take i).length = i := by rw [List.length_take]; lia
    have htake : ks.take (i + 1) = ks.take i ++ [ks[i]] := by rw [List.take_add_one]; simp [hlt']
    have hnd2 : (ks.take i ++ [ks[i]]).Nodup := by rw [← htake]; exact hnd.sublist (List.take_sublist _ _)
    have hkx : ks[i] ∉ ks.take i := by
      rw [List.nodup_append] at hnd2
      intro hm; exact hnd2.2.2 _ hm ks[i] (by simp) rfl
    refine add_name (s := { s with heap := h₂, toks := tk2 }) hu ((hs₂.2 S (Ne.symm hIS)).trans ho') SO' (hn h₂ hk2) (fun k hk => hlt k (List.mem_of_mem_take hk)) hsm hT hkn hkx (hnd.sublist (List.take_sublist _ _)) (fun e => by rw [htl]; exact hm' e) ?_ fun h3 o3 m3 hs3 ho3 SO3 hm3 hmm => ?_
    · rw [htl]
      by_cases e : m = 7
      · right
        by_cases h4 : i + 1 ≤ 4
        · exact .inl h4
        · right
          obtain ⟨k', h5, h6⟩ := htup (by lia)
          have : i = 4 := by have := hm' e; lia
          subst this
          exact ⟨k', h5, h6⟩
      · exact .inl e
    · have hk3 : ∀ b o, b ≠ S → b ≠ I → h₀.get? b = some o → h3.get? b = some o := fun b o hb hb' e => (hs3.2 b hb).trans (hk2 b o hb hb' e)
      refine wpAny_pure ⟨plainId_quiet F.plain_set_update_loop _, ih (i + 1) h3 tk2 o3 m3 (by lia) (by lia) hk3 ?_ ho3 (by rw [htake]; exact SO3) (fun e => by have := hm3 e; rw [htl] at this; exact this)⟩
      obtain ⟨oi, hoi, r⟩ := hit₂
      exact ⟨oi, (hs3.2 I hIS).trans hoi, r⟩

theorem updateFrom_list {o : Obj} {epl : Nat} {id : String} {Q : Unit → Shared → Prop} (hu : A.units + 10 < cLine) (hh : A.handled = none) (hl : s.heap.get? l = some ({ cls := .type "list", data := .seq (ks.map nv).toArray epl } : Obj)) (hlS : l ≠ S) (ho : s.heap.get? S = some o) (SO : SetO w kd nv o [] 7)
    (hn : ∀ h', (∀ b o, b ≠ S → s.heap.get? b = some o → h'.get? b = some o) → ∀ k, k < n → NameIs kd h' k (nv k)) (hnd : ks.Nodup) (hlt : ∀ k ∈ ks, k < n) (hlen : ks.length ≤ n) (hsm : n ≤ 7) (hT : ∀ k, k < n → tokOk (nv k)) (htup : 4 ≤ n → ∃ k' ∈ ks.take 4, (k' + kd) % 3 = 2)
    (h : ∀ h' o' m tk, (∀ b o, b ≠ S → s.heap.get? b = some o → h'.get? b = some o) → h'.get? S = some o' → SetO w kd nv o' ks m → Q () { s with heap := h', toks := tk }) :
    wpAny (model prog w) A (Builtin.Frozenset.updateFrom id S (.ref l)) Q E s := by
  unfold Builtin.Frozenset.updateFrom
  have hTl : s.TypeIs (.ref l) "list" := ⟨_, hl, rfl⟩
  refine wpAny_bind (isAnySet_no hTl F.sub_list_set F.sub_list_frozenset ?_)
  simp only [Bool.false_eq_true, if_false]
  refine wpAny_bind (wpAny_typeOf hTl ?_)
  have hb : (Value.type "list" == Value.type "dict") = false := by decide
  rw [hb]
  simp only [Bool.false_eq_true, if_false]
  have hls : s.heap.IsList l (ks.map nv).toArray := ⟨_, hl, rfl, epl, rfl⟩
  refine wpAny_bind (wpAny_pyIter_list hls ?_)
  have hS := Heap.lt_size ho
  have hlz := Heap.lt_size hl
  have hne : s.heap.objs.size ≠ S := Nat.ne_of_gt hS
  refine wpAny_bind (wpAny_runValue ?_)
  refine update_loop (n := n) (ks := ks) (S := S) (l := l) (I := s.heap.objs.size) (s := s) (h₀ := s.heap) ?_ ?_ hne hlS (Nat.ne_of_lt hlz) hlen hnd hlt hsm hT (fun h' hk => hn h' fun b o hb e => hk b o hb (Nat.ne_of_lt (Heap.lt_size e)) e) ⟨epl, hl⟩ htup (fun h' o' m tk hk ho' SO' => ?_) _ 0 _ s.toks o 7 rfl (Nat.zero_le _) (fun b o _ _ e => Heap.get?_push_of_some _ e) ⟨_, Heap.get?_push_size _ rfl, rfl, rfl⟩ (Heap.get?_push_of_some _ ho) SO (fun _ => Nat.zero_le _)
  · show A.units + 1 < cLine; lia
  · exact hh
  · exact wpAny_pure (h h' o' m tk (fun b o hb e => hk b o hb (Nat.ne_of_lt (Heap.lt_size e)) e) ho' SO')
end
end Mine
end

-- part S12
section
open PySem PySem.W PyProof.Rows PySem.Spec
set_option linter.unusedSectionVars false
set_option linter.unusedVariables false
set_option linter.unusedSimpArgs false
set_option maxRecDepth 100000
namespace Mine
open Mine.ST
theorem entry_set_ne : entryFor table "set.__ne__" = some Builtin.«frozenset.__ne__» := entryFor_alias (id' := "frozenset.__ne__") (by kernel_rfl) rfl (by decide +kernel) (by kernel_rfl)
theorem sub_set_frozenset : isSubtype (.type "set") (.type "frozenset") = pure false := by rw [isSubtype_type]; kernel_rfl

section
variable {prog : Program} {w : World} {A : Around} {E : Value → Shared → Prop} {s : Shared} {kd : Nat} {nv : Nat → Value} {a b : Addr} {es : Array (Int × Value)} {ep k n : Nat} {t : SetTable} {ks ls : List Nat}

theorem wpAny_choose1 {M : Model} {src : Source} {n : Nat} {Q : Nat → Shared → Prop} (hn : n ≠ 0) (h : ∀ i d, i < n → Q i { s with drawn := d }) : wpAny M A (choose src n) Q E s := fun Γ p hΓ => by
  show Sem.wp M Γ (.choose src n .pure) _ _ _ _
  rw [Sem.wp_choose]
  exact ⟨hn, h _ _ (Nat.mod_lt _ (Nat.pos_of_ne_zero hn))⟩

theorem drawOrder_sub {α : Type} {M : Model} : ∀ (n : Nat) (xs : List α) {s : Shared} {Q : List α → Shared → Prop}, n ≤ xs.length → (∀ ys d, (∀ y ∈ ys, y ∈ xs) → Q ys { s with drawn := d }) → wpAny M A (drawOrder n xs) Q E s := by
  intro n
  induction n with
  | zero =>
    intro xs s Q _ h
    unfold drawOrder
    exact wpAny_pure (by have := h [] s.drawn (by simp); exact this)
  | succ n ih =>
    intro xs s Q hn h
    cases xs with
    | nil => simp at hn
    | cons x xs =>
      unfold drawOrder
      refine wpAny_bind (wpAny_choose1 (by simp) fun i d hi => ?_)
      have hget : (x :: xs)[i]? = some (x :: xs)[i] := by simp [hi]
      rw [hget]
      dsimp only
      refine wpAny_bind (ih _ (by rw [List.length_eraseIdx]; simp [hi] at *; split <;> lia) fun ys d' hys => ?_)
      refine wpAny_pure ?_
      refine h ((x :: xs)[i] :: ys) d' fun y hy => ?_
      rcases List.mem_cons.mp hy with rfl | hy
      · exact List.getElem_mem _
      · exact List.mem_of_mem_eraseIdx (hys y hy)

theorem pickOrder_sub {α : Type} (next : Nat → Nat) (xs : Array α) : ∀ y ∈ (pickOrder next xs).toList, y ∈ xs.toList := by
  unfold pickOrder
  have key : ∀ (fuel k : Nat) (left : List α) (out : Array α), (∀ y ∈ left, y ∈ xs.toList) → (∀ y ∈ out.toList, y ∈ xs.toList) → ∀ y ∈ (pickOrder.go next fuel k left out).toList, y ∈ xs.toList := by
    intro fuel
    induction fuel with
    | zero => intro k left out _ h2 y hy; unfold pickOrder.go at hy; exact h2 y hy
    | succ fuel ih =>
      intro k left out h1 h2 y hy
      unfold pickOrder.go at hy
      cases e : left[next k % left.length]? with
      | none => rw [e] at hy; exact h2 y hy
      | some x =>
        rw [e] at hy
        refine ih _ _ _ (fun z hz => h1 z (List.mem_of_mem_eraseIdx hz)) (fun z hz => ?_) y hy
        rw [Array.toList_push] at hz
        rcases List.mem_append.mp hz with hz | hz
        · exact h2 z hz
        · rw [List.mem_singleton.mp hz]; exact h1 _ (List.mem_of_getElem? e)
  exact key _ _ _ _ (fun y h => h) (by simp)

theorem setWalk_ok {Q : Array (Int × Value) → Shared → Prop} (ho : s.heap.get? a = some (sObj es ep t)) (W : WT t (es.toList.map (·.1))) (hp : t.plain = false) (h1 : es.size > 1)
    (h : ∀ ys d, (∀ y ∈ Array.toList ys, y ∈ es.toList) → Q ys { s with drawn := d }) : wpAny (model prog w) A (setWalk a) Q E s := by
  unfold setWalk
  refine wpAny_bind (wpAny_setState_of ho rfl W.fitsEs ?_)
  dsimp only
  unfold setsByText
  refine wpAny_bind (wpAny_bind (wpAny_askSetting (wpAny_pure ?_)))
  refine wpAny_ite_any ?_ ?_
  · refine wpAny_bind (wpAny_askSetting (wpAny_pure ?_))
    exact h _ s.drawn (pickOrder_sub _ es)
  · have hdr : (!t.plain && decide (es.size > 1)) = true := by rw [hp]; simpa using h1
    refine (show wpAny _ _ (if (!t.plain && decide (es.size > 1)) = true then _ else _) _ _ _ from ?_)
    rw [if_pos hdr]
    refine wpAny_bind (drawOrder_sub _ _ (by simp) fun ys d hys => wpAny_pure ?_)
    exact h _ d hys

theorem quietEq_any {v : Value} {Q : Bool → Shared → Prop} (hv : NameIs kd s.heap k v) (h : ∀ r, Q r s) : wpAny (model prog w) A (Builtin.Frozenset.quietEq v) Q E s := by
  unfold Builtin.Frozenset.quietEq
  rcases hv with ⟨hk, t, rfl⟩ | ⟨hk, t, rfl⟩ | ⟨hk, a, t, t', n, rfl, ho⟩
  · exact wpAny_pure (h _)
  · exact wpAny_pure (h _)
  · exact wpAny_bind (wpAny_specialOf (T := "tuple") ⟨_, ho, rfl⟩ F.slot_tuple_eq.lookup (wpAny_pure (h _)))

theorem walkUnseen_ok {es' : Array (Int × Value)} {ep' : Nat} {t' : SetTable} {Q : List (Int × Value) → Shared → Prop} (ho : s.heap.get? a = some (sObj es ep t)) (W : WT t (es.toList.map (·.1))) (hp : t.plain = false) (h1 : es.size > 1)
    (ho' : s.heap.get? b = some (sObj es' ep' t')) (W' : WT t' (es'.toList.map (·.1))) (hel : ∀ e ∈ es.toList ++ es'.toList, ∃ k, NameIs kd s.heap k e.2)
    (h : ∀ ys d, (∀ y ∈ ys, y ∈ es.toList) → Q ys { s with drawn := d }) : wpAny (model prog w) A (Builtin.Frozenset.walkUnseen a b) Q E s := by
  unfold Builtin.Frozenset.walkUnseen
  refine wpAny_bind (wpAny_setEntries_of ho rfl W.fitsEs ?_)
  refine wpAny_bind (wpAny_setEntries_of ho' rfl W'.fitsEs ?_)
  dsimp only
  refine wpAny_bind ?_
  refine wpAny_forIn_list _ (fun rest r s' => s' = s ∧ r = (none, ()) ∧ ∀ e ∈ rest, ∃ k, NameIs kd s.heap k e.2) _ ?_ ?_ _ _ ⟨rfl, rfl, hel⟩
  · rintro ⟨hh, x⟩ rest r s' ⟨rfl, rfl, hr⟩
    obtain ⟨k, hk⟩ := hr (hh, x) List.mem_cons_self
    dsimp only
    refine wpAny_bind (quietEq_any hk fun q => ?_)
    refine wpAny_ite_any ?_ (wpAny_pure ⟨rfl, rfl, fun e he => hr e (List.mem_cons_of_mem _ he)⟩)
    refine wpAny_bind ?_
    unfold Builtin.Frozenset.walk
    refine wpAny_bind (setWalk_ok ho W hp h1 fun ys d hys => wpAny_pure ?_)
    refine wpAny_pure ?_
    exact wpAny_pure (h ys.toList d hys)
  · rintro r s' ⟨rfl, rfl, _⟩
    exact wpAny_pure (h es.toList s'.drawn fun y h => h)

theorem subset_ok {o o' : Obj} {m m' : Nat} {id : String} {Q : Bool → Shared → Prop} (hu : A.units < cLine) (ho : s.heap.get? a = some o) (ho' : s.heap.get? b = some o') (S1 : SetO w kd nv o ks m) (S2 : SetO w kd nv o' ls m') (hn : ∀ k, k < n → NameIs kd s.heap k (nv k)) (hks : ∀ k, k ∈ ks ↔ k < n) (hls : ∀ k, k ∈ ls ↔ k < n)
    (hnd : ks.Nodup) (hnd' : ls.Nodup) (hn3 : 3 ≤ n) (hsm : n ≤ 7) (hT : ∀ k, k < n → tokOk (nv k)) (h : ∀ d, Q true { s with drawn := d }) : wpAny (model prog w) A (Builtin.Frozenset.subsetOf id a b) Q E s := by
  obtain ⟨es, ep, t, rfl, hm, W, hp, hpl⟩ := S1.ex
  have S2' := S2
  obtain ⟨es', ep', t', rfl, hm', W', hp', hpl'⟩ := S2'.ex
  have hl1 : es.size = n := by
    rw [← Array.length_toList, hp.length_eq, List.length_map]
    have := (List.perm_ext_iff_of_nodup hnd (List.nodup_range (n := n))).mpr fun k => by rw [hks, List.mem_range]
    simpa using this.length_eq
  have hl2 : es'.size = n := by
    rw [← Array.length_toList, hp'.length_eq, List.length_map]
    have := (List.perm_ext_iff_of_nodup hnd' (List.nodup_range (n := n))).mpr fun k => by rw [hls, List.mem_range]
    simpa using this.length_eq
  have htup : ∃ k, k < n ∧ (k + kd) % 3 = 2 := by
    have : (0 + kd) % 3 = 2 ∨ (1 + kd) % 3 = 2 ∨ (2 + kd) % 3 = 2 := by lia
    rcases this with h | h | h
    · exact ⟨0, by lia, h⟩
    · exact ⟨1, by lia, h⟩
    · exact ⟨2, by lia, h⟩
  have hnp : t.plain = false := by
    obtain ⟨k, hk, h2⟩ := htup
    cases e : t.plain with
    | false => rfl
    | true => have := hpl e k ((hks k).mpr hk); lia
  have hmem : ∀ e ∈ es.toList, ∃ k, k < n ∧ e = (nhash w kd k, nv k) := by
    intro e he
    obtain ⟨k, hk, rfl⟩ := List.mem_map.mp (hp.mem_iff.mp he)
    exact ⟨k, (hks k).mp hk, rfl⟩
  unfold Builtin.Frozenset.subsetOf Builtin.Frozenset.sizeOf
  refine wpAny_bind (wpAny_bind (wpAny_setEntries_of ho rfl W.fitsEs (wpAny_pure ?_)))
  refine wpAny_bind (wpAny_bind (wpAny_setEntries_of ho' rfl W'.fitsEs (wpAny_pure ?_)))
  rw [hl1, hl2]
  rw [if_neg (by lia)]
  refine wpAny_bind (wpAny_setEpoch_of ho rfl W.fitsEs ?_)
  have hel : ∀ e ∈ es.toList ++ es'.toList, ∃ k, NameIs kd s.heap k e.2 := by
    intro e he
    rcases List.mem_append.mp he with he | he
    · obtain ⟨k, hk, rfl⟩ := hmem e he; exact ⟨k, hn k hk⟩
    · obtain ⟨k, hk, rfl⟩ := List.mem_map.mp (hp'.mem_iff.mp he); exact ⟨k, hn k ((hls k).mp hk)⟩
  refine wpAny_bind (walkUnseen_ok (kd := kd) ho W hnp (by lia) ho' W' hel fun ys d hys => ?_)
  refine wpAny_bind ?_
  refine wpAny_forIn_list _ (fun rest r s' => s' = { s with drawn := d } ∧ r = (none, ()) ∧ ∀ e ∈ rest, e ∈ es.toList) _ ?_ ?_ _ _ ⟨rfl, rfl, hys⟩
  · rintro ⟨hh, x⟩ rest r s' ⟨rfl, rfl, hr⟩
    obtain ⟨k, hk, e⟩ := hmem (hh, x) (hr _ List.mem_cons_self)
    cases e
    dsimp only
    obtain ⟨k2, hk2, htk⟩ := htup
    refine wpAny_bind (wpAny_holding (setFind_name (s := { s with drawn := d }) (n := n) hu ho' S2 hn (fun k hk => (hls k).mp hk) (by lia) hT ((hls k).mpr hk) ⟨k2, (hls k2).mpr hk2, htk⟩ fun i => ?_))
    simp only [Option.isNone_some, Bool.false_eq_true, if_false]
    unfold Builtin.Frozenset.unchanged
    refine wpAny_bind (wpAny_bind (wpAny_setEpoch_of (s := { s with drawn := d }) ho rfl W.fitsEs ?_))
    have hbb : (ep != ep) = false := by simp
    rw [hbb]
    simp only [Bool.false_eq_true, if_false]
    refine wpAny_pure ?_
    exact wpAny_pure ⟨rfl, rfl, fun e he => hr e (List.mem_cons_of_mem _ he)⟩
  · rintro r s' ⟨rfl, rfl, _⟩
    exact wpAny_pure (h d)

theorem isAnySet_yes {v : Value} {Q : Bool → Shared → Prop} (hT : s.TypeIs v "set") (h : Q true s) : wpAny (model prog w) A (Builtin.Frozenset.isAnySet v) Q E s := by
  unfold Builtin.Frozenset.isAnySet
  exact wpAny_bind (wpAny_isInstance hT sub_set_self (wpAny_pure h))
theorem id_ {p : Prop} (h : p) : p := h
theorem ne_sets {o o' : Obj} {m m' : Nat} {Q : Value → Shared → Prop} (hu : A.units + 1 < cLine) (ho : s.heap.get? a = some o) (ho' : s.heap.get? b = some o') (S1 : SetO w kd nv o ks m) (S2 : SetO w kd nv o' ls m') (hn : ∀ k, k < n → NameIs kd s.heap k (nv k)) (hks : ∀ k, k ∈ ks ↔ k < n) (hls : ∀ k, k ∈ ls ↔ k < n)
    (hnd : ks.Nodup) (hnd' : ls.Nodup) (hn3 : 3 ≤ n) (hsm : n ≤ 7) (hT : ∀ k, k < n → tokOk (nv k)) (h : ∀ d, Q (.bool false) { s with drawn := d }) : wpAny (model prog w) A (compareOp .NotEq (.ref a) (.ref b)) Q E s := by
  have T1 : s.TypeIs (.ref a) "set" := by obtain ⟨es, ep, t, rfl, _⟩ := S1.ex; exact ⟨_, ho, rfl⟩
  have T2 : s.TypeIs (.ref b) "set" := by obtain ⟨es, ep, t, rfl, _⟩ := S2.ex; exact ⟨_, ho', rfl⟩
  refine wpAny_richCompare_same_room (op := .NotEq) T1 T2 PySem.F.slot_set_ne (wpAny_call_entry PySem.F.slot_set_ne T1 entry_set_ne ?_ (PySem.F.args_set_ne_2 _ _)) (Nat.lt_of_succ_lt hu)
  unfold Builtin.«frozenset.__ne__»
  show wpAny _ _ (Builtin.Frozenset.slot1 "__ne__" ⟨[.ref a, .ref b], []⟩ >>= _) _ _ s
  unfold Builtin.Frozenset.slot1
  refine wpAny_bind (wpAny_bind (m := slotArgs "__ne__" 1 ⟨[.ref a, .ref b], []⟩) (wpAny_pure (wpAny_pure ?_)))
  dsimp only
  obtain ⟨es, ep, t, rfl, hm, W, hp, hpl⟩ := id_ S1.ex
  obtain ⟨es', ep', t', rfl, hm', W', hp', hpl'⟩ := id_ S2.ex
  have hl1 : es.size = n := by
    rw [← Array.length_toList, hp.length_eq, List.length_map]
    have := (List.perm_ext_iff_of_nodup hnd (List.nodup_range (n := n))).mpr fun k => by rw [hks, List.mem_range]
    simpa using this.length_eq
  have hl2 : es'.size = n := by
    rw [← Array.length_toList, hp'.length_eq, List.length_map]
    have := (List.perm_ext_iff_of_nodup hnd' (List.nodup_range (n := n))).mpr fun k => by rw [hls, List.mem_range]
    simpa using this.length_eq
  refine wpAny_bind (isAnySet_yes T2 ?_)
  simp only [Bool.not_true, Bool.false_eq_true, if_false]
  refine wpAny_bind (m := Builtin.Frozenset.addrOf (.ref a)) (wpAny_pure ?_)
  refine wpAny_bind (m := Builtin.Frozenset.addrOf (.ref b)) (wpAny_pure ?_)
  unfold Builtin.Frozenset.sizeOf
  refine wpAny_bind (wpAny_bind (wpAny_setEntries_of ho rfl W.fitsEs (wpAny_pure ?_)))
  refine wpAny_bind (wpAny_bind (wpAny_setEntries_of ho' rfl W'.fitsEs (wpAny_pure ?_)))
  have hne : (es.size != es'.size) = false := by rw [hl1, hl2]; simp
  rw [hne]
  simp only [Bool.false_eq_true, if_false]
  refine wpAny_bind (wpAny_bind (m := isInstance (.ref a) (.type "frozenset") <&&> isInstance (.ref b) (.type "frozenset")) (wpAny_bind (wpAny_isInstance T1 sub_set_frozenset ?_)))
  refine wpAny_pure ?_
  simp only [Bool.false_eq_true, if_false]
  refine subset_ok (A := A.in1) hu ho ho' S1 S2 hn hks hls hnd hnd' hn3 hsm hT fun d => ?_
  exact wpAny_pure ⟨_, rfl, (by intro h; cases h), h d⟩
end
end Mine
end

-- part C0
section
open PySem PySem.W PyProof.Rows PySem.Spec
set_option linter.unusedSectionVars false
set_option linter.unusedVariables false
namespace Mine
-- some things that bear a law, all at once
inductive Ex3 {α β γ : Type} (P : α → β → γ → Prop) : Prop
  | mk (x0 : α) (x1 : β) (x2 : γ) : P x0 x1 x2 → Ex3 P
inductive Ex4 {α β γ δ : Type} (P : α → β → γ → δ → Prop) : Prop
  | mk (x0 : α) (x1 : β) (x2 : γ) (x3 : δ) : P x0 x1 x2 x3 → Ex4 P
inductive Ex5 {α β γ δ ε : Type} (P : α → β → γ → δ → ε → Prop) : Prop
  | mk (x0 : α) (x1 : β) (x2 : γ) (x3 : δ) (x4 : ε) : P x0 x1 x2 x3 x4 → Ex5 P
inductive Ex6 {α β γ δ ε ζ : Type} (P : α → β → γ → δ → ε → ζ → Prop) : Prop
  | mk (x0 : α) (x1 : β) (x2 : γ) (x3 : δ) (x4 : ε) (x5 : ζ) : P x0 x1 x2 x3 x4 x5 → Ex6 P
inductive Ex7 {α β γ δ ε ζ η : Type} (P : α → β → γ → δ → ε → ζ → η → Prop) : Prop
  | mk (x0 : α) (x1 : β) (x2 : γ) (x3 : δ) (x4 : ε) (x5 : ζ) (x6 : η) : P x0 x1 x2 x3 x4 x5 x6 → Ex7 P
inductive Ex8 {α β γ δ ε ζ η θ : Type} (P : α → β → γ → δ → ε → ζ → η → θ → Prop) : Prop
  | mk (x0 : α) (x1 : β) (x2 : γ) (x3 : δ) (x4 : ε) (x5 : ζ) (x6 : η) (x7 : θ) : P x0 x1 x2 x3 x4 x5 x6 x7 → Ex8 P
inductive Ex9 {α β γ δ ε ζ η θ ι : Type} (P : α → β → γ → δ → ε → ζ → η → θ → ι → Prop) : Prop
  | mk (x0 : α) (x1 : β) (x2 : γ) (x3 : δ) (x4 : ε) (x5 : ζ) (x6 : η) (x7 : θ) (x8 : ι) : P x0 x1 x2 x3 x4 x5 x6 x7 x8 → Ex9 P
inductive Ex10 {α β γ δ ε ζ η θ ι κ : Type} (P : α → β → γ → δ → ε → ζ → η → θ → ι → κ → Prop) : Prop
  | mk (x0 : α) (x1 : β) (x2 : γ) (x3 : δ) (x4 : ε) (x5 : ζ) (x6 : η) (x7 : θ) (x8 : ι) (x9 : κ) : P x0 x1 x2 x3 x4 x5 x6 x7 x8 x9 → Ex10 P

/- where a call stands -/
structure Cx where
  dp : Nat
  un : Nat
  gd : Option (List Code)
  cn : Str
  cs : Scope
  a : Addr
  ccd : Value
  cl : List (Str × Addr)
  outer : List Env
  A₀ : Around
  base : Heap
  h₀ : Heap
  L : Addr
  fz : List (Addr × Obj)

abbrev Cx.env (c : Cx) : Env := envX c.cn c.cs c.L c.a c.ccd c.cl
abbrev Cx.A (c : Cx) : Around := ktrTop c.dp c.un c.gd c.cn c.cs c.L c.a c.ccd c.cl c.outer
abbrev Cx.wz (c : Cx) (fz : List (Addr × Obj)) : Cx := { c with fz := fz }
abbrev Cx.sub (qual : Str) (scope : Scope) (f : Addr) (cdv : Value) (c : Cx) (cl : List (Str × Addr)) (g : Heap) (L : Addr) : Cx :=
  { dp := c.dp + 1, un := c.un + 3, gd := c.gd, cn := qual, cs := scope, a := f, ccd := cdv, cl := cl, outer := c.env :: c.outer, A₀ := c.A, base := c.base, h₀ := g, L := L, fz := [] }

theorem memC {α : Type} {P : α → Prop} {a : α} {l : List α} (h : P a) (hl : ∀ q ∈ l, P q) : ∀ q ∈ a :: l, P q := List.forall_mem_cons.mpr ⟨h, hl⟩
theorem all2 {α : Type} {P : α → Prop} {a0 a1 : α} (h0 : P a0) (h1 : P a1) : ∀ p ∈ [a0, a1], P p := fun _ hp => (List.mem_cons.mp hp).elim (fun e => e ▸ h0) fun hp => (List.mem_singleton.mp hp) ▸ h1
theorem all3 {α : Type} {P : α → Prop} {a0 a1 a2 : α} (h0 : P a0) (h1 : P a1) (h2 : P a2) : ∀ p ∈ [a0, a1, a2], P p := fun _ hp => (List.mem_cons.mp hp).elim (fun e => e ▸ h0) fun hp => all2 h1 h2 _ hp
theorem all4 {α : Type} {P : α → Prop} {a0 a1 a2 a3 : α} (h0 : P a0) (h1 : P a1) (h2 : P a2) (h3 : P a3) : ∀ p ∈ [a0, a1, a2, a3], P p := fun _ hp => (List.mem_cons.mp hp).elim (fun e => e ▸ h0) fun hp => all3 h1 h2 h3 _ hp
theorem all5 {α : Type} {P : α → Prop} {a0 a1 a2 a3 a4 : α} (h0 : P a0) (h1 : P a1) (h2 : P a2) (h3 : P a3) (h4 : P a4) : ∀ p ∈ [a0, a1, a2, a3, a4], P p := fun _ hp => (List.mem_cons.mp hp).elim (fun e => e ▸ h0) fun hp => all4 h1 h2 h3 h4 _ hp
theorem all6 {α : Type} {P : α → Prop} {a0 a1 a2 a3 a4 a5 : α} (h0 : P a0) (h1 : P a1) (h2 : P a2) (h3 : P a3) (h4 : P a4) (h5 : P a5) : ∀ p ∈ [a0, a1, a2, a3, a4, a5], P p := fun _ hp => (List.mem_cons.mp hp).elim (fun e => e ▸ h0) fun hp => all5 h1 h2 h3 h4 h5 _ hp
theorem all7 {α : Type} {P : α → Prop} {a0 a1 a2 a3 a4 a5 a6 : α} (h0 : P a0) (h1 : P a1) (h2 : P a2) (h3 : P a3) (h4 : P a4) (h5 : P a5) (h6 : P a6) : ∀ p ∈ [a0, a1, a2, a3, a4, a5, a6], P p := fun _ hp => (List.mem_cons.mp hp).elim (fun e => e ▸ h0) fun hp => all6 h1 h2 h3 h4 h5 h6 _ hp
theorem all8 {α : Type} {P : α → Prop} {a0 a1 a2 a3 a4 a5 a6 a7 : α} (h0 : P a0) (h1 : P a1) (h2 : P a2) (h3 : P a3) (h4 : P a4) (h5 : P a5) (h6 : P a6) (h7 : P a7) : ∀ p ∈ [a0, a1, a2, a3, a4, a5, a6, a7], P p := fun _ hp => (List.mem_cons.mp hp).elim (fun e => e ▸ h0) fun hp => all7 h1 h2 h3 h4 h5 h6 h7 _ hp
theorem all9 {α : Type} {P : α → Prop} {a0 a1 a2 a3 a4 a5 a6 a7 a8 : α} (h0 : P a0) (h1 : P a1) (h2 : P a2) (h3 : P a3) (h4 : P a4) (h5 : P a5) (h6 : P a6) (h7 : P a7) (h8 : P a8) : ∀ p ∈ [a0, a1, a2, a3, a4, a5, a6, a7, a8], P p := fun _ hp => (List.mem_cons.mp hp).elim (fun e => e ▸ h0) fun hp => all8 h1 h2 h3 h4 h5 h6 h7 h8 _ hp
structure Tp where
  p : Program
  loose : List Str
  mean : ExcName → Option Value
  mg : Str → Option Value
  mb : Str → Option Value

/- the state at hand: the frame's names m, what the call has made led -/
structure Here (w : World) (t : Tp) (c : Cx) (m : Str → Option Value) (led : List (Addr × Obj)) (h : Heap) : Prop where
  B : Below c.A₀ c.base c.outer c.h₀
  X : (Mine.hd.heap_39 w.params).In c.h₀
  T : Top t.p t.loose t.mean t.mg t.mb c.h₀
  F : Fr c.h₀ c.L h m
  N : News c.h₀ c.L h led
  K : c.cs.kind = .function
  Z : News c.h₀ c.L h c.fz
  D : ∀ p ∈ c.fz, ∀ q ∈ led, p.1 ≠ q.1

abbrev lObj (vs : List Value) (ep : Nat) : Obj := { cls := .type "list", data := .seq vs.toArray ep }
abbrev itObj (l : Addr) (i : Nat) : Obj := { cls := .type "list_iterator", data := .fields #[.ref l, .int i 0] }
theorem loopDec {n i : Nat} (h : i < n) : n + 1 - (i + 1) < n + 1 - i := by omega
def lput (led : List (Addr × Obj)) (a : Addr) (o : Obj) : List (Addr × Obj) := led.map fun p => if p.1 = a then (a, o) else p
abbrev mset (m : Str → Option Value) (x : Str) (v : Value) : Str → Option Value := fun y => if y = x then some v else m y

theorem lput_self {led : List (Addr × Obj)} {a : Addr} {o o' : Obj} (h : (a, o) ∈ led) : (a, o') ∈ lput led a o' :=
  List.mem_map.mpr ⟨_, h, by simp⟩
theorem lput_ne {led : List (Addr × Obj)} {a b : Addr} {o o' : Obj} (h : (b, o) ∈ led) (hb : b ≠ a) : (b, o) ∈ lput led a o' :=
  List.mem_map.mpr ⟨_, h, by simp [hb]⟩
theorem lput_mem {led : List (Addr × Obj)} {a : Addr} {o' : Obj} {p : Addr × Obj} (h : p ∈ lput led a o') : (∃ q ∈ led, q.1 = a ∧ p = (a, o')) ∨ (p ∈ led ∧ p.1 ≠ a) := by
  obtain ⟨q, hq, rfl⟩ := List.mem_map.mp h
  by_cases e : q.1 = a
  · exact .inl ⟨q, hq, e, by simp [e]⟩
  · exact .inr ⟨by simpa [e] using hq, by simpa [e] using e⟩

/- the state s with this heap and these tokens -/
def sh (s : Shared) (h : Heap) (tk : Nat) : Shared := { s with heap := h, toks := tk }
def NoE : Value → Shared → Prop := fun _ _ => False
def flowVal : Flow → Value
  | .ret v => v
  | _ => .none
/- what a called block owes -/
inductive EndIn (w : World) (t : Tp) (C c : Cx) (m : Str → Option Value) (s : Shared) (Q : Value → Shared → Prop) (fl : Flow) (s' : Shared)  : Prop
  | mk : ∀ m'' led'' h'' tk'', (s' = sh s h'' tk'') → (Here w t C m'' led'' h'') → ((Here w t c m led'' h'' → Q (flowVal fl) (sh s h'' tk''))) → EndIn w t C c m s Q fl s'
/- what a turn of a loop owes -/
inductive TurnP (w : World) (t : Tp) (C : Cx) (s : Shared) (J : (Str → Option Value) → List (Addr × Obj) → Prop) (f : Flow) (s' : Shared)  : Prop
  | mk : f = .next → ∀ m₂ led₂ h₂ tk₂, (s' = sh s h₂ tk₂) → (Here w t C m₂ led₂ h₂) → (J m₂ led₂) → TurnP w t C s J f s'
inductive AppP (w : World) (t : Tp) (s : Shared) (a : Addr) (Q : Flow → Shared → Prop) (v : Value) (s₂ : Shared)  : Prop
  | mk : ∀ c m₂ led₂ h₂ tk₂ vs₂ ep₂, (s₂ = sh s h₂ tk₂) → (Here w t c m₂ led₂ h₂) → ((a, lObj vs₂ ep₂) ∈ led₂) → (vs₂.length ≤ 1000000) → (∀ h' tk', Here w t c m₂ (lput led₂ a (lObj (vs₂ ++ [v]) (ep₂ + 1))) h' → Q .next (sh s h' tk')) → AppP w t s a Q v s₂
/- what an element of a display owes -/
inductive CompE (w : World) (t : Tp) (C : Cx) (m : Str → Option Value) (s : Shared) (J : List Value → List (Addr × Obj) → Prop) (ys : List Value) (y : Value) (s₂ : Shared)  : Prop
  | mk : ∀ led₃ h₃ tk₃, (s₂ = sh s h₃ tk₃) → (Here w t C m led₃ h₃) → (J (ys ++ [y]) led₃) → CompE w t C m s J ys y s₂
inductive CompEN (w : World) (t : Tp) (C : Cx) (m : Str → Option Value) (s : Shared) (J : List Value → List (Addr × Obj) → Prop) (ys : List Value) (y : Value) (s₂ : Shared)  : Prop
  | mk : ∀ led₃ h₃ tk₃, (tk₃ ≠ 0) → (s₂ = sh s h₃ tk₃) → (Here w t C m led₃ h₃) → (J (ys ++ [y]) led₃) → CompEN w t C m s J ys y s₂
inductive CompT (w : World) (t : Tp) (C : Cx) (m : Str → Option Value) (s : Shared) (K : Shared → Prop) (J : List (Addr × Obj) → Prop) (ok : Bool) (s₁ : Shared)  : Prop
  | mk : ∀ led₂ h₂ tk₂, (s₁ = sh s h₂ tk₂) → (Here w t C m led₂ h₂) → (if ok = true then K s₁ else J led₂) → CompT w t C m s K J ok s₁
inductive CompTN (w : World) (t : Tp) (C : Cx) (m : Str → Option Value) (s : Shared) (K : Shared → Prop) (J : List (Addr × Obj) → Prop) (ok : Bool) (s₁ : Shared)  : Prop
  | mk : ∀ led₂ h₂ tk₂, (tk₂ ≠ 0) → (s₁ = sh s h₂ tk₂) → (Here w t C m led₂ h₂) → (if ok = true then K s₁ else J led₂) → CompTN w t C m s K J ok s₁

section
variable {prog : Program} {M : Model} {w : World} {t : Tp} {c : Cx} {m : Str → Option Value} {led : List (Addr × Obj)} {E : Value → Shared → Prop} {s : Shared} {h h' : Heap} {A : Around}

theorem noE {α : Type} {t : Sem α} {Q : α → Shared → Prop} (h : wpAny M A t Q NoE s) : wpAny M A t Q E s := wpAny_mono h (fun _ _ x => x) fun _ _ x => x.elim

theorem Here.get (H : Here w t c m led h) {a : Addr} {o : Obj} (ha : (a, o) ∈ led) : h.get? a = some o := H.N.get ha
theorem Here.uniq (H : Here w t c m led h) {a : Addr} {o o' : Obj} (ha : (a, o) ∈ led) (ha' : (a, o') ∈ led) : o = o' := by
  have h1 := H.get ha; rw [H.get ha'] at h1; exact (Option.some.inj h1).symm
theorem Here.ne (H : Here w t c m led h) {a b : Addr} {o o' : Obj} (ha : (a, o) ∈ led) (hb : (b, o') ∈ led) (hne : o ≠ o') : a ≠ b := by
  rintro rfl; exact hne (H.uniq ha hb)
theorem Here.notL (H : Here w t c m led h) {a : Addr} {o : Obj} (ha : (a, o) ∈ led) : a ≠ c.L := (H.N _ ha).2.1
theorem Here.lt (H : Here w t c m led h) {a : Addr} {o : Obj} (ha : (a, o) ∈ led) : a < h.objs.size := Heap.lt_size (H.get ha)

/- another ledger, all of it in hand -/
theorem Here.mono (H : Here w t c m led h) {led' : List (Addr × Obj)} (hs : ∀ p ∈ led', p ∈ led) : Here w t c m led' h :=
  ⟨H.B, H.X, H.T, H.F, fun p hp => H.N p (hs p hp), H.K, H.Z, fun p hp q hq => H.D p hp q (hs q hq)⟩

theorem Here.upd (H : Here w t c m led h) {a : Addr} {o o' : Obj} (ha : (a, o) ∈ led) (hs : Heap.SameBut a h h') (ho : h'.get? a = some o') : Here w t c m (lput led a o') h' := by
  have hm := H.N _ ha
  refine ⟨H.B, H.X, H.T, ⟨H.F.ns.sameBut hs (Ne.symm hm.2.1), fun b ob e => (hs.2 b fun q => ?_).trans (H.F.keep b ob e), H.F.above⟩, ?_, H.K, ?_, ?_⟩
  · rw [q, hm.2.2] at e; cases e
  · intro p hp
    rcases lput_mem hp with ⟨q, hq, rfl, rfl⟩ | ⟨h1, h2⟩
    · exact ⟨ho, hm.2⟩
    · exact ⟨(hs.2 _ h2).trans (H.N p h1).1, (H.N p h1).2⟩
  · intro p hp
    exact ⟨(hs.2 _ (H.D p hp _ ha)).trans (H.Z p hp).1, (H.Z p hp).2⟩
  · intro p hp q hq
    rcases lput_mem hq with ⟨r, hr, rfl, rfl⟩ | ⟨h1, _⟩
    · exact H.D p hp r hr
    · exact H.D p hp q h1

theorem Here.store (H : Here w t c m led h) {m' : Str → Option Value} (hn : h'.Ns c.L m') (hs : Heap.SameBut c.L h h') : Here w t c m' led h' :=
  ⟨H.B, H.X, H.T, H.F.set hn hs, H.N.set hs, H.K, H.Z.set hs, H.D⟩

theorem Here.push (H : Here w t c m led h) (o : Obj) (hf : o.isFreed = false := by rfl) : Here w t c m ((h.objs.size, o) :: led) (h.push o) := by
  refine ⟨H.B, H.X, H.T, H.F.push o, H.N.push H.F o hf, H.K, fun p hp => ⟨Heap.get?_push_of_some _ (H.Z p hp).1, (H.Z p hp).2⟩, ?_⟩
  intro p hp q hq
  rcases List.mem_cons.mp hq with rfl | hq
  · exact Nat.ne_of_lt (Heap.lt_size (H.Z p hp).1)
  · exact H.D p hp q hq

/- the heap has grown; nothing in hand has turned -/
theorem Here.ext (H : Here w t c m led h) (hk : ∀ b o, h.get? b = some o → h'.get? b = some o) : Here w t c m led h' := by
  obtain ⟨oL, es, ep, hL, r⟩ := H.F.ns
  exact ⟨H.B, H.X, H.T, ⟨⟨oL, es, ep, hk _ _ hL, r⟩, fun b o e => hk b o (H.F.keep b o e), H.F.above⟩, fun p hp => ⟨hk _ _ (H.N p hp).1, (H.N p hp).2⟩, H.K, fun p hp => ⟨hk _ _ (H.Z p hp).1, (H.Z p hp).2⟩, H.D⟩

/- a made thing is laid aside: nothing of what follows turns it -/
theorem Here.freeze (H : Here w t c m ((a, o) :: led) h) (hn : ∀ q ∈ led, q.1 ≠ a) : Here w t (c.wz ((a, o) :: c.fz)) m led h := by
  refine ⟨H.B, H.X, H.T, H.F, fun p hp => H.N p (.tail _ hp), H.K, ?_, ?_⟩
  · intro p hp
    rcases List.mem_cons.mp hp with rfl | hp
    · exact H.N _ (.head _)
    · exact H.Z p hp
  · intro p hp q hq
    rcases List.mem_cons.mp hp with rfl | hp
    · exact Ne.symm (hn q hq)
    · exact H.D p hp q (.tail _ hq)
theorem Here.thaw {a : Addr} {o : Obj} {fz : List (Addr × Obj)} (hfz : ∀ p ∈ fz, p.1 ≠ a) (H : Here w t (c.wz ((a, o) :: fz)) m led h) : Here w t (c.wz fz) m ((a, o) :: led) h := by
  refine ⟨H.B, H.X, H.T, H.F, ?_, H.K, fun p hp => H.Z p (.tail _ hp), ?_⟩
  · intro p hp
    rcases List.mem_cons.mp hp with rfl | hp
    · exact H.Z _ (.head _)
    · exact H.N p hp
  · intro p hp q hq
    rcases List.mem_cons.mp hq with rfl | hq
    · exact hfz p hp
    · exact H.D p (.tail _ hp) q hq
/- a frozen thing turns -/
theorem Here.updZ {a : Addr} {o o' : Obj} {fz : List (Addr × Obj)} (hfz : ∀ p ∈ fz, p.1 ≠ a) (H : Here w t (c.wz ((a, o) :: fz)) m led h) (hs : Heap.SameBut a h h') (ho : h'.get? a = some o') : Here w t (c.wz ((a, o') :: fz)) m led h' := by
  have hm := H.Z _ (.head _)
  have hm : h.get? a = some o ∧ a ≠ c.L ∧ c.h₀.get? a = none := hm
  refine ⟨H.B, H.X, H.T, ⟨H.F.ns.sameBut hs (Ne.symm hm.2.1), fun b ob e => (hs.2 b fun q => ?_).trans (H.F.keep b ob e), H.F.above⟩, ?_, H.K, ?_, ?_⟩
  · rw [q] at e
    have e : c.h₀.get? a = some ob := e
    rw [hm.2.2] at e; cases e
  · intro p hp
    exact ⟨(hs.2 _ (Ne.symm (H.D _ (.head _) p hp))).trans (H.N p hp).1, (H.N p hp).2⟩
  · intro p hp
    rcases List.mem_cons.mp hp with rfl | hp
    · exact ⟨ho, hm.2⟩
    · exact ⟨(hs.2 _ (hfz p hp)).trans (H.Z p (.tail _ hp)).1, (H.Z p (.tail _ hp)).2⟩
  · intro p hp q hq
    rcases List.mem_cons.mp hp with rfl | hp
    · exact H.D _ (.head _) q hq
    · exact H.D p (.tail _ hp) q hq
-- names
theorem h_loc {x : Str} {pos : Pos} {v : Value} {Q : Value → Shared → Prop} {env : Env} {tk : Nat} (H : Here w t c m led h) (hv : m x = some v) (hq : Q v (sh s h tk)) (he : env = c.env := by rfl) (hx : env.kindOf x = some .local := by rfl)
    (hd : (x == ("__debug__" : Str)) = false := by decide) : wpAny M A (eval (.Name x pos) env) Q E (sh s h tk) := by
  subst he; exact wpAny_Name (wpAny_loadName_local (s := sh s h tk) H.K hx H.F.ns hv hq) hd
theorem h_glob {x : Str} {pos : Pos} {v : Value} {Q : Value → Shared → Prop} {env : Env} {tk : Nat} (H : Here w t c m led h) (e : nsIn (Mine.hd.heap_39 w.params) mainGlobals x = some (some v)) (hq : Q v (sh s h tk)) (he : env = c.env := by rfl) (hx : env.kindOf x = some .globalImplicit := by rfl)
    (hd : (x == ("__debug__" : Str)) = false := by decide) : wpAny M A (eval (.Name x pos) env) Q E (sh s h tk) := by
  subst he; exact nameX_K (s := sh s h tk) H.F H.X (topRead_of H.T) e hq H.K hx hd
theorem h_boot {x : Str} {pos : Pos} {v : Value} {Q : Value → Shared → Prop} {env : Env} {tk : Nat} (H : Here w t c m led h) (e : nsIn (Mine.hd.heap_39 w.params) mainGlobals x = some none) (hv : bootBuiltins x = some v) (hq : Q v (sh s h tk)) (hn : x ≠ "__name__" := by decide)
    (he : env = c.env := by rfl) (hx : env.kindOf x = some .globalImplicit := by rfl) (hd : (x == ("__debug__" : Str)) = false := by decide) : wpAny M A (eval (.Name x pos) env) Q E (sh s h tk) := by
  subst he; exact nameX_B (s := sh s h tk) H.F H.X (topRead_of H.T) e hv hn hq H.K hx hd
theorem h_store {x : Str} {v : Value} {Q : Unit → Shared → Prop} {env : Env} {tk : Nat} (H : Here w t c m led h) (hq : ∀ h' tk', Here w t c (mset m x v) led h' → Q () (sh s h' tk'))
    (he : env = c.env := by rfl) (hx : env.kindOf x = some .local := by rfl) : wpAny M A (storeName env x v) Q E (sh s h tk) := by
  subst he
  exact wpAny_storeName_local (s := sh s h tk) hx H.F.ns (fun h' hn hs => hq h' (tk + 1) (H.store hn hs)) (by show (c.cs.kind == .class || (c.cs.kind == .module && c.L != mainGlobals)) = false; rw [H.K]; rfl)
theorem h_int {i : Int} {k : Nat} {pos : Pos} {Q : Value → Shared → Prop} {env : Env} {tk : Nat} (hq : ∀ u tk', Q (.int i u) (sh s h tk')) : wpAny M A (eval (.Constant (.int i) k pos) env) Q E (sh s h tk) :=
  wpAny_Constant_int (s := sh s h tk) (hq tk (tk + 1))

-- a new list
theorem h_newList {vs : List Value} {Q : Value → Shared → Prop} {tk : Nat} (H : Here w t c m led h) (hsz : vs.length ≤ sizeLine) (hq : ∀ a h', (∀ q ∈ led, q.1 < a) → (∀ q ∈ c.fz, q.1 < a) → Here w t c m ((a, lObj vs 0) :: led) h' → Q (.ref a) (sh s h' tk)) :
    wpAny M A (newList vs) Q E (sh s h tk) :=
  wpAny_newObj_type (s := sh s h tk) (hq _ _ (fun q hq => Heap.lt_size (H.N q hq).1) (fun q hq => Heap.lt_size (H.Z q hq).1) (H.push _)) (by show vs.toArray.size ≤ sizeLine; rw [List.size_toArray]; exact hsz)

end
end Mine
end

-- part C1
section
open PySem PySem.W PyProof.Rows PySem.Spec
set_option linter.unusedSectionVars false
set_option linter.unusedVariables false
set_option maxRecDepth 100000
namespace Mine
section
variable {prog : Program} {M : Model} {w : World} {t : Tp} {c : Cx} {m : Str → Option Value} {led : List (Addr × Obj)} {E : Value → Shared → Prop} {s : Shared} {h h' : Heap} {A : Around}

theorem Here.extBut {a : Addr} {o : Obj} {fz : List (Addr × Obj)} (hfz : ∀ p ∈ fz, p.1 ≠ a) (H : Here w t (c.wz ((a, o) :: fz)) m led h) (hs : Heap.ExtBut a h h') : Here w t (c.wz fz) m led h' := by
  have hm : h.get? a = some o ∧ a ≠ c.L ∧ c.h₀.get? a = none := H.Z _ (.head _)
  obtain ⟨oL, es, ep, hL, r⟩ := H.F.ns
  refine ⟨H.B, H.X, H.T, ⟨⟨oL, es, ep, hs _ _ (Ne.symm hm.2.1) hL, r⟩, fun b ob e => hs b ob (fun q => ?_) (H.F.keep b ob e), H.F.above⟩, ?_, H.K, ?_, fun p hp => H.D p (.tail _ hp)⟩
  · rw [q] at e
    have e : c.h₀.get? a = some ob := e
    rw [hm.2.2] at e; cases e
  · intro p hp
    exact ⟨hs _ _ (Ne.symm (H.D _ (.head _) p hp)) (H.N p hp).1, (H.N p hp).2⟩
  · intro p hp
    exact ⟨hs _ _ (hfz p hp) (H.Z p (.tail _ hp)).1, (H.Z p (.tail _ hp)).2⟩

/- a def of the text is entered -/
theorem h_enter {f : Addr} {name qual : Str} {params : Arguments} {body : List Stmt} {scope : Scope} {dV kV doc pm cdv ct oc : Value} {an od : Option Addr} {osl : Array (Option Value)} {args : List Value} {binds : List (Str × Value)} {Q : Value → Shared → Prop} {tk : Nat}
    (H : Here w t c m led h) (ho : (Mine.hd.heap_39 w.params).lookup f = some ⟨oc, od, .func (fnOf name qual params body scope dV kV doc pm an cdv ct), osl⟩)
    (hcd : codeIn (Mine.hd.heap_39 w.params) cdv qual = true) (hroom : c.dp < recursionLimit)
    (hbind : BindsTo (sh s h tk) (fnOf name qual params body scope dV kV doc pm an cdv ct) ⟨args, []⟩ binds) (hloc : ∀ y ∈ binds, scope.names.lookup y.1 = some .local)
    (hq : ∀ g L' h' m' tk', m' = (fun y => binds.reverse.lookup y) → (∀ b o, h.get? b = some o → b ∉ led.map (·.1) → g.get? b = some o) → Here w t (c.sub qual scope f cdv [] g L') m' led h' →
      ∀ Rq : Flow → Shared → Prop, (∀ fl m'' led'' h'' tk'', Here w t (c.sub qual scope f cdv [] g L') m'' led'' h'' → (Here w t c m led'' h'' → Q (flowVal fl) (sh s h'' tk'')) → Rq fl (sh s h'' tk'')) →
      wpAny (model prog w) (c.sub qual scope f cdv [] g L').A (execs body (c.sub qual scope f cdv [] g L').env) Rq NoE (sh s h' tk'))
    (hco : scope.isCoroutine = false := by rfl) (hgen : scope.isGenerator = false := by rfl) (hk : scope.kind = .function := by rfl) (hcell : ∀ x ∈ scope.names, x.2 ≠ .cell := by decide) (hA : A = c.A := by rfl) :
    wpAny (model prog w) A (call (.ref f) args) Q E (sh s h tk) := by
  subst hA
  refine wpAny_call (code_defG (s := sh s h tk) (args := ⟨args, []⟩) H.B H.F H.X H.N H.T rfl rfl H.K ho hcd hroom hbind hloc ?_ hco hgen hk hcell)
  intro g L' h' FG F' N' B' X' T' G'
  have hZ : ∀ p ∈ c.fz, g.get? p.1 = some p.2 := fun p hp => G' _ _ (H.Z p hp).1 fun hm => by
    obtain ⟨q, hq, e⟩ := List.mem_map.mp hm
    exact H.D p hp q hq e.symm
  refine wpAny_mono (hq g L' h' _ (tk + binds.length) rfl G' ⟨B', X', T', F', N', hk, fun p hp => (by cases hp), fun p hp => (by cases hp)⟩ (EndIn w t _ c m s Q) fun _ _ _ _ _ H k => ⟨_, _, _, _, rfl, H, k⟩) (fun fl s' hl => ?_) fun _ _ x => x.elim
  obtain ⟨m'', led'', h'', tk'', rfl, H'', k⟩ := hl
  refine ⟨L', m'', led'', H''.F, H''.N, fun FL NL => ?_⟩
  have k' : Q (flowVal fl) (sh s h'' tk'') := k ⟨H.B, H.X, H.T, FL, NL, H.K, fun p hp => ⟨H''.F.keep _ _ (hZ p hp), (H.Z p hp).2⟩, fun p hp q hq e => by
    have h1 : g.get? q.1 = none := (H''.N q hq).2.2
    rw [← e, hZ p hp] at h1; cases h1⟩
  cases fl <;> exact k'

/- a loop over a list that stays as it is -/
theorem h_forList {x : Str} {px : Pos} {body : List Stmt} {l : Addr} {vs : List Value} {Q : Flow → Shared → Prop} {env : Env} {tk : Nat} (I : Nat → (Str → Option Value) → List (Addr × Obj) → Prop)
    (H : Here w t c m led h) (init : I 0 m led) (hin : ∀ i m₁ led₁ fz h, (∀ p ∈ c.fz, p ∈ fz) → I i m₁ led₁ → Here w t (c.wz fz) m₁ led₁ h → ∃ ep, h.get? l = some (lObj vs ep))
    (turn : ∀ i v m₁ led₁ h tk fz (Rz : Flow → Shared → Prop) (hRz : ∀ m₂ led₂ h₂ tk₂, Here w t (c.wz fz) m₂ led₂ h₂ → I (i + 1) m₂ led₂ → Rz .next (sh s h₂ tk₂)), vs[i]? = some v → (∀ p ∈ c.fz, p ∈ fz) → I i m₁ led₁ → Here w t (c.wz fz) (mset m₁ x v) led₁ h →
      wpAny (model prog w) A (execs body env) Rz NoE (sh s h tk))
    (done : ∀ m₁ led₁ h tk, I vs.length m₁ led₁ → Here w t c m₁ led₁ h → Q .next (sh s h tk)) (hA : A = c.A := by rfl) (he : env = c.env := by rfl) (hx : env.kindOf x = some .local := by rfl) :
    wpAny (model prog w) A (pyIter (.ref l)) (fun it s₂ => codeAny (model prog w) A (.forLoop (.Name x px) it body [] env)
      (fun r s' => match r with | .ok f => Q f s' | .error e => cameBackBy (model prog w) A env E e s') s₂) E (sh s h tk) := by
  subst hA he
  obtain ⟨ep, hl⟩ := hin 0 m led c.fz h (fun _ h => h) init H
  have hls : h.IsList l vs.toArray := ⟨_, hl, rfl, ep, rfl⟩
  refine wpAny_pyIter_list (s := sh s h tk) hls ?_
  let J : Nat → Shared → Prop := fun k s' => Ex5 fun i m₁ led₁ h₁ tk => k = vs.length + 1 - i ∧ i ≤ vs.length ∧ s' = sh s h₁ tk ∧ I i m₁ led₁ ∧ ∃ o, o.cls = .type "list_iterator" ∧ o.data = .fields #[.ref l, .int i 0] ∧ Here w t (c.wz ((h.objs.size, o) :: c.fz)) m₁ led₁ h₁
  have hfz : ∀ p ∈ c.fz, p.1 ≠ h.objs.size := fun p hp => Nat.ne_of_lt (Heap.lt_size (H.Z p hp).1)
  refine codeAny_forLoop J ?_ (vs.length + 1) ⟨0, m, led, _, tk, rfl, Nat.zero_le _, rfl, init, itObj l 0, rfl, rfl, ?_⟩
  · rintro k s' ⟨i, m₁, led₁, h₁, tk, rfl, hi, rfl, hI, o₁, hc₁, hd₁, H₁⟩
    have hit : h₁.IsListIter h.objs.size l i := ⟨_, (H₁.Z _ (.head _)).1, hc₁, hd₁⟩
    have hl₁ : h₁.IsList l vs.toArray := by
      obtain ⟨ep₁, hl₁⟩ := hin i m₁ led₁ _ h₁ (fun p hp => List.mem_cons_of_mem _ hp) hI H₁
      exact ⟨_, hl₁, rfl, ep₁, rfl⟩
    rcases Nat.lt_or_eq_of_le hi with hlt | rfl
    · have hv : vs[i]? = some vs[i] := by simp [hlt]
      refine wpAny_pyNext_list_item (s := sh s h₁ tk) hit hl₁ (by rw [List.getElem?_toArray]; exact hv) fun h₂ hit₂ hs₂ => ?_
      obtain ⟨o₂, ho₂, hc₂, hd₂⟩ := hit₂
      have H₂ : Here w t (c.wz ((h.objs.size, o₂) :: c.fz)) m₁ led₁ h₂ := H₁.updZ hfz hs₂ ho₂
      refine wpAny_assign_Name (wpAny_storeName_local (s := sh s h₂ tk) hx H₂.F.ns (fun h₃ hn₃ hs₃ => ?_) (by show (c.cs.kind == .class || (c.cs.kind == .module && c.L != mainGlobals)) = false; rw [H.K]; rfl))
      refine noE (wpAny_mono (turn i vs[i] m₁ led₁ h₃ (tk + 1) _ (TurnP w t _ s (I (i + 1))) (fun _ _ _ _ H hI => ⟨rfl, _, _, _, _, rfl, H, hI⟩) hv (fun p hp => List.mem_cons_of_mem _ hp) hI (H₂.store hn₃ hs₃)) ?_ fun _ _ x => x)
      rintro f s' ⟨rfl, m₂, led₂, h₄, tk₄, rfl, H₄, hI₄⟩
      exact ⟨vs.length + 1 - (i + 1), loopDec hlt, i + 1, m₂, led₂, h₄, tk₄, rfl, hlt, rfl, hI₄, o₂, hc₂, hd₂, H₄⟩
    · refine wpAny_pyNext_list_end (s := sh s h₁ tk) rfl hit hl₁ (by simp) fun h₂ hs₂ => ?_
      exact wpAny_execs_nil (done m₁ led₁ h₂ tk hI (H₁.extBut hfz hs₂))
  · have := (H.push (itObj l 0)).freeze fun q hq => Nat.ne_of_lt (Heap.lt_size (H.N q hq).1)
    exact this

theorem h_append {o e : Expr} {apos pos pos' : Pos} {pl : Sem Bool} {env : Env} {Q : Flow → Shared → Prop} {s₀ : Shared}
    (hq : wpAny (model prog w) A (eval o env) (fun ov s₁ => Ex3 fun a vs ep => ov = .ref a ∧ s₁.heap.get? a = some (lObj vs ep) ∧
      wpAny (model prog w) A (eval e env) (AppP w t s a Q) E s₁) E s₀)
    (he : eval (.Call (.Attribute o (Str.ofString "append") apos) [e] [] pos) env = (do
      let ov ← eval o env
      standAt apos.atName
      let (f, first) ← holding [ov] (getMethod ov (Str.ofString "append") pl)
      callWith pos f first (backTo pos (starEach [e] env)) []) := by rfl)
    (hs : starEach [e] env = (false, eval e env) :: starEach [] env := by rfl) (hi : interactive env = false := by rfl) :
    wpAny (model prog w) A (exec (.Expr (.Call (.Attribute o (Str.ofString "append") apos) [e] [] pos) pos') env) Q E s₀ := by
  refine wpAny_Expr (MethodCall_ (pl := pl) (wpAny_mono hq ?_ fun _ _ x => x) he) hi
  rintro ov s₁ ⟨a, vs, ep, rfl, ho, h₁⟩
  refine Calls.getMethod_list_append ho rfl rfl ?_
  refine callWith_method1 (spliced_more (wpAny_mono h₁ ?_ fun _ _ x => x) hs) hs
  rintro v s₂ ⟨c, m₂, led₂, h₂, tk₂, vs₂, ep₂, rfl, H₂, hm₂, hsz, k⟩
  refine spliced_none ?_
  refine append_at (s := sh s h₂ tk₂) (H₂.get hm₂) (fun h' hs' ho' => ?_) (by have : sizeLine = 16777216 := rfl
                                                                              simp; lia)
  have e : (vs₂.toArray.push v) = (vs₂ ++ [v]).toArray := by simp
  rw [e] at ho'
  exact k h' tk₂ (H₂.upd hm₂ hs' ho')

def vint : Value → Option Int
  | .int i _ => some i
  | _ => none
/- the values are these ints -/
def Ints (vs : List Value) (ns : List Int) : Prop := vs.map vint = ns.map some
theorem Ints.length {vs : List Value} {ns : List Int} (h : Ints vs ns) : vs.length = ns.length := by
  have := congrArg List.length h; simpa using this
theorem Ints.nil : Ints [] [] := rfl
theorem Ints.snoc {vs : List Value} {ns : List Int} (h : Ints vs ns) (n : Int) (t : Tok) : Ints (vs ++ [.int n t]) (ns ++ [n]) := by
  unfold Ints at h ⊢; simp [h, vint]
theorem Ints.append {vs us : List Value} {ns ms : List Int} (h : Ints vs ns) (h' : Ints us ms) : Ints (vs ++ us) (ns ++ ms) := by
  unfold Ints at h h' ⊢; simp [h, h']
theorem Ints.at {vs : List Value} {ns : List Int} (h : Ints vs ns) {i : Nat} {v : Value} (hv : vs[i]? = some v) : ∃ n t, v = .int n t ∧ ns[i]? = some n := by
  have e : (vs.map vint)[i]? = (ns.map some)[i]? := by rw [h]
  rw [List.getElem?_map, hv, List.getElem?_map] at e
  cases hn : ns[i]? with
  | none => rw [hn] at e; cases e
  | some n =>
    rw [hn] at e
    have e : vint v = some n := by simpa using e
    cases v <;> simp [vint] at e
    subst e; exact ⟨_, _, rfl, rfl⟩
theorem Ints.mem {vs : List Value} {ns : List Int} (h : Ints vs ns) {v : Value} (hv : v ∈ vs) : ∃ n t, v = .int n t ∧ n ∈ ns := by
  obtain ⟨i, hi⟩ := List.mem_iff_getElem?.mp hv
  obtain ⟨n, t, e, hn⟩ := h.at hi
  exact ⟨n, t, e, List.mem_of_getElem? hn⟩
theorem Ints.any {vs : List Value} {ns : List Int} (h : Ints vs ns) (k : Int) : (vs.any fun y => vint y == some k) = decide (k ∈ ns) := by
  rw [show (vs.any fun y => vint y == some k) = (vs.map vint).any (· == some k) by rw [List.any_map]; rfl, h]
  rw [Bool.eq_iff_iff]
  simp

theorem h_notin_ints {a : Addr} {vs : List Value} {ns : List Int} {ep : Nat} {k : Int} {tk : Tok} {Q : Value → Shared → Prop} {tk' : Nat} (ho : h.get? a = some (lObj vs ep)) (hi : Ints vs ns) (hq : Q (.bool (!decide (k ∈ ns))) (sh s h tk')) :
    wpAny (model prog w) A (compareOp .NotIn (.int k tk) (.ref a)) Q E (sh s h tk') := by
  refine SeqAt.notIn_listAt (s := sh s h tk') (fun y => vint y == some k) ⟨_, ho, rfl, ep, rfl⟩ (fun y hy => ?_) (by simpa [hi.any k] using hq)
  obtain ⟨n, t', rfl, _⟩ := hi.mem (by simpa using hy)
  have e : (vint (.int n t') == some k) = (n == k) := by rw [Bool.eq_iff_iff]; simp [vint]
  rw [e]; exact SeqAt.EqAt.int_int _ _ _ _
end
end Mine
end

-- part C2
section
open PySem PySem.W PyProof.Rows PySem.Spec
set_option linter.unusedSectionVars false
set_option linter.unusedVariables false
set_option maxRecDepth 100000
namespace Mine
section
variable {prog : Program} {M : Model} {w : World} {t : Tp} {c : Cx} {m : Str → Option Value} {led : List (Addr × Obj)} {E : Value → Shared → Prop} {s : Shared} {h h' : Heap} {A : Around}

theorem once_ok {aw : Addr} {ws : List Value} {ep : Nat} {ns : List Int} {Q : Value → Shared → Prop} {tk : Nat} (H : Here w t c m led h) (hw : (aw, lObj ws ep) ∈ led) (hi : Ints ws ns) (hlen : ws.length ≤ 100000)
    (hd : c.dp + 1 < recursionLimit)
    (hQ : ∀ a us ep' h' tk, (∀ q ∈ led, q.1 < a) → Ints us (G.once ns) → us.length ≤ ws.length → Here w t c m ((a, lObj us ep') :: led) h' → Q (.ref a) (sh s h' tk)) (hA : A = c.A := by rfl) :
    wpAny (model prog w) A (call (.ref 54) [.ref aw]) Q E (sh s h tk) := by
  subst hA
  refine h_enter H rfl rfl (by lia) (BindsTo.of_eq rfl) (locs rfl) ?_
  intro g L' h' m' tk' hm G Hc Rq hRq
  have hwm : m' (Str.ofString "words") = some (.ref aw) := by rw [hm]; rfl
  clear hm G
  refine wpAny_execs_cons (wpAny_Assign_Name (List_ (spliced_none (h_newList Hc (by decide) fun a h1 hlt hfz H1 => h_store H1 fun h2 tk2 H2 => ?_))))
  have hne : ∀ q ∈ led, q.1 ≠ a := fun q hq => Nat.ne_of_lt (hlt q hq)
  refine wpAny_execs_cons (wpAny_For (h_loc H2 (v := .ref aw) hwm (h_forList (vs := ws)
    (fun i m₁ led₁ => m₁ (Str.ofString "once") = some (.ref a) ∧ ∃ us ep', Ints us (G.once (ns.take i)) ∧ us.length ≤ i ∧ led₁ = (a, lObj us ep') :: led) H2 ⟨rfl, [], 0, rfl, Nat.le_refl _, rfl⟩ ?_ ?_ ?_)))
  · rintro i m₁ led₁ fz h _ ⟨_, us, ep', _, _, rfl⟩ H₃; exact ⟨ep, H₃.get (.tail _ hw)⟩
  · rintro i v m₁ led₁ h tk fz Rz hRz hv hfs ⟨hon, us, ep', hus, hul, rfl⟩ H₃
    obtain ⟨n, tn, rfl, hn⟩ := hi.at hv
    have htake : ns.take (i + 1) = ns.take i ++ [n] := by rw [List.take_add_one, hn]; rfl
    have hil : i < ws.length := (List.getElem?_eq_some_iff.mp hv).1
    refine wpAny_execs_cons (wpAny_If (wpAny_isTrue_Compare1 (h_loc H₃ (v := .int n tn) rfl (h_loc H₃ (v := .ref a) hon (h_notin_ints (H₃.get (.head _)) hus (wpAny_truthy_bool ?_))))))
    by_cases hmem : n ∈ G.once (ns.take i)
    · rw [decide_eq_true hmem]
      refine wpAny_execs_nil (wpAny_execs_nil (hRz _ _ h tk H₃ ⟨hon, us, ep', ?_, by lia, rfl⟩))
      rw [htake, G.once_append, G.mrg_cons, if_pos hmem]; exact hus
    · rw [decide_eq_false hmem]
      refine wpAny_execs_cons (h_append (w := w) (t := t) (h_loc H₃ (v := .ref a) hon ⟨a, us, ep', rfl, H₃.get (.head _), h_loc H₃ (v := .int n tn) rfl ⟨_, _, _, h, tk, us, ep', rfl, H₃, .head _, by lia, fun h₄ tk₄ H₄ => ?_⟩⟩))
      refine wpAny_execs_nil (wpAny_execs_nil (hRz _ _ h₄ tk₄ H₄ ⟨hon, us ++ [.int n tn], ep' + 1, ?_, by simp; lia, ?_⟩))
      · rw [htake, G.once_append, G.mrg_cons, if_neg hmem]; exact hus.snoc n tn
      · unfold lput
        rw [List.map_cons, if_pos rfl]
        congr 1
        conv => rhs; rw [← List.map_id led]
        apply List.map_congr_left
        intro q hq; rw [if_neg (hne q hq)]; rfl
  · rintro m₁ led₁ h tk ⟨hon, us, ep', hus, hul, rfl⟩ H₃
    rw [List.take_of_length_le (Nat.le_of_eq hi.length.symm)] at hus
    refine wpAny_execs_cons (wpAny_Return_some (h_loc H₃ (v := .ref a) hon (hRq _ _ _ h tk H₃ fun H₄ => hQ a us ep' h tk hlt hus hul H₄)))
end
end Mine
end

-- part C3
section
open PySem PySem.W PyProof.Rows PySem.Spec
set_option linter.unusedSectionVars false
set_option linter.unusedVariables false
set_option maxRecDepth 100000
namespace Mine

/- what stands still: laid aside, or below the call -/
def St (c : Cx) (sl : List (Addr × Obj)) : Prop := ∀ p ∈ sl, p ∈ c.fz ∨ c.h₀.get? p.1 = some p.2
/- the names as they lie -/
def NamesOk (kd : Nat) (nv : Nat → Value) (n : Nat) (sl : List (Addr × Obj)) : Prop := ∀ k, k < n →
  ((k + kd) % 3 = 0 ∧ ∃ t, nv k = .int k t) ∨ ((k + kd) % 3 = 1 ∧ ∃ t, nv k = .str (letter k) t) ∨ ((k + kd) % 3 = 2 ∧ Ex4 fun a t t' e => nv k = .ref a ∧ (a, tupObj k t t' e) ∈ sl)
/- a dict by names, at hand -/
structure DAt (w : World) (kd : Nat) (nv : Nat → Value) (n : Nat) (h : Heap) (d : Addr) (es : List (Nat × Value)) : Prop where
  nm : ∀ k, k < n → NameIs kd h k (nv k)
  nd : (es.map (·.1)).Nodup
  lt : ∀ p ∈ es, p.1 < n
  at_ : ∃ ep, h.get? d = some (dObj w kd nv es ep)

inductive ItemP (w : World) (kd n : Nat) (nv : Nat → Value) (s : Shared) (Q : Value → Shared → Prop) (ov iv : Value) (s₂ : Shared)  : Prop
  | mk : ∀ h₂ tk₂ d k es v, (s₂ = sh s h₂ tk₂) → (ov = .ref d) → (iv = nv k) → (k < n) → (DAt w kd nv n h₂ d es) → (dget es k = some v) → (∀ tk, Q v (sh s h₂ tk)) → ItemP w kd n nv s Q ov iv s₂
inductive SetP (w : World) (t : Tp) (kd n : Nat) (nv : Nat → Value) (s : Shared) (Q : Flow → Shared → Prop) (v ov iv : Value) (s₃ : Shared)  : Prop
  | mk : ∀ h₃ tk₃ c m led d k es ep, (s₃ = sh s h₃ tk₃) → (ov = .ref d) → (iv = nv k) → (k < n) → (Here w t c m led h₃) → ((d, dObj w kd nv es ep) ∈ led) → (DAt w kd nv n h₃ d es) → (es.length ≤ 1000) → (∀ h' tk ep', Here w t c m (lput led d (dObj w kd nv (dput es k v) ep')) h' → Q .next (sh s h' tk)) → SetP w t kd n nv s Q v ov iv s₃

section
variable {prog : Program} {M : Model} {w : World} {t : Tp} {c : Cx} {m : Str → Option Value} {led sl : List (Addr × Obj)} {E : Value → Shared → Prop} {s : Shared} {h h' : Heap} {A : Around} {kd n : Nat} {nv : Nat → Value}

theorem St.get (S : St c sl) (H : Here w t c m led h) {a : Addr} {o : Obj} (hp : (a, o) ∈ sl) : h.get? a = some o := by
  rcases S _ hp with h1 | h1
  · exact (H.Z _ h1).1
  · exact H.F.keep _ _ h1
theorem St.off (S : St c sl) (H : Here w t c m led h) {p q : Addr × Obj} (hp : p ∈ sl) (hq : q ∈ led) : p.1 ≠ q.1 := by
  rcases S _ hp with h1 | h1
  · exact H.D p h1 q hq
  · intro e; rw [e, (H.N q hq).2.2] at h1; cases h1
theorem St.sub (S : St c sl) (H : Here w t c m led h) {g : Heap} (G : ∀ b o, h.get? b = some o → b ∉ led.map (·.1) → g.get? b = some o) {qual : Str} {scope : Scope} {f : Addr} {cdv : Value} {cl : List (Str × Addr)} {L' : Addr} :
    St (c.sub qual scope f cdv cl g L') sl := fun p hp => .inr (G _ _ (S.get H hp) fun hm => by
      obtain ⟨q, hq, e⟩ := List.mem_map.mp hm
      exact S.off H hp hq e.symm)
theorem St.wz (S : St c sl) {fz : List (Addr × Obj)} (hf : ∀ p ∈ c.fz, p ∈ fz) : St (c.wz fz) sl := fun p hp => (S p hp).imp (hf p) id
theorem NamesOk.at (NO : NamesOk kd nv n sl) (S : St c sl) (H : Here w t c m led h) : ∀ k, k < n → NameIs kd h k (nv k) := by
  intro k hk
  rcases NO k hk with h1 | h1 | ⟨h1, a, t, t', e, h2, h3⟩
  · exact .inl h1
  · exact .inr (.inl h1)
  · exact .inr (.inr ⟨h1, a, t, t', e, h2, S.get H h3⟩)

theorem nv_inj (hn : ∀ k, k < n → NameIs kd h k (nv k)) {i j : Nat} (hi : i < n) (hj : j < n) (e : nv i = nv j) : i = j := by
  have h1 := hn i hi; have h2 := hn j hj
  rw [e] at h1; exact h1.inj h2

/- item of a dict by a name -/
theorem h_item {eo ei : Expr} {pos : Pos} {env : Env} {Q : Value → Shared → Prop} {s₀ : Shared} (hu : A.units + 1 < cLine)
    (hq : wpAny (model prog w) A (eval eo env) (fun ov s₁ => wpAny (model prog w) A (eval ei env) (ItemP w kd n nv s Q ov) E s₁) E s₀)
    (hs : ∀ o i, subscripted ei false o i = operate [o, i] (getItem o i) := by intro _ _; with_unfolding_all rfl) :
    wpAny (model prog w) A (eval (.Subscript eo ei pos) env) Q E s₀ := by
  refine Subscript_ (wpAny_mono hq (fun ov s₁ h₁ => wpAny_mono h₁ ?_ fun _ _ x => x) fun _ _ x => x)
  rintro iv s₂ ⟨h₂, tk₂, d, k, es, v, rfl, rfl, rfl, hk, D, hv, hq⟩
  obtain ⟨ep, ho⟩ := D.at_
  exact tail_any (s := sh s h₂ tk₂) (dObj_typeIs ho) slot_dict_getitem.lookup (getItem_names (s := sh s h₂ tk₂) hu (fun p hp => D.nm _ (D.lt p hp)) (D.nm k hk) D.nd ho hv hq) (hs _ _)

/- store into a dict by a name -/
theorem h_setitem {eo ei value : Expr} {pos pos' : Pos} {env : Env} {Q : Flow → Shared → Prop} {s₀ : Shared} (hu : A.units + 1 < cLine)
    (hq : wpAny (model prog w) A (eval value env) (fun v s₁ => wpAny (model prog w) A (eval eo env) (fun ov s₂ => wpAny (model prog w) A (eval ei env) (SetP w t kd n nv s Q v ov) E s₂) E s₁) E s₀)
    (hs : swapsWith value (some (.Subscript eo ei pos')) pos.line env = pure false := by rfl) :
    wpAny (model prog w) A (exec (.Assign [.Subscript eo ei pos'] value pos) env) Q E s₀ := by
  refine wpAny_Assign_Subscript (wpAny_mono hq (fun v s₁ h₁ => wpAny_mono h₁ (fun ov s₂ h₂ => wpAny_mono h₂ ?_ fun _ _ x => x) fun _ _ x => x) fun _ _ x => x) hs
  rintro iv s₃ ⟨h₃, tk₃, c, m, led, d, k, es, ep, rfl, rfl, rfl, hk, H, hd, D, hsz, hq⟩
  have hz : es.length ≤ sizeLine := by have : sizeLine = 16777216 := rfl; lia
  exact setItem_names (s := sh s h₃ tk₃) hu (fun p hp => D.nm _ (D.lt p hp)) (D.nm k hk) D.nd (H.get hd) hz fun h' tk ep' ho' hs' => hq h' tk ep' (H.upd hd hs' ho')

/- x in a list of names -/
theorem any_names {is : List Nat} {k : Nat} (hn : ∀ k, k < n → NameIs kd h k (nv k)) (hk : k < n) (his : ∀ i ∈ is, i < n) : ((is.map nv).toArray.any fun y => decide (y = nv k)) = decide (k ∈ is) := by
  rw [List.any_toArray, Bool.eq_iff_iff]
  simp only [List.any_map, List.any_eq_true, Function.comp_apply, decide_eq_true_eq]
  constructor
  · rintro ⟨i, hi, e⟩; rw [← nv_inj hn (his i hi) hk e]; exact hi
  · intro h; exact ⟨k, h, rfl⟩
theorem eq_names {is : List Nat} {k : Nat} (hu : A.units + 1 < cLine) (hn : ∀ k, k < n → NameIs kd s.heap k (nv k)) (hk : k < n) (his : ∀ i ∈ is, i < n) :
    ∀ y, y ∈ (is.map nv).toArray → SeqAt.EqAt A.in1 s y (nv k) (decide (y = nv k)) := by
  intro y hy
  obtain ⟨i, hi, rfl⟩ : ∃ i ∈ is, nv i = y := by simpa using hy
  have e : decide (nv i = nv k) = decide (i = k) := by
    rw [decide_eq_decide]; exact ⟨nv_inj hn (his i hi) hk, fun h => by rw [h]⟩
  rw [e]
  exact name_eqAt (A := A.in1) hu (hn i (his i hi)) (hn k hk)
theorem h_notin_names {a : Addr} {is : List Nat} {ep k tk : Nat} {Q : Value → Shared → Prop} (hu : A.units + 1 < cLine) (hn : ∀ k, k < n → NameIs kd h k (nv k)) (hk : k < n) (his : ∀ i ∈ is, i < n) (ho : h.get? a = some (lObj (is.map nv) ep))
    (hq : Q (.bool (!decide (k ∈ is))) (sh s h tk)) : wpAny (model prog w) A (compareOp .NotIn (nv k) (.ref a)) Q E (sh s h tk) :=
  SeqAt.notIn_listAt (s := sh s h tk) (fun y => decide (y = nv k)) ⟨_, ho, rfl, ep, rfl⟩ (eq_names (s := sh s h tk) hu hn hk his) (by rw [any_names hn hk his]; exact hq)
theorem h_in_names {a : Addr} {is : List Nat} {ep k tk : Nat} {Q : Value → Shared → Prop} (hu : A.units + 1 < cLine) (hn : ∀ k, k < n → NameIs kd h k (nv k)) (hk : k < n) (his : ∀ i ∈ is, i < n) (ho : h.get? a = some (lObj (is.map nv) ep))
    (hq : Q (.bool (decide (k ∈ is))) (sh s h tk)) : wpAny (model prog w) A (compareOp .In (nv k) (.ref a)) Q E (sh s h tk) :=
  SeqAt.in_listAt (s := sh s h tk) (fun y => decide (y = nv k)) ⟨_, ho, rfl, ep, rfl⟩ (eq_names (s := sh s h tk) hu hn hk his) (by rw [any_names hn hk his]; exact hq)

/- a call of a def of the text by its name -/
theorem h_callArgs {f : Addr} {pos : Pos} {e : Expr} {rest : List Expr} {env : Env} {Q : Value → Shared → Prop} (X : (Mine.hd.heap_39 w.params).In h) (hk : keepIn (Mine.hd.heap_39 w.params) (.ref f) = true)
    (h : wpAny M A (spliced (backTo pos (starEach (e :: rest) env))) (fun vs s₁ => (Mine.hd.heap_39 w.params).In s₁.heap ∧ wpAny M A (call (.ref f) vs) Q E s₁) E s)
    (he : starEach (e :: rest) env = (false, eval e env) :: starEach rest env := by rfl) (hplain : (backTo pos (starEach rest env)).any (·.1) = false := by rfl) :
    wpAny M A (callWith pos (.ref f) [] (backTo pos (starEach (e :: rest) env)) []) Q E s := callWith_K X hk h he hplain
theorem Here.frag (H : Here w t c m led h) : (Mine.hd.heap_39 w.params).In h := H.X.keeps H.F.keep
end
end Mine
end

-- part C4
section
open PySem PySem.W PyProof.Rows PySem.Spec
set_option linter.unusedSectionVars false
set_option linter.unusedVariables false
set_option maxRecDepth 100000
namespace Mine

/- a dict from names to lists, standing still -/
structure LDict (w : World) (kd : Nat) (nv : Nat → Value) (n : Nat) (a : Addr) (es : List (Nat × Value)) (la : Nat → Addr) (vs : Nat → List Value) (ee : Nat → Nat) (sl : List (Addr × Obj)) : Prop where
  obj : ∃ ep, (a, dObj w kd nv es ep) ∈ sl
  nd : (es.map (·.1)).Nodup
  lt : ∀ p ∈ es, p.1 < n
  get : ∀ k, k < n → dget es k = some (.ref (la k))
  lst : ∀ k, k < n → (la k, lObj (vs k) (ee k)) ∈ sl

section
variable {prog : Program} {M : Model} {w : World} {t : Tp} {c : Cx} {m : Str → Option Value} {led sl : List (Addr × Obj)} {Er : Value → Shared → Prop} {s : Shared} {h h' : Heap} {A : Around} {kd n : Nat} {nv : Nat → Value}

theorem LDict.at {a : Addr} {es : List (Nat × Value)} {la : Nat → Addr} {vs : Nat → List Value} {ee : Nat → Nat} (LD : LDict w kd nv n a es la vs ee sl) (NO : NamesOk kd nv n sl) (S : St c sl) (H : Here w t c m led h) : DAt w kd nv n h a es :=
  ⟨NO.at S H, LD.nd, LD.lt, let ⟨ep, he⟩ := LD.obj; ⟨ep, S.get H he⟩⟩

theorem lput_sub {a : Addr} {o : Obj} (h : (a, o) ∈ led) : ∀ p ∈ lput led a o, p ∈ led := fun p hp => by
  rcases lput_mem hp with ⟨q, hq, _, rfl⟩ | ⟨h1, _⟩
  · exact h
  · exact h1
theorem lput_lput (led : List (Addr × Obj)) (a : Addr) (o o' : Obj) : lput (lput led a o) a o' = lput led a o' := by
  unfold lput
  rw [List.map_map]
  apply List.map_congr_left
  intro p _
  by_cases h : p.1 = a <;> simp [h]

theorem nodup_small {l : List Nat} (hnd : l.Nodup) (h : ∀ i ∈ l, i < n) : l.length ≤ n := by
  have := hnd.length_le_of_subset (l₂ := List.range n) (fun x hx => List.mem_range.mpr (h x hx))
  simpa using this

theorem walked_ok {E : Nat → List Nat} {ae : Addr} {es : List (Nat × Value)} {la : Nat → Addr} {ee : Nat → Nat} (NO : NamesOk kd nv n sl) (LD : LDict w kd nv n ae es la (fun k => (E k).map nv) ee sl) (hE : ∀ x, x < n → ∀ y ∈ E x, y < n) (hsm : n ≤ 1000) :
    ∀ (f x : Nat) (met met' : List Nat), G.walked E f x met = some met' → ∀ (c : Cx) (m : Str → Option Value) (led : List (Addr × Obj)) (s : Shared) (h : Heap) (tk : Nat) (Q Er : Value → Shared → Prop) (aM : Addr) (ep : Nat) (A : Around),
      Here w t c m led h → A = c.A → St c sl → x < n → (∀ i ∈ met, i < n) → met.Nodup → (aM, lObj (met.map nv) ep) ∈ led → c.dp + f < recursionLimit → c.un + 8 * f + 70 < cLine →
      (∀ ep' h' tk, Here w t c m (lput led aM (lObj (met'.map nv) ep')) h' → Q (.ref aM) (sh s h' tk)) →
      wpAny (model prog w) A (call (.ref 40) [nv x, .ref ae, .ref aM]) Q Er (sh s h tk) := by
  intro f
  induction f with
  | zero => intro x met met' hw; simp [G.walked] at hw
  | succ f ih =>
    intro x met met' hw c m led s h tk Q Er aM ep A H hA S hx hmet hnd haM hd hu hQ
    subst hA
    refine h_enter H rfl rfl (by lia) (BindsTo.of_eq rfl) (locs rfl) ?_
    intro g L' h' m' tk' hm G0 Hc Rq hRq
    have hX : m' (Str.ofString "x") = some (nv x) := by rw [hm]; rfl
    have hEd : m' (Str.ofString "edges") = some (.ref ae) := by rw [hm]; rfl
    have hMt : m' (Str.ofString "met") = some (.ref aM) := by rw [hm]; rfl
    clear hm
    have hu1 : c.un + 3 + 1 < cLine := by lia
    refine wpAny_execs_cons (wpAny_If (wpAny_isTrue_Compare1 (h_loc Hc hX (h_loc Hc hMt (h_notin_names hu1 (NO.at (S.sub H G0) Hc) hx hmet (Hc.get haM) (wpAny_truthy_bool ?_))))))
    rw [G.walked_succ] at hw
    by_cases hxm : x ∈ met
    · rw [if_pos hxm] at hw
      cases hw
      rw [decide_eq_true hxm]
      refine wpAny_execs_nil (wpAny_execs_cons (wpAny_Return_some (h_loc Hc hMt (hRq _ _ _ h' tk' Hc fun H' => ?_))))
      exact hQ ep _ _ (H'.mono (lput_sub haM))
    · rw [if_neg hxm] at hw
      rw [decide_eq_false hxm]
      have hml := nodup_small hnd hmet
      refine wpAny_execs_cons (h_append (w := w) (t := t) (h_loc Hc hMt ⟨aM, _, ep, rfl, Hc.get haM, h_loc Hc hX ⟨_, _, _, h', tk', met.map nv, ep, rfl, Hc, haM, by simp; lia, fun h1 tk1 H1 => ?_⟩⟩))
      have e0 : met.map nv ++ [nv x] = (met ++ [x]).map nv := by simp
      rw [e0] at H1
      refine wpAny_execs_cons (wpAny_For (h_item hu1 (h_loc H1 hEd (h_loc H1 hX ⟨h1, tk1, ae, x, es, _, rfl, rfl, rfl, hx, LD.at NO (S.sub H G0) H1, LD.get x hx, fun tk2 => ?_⟩))))
      refine h_forList (vs := (E x).map nv) (fun i m₁ led₁ => m₁ (Str.ofString "edges") = some (.ref ae) ∧ m₁ (Str.ofString "met") = some (.ref aM) ∧
        ∃ mi ep', led₁ = lput led aM (lObj (mi.map nv) ep') ∧ (∀ i ∈ mi, i < n) ∧ mi.Nodup ∧ ((E x).drop i).foldlM (fun m y => G.walked E f y m) mi = some met') H1
        ⟨hEd, hMt, met ++ [x], ep + 1, rfl, ?_, G.nodup_snoc hnd hxm, by simpa using hw⟩ ?_ ?_ ?_
      · intro i hi
        rcases List.mem_append.mp hi with h | h
        · exact hmet i h
        · rw [show i = x by simpa using h]; exact hx
      · rintro i m₁ led₁ fz h hfz _ H₁
        exact ⟨_, ((S.sub H G0).wz hfz).get H₁ (LD.lst x hx)⟩
      · rintro i v m₁ led₁ h tk₁ fz Rz hRz hv hfz ⟨hEd₁, hMt₁, mi, ep', rfl, hmi, hmn, hf⟩ H₁
        obtain ⟨y, hy, rfl⟩ : ∃ y, (E x)[i]? = some y ∧ nv y = v := by simpa [List.getElem?_map] using hv
        have hyE : y ∈ E x := List.mem_of_getElem? hy
        have hdrop : (E x).drop i = y :: (E x).drop (i + 1) := by
          obtain ⟨hl, e⟩ := List.getElem?_eq_some_iff.mp hy
          rw [← e]; exact List.drop_eq_getElem_cons hl
        rw [hdrop, List.foldlM_cons] at hf
        cases e1 : G.walked E f y mi with
        | none => rw [e1] at hf; cases hf
        | some m2 =>
          rw [e1] at hf
          have hsp := (G.walked_spec _ _ _ _ e1).2
          refine wpAny_execs_cons (wpAny_Expr_any (Call_ (h_glob H₁ (v := .ref 40) rfl (h_callArgs H₁.frag rfl (spliced_more (h_loc H₁ (v := nv y) rfl (spliced_more (h_loc H₁ hEd₁ (spliced_more (h_loc H₁ hMt₁ (spliced_none ⟨H₁.frag, ?_⟩)))))))))))
          refine ih y mi m2 e1 _ _ _ _ _ _ _ _ aM ep' _ H₁ rfl ((S.sub H G0).wz hfz) (hE x hx y hyE) hmi hmn (lput_self haM) (by show c.dp + 1 + f < _; lia) (by show c.un + 3 + 8 * f + 70 < _; lia) ?_
          intro ep2 h2 tk2 H2
          rw [lput_lput] at H2
          refine wpAny_execs_nil (hRz _ _ h2 tk2 H2 ⟨hEd₁, hMt₁, m2, ep2, rfl, ?_, hsp.nodup hmn, hf⟩)
          intro i hi
          rcases hsp.from_ i hi with h | h
          · exact hmi i h
          · exact h.under hE (hE x hx y hyE)
      · rintro m₁ led₁ h tk₁ ⟨hEd₁, hMt₁, mi, ep', rfl, hmi, hmn, hf⟩ H₁
        rw [List.drop_eq_nil_of_le (by simp)] at hf
        have e : mi = met' := by simpa using hf
        subst e
        refine wpAny_execs_nil (wpAny_execs_cons (wpAny_Return_some (h_loc H₁ hMt₁ (hRq _ _ _ h tk₁ H₁ fun H' => ?_))))
        exact hQ ep' _ _ H'
end
end Mine
end

-- part C5
section
open PySem PySem.W PyProof.Rows PySem.Spec
set_option linter.unusedSectionVars false
set_option linter.unusedVariables false
set_option maxRecDepth 100000
namespace Mine
inductive ListP (w : World) (t : Tp) (s : Shared) (Q : Value → Shared → Prop) (v : Value) (s₁ : Shared)  : Prop
  | mk : ∀ h₁ tk₁ c m led l vs ep, (s₁ = sh s h₁ tk₁) → (v = .ref l) → (Here w t c m led h₁) → (h₁.get? l = some (lObj vs ep)) → (vs.length ≤ 1000000) → (∀ a ep' h' tk', (∀ q ∈ led, q.1 < a) → Here w t c m ((a, lObj vs ep') :: led) h' → Q (.ref a) (sh s h' tk')) → ListP w t s Q v s₁
inductive LgetP (Q : Value → Shared → Prop) (ov iv : Value) (s₂ : Shared)  : Prop
  | mk : ∀ l k tk vs ep v, (ov = .ref l) → (iv = .int (k : Nat) tk) → (s₂.heap.get? l = some (lObj vs ep)) → (vs[k]? = some v) → ((k : Int) < 2 ^ 63) → (Q v s₂) → LgetP Q ov iv s₂
section
variable {prog : Program} {M : Model} {w : World} {t : Tp} {c : Cx} {m : Str → Option Value} {led sl : List (Addr × Obj)} {Er : Value → Shared → Prop} {s : Shared} {h h' : Heap} {A : Around} {kd n : Nat} {nv : Nat → Value} {env : Env}

theorem Here.pushed (H : Here w t c m led h) {o : Obj} (hk : ∀ b o, h.get? b = some o → h'.get? b = some o) (hD : h'.get? h.objs.size = some o) : Here w t c m ((h.objs.size, o) :: led) h' := by
  have H' := H.ext hk
  refine ⟨H.B, H.X, H.T, H'.F, ?_, H.K, H'.Z, ?_⟩
  · intro q hq
    rcases List.mem_cons.mp hq with rfl | hq
    · refine ⟨hD, Nat.ne_of_gt H.F.ns.lt, ?_⟩
      cases e : c.h₀.get? h.objs.size with
      | none => rfl
      | some o' => exact absurd (Heap.lt_size (H.F.keep _ _ e)) (Nat.lt_irrefl _)
    · exact H'.N q hq
  · intro p hp q hq
    rcases List.mem_cons.mp hq with rfl | hq
    · exact Nat.ne_of_lt (Heap.lt_size (H.Z p hp).1)
    · exact H.D p hp q hq

theorem size_ok {k : Nat} (h : k ≤ 1000000) : k ≤ sizeLine := by have : sizeLine = 16777216 := rfl; lia

/- list(e) -/
theorem h_list {c₀ : Cx} {m₀ : Str → Option Value} {led₀ : List (Addr × Obj)} {e : Expr} {p pos : Pos} {Q : Value → Shared → Prop} {h₀ : Heap} {tk₀ : Nat} (H₀ : Here w t c₀ m₀ led₀ h₀)
    (hq : wpAny (model prog w) A (eval e env) (ListP w t s Q) Er (sh s h₀ tk₀))
    (he : env = c₀.env := by rfl) (hx : env.kindOf (Str.ofString "list") = some .globalImplicit := by rfl) (hse : starEach [e] env = (false, eval e env) :: starEach [] env := by rfl) :
    wpAny (model prog w) A (eval (.Call (.Name (Str.ofString "list") p) [e] [] pos) env) Q Er (sh s h₀ tk₀) := by
  refine Call_ (h_boot H₀ rfl boot_list ?_ (by decide) he hx)
  have hb : backTo pos (starEach [e] env) = [(false, eval e env)] := by rw [hse]; rfl
  rw [hb]
  refine callWith_type1 (wpAny_mono hq ?_ fun _ _ x => x)
  rintro v s₁ ⟨h₁, tk₁, c, m, led, l, vs, ep, rfl, rfl, H, ho, hsz, k⟩
  exact call_list_seq (s := sh s h₁ tk₁) l (.inl rfl) ho rfl rfl (fun h' c' hk hD => k _ c' h' tk₁ (fun q hq => H.lt hq) (H.pushed hk hD)) (size_ok (by simpa using hsz))

/- xs + ys -/
theorem h_addLists {a b : Addr} {vs us : List Value} {ep ep' tk : Nat} {Q : Value → Shared → Prop} (H : Here w t c m led h) (ha : h.get? a = some (lObj vs ep)) (hb : h.get? b = some (lObj us ep')) (hsz : vs.length + us.length ≤ 1000000)
    (hq : ∀ d h', (∀ q ∈ led, q.1 < d) → Here w t c m ((d, lObj (vs ++ us) 0) :: led) h' → Q (.ref d) (sh s h' tk)) : wpAny (model prog w) A (binaryOp .Add (.ref a) (.ref b)) Q Er (sh s h tk) := by
  refine P.add_list (s := sh s h tk) ha hb ?_ (size_ok (by simpa using hsz))
  have e : vs.toArray ++ us.toArray = (vs ++ us).toArray := by simp
  rw [e]
  exact hq _ _ (fun q hq => H.lt hq) (H.push _)

/- xs[k] -/
theorem h_lget {eo ei : Expr} {pos : Pos} {Q : Value → Shared → Prop} {s₀ : Shared}
    (hq : wpAny (model prog w) A (eval eo env) (fun ov s₁ => wpAny (model prog w) A (eval ei env) (LgetP Q ov) Er s₁) Er s₀)
    (hs : ∀ o i, subscripted ei false o i = operate [o, i] (getItem o i) := by intro _ _; with_unfolding_all rfl) :
    wpAny (model prog w) A (eval (.Subscript eo ei pos) env) Q Er s₀ := by
  refine Subscript_ (wpAny_mono hq (fun ov s₁ h₁ => wpAny_mono h₁ ?_ fun _ _ x => x) fun _ _ x => x)
  rintro iv s₂ ⟨l, k, tk, vs, ep, v, rfl, rfl, ho, hv, hk, hq⟩
  have hl : s₂.heap.IsList l vs.toArray := ⟨_, ho, rfl, ep, rfl⟩
  exact tail_any hl.typeIs slot_list_getitem.lookup (wpAny_getItem_list hl (by lia) hk (by simpa using hv) hq) (hs _ _)

def sstep (E : Nat → List Nat) (V : Nat → List Int) (pl : Nat → Nat → Nat) (f x : Nat) (q : List Int × List Nat) (y : Nat) : Option (List Int × List Nat) :=
  if pl x y ∈ q.2 then some q else (G.said E V pl f (pl x y) q.2).map fun r => (q.1 ++ r.1, r.2)
theorem said_sstep (E : Nat → List Nat) (V : Nat → List Int) (pl : Nat → Nat → Nat) (f x : Nat) (met : List Nat) : G.said E V pl (f + 1) x met = (E x).foldlM (sstep E V pl f x) (V x, met ++ [x]) := G.said_succ ..

theorem said_fold_len {E : Nat → List Nat} {V : Nat → List Int} {pl : Nat → Nat → Nat} {f x : Nat} : ∀ (l : List Nat) (q r : List Int × List Nat), l.foldlM (sstep E V pl f x) q = some r → q.1.length ≤ r.1.length := by
  intro l
  induction l with
  | nil => intro q r h; have : q = r := by simpa using h
           subst this; exact Nat.le_refl _
  | cons y l ih =>
    intro q r h
    rw [List.foldlM_cons] at h
    cases e : sstep E V pl f x q y with
    | none => rw [e] at h; cases h
    | some u =>
      rw [e] at h
      have h1 := ih _ r h
      unfold sstep at e
      by_cases hp : pl x y ∈ q.2
      · rw [if_pos hp] at e; cases e; exact h1
      · rw [if_neg hp] at e
        obtain ⟨v, _, rfl⟩ := Option.map_eq_some_iff.mp e
        simp at h1; lia

theorem said_met {E : Nat → List Nat} {V : Nat → List Int} {pl : Nat → Nat → Nat} {n : Nat} (hpl : ∀ x, x < n → ∀ y ∈ E x, pl x y < n) : ∀ (f x : Nat) (met : List Nat) (r : List Int × List Nat), x < n → (∀ i ∈ met, i < n) → met.Nodup → x ∉ met →
    G.said E V pl f x met = some r → (∀ i ∈ r.2, i < n) ∧ r.2.Nodup := by
  intro f
  induction f with
  | zero => intro x met r _ _ _ _ h; simp [G.said] at h
  | succ f ih =>
    intro x met r hx hm hnd hxm h
    rw [said_sstep] at h
    have fold : ∀ (l : List Nat) (q : List Int × List Nat), (∀ y ∈ l, y ∈ E x) → (∀ i ∈ q.2, i < n) → q.2.Nodup → l.foldlM (sstep E V pl f x) q = some r → (∀ i ∈ r.2, i < n) ∧ r.2.Nodup := by
      intro l
      induction l with
      | nil => intro q _ h1 h2 e; have : q = r := by simpa using e
               subst this; exact ⟨h1, h2⟩
      | cons y l ihl =>
        intro q hl h1 h2 e
        rw [List.foldlM_cons] at e
        cases e1 : sstep E V pl f x q y with
        | none => rw [e1] at e; cases e
        | some u =>
          rw [e1] at e
          unfold sstep at e1
          by_cases hp : pl x y ∈ q.2
          · rw [if_pos hp] at e1; cases e1
            exact ihl q (fun z hz => hl z (List.mem_cons_of_mem _ hz)) h1 h2 e
          · rw [if_neg hp] at e1
            obtain ⟨v, hv, rfl⟩ := Option.map_eq_some_iff.mp e1
            have := ih _ _ _ (hpl x hx y (hl y List.mem_cons_self)) h1 h2 hp hv
            exact ihl (q.1 ++ v.1, v.2) (fun z hz => hl z (List.mem_cons_of_mem _ hz)) this.1 this.2 e
    refine fold (E x) _ (fun _ h => h) ?_ (G.nodup_snoc hnd hxm) h
    intro i hi
    rcases List.mem_append.mp hi with h | h
    · exact hm i h
    · rw [show i = x by simpa using h]; exact hx

theorem said_ok {E Kn : Nat → List Nat} {V : Nat → List Int} {vv : Nat → List Value} {rp : Nat → Nat} {ae av ak : Addr} {es vs ks : List (Nat × Value)} {la lv lk : Nat → Addr} {e1 e2 e3 : Nat → Nat} (NO : NamesOk kd nv n sl)
    (LE : LDict w kd nv n ae es la (fun k => (E k).map nv) e1 sl) (LV : LDict w kd nv n av vs lv vv e2 sl) (LK : LDict w kd nv n ak ks lk (fun k => (Kn k).map nv) e3 sl)
    (hE : ∀ x, x < n → ∀ y ∈ E x, y < n) (hKn : ∀ x, x < n → ∀ y ∈ Kn x, y < n) (hrp : ∀ x, x < n → (Kn x)[0]? = some (rp x)) (hV : ∀ x, x < n → Ints (vv x) (V x)) {pl : Nat → Nat → Nat} (hplE : ∀ x y, pl x y = if y ∈ Kn x then y else rp y) (hsm : n ≤ 1000) :
    ∀ (f x : Nat) (met : List Nat) (ws : List Int) (met' : List Nat), G.said E V pl f x met = some (ws, met') → ∀ (c : Cx) (m : Str → Option Value) (led : List (Addr × Obj)) (s : Shared) (h : Heap) (tk : Nat) (Q Er : Value → Shared → Prop) (aM : Addr) (ep : Nat) (A : Around),
      Here w t c m led h → A = c.A → St c sl → x < n → (∀ i ∈ met, i < n) → met.Nodup → x ∉ met → (aM, lObj (met.map nv) ep) ∈ led → ws.length ≤ 100000 → c.dp + f < recursionLimit → c.un + 8 * f + 70 < cLine →
      (∀ a us ep' ep'' h' tk, (∀ q ∈ led, q.1 < a) → Ints us ws → Here w t c m ((a, lObj us ep'') :: lput led aM (lObj (met'.map nv) ep')) h' → Q (.ref a) (sh s h' tk)) →
      wpAny (model prog w) A (call (.ref 47) [nv x, .ref ae, .ref av, .ref ak, .ref aM]) Q Er (sh s h tk) := by
  have hpl : ∀ x, x < n → ∀ y ∈ E x, pl x y < n := fun x hx y hy => by
    have hyn := hE x hx y hy
    rw [hplE]
    split
    · exact hyn
    · exact hKn y hyn _ (List.mem_of_getElem? (hrp y hyn))
  intro f
  induction f with
  | zero => intro x met ws met' hw; simp [G.said] at hw
  | succ f ih =>
    intro x met ws met' hw c m led s h tk Q Er aM ep A H hA S hx hmet hnd hxm haM hws hd hu hQ
    subst hA
    refine h_enter H rfl rfl (by lia) (BindsTo.of_eq rfl) (locs rfl) ?_
    intro g L' h' m' tk' hm G0 Hc Rq hRq
    have hX : m' (Str.ofString "x") = some (nv x) := by rw [hm]; rfl
    have hEd : m' (Str.ofString "edges") = some (.ref ae) := by rw [hm]; rfl
    have hVa : m' (Str.ofString "values") = some (.ref av) := by rw [hm]; rfl
    have hKo : m' (Str.ofString "knots") = some (.ref ak) := by rw [hm]; rfl
    have hMt : m' (Str.ofString "met") = some (.ref aM) := by rw [hm]; rfl
    clear hm
    have hu1 : c.un + 3 + 1 < cLine := by lia
    have hml := nodup_small hnd hmet
    rw [said_sstep] at hw
    have hlen0 := said_fold_len _ _ _ hw
    have hlv := (hV x hx).length
    simp only at hlen0
    refine wpAny_execs_cons (h_append (w := w) (t := t) (h_loc Hc hMt ⟨aM, _, ep, rfl, Hc.get haM, h_loc Hc hX ⟨_, _, _, h', tk', met.map nv, ep, rfl, Hc, haM, by simp; lia, fun h1 tk1 H1 => ?_⟩⟩))
    have e0 : met.map nv ++ [nv x] = (met ++ [x]).map nv := by simp
    rw [e0] at H1
    -- words = list(values[x])
    refine wpAny_execs_cons (wpAny_Assign_Name (h_list H1 (h_item hu1 (h_loc H1 hVa (h_loc H1 hX ⟨h1, tk1, av, x, vs, _, rfl, rfl, rfl, hx, LV.at NO (S.sub H G0) H1, LV.get x hx, fun tk2 => ⟨h1, tk2, _, _, _, lv x, vv x, _, rfl, rfl, H1, (S.sub H G0).get H1 (LV.lst x hx), by lia, fun aw epw h2 tk3 hlt2 H2 => h_store H2 fun h3 tk4 H3 => ?_⟩⟩)))))
    refine wpAny_execs_cons (wpAny_For (h_item hu1 (h_loc H3 hEd (h_loc H3 hX ⟨h3, tk4, ae, x, es, _, rfl, rfl, rfl, hx, LE.at NO (S.sub H G0) H3, LE.get x hx, fun tk5 => ?_⟩))))
    have hltM : ∀ q ∈ led, q.1 < aw := fun q hq => by
      by_cases e : q.1 = aM
      · have := hlt2 _ (lput_self haM); rw [e]; exact this
      · exact hlt2 _ (lput_ne (b := q.1) (o := q.2) hq e)
    refine h_forList (vs := (E x).map nv) (fun i m₁ led₁ => m₁ (Str.ofString "edges") = some (.ref ae) ∧ m₁ (Str.ofString "met") = some (.ref aM) ∧ m₁ (Str.ofString "values") = some (.ref av) ∧ m₁ (Str.ofString "knots") = some (.ref ak) ∧ m₁ (Str.ofString "x") = some (nv x) ∧
      Ex6 fun mi ep' wi us epw a => m₁ (Str.ofString "words") = some (.ref a) ∧ led₁ = (a, lObj us epw) :: lput led aM (lObj (mi.map nv) ep') ∧ Ints us wi ∧ (∀ q ∈ led, q.1 < a) ∧ (∀ i ∈ mi, i < n) ∧ mi.Nodup ∧
        ((E x).drop i).foldlM (sstep E V pl f x) (wi, mi) = some (ws, met')) H3
      ⟨hEd, hMt, hVa, hKo, hX, met ++ [x], ep + 1, V x, vv x, epw, aw, rfl, rfl, hV x hx, hltM, ?_, G.nodup_snoc hnd hxm, by simpa using hw⟩ ?_ ?_ ?_
    · intro i hi
      rcases List.mem_append.mp hi with h | h
      · exact hmet i h
      · rw [show i = x by simpa using h]; exact hx
    · rintro i m₁ led₁ fz h hfz _ H₁
      exact ⟨_, ((S.sub H G0).wz hfz).get H₁ (LE.lst x hx)⟩
    · rintro i v m₁ led₁ h tk₁ fz Rz hRz hv hfz ⟨hEd₁, hMt₁, hVa₁, hKo₁, hX₁, mi, ep', wi, us, epw, a, hWo₁, rfl, hus, hla, hmi, hmn, hf⟩ H₁
      obtain ⟨y, hy, rfl⟩ : ∃ y, (E x)[i]? = some y ∧ nv y = v := by simpa [List.getElem?_map] using hv
      have hyE : y ∈ E x := List.mem_of_getElem? hy
      have hyn := hE x hx y hyE
      have hdrop : (E x).drop i = y :: (E x).drop (i + 1) := by
        obtain ⟨hl, e⟩ := List.getElem?_eq_some_iff.mp hy
        rw [← e]; exact List.drop_eq_getElem_cons hl
      rw [hdrop, List.foldlM_cons] at hf
      have hpn := hpl x hx y hyE
      -- place = y if y in knots[x] else knots[y][0]
      refine wpAny_execs_cons (wpAny_Assign_Name (wpAny_mono (Q := fun v s' => v = nv (pl x y) ∧ ∃ tk, s' = sh s h tk) ?_ ?_ (fun _ _ x => x)))
      · refine wpAny_IfExp (wpAny_isTrue_Compare1 (h_loc H₁ (v := nv y) rfl (h_item hu1 (h_loc H₁ hKo₁ (h_loc H₁ hX₁ ⟨h, tk₁, ak, x, ks, _, rfl, rfl, rfl, hx, LK.at NO ((S.sub H G0).wz hfz) H₁, LK.get x hx, fun tk3 => ?_⟩)))))
        refine h_in_names hu1 (NO.at ((S.sub H G0).wz hfz) H₁) hyn (hKn x hx) (((S.sub H G0).wz hfz).get H₁ (LK.lst x hx)) (wpAny_truthy_bool ?_)
        by_cases hk : y ∈ Kn x
        · rw [decide_eq_true hk]
          refine h_loc H₁ (v := nv y) rfl ⟨?_, tk3, rfl⟩
          rw [hplE, if_pos hk]
        · rw [decide_eq_false hk]
          refine h_lget (h_item hu1 (h_loc H₁ hKo₁ (h_loc H₁ (v := nv y) rfl ⟨h, tk3, ak, y, ks, _, rfl, rfl, rfl, hyn, LK.at NO ((S.sub H G0).wz hfz) H₁, LK.get y hyn, fun tk4 => h_int fun u tk6 => ?_⟩)))
          refine ⟨lk y, 0, u, (Kn y).map nv, _, nv (rp y), rfl, rfl, ((S.sub H G0).wz hfz).get H₁ (LK.lst y hyn), by rw [List.getElem?_map, hrp y hyn]; rfl, by decide, ?_, _, rfl⟩
          rw [hplE, if_neg hk]
      · rintro v s' ⟨rfl, tk5, rfl⟩
        refine h_store H₁ fun h4 tk7 H4 => ?_
        have hne : ∀ q ∈ led, q.1 ≠ a := fun q hq => Nat.ne_of_lt (hla q hq)
        have haMa : aM ≠ a := hne _ haM
        have hM4 : (aM, lObj (mi.map nv) ep') ∈ (a, lObj us epw) :: lput led aM (lObj (mi.map nv) ep') := .tail _ (lput_self haM)
        refine wpAny_execs_cons (wpAny_If (wpAny_isTrue_Compare1 (h_loc H4 (v := nv (pl x y)) rfl (h_loc H4 hMt₁ (h_notin_names hu1 (NO.at ((S.sub H G0).wz hfz) H4) hpn hmi (H4.get hM4) (wpAny_truthy_bool ?_))))))
        by_cases hp : pl x y ∈ mi
        · rw [decide_eq_true hp]
          have e1 : sstep E V pl f x (wi, mi) y = some (wi, mi) := by unfold sstep; rw [if_pos hp]
          rw [e1] at hf
          exact wpAny_execs_nil (wpAny_execs_nil (hRz _ _ h4 _ H4 ⟨hEd₁, hMt₁, hVa₁, hKo₁, hX₁, mi, ep', wi, us, epw, a, hWo₁, rfl, hus, hla, hmi, hmn, hf⟩))
        · rw [decide_eq_false hp]
          cases e1 : G.said E V pl f (pl x y) mi with
          | none => unfold sstep at hf; simp only [if_neg hp, e1] at hf; cases hf
          | some r =>
            obtain ⟨w1, m1⟩ := r
            have e2 : sstep E V pl f x (wi, mi) y = some (wi ++ w1, m1) := by unfold sstep; rw [if_neg hp, e1]; rfl
            rw [e2] at hf
            have hlen1 := said_fold_len _ _ _ hf
            have hm1 := said_met hpl f (pl x y) mi _ hpn hmi hmn hp e1
            refine wpAny_execs_cons (wpAny_Assign_Name (wpAny_BinOp (h_loc H4 hWo₁ ?_)))
            refine Call_ (h_glob H4 (v := .ref 47) rfl (h_callArgs H4.frag rfl (spliced_more (h_loc H4 (v := nv (pl x y)) rfl ?_))))
            refine spliced_more (h_loc H4 hEd₁ (spliced_more (h_loc H4 hVa₁ (spliced_more (h_loc H4 hKo₁ (spliced_more (h_loc H4 hMt₁ (spliced_none ⟨H4.frag, ?_⟩))))))))
            simp only [List.length_append] at hlen1
            refine ih (pl x y) mi w1 m1 e1 _ _ _ _ _ _ _ _ aM ep' _ H4 rfl ((S.sub H G0).wz hfz) hpn hmi hmn hp hM4 (by lia) (by show c.dp + 1 + f < _; lia) (by show c.un + 3 + 8 * f + 70 < _; lia) ?_
            intro a2 us2 ep2 ep3 h5 tk6 hl5 hus2 H5
            have hput : lput ((a, lObj us epw) :: lput led aM (lObj (mi.map nv) ep')) aM (lObj (m1.map nv) ep2) = (a, lObj us epw) :: lput led aM (lObj (m1.map nv) ep2) := by
              show (if a = aM then _ else _) :: lput (lput led aM _) aM _ = _
              rw [if_neg (Ne.symm haMa), lput_lput]
            rw [hput] at H5
            have hl1 := hus.length; have hl2 := hus2.length
            refine h_addLists H5 (H5.get (.tail _ (.head _))) (H5.get (.head _)) (by lia) fun d h6 hl6 H6 => h_store H6 fun h7 tk8 H7 => ?_
            have hld : ∀ q ∈ led, q.1 < d := fun q hq => by
              by_cases e : q.1 = aM
              · rw [e]; exact hl6 _ (.tail _ (.tail _ (lput_self haM)))
              · exact hl6 _ (.tail _ (.tail _ (lput_ne (b := q.1) (o := q.2) hq e)))
            have H8 := H7.mono (led' := (d, lObj (us ++ us2) 0) :: lput led aM (lObj (m1.map nv) ep2)) fun p hp => by
              rcases List.mem_cons.mp hp with rfl | hp
              · exact .head _
              · exact .tail _ (.tail _ (.tail _ hp))
            exact wpAny_execs_nil (wpAny_execs_nil (hRz _ _ h7 _ H8 ⟨hEd₁, hMt₁, hVa₁, hKo₁, hX₁, m1, ep2, wi ++ w1, us ++ us2, 0, d, rfl, rfl, hus.append hus2, hld, hm1.1, hm1.2, hf⟩))
    · rintro m₁ led₁ h tk₁ ⟨hEd₁, hMt₁, hVa₁, hKo₁, hX₁, mi, ep', wi, us, epw, a, hWo₁, rfl, hus, hla, hmi, hmn, hf⟩ H₁
      rw [List.drop_eq_nil_of_le (by simp)] at hf
      have e : (wi, mi) = (ws, met') := by simpa using hf
      cases e
      refine wpAny_execs_cons (wpAny_Return_some (h_loc H₁ hWo₁ (hRq _ _ _ h tk₁ H₁ fun H' => ?_)))
      exact hQ a us ep' epw _ _ hla hus H'
end
end Mine
end

-- part C6
section
open PySem PySem.W PyProof.Rows PySem.Spec
set_option linter.unusedSectionVars false
set_option linter.unusedVariables false
set_option maxRecDepth 100000
namespace Mine

/- the data of a name -/
def ndat (kd k : Nat) : PyData := if (k + kd) % 3 = 0 then .int k else if (k + kd) % 3 = 1 then .str (letter k) else .tuple [.int k, .str tagN]
theorem ndat_eqv (kd i j : Nat) : PyData.eqv (ndat kd i) (ndat kd j) = decide (i = j) := by
  have hi : (i + kd) % 3 = 0 ∨ (i + kd) % 3 = 1 ∨ (i + kd) % 3 = 2 := by lia
  have hj : (j + kd) % 3 = 0 ∨ (j + kd) % 3 = 1 ∨ (j + kd) % 3 = 2 := by lia
  have h0 : ∀ k, (k + kd) % 3 = 0 → ndat kd k = .int k := fun k h => by simp [ndat, h]
  have h1 : ∀ k, (k + kd) % 3 = 1 → ndat kd k = .str (letter k) := fun k h => by simp [ndat, h]
  have h2 : ∀ k, (k + kd) % 3 = 2 → ndat kd k = .tuple [.int k, .str tagN] := fun k h => by simp [ndat, h]
  have ne : ∀ {a b : Nat}, (a + kd) % 3 ≠ (b + kd) % 3 → decide (a = b) = false := fun h => by rw [decide_eq_false_iff_not]; rintro rfl; exact h rfl
  rcases hi with hi | hi | hi <;> rcases hj with hj | hj | hj
  · rw [h0 i hi, h0 j hj, PyData.eqv, Bool.eq_iff_iff]; simp; lia
  · rw [h0 i hi, h1 j hj, ne (by lia)]; simp [PyData.eqv]
  · rw [h0 i hi, h2 j hj, ne (by lia)]; simp [PyData.eqv]
  · rw [h1 i hi, h0 j hj, ne (by lia)]; simp [PyData.eqv]
  · rw [h1 i hi, h1 j hj, PyData.eqv, Bool.eq_iff_iff]; simp only [beq_iff_eq, decide_eq_true_eq]; exact ⟨letter_inj, fun h => by rw [h]⟩
  · rw [h1 i hi, h2 j hj, ne (by lia)]; simp [PyData.eqv]
  · rw [h2 i hi, h0 j hj, ne (by lia)]; simp [PyData.eqv]
  · rw [h2 i hi, h1 j hj, ne (by lia)]; simp [PyData.eqv]
  · rw [h2 i hi, h2 j hj, PyData.eqv, Bool.eq_iff_iff]; simp [PyData.eqvAll, PyData.eqv]; lia
theorem ndat_lay {kd k : Nat} (hk : k < 1000) : (ndat kd k).canLay0 = true ∧ (ndat kd k).depth ≤ 1 := by
  have hi : (k + kd) % 3 = 0 ∨ (k + kd) % 3 = 1 ∨ (k + kd) % 3 = 2 := by lia
  have hl : PyData.strOk (letter k) = true := by unfold PyData.strOk letter; simp; lia
  have hN : PyData.strOk tagN = true := by decide +kernel
  rcases hi with hi | hi | hi
  · rw [show ndat kd k = .int k by simp [ndat, hi]]; simp [PyData.canLay0, PyData.depth]
  · rw [show ndat kd k = .str (letter k) by simp [ndat, hi]]; simp [PyData.canLay0, PyData.depth, hl]
  · rw [show ndat kd k = .tuple [.int k, .str tagN] by simp [ndat, hi]]; simp [PyData.canLay0, PyData.canLayAll0, PyData.depth, PyData.depthAll, hN]
theorem ndat_shaped {kd k : Nat} (hk : k < 1000) : SeqAt.shaped (ndat kd k) = true := by
  have := @ndat_lay kd k hk
  unfold SeqAt.shaped; simp [this.1]; lia
theorem name_reads {kd k : Nat} {h : Heap} {v : Value} (hv : NameIs kd h k v) : ∃ as, Reads h v (ndat kd k) as := by
  rcases hv with ⟨hk, t, rfl⟩ | ⟨hk, t, rfl⟩ | ⟨hk, a, t, t', n, rfl, ho⟩
  · rw [show ndat kd k = .int k by simp [ndat, hk]]; exact ⟨_, .int _ _⟩
  · rw [show ndat kd k = .str (letter k) by simp [ndat, hk]]; exact ⟨_, .str _ _⟩
  · rw [show ndat kd k = .tuple [.int k, .str tagN] by simp [ndat, hk]]
    exact ⟨_, .tuple ho rfl rfl (.cons (.int _ _) (.cons (.str _ _) .nil))⟩

inductive LenP (s : Shared) (Q : Value → Shared → Prop) (v : Value) (s₁ : Shared)  : Prop
  | mk : ∀ h₁ tk₁ l vs ep, (s₁ = sh s h₁ tk₁) → (v = .ref l) → (h₁.get? l = some (lObj vs ep)) → (vs.length ≤ 1000000) → (∀ u tk', Q (.int vs.length u) (sh s h₁ tk')) → LenP s Q v s₁
inductive MinP (w : World) (t : Tp) (A : Around) (s : Shared) (Q : Value → Shared → Prop) (v1 v2 : Value) (s₂ : Shared)  : Prop
  | mk : ∀ h₂ tk₂ c m led a b u1 u2, (s₂ = sh s h₂ tk₂) → (v1 = .int a u1) → (v2 = .int b u2) → (Here w t c m led h₂) → (A.handled = none) → (∀ u h' tk', Here w t c m led h' → Q (.int (min a b) u) (sh s h' tk')) → MinP w t A s Q v1 v2 s₂
inductive GetP (w : World) (kd n : Nat) (nv : Nat → Value) (s : Shared) (Q : Value → Shared → Prop) (d : Addr) (kv dv : Value) (s₃ : Shared)  : Prop
  | mk : ∀ h₃ tk₃ k es, (s₃ = sh s h₃ tk₃) → (kv = nv k) → (k < n) → (DAt w kd nv n h₃ d es) → (∀ tk, Q ((dget es k).getD dv) (sh s h₃ tk)) → GetP w kd n nv s Q d kv dv s₃
section
variable {prog : Program} {M : Model} {w : World} {t : Tp} {c : Cx} {m : Str → Option Value} {led sl : List (Addr × Obj)} {Er : Value → Shared → Prop} {s : Shared} {h h' : Heap} {A : Around} {kd n : Nat} {nv : Nat → Value} {env : Env}

/- two names compared -/
theorem h_ne_names {i j tk : Nat} {Q : Value → Shared → Prop} (hu : A.units + 64 < cLine) (hn : ∀ k, k < n → NameIs kd h k (nv k)) (hsm : n ≤ 1000) (hi : i < n) (hj : j < n) (hq : Q (.bool (!decide (i = j))) (sh s h tk)) :
    wpAny (model prog w) A (compareOp .NotEq (nv i) (nv j)) Q Er (sh s h tk) := by
  obtain ⟨as, ra⟩ := name_reads (hn i hi)
  obtain ⟨bs, rb⟩ := name_reads (hn j hj)
  refine SeqAt.compareNe_shaped (s := sh s h tk) ra rb (ndat_shaped (by lia)) (ndat_shaped (by lia)) hu ?_
  rw [ndat_eqv]; exact hq

theorem h_eq_int {a b : Int} {u v : Tok} {tk : Nat} {Q : Value → Shared → Prop} (hq : Q (.bool (a == b)) (sh s h tk)) : wpAny (model prog w) A (compareOp .Eq (.int a u) (.int b v)) Q Er (sh s h tk) := eq_int hq

/- len(xs) -/
theorem h_len {c₀ : Cx} {m₀ : Str → Option Value} {led₀ : List (Addr × Obj)} {e : Expr} {p pos : Pos} {Q : Value → Shared → Prop} {h₀ : Heap} {tk₀ : Nat} (H₀ : Here w t c₀ m₀ led₀ h₀)
    (hq : wpAny (model prog w) A (eval e env) (LenP s Q) Er (sh s h₀ tk₀))
    (he : env = c₀.env := by rfl) (hx : env.kindOf (Str.ofString "len") = some .globalImplicit := by rfl) (hse : starEach [e] env = (false, eval e env) :: starEach [] env := by rfl) :
    wpAny (model prog w) A (eval (.Call (.Name (Str.ofString "len") p) [e] [] pos) env) Q Er (sh s h₀ tk₀) := by
  refine Call_ (h_boot H₀ rfl boot_len ?_ (by decide) he hx)
  refine callWith_builtin1 (spliced_more (wpAny_mono hq ?_ fun _ _ x => x) hse) hse
  rintro v s₁ ⟨h₁, tk₁, l, vs, ep, rfl, rfl, ho, hsz, k⟩
  refine spliced_none ?_
  have := k (tk₁ + 1) (tk₁ + 1 + 1)
  refine Calls.call_len_list (s := sh s h₁ tk₁) ⟨_, ho, rfl, ep, rfl⟩ (by simp; lia) ?_
  rw [List.size_toArray]; exact this

theorem erase_last (vs : List Value) (v : Value) : (vs ++ [v]).eraseIdx vs.length = vs := by
  induction vs with
  | nil => rfl
  | cons a vs ih => simp [ih]

/- xs.pop() -/
theorem h_pop {x : Str} {p apos pos : Pos} {pl : Sem Bool} {l : Addr} {vs : List Value} {v : Value} {ep tk : Nat} {Q : Value → Shared → Prop} (H : Here w t c m led h) (hm : m x = some (.ref l)) (hl : (l, lObj (vs ++ [v]) ep) ∈ led) (hsz : vs.length ≤ 100000)
    (hq : ∀ h' tk' ep', Here w t c m (lput led l (lObj vs ep')) h' → Q v (sh s h' tk')) (henv : env = c.env := by rfl) (hx : env.kindOf x = some .local := by rfl) (hd : (x == ("__debug__" : Str)) = false := by decide)
    (he : eval (.Call (.Attribute (.Name x p) (Str.ofString "pop") apos) [] [] pos) env = (do
      let ov ← eval (.Name x p) env
      standAt apos.atName
      let (f, first) ← holding [ov] (getMethod ov (Str.ofString "pop") pl)
      callWith pos f first (backTo pos (starEach [] env)) []) := by rfl) :
    wpAny (model prog w) A (eval (.Call (.Attribute (.Name x p) (Str.ofString "pop") apos) [] [] pos) env) Q Er (sh s h tk) := by
  refine MethodCall_ (pl := pl) (h_loc H hm ?_ henv hx hd) he
  refine listMethod_K (s := sh s h tk) H.N hl PySem.F.slot_list_pop PySem.F.type_list_pop ?_
  have ho := H.get hl
  have hs1 : (vs ++ [v]).toArray.size - 1 = vs.length := by simp
  refine P.pop_list (s := sh s h tk) ho (y := v) (by rw [hs1]; simp) ?_ (size_ok (by simp; lia))
  rw [hs1]
  have e : Obj.mapSeq (fun xs => xs.eraseIdxIfInBounds vs.length) (lObj (vs ++ [v]) ep) = lObj vs (ep + 1) := by
    have e1 : (vs ++ [v]).toArray.eraseIdxIfInBounds vs.length = vs.toArray := by simp [Array.eraseIdxIfInBounds, erase_last]
    unfold Obj.mapSeq
    simp only [e1]
    simp
  refine hq _ tk (ep + 1) (H.upd hl (Heap.SameBut.update ..) ?_)
  rw [← e]
  exact Heap.get?_update_self _ ho rfl

/- xs[-1] -/
theorem h_last {x : Str} {p p1 p2 pos : Pos} {k : Nat} {l : Addr} {vs : List Value} {v : Value} {ep tk : Nat} {Q : Value → Shared → Prop} (H : Here w t c m led h) (hm : m x = some (.ref l)) (ho : h.get? l = some (lObj (vs ++ [v]) ep)) (hsz : vs.length ≤ 1000000)
    (hq : ∀ tk', Q v (sh s h tk')) (henv : env = c.env := by rfl) (hx : env.kindOf x = some .local := by rfl) (hd : (x == ("__debug__" : Str)) = false := by decide)
    (hs : ∀ o i, subscripted (.UnaryOp .USub (.Constant (.int 1) k p1) p2) false o i = operate [o, i] (getItem o i) := by intro _ _; with_unfolding_all rfl) :
    wpAny (model prog w) A (eval (.Subscript (.Name x p) (.UnaryOp .USub (.Constant (.int 1) k p1) p2) pos) env) Q Er (sh s h tk) := by
  refine Subscript_ (h_loc H hm (wpAny_UnaryOp (h_int fun u tk1 => neg_int (s := sh s h tk1) ?_)) henv hx hd)
  have hl : h.IsList l (vs ++ [v]).toArray := ⟨_, ho, rfl, ep, rfl⟩
  refine tail_any (s := sh s h (tk1 + 1)) hl.typeIs slot_list_getitem.lookup (wpAny_getItem_list_neg (s := sh s h (tk1 + 1)) hl (by decide) (by simp; lia) (by decide) ?_ (hq (tk1 + 1))) (hs _ _)
  have e : ((-1 : Int) + ((vs ++ [v]).toArray.size : Int)).toNat = vs.length := by simp; lia
  rw [e]; simp

/- min(a, b) of two ints -/
theorem h_min {c₀ : Cx} {m₀ : Str → Option Value} {led₀ : List (Addr × Obj)} {e1 e2 : Expr} {p pos : Pos} {Q : Value → Shared → Prop} {h₀ : Heap} {tk₀ : Nat} (H₀ : Here w t c₀ m₀ led₀ h₀)
    (hq : wpAny (model prog w) A (eval e1 env) (fun v1 s₁ => wpAny (model prog w) A (eval e2 env) (MinP w t A s Q v1) Er s₁) Er (sh s h₀ tk₀))
    (he : env = c₀.env := by rfl) (hx : env.kindOf (Str.ofString "min") = some .globalImplicit := by rfl) (hs1 : starEach [e1, e2] env = (false, eval e1 env) :: starEach [e2] env := by rfl) (hs2 : starEach [e2] env = (false, eval e2 env) :: starEach [] env := by rfl)
    (hp : (backTo pos (starEach [e2] env)).any (·.1) = false := by rfl) :
    wpAny (model prog w) A (eval (.Call (.Name (Str.ofString "min") p) [e1, e2] [] pos) env) Q Er (sh s h₀ tk₀) := by
  refine Call_ (h_boot H₀ rfl boot_min ?_ (by decide) he hx)
  refine callWith_builtin1 (spliced_more (wpAny_mono hq (fun v1 s₁ h₁ => spliced_more (wpAny_mono h₁ ?_ fun _ _ x => x) hs2) fun _ _ x => x) hs1) hs1 hp
  rintro v2 s₂ ⟨h₂, tk₂, c, m, led, a, b, u1, u2, rfl, rfl, rfl, H, hh, k⟩
  refine spliced_none (min_two_ints (s := sh s h₂ tk₂) hh fun h' tk' hk => ?_)
  by_cases hc : b < a
  · rw [if_pos hc]
    have := k u2 h' tk' (H.ext hk)
    rwa [Int.min_eq_right (by lia)] at this
  · rw [if_neg hc]
    have := k u1 h' tk' (H.ext hk)
    rwa [Int.min_eq_left (by lia)] at this

/- a while by an invariant -/
theorem h_while {test : Expr} {body : List Stmt} {pos : Pos} {Q : Flow → Shared → Prop} {s₀ : Shared} (I : Nat → Shared → Prop)
    (turn : ∀ k s', I k s' → wpAny (model prog w) A (isTrue test env (eval test env)) (fun b s₁ => if b then wpAny (model prog w) A (execs body env) (fun f s₂ => f = .next ∧ ∃ k', k' < k ∧ I k' s₂) NoE s₁ else Q .next s₁) NoE s') (k : Nat) (hi : I k s₀) :
    wpAny (model prog w) A (exec (.While test body [] pos) env) Q Er s₀ := by
  refine wpAny_While (codeAny_whileLoop I (fun k s' hI => ?_) k hi)
  refine noE (wpAny_mono (turn k s' hI) (fun b s₁ h₁ => ?_) fun _ _ x => x)
  cases b with
  | false => exact wpAny_execs_nil h₁
  | true =>
    refine noE (wpAny_mono h₁ ?_ fun _ _ x => x)
    rintro f s₂ ⟨rfl, hk⟩
    exact hk

/- d.get(k, [..]) by a name -/
theorem h_get {o e1 e2 : Expr} {apos pos : Pos} {pl : Sem Bool} {Q : Value → Shared → Prop} {s₀ : Shared} {d : Addr} (hu : A.units + 1 < cLine) (hd : (d == sysModules) = false)
    (hq : wpAny (model prog w) A (eval o env) (fun ov s₁ => ov = .ref d ∧ (∃ es ep, s₁.heap.get? d = some (dObj w kd nv es ep)) ∧ wpAny (model prog w) A (eval e1 env) (fun kv s₂ => wpAny (model prog w) A (eval e2 env) (GetP w kd n nv s Q d kv) Er s₂) Er s₁) Er s₀)
    (he : eval (.Call (.Attribute o (Str.ofString "get") apos) [e1, e2] [] pos) env = (do
      let ov ← eval o env
      standAt apos.atName
      let (f, first) ← holding [ov] (getMethod ov (Str.ofString "get") pl)
      callWith pos f first (backTo pos (starEach [e1, e2] env)) []) := by rfl)
    (hb : backTo pos (starEach [e1, e2] env) = [(false, eval e1 env), (false, eval e2 env)] := by rfl) :
    wpAny (model prog w) A (eval (.Call (.Attribute o (Str.ofString "get") apos) [e1, e2] [] pos) env) Q Er s₀ := by
  refine MethodCall_ (pl := pl) (wpAny_mono hq ?_ fun _ _ x => x) he
  rintro ov s₁ ⟨rfl, ⟨es, ep, ho⟩, h₁⟩
  refine getMethod_builtin ⟨_, ho, rfl⟩ PySem.F.plainAttrs_dict PySem.F.slot_dict_get PySem.F.type_dict_get (fun a e => by cases e; exact ⟨_, ho, rfl⟩) ?_
  rw [hb]
  refine dict_get2_names (kd := kd) (nv := nv) hu hd (wpAny_mono h₁ (fun kv s₂ h₂ => wpAny_mono h₂ ?_ fun _ _ x => x) fun _ _ x => x)
  rintro dv s₃ ⟨h₃, tk₃, k, es, rfl, rfl, hk, D, hq⟩
  obtain ⟨ep, ho⟩ := D.at_
  exact ⟨k, es, ep, rfl, fun p hp => D.nm _ (D.lt p hp), D.nm k hk, D.nd, ho, hq⟩
end
end Mine
end

-- part C7
section
open PySem PySem.W PyProof.Rows PySem.Spec
set_option linter.unusedSectionVars false
set_option linter.unusedVariables false
set_option maxRecDepth 100000
namespace Mine

structure Ad where
  aN : Addr
  aS : Addr
  aF : Addr
  ab : Addr
  ar : Addr
def Ad.all (d : Ad) : List Addr := [d.aN, d.aS, d.aF, d.ab, d.ar]

def fes (σ : G.TS Int) (lo : Nat → Addr) : List (Nat × Value) := σ.begun.map fun k => (k, .ref (lo (σ.fid k)))

/- the ledger bears the state of the traversal -/
structure TI (w : World) (kd : Nat) (nv : Nat → Value) (n : Nat) (d : Ad) (σ : G.TS Int) (lo : Nat → Addr) (led : List (Addr × Obj)) : Prop where
  N : ∃ es ep, (d.aN, dObj w kd nv es ep) ∈ led ∧ (es.map (·.1)).Nodup ∧ (∀ p ∈ es, p.1 < n) ∧ ∀ k, k < n → ∃ u, dget es k = some (.int (σ.N k) u)
  S : ∃ ep, (d.aS, lObj (σ.stack.map nv) ep) ∈ led
  F : ∃ ep, (d.aF, dObj w kd nv (fes σ lo) ep) ∈ led
  B : ∃ ep, (d.ab, lObj (σ.begun.map nv) ep) ∈ led
  R : ∃ ep, (d.ar, lObj (σ.begun.map nv) ep) ∈ led
  C : ∀ i ∈ σ.begun, ∃ us ep, (lo i, lObj us ep) ∈ led ∧ Ints us (σ.C i)
  nd : σ.begun.Nodup
  lt : ∀ i ∈ σ.begun, i < n
  sub : ∀ i ∈ σ.stack, i ∈ σ.begun
  slen : σ.stack.length ≤ σ.begun.length
  fid : ∀ k ∈ σ.begun, σ.fid k ∈ σ.begun
  pos : ∀ k ∈ σ.begun, 1 ≤ σ.N k
  inj : ∀ i ∈ σ.begun, ∀ j ∈ σ.begun, lo i = lo j → i = j
  ap : d.all.Nodup
  apl : ∀ i ∈ σ.begun, lo i ∉ d.all

/- what the traversal does not turn is kept -/
def Kept (d : Ad) (bg : List Nat) (lo : Nat → Addr) (led led' : List (Addr × Obj)) : Prop := ∀ p ∈ led, p.1 ∉ d.all → (∀ i ∈ bg, p.1 ≠ lo i) → p ∈ led'

section
variable {w : World} {kd n : Nat} {nv : Nat → Value} {d : Ad} {σ : G.TS Int} {lo : Nat → Addr} {led led' : List (Addr × Obj)}

theorem fes_keys (σ : G.TS Int) (lo : Nat → Addr) : (fes σ lo).map (·.1) = σ.begun := by
  unfold fes; rw [List.map_map]; conv => rhs; rw [← List.map_id σ.begun]
  rfl
theorem fes_get {k : Nat} (hk : k ∈ σ.begun) (hnd : σ.begun.Nodup) : dget (fes σ lo) k = some (.ref (lo (σ.fid k))) := by
  obtain ⟨i, hi⟩ := List.mem_iff_getElem?.mp hk
  refine dget_of (i := i) (by rw [fes_keys]; exact hnd) ?_
  unfold fes; rw [List.getElem?_map, hi]; rfl
theorem fes_find {k : Nat} (hk : k ∉ σ.begun) : (fes σ lo).findIdx? (fun p => p.1 == k) = none := by
  rw [List.findIdx?_eq_none_iff]
  intro p hp
  obtain ⟨j, hj, rfl⟩ := List.mem_map.mp hp
  simp only [beq_eq_false_iff_ne]
  rintro rfl; exact hk hj
theorem fes_find_some {k : Nat} (hk : k ∈ σ.begun) : ∃ i, (fes σ lo).findIdx? (fun p => p.1 == k) = some i := by
  cases h : (fes σ lo).findIdx? (fun p => p.1 == k) with
  | some i => exact ⟨i, rfl⟩
  | none =>
    rw [List.findIdx?_eq_none_iff] at h
    have := h (k, .ref (lo (σ.fid k))) (List.mem_map.mpr ⟨k, hk, rfl⟩)
    simp at this

theorem TI.ne (T : TI w kd nv n d σ lo led) : d.aN ≠ d.aS ∧ d.aN ≠ d.aF ∧ d.aN ≠ d.ab ∧ d.aN ≠ d.ar ∧ d.aS ≠ d.aF ∧ d.aS ≠ d.ab ∧ d.aS ≠ d.ar ∧ d.aF ≠ d.ab ∧ d.aF ≠ d.ar ∧ d.ab ≠ d.ar := by
  have := T.ap
  unfold Ad.all at this
  simp only [List.nodup_cons, List.mem_cons, List.not_mem_nil, or_false, not_or] at this
  grind
theorem TI.nel (T : TI w kd nv n d σ lo led) {i : Nat} (hi : i ∈ σ.begun) : lo i ≠ d.aN ∧ lo i ≠ d.aS ∧ lo i ≠ d.aF ∧ lo i ≠ d.ab ∧ lo i ≠ d.ar := by
  have := T.apl i hi
  unfold Ad.all at this
  simp only [List.mem_cons, List.not_mem_nil, or_false, not_or] at this
  exact this
theorem TI.blen (T : TI w kd nv n d σ lo led) : σ.begun.length ≤ n := nodup_small T.nd T.lt

/- N[k] = v -/
theorem TI.setN (T : TI w kd nv n d σ lo led) {es : List (Nat × Value)} {ep ep' k : Nat} {v : Int} {u : Tok} (hm : (d.aN, dObj w kd nv es ep) ∈ led) (hnd : (es.map (·.1)).Nodup) (hlt : ∀ p ∈ es, p.1 < n) (hg : ∀ k, k < n → ∃ u, dget es k = some (.int (σ.N k) u))
    (hk : k < n) (hv : 1 ≤ v) : TI w kd nv n d { σ with N := G.upd σ.N k v } lo (lput led d.aN (dObj w kd nv (dput es k (.int v u)) ep')) := by
  obtain ⟨n1, n2, n3, n4, _⟩ := T.ne
  refine ⟨⟨_, ep', lput_self hm, dput_keys hnd, ?_, ?_⟩, ?_, ?_, ?_, ?_, ?_, T.nd, T.lt, T.sub, T.slen, T.fid, ?_, T.inj, T.ap, T.apl⟩
  · intro p hp
    rcases dput_mem hp with h | h
    · rw [h]; exact hk
    · exact hlt p h
  · intro j hj
    by_cases e : j = k
    · subst e; exact ⟨u, by rw [dget_dput_self]; simp [G.upd]⟩
    · obtain ⟨u', hu'⟩ := hg j hj
      exact ⟨u', by rw [dget_dput_ne e, hu']; simp [G.upd, e]⟩
  · obtain ⟨e, h⟩ := T.S; exact ⟨e, lput_ne h (Ne.symm n1)⟩
  · obtain ⟨e, h⟩ := T.F; exact ⟨e, lput_ne h (Ne.symm n2)⟩
  · obtain ⟨e, h⟩ := T.B; exact ⟨e, lput_ne h (Ne.symm n3)⟩
  · obtain ⟨e, h⟩ := T.R; exact ⟨e, lput_ne h (Ne.symm n4)⟩
  · intro i hi
    obtain ⟨us, e, h, h2⟩ := T.C i hi
    exact ⟨us, e, lput_ne h (T.nel hi).1, h2⟩
  · intro j hj
    show 1 ≤ G.upd σ.N k v j
    unfold G.upd; split
    · exact hv
    · exact T.pos j hj

/- one more value in a list of the traversal's own -/
theorem TI.addC (T : TI w kd nv n d σ lo led) {i : Nat} {us : List Value} {ep ep' : Nat} {a : Int} {u : Tok} (hi : i ∈ σ.begun) (hm : (lo i, lObj us ep) ∈ led) (hus : Ints us (σ.C i)) :
    TI w kd nv n d { σ with C := G.upd σ.C i (σ.C i ++ [a]) } lo (lput led (lo i) (lObj (us ++ [.int a u]) ep')) := by
  obtain ⟨l1, l2, l3, l4, l5⟩ := T.nel hi
  refine ⟨?_, ?_, ?_, ?_, ?_, ?_, T.nd, T.lt, T.sub, T.slen, T.fid, T.pos, T.inj, T.ap, T.apl⟩
  · obtain ⟨es, e, h, r⟩ := T.N; exact ⟨es, e, lput_ne h (Ne.symm l1), r⟩
  · obtain ⟨e, h⟩ := T.S; exact ⟨e, lput_ne h (Ne.symm l2)⟩
  · obtain ⟨e, h⟩ := T.F; exact ⟨e, lput_ne h (Ne.symm l3)⟩
  · obtain ⟨e, h⟩ := T.B; exact ⟨e, lput_ne h (Ne.symm l4)⟩
  · obtain ⟨e, h⟩ := T.R; exact ⟨e, lput_ne h (Ne.symm l5)⟩
  · intro j hj
    show ∃ us ep, (lo j, lObj us ep) ∈ _ ∧ Ints us (G.upd σ.C i (σ.C i ++ [a]) j)
    by_cases e : j = i
    · subst e
      exact ⟨_, ep', lput_self hm, by rw [G.upd_self]; exact hus.snoc a u⟩
    · obtain ⟨vs, e', h, h2⟩ := T.C j hj
      exact ⟨vs, e', lput_ne h (fun q => e (T.inj j hj i hi q)), by rw [G.upd_ne _ _ e]; exact h2⟩

/- F[e] = F[x] -/
theorem TI.setF (T : TI w kd nv n d σ lo led) {ep ep' e x : Nat} (hm : (d.aF, dObj w kd nv (fes σ lo) ep) ∈ led) (he : e ∈ σ.begun) (hx : x ∈ σ.begun) :
    TI w kd nv n d { σ with fid := G.upd σ.fid e (σ.fid x) } lo (lput led d.aF (dObj w kd nv (dput (fes σ lo) e (.ref (lo (σ.fid x)))) ep')) := by
  obtain ⟨n1, n2, n3, n4, n5, n6, n7, n8, n9, n10⟩ := T.ne
  have e0 : dput (fes σ lo) e (.ref (lo (σ.fid x))) = fes { σ with fid := G.upd σ.fid e (σ.fid x) } lo := by
    obtain ⟨i, hi⟩ := fes_find_some (lo := lo) he
    rw [dput_old hi]
    unfold fes
    rw [List.map_map]
    apply List.map_congr_left
    intro k _
    by_cases h : k = e <;> simp [h, G.upd]
  rw [e0]
  refine ⟨?_, ?_, ⟨ep', lput_self hm⟩, ?_, ?_, ?_, T.nd, T.lt, T.sub, T.slen, ?_, T.pos, T.inj, T.ap, T.apl⟩
  · obtain ⟨es, e, h, r⟩ := T.N; exact ⟨es, e, lput_ne h n2, r⟩
  · obtain ⟨e, h⟩ := T.S; exact ⟨e, lput_ne h n5⟩
  · obtain ⟨e, h⟩ := T.B; exact ⟨e, lput_ne h (Ne.symm n8)⟩
  · obtain ⟨e, h⟩ := T.R; exact ⟨e, lput_ne h (Ne.symm n9)⟩
  · intro i hi
    obtain ⟨us, e, h, h2⟩ := T.C i hi
    exact ⟨us, e, lput_ne h (T.nel hi).2.2.1, h2⟩
  · intro k hk
    show G.upd σ.fid e (σ.fid x) k ∈ σ.begun
    unfold G.upd; split
    · exact T.fid x hx
    · exact T.fid k hk

/- stack.pop() -/
theorem TI.popS (T : TI w kd nv n d σ lo led) {ep ep' : Nat} (hm : (d.aS, lObj (σ.stack.map nv) ep) ∈ led) :
    TI w kd nv n d { σ with stack := σ.stack.dropLast } lo (lput led d.aS (lObj (σ.stack.dropLast.map nv) ep')) := by
  obtain ⟨n1, n2, n3, n4, n5, n6, n7, n8, n9, n10⟩ := T.ne
  refine ⟨?_, ⟨ep', lput_self hm⟩, ?_, ?_, ?_, ?_, T.nd, T.lt, ?_, ?_, T.fid, T.pos, T.inj, T.ap, T.apl⟩
  · obtain ⟨es, e, h, r⟩ := T.N; exact ⟨es, e, lput_ne h n1, r⟩
  · obtain ⟨e, h⟩ := T.F; exact ⟨e, lput_ne h (Ne.symm n5)⟩
  · obtain ⟨e, h⟩ := T.B; exact ⟨e, lput_ne h (Ne.symm n6)⟩
  · obtain ⟨e, h⟩ := T.R; exact ⟨e, lput_ne h (Ne.symm n7)⟩
  · intro i hi
    obtain ⟨us, e, h, h2⟩ := T.C i hi
    exact ⟨us, e, lput_ne h (T.nel hi).2.1, h2⟩
  · intro i hi; exact T.sub i (List.dropLast_subset _ hi)
  · have := T.slen; simp; lia

/- the head of a traversal -/
theorem TI.enter (T : TI w kd nv n d σ lo led) {V : Nat → List Int} {x : Nat} {led5 : List (Addr × Obj)} {a : Addr} (hx : x < n) (hxb : x ∉ σ.begun) (ha : ∀ q ∈ led, q.1 < a)
    (h1 : ∃ es ep, (d.aN, dObj w kd nv es ep) ∈ led5 ∧ (es.map (·.1)).Nodup ∧ (∀ p ∈ es, p.1 < n) ∧ ∀ k, k < n → ∃ u, dget es k = some (.int (G.upd σ.N x (σ.stack.length + 1) k) u))
    (h2 : ∃ ep, (d.aS, lObj ((σ.stack ++ [x]).map nv) ep) ∈ led5) (h3 : ∃ ep, (d.aF, dObj w kd nv (dput (fes σ lo) x (.ref a)) ep) ∈ led5) (h4 : ∃ ep, (d.ab, lObj ((σ.begun ++ [x]).map nv) ep) ∈ led5) (h5 : ∃ ep, (d.ar, lObj ((σ.begun ++ [x]).map nv) ep) ∈ led5)
    (h6 : ∃ us ep, (a, lObj us ep) ∈ led5 ∧ Ints us (V x)) (hk : Kept d [] lo led led5) : TI w kd nv n d (G.enter V x σ) (G.upd lo x a) led5 := by
  have hne : ∀ i ∈ σ.begun, i ≠ x := fun i hi e => hxb (e ▸ hi)
  have halo : ∀ i ∈ σ.begun, lo i < a := fun i hi => by
    obtain ⟨us, e, h, _⟩ := T.C i hi; exact ha _ h
  have hall : ∀ b ∈ d.all, b < a := by
    intro b hb
    unfold Ad.all at hb
    simp only [List.mem_cons, List.not_mem_nil, or_false] at hb
    rcases hb with rfl | rfl | rfl | rfl | rfl
    · obtain ⟨es, e, h, _⟩ := T.N; exact ha _ h
    · obtain ⟨e, h⟩ := T.S; exact ha _ h
    · obtain ⟨e, h⟩ := T.F; exact ha _ h
    · obtain ⟨e, h⟩ := T.B; exact ha _ h
    · obtain ⟨e, h⟩ := T.R; exact ha _ h
  have e0 : dput (fes σ lo) x (.ref a) = fes (G.enter V x σ) (G.upd lo x a) := by
    rw [dput_new (fes_find hxb)]
    show _ = ((σ.begun ++ [x]).map _)
    rw [List.map_append]
    unfold fes
    congr 1
    · apply List.map_congr_left
      intro k hk
      show _ = (k, Value.ref (G.upd lo x a (G.upd σ.fid x x k)))
      rw [G.upd_ne _ _ (hne k hk), G.upd_ne _ _ (hne _ (T.fid k hk))]
    · show _ = [(x, Value.ref (G.upd lo x a (G.upd σ.fid x x x)))]
      rw [G.upd_self, G.upd_self]
  rw [e0] at h3
  refine ⟨h1, h2, h3, h4, h5, ?_, G.nodup_snoc T.nd hxb, ?_, ?_, ?_, ?_, ?_, ?_, T.ap, ?_⟩
  · intro i hi
    show ∃ us ep, (G.upd lo x a i, lObj us ep) ∈ led5 ∧ Ints us (G.upd σ.C x (V x) i)
    rcases List.mem_append.mp hi with h | h
    · rw [G.upd_ne _ _ (hne i h), G.upd_ne _ _ (hne i h)]
      obtain ⟨us, e, h', h''⟩ := T.C i h
      exact ⟨us, e, hk _ h' (T.apl i h) (by simp), h''⟩
    · have : i = x := by simpa using h
      subst this
      rw [G.upd_self, G.upd_self]; exact h6
  · intro i hi
    rcases List.mem_append.mp hi with h | h
    · exact T.lt i h
    · rw [show i = x by simpa using h]; exact hx
  · intro i hi
    rcases List.mem_append.mp hi with h | h
    · exact List.mem_append_left _ (T.sub i h)
    · exact List.mem_append_right _ h
  · show (σ.stack ++ [x]).length ≤ (σ.begun ++ [x]).length
    have := T.slen; simp; lia
  · intro k hk'
    show G.upd σ.fid x x k ∈ σ.begun ++ [x]
    rcases List.mem_append.mp hk' with h | h
    · rw [G.upd_ne _ _ (hne k h)]; exact List.mem_append_left _ (T.fid k h)
    · rw [show k = x by simpa using h, G.upd_self]; simp
  · intro k hk'
    show 1 ≤ G.upd σ.N x (σ.stack.length + 1) k
    rcases List.mem_append.mp hk' with h | h
    · rw [G.upd_ne _ _ (hne k h)]; exact T.pos k h
    · rw [show k = x by simpa using h, G.upd_self]; lia
  · intro i hi j hj
    rcases List.mem_append.mp hi with h | h
    · rcases List.mem_append.mp hj with h' | h'
      · rw [G.upd_ne _ _ (hne i h), G.upd_ne _ _ (hne j h')]; exact T.inj i h j h'
      · rw [G.upd_ne _ _ (hne i h), show j = x by simpa using h', G.upd_self]
        intro e; exact absurd (halo i h) (by rw [e]; exact Nat.lt_irrefl _)
    · rcases List.mem_append.mp hj with h' | h'
      · rw [G.upd_ne _ _ (hne j h'), show i = x by simpa using h, G.upd_self]
        intro e; exact absurd (halo j h') (by rw [← e]; exact Nat.lt_irrefl _)
      · intro _; rw [show i = x by simpa using h, show j = x by simpa using h']
  · intro i hi
    rcases List.mem_append.mp hi with h | h
    · rw [G.upd_ne _ _ (hne i h)]; exact T.apl i h
    · rw [show i = x by simpa using h, G.upd_self]
      intro hm; exact absurd (hall a hm) (Nat.lt_irrefl _)

theorem Kept.refl (d : Ad) (bg : List Nat) (lo : Nat → Addr) (led : List (Addr × Obj)) : Kept d bg lo led led := fun _ h _ _ => h
theorem Kept.lput {bg : List Nat} {b : Addr} {o : Obj} (K : Kept d bg lo led led') (hb : b ∈ d.all ∨ ∃ i ∈ bg, b = lo i) : Kept d bg lo led (lput led' b o) := fun p hp h1 h2 =>
  lput_ne (b := p.1) (o := p.2) (K p hp h1 h2) fun e => hb.elim (fun h => h1 (e ▸ h)) fun ⟨i, hi, e'⟩ => h2 i hi (e.trans e')
theorem Kept.cons {bg : List Nat} {q : Addr × Obj} (K : Kept d bg lo led led') : Kept d bg lo led (q :: led') := fun p hp h1 h2 => .tail _ (K p hp h1 h2)
end
end Mine
end

-- part C8
section
open PySem PySem.W PyProof.Rows PySem.Spec
set_option linter.unusedSectionVars false
set_option linter.unusedVariables false
set_option maxRecDepth 100000
namespace Mine

structure Grow (d : Ad) (σ : G.TS Int) (lo : Nat → Addr) (led : List (Addr × Obj)) (σ' : G.TS Int) (lo' : Nat → Addr) (led' : List (Addr × Obj)) : Prop where
  old : ∀ i ∈ σ.begun, i ∈ σ'.begun ∧ lo' i = lo i
  new : ∀ j ∈ σ'.begun, j ∉ σ.begun → ∀ q ∈ led, q.1 ≠ lo' j
  kept : Kept d σ.begun lo led led'
  adr : ∀ q ∈ led, ∃ o, (q.1, o) ∈ led'

section
variable {w : World} {kd n : Nat} {nv : Nat → Value} {d : Ad} {σ σ' σ'' : G.TS Int} {lo lo' lo'' : Nat → Addr} {led led' led'' : List (Addr × Obj)}

theorem Grow.refl (d : Ad) (σ : G.TS Int) (lo : Nat → Addr) (led : List (Addr × Obj)) : Grow d σ lo led σ lo led :=
  ⟨fun i hi => ⟨hi, rfl⟩, fun j h1 h2 => absurd h1 h2, Kept.refl _ _ _ _, fun q hq => ⟨q.2, hq⟩⟩
theorem Grow.trans (g1 : Grow d σ lo led σ' lo' led') (g2 : Grow d σ' lo' led' σ'' lo'' led'') : Grow d σ lo led σ'' lo'' led'' := by
  refine ⟨fun i hi => ?_, fun j hj hn q hq => ?_, fun p hp h1 h2 => ?_, fun q hq => ?_⟩
  · have a := g1.old i hi; have b := g2.old i a.1
    exact ⟨b.1, b.2.trans a.2⟩
  · by_cases h : j ∈ σ'.begun
    · rw [(g2.old j h).2]; exact g1.new j h hn q hq
    · obtain ⟨o, ho⟩ := g1.adr q hq
      exact g2.new j hj h (q.1, o) ho
  · refine g2.kept p (g1.kept p hp h1 h2) h1 fun j hj => ?_
    by_cases h : j ∈ σ.begun
    · rw [(g1.old j h).2]; exact h2 j h
    · exact g1.new j hj h p hp
  · obtain ⟨o, ho⟩ := g1.adr q hq
    exact g2.adr (q.1, o) ho
/- one of the traversal's own things is stored anew -/
theorem Grow.put (g : Grow d σ lo led σ' lo' led') (hb : σ''.begun = σ'.begun) {b : Addr} {o o' : Obj} (hm : (b, o) ∈ led') (hbb : b ∈ d.all ∨ ∃ i ∈ σ'.begun, b = lo' i) : Grow d σ lo led σ'' lo' (lput led' b o') := by
  refine ⟨fun i hi => by rw [hb]; exact g.old i hi, fun j hj => by rw [hb] at hj; exact g.new j hj, fun p hp h1 h2 => lput_ne (b := p.1) (o := p.2) (g.kept p hp h1 h2) fun e => ?_, fun q hq => ?_⟩
  · rcases hbb with h | ⟨i, hi, rfl⟩
    · exact h1 (e ▸ h)
    · by_cases h' : i ∈ σ.begun
      · exact h2 i h' (by rw [e, (g.old i h').2])
      · exact g.new i hi h' p hp e
  · obtain ⟨o1, h1⟩ := g.adr q hq
    by_cases e : q.1 = b
    · exact ⟨o', by rw [e]; exact lput_self hm⟩
    · exact ⟨o1, lput_ne h1 e⟩
end

/- what FP and R do -/
def FPok (prog : Program) (w : World) (t : Tp) (kd n : Nat) (nv : Nat → Value) (V : Nat → List Int) (sl : List (Addr × Obj)) (ab aP : Addr) : Prop :=
  ∀ (c : Cx) (m : Str → Option Value) (led : List (Addr × Obj)) (s : Shared) (h : Heap) (tk : Nat) (Q Er : Value → Shared → Prop) (A : Around) (x : Nat) (b : List Nat) (ep : Nat),
    Here w t c m led h → A = c.A → St c sl → x < n → (ab, lObj (b.map nv) ep) ∈ led → b.length ≤ 1000 → c.dp + 1 < recursionLimit → c.un + 80 < cLine →
    (∀ a us ep' ep'' h' tk', (∀ q ∈ led, q.1 < a) → Ints us (V x) → us.length ≤ 1000 → Here w t c m ((a, lObj us ep'') :: lput led ab (lObj ((b ++ [x]).map nv) ep')) h' → Q (.ref a) (sh s h' tk')) →
    wpAny (model prog w) A (call (.ref aP) [nv x]) Q Er (sh s h tk)
def Rok (prog : Program) (w : World) (t : Tp) (n : Nat) (nv : Nat → Value) (la : Nat → Addr) (sl : List (Addr × Obj)) (ar aR : Addr) : Prop :=
  ∀ (c : Cx) (m : Str → Option Value) (led : List (Addr × Obj)) (s : Shared) (h : Heap) (tk : Nat) (Q Er : Value → Shared → Prop) (A : Around) (x : Nat) (b : List Nat) (ep : Nat),
    Here w t c m led h → A = c.A → St c sl → x < n → (ar, lObj (b.map nv) ep) ∈ led → b.length ≤ 1000 → c.dp + 1 < recursionLimit → c.un + 80 < cLine →
    (∀ ep' h' tk', Here w t c m (lput led ar (lObj ((b ++ [x]).map nv) ep')) h' → Q (.ref (la x)) (sh s h' tk')) →
    wpAny (model prog w) A (call (.ref aR) [nv x]) Q Er (sh s h tk)

section
variable {prog : Program} {M : Model} {w : World} {t : Tp} {c : Cx} {m : Str → Option Value} {led sl : List (Addr × Obj)} {Er : Value → Shared → Prop} {s : Shared} {h h' : Heap} {A : Around} {kd n : Nat} {nv : Nat → Value} {env : Env}

/- a call of a def that stands in a name -/
theorem h_callF {f : Addr} {pos : Pos} {e : Expr} {rest : List Expr} {Q : Value → Shared → Prop} {s₀ : Shared} (X : FnAt f s₀.heap)
    (hq : wpAny M A (spliced (backTo pos (starEach (e :: rest) env))) (fun vs s₁ => FnAt f s₁.heap ∧ wpAny M A (call (.ref f) vs) Q Er s₁) Er s₀)
    (he : starEach (e :: rest) env = (false, eval e env) :: starEach rest env := by rfl) (hplain : (backTo pos (starEach rest env)).any (·.1) = false := by rfl) :
    wpAny M A (callWith pos (.ref f) [] (backTo pos (starEach (e :: rest) env)) []) Q Er s₀ := callWith_F X hq he hplain

theorem DAt.of (hn : ∀ k, k < n → NameIs kd h k (nv k)) {d : Addr} {es : List (Nat × Value)} {ep : Nat} (hd : h.get? d = some (dObj w kd nv es ep)) (nd : (es.map (·.1)).Nodup) (lt : ∀ p ∈ es, p.1 < n) : DAt w kd nv n h d es := ⟨hn, nd, lt, ep, hd⟩
theorem es_len {es : List (Nat × Value)} (nd : (es.map (·.1)).Nodup) (lt : ∀ p ∈ es, p.1 < n) : es.length ≤ n := by
  have := nodup_small (n := n) nd (fun i hi => by obtain ⟨p, hp, rfl⟩ := List.mem_map.mp hi; exact lt p hp)
  simpa using this
end
end Mine
end

-- part C9a
section
open PySem PySem.W PyProof.Rows PySem.Spec
set_option linter.unusedSectionVars false
set_option linter.unusedVariables false
set_option maxRecDepth 100000
namespace Mine

/- a list of few small ints, each once -/
def Few (l : List Int) : Prop := l.Nodup ∧ ∀ a ∈ l, 0 ≤ a ∧ a < 1000
theorem Few.len {l : List Int} (F : Few l) : l.length ≤ 1000 := by
  have h : (l.map Int.toNat).Nodup := by
    obtain ⟨hn, hb⟩ := F
    induction l with
    | nil => simp
    | cons a l ih =>
      rw [List.nodup_cons] at hn
      rw [List.map_cons, List.nodup_cons]
      refine ⟨?_, ih hn.2 fun b hb' => hb b (List.mem_cons_of_mem _ hb')⟩
      intro hm
      obtain ⟨b, hb', e⟩ := List.mem_map.mp hm
      have h1 := hb a List.mem_cons_self
      have h2 := hb b (List.mem_cons_of_mem _ hb')
      have : b = a := by lia
      rw [this] at hb'
      exact hn.1 hb'
  have := nodup_small (n := 1000) h (fun i hi => by
    obtain ⟨b, hb, rfl⟩ := List.mem_map.mp hi
    have := F.2 b hb
    lia)
  simpa using this
theorem Few.snoc {l : List Int} (F : Few l) {a : Int} (ha : a ∉ l) (hb : 0 ≤ a ∧ a < 1000) : Few (l ++ [a]) :=
  ⟨G.nodup_snoc F.1 ha, fun b hb' => by
    rcases List.mem_append.mp hb' with h | h
    · exact F.2 b h
    · rw [show b = a by simpa using h]; exact hb⟩
def Szs (σ : G.TS Int) : Prop := ∀ i ∈ σ.begun, Few (σ.C i)

section
variable {prog : Program} {M : Model} {w : World} {t : Tp} {c : Cx} {m : Str → Option Value} {led sl : List (Addr × Obj)} {Er : Value → Shared → Prop} {s : Shared} {h h' : Heap} {A : Around} {kd n : Nat} {nv : Nat → Value} {env : Env}

theorem getLast_split {st : List Nat} {e : Nat} (h : st.getLast? = some e) : st = st.dropLast ++ [e] := by
  obtain ⟨l, rfl⟩ := List.getLast?_eq_some_iff.mp h
  simp

/- N[stack[-1]] = MAXINT; F[stack[-1]] = F[x]; element = stack.pop() -/
theorem pop3 {d : Ad} {σ : G.TS Int} {lo : Nat → Addr} {x e tk k1 k2 : Nat} {p1 p2 p3 p4 p5 p6 p7 p8 q1 q2 q3 q4 q5 q6 q7 q8 q9 q0 r1 r2 r3 r4 r5 : Pos} {rest : List Stmt} {pl : Sem Bool} {Q : Flow → Shared → Prop} (NO : NamesOk kd nv n sl) (S : St c sl) (H : Here w t c m led h) (hsm : n ≤ 1000) (T : TI w kd nv n d σ lo led)
    (hst : σ.stack.getLast? = some e) (hx : x ∈ σ.begun) (hu : c.un + 1 < cLine)
    (hN : m (Str.ofString "N") = some (.ref d.aN)) (hS : m (Str.ofString "stack") = some (.ref d.aS)) (hF : m (Str.ofString "F") = some (.ref d.aF)) (hX : m (Str.ofString "x") = some (nv x))
    (hq : ∀ led' h' tk', Here w t c (mset m (Str.ofString "element") (nv e)) led' h' → TI w kd nv n d { σ with N := G.upd σ.N e G.MAXI, fid := G.upd σ.fid e (σ.fid x), stack := σ.stack.dropLast } lo led' →
      (∀ {σ₀ : G.TS Int} {lo₀ : Nat → Addr} {led₀ : List (Addr × Obj)}, Grow d σ₀ lo₀ led₀ σ lo led → Grow d σ₀ lo₀ led₀ { σ with N := G.upd σ.N e G.MAXI, fid := G.upd σ.fid e (σ.fid x), stack := σ.stack.dropLast } lo led') →
      wpAny (model prog w) A (execs rest env) Q Er (sh s h' tk'))
    (hA : A = c.A := by rfl) (he : env = c.env := by rfl) (kN : env.kindOf (Str.ofString "N") = some .local := by rfl) (kS : env.kindOf (Str.ofString "stack") = some .local := by rfl) (kF : env.kindOf (Str.ofString "F") = some .local := by rfl) (kx : env.kindOf (Str.ofString "x") = some .local := by rfl)
    (ke : env.kindOf (Str.ofString "element") = some .local := by rfl) (kM : env.kindOf (Str.ofString "MAXINT") = some .globalImplicit := by rfl)
    (h1 : swapsWith (.Name (Str.ofString "MAXINT") p7) (some (.Subscript (.Name (Str.ofString "N") p1) (.Subscript (.Name (Str.ofString "stack") p2) (.UnaryOp .USub (.Constant (.int 1) k1 p3) p4) p5) p6)) p8.line env = pure false := by rfl)
    (h2 : swapsWith (.Subscript (.Name (Str.ofString "F") q7) (.Name (Str.ofString "x") q8) q9) (some (.Subscript (.Name (Str.ofString "F") q1) (.Subscript (.Name (Str.ofString "stack") q2) (.UnaryOp .USub (.Constant (.int 1) k2 q3) q4) q5) q6)) q0.line env = pure false := by rfl)
    (h3 : eval (.Call (.Attribute (.Name (Str.ofString "stack") r1) (Str.ofString "pop") r2) [] [] r3) env = (do
      let ov ← eval (.Name (Str.ofString "stack") r1) env
      standAt r2.atName
      let (f, first) ← holding [ov] (getMethod ov (Str.ofString "pop") pl)
      callWith r3 f first (backTo r3 (starEach [] env)) []) := by rfl)
    (h4 : swapsWith (.Call (.Attribute (.Name (Str.ofString "stack") r1) (Str.ofString "pop") r2) [] [] r3) (some (.Name (Str.ofString "element") r4)) r5.line env = pure false := by rfl) :
    wpAny (model prog w) A (execs (.Assign [.Subscript (.Name (Str.ofString "N") p1) (.Subscript (.Name (Str.ofString "stack") p2) (.UnaryOp .USub (.Constant (.int 1) k1 p3) p4) p5) p6] (.Name (Str.ofString "MAXINT") p7) p8 ::
      .Assign [.Subscript (.Name (Str.ofString "F") q1) (.Subscript (.Name (Str.ofString "stack") q2) (.UnaryOp .USub (.Constant (.int 1) k2 q3) q4) q5) q6] (.Subscript (.Name (Str.ofString "F") q7) (.Name (Str.ofString "x") q8) q9) q0 ::
      .Assign [.Name (Str.ofString "element") r4] (.Call (.Attribute (.Name (Str.ofString "stack") r1) (Str.ofString "pop") r2) [] [] r3) r5 :: rest) env) Q Er (sh s h tk) := by
  subst hA he
  have hbl := T.blen
  have hsl := T.slen
  obtain ⟨n1, n2, n3, n4, n5, n6, n7, n8, n9, n10⟩ := T.ne
  have hsp := getLast_split hst
  have heb : e ∈ σ.begun := T.sub e (by rw [hsp]; simp)
  have hen := T.lt e heb
  have hxn := T.lt x hx
  have hdl : σ.stack.dropLast.length ≤ 1000 := by have : σ.stack.dropLast.length ≤ σ.stack.length := by simp
                                                  lia
  have hsm2 : σ.stack.map nv = σ.stack.dropLast.map nv ++ [nv e] := by conv => lhs; rw [hsp]
                                                                       simp
  obtain ⟨epS, memS⟩ := T.S
  obtain ⟨esN, epN, memN, ndN, ltN, gN⟩ := T.N
  obtain ⟨epF, memF⟩ := T.F
  have lenN := es_len ndN ltN
  have ndF : ((fes σ lo).map (·.1)).Nodup := by rw [fes_keys]; exact T.nd
  have ltF : ∀ p ∈ fes σ lo, p.1 < n := fun p hp => by
    have : p.1 ∈ (fes σ lo).map (·.1) := List.mem_map.mpr ⟨p, hp, rfl⟩
    rw [fes_keys] at this; exact T.lt _ this
  have lenF := es_len ndF ltF
  refine wpAny_execs_cons (h_setitem (t := t) (s := s) (kd := kd) (n := n) (nv := nv) hu (h_glob H (v := .int 9223372036854775807 _) rfl (h_loc H hN (h_last H hS (vs := σ.stack.dropLast.map nv) (v := nv e) (ep := epS) (by rw [← hsm2]; exact H.get memS) (by rw [List.length_map]; lia) (fun tk1 => ⟨h, tk1, _, _, _, d.aN, e, esN, epN, rfl, rfl, rfl, hen, H, memN,
    DAt.of (NO.at S H) (H.get memN) ndN ltN, by lia, fun h5 tk5 ep5 H5 => ?_⟩) rfl kS) rfl kN) rfl kM) h1)
  have T5 := T.setN (u := 189) (ep' := ep5) (v := 9223372036854775807) memN ndN ltN gN hen (by decide)
  have memF5 : (d.aF, dObj w kd nv (fes σ lo) epF) ∈ lput led d.aN (dObj w kd nv (dput esN e (.int 9223372036854775807 189)) ep5) := lput_ne memF (Ne.symm n2)
  have memS5 : (d.aS, lObj (σ.stack.map nv) epS) ∈ lput led d.aN (dObj w kd nv (dput esN e (.int 9223372036854775807 189)) ep5) := lput_ne memS (Ne.symm n1)
  refine wpAny_execs_cons (h_setitem (t := t) (s := s) (kd := kd) (n := n) (nv := nv) hu (h_item (s := s) (kd := kd) (n := n) (nv := nv) hu (h_loc H5 hF (h_loc H5 hX ⟨h5, tk5, d.aF, x, fes σ lo, _, rfl, rfl, rfl, hxn, DAt.of (NO.at S H5) (H5.get memF5) ndF ltF, fes_get hx T.nd, fun tk6 =>
    h_loc H5 hF (h_last H5 hS (vs := σ.stack.dropLast.map nv) (v := nv e) (ep := epS) (by rw [← hsm2]; exact H5.get memS5) (by rw [List.length_map]; lia) (fun tk7 => ⟨h5, tk7, _, _, _, d.aF, e, fes σ lo, epF, rfl, rfl, rfl, hen, H5, memF5, DAt.of (NO.at S H5) (H5.get memF5) ndF ltF, by lia, fun h6 tk8 ep6 H6 => ?_⟩) rfl kS) rfl kF⟩ rfl kx) rfl kF)) h2)
  have T6 := T5.setF (ep' := ep6) (e := e) (x := x) memF5 heb hx
  have memS6 := lput_ne (a := d.aF) (o' := dObj w kd nv (dput (fes σ lo) e (.ref (lo (σ.fid x)))) ep6) memS5 n5
  rw [hsm2] at memS6
  refine wpAny_execs_cons (wpAny_Assign_Name (h_pop (pl := pl) H6 hS memS6 (by rw [List.length_map]; lia) (fun h7 tk9 ep7 H7 => h_store H7 (fun h8 tk8 H8 => ?_) rfl ke) rfl kS (by decide) h3) h4)
  rw [← hsm2] at memS6
  have T7 := T6.popS (ep' := ep7) memS6
  refine hq _ h8 tk8 H8 T7 fun g => ?_
  have g1 := Grow.put (σ'' := { σ with N := G.upd σ.N e G.MAXI }) (o' := dObj w kd nv (dput esN e (.int 9223372036854775807 189)) ep5) g rfl memN (.inl (by unfold Ad.all; simp))
  have g2 := Grow.put (σ'' := { σ with N := G.upd σ.N e G.MAXI, fid := G.upd σ.fid e (σ.fid x) }) (o' := dObj w kd nv (dput (fes σ lo) e (.ref (lo (σ.fid x)))) ep6) g1 rfl memF5 (.inl (by unfold Ad.all; simp))
  exact Grow.put (σ'' := { σ with N := G.upd σ.N e G.MAXI, fid := G.upd σ.fid e (σ.fid x), stack := σ.stack.dropLast }) (o' := lObj (σ.stack.dropLast.map nv) ep7) g2 rfl memS6 (.inl (by unfold Ad.all; simp))
end
end Mine
end

-- part C9
section
open PySem PySem.W PyProof.Rows PySem.Spec
set_option linter.unusedSectionVars false
set_option linter.unusedVariables false
set_option maxRecDepth 100000
namespace Mine
section
variable {prog : Program} {M : Model} {w : World} {t : Tp} {c : Cx} {m : Str → Option Value} {led sl : List (Addr × Obj)} {Er : Value → Shared → Prop} {s : Shared} {h h' : Heap} {A : Around} {kd n : Nat} {nv : Nat → Value} {env : Env}

abbrev Here.as (_ : Here w t c m led h) (m' : Str → Option Value) (led' : List (Addr × Obj)) (h' : Heap) : Prop := Here w t c m' led' h'

abbrev cx9 (_ : Here w t c m led h) : Cx := c
theorem upd_id {β : Type} (g : Nat → β) (k : Nat) : G.upd g k (g k) = g := by funext i; unfold G.upd; split <;> simp_all

theorem St.subH {m' : Str → Option Value} {led' : List (Addr × Obj)} (S : St c sl) (H : Here w t c m led h) {g : Heap} {q : Str} {sc : Scope} {f : Addr} {cv : Value} {cl : List (Str × Addr)} {L : Addr} (G0 : ∀ b o, h.get? b = some o → b ∉ led.map (·.1) → g.get? b = some o) (_ : Here w t (c.sub q sc f cv cl g L) m' led' h') : St (c.sub q sc f cv cl g L) sl := S.sub H G0

/- the names of a traversal's frame -/
structure TM (m : Str → Option Value) (nv : Nat → Value) (x : Nat) (d : Ad) (vX : Value) (aP aR : Addr) : Prop where
  x : m (Str.ofString "x") = some (nv x)
  N : m (Str.ofString "N") = some (.ref d.aN)
  S : m (Str.ofString "stack") = some (.ref d.aS)
  F : m (Str.ofString "F") = some (.ref d.aF)
  X : m (Str.ofString "X") = some vX
  R : m (Str.ofString "R") = some (.ref aR)
  P : m (Str.ofString "FP") = some (.ref aP)

/- a store into a ledger, under a new name -/
theorem put_as {a : Addr} {o o' : Obj} {h1 : Heap} {P : Prop} {d : Ad} {lo : Nat → Addr} {led0 : List (Addr × Obj)} (hm : (a, o) ∈ led) (K : Kept d [] lo led0 led) (ha : a ∈ d.all) (H1 : Here w t c m (lput led a o') h1)
    (k : ∀ led', Here w t c m led' h1 → (a, o') ∈ led' → (∀ {b q}, (b, q) ∈ led → b ≠ a → (b, q) ∈ led') → (∀ {b q}, (b, q) ∈ led → ∃ q', (b, q') ∈ led') → Kept d [] lo led0 led' → P) : P :=
  k _ H1 (lput_self hm) (fun h hb => lput_ne h hb) (fun {b q} h => if e : b = a then ⟨o', by rw [e]; exact lput_self hm⟩ else ⟨q, lput_ne h e⟩) (K.lput (.inl ha))

theorem put_as2 {a a2 : Addr} {o o' o2 : Obj} {h1 : Heap} {P : Prop} {d : Ad} {lo : Nat → Addr} {led0 : List (Addr × Obj)} (hm : (a, o) ∈ led) (K : Kept d [] lo led0 led) (ha : a ∈ d.all) (H1 : Here w t c m ((a2, o2) :: lput led a o') h1)
    (k : ∀ led', Here w t c m led' h1 → (a2, o2) ∈ led' → (a, o') ∈ led' → (∀ {b q}, (b, q) ∈ led → b ≠ a → (b, q) ∈ led') → Kept d [] lo led0 led' → P) : P :=
  k _ H1 (.head _) (.tail _ (lput_self hm)) (fun h hb => .tail _ (lput_ne h hb)) (K.lput (.inl ha)).cons

theorem opaqueQ {α : Type} {x : Sem α} {Q : α → Shared → Prop} {E : Value → Shared → Prop} (h : ∀ Rq : α → Shared → Prop, (∀ v s, Q v s → Rq v s) → wpAny M A x Rq E s) : wpAny M A x Q E s := h Q fun _ _ h => h

/- the names of a traversal's frame, as facts about a sealed predicate -/
structure SealM (nv : Nat → Value) (x : Nat) (d : Ad) (vX : Value) (aP aR : Addr) (v0 v1 : Value) (Y : (Str → Option Value) → Prop) : Prop where
  x : ∀ {m}, Y m → m (Str.ofString "x") = some (nv x)
  N : ∀ {m}, Y m → m (Str.ofString "N") = some (.ref d.aN)
  S : ∀ {m}, Y m → m (Str.ofString "stack") = some (.ref d.aS)
  F : ∀ {m}, Y m → m (Str.ofString "F") = some (.ref d.aF)
  X : ∀ {m}, Y m → m (Str.ofString "X") = some vX
  R : ∀ {m}, Y m → m (Str.ofString "R") = some (.ref aR)
  P : ∀ {m}, Y m → m (Str.ofString "FP") = some (.ref aP)
  d : ∀ {m}, Y m → m (Str.ofString "d") = some v0
  y : ∀ {m v}, Y m → Y (mset m (Str.ofString "y") v)
  a : ∀ {m v}, Y m → Y (mset m (Str.ofString "a") v)
  e : ∀ {m v}, Y m → Y (mset m (Str.ofString "element") v)
theorem TM.seal {x : Nat} {d : Ad} {vX v0 v1 : Value} {aP aR : Addr} (T : TM m nv x d vX aP aR) : ∃ Y, Y (mset (mset m (Str.ofString "d") v0) (Str.ofString "rel") v1) ∧ SealM nv x d vX aP aR v0 v1 Y :=
  ⟨fun m => TM m nv x d vX aP aR ∧ m (Str.ofString "d") = some v0, ⟨⟨T.x, T.N, T.S, T.F, T.X, T.R, T.P⟩, rfl⟩,
    fun h => h.1.x, fun h => h.1.N, fun h => h.1.S, fun h => h.1.F, fun h => h.1.X, fun h => h.1.R, fun h => h.1.P, fun h => h.2,
    fun h => ⟨⟨h.1.x, h.1.N, h.1.S, h.1.F, h.1.X, h.1.R, h.1.P⟩, h.2⟩, fun h => ⟨⟨h.1.x, h.1.N, h.1.S, h.1.F, h.1.X, h.1.R, h.1.P⟩, h.2⟩, fun h => ⟨⟨h.1.x, h.1.N, h.1.S, h.1.F, h.1.X, h.1.R, h.1.P⟩, h.2⟩⟩

/- between the turns -/
inductive LoopT (Y : (Str → Option Value) → Prop) (I : G.TS Int → (Nat → Addr) → List (Addr × Obj) → Prop) (x : Nat) (R : G.TS Int → Prop) (m : Str → Option Value) (led : List (Addr × Obj)) : Prop
  | mk : ∀ σ lo, Y m → I σ lo led → x ∈ σ.begun → R σ → LoopT Y I x R m led
inductive WhilT (w : World) (t : Tp) (c : Cx) (s : Shared) (nv : Nat → Value) (n : Nat) (Y : (Str → Option Value) → Prop) (I : G.TS Int → (Nat → Addr) → List (Addr × Obj) → Prop) (x : Nat) (R : Nat → G.TS Int → Prop) (s' : Shared) : Prop
  | mk : ∀ σ e lo led m h tk, s' = sh s h tk → Here w t c m led h → Y m → m (Str.ofString "element") = some (nv e) → e < n → I σ lo led → x ∈ σ.begun → R e σ → WhilT w t c s nv n Y I x R s'

/- the state within the loop over a cell's elements -/
def mid (σ : G.TS Int) (x y j : Nat) : G.TS Int := { σ with C := G.upd σ.C (σ.fid x) (G.mrg (σ.C (σ.fid x)) ((σ.C (σ.fid y)).take j)) }
theorem mid_zero (σ : G.TS Int) (x y : Nat) : mid σ x y 0 = σ := by unfold mid; rw [List.take_zero, G.mrg_nil, upd_id]
theorem mid_C (σ : G.TS Int) (x y j : Nat) : (mid σ x y j).C (σ.fid x) = G.mrg (σ.C (σ.fid x)) ((σ.C (σ.fid y)).take j) := G.upd_self ..
theorem mid_in {σ : G.TS Int} {x y j : Nat} {a : Int} (hav : (σ.C (σ.fid y))[j]? = some a) (hmem : a ∈ (mid σ x y j).C (σ.fid x)) : mid σ x y (j + 1) = mid σ x y j := by
  have htake : (σ.C (σ.fid y)).take (j + 1) = (σ.C (σ.fid y)).take j ++ [a] := by rw [List.take_add_one, hav]; rfl
  rw [mid_C] at hmem
  unfold mid
  rw [htake, G.mrg_append, G.mrg_cons, if_pos hmem, G.mrg_nil]
theorem mid_out {σ : G.TS Int} {x y j : Nat} {a : Int} (hav : (σ.C (σ.fid y))[j]? = some a) (hmem : ¬ a ∈ (mid σ x y j).C (σ.fid x)) : mid σ x y (j + 1) = { mid σ x y j with C := G.upd (mid σ x y j).C (σ.fid x) ((mid σ x y j).C (σ.fid x) ++ [a]) } := by
  have htake : (σ.C (σ.fid y)).take (j + 1) = (σ.C (σ.fid y)).take j ++ [a] := by rw [List.take_add_one, hav]; rfl
  rw [mid_C] at hmem ⊢
  unfold mid
  rw [htake, G.mrg_append, G.mrg_cons, if_neg hmem, G.mrg_nil]
  congr 1
  funext i
  by_cases ei : i = σ.fid x
  · rw [ei, G.upd_self, G.upd_self]
  · rw [G.upd_ne _ _ ei, G.upd_ne _ _ ei]; exact (G.upd_ne _ _ ei).symm
theorem mid_end {σ : G.TS Int} {x y j : Nat} (hj : (σ.C (σ.fid y)).length = j) : mid σ x y j = { σ with C := G.upd σ.C (σ.fid x) (G.mrg (σ.C (σ.fid x)) (σ.C (σ.fid y))) } := by
  unfold mid; rw [List.take_of_length_le (Nat.le_of_eq hj)]

theorem Ad.all_S (d : Ad) : d.aS ∈ d.all := by simp [Ad.all]
theorem Ad.all_N (d : Ad) : d.aN ∈ d.all := by simp [Ad.all]
theorem Ad.all_F (d : Ad) : d.aF ∈ d.all := by simp [Ad.all]
theorem Ad.all_b (d : Ad) : d.ab ∈ d.all := by simp [Ad.all]
theorem Ad.all_r (d : Ad) : d.ar ∈ d.all := by simp [Ad.all]

theorem trav_ok {E : Nat → List Nat} {V : Nat → List Int} {la : Nat → Addr} {ee : Nat → Nat} {d : Ad} {aP aR : Addr} {oP oR : Obj} {fP fR : FuncData} {vX : Value} (NO : NamesOk kd nv n sl) (hE : ∀ x, x < n → ∀ y ∈ E x, y < n) (hsm : n ≤ 1000)
    (hL : ∀ k, k < n → (la k, lObj ((E k).map nv) (ee k)) ∈ sl) (FP : FPok prog w t kd n nv V sl d.ab aP) (RR : Rok prog w t n nv la sl d.ar aR) (hP : (aP, oP) ∈ sl) (hPd : oP.data = .func fP) (hR : (aR, oR) ∈ sl) (hRd : oR.data = .func fR) (hVf : ∀ x, x < n → Few (V x)) (hsys : (d.aF == sysModules) = false) :
    ∀ (f x : Nat) (σ σ' : G.TS Int), G.trav E V f x σ = some σ' → ∀ (c : Cx) (m : Str → Option Value) (led : List (Addr × Obj)) (s : Shared) (h : Heap) (tk : Nat) (Q Er : Value → Shared → Prop) (A : Around) (lo : Nat → Addr),
      Here w t c m led h → A = c.A → St c sl → x < n → x ∉ σ.begun → TI w kd nv n d σ lo led → Szs σ → c.dp + f + 2 < recursionLimit → c.un + 8 * f + 100 < cLine →
      (∀ lo' led' h' tk', Here w t c m led' h' → TI w kd nv n d σ' lo' led' → Szs σ' → Grow d σ lo led σ' lo' led' → Q .none (sh s h' tk')) →
      wpAny (model prog w) A (call (.ref 28) [nv x, .ref d.aN, .ref d.aS, .ref d.aF, vX, .ref aR, .ref aP]) Q Er (sh s h tk) := by
  have fnP : ∀ {c : Cx} {m : Str → Option Value} {led : List (Addr × Obj)} {h : Heap}, St c sl → Here w t c m led h → FnAt aP h := fun S H => by
    have := S.get H hP
    obtain ⟨oc, od, dt, osl⟩ := oP
    simp only at hPd
    subst hPd
    exact ⟨_, _, _, _, this⟩
  have fnR : ∀ {c : Cx} {m : Str → Option Value} {led : List (Addr × Obj)} {h : Heap}, St c sl → Here w t c m led h → FnAt aR h := fun S H => by
    have := S.get H hR
    obtain ⟨oc, od, dt, osl⟩ := oR
    simp only at hRd
    subst hRd
    exact ⟨_, _, _, _, this⟩
  intro f
  induction f with
  | zero => intro x σ σ' hw; simp [G.trav] at hw
  | succ f ih =>
    intro x σ σ' hw c m led s h tk Q Er A lo H hA S hx hxb T Z hd hu hQ
    subst hA
    rw [G.trav_succ] at hw
    cases hf : (E x).foldlM (G.turn (G.trav E V f) x) (G.enter V x σ) with
    | none => rw [hf] at hw; cases hw
    | some σ1 =>
    rw [hf] at hw
    have hw : (if σ1.N x = (σ.stack.length : Int) + 1 then G.popTo x σ1.stack.length σ1 else some σ1) = some σ' := hw
    refine h_enter H rfl rfl (by lia) (BindsTo.of_eq rfl) (locs rfl) ?_
    intro g L' h' m' tk' hm G0 Hc Rq hRq
    have SS := S.subH H G0 Hc
    have TM0 : TM m' nv x d vX aP aR := ⟨by rw [hm]; rfl, by rw [hm]; rfl, by rw [hm]; rfl, by rw [hm]; rfl, by rw [hm]; rfl, by rw [hm]; rfl, by rw [hm]; rfl⟩
    clear hm
    have hu1 : c.un + 3 + 1 < cLine := by lia
    have hbl := T.blen
    have hsl := T.slen
    obtain ⟨n1, n2, n3, n4, n5, n6, n7, n8, n9, n10⟩ := T.ne
    obtain ⟨epS, memS⟩ := T.S
    obtain ⟨esN, epN, memN, ndN, ltN, gN⟩ := T.N
    obtain ⟨epF, memF⟩ := T.F
    obtain ⟨epB, memB⟩ := T.B
    obtain ⟨epR, memR⟩ := T.R
    have lenN := es_len ndN ltN
    -- stack.append(x)
    refine wpAny_execs_cons (h_append (w := w) (t := t) (h_loc Hc TM0.S ⟨d.aS, _, epS, rfl, Hc.get memS, h_loc Hc TM0.x ⟨_, _, _, h', tk', σ.stack.map nv, epS, rfl, Hc, memS, by simp; lia, fun h1 tk1 H1 => ?_⟩⟩))
    have e0 : σ.stack.map nv ++ [nv x] = (σ.stack ++ [x]).map nv := by simp
    rw [e0] at H1
    refine put_as memS (Kept.refl d [] lo led) d.all_S H1 fun led1 H1 s1 k1 d1 K1 => ?_
    -- d = len(stack)
    refine wpAny_execs_cons (wpAny_Assign_Name (h_len H1 (h_loc H1 TM0.S ⟨h1, tk1, d.aS, _, epS + 1, rfl, rfl, H1.get s1, by simp; lia, fun ud tk2 => h_store H1 fun h2 tk3 H2 => ?_⟩)))
    have ed : (((σ.stack ++ [x]).map nv).length : Int) = (σ.stack.length : Int) + 1 := by simp
    rw [ed] at H2
    -- N[x] = d
    have memN2 := k1 memN n1
    refine wpAny_execs_cons (h_setitem (kd := kd) (n := n) (nv := nv) hu1 (h_loc H2 (v := .int ((σ.stack.length : Int) + 1) ud) rfl (h_loc H2 TM0.N (h_loc H2 TM0.x ⟨h2, tk3, _, _, _, d.aN, x, esN, epN, rfl, rfl, rfl, hx, H2, memN2,
      DAt.of (NO.at SS H2) (H2.get memN2) ndN ltN, by lia, fun h3 tk4 ep3 H3 => ?_⟩))))
    refine put_as memN2 K1 d.all_N H3 fun led3 H3 s3 k3 d3 K3 => ?_
    -- F[x] = FP(x)
    refine wpAny_execs_cons (h_setitem (t := t) (s := s) (kd := kd) (n := n) (nv := nv) hu1 (Call_ (h_loc H3 TM0.P (h_callF (fnP SS H3) (spliced_more (h_loc H3 TM0.x (spliced_none ⟨fnP SS H3, ?_⟩)))))))
    have memB3 := k3 (k1 memB (Ne.symm n6)) (Ne.symm n3)
    refine FP _ _ _ _ _ _ _ _ _ x σ.begun epB H3 rfl SS hx memB3 (by lia) (by show c.dp + 1 + 1 < _; lia) (by show c.un + 3 + 80 < _; lia) ?_
    intro aw us ep4 ep5 h4 tk5 hla hus husl H4
    have hlaw : ∀ q ∈ led, q.1 < aw := fun q hq => let ⟨_, e1⟩ := d1 (b := q.1) (q := q.2) hq; let ⟨o3, e3⟩ := d3 e1; hla (q.1, o3) e3
    have hawF : d.aF ≠ aw := Nat.ne_of_lt (hlaw _ memF)
    refine put_as2 memB3 K3 d.all_b H4 fun led4 H4 w4 s4 k4 K4 => ?_
    have memF4 := k4 (k3 (k1 memF (Ne.symm n5)) (Ne.symm n2)) n8
    have ndF : ((fes σ lo).map (·.1)).Nodup := by rw [fes_keys]; exact T.nd
    have ltF : ∀ p ∈ fes σ lo, p.1 < n := fun p hp => by
      have : p.1 ∈ (fes σ lo).map (·.1) := List.mem_map.mpr ⟨p, hp, rfl⟩
      rw [fes_keys] at this; exact T.lt _ this
    have lenF := es_len ndF ltF
    refine h_loc H4 TM0.F (h_loc H4 TM0.x ⟨h4, tk5, _, _, _, d.aF, x, fes σ lo, epF, rfl, rfl, rfl, hx, H4, memF4, DAt.of (NO.at SS H4) (H4.get memF4) ndF ltF, by lia, fun h5 tk6 ep6 H5 => ?_⟩)
    refine put_as memF4 K4 d.all_F H5 fun led5 H5 s5 k5 _ K5 => ?_
    -- rel = R(x)
    have memR5 := k5 (k4 (k3 (k1 memR (Ne.symm n7)) (Ne.symm n4)) (Ne.symm n10)) (Ne.symm n9)
    refine wpAny_execs_cons (wpAny_Assign_Name (Call_ (h_loc H5 TM0.R (h_callF (fnR SS H5) (spliced_more (h_loc H5 TM0.x (spliced_none ⟨fnR SS H5, ?_⟩)))))))
    refine RR _ _ _ _ _ _ _ _ _ x σ.begun epR H5 rfl SS hx memR5 (by lia) (by show c.dp + 1 + 1 < _; lia) (by show c.un + 3 + 80 < _; lia) ?_
    intro ep7 h6 tk7 H6
    refine h_store H6 fun h7 tk8 H7 => ?_
    refine put_as memR5 K5 d.all_r H7 fun led7 H7 s7 k7 _ K7 => ?_
    -- the state is that of enter
    have T7 : TI w kd nv n d (G.enter V x σ) (G.upd lo x aw) led7 := by
      refine T.enter hx hxb hlaw ⟨dput esN x (.int ((σ.stack.length : Int) + 1) ud), ep3, ?_, dput_keys ndN, ?_, ?_⟩ ⟨epS + 1, ?_⟩ ⟨ep6, ?_⟩ ⟨ep4, ?_⟩ ⟨ep7, ?_⟩ ⟨us, ep5, ?_, hus⟩ K7
      · exact k7 (k5 (k4 s3 n3) n2) n4
      · intro p hp
        rcases dput_mem hp with h | h
        · rw [h]; exact hx
        · exact ltN p h
      · intro j hj
        by_cases e : j = x
        · subst e; exact ⟨ud, by rw [dget_dput_self]; simp [G.upd]⟩
        · obtain ⟨u', hu'⟩ := gN j hj
          exact ⟨u', by rw [dget_dput_ne e, hu']; simp [G.upd, e]⟩
      · exact k7 (k5 (k4 (k3 s1 (Ne.symm n1)) n6) n5) n7
      · exact k7 s5 n9
      · exact k7 (k5 s4 (Ne.symm n8)) n10
      · exact s7
      · exact k7 (k5 w4 (Ne.symm hawF)) (Nat.ne_of_gt (hlaw _ memR))
    have G7 : Grow d σ lo led (G.enter V x σ) (G.upd lo x aw) led7 := by
      refine ⟨fun i hi => ⟨List.mem_append_left _ hi, G.upd_ne _ _ fun e => hxb (e ▸ hi)⟩, fun j hj hn q hq => ?_, fun p hp h1 _ => K7 p hp h1 (by simp), fun q hq => ?_⟩
      · have : j = x := by
          rcases List.mem_append.mp hj with h | h
          · exact absurd h hn
          · simpa using h
        rw [this, G.upd_self]; exact Nat.ne_of_lt (hlaw q hq)
      · by_cases e : q.1 ∈ d.all
        · unfold Ad.all at e
          simp only [List.mem_cons, List.not_mem_nil, or_false] at e
          rcases e with e | e | e | e | e <;> rw [e]
          · obtain ⟨es, ep, h, _⟩ := T7.N; exact ⟨_, h⟩
          · obtain ⟨ep, h⟩ := T7.S; exact ⟨_, h⟩
          · obtain ⟨ep, h⟩ := T7.F; exact ⟨_, h⟩
          · obtain ⟨ep, h⟩ := T7.B; exact ⟨_, h⟩
          · obtain ⟨ep, h⟩ := T7.R; exact ⟨_, h⟩
        · exact ⟨q.2, K7 q hq e (by simp)⟩
    obtain ⟨Y, hY7, Y1, YN, YS, YF, YX, YR, YP, Yd, Yy, Ya, Ye⟩ := TM0.seal (v0 := .int ((σ.stack.length : Int) + 1) ud) (v1 := .ref (la x))
    have hr7 : mset (mset m' (Str.ofString "d") (.int ((σ.stack.length : Int) + 1) ud)) (Str.ofString "rel") (.ref (la x)) (Str.ofString "rel") = some (.ref (la x)) := rfl
    generalize mset (mset m' (Str.ofString "d") (.int ((σ.stack.length : Int) + 1) ud)) (Str.ofString "rel") (.ref (la x)) = m7 at H7 hY7 hr7
    clear memR5 memF4 memB3 memN2 s1 k1 d1 K1 s3 k3 d3 K3 w4 s4 k4 K4 s5 k5 K5 s7 k7
    have hxb7 : x ∈ (G.enter V x σ).begun := List.mem_append_right _ (List.mem_singleton.mpr rfl)
    have Z7 : Szs (G.enter V x σ) := by
      intro i hi
      show Few (G.upd σ.C x (V x) i)
      rcases List.mem_append.mp hi with h | h
      · rw [G.upd_ne _ _ (show i ≠ x from fun e => hxb (e ▸ h))]; exact Z i h
      · rw [show i = x by simpa using h, G.upd_self]; exact hVf x hx
    obtain ⟨I, inI, ouI⟩ : ∃ I : G.TS Int → (Nat → Addr) → List (Addr × Obj) → Prop, (∀ {a b l}, TI w kd nv n d a b l → Szs a → Grow d σ lo led a b l → I a b l) ∧ (∀ {a b l}, I a b l → TI w kd nv n d a b l ∧ Szs a ∧ Grow d σ lo led a b l) := ⟨_, fun T Z G => ⟨T, Z, G⟩, fun h => h⟩
    have hI7 := inI T7 Z7 G7
    have hEnd : ∀ {b l m h tk}, Here w t (cx9 Hc) m l h → I σ' b l → Rq .next (sh s h tk) := fun H₁ hI => hRq _ _ _ _ _ H₁ fun H' => hQ _ _ _ _ H' (ouI hI).1 (ouI hI).2.1 (ouI hI).2.2
    clear T7 Z7 G7
    refine wpAny_execs_cons (wpAny_For (h_loc H7 hr7 (h_forList (vs := (E x).map nv) (fun i => LoopT Y I x fun σi => ((E x).drop i).foldlM (G.turn (G.trav E V f) x) σi = some σ1) H7
      ⟨_, _, hY7, hI7, hxb7, by simpa using hf⟩ ?_ ?_ ?_)))
    · rintro i m₁ led₁ fz h hfz _ H₁
      exact ⟨_, (SS.wz hfz).get H₁ (hL x hx)⟩
    · rintro i v m₁ led₁ h tk₁ fz Rz hRz hv hfz ⟨σi, loi, hY₁, hIi, hxi, hfi⟩ H₁
      obtain ⟨y, hy, rfl⟩ : ∃ y, (E x)[i]? = some y ∧ nv y = v := by simpa [List.getElem?_map] using hv
      have hyE : y ∈ E x := List.mem_of_getElem? hy
      have hyn := hE x hx y hyE
      have hdrop : (E x).drop i = y :: (E x).drop (i + 1) := by
        obtain ⟨hl, e⟩ := List.getElem?_eq_some_iff.mp hy
        rw [← e]; exact List.drop_eq_getElem_cons hl
      rw [hdrop, List.foldlM_cons] at hfi
      have hYy := Yy (v := nv y) hY₁
      have hyy : mset m₁ (Str.ofString "y") (nv y) (Str.ofString "y") = some (nv y) := rfl
      generalize mset m₁ (Str.ofString "y") (nv y) = my at H₁ hYy hyy
      have Si := SS.wz hfz
      cases ht : (if σi.N y = 0 then G.trav E V f y σi else some σi) with
      | none => unfold G.turn at hfi; rw [ht] at hfi; cases hfi
      | some σ2 =>
      have hturn : G.turn (G.trav E V f) x σi y = if x ∈ σ2.begun ∧ y ∈ σ2.begun then some (G.meet x y σ2) else none := by unfold G.turn; rw [ht]; rfl
      rw [hturn] at hfi
      by_cases hxy : x ∈ σ2.begun ∧ y ∈ σ2.begun
      case neg => rw [if_neg hxy] at hfi; cases hfi
      rw [if_pos hxy] at hfi
      have hfi : ((E x).drop (i + 1)).foldlM (G.turn (G.trav E V f) x) (G.meet x y σ2) = some σ1 := hfi
      -- if N[y] == 0: traverse(y, ..)
      refine wpAny_execs_cons (wpAny_mono (Q := fun fl s' => fl = .next ∧ Ex4 fun lo2 led2 h2 tk2 => s' = sh s h2 tk2 ∧ H₁.as my led2 h2 ∧ I σ2 lo2 led2) (E := NoE) ?_ ?_ fun _ _ x => x)
      · refine opaqueQ fun Rt hRt => ?_
        obtain ⟨Ti, Zi, Gi⟩ := ouI hIi
        obtain ⟨esi, epi, memi, ndi, lti, gi⟩ := Ti.N
        obtain ⟨uy, hgy⟩ := gi y hyn
        refine wpAny_If (wpAny_isTrue_Compare1 (h_item (s := s) (kd := kd) (n := n) (nv := nv) hu1 (h_loc H₁ (YN hYy) (h_loc H₁ hyy ⟨h, tk₁, d.aN, y, esi, _, rfl, rfl, rfl, hyn, DAt.of (NO.at Si H₁) (H₁.get memi) ndi lti, hgy, fun tk2 => h_int fun u0 tk3 => h_eq_int (wpAny_truthy_bool ?_)⟩))))
        by_cases h0 : σi.N y = 0
        · rw [if_pos h0] at ht
          rw [show (σi.N y == 0) = true by rw [h0]; rfl]
          have hyb : y ∉ σi.begun := fun hb => by have := Ti.pos y hb; lia
          refine wpAny_execs_cons (wpAny_Expr (Call_ (h_glob H₁ (v := .ref 28) rfl (h_callArgs H₁.frag rfl (spliced_more (h_loc H₁ hyy ?_))))))
          refine spliced_more (h_loc H₁ (YN hYy) (spliced_more (h_loc H₁ (YS hYy) (spliced_more (h_loc H₁ (YF hYy) (spliced_more (h_loc H₁ (YX hYy) (spliced_more (h_loc H₁ (YR hYy) (spliced_more (h_loc H₁ (YP hYy) (spliced_none ⟨H₁.frag, ?_⟩))))))))))))
          refine ih y σi σ2 ht _ _ _ _ _ _ _ _ _ loi H₁ rfl Si hyn hyb Ti Zi (by show c.dp + 1 + f + 2 < _; lia) (by show c.un + 3 + 8 * f + 100 < _; lia) ?_
          intro lo2 led2 h2 tk4 H2 T2 Z2 G2
          exact wpAny_execs_nil (hRt _ _ ⟨rfl, lo2, led2, h2, tk4, rfl, H2, inI T2 Z2 (Gi.trans G2)⟩)
        · rw [if_neg h0] at ht
          cases ht
          rw [show (σi.N y == 0) = false from beq_eq_false_iff_ne.mpr h0]
          exact wpAny_execs_nil (hRt _ _ ⟨rfl, loi, led₁, h, _, rfl, H₁, hIi⟩)
      · rintro fl s' ⟨rfl, lo2, led2, h2, tk2, rfl, H2, hI2⟩
        obtain ⟨hx2, hy2⟩ := hxy
        obtain ⟨T2, Z2, G2⟩ := ouI hI2
        obtain ⟨es2, ep2, mem2, nd2, lt2, g2⟩ := T2.N
        obtain ⟨ux, hgx⟩ := g2 x hx
        obtain ⟨uy, hgy⟩ := g2 y hyn
        have len2 := es_len nd2 lt2
        have D2 := DAt.of (NO.at Si H2) (H2.get mem2) nd2 lt2
        -- N[x] = min(N[x], N[y])
        refine wpAny_execs_cons (h_setitem (t := t) (s := s) (kd := kd) (n := n) (nv := nv) hu1 (h_min (s := s) (t := t) H2 (h_item (s := s) (kd := kd) (n := n) (nv := nv) hu1 (h_loc H2 (YN hYy) (h_loc H2 (Y1 hYy) ⟨h2, tk2, d.aN, x, es2, _, rfl, rfl, rfl, hx, D2, hgx, fun tk3 =>
          h_item (s := s) (kd := kd) (n := n) (nv := nv) hu1 (h_loc H2 (YN hYy) (h_loc H2 hyy ⟨h2, tk3, d.aN, y, es2, _, rfl, rfl, rfl, hyn, D2, hgy, fun tk4 => ⟨h2, tk4, _, _, _, _, _, _, _, rfl, rfl, rfl, H2, rfl, fun um h3 tk5 H3 => ?_⟩⟩))⟩)))))
        refine h_loc H3 (YN hYy) (h_loc H3 (Y1 hYy) ⟨h3, tk5, _, _, _, d.aN, x, es2, ep2, rfl, rfl, rfl, hx, H3, mem2, DAt.of (NO.at Si H3) (H3.get mem2) nd2 lt2, by lia, fun h4 tk6 ep4 H4 => ?_⟩)
        have hmin : 1 ≤ min (σ2.N x) (σ2.N y) := by have := T2.pos x hx2; have := T2.pos y hy2; lia
        obtain ⟨σ4, hσ4⟩ : ∃ σ4 : G.TS Int, σ4 = { σ2 with N := G.upd σ2.N x (min (σ2.N x) (σ2.N y)) } := ⟨_, rfl⟩
        have hb4 : σ4.begun = σ2.begun := by rw [hσ4]
        have T4 := T2.setN (u := um) (ep' := ep4) (v := min (σ2.N x) (σ2.N y)) mem2 nd2 lt2 g2 hx hmin
        rw [← hσ4] at T4
        have G4 := Grow.put (σ'' := σ4) (o' := dObj w kd nv (dput es2 x (.int (min (σ2.N x) (σ2.N y)) um)) ep4) G2 hb4 mem2 (.inl d.all_N)
        have Z4 : Szs σ4 := by rw [hσ4]; exact Z2
        generalize lput led2 d.aN (dObj w kd nv (dput es2 x (.int (min (σ2.N x) (σ2.N y)) um)) ep4) = led4 at H4 T4 G4
        have hmt : ∀ {j}, (σ4.C (σ4.fid y)).length = j → mid σ4 x y j = G.meet x y σ2 := fun h => by rw [mid_end h, hσ4]; rfl
        have hxm : x ∈ (G.meet x y σ2).begun := hx2
        rw [← hb4] at hx2 hy2
        have hI4 := inI T4 Z4 G4
        clear hσ4
        -- for a in F.get(y, [])
        obtain ⟨epF4, memF4⟩ := T4.F
        have ndF4 : ((fes σ4 lo2).map (·.1)).Nodup := by rw [fes_keys]; exact T4.nd
        have ltF4 : ∀ p ∈ fes σ4 lo2, p.1 < n := fun p hp => by
          have : p.1 ∈ (fes σ4 lo2).map (·.1) := List.mem_map.mpr ⟨p, hp, rfl⟩
          rw [fes_keys] at this; exact T4.lt _ this
        have hfy := T4.fid y hy2
        have hfx := T4.fid x hx2
        obtain ⟨usy, epy, memy, husy⟩ := T4.C _ hfy
        refine wpAny_execs_cons (wpAny_For (h_get (s := s) (kd := kd) (n := n) (nv := nv) hu1 hsys (h_loc H4 (YF hYy) ⟨rfl, ⟨_, _, H4.get memF4⟩, h_loc H4 hyy (List_ (spliced_none (h_newList H4 (by decide) fun a5 h5 _ _ H5 => ⟨h5, tk6, y, fes σ4 lo2, rfl, rfl, hyn, DAt.of (NO.at Si (H5.mono fun p hp => .tail _ hp)) (H5.get (.tail _ memF4)) ndF4 ltF4, fun tk7 => ?_⟩)))⟩)))
        have H5 := H5.mono (led' := led4) fun p hp => .tail _ hp
        rw [fes_get hy2 T4.nd]
        refine h_forList (vs := usy) (fun j m₂ led₂ => Y m₂ ∧ (∃ ep, (lo2 (σ4.fid y), lObj usy ep) ∈ led₂) ∧ I (mid σ4 x y j) lo2 led₂) H5 ⟨hYy, ⟨epy, memy⟩, (mid_zero σ4 x y).symm ▸ hI4⟩ ?_ ?_ ?_
        · rintro j m₂ led₂ fz₂ h hfz₂ ⟨_, ⟨ep, hm⟩, _⟩ H₂
          exact ⟨ep, H₂.get hm⟩
        · rintro j v m₂ led₂ h tk₂ fz₂ Ra hRa hv hfz₂ ⟨hY₂, ⟨epl, meml⟩, hIj⟩ H₂
          obtain ⟨a, ua, rfl, hav⟩ := husy.at hv
          have Sj := Si.wz hfz₂
          have hYa := Ya (v := .int a ua) hY₂
          have haa : mset m₂ (Str.ofString "a") (.int a ua) (Str.ofString "a") = some (.int a ua) := rfl
          generalize mset m₂ (Str.ofString "a") (.int a ua) = ma at H₂ hYa haa
          have hIn := mid_in (x := x) hav
          have hOut := mid_out (x := x) hav
          have hCj : ∀ b, b ∈ (mid σ4 x y j).C (σ4.fid x) ↔ b ∈ σ4.C (σ4.fid x) ∨ b ∈ (σ4.C (σ4.fid y)).take j := fun b => by rw [mid_C]; exact G.mem_mrg
          have hbj : (mid σ4 x y j).begun = σ4.begun := rfl
          have hfj : (mid σ4 x y j).fid = σ4.fid := rfl
          generalize mid σ4 x y j = σj at hIj hIn hOut hCj hbj hfj
          obtain ⟨Tj, Zj, Gj⟩ := ouI hIj
          have hfxj : σ4.fid x ∈ σj.begun := by rw [hbj]; exact hfx
          obtain ⟨epFj, memFj⟩ := Tj.F
          have ndFj : ((fes σj lo2).map (·.1)).Nodup := by rw [fes_keys]; exact Tj.nd
          have ltFj : ∀ p ∈ fes σj lo2, p.1 < n := fun p hp => by
            have : p.1 ∈ (fes σj lo2).map (·.1) := List.mem_map.mpr ⟨p, hp, rfl⟩
            rw [fes_keys] at this; exact Tj.lt _ this
          have Dj := DAt.of (NO.at Sj H₂) (H₂.get memFj) ndFj ltFj
          have gFj : dget (fes σj lo2) x = some (.ref (lo2 (σ4.fid x))) := by rw [← hfj]; exact fes_get (by rw [hbj]; exact hx2) Tj.nd
          obtain ⟨usx, epx, memx, husx⟩ := Tj.C _ hfxj
          refine wpAny_execs_cons (wpAny_If (wpAny_isTrue_Compare1 (h_loc H₂ haa (h_item (s := s) (kd := kd) (n := n) (nv := nv) hu1 (h_loc H₂ (YF hYa) (h_loc H₂ (Y1 hYa) ⟨h, tk₂, d.aF, x, _, _, rfl, rfl, rfl, hx, Dj, gFj, fun tk3 => h_notin_ints (H₂.get memx) husx (wpAny_truthy_bool ?_)⟩))))))
          by_cases hmem : a ∈ σj.C (σ4.fid x)
          · rw [decide_eq_true hmem]
            exact wpAny_execs_nil (wpAny_execs_nil (hRa _ _ _ _ H₂ ⟨hYa, ⟨epl, meml⟩, (hIn hmem).symm ▸ hIj⟩))
          · rw [decide_eq_false hmem]
            have hne : lo2 (σ4.fid y) ≠ lo2 (σ4.fid x) := fun e => hmem (by
              have e2 := T4.inj _ hfy _ hfx e
              rw [hCj, ← e2]; exact .inl (List.mem_of_getElem? hav))
            have fewj := Zj _ hfxj
            have hlx := husx.length
            have hl2 := fewj.len
            refine wpAny_execs_cons (h_append (w := w) (t := t) (h_item (s := s) (kd := kd) (n := n) (nv := nv) hu1 (h_loc H₂ (YF hYa) (h_loc H₂ (Y1 hYa) ⟨h, _, d.aF, x, _, _, rfl, rfl, rfl, hx, Dj, gFj, fun tk4 => ⟨_, usx, epx, rfl, H₂.get memx, h_loc H₂ haa ⟨_, _, _, h, _, usx, epx, rfl, H₂, memx, by lia, fun h6 tk6 H6 => ?_⟩⟩⟩))))
            have ha4 : 0 ≤ a ∧ a < 1000 := (Z4 _ hfy).2 a (List.mem_of_getElem? hav)
            refine wpAny_execs_nil (wpAny_execs_nil (hRa _ _ _ _ H6 ⟨hYa, ⟨epl, lput_ne meml hne⟩, ?_⟩))
            rw [hOut hmem]
            refine inI (Tj.addC hfxj memx husx) ?_ (Gj.put (σ'' := { σj with C := G.upd σj.C (σ4.fid x) (σj.C (σ4.fid x) ++ [a]) }) rfl memx (.inr ⟨_, hfxj, rfl⟩))
            intro i hi
            show Few (G.upd σj.C (σ4.fid x) (σj.C (σ4.fid x) ++ [a]) i)
            by_cases ei : i = σ4.fid x
            · rw [ei, G.upd_self]; exact fewj.snoc hmem ha4
            · rw [G.upd_ne _ _ ei]; exact Zj i hi
        · rintro m₂ led₂ h tk₂ ⟨hY₂, _, hIj⟩ H₂
          rw [hmt husy.length.symm] at hIj
          exact wpAny_execs_nil ((hRz _ _ h _ H₂ ⟨_, _, hY₂, hIj, hxm, hfi⟩))
    · rintro m₁ led₁ h tk₁ ⟨σi, loi, hY₁, hIi, hxi, hfi⟩ H₁
      rw [List.drop_eq_nil_of_le (by simp)] at hfi
      have e : σi = σ1 := by simpa using hfi
      subst e
      obtain ⟨Ti, Zi, Gi⟩ := ouI hIi
      obtain ⟨es1, ep1, mem1, nd1, lt1, g1⟩ := Ti.N
      obtain ⟨ux, hgx⟩ := g1 x hx
      refine wpAny_execs_cons (wpAny_If (wpAny_isTrue_Compare1 (h_item (s := s) (kd := kd) (n := n) (nv := nv) hu1 (h_loc H₁ (YN hY₁) (h_loc H₁ (Y1 hY₁) ⟨h, tk₁, d.aN, x, es1, _, rfl, rfl, rfl, hx, DAt.of (NO.at SS H₁) (H₁.get mem1) nd1 lt1, hgx, fun tk2 => h_loc H₁ (Yd hY₁) (h_eq_int (wpAny_truthy_bool ?_))⟩)))))
      by_cases hN : σi.N x = (σ.stack.length : Int) + 1
      case neg =>
        rw [if_neg hN] at hw
        rw [show (σi.N x == (σ.stack.length : Int) + 1) = false from beq_eq_false_iff_ne.mpr hN]
        cases hw
        exact wpAny_execs_nil (wpAny_execs_nil (hEnd H₁ hIi))
      rw [if_pos hN] at hw
      rw [show (σi.N x == (σ.stack.length : Int) + 1) = true from beq_iff_eq.mpr hN]
      generalize hkk : σi.stack.length = kk at hw
      cases kk with
      | zero => simp [G.popTo] at hw
      | succ kk =>
      unfold G.popTo at hw
      cases hl : σi.stack.getLast? with
      | none => rw [hl] at hw; cases hw
      | some e =>
      rw [hl] at hw
      simp only at hw
      refine pop3 NO SS H₁ hsm Ti hl hxi hu1 (YN hY₁) (YS hY₁) (YF hY₁) (Y1 hY₁) (fun led2 h2 tk3 H2 T2 G2 => ?_)
      have hen : e < n := Ti.lt e (Ti.sub e (List.mem_of_getLast? hl))
      refine wpAny_execs_cons (h_while (fun k => WhilT w t (cx9 H₁) s nv n Y I x fun e σi => (if e = x then some σi else G.popTo x k σi) = some σ') ?_ kk ⟨_, e, _, _, _, h2, tk3, rfl, H2, Ye hY₁, rfl, hen, inI T2 Zi (G2 Gi), hxi, hw⟩)
      rintro k s' ⟨σi, e, loi, led₁, m₁, h, tk, rfl, H₁, hY₁, he₁, hen, hIi, hxi, hw⟩
      refine wpAny_isTrue_Compare1 (h_loc H₁ he₁ (h_loc H₁ (Y1 hY₁) (h_ne_names (by show c.un + 3 + 64 < cLine; lia) (NO.at SS H₁) hsm hen hx (wpAny_truthy_bool ?_))))
      by_cases hex : e = x
      · rw [if_pos hex] at hw
        cases hw
        rw [decide_eq_true hex]
        exact wpAny_execs_nil (wpAny_execs_nil (hEnd H₁ hIi))
      · rw [if_neg hex] at hw
        rw [decide_eq_false hex]
        cases k with
        | zero => simp [G.popTo] at hw
        | succ k =>
        unfold G.popTo at hw
        cases hl : σi.stack.getLast? with
        | none => rw [hl] at hw; cases hw
        | some e2 =>
        rw [hl] at hw
        simp only at hw
        obtain ⟨Ti, Zi, Gi⟩ := ouI hIi
        refine pop3 NO SS H₁ hsm Ti hl hxi hu1 (YN hY₁) (YS hY₁) (YF hY₁) (Y1 hY₁) (fun led2 h2 tk3 H2 T2 G2 => ?_)
        exact wpAny_execs_nil ⟨rfl, k, Nat.lt_succ_self k, _, e2, _, _, _, h2, tk3, rfl, H2, Ye hY₁, rfl, Ti.lt e2 (Ti.sub e2 (List.mem_of_getLast? hl)), inI T2 Zi (G2 Gi), hxi, hw⟩
end
end Mine
end

-- part C10
section
open PySem PySem.W PyProof.Rows PySem.Spec
set_option linter.unusedSectionVars false
set_option linter.unusedVariables false
set_option maxRecDepth 100000
namespace Mine
section
variable {prog : Program} {M : Model} {w : World} {t : Tp} {c : Cx} {m : Str → Option Value} {led sl : List (Addr × Obj)} {Er : Value → Shared → Prop} {s : Shared} {h h' : Heap} {A : Around} {kd n : Nat} {nv : Nat → Value} {env : Env}

theorem Here.big (H : Here w t c m led h) : 59 < h.objs.size := Heap.lt_size (H.frag 59 _ rfl)

theorem h_newDict {pos : Pos} {Q : Value → Shared → Prop} {tk : Nat} (H : Here w t c m led h) (hq : ∀ a h', (∀ q ∈ led, q.1 < a) → (∀ q ∈ c.fz, q.1 < a) → 1 < a → Here w t c m ((a, dObj w kd nv [] 0) :: led) h' → Q (.ref a) (sh s h' tk)) :
    wpAny M A (eval (.Dict [] [] pos) env) Q Er (sh s h tk) :=
  wpAny_Dict_empty (s := sh s h tk) (hq _ _ (fun q hq => Heap.lt_size (H.N q hq).1) (fun q hq => Heap.lt_size (H.Z q hq).1) (Nat.lt_trans (by decide) H.big) (H.push _))

theorem digr_ok {E : Nat → List Nat} {V : Nat → List Int} {la : Nat → Addr} {ee : Nat → Nat} {aX ab ar aP aR : Addr} {oP oR : Obj} {fP fR : FuncData} {order : List Nat} {f eX epb epr tk : Nat} {σ' : G.TS Int} {Q : Value → Shared → Prop} (NO : NamesOk kd nv n sl) (hE : ∀ x, x < n → ∀ y ∈ E x, y < n) (hsm : n ≤ 1000) (hor : ∀ x, x ∈ order ↔ x < n)
    (hL : ∀ k, k < n → (la k, lObj ((E k).map nv) (ee k)) ∈ sl) (FP : FPok prog w t kd n nv V sl ab aP) (RR : Rok prog w t n nv la sl ar aR) (hP : (aP, oP) ∈ sl) (hPd : oP.data = .func fP) (hR : (aR, oR) ∈ sl) (hRd : oR.data = .func fR) (hVf : ∀ x, x < n → Few (V x)) (hX : (aX, lObj (order.map nv) eX) ∈ sl)
    (hw : G.digr E V f order = some σ') (H : Here w t c m led h) (S : St c sl) (hb : (ab, lObj [] epb) ∈ led) (hr : (ar, lObj [] epr) ∈ led) (hbr : ab ≠ ar) (hd : c.dp + f + 3 < recursionLimit) (hu : c.un + 8 * f + 110 < cLine)
    (hQ : ∀ d lo led' h' tk', d.ab = ab → d.ar = ar → (∀ q ∈ led, q.1 < d.aF) → Here w t c m led' h' → TI w kd nv n d σ' lo led' → Szs σ' → (∀ p ∈ led, p.1 ≠ ab → p.1 ≠ ar → p ∈ led') → (∀ i ∈ σ'.begun, ∀ q ∈ led, q.1 ≠ lo i) → Q (.ref d.aF) (sh s h' tk')) (hA : A = c.A := by rfl) :
    wpAny (model prog w) A (call (.ref 21) [.ref aX, .ref aR, .ref aP]) Q Er (sh s h tk) := by
  subst hA
  refine h_enter H rfl rfl (by lia) (BindsTo.of_eq rfl) (locs rfl) ?_
  intro g L' h' m' tk' hm G0 Hc Rq hRq
  have hX' : m' (Str.ofString "X") = some (.ref aX) := by rw [hm]; rfl
  have hR' : m' (Str.ofString "R") = some (.ref aR) := by rw [hm]; rfl
  have hP' : m' (Str.ofString "FP") = some (.ref aP) := by rw [hm]; rfl
  clear hm
  have hu1 : c.un + 3 + 1 < cLine := by lia
  -- N = {}
  refine wpAny_execs_cons (wpAny_Assign_Name (h_newDict (kd := kd) (nv := nv) Hc fun aN h1 hlt1 _ h1N H1 => h_store H1 fun h2 tk2 H2 => ?_))
  -- for x in X: N[x] = 0
  refine wpAny_execs_cons (wpAny_For (h_loc H2 hX' (h_forList (vs := order.map nv) (fun i m₁ led₁ => m₁ (Str.ofString "X") = some (.ref aX) ∧ m₁ (Str.ofString "R") = some (.ref aR) ∧ m₁ (Str.ofString "FP") = some (.ref aP) ∧ m₁ (Str.ofString "N") = some (.ref aN) ∧
    ∃ es ep, led₁ = (aN, dObj w kd nv es ep) :: led ∧ (es.map (·.1)).Nodup ∧ (∀ p ∈ es, p.1 < n) ∧ ∀ k ∈ order.take i, ∃ u, dget es k = some (.int 0 u)) H2 ⟨hX', hR', hP', rfl, [], 0, rfl, .nil, by simp, by simp⟩ ?_ ?_ ?_)))
  · rintro i m₁ led₁ fz h hfz _ H₁
    exact ⟨_, ((S.sub H G0).wz hfz).get H₁ hX⟩
  · rintro i v m₁ led₁ h tk₁ fz Rz hRz hv hfz ⟨hX₁, hR₁, hP₁, hN₁, es, ep, rfl, nd, lt, ge⟩ H₁
    obtain ⟨y, hy, rfl⟩ : ∃ y, order[i]? = some y ∧ nv y = v := by simpa [List.getElem?_map] using hv
    have hyn : y < n := (hor y).mp (List.mem_of_getElem? hy)
    have hl := es_len nd lt
    refine wpAny_execs_cons (h_setitem (t := t) (s := s) (kd := kd) (n := n) (nv := nv) hu1 (h_int fun u0 tk2 => h_loc H₁ hN₁ (h_loc H₁ (v := nv y) rfl ⟨h, tk2, _, _, _, aN, y, es, ep, rfl, rfl, rfl, hyn, H₁, .head _, DAt.of (NO.at ((S.sub H G0).wz hfz) H₁) (H₁.get (.head _)) nd lt, by lia, fun h5 tk5 ep5 H5 => ?_⟩)))
    have e0 : lput ((aN, dObj w kd nv es ep) :: led) aN (dObj w kd nv (dput es y (.int 0 u0)) ep5) = (aN, dObj w kd nv (dput es y (.int 0 u0)) ep5) :: led := by
      unfold lput
      rw [List.map_cons, if_pos rfl]
      congr 1
      conv => rhs; rw [← List.map_id led]
      apply List.map_congr_left
      intro q hq; rw [if_neg (Nat.ne_of_lt (hlt1 q hq))]; rfl
    rw [e0] at H5
    refine wpAny_execs_nil (hRz _ _ h5 tk5 H5 ⟨hX₁, hR₁, hP₁, hN₁, _, ep5, rfl, dput_keys nd, ?_, ?_⟩)
    · intro p hp
      rcases dput_mem hp with h | h
      · rw [h]; exact hyn
      · exact lt p h
    · intro k hk
      by_cases e : k = y
      · subst e; exact ⟨u0, dget_dput_self ..⟩
      · rw [dget_dput_ne e]
        refine ge k ?_
        rw [List.take_add_one, hy] at hk
        rcases List.mem_append.mp hk with h | h
        · exact h
        · exact absurd (by simpa using h) e
  · rintro m₁ led₁ h tk₁ ⟨hX₁, hR₁, hP₁, hN₁, es, ep, rfl, nd, lt, ge⟩ H₁
    rw [List.take_of_length_le (by simp)] at ge
    -- stack = []; F = {}
    refine wpAny_execs_cons (wpAny_Assign_Name (List_ (spliced_none (h_newList H₁ (by decide) fun aS h3 hlt3 _ H3 => h_store H3 fun h4 tk4 H4 => ?_))))
    refine wpAny_execs_cons (wpAny_Assign_Name (h_newDict (kd := kd) (nv := nv) H4 fun aF h5 hlt5 _ h5F H5 => h_store H5 fun h6 tk6 H6 => ?_))
    have T0 : TI w kd nv n ⟨aN, aS, aF, ab, ar⟩ G.start (fun _ => 0) ((aF, dObj w kd nv [] 0) :: (aS, lObj [] 0) :: (aN, dObj w kd nv es ep) :: led) := by
      have q1 := hlt1 _ hb; have q2 := hlt1 _ hr
      have q3 := hlt3 _ (.tail _ hb); have q4 := hlt3 _ (.tail _ hr); have q5 := hlt3 _ (.head _)
      have q6 := hlt5 _ (.tail _ (.tail _ hb)); have q7 := hlt5 _ (.tail _ (.tail _ hr)); have q8 := hlt5 _ (.head _); have q9 := hlt5 _ (.tail _ (.head _))
      simp only at q1 q2 q3 q4 q5 q6 q7 q8 q9
      refine ⟨⟨es, ep, .tail _ (.tail _ (.head _)), nd, lt, fun k hk => ge k ((hor k).mpr hk)⟩, ⟨0, .tail _ (.head _)⟩, ⟨0, .head _⟩, ⟨epb, .tail _ (.tail _ (.tail _ hb))⟩, ⟨epr, .tail _ (.tail _ (.tail _ hr))⟩, ?_, .nil, ?_, ?_, ?_, ?_, ?_, ?_, ?_, ?_⟩
      · intro i hi; cases hi
      · intro i hi; cases hi
      · intro i hi; cases hi
      · exact Nat.le_refl _
      · intro i hi; cases hi
      · intro i hi; cases hi
      · intro i hi; cases hi
      · unfold Ad.all
        simp only [List.nodup_cons, List.mem_cons, List.not_mem_nil, or_false, not_or]
        exact ⟨⟨Nat.ne_of_lt q5, Nat.ne_of_lt q9, Nat.ne_of_gt q1, Nat.ne_of_gt q2⟩, ⟨Nat.ne_of_lt q8, Nat.ne_of_gt q3, Nat.ne_of_gt q4⟩, ⟨Nat.ne_of_gt q6, Nat.ne_of_gt q7⟩, hbr, by simp⟩
      · intro i hi; cases hi
    have Gr0 := Grow.refl ⟨aN, aS, aF, ab, ar⟩ G.start (fun _ => 0) ((aF, dObj w kd nv [] 0) :: (aS, lObj [] 0) :: (aN, dObj w kd nv es ep) :: led)
    have hN6 := hN₁
    refine wpAny_execs_cons (wpAny_For (h_loc H6 hX₁ (h_forList (vs := order.map nv) (fun i m₁ led₁ => m₁ (Str.ofString "X") = some (.ref aX) ∧ m₁ (Str.ofString "R") = some (.ref aR) ∧ m₁ (Str.ofString "FP") = some (.ref aP) ∧ m₁ (Str.ofString "N") = some (.ref aN) ∧ m₁ (Str.ofString "stack") = some (.ref aS) ∧ m₁ (Str.ofString "F") = some (.ref aF) ∧
      ∃ σi loi, TI w kd nv n ⟨aN, aS, aF, ab, ar⟩ σi loi led₁ ∧ Szs σi ∧ Grow ⟨aN, aS, aF, ab, ar⟩ G.start (fun _ => 0) ((aF, dObj w kd nv [] 0) :: (aS, lObj [] 0) :: (aN, dObj w kd nv es ep) :: led) σi loi led₁ ∧
        (order.drop i).foldlM (fun σ x => if σ.N x = 0 then G.trav E V f x σ else some σ) σi = some σ') H6 ⟨hX₁, hR₁, hP₁, hN₁, rfl, rfl, _, _, T0, (fun i hi => by cases hi), Gr0, by unfold G.digr at hw; simpa using hw⟩ ?_ ?_ ?_)))
    · rintro i m₁ led₁ fz h hfz _ H₁
      exact ⟨_, ((S.sub H G0).wz hfz).get H₁ hX⟩
    · rintro i v m₁ led₁ h tk₁ fz Rz hRz hv hfz ⟨hX₁, hR₁, hP₁, hN₁, hS₁, hF₁, σi, loi, Ti, Zi, Gi, hfi⟩ H₁
      obtain ⟨y, hy, rfl⟩ : ∃ y, order[i]? = some y ∧ nv y = v := by simpa [List.getElem?_map] using hv
      have hyn : y < n := (hor y).mp (List.mem_of_getElem? hy)
      have hdrop : order.drop i = y :: order.drop (i + 1) := by
        obtain ⟨hl, e⟩ := List.getElem?_eq_some_iff.mp hy
        rw [← e]; exact List.drop_eq_getElem_cons hl
      rw [hdrop, List.foldlM_cons] at hfi
      have Si := (S.sub H G0).wz hfz
      obtain ⟨esi, epi, memi, ndi, lti, gi⟩ := Ti.N
      obtain ⟨uy, hgy⟩ := gi y hyn
      refine wpAny_execs_cons (wpAny_If (wpAny_isTrue_Compare1 (h_item (s := s) (kd := kd) (n := n) (nv := nv) hu1 (h_loc H₁ hN₁ (h_loc H₁ (v := nv y) rfl ⟨h, tk₁, aN, y, esi, _, rfl, rfl, rfl, hyn, DAt.of (NO.at Si H₁) (H₁.get memi) ndi lti, hgy, fun tk2 => h_int fun u0 tk3 => h_eq_int (wpAny_truthy_bool ?_)⟩)))))
      by_cases h0 : σi.N y = 0
      · rw [if_pos h0] at hfi
        rw [show (σi.N y == 0) = true by rw [h0]; rfl]
        cases ht : G.trav E V f y σi with
        | none => rw [ht] at hfi; cases hfi
        | some σ2 =>
        rw [ht] at hfi
        have hyb : y ∉ σi.begun := fun hb => by have := Ti.pos y hb; lia
        refine wpAny_execs_cons (wpAny_Expr (Call_ (h_glob H₁ (v := .ref 28) rfl (h_callArgs H₁.frag rfl (spliced_more (h_loc H₁ (v := nv y) rfl ?_))))))
        refine spliced_more (h_loc H₁ hN₁ (spliced_more (h_loc H₁ hS₁ (spliced_more (h_loc H₁ hF₁ (spliced_more (h_loc H₁ hX₁ (spliced_more (h_loc H₁ hR₁ (spliced_more (h_loc H₁ hP₁ (spliced_none ⟨H₁.frag, ?_⟩))))))))))))
        refine trav_ok (d := ⟨aN, aS, aF, ab, ar⟩) NO hE hsm hL FP RR hP hPd hR hRd hVf (by show (aF == 1) = false; rw [beq_eq_false_iff_ne]; exact Nat.ne_of_gt h5F) f y σi σ2 ht _ _ _ _ _ _ _ _ _ loi H₁ rfl Si hyn hyb Ti Zi (by show c.dp + 1 + f + 2 < _; lia) (by show c.un + 3 + 8 * f + 100 < _; lia) ?_
        intro lo2 led2 h2 tk4 H2 T2 Z2 G2
        exact wpAny_execs_nil (wpAny_execs_nil (hRz _ led2 h2 tk4 H2 ⟨hX₁, hR₁, hP₁, hN₁, hS₁, hF₁, σ2, lo2, T2, Z2, Gi.trans G2, hfi⟩))
      · rw [if_neg h0] at hfi
        rw [show (σi.N y == 0) = false from beq_eq_false_iff_ne.mpr h0]
        exact wpAny_execs_nil (wpAny_execs_nil (hRz _ led₁ h _ H₁ ⟨hX₁, hR₁, hP₁, hN₁, hS₁, hF₁, σi, loi, Ti, Zi, Gi, hfi⟩))
    · rintro m₁ led₁ h tk₁ ⟨hX₁, hR₁, hP₁, hN₁, hS₁, hF₁, σi, loi, Ti, Zi, Gi, hfi⟩ H₁
      rw [List.drop_eq_nil_of_le (by simp)] at hfi
      have e : σi = σ' := by simpa using hfi
      subst e
      have hltF : ∀ q ∈ led, q.1 < aF := fun q hq => hlt5 q (.tail _ (.tail _ hq))
      have hltS : ∀ q ∈ led, q.1 < aS := fun q hq => hlt3 q (.tail _ hq)
      refine wpAny_execs_cons (wpAny_Return_some (h_loc H₁ hF₁ (hRq _ _ _ h tk₁ H₁ fun H' => ?_)))
      refine hQ ⟨aN, aS, aF, ab, ar⟩ loi led₁ h tk₁ rfl rfl hltF H' Ti Zi (fun p hp h1 h2 => ?_) (fun i hi q hq => Gi.new i hi (by intro h; cases h) q (.tail _ (.tail _ (.tail _ hq))))
      refine Gi.kept p (.tail _ (.tail _ (.tail _ hp))) ?_ (by intro i hi; cases hi)
      unfold Ad.all
      simp only [List.mem_cons, List.not_mem_nil, or_false, not_or]
      exact ⟨Nat.ne_of_lt (hlt1 p hp), Nat.ne_of_lt (hltS p hp), Nat.ne_of_lt (hltF p hp), h1, h2⟩
end
end Mine
end

-- part C11
section
open PySem PySem.W PyProof.Rows PySem.Spec
set_option linter.unusedSectionVars false
set_option linter.unusedVariables false
set_option maxRecDepth 100000
namespace Mine
section
variable {prog : Program} {w : World} {A A₀ : Around} {s : Shared} {K : Frag} {L : Addr} {h₀ base : Heap} {m mg mb : Str → Option Value} {news : List (Addr × Obj)} {p : Program} {loose : List Str} {mean : ExcName → Option Value} {env : Env} {outer : List Env}
theorem code_defX {R : Result → Shared → Prop} {name qual : Str} {params : Arguments} {body : List Stmt} {scope : Scope} {cl : List (Str × Addr)} {dV kV doc pm cdv ct : Value} {an : Option Addr} {f : Addr} {fo : Obj} {args : Args} {binds : List (Str × Value)}
    (B : Below A₀ base outer h₀) (F : Fr h₀ L s.heap m) (X₀ : K.In h₀) (N : News h₀ L s.heap news) (T : Top p loose mean mg mb h₀) (hA : A.frames = some (env :: outer)) (hf : env.frame = some L) (hke : env.scope.kind = .function)
    (ho : s.heap.get? f = some fo) (hd : fo.data = .func (fnX name qual params body scope cl dV kV doc pm an cdv ct)) (hcd : s.heap.CodeRec cdv qual) (hroom : A.depth < recursionLimit)
    (hbind : BindsTo s (fnX name qual params body scope cl dV kV doc pm an cdv ct) args binds) (hloc : ∀ y ∈ binds, scope.names.lookup y.1 = some .local)
    (h : ∀ g L' h₁, Fr h₀ L g m → Fr g L' h₁ (fun y => binds.reverse.lookup y) → News g L' h₁ news → Below A base (env :: outer) g → K.In g → Top p loose mean mg mb g → GSub s.heap g (news.map (·.1)) →
      wpAny (model prog w) (A.deeper (envX qual scope L' f cdv cl)) (execs body (envX qual scope L' f cdv cl))
        (fun fl s' => LeaveK h₀ L m g R (match fl with | .ret v => v | _ => .none) s')
        (fun e s' => wpAny (model prog w) (A.deeper (envX qual scope L' f cdv cl)) (leaving (envX qual scope L' f cdv cl) e) (fun _ s'' => R (.error e) s'') (fun e' s'' => R (.error e') s'') s')
        { s with heap := h₁, toks := s.toks + binds.length })
    (hco : scope.isCoroutine = false) (hgen : scope.isGenerator = false) (hk : scope.kind = .function)
    (hcell : ∀ x ∈ scope.names, x.2 ≠ .cell) : codeAny (model prog w) A (.call (.ref f) args) R s := by
  obtain ⟨FG, BG, st, lv⟩ := groundX (R := R) B F N hA hf hke
  refine codeAny_call_def (fd := fnX name qual params body scope cl dV kV doc pm an cdv ct) (body := body) (binds := binds) hroom ho hd (T.nolimit.keeps F.keep) hcd rfl hbind hcell hloc (fun h₁ hns hk₁ => ?_) hco hgen hk
  exact wpAny_mono (h _ s.heap.objs.size h₁ FG ⟨hns, fun b o e => hk₁ b o (of_hideAll _ e), Nat.le_of_eq (hideAll_size _ _)⟩
    (fun p hp => ⟨hk₁ _ _ (N p hp).1, Nat.ne_of_lt (Heap.lt_size (N p hp).1), hideAll_none _ (List.mem_map_of_mem hp)⟩) BG (X₀.keeps st) (T.keeps st) (fun b o e n => hideAll_get _ e n)) (fun fl s' hl => lv _ _ hl) fun _ _ y => y
end

section
variable {prog : Program} {M : Model} {w : World} {t : Tp} {c : Cx} {m : Str → Option Value} {led sl : List (Addr × Obj)} {Er : Value → Shared → Prop} {s : Shared} {h h' : Heap} {A : Around} {kd n : Nat} {nv : Nat → Value} {env : Env}

/- a function with cells is entered -/
theorem h_enterX {f : Addr} {fo : Obj} {name qual : Str} {params : Arguments} {body : List Stmt} {scope : Scope} {cl : List (Str × Addr)} {dV kV doc pm cdv ct : Value} {an : Option Addr} {args : List Value} {binds : List (Str × Value)} {Q : Value → Shared → Prop} {tk : Nat}
    (H : Here w t c m led h) (ho : h.get? f = some fo) (hd : fo.data = .func (fnX name qual params body scope cl dV kV doc pm an cdv ct)) (hcd : h.CodeRec cdv qual) (hroom : c.dp < recursionLimit)
    (hbind : BindsTo (sh s h tk) (fnX name qual params body scope cl dV kV doc pm an cdv ct) ⟨args, []⟩ binds) (hloc : ∀ y ∈ binds, scope.names.lookup y.1 = some .local)
    (hq : ∀ g L' h' m' tk', m' = (fun y => binds.reverse.lookup y) → (∀ b o, h.get? b = some o → b ∉ led.map (·.1) → g.get? b = some o) → Here w t (c.sub qual scope f cdv cl g L') m' led h' →
      ∀ Rq : Flow → Shared → Prop, (∀ fl m'' led'' h'' tk'', Here w t (c.sub qual scope f cdv cl g L') m'' led'' h'' → (Here w t c m led'' h'' → Q (flowVal fl) (sh s h'' tk'')) → Rq fl (sh s h'' tk'')) →
      wpAny (model prog w) (c.sub qual scope f cdv cl g L').A (execs body (c.sub qual scope f cdv cl g L').env) Rq NoE (sh s h' tk'))
    (hco : scope.isCoroutine = false := by rfl) (hgen : scope.isGenerator = false := by rfl) (hk : scope.kind = .function := by rfl) (hcell : ∀ x ∈ scope.names, x.2 ≠ .cell := by decide) (hA : A = c.A := by rfl) :
    wpAny (model prog w) A (call (.ref f) args) Q Er (sh s h tk) := by
  subst hA
  refine wpAny_call (code_defX (s := sh s h tk) (args := ⟨args, []⟩) H.B H.F H.X H.N H.T rfl rfl H.K ho hd hcd hroom hbind hloc ?_ hco hgen hk hcell)
  intro g L' h' FG F' N' B' X' T' G'
  have hZ : ∀ p ∈ c.fz, g.get? p.1 = some p.2 := fun p hp => G' _ _ (H.Z p hp).1 fun hm => by
    obtain ⟨q, hq, e⟩ := List.mem_map.mp hm
    exact H.D p hp q hq e.symm
  refine wpAny_mono (hq g L' h' _ (tk + binds.length) rfl G' ⟨B', X', T', F', N', hk, fun p hp => (by cases hp), fun p hp => (by cases hp)⟩ (EndIn w t _ c m s Q) fun _ _ _ _ _ H k => ⟨_, _, _, _, rfl, H, k⟩) (fun fl s' hl => ?_) fun _ _ x => x.elim
  obtain ⟨m'', led'', h'', tk'', rfl, H'', k⟩ := hl
  refine ⟨L', m'', led'', H''.F, H''.N, fun FL NL => ?_⟩
  have k' : Q (flowVal fl) (sh s h'' tk'') := k ⟨H.B, H.X, H.T, FL, NL, H.K, fun p hp => ⟨H''.F.keep _ _ (hZ p hp), (H.Z p hp).2⟩, fun p hp q hq e => by
    have h1 : g.get? q.1 = none := (H''.N q hq).2.2
    rw [← e, hZ p hp] at h1; cases h1⟩
  cases fl <;> exact k'

/- a name that stands in a cell -/
theorem h_free {x : Str} {pos : Pos} {v : Value} {Q : Value → Shared → Prop} {tk : Nat} {a : Addr} {o : Obj} (H : Here w t c m led h) (hc : c.cl.lookup x = some a) (ho : h.get? a = some o) (hv : o.data = .cell (some v)) (hq : Q v (sh s h tk))
    (he : env = c.env := by rfl) (hx : env.kindOf x = some .free := by rfl) (hd : (x == ("__debug__" : Str)) = false := by decide) (hn : (x == ("__classdict__" : Str)) = false := by decide) : wpAny M A (eval (.Name x pos) env) Q Er (sh s h tk) := by
  subst he; exact wpAny_Name (wpAny_loadName_free (s := sh s h tk) H.K hx hc ⟨o, ho, hv⟩ hq hn) hd
theorem h_cell {x : Str} {pos : Pos} {v : Value} {Q : Value → Shared → Prop} {tk : Nat} {a : Addr} {o : Obj} (hc : env.cells.lookup x = some a) (ho : h.get? a = some o) (hv : o.data = .cell (some v)) (hq : Q v (sh s h tk))
    (hk : env.scope.kind = .function) (hx : env.kindOf x = some .cell := by rfl) (hd : (x == ("__debug__" : Str)) = false := by decide) : wpAny M A (eval (.Name x pos) env) Q Er (sh s h tk) :=
  wpAny_Name (wpAny_loadName_cell (s := sh s h tk) hk hx hc ⟨o, ho, hv⟩ hq) hd
theorem h_storeCell {x : Str} {v : Value} {Q : Unit → Shared → Prop} {tk : Nat} {a : Addr} {o : Obj} {v₀ : Option Value} (H : Here w t c m led h) (hc : env.cells.lookup x = some a) (ha : (a, o) ∈ led) (hv : o.data = .cell v₀)
    (hq : ∀ o' h', o'.data = .cell (some v) → Here w t c m (lput led a o') h' → Q () (sh s h' tk)) (hk : env.scope.kind = .function) (hx : env.kindOf x = some .cell := by rfl) : wpAny M A (storeName env x v) Q Er (sh s h tk) :=
  wpAny_storeName_cell (s := sh s h tk) hk hx hc ⟨o, H.get ha, hv⟩ fun h' ⟨o', ho', hd'⟩ hs => hq o' h' hd' (H.upd ha hs ho')
end
end Mine
end

-- part C12
section
open PySem PySem.W PyProof.Rows PySem.Spec
set_option linter.unusedSectionVars false
set_option linter.unusedVariables false
set_option maxRecDepth 100000
namespace Mine
def defBody : Stmt → Option (List Stmt)
  | .FunctionDef _ _ b _ _ _ _ _ _ _ => some b
  | _ => none
def defParams : Stmt → Option Arguments
  | .FunctionDef _ p _ _ _ _ _ _ _ _ => some p
  | _ => none
def defScope : Stmt → Option Scope
  | .FunctionDef _ _ _ _ _ _ s _ _ _ => some s
  | _ => none
/- a statement in the law's body -/
def inLaw (i : Nat) : Option Stmt := (PySem.Challenge.pw_qb0002_01.main.body[9]?).bind fun s => (defBody s).bind fun b => b[i]?
def fstB : List Stmt := ((inLaw 4).bind defBody).get (by rfl)
def fstP : Arguments := ((inLaw 4).bind defParams).get (by rfl)
def fstS : Scope := ((inLaw 4).bind defScope).get (by rfl)
def relB : List Stmt := ((inLaw 5).bind defBody).get (by rfl)
def relP : Arguments := ((inLaw 5).bind defParams).get (by rfl)
def relS : Scope := ((inLaw 5).bind defScope).get (by rfl)

section
variable {prog : Program} {M : Model} {w : World} {t : Tp} {c : Cx} {m : Str → Option Value} {led sl : List (Addr × Obj)} {Er : Value → Shared → Prop} {s : Shared} {h h' : Heap} {A : Around} {kd n : Nat} {nv : Nat → Value} {env : Env}

theorem first_ok {V : Nat → List Int} {vv : Nat → List Value} {ab av aP cB cV c' : Addr} {vs : List (Nat × Value)} {lv : Nat → Addr} {e2 : Nat → Nat} {oB oV oc fo : Obj} {cl : List (Str × Addr)} {name qual : Str} {doc pm ct : Value} {fs : Array Value} {tq : Tok} (NO : NamesOk kd nv n sl)
    (LV : LDict w kd nv n av vs lv vv e2 sl) (hV : ∀ x, x < n → Ints (vv x) (V x)) (hVf : ∀ x, x < n → Few (V x)) (hB : (cB, oB) ∈ sl) (hoB : oB.data = .cell (some (.ref ab))) (hVc : (cV, oV) ∈ sl) (hoV : oV.data = .cell (some (.ref av)))
    (hP : (aP, fo) ∈ sl) (hfo : fo.data = .func (fnX name qual fstP fstB fstS cl .none .none doc pm none (.ref c') ct)) (hc' : (c', oc) ∈ sl) (hoc : oc.data = .fields fs) (hq : fs[1]? = some (.str qual tq))
    (lB : cl.lookup (Str.ofString "begun") = some cB) (lV : cl.lookup (Str.ofString "values") = some cV) : FPok prog w t kd n nv V sl ab aP := by
  intro c m led s h tk Q Er A x b ep H hA S hx hb hlen hd hu hQ
  subst hA
  refine h_enterX (name := name) (qual := qual) (params := fstP) (body := fstB) (scope := fstS) (cl := cl) (dV := .none) (kV := .none) (doc := doc) (pm := pm) (an := none) (cdv := .ref c') (ct := ct) (binds := [(Str.ofString "x", nv x)]) H (S.get H hP) hfo ⟨c', oc, fs, tq, rfl, S.get H hc', hoc, hq⟩ (by lia) (BindsTo.of_eq rfl) (locs rfl) ?_
  intro g L' h' m' tk' hm G0 Hc Rq hRq
  have hX : m' (Str.ofString "x") = some (nv x) := by rw [hm]; rfl
  clear hm
  have S1 := S.sub H G0 (qual := qual) (scope := fstS) (f := aP) (cdv := .ref c') (cl := cl) (L' := L')
  have hu1 : c.un + 3 + 1 < cLine := by lia
  refine wpAny_execs_cons (h_append (w := w) (t := t) (h_free Hc lB (S1.get Hc hB) hoB ⟨ab, _, ep, rfl, Hc.get hb, h_loc Hc hX ⟨_, _, _, h', tk', b.map nv, ep, rfl, Hc, hb, by simp; lia, fun h1 tk1 H1 => ?_⟩⟩))
  have e0 : b.map nv ++ [nv x] = (b ++ [x]).map nv := by simp
  rw [e0] at H1
  have hlv := (hV x hx).length
  have hl2 := (hVf x hx).len
  refine wpAny_execs_cons (wpAny_Return_some (h_list H1 (h_item (s := s) (kd := kd) (n := n) (nv := nv) hu1 (h_free H1 lV (S1.get H1 hVc) hoV (h_loc H1 hX ⟨h1, tk1, av, x, vs, _, rfl, rfl, rfl, hx, LV.at NO S1 H1, LV.get x hx, fun tk2 => ⟨h1, tk2, _, _, _, lv x, vv x, _, rfl, rfl, H1, S1.get H1 (LV.lst x hx), by lia, fun aw epw h2 tk3 hlt2 H2 => ?_⟩⟩)))))
  refine (hRq _ _ _ h2 tk3 H2 fun H' => hQ aw _ _ _ _ _ (fun q hq => ?_) (hV x hx) (by lia) H')
  by_cases e : q.1 = ab
  · rw [e]; exact hlt2 _ (lput_self hb)
  · exact hlt2 _ (lput_ne (b := q.1) (o := q.2) hq e)

theorem related_ok {E : Nat → List Nat} {ar ae aR cR cE c' : Addr} {es : List (Nat × Value)} {la : Nat → Addr} {e1 : Nat → Nat} {oR oE oc fo : Obj} {cl : List (Str × Addr)} {name qual : Str} {doc pm ct : Value} {fs : Array Value} {tq : Tok} (NO : NamesOk kd nv n sl)
    (LE : LDict w kd nv n ae es la (fun k => (E k).map nv) e1 sl) (hR : (cR, oR) ∈ sl) (hoR : oR.data = .cell (some (.ref ar))) (hEc : (cE, oE) ∈ sl) (hoE : oE.data = .cell (some (.ref ae)))
    (hP : (aR, fo) ∈ sl) (hfo : fo.data = .func (fnX name qual relP relB relS cl .none .none doc pm none (.ref c') ct)) (hc' : (c', oc) ∈ sl) (hoc : oc.data = .fields fs) (hq : fs[1]? = some (.str qual tq))
    (lR : cl.lookup (Str.ofString "asked") = some cR) (lE : cl.lookup (Str.ofString "edges") = some cE) : Rok prog w t n nv la sl ar aR := by
  intro c m led s h tk Q Er A x b ep H hA S hx hb hlen hd hu hQ
  subst hA
  refine h_enterX (name := name) (qual := qual) (params := relP) (body := relB) (scope := relS) (cl := cl) (dV := .none) (kV := .none) (doc := doc) (pm := pm) (an := none) (cdv := .ref c') (ct := ct) (binds := [(Str.ofString "x", nv x)]) H (S.get H hP) hfo ⟨c', oc, fs, tq, rfl, S.get H hc', hoc, hq⟩ (by lia) (BindsTo.of_eq rfl) (locs rfl) ?_
  intro g L' h' m' tk' hm G0 Hc Rq hRq
  have hX : m' (Str.ofString "x") = some (nv x) := by rw [hm]; rfl
  clear hm
  have S1 := S.sub H G0 (qual := qual) (scope := relS) (f := aR) (cdv := .ref c') (cl := cl) (L' := L')
  have hu1 : c.un + 3 + 1 < cLine := by lia
  refine wpAny_execs_cons (h_append (w := w) (t := t) (h_free Hc lR (S1.get Hc hR) hoR ⟨ar, _, ep, rfl, Hc.get hb, h_loc Hc hX ⟨_, _, _, h', tk', b.map nv, ep, rfl, Hc, hb, by simp; lia, fun h1 tk1 H1 => ?_⟩⟩))
  have e0 : b.map nv ++ [nv x] = (b ++ [x]).map nv := by simp
  rw [e0] at H1
  refine wpAny_execs_cons (wpAny_Return_some (h_item (s := s) (kd := kd) (n := n) (nv := nv) hu1 (h_free H1 lE (S1.get H1 hEc) hoE (h_loc H1 hX ⟨h1, tk1, ae, x, es, _, rfl, rfl, rfl, hx, LE.at NO S1 H1, LE.get x hx, fun tk2 => ?_⟩))))
  exact (hRq _ _ _ h1 tk2 H1 fun H' => hQ _ _ _ H')
end
end Mine
end

-- part C13
section
open PySem PySem.W PyProof.Rows PySem.Spec
set_option linter.unusedSectionVars false
set_option linter.unusedVariables false
set_option maxRecDepth 100000
namespace Mine
/- an object that is a block's names -/
def NsO (C : Addr) (o : Obj) (m : Str → Option Value) : Prop := ∀ h : Heap, h.get? C = some o → h.Ns C m
theorem NsO.of {h : Heap} {C : Addr} {m : Str → Option Value} (hn : h.Ns C m) : ∃ o, h.get? C = some o ∧ NsO C o m := by
  obtain ⟨o, es, ep, ho, r⟩ := hn
  exact ⟨o, ho, fun h' e => ⟨o, es, ep, e, r⟩⟩

section
variable {prog : Program} {M : Model} {w : World} {t : Tp} {c : Cx} {m : Str → Option Value} {led sl : List (Addr × Obj)} {Er : Value → Shared → Prop} {s : Shared} {h h' : Heap} {A : Around} {kd n : Nat} {nv : Nat → Value} {env : Env}

theorem lput_new {led : List (Addr × Obj)} {a : Addr} {o : Obj} (h : ∀ q ∈ led, q.1 ≠ a) : lput led a o = led := by
  unfold lput
  conv => rhs; rw [← List.map_id led]
  apply List.map_congr_left
  intro q hq; rw [if_neg (h q hq)]; rfl
theorem lput_hd {led : List (Addr × Obj)} {a : Addr} {o o' : Obj} (h : ∀ q ∈ led, q.1 ≠ a) : lput ((a, o) :: led) a o' = (a, o') :: led := by
  show (if a = a then _ else _) :: lput led a o' = _
  rw [if_pos rfl, lput_new h]
theorem lput_tl {led : List (Addr × Obj)} {a b : Addr} {o o' : Obj} (h : b ≠ a) : lput ((b, o) :: led) a o' = (b, o) :: lput led a o' := by
  show (if b = a then _ else _) :: lput led a o' = _
  rw [if_neg h]

theorem Here.fzm {fz fz' : List (Addr × Obj)} (H : Here w t (c.wz fz) m led h) (hs : ∀ p ∈ fz', p ∈ fz) : Here w t (c.wz fz') m led h :=
  ⟨H.B, H.X, H.T, H.F, H.N, H.K, fun p hp => H.Z p (hs p hp), fun p hp => H.D p (hs p hp)⟩
theorem Here.updZm {a : Addr} {o o' : Obj} {fz : List (Addr × Obj)} (H : Here w t (c.wz fz) m led h) (ha : (a, o) ∈ fz) (hs : Heap.SameBut a h h') (ho : h'.get? a = some o') : Here w t (c.wz (lput fz a o')) m led h' := by
  have hm : h.get? a = some o ∧ a ≠ c.L ∧ c.h₀.get? a = none := H.Z _ ha
  refine ⟨H.B, H.X, H.T, ⟨H.F.ns.sameBut hs (Ne.symm hm.2.1), fun b ob e => (hs.2 b fun q => ?_).trans (H.F.keep b ob e), H.F.above⟩, ?_, H.K, ?_, ?_⟩
  · rw [q] at e
    have e : c.h₀.get? a = some ob := e
    rw [hm.2.2] at e; cases e
  · intro p hp
    exact ⟨(hs.2 _ (Ne.symm (H.D _ ha p hp))).trans (H.N p hp).1, (H.N p hp).2⟩
  · intro p hp
    rcases lput_mem hp with ⟨q, hq, rfl, rfl⟩ | ⟨h1, h2⟩
    · exact ⟨ho, hm.2⟩
    · exact ⟨(hs.2 _ h2).trans (H.Z p h1).1, (H.Z p h1).2⟩
  · intro p hp q hq
    rcases lput_mem hp with ⟨r, hr, rfl, rfl⟩ | ⟨h1, h2⟩
    · exact H.D r hr q hq
    · exact H.D p h1 q hq
/- a frozen thing has turned in a way of no account -/
theorem Here.extButZ {a : Addr} {o : Obj} {fz : List (Addr × Obj)} (H : Here w t (c.wz fz) m led h) (ha : (a, o) ∈ fz) (hs : Heap.ExtBut a h h') {fz' : List (Addr × Obj)} (hf : ∀ p ∈ fz', p ∈ fz ∧ p.1 ≠ a) : Here w t (c.wz fz') m led h' := by
  have hm : h.get? a = some o ∧ a ≠ c.L ∧ c.h₀.get? a = none := H.Z _ ha
  obtain ⟨oL, es, ep, hL, r⟩ := H.F.ns
  refine ⟨H.B, H.X, H.T, ⟨⟨oL, es, ep, hs _ _ (Ne.symm hm.2.1) hL, r⟩, fun b ob e => hs b ob (fun q => ?_) (H.F.keep b ob e), H.F.above⟩, ?_, H.K, ?_, fun p hp => H.D p (hf p hp).1⟩
  · rw [q] at e
    have e : c.h₀.get? a = some ob := e
    rw [hm.2.2] at e; cases e
  · intro p hp
    exact ⟨hs _ _ (Ne.symm (H.D _ ha p hp)) (H.N p hp).1, (H.N p hp).2⟩
  · intro p hp
    exact ⟨hs _ _ (hf p hp).2 (H.Z p (hf p hp).1).1, (H.Z p (hf p hp).1).2⟩
/- something new is laid aside at once -/
theorem Here.pushZ (H : Here w t c m led h) (o : Obj) (hf : o.isFreed = false := by rfl) : Here w t (c.wz ((h.objs.size, o) :: c.fz)) m led (h.push o) :=
  (H.push o hf).freeze fun q hq => Nat.ne_of_lt (Heap.lt_size (H.N q hq).1)

theorem h_listComp {elt iter : Expr} {x : Str} {px : Pos} {ifs : List Expr} {scope : Scope} {pos : Pos} {Q : Value → Shared → Prop} {s₀ : Shared} (cl : List (Str × Addr))
    (hclos : closureFor scope env = pure cl) (hkind : scope.kind = .function) (hnames : ∀ x ∈ scope.names, x.2 = .local → scope.names.lookup x.1 = some .local)
    (h : wpAny M A (eval iter env) (fun x' s₁ => wpAny M A (pyIter x') (fun it s₂ => wpAny M A (newList []) (fun acc s₃ =>
      wpAny M A (newFunctionEnv scope env.globals cl [] env.qual none .none (some env)) (fun cenv s₄ =>
        codeAny M A (.compStart (.ListComp elt [⟨.Name x px, iter, ifs, 0⟩] scope pos) 0 it acc { cenv with scope := relabel scope env }) (compPost M A Er none Q acc cenv.locals) s₄) Er s₃) Er s₂) Er s₁) Er s₀)
    (hs : ∀ x, foldedSetIterable iter env x = pure x := by intro _; rfl) :
    wpAny M A (eval (.ListComp elt [⟨.Name x px, iter, ifs, 0⟩] scope pos) env) Q Er s₀ := by
  rw [eval_ListComp]
  exact wpAny_comprehension_free (use := none) rfl hs hclos hkind hnames h

theorem compEnd_none {C : Addr} {oC : Obj} {mC : Str → Option Value} {Q : Value → Shared → Prop} {v : Value} {tk : Nat} (hN : NsO C oC mC) (hCz : ∀ p ∈ c.fz, p.1 ≠ C) (H : Here w t (c.wz ((C, oC) :: c.fz)) m led h) (hq : ∀ h', Here w t c m led h' → Q v (sh s h' tk)) : compPost M A Er none Q v C (.ok .next) (sh s h tk) :=
  ⟨mC, hN _ (H.Z _ (.head _)).1, fun h₃ hs₃ => hq h₃ (H.extButZ (.head _) hs₃.extBut (fz' := c.fz) fun p hp => ⟨.tail _ hp, hCz p hp⟩)⟩
theorem compEnd_use {C : Addr} {oC : Obj} {mC : Str → Option Value} {Q : Value → Shared → Prop} {v : Value} {tk : Nat} {y : Str} {py : Pos} (hN : NsO C oC mC) (hCz : ∀ p ∈ c.fz, p.1 ≠ C) (H : Here w t (c.wz ((C, oC) :: c.fz)) m led h) (hq : ∀ h' tk', Here w t c (mset m y v) led h' → Q .none (sh s h' tk'))
    (he : env = c.env := by rfl) (hx : env.kindOf y = some .local := by rfl) : compPost M A Er (some (assign (.Name y py) env)) Q v C (.ok .next) (sh s h tk) := by
  show wpAny M A (assign (.Name y py) env v) _ _ _
  refine wpAny_assign_Name (h_store H (fun h₂ tk₂ H₂ => ?_) he hx)
  exact ⟨mC, hN _ (H₂.Z _ (.head _)).1, fun h₃ hs₃ => hq h₃ tk₂ (H₂.extButZ (.head _) hs₃.extBut (fz' := c.fz) fun p hp => ⟨.tail _ hp, hCz p hp⟩)⟩

theorem h_assignListComp {elt iter : Expr} {x y : Str} {px py : Pos} {ifs : List Expr} {scope : Scope} {pos spos : Pos} {Q : Flow → Shared → Prop} {s₀ : Shared} (cl : List (Str × Addr))
    (hclos : closureFor scope env = pure cl) (hkind : scope.kind = .function) (hnames : ∀ x ∈ scope.names, x.2 = .local → scope.names.lookup x.1 = some .local)
    (h : wpAny M A (eval iter env) (fun x' s₁ => wpAny M A (pyIter x') (fun it s₂ => wpAny M A (newList []) (fun acc s₃ =>
      wpAny M A (newFunctionEnv scope env.globals cl [] env.qual none .none (some env)) (fun cenv s₄ =>
        codeAny M A (.compStart (.ListComp elt [⟨.Name x px, iter, ifs, 0⟩] scope pos) 0 it acc { cenv with scope := relabel scope env }) (compPost M A Er (some (assign (.Name y py) env)) (fun _ s' => Q .next s') acc cenv.locals) s₄) Er s₃) Er s₂) Er s₁) Er s₀)
    (hs : ∀ x, foldedSetIterable iter env x = pure x := by intro _; rfl)
    (hsw : swapsWith (.ListComp elt [⟨.Name x px, iter, ifs, 0⟩] scope pos) (some (.Name y py)) spos.line env = pure true := by rfl) :
    wpAny M A (exec (.Assign [.Name y py] (.ListComp elt [⟨.Name x px, iter, ifs, 0⟩] scope pos) spos) env) Q Er s₀ := by
  rw [exec_Assign_Name_used _ _ _ _ hsw]
  refine wpAny_bind (wpAny_standAt (wpAny_bind ?_))
  show wpAny _ A (do let _ ← comprehension (.ListComp elt [⟨.Name x px, iter, ifs, 0⟩] scope pos) scope env _ (newList []) false (eval iter env) (some (assign (.Name y py) env))) _ _ s₀
  exact wpAny_bind (wpAny_mono (wpAny_comprehension_free (use := some (assign (.Name y py) env)) (Q := fun _ s' => Q .next s') rfl hs hclos hkind hnames h) (fun _ s' hq => wpAny_pure (wpAny_pure hq)) fun _ _ e => e)

theorem h_compTail {elt iter : Expr} {x : Str} {px : Pos} {ifs : List Expr} {scope : Scope} {pos : Pos} {RR : Value → Addr → Result → Shared → Prop} {cl : List (Str × Addr)} {l : Addr} {vs : List Value} {tk : Nat} (I : Nat → List Value → List (Addr × Obj) → Prop)
    (H : Here w t c m led h) (init : I 0 [] led) (hin : ∀ i ys led₁ fz h, (∀ p ∈ c.fz, p ∈ fz) → I i ys led₁ → Here w t (c.wz fz) m led₁ h → ∃ ep, h.get? l = some (lObj vs ep)) (hsz : vs.length ≤ 1000000)
    (turn : ∀ i v ys led₁ h tk fz C oC mC (Rz : List Value → List (Addr × Obj) → Prop) (hRz : ∀ ys led, I (i + 1) ys led → Rz ys led), vs[i]? = some v → (∀ p ∈ c.fz, p ∈ fz) → (C, oC) ∈ fz → NsO C oC mC → mC x = some v → I i ys led₁ → Here w t (c.wz fz) m led₁ h →
      wpAny (model prog w) A (forIn ifs true fun c r => if r = true then do let ok ← isTrue c (compEnvC scope cl C env) (eval c (compEnvC scope cl C env)); pure (ForInStep.yield ok) else pure (ForInStep.yield r)) (CompT w t (c.wz fz) m s (wpAny (model prog w) A (eval elt (compEnvC scope cl C env)) (CompE w t (c.wz fz) m s Rz ys) NoE) (Rz ys)) NoE (sh s h tk))
    (done : ∀ a ys ep led₁ h tk C oC mC, I vs.length ys led₁ → (∀ q ∈ led₁, q.1 ≠ a) → NsO C oC mC → (∀ p ∈ c.fz, p.1 ≠ C) → Here w t (c.wz ((C, oC) :: c.fz)) m ((a, lObj ys ep) :: led₁) h → RR (.ref a) C (.ok .next) (sh s h tk))
    (hx : scope.names.lookup x = some .local := by rfl) (hcell : ∀ x ∈ scope.names, x.2 ≠ .cell := by decide) (hkind : scope.kind = .function := by rfl) (hA : A = c.A := by rfl) :
    wpAny (model prog w) A (pyIter (.ref l)) (fun it s₂ => wpAny (model prog w) A (newList []) (fun acc s₃ =>
      wpAny (model prog w) A (newFunctionEnv scope env.globals cl [] env.qual none .none (some env)) (fun cenv s₄ =>
        codeAny (model prog w) A (.compStart (.ListComp elt [⟨.Name x px, iter, ifs, 0⟩] scope pos) 0 it acc { cenv with scope := relabel scope env }) (RR acc cenv.locals) s₄) Er s₃) Er s₂) Er (sh s h tk) := by
  subst hA
  obtain ⟨ep, hl⟩ := hin 0 [] led c.fz h (fun _ h => h) init H
  have hls : h.IsList l vs.toArray := ⟨_, hl, rfl, ep, rfl⟩
  refine wpAny_pyIter_list (s := sh s h tk) hls ?_
  have H1 := H.pushZ (itObj l 0)
  refine wpAny_newObj_type (s := sh s (h.push (itObj l 0)) tk) ?_
  have H2 := H1.pushZ (lObj [] 0)
  refine wpAny_newFunctionEnv (s := sh s ((h.push (itObj l 0)).push (lObj [] 0)) tk) hcell (by intro y hy; simp at hy) (fun h₁ hns₁ hsb₁ => ?_) hkind
  have H3 := H2.pushZ { cls := .type (if (some env).isSome then "dict" else "frame"), data := .dict #[] }
  obtain ⟨oC, hoC, hNC⟩ := NsO.of hns₁
  have H4 := H3.updZm (.head _) hsb₁ hoC
  have hfz : ∀ p ∈ c.fz, p.1 < h.objs.size := fun p hp => Heap.lt_size (H.Z p hp).1
  have hDI : h.objs.size < (h.push (itObj l 0)).objs.size := by rw [Heap.size_push]; exact Nat.lt_succ_self _
  have hCD : (h.push (itObj l 0)).objs.size < ((h.push (itObj l 0)).push (lObj [] 0)).objs.size := by rw [Heap.size_push (h.push (itObj l 0))]; exact Nat.lt_succ_self _
  rw [lput_hd (memC (Nat.ne_of_lt hCD) (memC (Nat.ne_of_lt (Nat.lt_trans hDI hCD)) (fun q hq => Nat.ne_of_lt (Nat.lt_trans (hfz q hq) (Nat.lt_trans hDI hCD)))))] at H4
  show codeAny (model prog w) c.A (.compStart (.ListComp elt [⟨.Name x px, iter, ifs, 0⟩] scope pos) 0 (.ref h.objs.size) (.ref (h.push (itObj l 0)).objs.size) (compEnvC scope cl ((h.push (itObj l 0)).push (lObj [] 0)).objs.size env)) (RR (.ref (h.push (itObj l 0)).objs.size) ((h.push (itObj l 0)).push (lObj [] 0)).objs.size) (sh s h₁ (tk + 0))
  have hNC : NsO ((h.push (itObj l 0)).push (lObj [] 0)).objs.size oC (fun x => List.lookup x ([] : List (Str × Value)).reverse) := hNC
  clear H1 H2 H3 hns₁ hsb₁ hoC
  generalize ((h.push (itObj l 0)).push (lObj [] 0)).objs.size = aC at *
  generalize (h.push (itObj l 0)).objs.size = aD at *
  generalize h.objs.size = aI at *
  have fzI : ∀ p ∈ c.fz, p.1 ≠ aI := fun p hp => Nat.ne_of_lt (hfz p hp)
  have fzD : ∀ p ∈ c.fz, p.1 ≠ aD := fun p hp => Nat.ne_of_lt (Nat.lt_trans (hfz p hp) hDI)
  have fzC : ∀ p ∈ c.fz, p.1 ≠ aC := fun p hp => Nat.ne_of_lt (Nat.lt_trans (hfz p hp) (Nat.lt_trans hDI hCD))
  have nID : aI ≠ aD := Nat.ne_of_lt hDI
  have nDC : aD ≠ aC := Nat.ne_of_lt hCD
  have nIC : aI ≠ aC := Nat.ne_of_lt (Nat.lt_trans hDI hCD)
  let J : Nat → Shared → Prop := fun k s' => Ex9 fun i ys led₁ h₁ tk oI ep oC mC => k = vs.length + 1 - i ∧ i ≤ vs.length ∧ ys.length ≤ i ∧ s' = sh s h₁ tk ∧ I i ys led₁ ∧ oI.cls = .type "list_iterator" ∧ oI.data = .fields #[.ref l, .int i 0] ∧ NsO aC oC mC ∧
    Here w t (c.wz ((aC, oC) :: (aD, lObj ys ep) :: (aI, oI) :: c.fz)) m led₁ h₁
  have loop : ∀ s', J (vs.length + 1) s' → codeAny (model prog w) c.A (.compLoop (.ListComp elt [⟨.Name x px, iter, ifs, 0⟩] scope pos) 0 (.ref aI) (.ref aD) (compEnvC scope cl aC env)) (RR (.ref aD) aC) s' := by
    intro s' hJ
    refine codeAny_compLoop_tests J ?_ (vs.length + 1) hJ
    rintro k s' ⟨i, ys, led₁, h₁, tk, oI, ep, oC, mC, rfl, hi, hyl, rfl, hI, hc₁, hd₁, hNC, H₁⟩
    have hit : h₁.IsListIter aI l i := ⟨_, (H₁.Z _ (.tail _ (.tail _ (.head _)))).1, hc₁, hd₁⟩
    have hl₁ : h₁.IsList l vs.toArray := by
      obtain ⟨ep₁, hl₁⟩ := hin i ys led₁ _ h₁ (fun p hp => .tail _ (.tail _ (.tail _ hp))) hI H₁
      exact ⟨_, hl₁, rfl, ep₁, rfl⟩
    rcases Nat.lt_or_eq_of_le hi with hlt | rfl
    · have hv : vs[i]? = some vs[i] := by simp [hlt]
      refine wpAny_pyNext_list_item (s := sh s h₁ tk) hit hl₁ (by rw [List.getElem?_toArray]; exact hv) fun h₂ hit₂ hs₂ => ?_
      obtain ⟨o₂, ho₂, hc₂, hd₂⟩ := hit₂
      have H₂ := H₁.updZm (.tail _ (.tail _ (.head _))) hs₂ ho₂
      rw [lput_tl (Ne.symm nIC), lput_tl (Ne.symm nID), lput_hd fzI] at H₂
      have hnC : h₂.Ns aC mC := hNC _ (H₂.Z _ (.head _)).1
      refine wpAny_assign_Name (wpAny_storeName_local (s := sh s h₂ tk) (env := compEnvC scope cl aC env) (lookup_relabel_local hx) hnC (fun h₃ hn₃ hs₃ => ?_) (by simp [compEnvC, relabel, hkind]))
      obtain ⟨oC₃, hoC₃, hNC₃⟩ := NsO.of hn₃
      have H₃ := H₂.updZm (.head _) hs₃ hoC₃
      rw [lput_hd (memC (nDC) (memC (nIC) (fun q hq => fzC q hq)))] at H₃
      refine noE (wpAny_mono (turn i vs[i] ys led₁ h₃ (tk + 1) _ aC oC₃ _ (I (i + 1)) (fun _ _ h => h) hv (fun p hp => .tail _ (.tail _ (.tail _ hp))) (.head _) hNC₃ (by simp) hI H₃) (fun ok s₁ h₁' => ?_) fun _ _ x => x)
      obtain ⟨led₂, h₄, tk₄, rfl, H₄, hok⟩ := h₁'
      cases ok with
      | false => exact ⟨vs.length + 1 - (i + 1), loopDec hlt, i + 1, ys, led₂, h₄, tk₄, o₂, ep, oC₃, _, rfl, hlt, by lia, rfl, hok, hc₂, hd₂, hNC₃, H₄⟩
      | true =>
        refine noE (wpAny_mono hok (fun y s₂ h₂' => ?_) fun _ _ x => x)
        obtain ⟨led₃, h₅, tk₅, rfl, H₅, hI₅⟩ := h₂'
        refine append_at (s := sh s h₅ tk₅) (H₅.Z _ (.tail _ (.head _))).1 (fun h₆ hs₆ ho₆ => ?_) (size_ok (by simp; lia))
        have e : (ys.toArray.push y) = (ys ++ [y]).toArray := by simp
        rw [e] at ho₆
        have H₆ := H₅.updZm (.tail _ (.head _)) hs₆ ho₆
        rw [lput_tl (Ne.symm nDC), lput_hd (memC (nID) (fun q hq => fzD q hq))] at H₆
        exact ⟨vs.length + 1 - (i + 1), loopDec hlt, i + 1, ys ++ [y], led₃, h₆, tk₅, o₂, ep + 1, oC₃, _, rfl, hlt, by simp; lia, rfl, hI₅, hc₂, hd₂, hNC₃, H₆⟩
    · refine wpAny_pyNext_list_end (s := sh s h₁ tk) rfl hit hl₁ (by simp) fun h₂ hs₂ => ?_
      have H₂ := H₁.extButZ (.tail _ (.tail _ (.head _))) hs₂ (fz' := (aC, oC) :: (aD, lObj ys ep) :: c.fz) (memC (⟨.head _, Ne.symm nIC⟩) (memC (⟨.tail _ (.head _), Ne.symm nID⟩) (fun p hp => ⟨.tail _ (.tail _ (.tail _ hp)), fzI p hp⟩)))
      have H₃ := Here.thaw (c := c) (a := aD) (o := lObj ys ep) (fz := (aC, oC) :: c.fz) (memC (Ne.symm nDC) (fun p hp => fzD p hp)) (H₂.fzm fun p hp => by
          rcases List.mem_cons.mp hp with rfl | hp
          · exact .tail _ (.head _)
          · rcases List.mem_cons.mp hp with rfl | hp
            · exact .head _
            · exact .tail _ (.tail _ hp))
      exact done aD ys ep led₁ h₂ tk aC oC mC hI (fun q hq => Ne.symm (H₂.D _ (.tail _ (.head _)) q hq)) hNC fzC H₃
  have hJ0 : J (vs.length + 1) (sh s h₁ (tk + 0)) := ⟨0, [], led, h₁, tk, itObj l 0, 0, oC, _, rfl, Nat.zero_le _, Nat.le_refl _, rfl, init, rfl, rfl, hNC, H4⟩
  refine codeAny_compStart_list (loop _ hJ0) (wpAny_pyIter_listiter (l := l) (i := 0) ⟨_, (H4.Z _ (.tail _ (.tail _ (.head _)))).1, rfl, rfl⟩ (loop _ hJ0))
end
end Mine
end

-- part C14
section
open PySem PySem.W PyProof.Rows PySem.Spec
set_option linter.unusedSectionVars false
set_option linter.unusedVariables false
set_option maxRecDepth 100000
namespace Mine

theorem dput_length (es : List (Nat × Value)) (k : Nat) (v : Value) : (dput es k v).length ≤ es.length + 1 := by
  unfold dput; split <;> simp
theorem wpAny_newDict {M : Model} {A : Around} {E : Value → Shared → Prop} {s : Shared} {Q : Value → Shared → Prop} (h : Q (.ref s.heap.objs.size) { s with heap := s.heap.push { cls := .type "dict", data := .dict #[] } }) : wpAny M A newDict Q E s := by
  simp only [newDict, newObj]
  exact wpAny_bind (wpAny_alloc (wpAny_pure h))
inductive DCompE (w : World) (t : Tp) (kd n : Nat) (nv : Nat → Value) (C : Cx) (m : Str → Option Value) (s : Shared) (J : List (Nat × Value) → List (Addr × Obj) → Prop) (ys : List (Nat × Value)) (kv y : Value) (s₃ : Shared)  : Prop
  | mk : ∀ led₃ h₃ tk₃ k, (s₃ = sh s h₃ tk₃) → (kv = nv k) → (k < n) → ((∀ k, k < n → NameIs kd h₃ k (nv k))) → (Here w t C m led₃ h₃) → (J (dput ys k y) led₃) → DCompE w t kd n nv C m s J ys kv y s₃
section
variable {prog : Program} {M : Model} {w : World} {t : Tp} {c : Cx} {m : Str → Option Value} {led sl : List (Addr × Obj)} {Er : Value → Shared → Prop} {s : Shared} {h h' : Heap} {A : Around} {kd n : Nat} {nv : Nat → Value} {env : Env}

theorem h_dictComp {kx vx iter : Expr} {x : Str} {px : Pos} {ifs : List Expr} {scope : Scope} {pos : Pos} {Q : Value → Shared → Prop} {s₀ : Shared} (cl : List (Str × Addr))
    (hclos : closureFor scope env = pure cl) (hkind : scope.kind = .function) (hnames : ∀ x ∈ scope.names, x.2 = .local → scope.names.lookup x.1 = some .local)
    (h : wpAny M A (eval iter env) (fun x' s₁ => wpAny M A (pyIter x') (fun it s₂ => wpAny M A newDict (fun acc s₃ =>
      wpAny M A (newFunctionEnv scope env.globals cl [] env.qual none .none (some env)) (fun cenv s₄ =>
        codeAny M A (.compStart (.DictComp kx vx [⟨.Name x px, iter, ifs, 0⟩] scope pos) 0 it acc { cenv with scope := relabel scope env }) (compPost M A Er none Q acc cenv.locals) s₄) Er s₃) Er s₂) Er s₁) Er s₀)
    (hs : ∀ x, foldedSetIterable iter env x = pure x := by intro _; rfl) :
    wpAny M A (eval (.DictComp kx vx [⟨.Name x px, iter, ifs, 0⟩] scope pos) env) Q Er s₀ := by
  rw [arm_eval_DictComp]
  exact wpAny_comprehension_free (use := none) rfl hs hclos hkind hnames h

theorem h_assignDictComp {kx vx iter : Expr} {x y : Str} {px py : Pos} {ifs : List Expr} {scope : Scope} {pos spos : Pos} {Q : Flow → Shared → Prop} {s₀ : Shared} (cl : List (Str × Addr))
    (hclos : closureFor scope env = pure cl) (hkind : scope.kind = .function) (hnames : ∀ x ∈ scope.names, x.2 = .local → scope.names.lookup x.1 = some .local)
    (h : wpAny M A (eval iter env) (fun x' s₁ => wpAny M A (pyIter x') (fun it s₂ => wpAny M A newDict (fun acc s₃ =>
      wpAny M A (newFunctionEnv scope env.globals cl [] env.qual none .none (some env)) (fun cenv s₄ =>
        codeAny M A (.compStart (.DictComp kx vx [⟨.Name x px, iter, ifs, 0⟩] scope pos) 0 it acc { cenv with scope := relabel scope env }) (compPost M A Er (some (assign (.Name y py) env)) (fun _ s' => Q .next s') acc cenv.locals) s₄) Er s₃) Er s₂) Er s₁) Er s₀)
    (hs : ∀ x, foldedSetIterable iter env x = pure x := by intro _; rfl)
    (hsw : swapsWith (.DictComp kx vx [⟨.Name x px, iter, ifs, 0⟩] scope pos) (some (.Name y py)) spos.line env = pure true := by rfl) :
    wpAny M A (exec (.Assign [.Name y py] (.DictComp kx vx [⟨.Name x px, iter, ifs, 0⟩] scope pos) spos) env) Q Er s₀ := by
  rw [exec_Assign_Name_used _ _ _ _ hsw]
  refine wpAny_bind (wpAny_standAt (wpAny_bind ?_))
  show wpAny _ A (do let _ ← comprehension (.DictComp kx vx [⟨.Name x px, iter, ifs, 0⟩] scope pos) scope env _ newDict false (eval iter env) (some (assign (.Name y py) env))) _ _ s₀
  exact wpAny_bind (wpAny_mono (wpAny_comprehension_free (use := some (assign (.Name y py) env)) (Q := fun _ s' => Q .next s') rfl hs hclos hkind hnames h) (fun _ s' hq => wpAny_pure (wpAny_pure hq)) fun _ _ e => e)

theorem h_dcompTail {kx vx iter : Expr} {x : Str} {px : Pos} {ifs : List Expr} {scope : Scope} {pos : Pos} {RR : Value → Addr → Result → Shared → Prop} {cl : List (Str × Addr)} {l : Addr} {vs : List Value} {tk : Nat} (I : Nat → List (Nat × Value) → List (Addr × Obj) → Prop)
    (H : Here w t c m led h) (init : I 0 [] led) (hin : ∀ i ys led₁ fz h, (∀ p ∈ c.fz, p ∈ fz) → I i ys led₁ → Here w t (c.wz fz) m led₁ h → ∃ ep, h.get? l = some (lObj vs ep)) (hsz : vs.length ≤ 1000000)
    (hu : A.units < cLine) (turn : ∀ i v ys led₁ h tk fz C oC mC (Rz : List (Nat × Value) → List (Addr × Obj) → Prop) (hRz : ∀ ys led, I (i + 1) ys led → Rz ys led), vs[i]? = some v → (∀ p ∈ c.fz, p ∈ fz) → (C, oC) ∈ fz → NsO C oC mC → mC x = some v → I i ys led₁ → Here w t (c.wz fz) m led₁ h →
      wpAny (model prog w) A (forIn ifs true fun c r => if r = true then do let ok ← isTrue c (compEnvC scope cl C env) (eval c (compEnvC scope cl C env)); pure (ForInStep.yield ok) else pure (ForInStep.yield r)) (CompT w t (c.wz fz) m s (wpAny (model prog w) A (eval kx (compEnvC scope cl C env)) (fun kv s₂ => wpAny (model prog w) A (eval vx (compEnvC scope cl C env)) (DCompE w t kd n nv (c.wz fz) m s Rz ys kv) NoE s₂) NoE) (Rz ys)) NoE (sh s h tk))
    (done : ∀ a ys ep led₁ h tk C oC mC, I vs.length ys led₁ → (ys.map (·.1)).Nodup → (∀ p ∈ ys, p.1 < n) → 1 < a → (∀ q ∈ led₁, q.1 ≠ a) → NsO C oC mC → (∀ p ∈ c.fz, p.1 ≠ C) → Here w t (c.wz ((C, oC) :: c.fz)) m ((a, dObj w kd nv ys ep) :: led₁) h → RR (.ref a) C (.ok .next) (sh s h tk))
    (hx : scope.names.lookup x = some .local := by rfl) (hcell : ∀ x ∈ scope.names, x.2 ≠ .cell := by decide) (hkind : scope.kind = .function := by rfl) (hA : A = c.A := by rfl) :
    wpAny (model prog w) A (pyIter (.ref l)) (fun it s₂ => wpAny (model prog w) A newDict (fun acc s₃ =>
      wpAny (model prog w) A (newFunctionEnv scope env.globals cl [] env.qual none .none (some env)) (fun cenv s₄ =>
        codeAny (model prog w) A (.compStart (.DictComp kx vx [⟨.Name x px, iter, ifs, 0⟩] scope pos) 0 it acc { cenv with scope := relabel scope env }) (RR acc cenv.locals) s₄) Er s₃) Er s₂) Er (sh s h tk) := by
  subst hA
  obtain ⟨ep, hl⟩ := hin 0 [] led c.fz h (fun _ h => h) init H
  have hls : h.IsList l vs.toArray := ⟨_, hl, rfl, ep, rfl⟩
  refine wpAny_pyIter_list (s := sh s h tk) hls ?_
  have H1 := H.pushZ (itObj l 0)
  refine wpAny_newDict (s := sh s (h.push (itObj l 0)) tk) ?_
  have H2 := H1.pushZ (dObj w kd nv [] 0)
  refine wpAny_newFunctionEnv (s := sh s ((h.push (itObj l 0)).push (dObj w kd nv [] 0)) tk) hcell (by intro y hy; simp at hy) (fun h₁ hns₁ hsb₁ => ?_) hkind
  have H3 := H2.pushZ { cls := .type (if (some env).isSome then "dict" else "frame"), data := .dict #[] }
  obtain ⟨oC, hoC, hNC⟩ := NsO.of hns₁
  have H4 := H3.updZm (.head _) hsb₁ hoC
  have hfz : ∀ p ∈ c.fz, p.1 < h.objs.size := fun p hp => Heap.lt_size (H.Z p hp).1
  have hbD : 1 < (h.push (itObj l 0)).objs.size := by rw [Heap.size_push]; exact Nat.lt_succ_of_lt (Nat.lt_trans (by decide) H.big)
  have hDI : h.objs.size < (h.push (itObj l 0)).objs.size := by rw [Heap.size_push]; exact Nat.lt_succ_self _
  have hCD : (h.push (itObj l 0)).objs.size < ((h.push (itObj l 0)).push (dObj w kd nv [] 0)).objs.size := by rw [Heap.size_push (h.push (itObj l 0))]; exact Nat.lt_succ_self _
  rw [lput_hd (memC (Nat.ne_of_lt hCD) (memC (Nat.ne_of_lt (Nat.lt_trans hDI hCD)) (fun q hq => Nat.ne_of_lt (Nat.lt_trans (hfz q hq) (Nat.lt_trans hDI hCD)))))] at H4
  show codeAny (model prog w) c.A (.compStart (.DictComp kx vx [⟨.Name x px, iter, ifs, 0⟩] scope pos) 0 (.ref h.objs.size) (.ref (h.push (itObj l 0)).objs.size) (compEnvC scope cl ((h.push (itObj l 0)).push (dObj w kd nv [] 0)).objs.size env)) (RR (.ref (h.push (itObj l 0)).objs.size) ((h.push (itObj l 0)).push (dObj w kd nv [] 0)).objs.size) (sh s h₁ (tk + 0))
  have hNC : NsO ((h.push (itObj l 0)).push (dObj w kd nv [] 0)).objs.size oC (fun x => List.lookup x ([] : List (Str × Value)).reverse) := hNC
  clear H1 H2 H3 hns₁ hsb₁ hoC
  generalize ((h.push (itObj l 0)).push (dObj w kd nv [] 0)).objs.size = aC at *
  generalize (h.push (itObj l 0)).objs.size = aD at *
  generalize h.objs.size = aI at *
  have fzI : ∀ p ∈ c.fz, p.1 ≠ aI := fun p hp => Nat.ne_of_lt (hfz p hp)
  have fzD : ∀ p ∈ c.fz, p.1 ≠ aD := fun p hp => Nat.ne_of_lt (Nat.lt_trans (hfz p hp) hDI)
  have fzC : ∀ p ∈ c.fz, p.1 ≠ aC := fun p hp => Nat.ne_of_lt (Nat.lt_trans (hfz p hp) (Nat.lt_trans hDI hCD))
  have nID : aI ≠ aD := Nat.ne_of_lt hDI
  have nDC : aD ≠ aC := Nat.ne_of_lt hCD
  have nIC : aI ≠ aC := Nat.ne_of_lt (Nat.lt_trans hDI hCD)
  let J : Nat → Shared → Prop := fun k s' => Ex9 fun i ys led₁ h₁ tk oI ep oC mC => k = vs.length + 1 - i ∧ i ≤ vs.length ∧ ys.length ≤ i ∧ s' = sh s h₁ tk ∧ I i ys led₁ ∧ (ys.map (·.1)).Nodup ∧ (∀ p ∈ ys, p.1 < n) ∧ oI.cls = .type "list_iterator" ∧ oI.data = .fields #[.ref l, .int i 0] ∧ NsO aC oC mC ∧
    Here w t (c.wz ((aC, oC) :: (aD, dObj w kd nv ys ep) :: (aI, oI) :: c.fz)) m led₁ h₁
  have loop : ∀ s', J (vs.length + 1) s' → codeAny (model prog w) c.A (.compLoop (.DictComp kx vx [⟨.Name x px, iter, ifs, 0⟩] scope pos) 0 (.ref aI) (.ref aD) (compEnvC scope cl aC env)) (RR (.ref aD) aC) s' := by
    intro s' hJ
    refine codeAny_compLoop_testsD J ?_ (vs.length + 1) hJ
    rintro k s' ⟨i, ys, led₁, h₁, tk, oI, ep, oC, mC, rfl, hi, hyl, rfl, hI, nd, lt, hc₁, hd₁, hNC, H₁⟩
    have hit : h₁.IsListIter aI l i := ⟨_, (H₁.Z _ (.tail _ (.tail _ (.head _)))).1, hc₁, hd₁⟩
    have hl₁ : h₁.IsList l vs.toArray := by
      obtain ⟨ep₁, hl₁⟩ := hin i ys led₁ _ h₁ (fun p hp => .tail _ (.tail _ (.tail _ hp))) hI H₁
      exact ⟨_, hl₁, rfl, ep₁, rfl⟩
    rcases Nat.lt_or_eq_of_le hi with hlt | rfl
    · have hv : vs[i]? = some vs[i] := by simp [hlt]
      refine wpAny_pyNext_list_item (s := sh s h₁ tk) hit hl₁ (by rw [List.getElem?_toArray]; exact hv) fun h₂ hit₂ hs₂ => ?_
      obtain ⟨o₂, ho₂, hc₂, hd₂⟩ := hit₂
      have H₂ := H₁.updZm (.tail _ (.tail _ (.head _))) hs₂ ho₂
      rw [lput_tl (Ne.symm nIC), lput_tl (Ne.symm nID), lput_hd fzI] at H₂
      have hnC : h₂.Ns aC mC := hNC _ (H₂.Z _ (.head _)).1
      refine wpAny_assign_Name (wpAny_storeName_local (s := sh s h₂ tk) (env := compEnvC scope cl aC env) (lookup_relabel_local hx) hnC (fun h₃ hn₃ hs₃ => ?_) (by simp [compEnvC, relabel, hkind]))
      obtain ⟨oC₃, hoC₃, hNC₃⟩ := NsO.of hn₃
      have H₃ := H₂.updZm (.head _) hs₃ hoC₃
      rw [lput_hd (memC (nDC) (memC (nIC) (fun q hq => fzC q hq)))] at H₃
      refine noE (wpAny_mono (turn i vs[i] ys led₁ h₃ (tk + 1) _ aC oC₃ _ (I (i + 1)) (fun _ _ h => h) hv (fun p hp => .tail _ (.tail _ (.tail _ hp))) (.head _) hNC₃ (by simp) hI H₃) (fun ok s₁ h₁' => ?_) fun _ _ x => x)
      obtain ⟨led₂, h₄, tk₄, rfl, H₄, hok⟩ := h₁'
      cases ok with
      | false => exact ⟨vs.length + 1 - (i + 1), loopDec hlt, i + 1, ys, led₂, h₄, tk₄, o₂, ep, oC₃, _, rfl, hlt, by lia, rfl, hok, nd, lt, hc₂, hd₂, hNC₃, H₄⟩
      | true =>
        refine noE (wpAny_mono hok (fun kv s₂ h₂' => noE (wpAny_mono h₂' (fun y s₃ h₃' => ?_) fun _ _ x => x)) fun _ _ x => x)
        obtain ⟨led₃, h₅, tk₅, k, rfl, rfl, hk, hnm, H₅, hI₅⟩ := h₃'
        refine dictSet_names (s := sh s h₅ tk₅) hu (fun p hp => hnm _ (lt p hp)) (hnm k hk) nd (H₅.Z _ (.tail _ (.head _))).1 (size_ok (by lia)) (fun h₆ tk₆ ep₆ ho₆ hs₆ => ?_)
        have H₆ := H₅.updZm (.tail _ (.head _)) hs₆ ho₆
        rw [lput_tl (Ne.symm nDC), lput_hd (memC (nID) (fun q hq => fzD q hq))] at H₆
        exact ⟨vs.length + 1 - (i + 1), loopDec hlt, i + 1, _, led₃, h₆, tk₆, o₂, ep₆, oC₃, _, rfl, hlt, Nat.le_trans (dput_length _ _ _) (by lia), rfl, hI₅, dput_keys nd, fun p hp => (dput_mem hp).elim (fun h => h ▸ hk) (lt p), hc₂, hd₂, hNC₃, H₆⟩
    · refine wpAny_pyNext_list_end (s := sh s h₁ tk) rfl hit hl₁ (by simp) fun h₂ hs₂ => ?_
      have H₂ := H₁.extButZ (.tail _ (.tail _ (.head _))) hs₂ (fz' := (aC, oC) :: (aD, dObj w kd nv ys ep) :: c.fz) (memC (⟨.head _, Ne.symm nIC⟩) (memC (⟨.tail _ (.head _), Ne.symm nID⟩) (fun p hp => ⟨.tail _ (.tail _ (.tail _ hp)), fzI p hp⟩)))
      have H₃ := Here.thaw (c := c) (a := aD) (o := dObj w kd nv ys ep) (fz := (aC, oC) :: c.fz) (memC (Ne.symm nDC) (fun p hp => fzD p hp)) (H₂.fzm fun p hp => by
          rcases List.mem_cons.mp hp with rfl | hp
          · exact .tail _ (.head _)
          · rcases List.mem_cons.mp hp with rfl | hp
            · exact .head _
            · exact .tail _ (.tail _ hp))
      exact done aD ys ep led₁ h₂ tk aC oC mC hI nd lt hbD (fun q hq => Ne.symm (H₂.D _ (.tail _ (.head _)) q hq)) hNC fzC H₃
  have hJ0 : J (vs.length + 1) (sh s h₁ (tk + 0)) := ⟨0, [], led, h₁, tk, itObj l 0, 0, oC, _, rfl, Nat.zero_le _, Nat.le_refl _, rfl, init, .nil, (fun p hp => nomatch hp), rfl, rfl, hNC, H4⟩
  refine codeAny_compStart_dict (loop _ hJ0) (wpAny_pyIter_listiter (l := l) (i := 0) ⟨_, (H4.Z _ (.tail _ (.tail _ (.head _)))).1, rfl, rfl⟩ (loop _ hJ0))
end
end Mine
end

-- part C15
section
open PySem PySem.W PyProof.Rows PySem.Spec
set_option linter.unusedSectionVars false
set_option linter.unusedVariables false
set_option maxRecDepth 100000
namespace Mine

theorem wpAny_newFunctionEnv1 {M : Model} {A : Around} {E : Value → Shared → Prop} {s : Shared} {scope : Scope} {globals : Addr} {cl : List (Str × Addr)} {qual : Str} {outer : Env} {Q : Env → Shared → Prop} {x : Str}
    (hc : ∀ n, cellsFrom n scope.names cl = (x, n) :: cl) (hp : ∀ h : Heap, pushCells h scope.names = h.push { cls := .type "cell", data := .cell none })
    (hQ : Q (newEnv scope s.heap.objs.size globals ((x, s.heap.objs.size + 1) :: cl) qual none .none (some outer) builtinsNs) { s with heap := (s.heap.push { cls := .type "dict", data := .dict #[] }).push { cls := .type "cell", data := .cell none } }) :
    wpAny M A (newFunctionEnv scope globals cl [] qual none .none (some outer)) Q E s := by
  simp only [newFunctionEnv, Option.isSome_some, if_true]
  refine wpAny_bind (wpAny_alloc ?_)
  refine wpAny_bind (wpAny_layCells _ (fun name kind cells => by cases hkc : kind == NameKind.cell <;> simp [hkc]) _ _ _ _ ?_)
  rw [hc, hp, show ({ s with heap := s.heap.push { cls := .type "dict", data := .dict #[] } } : Shared).heap.objs.size = s.heap.objs.size + 1 from Heap.size_push ..]
  refine wpAny_bind ?_
  rw [List.forIn_nil]
  exact wpAny_pure (wpAny_pure hQ)
section
variable {prog : Program} {M : Model} {w : World} {t : Tp} {c : Cx} {m : Str → Option Value} {led sl : List (Addr × Obj)} {Er : Value → Shared → Prop} {s : Shared} {h h' : Heap} {A : Around} {kd n : Nat} {nv : Nat → Value} {env : Env}

theorem h_dcompTailC {kx vx iter : Expr} {x : Str} {px : Pos} {ifs : List Expr} {scope : Scope} {pos : Pos} {RR : Value → Addr → Result → Shared → Prop} {cl : List (Str × Addr)} {l : Addr} {vs : List Value} {tk : Nat} (I : Nat → List (Nat × Value) → List (Addr × Obj) → Prop)
    (H : Here w t c m led h) (init : I 0 [] led) (hin : ∀ i ys led₁ fz h, (∀ p ∈ c.fz, p ∈ fz) → I i ys led₁ → Here w t (c.wz fz) m led₁ h → ∃ ep, h.get? l = some (lObj vs ep)) (hsz : vs.length ≤ 1000000)
    (hu : A.units < cLine) (turn : ∀ i v ys led₁ h tk fz C aX oX (Rz : List (Nat × Value) → List (Addr × Obj) → Prop) (hRz : ∀ ys led, I (i + 1) ys led → Rz ys led), vs[i]? = some v → (∀ p ∈ c.fz, p ∈ fz) → (aX, oX) ∈ fz → oX.data = .cell (some v) → I i ys led₁ → Here w t (c.wz fz) m led₁ h →
      wpAny (model prog w) A (forIn ifs true fun c r => if r = true then do let ok ← isTrue c (compEnvC scope ((x, aX) :: cl) C env) (eval c (compEnvC scope ((x, aX) :: cl) C env)); pure (ForInStep.yield ok) else pure (ForInStep.yield r)) (CompT w t (c.wz fz) m s (wpAny (model prog w) A (eval kx (compEnvC scope ((x, aX) :: cl) C env)) (fun kv s₂ => wpAny (model prog w) A (eval vx (compEnvC scope ((x, aX) :: cl) C env)) (DCompE w t kd n nv (c.wz fz) m s Rz ys kv) NoE s₂) NoE) (Rz ys)) NoE (sh s h tk))
    (done : ∀ a ys ep led₁ h tk C oC mC, I vs.length ys led₁ → (ys.map (·.1)).Nodup → (∀ p ∈ ys, p.1 < n) → 1 < a → (∀ q ∈ led₁, q.1 ≠ a) → NsO C oC mC → (∀ p ∈ c.fz, p.1 ≠ C) → Here w t (c.wz ((C, oC) :: c.fz)) m ((a, dObj w kd nv ys ep) :: led₁) h → RR (.ref a) C (.ok .next) (sh s h tk))
    (hx : (relabel scope env).names.lookup x = some .cell := by rfl) (hc : ∀ n, cellsFrom n scope.names cl = (x, n) :: cl := by intro _; rfl) (hp : ∀ h : Heap, pushCells h scope.names = h.push { cls := .type "cell", data := .cell none } := by intro _; rfl) (hkind : scope.kind = .function := by rfl) (hA : A = c.A := by rfl) :
    wpAny (model prog w) A (pyIter (.ref l)) (fun it s₂ => wpAny (model prog w) A newDict (fun acc s₃ =>
      wpAny (model prog w) A (newFunctionEnv scope env.globals cl [] env.qual none .none (some env)) (fun cenv s₄ =>
        codeAny (model prog w) A (.compStart (.DictComp kx vx [⟨.Name x px, iter, ifs, 0⟩] scope pos) 0 it acc { cenv with scope := relabel scope env }) (RR acc cenv.locals) s₄) Er s₃) Er s₂) Er (sh s h tk) := by
  subst hA
  obtain ⟨ep, hl⟩ := hin 0 [] led c.fz h (fun _ h => h) init H
  have hls : h.IsList l vs.toArray := ⟨_, hl, rfl, ep, rfl⟩
  refine wpAny_pyIter_list (s := sh s h tk) hls ?_
  have H1 := H.pushZ (itObj l 0)
  refine wpAny_newDict (s := sh s (h.push (itObj l 0)) tk) ?_
  have H2 := H1.pushZ (dObj w kd nv [] 0)
  refine wpAny_newFunctionEnv1 (s := sh s ((h.push (itObj l 0)).push (dObj w kd nv [] 0)) tk) hc hp ?_
  have H3 := H2.pushZ { cls := .type "dict", data := .dict #[] }
  have H4 := H3.pushZ { cls := .type "cell", data := .cell none }
  have hfz : ∀ p ∈ c.fz, p.1 < h.objs.size := fun p hp => Heap.lt_size (H.Z p hp).1
  have hbD : 1 < (h.push (itObj l 0)).objs.size := by rw [Heap.size_push]; exact Nat.lt_succ_of_lt (Nat.lt_trans (by decide) H.big)
  have hDI : h.objs.size < (h.push (itObj l 0)).objs.size := by rw [Heap.size_push]; exact Nat.lt_succ_self _
  have hCD : (h.push (itObj l 0)).objs.size < ((h.push (itObj l 0)).push (dObj w kd nv [] 0)).objs.size := by rw [Heap.size_push (h.push (itObj l 0))]; exact Nat.lt_succ_self _
  have hXC : ((h.push (itObj l 0)).push (dObj w kd nv [] 0)).objs.size < (((h.push (itObj l 0)).push (dObj w kd nv [] 0)).push { cls := .type "dict", data := .dict #[] }).objs.size := by rw [Heap.size_push ((h.push (itObj l 0)).push (dObj w kd nv [] 0))]; exact Nat.lt_succ_self _
  have eX : ((h.push (itObj l 0)).push (dObj w kd nv [] 0)).objs.size + 1 = (((h.push (itObj l 0)).push (dObj w kd nv [] 0)).push { cls := .type "dict", data := .dict #[] }).objs.size := (Heap.size_push ..).symm
  have hNC : NsO ((h.push (itObj l 0)).push (dObj w kd nv [] 0)).objs.size { cls := .type "dict", data := .dict #[] } (fun _ => none) := fun h' e => by
    have := Heap.Ns.new ((h.push (itObj l 0)).push (dObj w kd nv [] 0)) (.type "dict")
    obtain ⟨o, es, ep, ho, r⟩ := this
    have e2 : (((h.push (itObj l 0)).push (dObj w kd nv [] 0)).push { cls := .type "dict", data := .dict #[] }).get? ((h.push (itObj l 0)).push (dObj w kd nv [] 0)).objs.size = some { cls := .type "dict", data := .dict #[] } := Heap.get?_push_size _ rfl
    rw [e2] at ho
    cases ho
    exact ⟨_, es, ep, e, r⟩
  show codeAny (model prog w) c.A (.compStart (.DictComp kx vx [⟨.Name x px, iter, ifs, 0⟩] scope pos) 0 (.ref h.objs.size) (.ref (h.push (itObj l 0)).objs.size) (compEnvC scope ((x, ((h.push (itObj l 0)).push (dObj w kd nv [] 0)).objs.size + 1) :: cl) ((h.push (itObj l 0)).push (dObj w kd nv [] 0)).objs.size env)) (RR (.ref (h.push (itObj l 0)).objs.size) ((h.push (itObj l 0)).push (dObj w kd nv [] 0)).objs.size) (sh s ((((h.push (itObj l 0)).push (dObj w kd nv [] 0)).push { cls := .type "dict", data := .dict #[] }).push { cls := .type "cell", data := .cell none }) tk)
  generalize hh4 : (((h.push (itObj l 0)).push (dObj w kd nv [] 0)).push { cls := .type "dict", data := .dict #[] }).push { cls := .type "cell", data := .cell none } = h₁ at H4 ⊢
  clear hh4
  rw [eX]
  clear H1 H2 H3 eX
  generalize (((h.push (itObj l 0)).push (dObj w kd nv [] 0)).push { cls := .type "dict", data := .dict #[] }).objs.size = aX at *
  generalize ((h.push (itObj l 0)).push (dObj w kd nv [] 0)).objs.size = aC at *
  generalize (h.push (itObj l 0)).objs.size = aD at *
  generalize h.objs.size = aI at *
  have fzI : ∀ p ∈ c.fz, p.1 ≠ aI := fun p hp => Nat.ne_of_lt (hfz p hp)
  have fzD : ∀ p ∈ c.fz, p.1 ≠ aD := fun p hp => Nat.ne_of_lt (Nat.lt_trans (hfz p hp) hDI)
  have fzC : ∀ p ∈ c.fz, p.1 ≠ aC := fun p hp => Nat.ne_of_lt (Nat.lt_trans (hfz p hp) (Nat.lt_trans hDI hCD))
  have fzX : ∀ p ∈ c.fz, p.1 ≠ aX := fun p hp => Nat.ne_of_lt (Nat.lt_trans (hfz p hp) (Nat.lt_trans hDI (Nat.lt_trans hCD hXC)))
  have nCX : aC ≠ aX := Nat.ne_of_lt hXC
  have nDX : aD ≠ aX := Nat.ne_of_lt (Nat.lt_trans hCD hXC)
  have nIX : aI ≠ aX := Nat.ne_of_lt (Nat.lt_trans hDI (Nat.lt_trans hCD hXC))
  have nID : aI ≠ aD := Nat.ne_of_lt hDI
  have nDC : aD ≠ aC := Nat.ne_of_lt hCD
  have nIC : aI ≠ aC := Nat.ne_of_lt (Nat.lt_trans hDI hCD)
  let J : Nat → Shared → Prop := fun k s' => Ex9 fun i ys led₁ h₁ tk oI ep oX vX => k = vs.length + 1 - i ∧ i ≤ vs.length ∧ ys.length ≤ i ∧ s' = sh s h₁ tk ∧ I i ys led₁ ∧ (ys.map (·.1)).Nodup ∧ (∀ p ∈ ys, p.1 < n) ∧ oI.cls = .type "list_iterator" ∧ oI.data = .fields #[.ref l, .int i 0] ∧ oX.data = .cell vX ∧
    Here w t (c.wz ((aX, oX) :: (aC, { cls := .type "dict", data := .dict #[] }) :: (aD, dObj w kd nv ys ep) :: (aI, oI) :: c.fz)) m led₁ h₁
  have loop : ∀ s', J (vs.length + 1) s' → codeAny (model prog w) c.A (.compLoop (.DictComp kx vx [⟨.Name x px, iter, ifs, 0⟩] scope pos) 0 (.ref aI) (.ref aD) (compEnvC scope ((x, aX) :: cl) aC env)) (RR (.ref aD) aC) s' := by
    intro s' hJ
    refine codeAny_compLoop_testsD J ?_ (vs.length + 1) hJ
    rintro k s' ⟨i, ys, led₁, h₁, tk, oI, ep, oX, vX, rfl, hi, hyl, rfl, hI, nd, lt, hc₁, hd₁, hoX, H₁⟩
    have hit : h₁.IsListIter aI l i := ⟨_, (H₁.Z _ (.tail _ (.tail _ (.tail _ (.head _))))).1, hc₁, hd₁⟩
    have hl₁ : h₁.IsList l vs.toArray := by
      obtain ⟨ep₁, hl₁⟩ := hin i ys led₁ _ h₁ (fun p hp => .tail _ (.tail _ (.tail _ (.tail _ hp)))) hI H₁
      exact ⟨_, hl₁, rfl, ep₁, rfl⟩
    rcases Nat.lt_or_eq_of_le hi with hlt | rfl
    · have hv : vs[i]? = some vs[i] := by simp [hlt]
      refine wpAny_pyNext_list_item (s := sh s h₁ tk) hit hl₁ (by rw [List.getElem?_toArray]; exact hv) fun h₂ hit₂ hs₂ => ?_
      obtain ⟨o₂, ho₂, hc₂, hd₂⟩ := hit₂
      have H₂ := H₁.updZm (.tail _ (.tail _ (.tail _ (.head _)))) hs₂ ho₂
      rw [lput_tl (Ne.symm nIX), lput_tl (Ne.symm nIC), lput_tl (Ne.symm nID), lput_hd fzI] at H₂
      refine wpAny_assign_Name (wpAny_storeName_cell (s := sh s h₂ tk) (env := compEnvC scope ((x, aX) :: cl) aC env) (c := aX) (by simp [compEnvC, relabel, hkind]) hx (by simp [compEnvC]) ⟨oX, (H₂.Z _ (.head _)).1, hoX⟩ (fun h₃ hn₃ hs₃ => ?_))
      obtain ⟨oX₃, hoX₃, hdX₃⟩ := hn₃
      have H₃ := H₂.updZm (.head _) hs₃ hoX₃
      rw [lput_hd (memC (nCX) (memC (nDX) (memC (nIX) (fun q hq => fzX q hq))))] at H₃
      refine noE (wpAny_mono (turn i vs[i] ys led₁ h₃ tk _ aC aX oX₃ (I (i + 1)) (fun _ _ h => h) hv (fun p hp => .tail _ (.tail _ (.tail _ (.tail _ hp)))) (.head _) hdX₃ hI H₃) (fun ok s₁ h₁' => ?_) fun _ _ x => x)
      obtain ⟨led₂, h₄, tk₄, rfl, H₄, hok⟩ := h₁'
      cases ok with
      | false => exact ⟨vs.length + 1 - (i + 1), loopDec hlt, i + 1, ys, led₂, h₄, tk₄, o₂, ep, oX₃, _, rfl, hlt, by lia, rfl, hok, nd, lt, hc₂, hd₂, hdX₃, H₄⟩
      | true =>
        refine noE (wpAny_mono hok (fun kv s₂ h₂' => noE (wpAny_mono h₂' (fun y s₃ h₃' => ?_) fun _ _ x => x)) fun _ _ x => x)
        obtain ⟨led₃, h₅, tk₅, k, rfl, rfl, hk, hnm, H₅, hI₅⟩ := h₃'
        refine dictSet_names (s := sh s h₅ tk₅) hu (fun p hp => hnm _ (lt p hp)) (hnm k hk) nd (H₅.Z _ (.tail _ (.tail _ (.head _)))).1 (size_ok (by lia)) (fun h₆ tk₆ ep₆ ho₆ hs₆ => ?_)
        have H₆ := H₅.updZm (.tail _ (.tail _ (.head _))) hs₆ ho₆
        rw [lput_tl (Ne.symm nDX), lput_tl (Ne.symm nDC), lput_hd (memC (nID) (fun q hq => fzD q hq))] at H₆
        exact ⟨vs.length + 1 - (i + 1), loopDec hlt, i + 1, _, led₃, h₆, tk₆, o₂, ep₆, oX₃, _, rfl, hlt, Nat.le_trans (dput_length _ _ _) (by lia), rfl, hI₅, dput_keys nd, fun p hp => (dput_mem hp).elim (fun h => h ▸ hk) (lt p), hc₂, hd₂, hdX₃, H₆⟩
    · refine wpAny_pyNext_list_end (s := sh s h₁ tk) rfl hit hl₁ (by simp) fun h₂ hs₂ => ?_
      have H₂ := H₁.extButZ (.tail _ (.tail _ (.tail _ (.head _)))) hs₂ (fz' := (aC, { cls := .type "dict", data := .dict #[] }) :: (aD, dObj w kd nv ys ep) :: c.fz) (memC (⟨.tail _ (.head _), Ne.symm nIC⟩) (memC (⟨.tail _ (.tail _ (.head _)), Ne.symm nID⟩) (fun p hp => ⟨.tail _ (.tail _ (.tail _ (.tail _ hp))), fzI p hp⟩)))
      have H₃ := Here.thaw (c := c) (a := aD) (o := dObj w kd nv ys ep) (fz := (aC, { cls := .type "dict", data := .dict #[] }) :: c.fz) (memC (Ne.symm nDC) (fun p hp => fzD p hp)) (H₂.fzm fun p hp => by
          rcases List.mem_cons.mp hp with rfl | hp
          · exact .tail _ (.head _)
          · rcases List.mem_cons.mp hp with rfl | hp
            · exact .head _
            · exact .tail _ (.tail _ hp))
      exact done aD ys ep led₁ h₂ tk aC _ _ hI nd lt hbD (fun q hq => Ne.symm (H₂.D _ (.tail _ (.head _)) q hq)) hNC fzC H₃
  have hJ0 : J (vs.length + 1) (sh s h₁ tk) := ⟨0, [], led, h₁, tk, itObj l 0, 0, _, none, rfl, Nat.zero_le _, Nat.le_refl _, rfl, init, .nil, (fun p hp => nomatch hp), rfl, rfl, rfl, H4⟩
  refine codeAny_compStart_dict (loop _ hJ0) (wpAny_pyIter_listiter (l := l) (i := 0) ⟨_, (H4.Z _ (.tail _ (.tail _ (.tail _ (.head _))))).1, rfl, rfl⟩ (loop _ hJ0))
end
end Mine
end

-- part C16
section
open PySem PySem.W PyProof.Rows PySem.Spec
set_option linter.unusedSectionVars false
set_option linter.unusedVariables false
set_option maxRecDepth 100000
namespace Mine
abbrev riObj (N i : Nat) : Obj := { cls := .type "range_iterator", dict := none, data := .fields #[rawInt (i : Int), rawInt ((N : Int) - (i : Int)), rawInt 1], slots := #[] }
section
variable {prog : Program} {M : Model} {w : World} {t : Tp} {c : Cx} {m : Str → Option Value} {led sl : List (Addr × Obj)} {Er : Value → Shared → Prop} {s : Shared} {h h' : Heap} {A : Around} {kd n : Nat} {nv : Nat → Value} {env : Env}

theorem h_compRange {elt iter : Expr} {x : Str} {px : Pos} {ifs : List Expr} {scope : Scope} {pos : Pos} {RR : Value → Addr → Result → Shared → Prop} {cl : List (Str × Addr)} {l : Addr} {N : Nat} {tk : Nat} {ta tb tc : Tok} (I : Nat → List Value → List (Addr × Obj) → Prop)
    (H : Here w t c m led h) (init : I 0 [] led) (htk0 : tk ≠ 0) (hr : IsRange h l 0 N 1 ta tb tc) (hsz : N ≤ 1000000)
    (turn : ∀ i u ys led₁ h tk fz C oC mC (Rz : List Value → List (Addr × Obj) → Prop) (hRz : ∀ ys led, I (i + 1) ys led → Rz ys led), i < N → u ≠ 0 → tk ≠ 0 → (∀ p ∈ c.fz, p ∈ fz) → (C, oC) ∈ fz → NsO C oC mC → mC x = some (.int (i : Nat) u) → I i ys led₁ → Here w t (c.wz fz) m led₁ h →
      wpAny (model prog w) A (forIn ifs true fun c r => if r = true then do let ok ← isTrue c (compEnvC scope cl C env) (eval c (compEnvC scope cl C env)); pure (ForInStep.yield ok) else pure (ForInStep.yield r)) (CompTN w t (c.wz fz) m s (wpAny (model prog w) A (eval elt (compEnvC scope cl C env)) (CompEN w t (c.wz fz) m s Rz ys) NoE) (Rz ys)) NoE (sh s h tk))
    (done : ∀ a ys ep led₁ h tk C oC mC, I N ys led₁ → (∀ q ∈ led₁, q.1 ≠ a) → NsO C oC mC → (∀ p ∈ c.fz, p.1 ≠ C) → Here w t (c.wz ((C, oC) :: c.fz)) m ((a, lObj ys ep) :: led₁) h → RR (.ref a) C (.ok .next) (sh s h tk))
    (hx : scope.names.lookup x = some .local := by rfl) (hcell : ∀ x ∈ scope.names, x.2 ≠ .cell := by decide) (hkind : scope.kind = .function := by rfl) (hA : A = c.A := by rfl) :
    wpAny (model prog w) A (pyIter (.ref l)) (fun it s₂ => wpAny (model prog w) A (newList []) (fun acc s₃ =>
      wpAny (model prog w) A (newFunctionEnv scope env.globals cl [] env.qual none .none (some env)) (fun cenv s₄ =>
        codeAny (model prog w) A (.compStart (.ListComp elt [⟨.Name x px, iter, ifs, 0⟩] scope pos) 0 it acc { cenv with scope := relabel scope env }) (RR acc cenv.locals) s₄) Er s₃) Er s₂) Er (sh s h tk) := by
  subst hA
  refine wpAny_pyIter_range (s := sh s h tk) hr (small_one (by decide) (by decide) (by lia) (by lia)) ?_
  rw [show Builtin.Range.rangeSize 0 (N : Int) 1 = (N : Int) by rw [rangeSize_one]; split <;> lia]
  have H1 := H.pushZ (riObj N 0)
  show wpAny (model prog w) c.A (newList []) _ Er (sh s (h.push { cls := .type "range_iterator", dict := none, data := .fields #[rawInt 0, rawInt (N : Int), rawInt 1], slots := #[] }) tk)
  rw [show ({ cls := .type "range_iterator", dict := none, data := .fields #[rawInt 0, rawInt (N : Int), rawInt 1], slots := #[] } : Obj) = riObj N 0 by unfold riObj; simp]
  refine wpAny_newObj_type (s := sh s (h.push (riObj N 0)) tk) ?_
  have H2 := H1.pushZ (lObj [] 0)
  refine wpAny_newFunctionEnv (s := sh s ((h.push (riObj N 0)).push (lObj [] 0)) tk) hcell (by intro y hy; simp at hy) (fun h₁ hns₁ hsb₁ => ?_) hkind
  have H3 := H2.pushZ { cls := .type (if (some env).isSome then "dict" else "frame"), data := .dict #[] }
  obtain ⟨oC, hoC, hNC⟩ := NsO.of hns₁
  have H4 := H3.updZm (.head _) hsb₁ hoC
  have hfz : ∀ p ∈ c.fz, p.1 < h.objs.size := fun p hp => Heap.lt_size (H.Z p hp).1
  have hDI : h.objs.size < (h.push (riObj N 0)).objs.size := by rw [Heap.size_push]; exact Nat.lt_succ_self _
  have hCD : (h.push (riObj N 0)).objs.size < ((h.push (riObj N 0)).push (lObj [] 0)).objs.size := by rw [Heap.size_push (h.push (riObj N 0))]; exact Nat.lt_succ_self _
  rw [lput_hd (memC (Nat.ne_of_lt hCD) (memC (Nat.ne_of_lt (Nat.lt_trans hDI hCD)) (fun q hq => Nat.ne_of_lt (Nat.lt_trans (hfz q hq) (Nat.lt_trans hDI hCD)))))] at H4
  show codeAny (model prog w) c.A (.compStart (.ListComp elt [⟨.Name x px, iter, ifs, 0⟩] scope pos) 0 (.ref h.objs.size) (.ref (h.push (riObj N 0)).objs.size) (compEnvC scope cl ((h.push (riObj N 0)).push (lObj [] 0)).objs.size env)) (RR (.ref (h.push (riObj N 0)).objs.size) ((h.push (riObj N 0)).push (lObj [] 0)).objs.size) (sh s h₁ (tk + 0))
  have hNC : NsO ((h.push (riObj N 0)).push (lObj [] 0)).objs.size oC (fun x => List.lookup x ([] : List (Str × Value)).reverse) := hNC
  clear H1 H2 H3 hns₁ hsb₁ hoC
  generalize ((h.push (riObj N 0)).push (lObj [] 0)).objs.size = aC at *
  generalize (h.push (riObj N 0)).objs.size = aD at *
  generalize h.objs.size = aI at *
  have fzI : ∀ p ∈ c.fz, p.1 ≠ aI := fun p hp => Nat.ne_of_lt (hfz p hp)
  have fzD : ∀ p ∈ c.fz, p.1 ≠ aD := fun p hp => Nat.ne_of_lt (Nat.lt_trans (hfz p hp) hDI)
  have fzC : ∀ p ∈ c.fz, p.1 ≠ aC := fun p hp => Nat.ne_of_lt (Nat.lt_trans (hfz p hp) (Nat.lt_trans hDI hCD))
  have nID : aI ≠ aD := Nat.ne_of_lt hDI
  have nDC : aD ≠ aC := Nat.ne_of_lt hCD
  have nIC : aI ≠ aC := Nat.ne_of_lt (Nat.lt_trans hDI hCD)
  let J : Nat → Shared → Prop := fun k s' => Ex8 fun i ys led₁ h₁ tk ep oC mC => tk ≠ 0 ∧ k = N + 1 - i ∧ i ≤ N ∧ ys.length ≤ i ∧ s' = sh s h₁ tk ∧ I i ys led₁ ∧ NsO aC oC mC ∧
    Here w t (c.wz ((aC, oC) :: (aD, lObj ys ep) :: (aI, riObj N i) :: c.fz)) m led₁ h₁
  have loop : ∀ s', J (N + 1) s' → codeAny (model prog w) c.A (.compLoop (.ListComp elt [⟨.Name x px, iter, ifs, 0⟩] scope pos) 0 (.ref aI) (.ref aD) (compEnvC scope cl aC env)) (RR (.ref aD) aC) s' := by
    intro s' hJ
    refine codeAny_compLoop_tests J ?_ (N + 1) hJ
    rintro k s' ⟨i, ys, led₁, h₁, tk, ep, oC, mC, htk, rfl, hi, hyl, rfl, hI, hNC, H₁⟩
    have hit : IsRangeIter h₁ aI (i : Int) ((N : Int) - (i : Int)) 1 := (H₁.Z _ (.tail _ (.tail _ (.head _)))).1
    rcases Nat.lt_or_eq_of_le hi with hlt | hiN
    · refine wpAny_pyNext_range_item (s := sh s h₁ tk) hit (by lia) fun h₂ ho₂ hs₂ => ?_
      have ho₂ : h₂.get? aI = some (riObj N (i + 1)) := by
        rw [ho₂, show (N : Int) - (i : Int) - 1 = (N : Int) - ((i + 1 : Nat) : Int) by lia]; rfl
      have H₂ := H₁.updZm (.tail _ (.tail _ (.head _))) hs₂ ho₂
      rw [lput_tl (Ne.symm nIC), lput_tl (Ne.symm nID), lput_hd fzI] at H₂
      have hnC : h₂.Ns aC mC := hNC _ (H₂.Z _ (.head _)).1
      refine wpAny_assign_Name (wpAny_storeName_local (s := sh s h₂ (tk + 1)) (env := compEnvC scope cl aC env) (lookup_relabel_local hx) hnC (fun h₃ hn₃ hs₃ => ?_) (by simp [compEnvC, relabel, hkind]))
      obtain ⟨oC₃, hoC₃, hNC₃⟩ := NsO.of hn₃
      have H₃ := H₂.updZm (.head _) hs₃ hoC₃
      rw [lput_hd (memC (nDC) (memC (nIC) (fun q hq => fzC q hq)))] at H₃
      refine noE (wpAny_mono (turn i tk ys led₁ h₃ (tk + 1 + 1) _ aC oC₃ _ (I (i + 1)) (fun _ _ h => h) hlt htk (Nat.succ_ne_zero _) (fun p hp => .tail _ (.tail _ (.tail _ hp))) (.head _) hNC₃ (by simp; rfl) hI H₃) (fun ok s₁ h₁' => ?_) fun _ _ x => x)
      obtain ⟨led₂, h₄, tk₄, htk₄, rfl, H₄, hok⟩ := h₁'
      cases ok with
      | false => exact ⟨N + 1 - (i + 1), loopDec hlt, i + 1, ys, led₂, h₄, tk₄, ep, oC₃, _, htk₄, rfl, hlt, by lia, rfl, hok, hNC₃, H₄⟩
      | true =>
        refine noE (wpAny_mono hok (fun y s₂ h₂' => ?_) fun _ _ x => x)
        obtain ⟨led₃, h₅, tk₅, htk₅, rfl, H₅, hI₅⟩ := h₂'
        refine append_at (s := sh s h₅ tk₅) (H₅.Z _ (.tail _ (.head _))).1 (fun h₆ hs₆ ho₆ => ?_) (size_ok (by simp; lia))
        have e : (ys.toArray.push y) = (ys ++ [y]).toArray := by simp
        rw [e] at ho₆
        have H₆ := H₅.updZm (.tail _ (.head _)) hs₆ ho₆
        rw [lput_tl (Ne.symm nDC), lput_hd (memC (nID) (fun q hq => fzD q hq))] at H₆
        exact ⟨N + 1 - (i + 1), loopDec hlt, i + 1, ys ++ [y], led₃, h₆, tk₅, ep + 1, oC₃, _, htk₅, rfl, hlt, by simp; lia, rfl, hI₅, hNC₃, H₆⟩
    · refine wpAny_pyNext_range_end (s := sh s h₁ tk) rfl hit (by lia) fun h₂ hs₂ => ?_
      rw [hiN] at hI
      have H₂ := H₁.extButZ (.tail _ (.tail _ (.head _))) hs₂ (fz' := (aC, oC) :: (aD, lObj ys ep) :: c.fz) (memC (⟨.head _, Ne.symm nIC⟩) (memC (⟨.tail _ (.head _), Ne.symm nID⟩) (fun p hp => ⟨.tail _ (.tail _ (.tail _ hp)), fzI p hp⟩)))
      have H₃ := Here.thaw (c := c) (a := aD) (o := lObj ys ep) (fz := (aC, oC) :: c.fz) (memC (Ne.symm nDC) (fun p hp => fzD p hp)) (H₂.fzm fun p hp => by
          rcases List.mem_cons.mp hp with rfl | hp
          · exact .tail _ (.head _)
          · rcases List.mem_cons.mp hp with rfl | hp
            · exact .head _
            · exact .tail _ (.tail _ hp))
      exact done aD ys ep led₁ h₂ tk aC oC mC hI (fun q hq => Ne.symm (H₂.D _ (.tail _ (.head _)) q hq)) hNC fzC H₃
  have hJ0 : J (N + 1) (sh s h₁ (tk + 0)) := ⟨0, [], led, h₁, tk, 0, oC, _, htk0, rfl, Nat.zero_le _, Nat.le_refl _, rfl, init, hNC, H4⟩
  refine codeAny_compStart_list (loop _ hJ0) (wpAny_pyIter_rangeiter (s := sh s h₁ (tk + 0)) (x := ((0 : Nat) : Int)) (left := (N : Int) - ((0 : Nat) : Int)) (step := 1) (H4.Z _ (.tail _ (.tail _ (.head _)))).1 (loop _ hJ0))
end
end Mine
end

-- part C17
section
open PySem PySem.W PyProof.Rows PySem.Spec
set_option linter.unusedSectionVars false
set_option linter.unusedVariables false
set_option maxRecDepth 100000
namespace Mine
section
variable {prog : Program} {M : Model} {w : World} {t : Tp} {c : Cx} {m : Str → Option Value} {led sl : List (Addr × Obj)} {Er : Value → Shared → Prop} {s : Shared} {h h' : Heap} {A : Around} {kd n : Nat} {nv : Nat → Value} {env : Env}

/- some frozen things turn at once -/
theorem Here.extSetZ {fz fz' : List (Addr × Obj)} (ws : List Addr) (H : Here w t (c.wz fz) m led h) (hws : ∀ a ∈ ws, ∃ o, (a, o) ∈ fz) (hk : ∀ b o, b ∉ ws → h.get? b = some o → h'.get? b = some o)
    (hf : ∀ p ∈ fz', (p ∈ fz ∧ p.1 ∉ ws) ∨ (p.1 ∈ ws ∧ h'.get? p.1 = some p.2)) : Here w t (c.wz fz') m led h' := by
  have hm : ∀ a ∈ ws, a ≠ c.L ∧ c.h₀.get? a = none := fun a ha => let ⟨o, ho⟩ := hws a ha; (H.Z _ ho).2
  obtain ⟨oL, es, ep, hL, r⟩ := H.F.ns
  refine ⟨H.B, H.X, H.T, ⟨⟨oL, es, ep, hk _ _ (fun q => (hm _ q).1 rfl) hL, r⟩, fun b ob e => hk b ob (fun q => ?_) (H.F.keep b ob e), H.F.above⟩, ?_, H.K, ?_, ?_⟩
  · have e : c.h₀.get? b = some ob := e
    rw [(hm b q).2] at e; cases e
  · intro p hp
    refine ⟨hk _ _ (fun q => ?_) (H.N p hp).1, (H.N p hp).2⟩
    obtain ⟨o, ho⟩ := hws _ q
    exact H.D _ ho p hp rfl
  · intro p hp
    rcases hf p hp with ⟨h1, h2⟩ | ⟨h1, h2⟩
    · exact ⟨hk _ _ h2 (H.Z p h1).1, (H.Z p h1).2⟩
    · exact ⟨h2, hm _ h1⟩
  · intro p hp q hq
    rcases hf p hp with ⟨h1, h2⟩ | ⟨h1, h2⟩
    · exact H.D p h1 q hq
    · obtain ⟨o, ho⟩ := hws _ h1
      exact H.D _ ho q hq

theorem codeAny_compLoop_pairD {kx vx iter : Expr} {elts : List Expr} {x1} {tp : Pos} {scope : Scope} {pos : Pos} {it : Value} {D : Addr} {env : Env} {R : Result → Shared → Prop} (I : Nat → Shared → Prop)
    (turn : ∀ n s, I n s → wpAny (model prog w) A (pyNext it) (fun r s₁ => match r with
      | none => R (.ok .next) s₁
      | some v => wpAny (model prog w) A (letOwnedTupleGo (.Tuple elts x1 tp) it v) (fun _ s₁' => wpAny (model prog w) A (assign (.Tuple elts x1 tp) env v) (fun _ s₂ =>
          wpAny (model prog w) A (eval kx env) (fun kv s₃ => wpAny (model prog w) A (eval vx env) (fun vv s₄ => wpAny (model prog w) A (dictSet D kv vv) (fun _ s₅ => ∃ m, m < n ∧ I m s₅) NoE s₄) NoE s₃) NoE s₂) NoE s₁') NoE s₁) NoE s)
    (n : Nat) (h : I n s) : codeAny (model prog w) A (.compLoop (.DictComp kx vx [⟨.Tuple elts x1 tp, iter, [], 0⟩] scope pos) 0 it (.ref D) env) R s := by
  refine codeAny_loop rfl I (fun n s hI => ?_) n h
  show wpAny _ A ((compTurn (.DictComp kx vx [⟨.Tuple elts x1 tp, iter, [], 0⟩] scope pos) 0 it (.ref D) env).onRaise (fun x => do noteFrame x env; theTreesLotGoes x)) _ _ s
  refine wpAny_noted ?_
  rw [compTurn_dict]
  refine noE (wpAny_bind (wpAny_standAt (wpAny_bind (wpAny_mono (turn n s hI) (fun r s₁ h₁ => ?_) fun _ _ h' => h'))))
  cases r with
  | none => exact wpAny_pure h₁
  | some v =>
    refine wpAny_bind (wpAny_mono h₁ (fun _ s₁' h₁' => ?_) fun _ _ h' => h')
    refine wpAny_bind (wpAny_mono h₁' (fun _ s₂ h₂ => wpAny_bind (wpAny_mono (wpAny_tests_nil (Q := fun ok s₃ => ok = true ∧ s₃ = s₂) ⟨rfl, rfl⟩) (fun ok s₃ h₃ => ?_) fun _ _ h' => h')) fun _ _ h' => h')
    obtain ⟨rfl, rfl⟩ := h₃
    exact wpAny_bind (wpAny_bind (wpAny_mono h₂ (fun kv s₄ h₄ => wpAny_bind (wpAny_holding (wpAny_mono h₄ (fun vv s₅ h₅ => wpAny_bind (wpAny_standAt (wpAny_holding (wpAny_mono h₅ (fun _ s₆ h₆ => wpAny_pure ⟨rfl, h₆⟩) fun _ _ h' => h')))) fun _ _ h' => h'))) fun _ _ h' => h'))
end
end Mine
end

-- part C18
section
open PySem PySem.W PyProof.Rows PySem.Spec
set_option linter.unusedSectionVars false
set_option linter.unusedVariables false
set_option maxRecDepth 100000
namespace Mine
abbrev enO (it : Addr) (i : Int) (old : Value) : Obj := { cls := .type "enumerate", dict := none, data := .fields #[.none, .bool false, .ref it, rawInt i, .none, old], slots := #[] }
section
variable {prog : Program} {M : Model} {w : World} {t : Tp} {c : Cx} {m : Str → Option Value} {led sl : List (Addr × Obj)} {Er : Value → Shared → Prop} {s : Shared} {h h' : Heap} {A : Around} {kd n : Nat} {nv : Nat → Value} {env : Env}

/- something new is laid aside -/
theorem Here.addZ {a : Addr} {o : Obj} {h₁ : Heap} (H₁ : Here w t c m led h₁) (ha : h₁.objs.size ≤ a) (hk : ∀ b o, h₁.get? b = some o → h.get? b = some o) (ho : h.get? a = some o) {fz : List (Addr × Obj)} (H : Here w t (c.wz fz) m led h) : Here w t (c.wz ((a, o) :: fz)) m led h := by
  refine ⟨H.B, H.X, H.T, H.F, H.N, H.K, ?_, ?_⟩
  · intro p hp
    rcases List.mem_cons.mp hp with rfl | hp
    · refine ⟨ho, Nat.ne_of_gt (Nat.lt_of_lt_of_le H₁.F.ns.lt ha), ?_⟩
      cases e : c.h₀.get? a with
      | none => rfl
      | some o' => exact absurd (Heap.lt_size (H₁.F.keep _ _ e)) (Nat.not_lt.mpr ha)
    · exact H.Z p hp
  · intro p hp q hq
    rcases List.mem_cons.mp hp with rfl | hp
    · exact Nat.ne_of_gt (Nat.lt_of_lt_of_le (Heap.lt_size (H₁.N q hq).1) ha)
    · exact H.D p hp q hq

theorem h_enumCall {l : Addr} {vs : List Value} {ep tk : Nat} {Q : Value → Shared → Prop} (H : Here w t c m led h) (hl : h.get? l = some (lObj vs ep))
    (hq : ∀ e it oi h', e ≠ it → (∀ p ∈ c.fz, p.1 ≠ e ∧ p.1 ≠ it) → l ≠ e → l ≠ it → oi.cls = .type "list_iterator" → oi.data = .fields #[.ref l, .int 0 0] → Here w t (c.wz ((e, enO it 0 .none) :: (it, oi) :: c.fz)) m led h' → Q (.ref e) (sh s h' tk)) :
    wpAny (model prog w) A (call (.type "enumerate") [.ref l]) Q Er (sh s h tk) := by
  refine call_enumerate_list (s := sh s h tk) ⟨_, hl, rfl, ep, rfl⟩ fun h' he hit hsz hk => ?_
  obtain ⟨oi, hoi, hc, hd⟩ := hit
  have hll := Heap.lt_size hl
  have H' := H.ext hk
  have H2 : Here w t (c.wz ((h.objs.size, oi) :: c.fz)) m led h' := H.addZ (Nat.le_refl _) hk hoi (fz := c.fz) H'
  have H3 := H.addZ (Nat.le_succ _) hk he H2
  exact hq _ _ oi h' (Nat.succ_ne_self _) (fun p hp => ⟨Nat.ne_of_lt (Nat.lt_succ_of_lt (Heap.lt_size (H.Z p hp).1)), Nat.ne_of_lt (Heap.lt_size (H.Z p hp).1)⟩) (Nat.ne_of_lt (Nat.lt_succ_of_lt hll)) (Nat.ne_of_lt hll) hc hd H3

theorem h_assignDictCompT {kx vx iter target : Expr} {y : Str} {py : Pos} {ifs : List Expr} {scope : Scope} {pos spos : Pos} {Q : Flow → Shared → Prop} {s₀ : Shared} (cl : List (Str × Addr))
    (hclos : closureFor scope env = pure cl) (hkind : scope.kind = .function) (hnames : ∀ x ∈ scope.names, x.2 = .local → scope.names.lookup x.1 = some .local)
    (h : wpAny M A (eval iter env) (fun x' s₁ => wpAny M A (pyIter x') (fun it s₂ => wpAny M A newDict (fun acc s₃ =>
      wpAny M A (newFunctionEnv scope env.globals cl [] env.qual none .none (some env)) (fun cenv s₄ =>
        codeAny M A (.compStart (.DictComp kx vx [⟨target, iter, ifs, 0⟩] scope pos) 0 it acc { cenv with scope := relabel scope env }) (compPost M A Er (some (assign (.Name y py) env)) (fun _ s' => Q .next s') acc cenv.locals) s₄) Er s₃) Er s₂) Er s₁) Er s₀)
    (hs : ∀ x, foldedSetIterable iter env x = pure x := by intro _; rfl)
    (hsw : swapsWith (.DictComp kx vx [⟨target, iter, ifs, 0⟩] scope pos) (some (.Name y py)) spos.line env = pure true := by rfl) :
    wpAny M A (exec (.Assign [.Name y py] (.DictComp kx vx [⟨target, iter, ifs, 0⟩] scope pos) spos) env) Q Er s₀ := by
  rw [exec_Assign_Name_used _ _ _ _ hsw]
  refine wpAny_bind (wpAny_standAt (wpAny_bind ?_))
  show wpAny _ A (do let _ ← comprehension (.DictComp kx vx [⟨target, iter, ifs, 0⟩] scope pos) scope env _ newDict false (eval iter env) (some (assign (.Name y py) env))) _ _ s₀
  exact wpAny_bind (wpAny_mono (wpAny_comprehension_free (use := some (assign (.Name y py) env)) (Q := fun _ s' => Q .next s') rfl hs hclos hkind hnames h) (fun _ s' hq => wpAny_pure (wpAny_pure hq)) fun _ _ e => e)

theorem h_dcompEnum {kx vx iter : Expr} {x y : Str} {px py tp pos : Pos} {x1} {scope : Scope} {RR : Value → Addr → Result → Shared → Prop} {cl : List (Str × Addr)} {e it l : Addr} {oi : Obj} {vs : List Value} {tk : Nat} (I : Nat → List (Nat × Value) → List (Addr × Obj) → Prop)
    (hne : e ≠ it) (hfz0 : ∀ p ∈ c.fz, p.1 ≠ e ∧ p.1 ≠ it) (hoc : oi.cls = .type "list_iterator") (hod : oi.data = .fields #[.ref l, .int 0 0])
    (H : Here w t (c.wz ((e, enO it 0 .none) :: (it, oi) :: c.fz)) m led h) (init : I 0 [] led) (hin : ∀ i ys led₁ fz h, (∀ p ∈ c.fz, p ∈ fz) → I i ys led₁ → Here w t (c.wz fz) m led₁ h → ∃ ep, h.get? l = some (lObj vs ep)) (hle : l ≠ e) (hli : l ≠ it) (hsz : vs.length ≤ 1000000) (hu : A.units < cLine) (hxy : x ≠ y)
    (turn : ∀ i v u ys led₁ h tk fz C oC mC (Rz : List (Nat × Value) → List (Addr × Obj) → Prop) (hRz : ∀ ys led, I (i + 1) ys led → Rz ys led), vs[i]? = some v → (∀ p ∈ c.fz, p ∈ fz) → (C, oC) ∈ fz → NsO C oC mC → mC x = some (.int (i : Nat) u) → mC y = some v → I i ys led₁ → Here w t (c.wz fz) m led₁ h →
      wpAny (model prog w) A (eval kx (compEnvC scope cl C env)) (fun kv s₂ => wpAny (model prog w) A (eval vx (compEnvC scope cl C env)) (DCompE w t kd n nv (c.wz fz) m s Rz ys kv) NoE s₂) NoE (sh s h tk))
    (done : ∀ a ys ep led₁ h tk C oC mC, I vs.length ys led₁ → (ys.map (·.1)).Nodup → (∀ p ∈ ys, p.1 < n) → 1 < a → (∀ q ∈ led₁, q.1 ≠ a) → NsO C oC mC → (∀ p ∈ c.fz, p.1 ≠ C) → Here w t (c.wz ((C, oC) :: c.fz)) m ((a, dObj w kd nv ys ep) :: led₁) h → RR (.ref a) C (.ok .next) (sh s h tk))
    (hx : scope.names.lookup x = some .local := by rfl) (hy : scope.names.lookup y = some .local := by rfl) (hcell : ∀ x ∈ scope.names, x.2 ≠ .cell := by decide) (hkind : scope.kind = .function := by rfl) (hA : A = c.A := by rfl) :
    wpAny (model prog w) A (pyIter (.ref e)) (fun it s₂ => wpAny (model prog w) A newDict (fun acc s₃ =>
      wpAny (model prog w) A (newFunctionEnv scope env.globals cl [] env.qual none .none (some env)) (fun cenv s₄ =>
        codeAny (model prog w) A (.compStart (.DictComp kx vx [⟨.Tuple [.Name x px, .Name y py] x1 tp, iter, [], 0⟩] scope pos) 0 it acc { cenv with scope := relabel scope env }) (RR acc cenv.locals) s₄) Er s₃) Er s₂) Er (sh s h tk) := by
  subst hA
  refine wpAny_pyIter_enum (s := sh s h tk) (H.Z _ (.head _)).1 ?_
  refine wpAny_newDict (s := sh s h tk) ?_
  have H2 := H.pushZ (dObj w kd nv [] 0)
  refine wpAny_newFunctionEnv (s := sh s (h.push (dObj w kd nv [] 0)) tk) hcell (by intro y hy; simp at hy) (fun h₁ hns₁ hsb₁ => ?_) hkind
  have H3 := H2.pushZ { cls := .type (if (some env).isSome then "dict" else "frame"), data := .dict #[] }
  obtain ⟨oC, hoC, hNC⟩ := NsO.of hns₁
  have H4 := H3.updZm (.head _) hsb₁ hoC
  have hee : e < h.objs.size := Heap.lt_size (H.Z _ (.head _)).1
  have hii : it < h.objs.size := Heap.lt_size (H.Z _ (.tail _ (.head _))).1
  have hfz : ∀ p ∈ c.fz, p.1 < h.objs.size := fun p hp => Heap.lt_size (H.Z p (.tail _ (.tail _ hp))).1
  have hbD : 1 < h.objs.size := Nat.lt_trans (by decide) H.big
  have hCD : h.objs.size < (h.push (dObj w kd nv [] 0)).objs.size := by rw [Heap.size_push h]; exact Nat.lt_succ_self _
  rw [lput_hd (memC (Nat.ne_of_lt hCD) (memC (Nat.ne_of_lt (Nat.lt_trans hee hCD)) (memC (Nat.ne_of_lt (Nat.lt_trans hii hCD)) (fun q hq => Nat.ne_of_lt (Nat.lt_trans (hfz q hq) hCD)))))] at H4
  show codeAny (model prog w) c.A (.compStart (.DictComp kx vx [⟨.Tuple [.Name x px, .Name y py] x1 tp, iter, [], 0⟩] scope pos) 0 (.ref e) (.ref h.objs.size) (compEnvC scope cl (h.push (dObj w kd nv [] 0)).objs.size env)) (RR (.ref h.objs.size) (h.push (dObj w kd nv [] 0)).objs.size) (sh s h₁ (tk + 0))
  have hNC : NsO (h.push (dObj w kd nv [] 0)).objs.size oC (fun x => List.lookup x ([] : List (Str × Value)).reverse) := hNC
  clear H2 H3 hns₁ hsb₁ hoC
  generalize (h.push (dObj w kd nv [] 0)).objs.size = aC at *
  generalize h.objs.size = aD at *
  have fzE : ∀ p ∈ c.fz, p.1 ≠ e := fun p hp => (hfz0 p hp).1
  have fzI : ∀ p ∈ c.fz, p.1 ≠ it := fun p hp => (hfz0 p hp).2
  have fzD : ∀ p ∈ c.fz, p.1 ≠ aD := fun p hp => Nat.ne_of_lt (hfz p hp)
  have fzC : ∀ p ∈ c.fz, p.1 ≠ aC := fun p hp => Nat.ne_of_lt (Nat.lt_trans (hfz p hp) hCD)
  have nDC : aD ≠ aC := Nat.ne_of_lt hCD
  have nED : e ≠ aD := Nat.ne_of_lt hee
  have nID : it ≠ aD := Nat.ne_of_lt hii
  have nEC : e ≠ aC := Nat.ne_of_lt (Nat.lt_trans hee hCD)
  have nIC : it ≠ aC := Nat.ne_of_lt (Nat.lt_trans hii hCD)
  let J : Nat → Shared → Prop := fun k s' => Ex10 fun i ys led₁ h₁ tk oI old ep oC mC => k = vs.length + 1 - i ∧ i ≤ vs.length ∧ ys.length ≤ i ∧ s' = sh s h₁ tk ∧ I i ys led₁ ∧ (ys.map (·.1)).Nodup ∧ (∀ p ∈ ys, p.1 < n) ∧ oI.cls = .type "list_iterator" ∧ oI.data = .fields #[.ref l, .int i 0] ∧ NsO aC oC mC ∧
    Here w t (c.wz ((aC, oC) :: (aD, dObj w kd nv ys ep) :: (e, enO it i old) :: (it, oI) :: c.fz)) m led₁ h₁
  have loop : ∀ s', J (vs.length + 1) s' → codeAny (model prog w) c.A (.compLoop (.DictComp kx vx [⟨.Tuple [.Name x px, .Name y py] x1 tp, iter, [], 0⟩] scope pos) 0 (.ref e) (.ref aD) (compEnvC scope cl aC env)) (RR (.ref aD) aC) s' := by
    intro s' hJ
    refine codeAny_compLoop_pairD J ?_ (vs.length + 1) hJ
    rintro k s' ⟨i, ys, led₁, h₁, tk, oI, old, ep, oC, mC, rfl, hi, hyl, rfl, hI, nd, lt, hc₁, hd₁, hNC, H₁⟩
    have hE : IsEnum h₁ e it i old := (H₁.Z _ (.tail _ (.tail _ (.head _)))).1
    have hit : h₁.IsListIter it l i := ⟨_, (H₁.Z _ (.tail _ (.tail _ (.tail _ (.head _))))).1, hc₁, hd₁⟩
    have hl₁ : h₁.IsList l vs.toArray := by
      obtain ⟨ep₁, hl₁⟩ := hin i ys led₁ _ h₁ (fun p hp => .tail _ (.tail _ (.tail _ (.tail _ hp)))) hI H₁
      exact ⟨_, hl₁, rfl, ep₁, rfl⟩
    rcases Nat.lt_or_eq_of_le hi with hlt | hiN
    · have hv : vs[i]? = some vs[i] := by simp [hlt]
      refine wpAny_pyNext_enum_item (s := sh s h₁ tk) hE hit hl₁ (by rw [List.getElem?_toArray]; exact hv) hne fun h₂ hO₂ hit₂ hT₂ hsz₂ hk₂ => ?_
      obtain ⟨o₂, ho₂, hc₂, hd₂⟩ := hit₂
      have hs1 : (sh s h₁ tk).heap.objs.size = h₁.objs.size := rfl
      have H₂ := H₁.extSetZ [e, it] (fz' := (aC, oC) :: (aD, dObj w kd nv ys ep) :: (e, { cls := .type "enumerate", dict := none, data := .fields #[rawInt h₁.objs.size, .bool false, .ref it, rawInt ((i : Int) + 1), .none, vs[i]], slots := #[] }) :: (it, o₂) :: c.fz)
        (fun a ha => by
          rcases List.mem_cons.mp ha with rfl | ha
          · exact ⟨_, .tail _ (.tail _ (.head _))⟩
          · rw [List.mem_singleton.mp ha]; exact ⟨_, .tail _ (.tail _ (.tail _ (.head _)))⟩)
        (fun b o hb e' => hk₂ b o (fun q => hb (by simp [q])) (fun q => hb (by simp [q])) e')
        (memC (.inl ⟨.head _, by simp [Ne.symm nEC, Ne.symm nIC]⟩) (memC (.inl ⟨.tail _ (.head _), by simp [Ne.symm nED, Ne.symm nID]⟩) (memC (.inr ⟨by simp, hO₂⟩) (memC (.inr ⟨by simp, ho₂⟩) (fun p hp => .inl ⟨.tail _ (.tail _ (.tail _ (.tail _ hp))), by simp [fzE p hp, fzI p hp]⟩)))))
      refine wpAny_letOwnedTupleGo_enum (s := sh s h₂ (tk + 1)) hO₂ fun h₃ hE₃ hs₃ => ?_
      have H₃ := H₂.updZm (.tail _ (.tail _ (.head _))) hs₃ hE₃
      rw [lput_tl (Ne.symm nEC), lput_tl (Ne.symm nED), lput_hd (memC (Ne.symm hne) (fun q hq => fzE q hq))] at H₃
      have hTe : h₁.objs.size ≠ e := Nat.ne_of_gt (Heap.lt_size hE)
      have hT₃ : h₃.IsTuple h₁.objs.size #[.int i tk, vs[i]] := ⟨_, (hs₃.2 _ hTe).trans hT₂, rfl, _, rfl⟩
      refine wpAny_assign_Tuple (s := sh s h₃ (tk + 1)) rfl hT₃ rfl rfl fun h₄ hk₄ => ?_
      have H₄ := H₃.ext (h' := h₄) fun b o e' => hk₄ b o (Nat.ne_of_lt (Heap.lt_size e')) e'
      have hnC : h₄.Ns aC mC := hNC _ (H₄.Z _ (.head _)).1
      refine assignInOrder_cons (wpAny_assign_Name (wpAny_storeName_local (s := sh s h₄ (tk + 1)) (env := compEnvC scope cl aC env) (lookup_relabel_local hx) hnC (fun h₅ hn₅ hs₅ => ?_) (by simp [compEnvC, relabel, hkind])))
      refine assignInOrder_cons (wpAny_assign_Name (wpAny_storeName_local (s := sh s h₅ (tk + 1 + 1)) (env := compEnvC scope cl aC env) (lookup_relabel_local hy) hn₅ (fun h₆ hn₆ hs₆ => ?_) (by simp [compEnvC, relabel, hkind])))
      refine assignInOrder_nil ?_
      obtain ⟨oC₃, hoC₃, hNC₃⟩ := NsO.of hn₆
      have H₅ := H₄.updZm (.head _) (hs₅.trans hs₆) hoC₃
      rw [lput_hd (memC (nDC) (memC (nEC) (memC (nIC) (fun q hq => fzC q hq))))] at H₅
      refine noE (wpAny_mono (turn i vs[i] tk ys led₁ h₆ (tk + 1 + 1 + 1) _ aC oC₃ _ (I (i + 1)) (fun _ _ h => h) hv (fun p hp => .tail _ (.tail _ (.tail _ (.tail _ hp)))) (.head _) hNC₃ (by simp [hxy]) (by simp) hI H₅) (fun kv s₂ h₂' => noE (wpAny_mono h₂' (fun y s₃ h₃' => ?_) fun _ _ x => x)) fun _ _ x => x)
      obtain ⟨led₃, h₇, tk₇, k, rfl, rfl, hk, hnm, H₇, hI₇⟩ := h₃'
      refine dictSet_names (s := sh s h₇ tk₇) hu (fun p hp => hnm _ (lt p hp)) (hnm k hk) nd (H₇.Z _ (.tail _ (.head _))).1 (size_ok (by lia)) (fun h₈ tk₈ ep₈ ho₈ hs₈ => ?_)
      have H₈ := H₇.updZm (.tail _ (.head _)) hs₈ ho₈
      rw [lput_tl (Ne.symm nDC), lput_hd (memC (nED) (memC (nID) (fun q hq => fzD q hq)))] at H₈
      exact ⟨vs.length + 1 - (i + 1), loopDec hlt, i + 1, _, led₃, h₈, tk₈, o₂, vs[i], ep₈, oC₃, _, rfl, hlt, Nat.le_trans (dput_length _ _ _) (by lia), rfl, hI₇, dput_keys nd, fun p hp => (dput_mem hp).elim (fun h => h ▸ hk) (lt p), hc₂, hd₂, hNC₃, by simpa using H₈⟩
    · refine wpAny_pyNext_enum_end (s := sh s h₁ tk) rfl hE hit hl₁ (by rw [hiN]; simp) fun h₂ hs₂ => ?_
      rw [hiN] at hI
      have H₂ := H₁.extButZ (.tail _ (.tail _ (.tail _ (.head _)))) hs₂ (fz' := (aC, oC) :: (aD, dObj w kd nv ys ep) :: c.fz) (memC (⟨.head _, Ne.symm nIC⟩) (memC (⟨.tail _ (.head _), Ne.symm nID⟩) (fun p hp => ⟨.tail _ (.tail _ (.tail _ (.tail _ hp))), fzI p hp⟩)))
      have H₃ := Here.thaw (c := c) (a := aD) (o := dObj w kd nv ys ep) (fz := (aC, oC) :: c.fz) (memC (Ne.symm nDC) (fun p hp => fzD p hp)) (H₂.fzm fun p hp => by
          rcases List.mem_cons.mp hp with rfl | hp
          · exact .tail _ (.head _)
          · rcases List.mem_cons.mp hp with rfl | hp
            · exact .head _
            · exact .tail _ (.tail _ hp))
      exact done aD ys ep led₁ h₂ tk aC oC mC hI nd lt hbD (fun q hq => Ne.symm (H₂.D _ (.tail _ (.head _)) q hq)) hNC fzC H₃
  have hJ0 : J (vs.length + 1) (sh s h₁ (tk + 0)) := ⟨0, [], led, h₁, tk, oi, .none, 0, oC, _, rfl, Nat.zero_le _, Nat.le_refl _, rfl, init, .nil, (fun p hp => nomatch hp), hoc, hod, hNC, H4⟩
  refine codeAny_compStart_dict (loop _ hJ0) (wpAny_pyIter_enum (s := sh s h₁ (tk + 0)) (it := it) (i := 0) (old := .none) (H4.Z _ (.tail _ (.tail _ (.head _)))).1 (loop _ hJ0))
end
end Mine
end

-- part C19
section
open PySem PySem.W PyProof.Rows PySem.Spec
set_option linter.unusedSectionVars false
set_option linter.unusedVariables false
set_option maxRecDepth 100000
namespace Mine
section
variable {prog : Program} {M : Model} {w : World} {t : Tp} {c : Cx} {m : Str → Option Value} {led sl : List (Addr × Obj)} {Er : Value → Shared → Prop} {s : Shared} {h h' : Heap} {A : Around} {kd n : Nat} {nv : Nat → Value} {env : Env}

abbrev Cx.subC (qual : Str) (scope : Scope) (f : Addr) (cdv : Value) (c : Cx) (g : Heap) (L : Addr) : Cx := c.sub qual scope f cdv (cellsFrom (L + 1) scope.names []) g L
/- a def of the text that has cells is entered; nothing is frozen -/
theorem h_enterC {f : Addr} {name qual : Str} {params : Arguments} {body : List Stmt} {scope : Scope} {dV kV doc pm cdv ct oc : Value} {an od : Option Addr} {osl : Array (Option Value)} {args : List Value} {binds : List (Str × Value)} {Q : Value → Shared → Prop} {tk : Nat}
    (H : Here w t c m led h) (hfz : c.fz = []) (ho : (Mine.hd.heap_39 w.params).lookup f = some ⟨oc, od, .func (fnOf name qual params body scope dV kV doc pm an cdv ct), osl⟩)
    (hcd : codeIn (Mine.hd.heap_39 w.params) cdv qual = true) (hroom : c.dp < recursionLimit)
    (hbind : BindsTo (sh s h tk) (fnOf name qual params body scope dV kV doc pm an cdv ct) ⟨args, []⟩ binds)
    (hkind : ∀ n, ∀ x ∈ binds, scope.names.lookup x.1 = some .local ∨ (scope.names.lookup x.1 = some .cell ∧ ((cellsFrom n scope.names []).lookup x.1).isSome = true))
    (hnd : ((cellsFrom 0 scope.names []).map (·.1)).Nodup)
    (hq : ∀ g L' h' tk' cells, (∀ b o, c.h₀.get? b = some o → g.get? b = some o) → (∀ p ∈ led, p.1 < L') → CellsAre (bindC (envOfC qual scope L' f cdv).kindOf binds fun _ => none) (cellsFrom (L' + 1) scope.names []) cells →
      Here w t (c.subC qual scope f cdv g L') (bindL (envOfC qual scope L' f cdv).kindOf binds fun _ => none) (cells ++ led) h' →
      ∀ Rq : Flow → Shared → Prop, (∀ fl m'' led'' h'' tk'', Here w t (c.subC qual scope f cdv g L') m'' led'' h'' → (Here w t c m led'' h'' → Q (flowVal fl) (sh s h'' tk'')) → Rq fl (sh s h'' tk'')) →
      wpAny (model prog w) (c.subC qual scope f cdv g L').A (execs body (c.subC qual scope f cdv g L').env) Rq NoE (sh s h' tk'))
    (hco : scope.isCoroutine = false := by rfl) (hgen : scope.isGenerator = false := by rfl) (hk : scope.kind = .function := by rfl) (hA : A = c.A := by rfl) :
    wpAny (model prog w) A (call (.ref f) args) Q Er (sh s h tk) := by
  subst hA
  refine wpAny_call (callX_cells (s := sh s h tk) (args := ⟨args, []⟩) (fo := ⟨oc, od, .func (fnOf name qual params body scope dV kV doc pm an cdv ct), osl⟩) H.B H.F H.N H.T.nolimit rfl rfl H.K (H.frag _ _ ho) rfl (codeRec_of H.frag hcd) hroom hbind hkind hnd ?_ hco hgen hk)
  intro g L' h' tk' cells FG F' N' Y B' st hlt
  refine wpAny_mono (hq g L' h' tk' cells st hlt Y ⟨B', H.X.keeps st, H.T.keeps st, F', N', hk, fun p hp => (by cases hp), fun p hp => (by cases hp)⟩ (EndIn w t _ c m s Q) fun _ _ _ _ _ H k => ⟨_, _, _, _, rfl, H, k⟩) (fun fl s' hl => ?_) fun _ _ x => x.elim
  obtain ⟨m'', led'', h'', tk'', rfl, H'', k⟩ := hl
  refine ⟨L', m'', led'', H''.F, H''.N, fun FL NL => ?_⟩
  have k' : Q (flowVal fl) (sh s h'' tk'') := k ⟨H.B, H.X, H.T, FL, NL, H.K, fun p hp => (by rw [hfz] at hp; cases hp), fun p hp => (by rw [hfz] at hp; cases hp)⟩
  cases fl <;> exact k'

theorem Here.freezeAll {fl fz : List (Addr × Obj)} (H : Here w t (c.wz fz) m (fl ++ led) h) (hn : ∀ p ∈ fl, ∀ q ∈ led, p.1 ≠ q.1) : Here w t (c.wz (fl ++ fz)) m led h := by
  refine ⟨H.B, H.X, H.T, H.F, fun p hp => H.N p (List.mem_append_right _ hp), H.K, ?_, ?_⟩
  · intro p hp
    rcases List.mem_append.mp hp with hp | hp
    · exact H.N p (List.mem_append_left _ hp)
    · exact H.Z p hp
  · intro p hp q hq
    rcases List.mem_append.mp hp with hp | hp
    · exact hn p hp q hq
    · exact H.D p hp q (List.mem_append_right _ hq)
end
end Mine
end

-- part C20
section
open PySem PySem.W PyProof.Rows PySem.Spec
set_option linter.unusedSectionVars false
set_option linter.unusedVariables false
set_option maxRecDepth 100000
namespace Mine

/- what is drawn, as it lies -/
structure DI (w : World) (kd : Nat) (nv : Nat → Value) (n b : Nat) (ae av : Addr) (E : Nat → List Nat) (V : Nat → List Int) (la lv : Nat → Addr) (led : List (Addr × Obj)) : Prop where
  e : ∃ es ep, (ae, dObj w kd nv es ep) ∈ led ∧ (es.map (·.1)).Nodup ∧ (∀ p ∈ es, p.1 < n) ∧ ∀ k, k < n → dget es k = some (.ref (la k))
  v : ∃ es ep, (av, dObj w kd nv es ep) ∈ led ∧ (es.map (·.1)).Nodup ∧ (∀ p ∈ es, p.1 < n) ∧ ∀ k, k < n → dget es k = some (.ref (lv k))
  el : ∀ k, k < n → ∃ ep, (la k, lObj ((E k).map nv) ep) ∈ led
  vl : ∀ k, k < n → ∃ us ep, (lv k, lObj us ep) ∈ led ∧ Ints us (V k)
  ei : ∀ i, i < n → ∀ j, j < n → la i = la j → i = j
  vi : ∀ i, i < n → ∀ j, j < n → lv i = lv j → i = j
  ev : ∀ i, i < n → ∀ j, j < n → la i ≠ lv j
  a1 : ∀ i, i < n → la i ≠ ae ∧ la i ≠ av ∧ lv i ≠ ae ∧ lv i ≠ av
  a2 : ae ≠ av
  en : ∀ k, k < n → ∀ y ∈ E k, y < n
  vf : ∀ k, k < n → Few (V k)
  sz : ∀ k, k < n → (E k).length ≤ b

section
variable {w : World} {kd n b : Nat} {nv : Nat → Value} {ae av : Addr} {E : Nat → List Nat} {V : Nat → List Int} {la lv : Nat → Addr} {led : List (Addr × Obj)}

theorem DI.mono (D : DI w kd nv n b ae av E V la lv led) {led' : List (Addr × Obj)} (hs : ∀ p ∈ led, p ∈ led') : DI w kd nv n b ae av E V la lv led' :=
  ⟨let ⟨es, ep, h, r⟩ := D.e; ⟨es, ep, hs _ h, r⟩, let ⟨es, ep, h, r⟩ := D.v; ⟨es, ep, hs _ h, r⟩, fun k hk => let ⟨ep, h⟩ := D.el k hk; ⟨ep, hs _ h⟩, fun k hk => let ⟨us, ep, h, r⟩ := D.vl k hk; ⟨us, ep, hs _ h, r⟩, D.ei, D.vi, D.ev, D.a1, D.a2, D.en, D.vf, D.sz⟩
theorem DI.le (D : DI w kd nv n b ae av E V la lv led) {b' : Nat} (h : b ≤ b') : DI w kd nv n b' ae av E V la lv led :=
  ⟨D.e, D.v, D.el, D.vl, D.ei, D.vi, D.ev, D.a1, D.a2, D.en, D.vf, fun k hk => Nat.le_trans (D.sz k hk) h⟩

/- edges[one].append(names[other]) -/
theorem DI.addE (D : DI w kd nv n b ae av E V la lv led) {o y ep ep' : Nat} (ho : o < n) (hy : y < n) (hm : (la o, lObj ((E o).map nv) ep) ∈ led) :
    DI w kd nv n (b + 1) ae av (G.upd E o (E o ++ [y])) V la lv (lput led (la o) (lObj ((E o).map nv ++ [nv y]) ep')) := by
  have a := D.a1 o ho
  refine ⟨?_, ?_, ?_, ?_, D.ei, D.vi, D.ev, D.a1, D.a2, ?_, D.vf, ?_⟩
  · obtain ⟨es, e, h, r⟩ := D.e; exact ⟨es, e, lput_ne h (Ne.symm a.1), r⟩
  · obtain ⟨es, e, h, r⟩ := D.v; exact ⟨es, e, lput_ne h (Ne.symm a.2.1), r⟩
  · intro k hk
    by_cases e : k = o
    · subst e; rw [G.upd_self]; exact ⟨ep', by rw [List.map_append]; exact lput_self hm⟩
    · rw [G.upd_ne _ _ e]
      obtain ⟨e', h⟩ := D.el k hk
      exact ⟨e', lput_ne h fun q => e (D.ei k hk o ho q)⟩
  · intro k hk
    obtain ⟨us, e', h, r⟩ := D.vl k hk
    exact ⟨us, e', lput_ne h (Ne.symm (D.ev o ho k hk)), r⟩
  · intro k hk z hz
    by_cases e : k = o
    · subst e
      rw [G.upd_self] at hz
      rcases List.mem_append.mp hz with h | h
      · exact D.en k hk z h
      · rw [show z = y by simpa using h]; exact hy
    · rw [G.upd_ne _ _ e] at hz; exact D.en k hk z hz
  · intro k hk
    by_cases e : k = o
    · subst e; rw [G.upd_self]; have := D.sz k hk; simp; lia
    · rw [G.upd_ne _ _ e]; have := D.sz k hk; lia

/- values[one] = [] -/
theorem DI.clrV (D : DI w kd nv n b ae av E V la lv led) {o ep ep' : Nat} {a : Addr} {es : List (Nat × Value)} (ho : o < n) (hm : (av, dObj w kd nv es ep) ∈ led) (hnd : (es.map (·.1)).Nodup) (hlt : ∀ p ∈ es, p.1 < n) (hg : ∀ k, k < n → dget es k = some (.ref (lv k))) (ha : ∀ q ∈ led, q.1 < a) :
    DI w kd nv n (b + 1) ae av E (G.upd V o []) la (G.upd lv o a) (lput ((a, lObj [] 0) :: led) av (dObj w kd nv (dput es o (.ref a)) ep')) := by
  have haa : a ≠ av := Nat.ne_of_gt (ha _ hm)
  have hav : av ≠ ae := Ne.symm D.a2
  have hla : ∀ k, k < n → la k < a := fun k hk => by obtain ⟨e, h⟩ := D.el k hk; exact ha _ h
  have hlv : ∀ k, k < n → lv k < a := fun k hk => by obtain ⟨us, e, h, _⟩ := D.vl k hk; exact ha _ h
  have hae : ae < a := by obtain ⟨es, e, h, _⟩ := D.e; exact ha _ h
  refine ⟨?_, ⟨_, ep', lput_self (.tail _ hm), dput_keys hnd, ?_, ?_⟩, ?_, ?_, D.ei, ?_, ?_, ?_, D.a2, D.en, ?_, fun k hk => Nat.le_succ_of_le (D.sz k hk)⟩
  · obtain ⟨es, e, h, r⟩ := D.e; exact ⟨es, e, lput_ne (.tail _ h) D.a2, r⟩
  · intro p hp
    rcases dput_mem hp with h | h
    · rw [h]; exact ho
    · exact hlt p h
  · intro k hk
    by_cases e : k = o
    · subst e; rw [dget_dput_self, G.upd_self]
    · rw [dget_dput_ne e, G.upd_ne _ _ e]; exact hg k hk
  · intro k hk
    obtain ⟨e', h⟩ := D.el k hk
    exact ⟨e', lput_ne (.tail _ h) (D.a1 k hk).2.1⟩
  · intro k hk
    by_cases e : k = o
    · subst e; rw [G.upd_self, G.upd_self]; exact ⟨[], 0, lput_ne (.head _) haa, Ints.nil⟩
    · rw [G.upd_ne _ _ e, G.upd_ne _ _ e]
      obtain ⟨us, e', h, r⟩ := D.vl k hk
      exact ⟨us, e', lput_ne (.tail _ h) (D.a1 k hk).2.2.2, r⟩
  · intro i hi j hj
    by_cases e : i = o
    · by_cases e2 : j = o
      · intro _; rw [e, e2]
      · rw [e, G.upd_self, G.upd_ne _ _ e2]; intro q; exact absurd (hlv j hj) (by rw [← q]; exact Nat.lt_irrefl _)
    · by_cases e2 : j = o
      · rw [e2, G.upd_self, G.upd_ne _ _ e]; intro q; exact absurd (hlv i hi) (by rw [q]; exact Nat.lt_irrefl _)
      · rw [G.upd_ne _ _ e, G.upd_ne _ _ e2]; exact D.vi i hi j hj
  · intro i hi j hj
    by_cases e2 : j = o
    · rw [e2, G.upd_self]; exact Nat.ne_of_lt (hla i hi)
    · rw [G.upd_ne _ _ e2]; exact D.ev i hi j hj
  · intro i hi
    refine ⟨(D.a1 i hi).1, (D.a1 i hi).2.1, ?_⟩
    by_cases e : i = o
    · rw [e, G.upd_self]; exact ⟨Nat.ne_of_gt hae, haa⟩
    · rw [G.upd_ne _ _ e]; exact (D.a1 i hi).2.2
  · intro k hk
    by_cases e : k = o
    · rw [e, G.upd_self]; exact ⟨.nil, fun _ h => nomatch h⟩
    · rw [G.upd_ne _ _ e]; exact D.vf k hk

/- values[one].append(other) -/
theorem DI.addV (D : DI w kd nv n b ae av E V la lv led) {o ep ep' : Nat} {us : List Value} {y : Int} {u : Tok} (ho : o < n) (hm : (lv o, lObj us ep) ∈ led) (hus : Ints us (V o)) (hy : y ∉ V o) (hb : 0 ≤ y ∧ y < 1000) :
    DI w kd nv n (b + 1) ae av E (G.upd V o (V o ++ [y])) la lv (lput led (lv o) (lObj (us ++ [.int y u]) ep')) := by
  have a := D.a1 o ho
  refine ⟨?_, ?_, ?_, ?_, D.ei, D.vi, D.ev, D.a1, D.a2, D.en, ?_, fun k hk => Nat.le_succ_of_le (D.sz k hk)⟩
  · obtain ⟨es, e, h, r⟩ := D.e; exact ⟨es, e, lput_ne h (Ne.symm a.2.2.1), r⟩
  · obtain ⟨es, e, h, r⟩ := D.v; exact ⟨es, e, lput_ne h (Ne.symm a.2.2.2), r⟩
  · intro k hk
    obtain ⟨e', h⟩ := D.el k hk
    exact ⟨e', lput_ne h (D.ev k hk o ho)⟩
  · intro k hk
    by_cases e : k = o
    · subst e; rw [G.upd_self]; exact ⟨_, ep', lput_self hm, hus.snoc y u⟩
    · rw [G.upd_ne _ _ e]
      obtain ⟨us', e', h, r⟩ := D.vl k hk
      exact ⟨us', e', lput_ne h (fun q => e (D.vi k hk o ho q)), r⟩
  · intro k hk
    by_cases e : k = o
    · subst e; rw [G.upd_self]; exact (D.vf k hk).snoc hy hb
    · rw [G.upd_ne _ _ e]; exact D.vf k hk
end
end Mine
end

-- part C21
section
open PySem PySem.W PyProof.Rows PySem.Spec
set_option linter.unusedSectionVars false
set_option linter.unusedVariables false
set_option maxRecDepth 100000
namespace Mine
inductive SlU (w : World) (t : Tp) (s : Shared) (Q : Value → Shared → Prop) (o vu : Value) (s₂ : Shared)  : Prop
  | mk : ∀ h₂ tk₂ c m led l vs b u, (s₂ = sh s h₂ tk₂) → (o = .ref l) → (vu = .int (b : Nat) u) → (Here w t c m led h₂) → (h₂.IsList l (List.toArray vs)) → (List.length vs ≤ 1000000) → (∀ a h', (∀ q ∈ led, q.1 < a) → Here w t c m ((a, lObj (List.take b vs) 0) :: led) h' → Q (.ref a) (sh s h' tk₂)) → SlU w t s Q o vu s₂
inductive SlF (w : World) (t : Tp) (s : Shared) (Q : Value → Shared → Prop) (o vu : Value) (s₂ : Shared)  : Prop
  | mk : ∀ h₂ tk₂ c m led l vs ep b u, (s₂ = sh s h₂ tk₂) → (o = .ref l) → (vu = .int (b : Nat) u) → (Here w t c m led h₂) → (h₂.get? l = some (lObj vs ep)) → (vs.length ≤ 1000000) → (∀ a h', (∀ q ∈ led, q.1 < a) → Here w t c m ((a, lObj (vs.drop b) 0) :: led) h' → Q (.ref a) (sh s h' tk₂)) → SlF w t s Q o vu s₂
section
variable {prog : Program} {M : Model} {w : World} {t : Tp} {c : Cx} {m : Str → Option Value} {led sl : List (Addr × Obj)} {Er : Value → Shared → Prop} {s : Shared} {h h' : Heap} {A : Around} {kd n : Nat} {nv : Nat → Value} {env : Env}

theorem h_add {a b : Int} {u v : Tok} {tk : Nat} {Q : Value → Shared → Prop} (hq : ∀ u tk', Q (.int (a + b) u) (sh s h tk')) : wpAny (model prog w) A (binaryOp .Add (.int a u) (.int b v)) Q Er (sh s h tk) := add_int (s := sh s h tk) (hq _ _)
theorem h_mod {a b : Int} {u v : Tok} {tk : Nat} {Q : Value → Shared → Prop} (hb : b ≠ 0) (hq : ∀ u tk', Q (.int (a.fmod b) u) (sh s h tk')) : wpAny (model prog w) A (binaryOp .Mod (.int a u) (.int b v)) Q Er (sh s h tk) := mod_int (s := sh s h tk) hb (hq _ _)
theorem h_addN {a b : Nat} {u v : Tok} {tk : Nat} {Q : Value → Shared → Prop} (hq : ∀ u tk', Q (.int ((a + b : Nat) : Int) u) (sh s h tk')) : wpAny (model prog w) A (binaryOp .Add (.int (a : Int) u) (.int (b : Int) v)) Q Er (sh s h tk) := by
  refine h_add fun u tk' => ?_
  rw [← Int.natCast_add]; exact hq u tk'
theorem h_modN {a b : Nat} {u v : Tok} {tk : Nat} {Q : Value → Shared → Prop} (hb : b ≠ 0) (hq : ∀ u tk', Q (.int ((a % b : Nat) : Int) u) (sh s h tk')) : wpAny (model prog w) A (binaryOp .Mod (.int (a : Int) u) (.int (b : Int) v)) Q Er (sh s h tk) := by
  refine h_mod (by lia) fun u tk' => ?_
  rw [Int.fmod_eq_emod_of_nonneg _ (by lia), ← Int.natCast_emod]; exact hq u tk'
theorem h_divN {a b : Nat} {u v : Tok} {tk : Nat} {Q : Value → Shared → Prop} (hb : b ≠ 0) (ha : a ≤ 1000000) (hb' : b ≤ 1000000) (hq : ∀ u tk', Q (.int ((a / b : Nat) : Int) u) (sh s h tk')) : wpAny (model prog w) A (binaryOp .FloorDiv (.int (a : Int) u) (.int (b : Int) v)) Q Er (sh s h tk) := by
  refine floordiv_int (s := sh s h tk) (by lia) ?_ (.inl (PyProof.noPylong_small (by lia)))
  have := hq tk (tk + 1)
  rw [Int.fdiv_eq_ediv_of_nonneg _ (by lia), ← Int.natCast_ediv]; exact this

/- xs[:b] / xs[a:] -/
theorem h_sliceUpto {value e2 : Expr} {p pos : Pos} {Q : Value → Shared → Prop} {s₀ : Shared}
    (hq : wpAny (model prog w) A (eval value env) (fun o s₁ => wpAny (model prog w) A (eval e2 env) (SlU w t s Q o) Er s₁) Er s₀)
    (ht : ∀ o r, letTemporaryGo value o r = pure () := by intro _ _; rfl) :
    wpAny (model prog w) A (eval (.Subscript value (.Slice none (some e2) none p) pos) env) Q Er s₀ := by
  refine wpAny_Subscript_list_slice (wpAny_mono hq (fun o s₁ h₁ => wpAny_evalPart_none (wpAny_evalPart_some (wpAny_mono h₁ ?_ fun _ _ x => x))) fun _ _ x => x) ht
  rintro vu s₂ ⟨h₂, tk₂, c, m, led, l, vs, b, u, rfl, rfl, rfl, H, hl, hsz, k⟩
  refine ⟨l, vs.toArray, none, some (b : Int), rfl, hl, size_ok (by simpa using hsz), .none, .int _ _, ?_⟩
  rw [slicePick_upto']
  have H1 := (H.push { cls := .type "slice", data := .fields #[.none, .int (b : Nat) u, .none] })
  have H2 := H1.push (lObj (vs.take b) 0)
  have hlt : ∀ q ∈ led, q.1 < (sh s h₂ tk₂).heap.objs.size + 1 := fun q hq => Nat.lt_succ_of_lt (Heap.lt_size (H.N q hq).1)
  rw [Heap.size_push] at H2
  exact k _ _ hlt (H2.mono fun q hq => by
    rcases List.mem_cons.mp hq with rfl | hq
    · exact .head _
    · exact .tail _ (.tail _ hq))
theorem h_sliceFrom {value e2 : Expr} {p pos : Pos} {Q : Value → Shared → Prop} {s₀ : Shared}
    (hq : wpAny (model prog w) A (eval value env) (fun o s₁ => wpAny (model prog w) A (eval e2 env) (SlF w t s Q o) Er s₁) Er s₀)
    (ht : ∀ o r, letTemporaryGo value o r = pure () := by intro _ _; rfl) :
    wpAny (model prog w) A (eval (.Subscript value (.Slice (some e2) none none p) pos) env) Q Er s₀ := by
  refine wpAny_Subscript_list_slice (wpAny_mono hq (fun o s₁ h₁ => wpAny_evalPart_some (wpAny_mono h₁ (fun vu s₂ h₂ => wpAny_evalPart_none ?_) fun _ _ x => x)) fun _ _ x => x) ht
  obtain ⟨h₂, tk₂, c, m, led, l, vs, ep, b, u, rfl, rfl, rfl, H, hl, hsz, k⟩ := h₂
  refine ⟨l, vs.toArray, some (b : Int), none, rfl, ⟨_, hl, rfl, ep, rfl⟩, size_ok (by simpa using hsz), .int _ _, .none, ?_⟩
  rw [slicePick_from']
  have H1 := (H.push { cls := .type "slice", data := .fields #[.int (b : Nat) u, .none, .none] })
  have H2 := H1.push (lObj (vs.drop b) 0)
  have hlt : ∀ q ∈ led, q.1 < (sh s h₂ tk₂).heap.objs.size + 1 := fun q hq => Nat.lt_succ_of_lt (Heap.lt_size (H.N q hq).1)
  rw [Heap.size_push] at H2
  exact k _ _ hlt (H2.mono fun q hq => by
    rcases List.mem_cons.mp hq with rfl | hq
    · exact .head _
    · exact .tail _ (.tail _ hq))

/- xs.pop(0) -/
theorem h_pop0 {x : Str} {p apos pos p0 : Pos} {k0 : Nat} {pl : Sem Bool} {l : Addr} {vs : List Value} {v : Value} {ep tk : Nat} {Q : Value → Shared → Prop} (H : Here w t c m led h) (hm : m x = some (.ref l)) (hl : (l, lObj (v :: vs) ep) ∈ led) (hsz : vs.length ≤ 100000)
    (hq : ∀ h' tk' ep', Here w t c m (lput led l (lObj vs ep')) h' → Q v (sh s h' tk')) (henv : env = c.env := by rfl) (hx : env.kindOf x = some .local := by rfl) (hd : (x == ("__debug__" : Str)) = false := by decide)
    (he : eval (.Call (.Attribute (.Name x p) (Str.ofString "pop") apos) [.Constant (.int 0) k0 p0] [] pos) env = (do
      let ov ← eval (.Name x p) env
      standAt apos.atName
      let (f, first) ← holding [ov] (getMethod ov (Str.ofString "pop") pl)
      callWith pos f first (backTo pos (starEach [.Constant (.int 0) k0 p0] env)) []) := by rfl)
    (hb : backTo pos (starEach [.Constant (.int 0) k0 p0] env) = [(false, eval (.Constant (.int 0) k0 p0) env)] := by rfl) :
    wpAny (model prog w) A (eval (.Call (.Attribute (.Name x p) (Str.ofString "pop") apos) [.Constant (.int 0) k0 p0] [] pos) env) Q Er (sh s h tk) := by
  refine MethodCall_ (pl := pl) (h_loc H hm ?_ henv hx hd) he
  refine listMethod_K (s := sh s h tk) H.N hl PySem.F.slot_list_pop PySem.F.type_list_pop ?_
  have ho := H.get hl
  rw [hb]
  refine P.pop_at_list (h_int fun u tk' => ⟨(v :: vs).toArray, ep, 0, u, 0, v, size_ok (by simp; lia), rfl, ho, by decide, ?_, by simp, ?_⟩)
  · simp [seqIndex?]
  · have e : Obj.mapSeq (fun xs => xs.eraseIdxIfInBounds 0) (lObj (v :: vs) ep) = lObj vs (ep + 1) := by
      have e1 : (v :: vs).toArray.eraseIdxIfInBounds 0 = vs.toArray := by simp [Array.eraseIdxIfInBounds]
      unfold Obj.mapSeq
      simp only [e1]
      simp
    refine hq _ tk' (ep + 1) (H.upd hl (Heap.SameBut.update ..) ?_)
    rw [← e]
    exact Heap.get?_update_self _ ho rfl
end
end Mine
end

-- part C22
section
open PySem PySem.W PyProof.Rows PySem.Spec
set_option linter.unusedSectionVars false
set_option linter.unusedVariables false
set_option maxRecDepth 100000
namespace Mine
theorem boot_enumerate : bootBuiltins "enumerate" = some (.type "enumerate") := by decide +kernel
inductive RangeP (w : World) (t : Tp) (s : Shared) (Q : Value → Shared → Prop) (v : Value) (s₁ : Shared)  : Prop
  | mk : ∀ h₁ tk₁ c m led n u, (s₁ = sh s h₁ tk₁) → (v = .int n u) → (Here w t c m led h₁) → (∀ a h' tk' ta tb tc, tk' ≠ 0 → (∀ q ∈ led, q.1 < a) → IsRange h' a 0 n 1 ta tb tc → Here w t c m led h' → Q (.ref a) (sh s h' tk')) → RangeP w t s Q v s₁
section
variable {prog : Program} {M : Model} {w : World} {t : Tp} {c : Cx} {m : Str → Option Value} {led sl : List (Addr × Obj)} {Er : Value → Shared → Prop} {s : Shared} {h h' : Heap} {A : Around} {env : Env}

theorem Here.freeze0 {fl : List (Addr × Obj)} (H : Here w t c m (fl ++ led) h) (hn : ∀ p ∈ fl, ∀ q ∈ led, p.1 ≠ q.1) : Here w t (c.wz fl) m led h :=
  ⟨H.B, H.X, H.T, H.F, fun p hp => H.N p (List.mem_append_right _ hp), H.K, fun p hp => H.N p (List.mem_append_left _ hp), fun p hp q hq => hn p hp q hq⟩
theorem Here.thaw0 {fl : List (Addr × Obj)} (H : Here w t (c.wz fl) m led h) (hz : c.fz = [] := by rfl) : Here w t c m (fl ++ led) h := by
  refine ⟨H.B, H.X, H.T, H.F, ?_, H.K, fun p hp => (by rw [hz] at hp; cases hp), fun p hp => (by rw [hz] at hp; cases hp)⟩
  intro p hp
  rcases List.mem_append.mp hp with hp | hp
  · exact H.Z p hp
  · exact H.N p hp

/- a name of a comprehension's own -/
theorem h_cloc {x : Str} {pos : Pos} {v : Value} {Q : Value → Shared → Prop} {tk : Nat} {C : Addr} {oC : Obj} {mC : Str → Option Value} {fz : List (Addr × Obj)} (H : Here w t (c.wz fz) m led h) (hC : (C, oC) ∈ fz) (hN : NsO C oC mC) (hv : mC x = some v) (hq : Q v (sh s h tk))
    (hk : env.scope.kind = .function := by rfl) (hx : env.kindOf x = some .local := by rfl) (hl : env.locals = C := by rfl) (hd : (x == ("__debug__" : Str)) = false := by decide) : wpAny M A (eval (.Name x pos) env) Q Er (sh s h tk) := by
  refine wpAny_Name (wpAny_loadName_local (s := sh s h tk) hk hx (by rw [hl]; exact hN _ (H.Z _ hC).1) hv hq) hd
/- global names in any block of a def -/
theorem h_globX {x : Str} {pos : Pos} {v : Value} {Q : Value → Shared → Prop} {tk : Nat} (H : Here w t c m led h) (e : nsIn (Mine.hd.heap_39 w.params) mainGlobals x = some (some v)) (hq : Q v (sh s h tk)) (hg : env.globals = mainGlobals := by rfl)
    (hk : env.scope.kind = .function := by rfl) (hx : env.kindOf x = some .globalImplicit := by rfl) (hd : (x == ("__debug__" : Str)) = false := by decide) : wpAny M A (eval (.Name x pos) env) Q Er (sh s h tk) := by
  refine Calls.Name_function_global hk hx (Calls.loadGlobal_global (s := sh s h tk) (env := env) ?_ (mg_of H.X (topRead_of H.T).g e) hq) hd
  rw [hg]; exact (topRead_of H.T).g.keeps H.F.keep
theorem h_bootX {x : Str} {pos : Pos} {v : Value} {Q : Value → Shared → Prop} {tk : Nat} (H : Here w t c m led h) (e : nsIn (Mine.hd.heap_39 w.params) mainGlobals x = some none) (hv : bootBuiltins x = some v) (hq : Q v (sh s h tk)) (hn : x ≠ "__name__" := by decide) (hg : env.globals = mainGlobals := by rfl) (hb : env.builtins = builtinsNs := by rfl)
    (hk : env.scope.kind = .function := by rfl) (hx : env.kindOf x = some .globalImplicit := by rfl) (hd : (x == ("__debug__" : Str)) = false := by decide) : wpAny M A (eval (.Name x pos) env) Q Er (sh s h tk) := by
  refine Calls.Name_function_global hk hx (Calls.loadGlobal_builtin (s := sh s h tk) (env := env) ?_ (mg_none_of H.X (topRead_of H.T).g e) ?_ (((topRead_of H.T).builtins x hn).trans hv) hq) hd
  · rw [hg]; exact (topRead_of H.T).g.keeps H.F.keep
  · rw [hb]; exact (topRead_of H.T).b.keeps H.F.keep

theorem execs_step {st : Stmt} {rest : List Stmt} {Q : Flow → Shared → Prop} {s₀ : Shared} (R : Shared → Prop) (h1 : ∀ Rs : Flow → Shared → Prop, (∀ s', R s' → Rs .next s') → wpAny M A (exec st env) Rs NoE s₀) (h2 : ∀ s', R s' → wpAny M A (execs rest env) Q Er s') : wpAny M A (execs (st :: rest) env) Q Er s₀ := by
  refine wpAny_execs_cons (noE (wpAny_mono (h1 (fun f s' => f = .next ∧ R s') fun _ h => ⟨rfl, h⟩) ?_ fun _ _ x => x))
  rintro f s' ⟨rfl, hr⟩
  exact h2 s' hr

theorem h_newTuple {vs : List Value} {Q : Value → Shared → Prop} {tk : Nat} (H : Here w t c m led h) (hsz : vs.length ≤ sizeLine) (hq : ∀ a h', (∀ q ∈ led, q.1 < a) → (∀ q ∈ c.fz, q.1 < a) → Here w t c m ((a, ({ cls := .type "tuple", data := .seq vs.toArray } : Obj)) :: led) h' → Q (.ref a) (sh s h' tk)) :
    wpAny M A (newTuple vs) Q Er (sh s h tk) :=
  wpAny_newObj_type (s := sh s h tk) (hq _ _ (fun q hq => Heap.lt_size (H.N q hq).1) (fun q hq => Heap.lt_size (H.Z q hq).1) (H.push _)) (by show vs.toArray.size ≤ sizeLine; rw [List.size_toArray]; exact hsz)

theorem h_str {x : Str} {k : Nat} {pos : Pos} {Q : Value → Shared → Prop} {tk : Nat} (hq : ∀ u tk', Q (.str x u) (sh s h tk')) : wpAny M A (eval (.Constant (.str x) k pos) env) Q Er (sh s h tk) :=
  Calls.Constant_str (s := sh s h tk) (hq _ _)

theorem h_strN {x : Str} {k : Nat} {pos : Pos} {Q : Value → Shared → Prop} {tk : Nat} (hq : ∀ u tk', tk' ≠ 0 → Q (.str x u) (sh s h tk')) : wpAny M A (eval (.Constant (.str x) k pos) env) Q Er (sh s h tk) :=
  Calls.Constant_str (s := sh s h tk) (hq _ _ (Nat.succ_ne_zero _))
theorem h_modT {a b : Nat} {u v : Tok} {tk : Nat} {Q : Value → Shared → Prop} (hb : b ≠ 0) (hq : ∀ u tk', tk' ≠ 0 → Q (.int ((a % b : Nat) : Int) u) (sh s h tk')) : wpAny (model prog w) A (binaryOp .Mod (.int (a : Int) u) (.int (b : Int) v)) Q Er (sh s h tk) := by
  refine mod_int (s := sh s h tk) (by lia) ?_
  have := hq tk (tk + 1) (Nat.succ_ne_zero _)
  rw [Int.fmod_eq_emod_of_nonneg _ (by lia), ← Int.natCast_emod]; exact this

/- range(e) -/
theorem h_range {e : Expr} {p pos : Pos} {Q : Value → Shared → Prop} {c₀ : Cx} {m₀ : Str → Option Value} {led₀ : List (Addr × Obj)} {h₀ : Heap} {tk₀ : Nat} (H₀ : Here w t c₀ m₀ led₀ h₀)
    (hq : wpAny (model prog w) A (eval e env) (RangeP w t s Q) Er (sh s h₀ tk₀))
    (hg : env.globals = mainGlobals := by rfl) (hb : env.builtins = builtinsNs := by rfl) (hk : env.scope.kind = .function := by rfl) (hx : env.kindOf (Str.ofString "range") = some .globalImplicit := by rfl) (hse : starEach [e] env = (false, eval e env) :: starEach [] env := by rfl) :
    wpAny (model prog w) A (eval (.Call (.Name (Str.ofString "range") p) [e] [] pos) env) Q Er (sh s h₀ tk₀) := by
  refine Call_ (h_bootX H₀ rfl boot_range ?_ (by decide) hg hb hk hx)
  have hbk : backTo pos (starEach [e] env) = [(false, eval e env)] := by rw [hse]; rfl
  rw [hbk]
  refine callWith_type1 (wpAny_mono hq ?_ fun _ _ x => x)
  rintro v s₁ ⟨h₁, tk₁, c, m, led, n, u, rfl, rfl, H, k⟩
  refine call_range_1 (s := sh s h₁ tk₁) ?_
  exact k _ _ _ _ _ _ (Nat.succ_ne_zero _) (fun q hq => H.lt hq) (IsRange.new h₁ 0 n 1 tk₁ u (tk₁ + 1)) ((H.push _).mono fun p hp => .tail _ hp)

theorem h_truthy_list {l : Addr} {vs : List Value} {ep tk : Nat} {Q : Bool → Shared → Prop} (hl : h.get? l = some (lObj vs ep)) (hsz : vs.length ≤ 1000000) (hq : ∀ tk', Q (!vs.isEmpty) (sh s h tk')) : wpAny (model prog w) A (truthy (.ref l)) Q Er (sh s h tk) := by
  refine wpAny_truthy_list (s := sh s h tk) ⟨_, hl, rfl, ep, rfl⟩ (by simp; lia) ?_
  have := hq (tk + 1 + 1)
  rw [List.isEmpty_toArray]; exact this
end
end Mine
end

-- part C23
section
open PySem PySem.W PyProof.Rows PySem.Spec
set_option linter.unusedSectionVars false
set_option linter.unusedVariables false
set_option maxRecDepth 100000
namespace Mine
section
variable {prog : Program} {M : Model} {w : World} {t : Tp} {c : Cx} {m : Str → Option Value} {led sl : List (Addr × Obj)} {Er : Value → Shared → Prop} {s : Shared} {h h' : Heap} {A : Around} {env : Env}

abbrev cxOf (_ : Here w t c m led h) : Cx := c
theorem item_letter {i : Nat} (h : i < 7) : Txt.item (Str.ofString "ABCDEFG") (i : Int) = letter i := by
  have : i = 0 ∨ i = 1 ∨ i = 2 ∨ i = 3 ∨ i = 4 ∨ i = 5 ∨ i = 6 := by lia
  rcases this with rfl | rfl | rfl | rfl | rfl | rfl | rfl <;> rfl
def NmAt (kd k : Nat) (v : Value) (sl : List (Addr × Obj)) : Prop :=
  ((k + kd) % 3 = 0 ∧ ∃ t, v = .int k t) ∨ ((k + kd) % 3 = 1 ∧ ∃ t, v = .str (letter k) t) ∨ ((k + kd) % 3 = 2 ∧ Ex4 fun a t t' e => v = .ref a ∧ (a, tupObj k t t' e) ∈ sl)
theorem NmAt.mono {kd k : Nat} {v : Value} {sl sl' : List (Addr × Obj)} (h : NmAt kd k v sl) (hs : ∀ p ∈ sl, p ∈ sl') : NmAt kd k v sl' := by
  rcases h with h | h | ⟨h, a, t, t', e, h1, h2⟩
  · exact .inl h
  · exact .inr (.inl h)
  · exact .inr (.inr ⟨h, a, t, t', e, h1, hs _ h2⟩)
/- a row of new things -/
structure FF (i : Nat) (la : Nat → Addr) (base : List (Addr × Obj)) : Prop where
  inj : ∀ j, j < i → ∀ k, k < i → la j = la k → j = k
  off : ∀ j, j < i → ∀ q ∈ base, q.1 ≠ la j
theorem FF.zero {la : Nat → Addr} {base : List (Addr × Obj)} : FF 0 la base := ⟨fun _ h => absurd h (Nat.not_lt_zero _), fun _ h => absurd h (Nat.not_lt_zero _)⟩
theorem FF.snoc {i : Nat} {la : Nat → Addr} {nw base : List (Addr × Obj)} (F : FF i la base) {a : Addr} (ha : ∀ q ∈ nw ++ base, q.1 < a) (hm : ∀ k, k < i → ∃ o, (la k, o) ∈ nw) : FF (i + 1) (G.upd la i a) base := by
  have hlt : ∀ k, k < i → la k < a := fun k hk => by obtain ⟨o, ho⟩ := hm k hk; exact ha _ (List.mem_append_left _ ho)
  refine ⟨fun j hj k hk => ?_, fun j hj q hq => ?_⟩
  · by_cases e1 : j = i
    · by_cases e2 : k = i
      · intro _; rw [e1, e2]
      · rw [e1, G.upd_self, G.upd_ne _ _ e2]; intro q; exact absurd (hlt k (by lia)) (by rw [← q]; exact Nat.lt_irrefl _)
    · by_cases e2 : k = i
      · rw [e2, G.upd_self, G.upd_ne _ _ e1]; intro q; exact absurd (hlt j (by lia)) (by rw [q]; exact Nat.lt_irrefl _)
      · rw [G.upd_ne _ _ e1, G.upd_ne _ _ e2]; exact F.inj j (by lia) k (by lia)
  · by_cases e1 : j = i
    · rw [e1, G.upd_self]; exact Nat.ne_of_lt (ha q (List.mem_append_right _ hq))
    · rw [G.upd_ne _ _ e1]; exact F.off j (by lia) q hq
def row (i : Nat) (la : Nat → Addr) : List (Nat × Value) := (List.range i).map fun k => (k, Value.ref (la k))
theorem row_put (i : Nat) (la : Nat → Addr) (a : Addr) : dput (row i la) i (.ref a) = row (i + 1) (G.upd la i a) := by
  rw [dput_new]
  · unfold row
    rw [List.range_succ, List.map_append]
    congr 1
    · apply List.map_congr_left
      intro k hk
      rw [G.upd_ne _ _ (Nat.ne_of_lt (List.mem_range.mp hk))]
    · simp [G.upd_self]
  · rw [List.findIdx?_eq_none_iff]
    intro p hp
    obtain ⟨k, hk, rfl⟩ := List.mem_map.mp hp
    have := List.mem_range.mp hk
    simp; lia
theorem row_keys (i : Nat) (la : Nat → Addr) : (row i la).map (·.1) = List.range i := by
  unfold row; rw [List.map_map]; conv => rhs; rw [← List.map_id (List.range i)]
  rfl
theorem row_get {i : Nat} {la : Nat → Addr} {k : Nat} (hk : k < i) : dget (row i la) k = some (.ref (la k)) := by
  refine dget_of (i := k) (by rw [row_keys]; exact List.nodup_range) ?_
  unfold row; simp [hk]
theorem row_lt {i : Nat} {la : Nat → Addr} : ∀ p ∈ row i la, p.1 < i := by
  intro p hp
  obtain ⟨k, hk, rfl⟩ := List.mem_map.mp hp
  exact List.mem_range.mp hk
theorem Here.gen (H : Here w t c m led h) {x : Str} {v : Value} (hx : m x = some v) : ∃ m0 : Str → Option Value, m0 x = some v ∧ Here w t c m0 led h := ⟨m, hx, H⟩
/- enumerate(e) -/
theorem h_enum {e : Expr} {p pos : Pos} {Q : Value → Shared → Prop} {c₀ : Cx} {m₀ : Str → Option Value} {led₀ : List (Addr × Obj)} {h₀ : Heap} {tk₀ : Nat} (H₀ : Here w t c₀ m₀ led₀ h₀)
    (hq : wpAny (model prog w) A (eval e env) (fun v s₁ => wpAny (model prog w) A (call (.type "enumerate") [v]) Q Er s₁) Er (sh s h₀ tk₀))
    (hg : env.globals = mainGlobals := by rfl) (hb : env.builtins = builtinsNs := by rfl) (hk : env.scope.kind = .function := by rfl) (hx : env.kindOf (Str.ofString "enumerate") = some .globalImplicit := by rfl) (hse : starEach [e] env = (false, eval e env) :: starEach [] env := by rfl) :
    wpAny (model prog w) A (eval (.Call (.Name (Str.ofString "enumerate") p) [e] [] pos) env) Q Er (sh s h₀ tk₀) := by
  refine Call_ (h_bootX H₀ rfl boot_enumerate ?_ (by decide) hg hb hk hx)
  have hbk : backTo pos (starEach [e] env) = [(false, eval e env)] := by rw [hse]; rfl
  rw [hbk]
  exact callWith_type1 hq
def tpOf (ns : List Int) : List Nat := (ns.take 40).map fun n => (n % 720720).toNat
theorem tp_lt {ns : List Int} : ∀ x ∈ tpOf ns, x < 720720 := by
  intro x hx
  obtain ⟨n, _, rfl⟩ := List.mem_map.mp hx
  lia
def cast (l : List Nat) : List Int := l.map fun (k : Nat) => (k : Int)

/- names of a frame under a sealed predicate -/
def Seal (ks : List Str) (N : (Str → Option Value) → Prop) : Prop := ∀ m, N m → ∀ y v, ks.contains y = false → N (mset m y v)
theorem Seal.put {ks : List Str} {N : (Str → Option Value) → Prop} (S : Seal ks N) (h : N m) (y : Str) (v : Value) (hy : ks.contains y = false) : N (mset m y v) := S m h y v hy
theorem Seal.nil : ∃ N, Seal [] N ∧ N m := ⟨fun _ => True, fun _ _ _ _ _ => trivial, trivial⟩
theorem Seal.snoc {ks : List Str} {N : (Str → Option Value) → Prop} (S : Seal ks N) {x : Str} {v : Value} (hN : N m) (h : m x = some v) : ∃ N', Seal (x :: ks) N' ∧ N' m ∧ (∀ m, N' m → N m) ∧ ∀ m, N' m → m x = some v := by
  refine ⟨fun m => N m ∧ m x = some v, fun m h y u hy => ?_, ⟨hN, h⟩, fun _ h => h.1, fun _ h => h.2⟩
  rw [List.contains_cons, Bool.or_eq_false_iff] at hy
  refine ⟨S m h.1 y u hy.2, ?_⟩
  show (if x = y then some u else m x) = some v
  rw [if_neg fun e => by rw [e, beq_self_eq_true] at hy; exact Bool.noConfusion hy.1]
  exact h.2
theorem Here.sealed (H : Here w t c m led h) {N : (Str → Option Value) → Prop} (hN : N m) : ∃ m', N m' ∧ Here w t c m' led h := ⟨_, hN, H⟩
theorem Here.sealed2 (H : Here w t c m led h) {N N' : (Str → Option Value) → Prop} (hN : N m) (hN' : N' m) : ∃ m', N m' ∧ N' m' ∧ Here w t c m' led h := ⟨_, hN, hN', H⟩
theorem Here.based (H : Here w t c m led h) {P : List (Addr × Obj) → Prop} (hP : P led) : ∃ base, P base ∧ Here w t c m base h := ⟨_, hP, H⟩
theorem Here.stOf (_ : Here w t c m led h) (hs : ∀ p ∈ sl, p ∈ c.fz ∨ c.h₀.get? p.1 = some p.2) : St c sl := hs
theorem execs_stepC {st : Stmt} {rest : List Stmt} {Q : Flow → Shared → Prop} {s₀ : Shared} (_ : Here w t c m led h) (R : Cx → Shared → Prop) (h1 : ∀ Rs : Flow → Shared → Prop, (∀ s', R c s' → Rs .next s') → wpAny M A (exec st env) Rs NoE s₀) (h2 : ∀ s', R c s' → wpAny M A (execs rest env) Q Er s') : wpAny M A (execs (st :: rest) env) Q Er s₀ := execs_step (R c) h1 h2

set_option maxHeartbeats 8000000 in
theorem drawn_ok {aS : Addr} {vs : List Value} {ns : List Int} {tk : Nat} {Q : Value → Shared → Prop} (H : Here w t c m led h) (hfz : c.fz = []) (hS : c.h₀.IsList aS vs.toArray) (hi : Ints vs ns) (hlen : vs.length ≤ 1000) (hd : c.dp < recursionLimit) (hu : c.un + 100 < cLine)
    (hQ : ∀ n kd nv E V la lv ae av aN aO aT (order : List Nat) (news : List (Addr × Obj)) eN eO h' tk', 3 ≤ n → n ≤ 7 → kd < 3 → (∀ k, k < n → tokOk (nv k)) → NamesOk kd nv n news → (aN, lObj ((List.range n).map nv) eN) ∈ news → DI w kd nv n 100 ae av E V la lv news → (aO, lObj (order.map nv) eO) ∈ news → (∀ x, x ∈ order ↔ x < n) → order.length ≤ 20 →
      (aT, ({ cls := .type "tuple", data := .seq #[.ref aN, .ref ae, .ref av, .ref aO] } : Obj)) ∈ news → (∀ p ∈ led, ∀ q ∈ news, p.1 ≠ q.1) → Here w t c m (news ++ led) h' → Q (.ref aT) (sh s h' tk')) (hA : A = c.A := by rfl) :
    wpAny (model prog w) A (call (.ref 33) [.ref aS]) Q Er (sh s h tk) := by
  subst hA
  refine h_enterC H hfz rfl rfl hd (BindsTo.of_eq rfl) (by intro n x hx; simp at hx; subst hx; exact .inl rfl) (by decide) ?_
  intro g L' h0 tk0 cells st hlt Y Hc Rq hRq
  obtain ⟨oK, rfl, hoK⟩ := CellsAre.one (n := Str.ofString "kind") (c := L' + 1) Y
  have hoK : oK.data = .cell none := hoK
  have H0 := Here.freeze0 (fl := led) (led := [(L' + 1, oK)]) (Hc.mono fun p hp => by
    rcases List.mem_append.mp hp with hp | hp
    · exact List.mem_append_right _ hp
    · exact List.mem_append_left _ hp) (fun p hp q hq => by
      rw [List.mem_singleton.mp hq]
      exact Nat.ne_of_lt (Nat.lt_succ_of_lt (hlt p hp)))
  clear Hc Y
  obtain ⟨m0, hm0, H0⟩ := Here.gen H0 (x := Str.ofString "script") (v := .ref aS) rfl
  have hgS : g.IsList aS vs.toArray := by obtain ⟨o, ho, r⟩ := hS; exact ⟨o, st _ _ ho, r⟩
  have hu1 : c.un + 3 + 1 < cLine := by lia
  -- tape
  refine execs_stepC H0 (fun C s' => Ex6 fun m' us ep a h' tk' => s' = sh s h' tk' ∧ Here w t C m' [(a, lObj us ep), (L' + 1, oK)] h' ∧ m' (Str.ofString "tape") = some (.ref a) ∧ Ints us (cast (tpOf ns)) ∧ a ≠ L' + 1) ?_ ?_
  · intro Rs hRs
    refine h_assignListComp (cl := []) rfl rfl (by decide) (h_sliceUpto (t := t) (s := s) (h_loc H0 (v := .ref aS) hm0 (h_int fun u tk1 => ⟨h0, tk1, _, _, _, aS, vs, 40, u, rfl, rfl, rfl, H0, ?_, by lia, fun a1 h1 hlt1 H1 => ?_⟩)))
    · obtain ⟨o, ho, r⟩ := hgS; exact ⟨o, H0.F.keep _ _ ho, r⟩
    refine h_compTail (vs := vs.take 40) (fun i ys led₁ => Ints ys (cast (((ns.take 40).take i).map fun n => (n % 720720).toNat)) ∧ led₁ = (a1, lObj (vs.take 40) 0) :: [(L' + 1, oK)]) H1 ⟨rfl, rfl⟩ ?_ (by simp; lia) ?_ ?_
    · rintro i ys led₁ fz h _ ⟨_, rfl⟩ H₁; exact ⟨_, H₁.get (.head _)⟩
    · rintro i v ys led₁ h tk fz C oC mC Rz hRz hv hfz' hC hNC hmC ⟨hys, rfl⟩ H₁
      refine wpAny_tests_nil ⟨_, h, tk, rfl, H₁, ?_⟩
      rw [if_pos rfl]
      have hi' : Ints (vs.take 40) (ns.take 40) := by unfold Ints at hi ⊢; rw [List.map_take, List.map_take, hi]
      obtain ⟨n, tn, rfl, hn⟩ := hi'.at hv
      refine wpAny_BinOp (h_cloc H₁ hC hNC hmC (h_int fun u tk1 => h_mod (by decide) fun u2 tk2 => ⟨_, h, tk2, rfl, H₁, hRz _ _ ⟨?_, rfl⟩⟩))
      have e : n.fmod 720720 = (((n % 720720).toNat : Nat) : Int) := by
        rw [Int.fmod_eq_emod_of_nonneg _ (by lia)]; lia
      rw [List.take_add_one, hn, e]
      have := hys.snoc (((n % 720720).toNat : Nat) : Int) u2
      simpa [cast] using this
    · rintro a ys ep led₁ h tk C oC mC ⟨hys, rfl⟩ hla hNC hCz H₁
      refine compEnd_use hNC hCz H₁ fun h' tk' H₂ => (hRs _ ⟨_, ys, ep, a, h', tk', rfl, H₂.mono fun p hp => ?_, rfl, ?_, Ne.symm (hla _ (.tail _ (.head _)))⟩)
      · rcases List.mem_cons.mp hp with rfl | hp
        · exact .head _
        · exact .tail _ (.tail _ hp)
      · rw [List.take_of_length_le (by rw [List.length_take, List.length_take, hi.length]; exact Nat.le_refl _)] at hys; exact hys
  rintro _ ⟨m1, us, ep, a, h1, tk1, rfl, H1, hm1, hus, haL⟩
  -- head
  refine execs_stepC H1 (fun C s' => Ex9 fun m' us ep a hd u tp h' tk' => s' = sh s h' tk' ∧ Here w t C m' [(a, lObj us ep), (L' + 1, oK)] h' ∧ m' (Str.ofString "tape") = some (.ref a) ∧ m' (Str.ofString "head") = some (.int (hd : Nat) u) ∧ hd < 720720 ∧ Ints us (cast tp) ∧ tp.length ≤ 40 ∧ (∀ x ∈ tp, x < 720720) ∧ a ≠ L' + 1) ?_ ?_
  · intro Rs hRs
    have hul : us.length ≤ 40 := by rw [hus.length]; simp [cast, tpOf]; lia
    refine wpAny_Assign_Name (wpAny_IfExp (isTrue_plain (h_loc H1 hm1 (h_truthy_list (H1.get (.head _)) (by lia) fun tk2 => ?_))))
    have htp : ∀ x ∈ tpOf ns, x < 720720 := tp_lt
    have htl : (tpOf ns).length ≤ 40 := by simp [tpOf]; lia
    revert hus htp htl
    generalize tpOf ns = tp
    intro hus htp htl
    cases tp with
    | nil =>
      have e : us = [] := by have := hus.length; simpa [cast] using this
      subst e
      refine h_int fun u tk3 => h_store H1 fun h2 tk4 H2 => (hRs _ ⟨_, [], ep, a, 0, u, [], h2, tk4, rfl, H2, hm1, rfl, by decide, Ints.nil, by simp, by simp, haL⟩)
    | cons x tp =>
      cases us with
      | nil => have := hus.length; simp [cast] at this
      | cons v us =>
        obtain ⟨n0, tn, rfl, hn⟩ := hus.at (i := 0) rfl
        have e : (x : Int) = n0 := by simpa [cast] using hn
        subst e
        have hus' : Ints us (cast tp) := by unfold Ints at hus ⊢; simpa [cast] using (List.cons.inj hus).2
        show wpAny _ _ (eval _ _) _ _ _
        refine h_pop0 H1 hm1 (.head _) (by simp at hul; lia) fun h2 tk3 ep2 H2 => h_store H2 fun h3 tk4 H3 => (hRs _ ⟨_, us, ep2, a, x, tn, tp, h3, tk4, rfl, H3.mono fun p hp => ?_, hm1, rfl, htp x List.mem_cons_self, hus', by simp at htl; lia, fun y hy => htp y (List.mem_cons_of_mem _ hy), haL⟩)
        rw [lput_hd (fun q hq => by rw [List.mem_singleton.mp hq]; exact Ne.symm haL)]
        exact hp
  clear H1 hus hm1 haL us a ep m1 h1 tk1
  rintro _ ⟨m1, us, ep, a, hd0, uh, tp, h1, tk1, rfl, H1, hm1, hmh, hhd, hus, htl, htp, haL⟩
  obtain ⟨N, SN, hN⟩ := Seal.nil (m := m1)
  obtain ⟨N, SN, hN, _, nT⟩ := SN.snoc hN hm1
  obtain ⟨N, SN, hN, uH, nH⟩ := SN.snoc hN hmh
  clear hm1 hmh
  -- count
  obtain ⟨n, hn⟩ : ∃ n, n = 3 + hd0 % 5 := ⟨_, rfl⟩
  obtain ⟨kd, hkd⟩ : ∃ kd, kd = hd0 / 5 % 3 := ⟨_, rfl⟩
  refine execs_stepC H1 (fun C s' => Ex4 fun m' u h' tk' => s' = sh s h' tk' ∧ Here w t C m' [(a, lObj us ep), (L' + 1, oK)] h' ∧ N m' ∧ m' (Str.ofString "count") = some (.int (n : Nat) u)) ?_ ?_
  · intro Rs hRs
    refine wpAny_Assign_Name (wpAny_BinOp (h_int fun u1 tk2 => wpAny_BinOp (h_loc H1 (nH _ hN) (h_int fun u2 tk3 => h_modN (b := 5) (by decide) fun u3 tk4 => h_addN (a := 3) fun u4 tk5 => ?_))))
    exact h_store H1 fun h2 tk6 H2 => (hRs _ ⟨_, u4, h2, tk6, rfl, H2, SN.put hN _ _ rfl, by rw [hn]; rfl⟩)
  clear H1 hN
  rintro _ ⟨m1, uc, h1, tk1, rfl, H1, hN, hmc⟩
  obtain ⟨N, SN, hN, uC, nC⟩ := SN.snoc hN hmc
  clear hmc
  -- kind
  refine execs_stepC H1 (fun C s' => Ex4 fun oK' u h' tk' => s' = sh s h' tk' ∧ oK'.data = .cell (some (.int (kd : Nat) u)) ∧ Here w t C m1 [(a, lObj us ep), (L' + 1, oK')] h') ?_ ?_
  · intro Rs hRs
    refine wpAny_Assign_Name (wpAny_BinOp (wpAny_BinOp (h_loc H1 (nH _ (uC _ hN)) (h_int fun u1 tk2 => h_divN (b := 5) (by decide) (by lia) (by decide) fun u2 tk3 => h_int fun u3 tk4 => h_modN (b := 3) (by decide) fun u4 tk5 => ?_))))
    refine h_storeCell H1 (a := L' + 1) rfl (.tail _ (.head _)) hoK (fun o' h2 ho' H2 => (hRs _ ⟨o', u4, h2, _, rfl, by rw [ho', hkd], H2.mono fun p hp => ?_⟩)) rfl
    rw [lput_tl haL]
    rcases List.mem_cons.mp hp with rfl | hp
    · exact .head _
    · rw [List.mem_singleton.mp hp]; exact .tail _ (lput_self (.head _))
  clear H1 h1 tk1
  rintro _ ⟨oK', uk, h1, tk1, rfl, hoK', H1⟩
  obtain ⟨base, ⟨hba2, hbK⟩, H1⟩ := H1.based (P := fun base => (a, lObj us ep) ∈ base ∧ (L' + 1, oK') ∈ base) ⟨.head _, .tail _ (.head _)⟩
  -- names
  have hn3 : 3 ≤ n := by lia
  have hn7 : n ≤ 7 := by lia
  have hkd3 : kd < 3 := by lia
  refine execs_stepC H1 (fun C s' => Ex7 fun m' ys news aN eN h' tk' => s' = sh s h' tk' ∧ Here w t C m' ((aN, lObj ys eN) :: (news ++ base)) h' ∧ N m' ∧ m' (Str.ofString "names") = some (.ref aN) ∧
      ys.length = n ∧ (∀ k v, ys[k]? = some v → NmAt kd k v news ∧ tokOk v) ∧ (∀ p ∈ news, ∀ q ∈ base, q.1 ≠ p.1) ∧ (∀ q ∈ news ++ base, q.1 ≠ aN)) ?_ ?_
  · intro Rs hRs
    refine h_assignListComp (cl := [(Str.ofString "kind", L' + 1)]) rfl rfl (by decide) (h_range H1 (h_loc H1 (nC _ hN) ⟨h1, tk1, _, _, _, (n : Int), uc, rfl, rfl, H1, fun ar h2 tk2 ta tb tc htk2 hlt2 hr H2 => ?_⟩))
    refine h_compRange (N := n) (fun i ys led₁ => ∃ news, led₁ = news ++ base ∧ ys.length = i ∧ (∀ k v, ys[k]? = some v → NmAt kd k v news ∧ tokOk v) ∧ (∀ p ∈ news, ∀ q ∈ base, q.1 ≠ p.1)) H2 ⟨[], rfl, rfl, by simp, by simp⟩ htk2 hr (by lia) ?_ ?_
    · rintro i u ys led₁ h tk fz C oC mC Rz hRz hin hut htk hfz' hC hNC hmC ⟨news, rfl, hyl, hys, hnb⟩ H₁
      refine wpAny_tests_nil ⟨_, h, tk, htk, rfl, H₁, ?_⟩
      rw [if_pos rfl]
      refine h_lget (List_ (spliced_more (h_cloc H₁ hC hNC hmC (spliced_more (Subscript_ (h_strN fun u1 tk1 htk1 => h_cloc H₁ hC hNC hmC (item_str (by unfold fitsSsize; simp; lia) (by show (-7 : Int) ≤ i; lia) (by show (i : Int) < 7; lia) fun _ => ?_)))))))
      rw [item_letter (by lia)]
      refine spliced_more (Tuple_ (spliced_more (h_cloc H₁ hC hNC hmC (spliced_more (h_str (s := s) (h := h) (tk := tk1 + 1) fun u2 tk2 => spliced_none (h_newTuple H₁ (size_ok (by simp)) fun at' h3 hlt3 _ H3 => ?_))))))
      refine spliced_none (h_newList H3 (size_ok (by simp)) fun al h4 hlt4 _ H4 => ?_)
      refine wpAny_BinOp (wpAny_BinOp (h_cloc H4 hC hNC hmC (h_cell (s := s) (h := h4) (a := L' + 1) rfl (H4.get (.tail _ (.tail _ (List.mem_append_right _ hbK)))) hoK' (h_addN fun u5 tk5 => h_int fun u6 tk6 => h_modT (b := 3) (by decide) fun u7 tk7 htk7 => ?_) rfl)))
      have hlts : ∀ q ∈ news ++ base, q.1 ≠ at' := fun q hq => Nat.ne_of_lt (hlt3 q hq)
      have hm3 : (i + kd) % 3 < 3 := Nat.mod_lt _ (by decide)
      obtain ⟨v, hv, hnm⟩ : ∃ v, [Value.int i u, .str (letter i) tk1, .ref at'][(i + kd) % 3]? = some v ∧ (NmAt kd i v ((at', tupObj i u u2 0) :: news) ∧ tokOk v) := by
        have h3 : (i + kd) % 3 = 0 ∨ (i + kd) % 3 = 1 ∨ (i + kd) % 3 = 2 := by lia
        rcases h3 with h3 | h3 | h3 <;> rw [h3]
        · exact ⟨_, rfl, .inl ⟨h3, _, rfl⟩, hut⟩
        · exact ⟨_, rfl, .inr (.inl ⟨h3, _, rfl⟩), htk1⟩
        · exact ⟨_, rfl, .inr (.inr ⟨h3, _, _, _, _, rfl, .head _⟩), trivial⟩
      refine ⟨al, (i + kd) % 3, u7, _, 0, v, rfl, rfl, H4.get (.head _), hv, by lia, (at', tupObj i u u2 0) :: (news ++ base), h4, tk7, htk7, rfl, H4.mono fun p hp => .tail _ hp, hRz _ _ ⟨(at', tupObj i u u2 0) :: news, rfl, by simp [hyl], ?_, ?_⟩⟩
      · intro k v' hk
        rcases Nat.lt_trichotomy k ys.length with hlt | rfl | hgt
        · rw [List.getElem?_append_left hlt] at hk; exact ⟨(hys k v' hk).1.mono fun p hp => .tail _ hp, (hys k v' hk).2⟩
        · have : v = v' := by simpa using hk
          subst this; rw [hyl]; exact hnm
        · rw [List.getElem?_eq_none (by simp; lia)] at hk; cases hk
      · intro p hp q hq
        rcases List.mem_cons.mp hp with rfl | hp
        · exact hlts q (List.mem_append_right _ hq)
        · exact hnb p hp q hq
    · rintro aN ys eN led₁ h tk C oC mC ⟨news, rfl, hyl, hys, hnb⟩ hla hNC hCz H₁
      exact compEnd_use hNC hCz H₁ fun h' tk' H₂ => (hRs _ ⟨_, ys, news, aN, eN, h', tk', rfl, H₂, SN.put hN _ _ rfl, rfl, hyl, hys, hnb, hla⟩)
  clear H1 hN
  rintro _ ⟨m1, ys, news, aN, eN, h1, tk1, rfl, H1, hN, hmN, hyl, hys, hnb, hla⟩
  obtain ⟨N, SN, hN, uN, nN⟩ := SN.snoc hN hmN
  clear hmN
  -- the names are laid aside
  obtain ⟨nv, hnv⟩ : ∃ nv : Nat → Value, nv = fun k => ys.getD k .none := ⟨_, rfl⟩
  have hys' : ys = (List.range n).map nv := by
    apply List.ext_getElem
    · simp [hyl]
    · intro i h1 h2
      rw [List.getElem_map, List.getElem_range, hnv]; simp [h1]
  have NO : NamesOk kd nv n ((aN, lObj ys eN) :: news) := by
    intro k hk
    have := hys k (nv k) (by rw [hys']; simp [hk])
    exact this.1.mono fun p hp => .tail _ hp
  have hTok : ∀ k, k < n → tokOk (nv k) := fun k hk => (hys k (nv k) (by rw [hys']; simp [hk])).2
  have H2 := Here.freezeAll (fl := (aN, lObj ys eN) :: news) (fz := led) (led := base) H1 (by
    intro p hp q hq
    rcases List.mem_cons.mp hp with rfl | hp
    · exact Ne.symm (hla q (List.mem_append_right _ hq))
    · exact Ne.symm (hnb p hp q hq))
  have S2 := H2.stOf (sl := (aN, lObj ys eN) :: news) fun p hp => .inl (List.mem_append_left _ hp)
  -- edges
  refine execs_stepC H2 (fun C s' => Ex7 fun m' la nw ae ee h' tk' => s' = sh s h' tk' ∧ Here w t C m' ((ae, dObj w kd nv (row n la) ee) :: (nw ++ base)) h' ∧ N m' ∧ m' (Str.ofString "edges") = some (.ref ae) ∧
      FF n la base ∧ (∀ k, k < n → (la k, lObj [] 0) ∈ nw) ∧ (∀ q ∈ nw ++ base, q.1 ≠ ae) ∧ (∀ p ∈ nw, ∀ q ∈ base, q.1 ≠ p.1)) ?_ ?_
  · intro Rs hRs
    refine h_assignDictComp (cl := []) rfl rfl (by decide) (h_loc H2 (nN _ hN) ?_)
    refine h_dcompTail (kd := kd) (nv := nv) (n := n) (vs := (List.range n).map nv) (fun i ds led₁ => ∃ la nw, led₁ = nw ++ base ∧ ds = row i la ∧ FF i la base ∧ (∀ k, k < i → (la k, lObj [] 0) ∈ nw) ∧ (∀ p ∈ nw, ∀ q ∈ base, q.1 ≠ p.1)) H2 ⟨fun _ => 0, [], rfl, rfl, FF.zero, by intro k hk; exact absurd hk (Nat.not_lt_zero _), by simp⟩ ?_ (by simp; lia) (by show c.un + 3 < _; lia) ?_ ?_
    · rintro i ds led₁ fz h hf _ H₁
      rw [← hys']; exact ⟨eN, (S2.wz hf).get H₁ (.head _)⟩
    · rintro i v ds led₁ h tk fz C oC mC Rz hRz hv hfz' hC hNC hmC ⟨la, nw, rfl, rfl, hF, hla', hoff⟩ H₁
      obtain ⟨hin, hiv⟩ : i < n ∧ nv i = v := by
        rw [List.getElem?_map] at hv
        by_cases h : i < n
        · simp [h] at hv; exact ⟨h, hv⟩
        · simp [h] at hv
      subst hiv
      refine wpAny_tests_nil ⟨_, h, tk, rfl, H₁, ?_⟩
      rw [if_pos rfl]
      refine h_cloc H₁ hC hNC hmC (List_ (spliced_none (h_newList H₁ (by decide) fun al h3 hlt3 _ H3 => ⟨_, h3, tk, i, rfl, rfl, hin, NO.at (S2.wz hfz') H3, H3, hRz _ _ ⟨G.upd la i al, (al, lObj [] 0) :: nw, rfl, row_put .., hF.snoc hlt3 (fun k hk => ⟨_, hla' k hk⟩), ?_, ?_⟩⟩)))
      · intro k hk
        by_cases e : k = i
        · rw [e, G.upd_self]; exact .head _
        · rw [G.upd_ne _ _ e]; exact .tail _ (hla' k (by lia))
      · intro p hp q hq
        rcases List.mem_cons.mp hp with rfl | hp
        · exact Nat.ne_of_lt (hlt3 q (List.mem_append_right _ hq))
        · exact hoff p hp q hq
    · rintro ae ds ee led₁ h tk C oC mC ⟨la, nw, rfl, rfl, hF, hla', hoff⟩ _ _ _ hae hNC hCz H₁
      rw [List.length_map, List.length_range] at hF hla' H₁
      exact compEnd_use hNC hCz H₁ fun h' tk' H₂ => (hRs _ ⟨_, la, nw, ae, ee, h', tk', rfl, H₂, SN.put hN _ _ rfl, rfl, hF, hla', hae, hoff⟩)
  clear hN
  rintro _ ⟨m3, la, nwE, ae, ee, h3, tk3, rfl, H3, hN, hmE, hFE, hlaE, haE, hoffE⟩
  obtain ⟨N, SN, hN, uE, nE⟩ := SN.snoc hN hmE
  clear hmE
  -- values
  obtain ⟨bs2, hbs2⟩ : ∃ bs2, bs2 = (ae, dObj w kd nv (row n la) ee) :: (nwE ++ base) := ⟨_, rfl⟩
  rw [← hbs2] at H3
  refine execs_stepC H3 (fun C s' => Ex7 fun m' lv nw av ev h' tk' => s' = sh s h' tk' ∧ Here w t C m' ((av, dObj w kd nv (row n lv) ev) :: (nw ++ bs2)) h' ∧ N m' ∧ m' (Str.ofString "values") = some (.ref av) ∧
      FF n lv bs2 ∧ (∀ k, k < n → ∃ u, (lv k, lObj [.int (10 + k : Nat) u] 0) ∈ nw) ∧ (∀ q ∈ nw ++ bs2, q.1 ≠ av) ∧ (∀ p ∈ nw, ∀ q ∈ bs2, q.1 ≠ p.1)) ?_ ?_
  · intro Rs hRs
    refine h_assignDictCompT (cl := []) rfl rfl (by decide) (h_enum H3 (h_loc H3 (nN _ (uE _ hN)) (h_enumCall (vs := (List.range n).map nv) (ep := eN) H3 (by rw [← hys']; exact S2.get H3 (.head _)) ?_)))
    intro e it oi h4 hne hfz4 hle hli hoc hod H4
    refine h_dcompEnum (kd := kd) (nv := nv) (n := n) (vs := (List.range n).map nv) (fun i ds led₁ => ∃ lv nw, led₁ = nw ++ bs2 ∧ ds = row i lv ∧ FF i lv bs2 ∧ (∀ k, k < i → ∃ u, (lv k, lObj [.int (10 + k : Nat) u] 0) ∈ nw) ∧ (∀ p ∈ nw, ∀ q ∈ bs2, q.1 ≠ p.1)) hne hfz4 hoc hod H4 ⟨fun _ => 0, [], rfl, rfl, FF.zero, by intro k hk; exact absurd hk (Nat.not_lt_zero _), by simp⟩ ?_ hle hli (by simp; lia) (by show c.un + 3 < _; lia) (by decide) ?_ ?_
    · rintro i ds led₁ fz h hf _ H₁
      rw [← hys']; exact ⟨eN, (S2.wz hf).get H₁ (.head _)⟩
    · rintro i v u ds led₁ h tk fz C oC mC Rz hRz hv hfz' hC hNC hmC hmC2 ⟨lv, nw, rfl, rfl, hF, hlv', hoff⟩ H₁
      obtain ⟨hin, hiv⟩ : i < n ∧ nv i = v := by
        rw [List.getElem?_map] at hv
        by_cases h : i < n
        · simp [h] at hv; exact ⟨h, hv⟩
        · simp [h] at hv
      subst hiv
      refine h_cloc H₁ hC hNC hmC2 (List_ (spliced_more (wpAny_BinOp (h_int fun u1 tk1 => h_cloc H₁ hC hNC hmC (h_addN (a := 10) fun u2 tk2 => spliced_none (h_newList H₁ (size_ok (by simp)) fun al h3 hlt3 _ H3 => ⟨_, h3, tk2, i, rfl, rfl, hin, NO.at (S2.wz hfz') H3, H3, hRz _ _ ⟨G.upd lv i al, (al, lObj [.int (10 + i : Nat) u2] 0) :: nw, rfl, row_put .., hF.snoc hlt3 (fun k hk => let ⟨u, hu⟩ := hlv' k hk; ⟨_, hu⟩), ?_, ?_⟩⟩))))))
      · intro k hk
        by_cases e : k = i
        · rw [e, G.upd_self]; exact ⟨u2, .head _⟩
        · rw [G.upd_ne _ _ e]
          obtain ⟨u, hu⟩ := hlv' k (by lia)
          exact ⟨u, .tail _ hu⟩
      · intro p hp q hq
        rcases List.mem_cons.mp hp with rfl | hp
        · exact Nat.ne_of_lt (hlt3 q (List.mem_append_right _ hq))
        · exact hoff p hp q hq
    · rintro av ds ev led₁ h tk C oC mC ⟨lv, nw, rfl, rfl, hF, hlv', hoff⟩ _ _ _ hav hNC hCz H₁
      rw [List.length_map, List.length_range] at hF hlv' H₁
      exact compEnd_use hNC hCz H₁ fun h' tk' H₂ => (hRs _ ⟨_, lv, nw, av, ev, h', tk', rfl, H₂, SN.put hN _ _ rfl, rfl, hF, hlv', hav, hoff⟩)
  clear hN
  rintro _ ⟨m4, lv, nwV, av, ev, h4, tk4, rfl, H4, hN, hmV, hFV, hlvV, haV, hoffV⟩
  obtain ⟨N, SN, hN, uV, nV⟩ := SN.snoc hN hmV
  clear hmV
  -- the tape is laid aside
  have hin2 : ∀ p ∈ nwE ++ base, p ∈ bs2 := fun p hp => by rw [hbs2]; exact .tail _ hp
  have hbe : (ae, dObj w kd nv (row n la) ee) ∈ bs2 := by rw [hbs2]; exact .head _
  have hba : (a, lObj us ep) ∈ bs2 := hin2 _ (List.mem_append_right _ hba2)
  obtain ⟨ld0, hld0⟩ : ∃ ld0, ld0 = (av, dObj w kd nv (row n lv) ev) :: (nwV ++ ((ae, dObj w kd nv (row n la) ee) :: nwE)) := ⟨_, rfl⟩
  have hld0m : ∀ p ∈ ld0, p ∈ (av, dObj w kd nv (row n lv) ev) :: (nwV ++ bs2) := by
    intro p hp
    rw [hld0] at hp
    rcases List.mem_cons.mp hp with rfl | hp
    · exact .head _
    · rcases List.mem_append.mp hp with hp | hp
      · exact .tail _ (List.mem_append_left _ hp)
      · rcases List.mem_cons.mp hp with rfl | hp
        · exact .tail _ (List.mem_append_right _ hbe)
        · exact .tail _ (List.mem_append_right _ (hin2 _ (List.mem_append_left _ hp)))
  have hane : ∀ q ∈ ld0, a ≠ q.1 := by
    intro q hq
    rw [hld0] at hq
    rcases List.mem_cons.mp hq with rfl | hq
    · exact haV _ (List.mem_append_right _ hba)
    · rcases List.mem_append.mp hq with hq | hq
      · exact hoffV q hq _ hba
      · rcases List.mem_cons.mp hq with rfl | hq
        · exact haE _ (List.mem_append_right _ hba2)
        · exact hoffE q hq _ hba2
  have hD4 : ∀ p ∈ led, p.1 ≠ a := fun p hp => H4.D p (List.mem_append_right _ hp) _ (.tail _ (List.mem_append_right _ hba))
  have H5 := Here.freezeAll (fl := [(a, lObj us ep)]) (fz := (aN, lObj ys eN) :: news ++ led) (led := ld0) (H4.mono fun p hp => by
    rcases List.mem_append.mp hp with hp | hp
    · rw [List.mem_singleton.mp hp]; exact .tail _ (List.mem_append_right _ hba)
    · exact hld0m p hp) (fun p hp q hq => by rw [List.mem_singleton.mp hp]; exact hane q hq)
  have S5 := H5.stOf (sl := (aN, lObj ys eN) :: news) fun p hp => .inl (List.mem_append_right _ (List.mem_append_left _ hp))
  have hDI0 : DI w kd nv n 0 ae av (fun _ => []) (fun k => [((10 + k : Nat) : Int)]) la lv ld0 := by
    have hmE' : ∀ p ∈ nwE, p ∈ ld0 := fun p hp => by rw [hld0]; exact .tail _ (List.mem_append_right _ (.tail _ hp))
    have hmV' : ∀ p ∈ nwV, p ∈ ld0 := fun p hp => by rw [hld0]; exact .tail _ (List.mem_append_left _ hp)
    refine ⟨⟨row n la, ee, by rw [hld0]; exact .tail _ (List.mem_append_right _ (.head _)), by rw [row_keys]; exact List.nodup_range, row_lt, fun k hk => row_get hk⟩, ⟨row n lv, ev, by rw [hld0]; exact .head _, by rw [row_keys]; exact List.nodup_range, row_lt, fun k hk => row_get hk⟩, fun k hk => ⟨0, hmE' _ (hlaE k hk)⟩,
      fun k hk => let ⟨u, hu⟩ := hlvV k hk; ⟨_, 0, hmV' _ hu, rfl⟩, hFE.inj, hFV.inj, fun i hi j hj => hFV.off j hj _ (hin2 _ (List.mem_append_left _ (hlaE i hi))), fun i hi => ⟨haE _ (List.mem_append_left _ (hlaE i hi)), haV _ (List.mem_append_right _ (hin2 _ (List.mem_append_left _ (hlaE i hi)))), Ne.symm (hFV.off i hi _ hbe), ?_⟩, haV _ (List.mem_append_right _ hbe), fun k _ y hy => (by cases hy), fun k hk => ⟨by simp, by simp; lia⟩, fun k hk => Nat.le_refl _⟩
    obtain ⟨u, hu⟩ := hlvV i hi
    exact haV _ (List.mem_append_left _ hu)
  have hul : us.length ≤ 40 := by rw [hus.length]; simpa [cast] using htl
  have hNs : (aN, lObj ((List.range n).map nv) eN) ∈ (aN, lObj ys eN) :: news := by rw [← hys']; exact .head _
  clear hlaE hoffE haE hFE hlvV haV hoffV hFV H4 H3 hld0m hane hin2 hbe hba
  -- the loop
  refine execs_stepC H5 (fun C s' => Ex8 fun m' E V la lv led' h' tk' => s' = sh s h' tk' ∧ Here w t C m' led' h' ∧ N m' ∧ DI w kd nv n 100 ae av E V la lv led') ?_ ?_
  · intro Rs hRs
    refine wpAny_For (h_loc H5 (nT _ (uH _ (uC _ (uN _ (uE _ (uV _ hN)))))) (h_forList (vs := us) (fun i m₁ led₁ => N m₁ ∧ Ex4 fun E V la lv => DI w kd nv n i ae av E V la lv led₁) H5 ⟨hN, _, _, _, _, hDI0⟩ ?_ ?_ ?_))
    · rintro i m₁ led₁ fz h hf _ H₁
      exact ⟨ep, (H₁.Z _ (hf _ (.head _))).1⟩
    · rintro i v m₁ led₁ h tk fz Rz hRz hv hf ⟨hN₁, E, V, la, lv, D⟩ H₁
      have S6 := S5.wz hf
      have hi40 : i < us.length := (List.getElem?_eq_some_iff.mp hv).1
      obtain ⟨x0, tx, rfl, hx0⟩ := hus.at hv
      obtain ⟨x, hx, rfl⟩ : ∃ x : Nat, x < 720720 ∧ (x : Int) = x0 := by
        unfold cast at hx0
        rw [List.getElem?_map] at hx0
        obtain ⟨x, hx, e⟩ := Option.map_eq_some_iff.mp hx0
        exact ⟨x, htp x (List.mem_of_getElem? hx), e⟩
      have hn0 : n ≠ 0 := by lia
      have ho : x % n < n := Nat.mod_lt _ (by lia)
      have hy : x / n % n < n := Nat.mod_lt _ (by lia)
      have hdv : x / n ≤ 1000000 := Nat.le_trans (Nat.div_le_self _ _) (by lia)
      have hN₁ := SN.put hN₁ (Str.ofString "n") (.int (x : Nat) tx) rfl
      obtain ⟨N1, SN1, hN1, v1, n1⟩ := SN.snoc hN₁ (x := Str.ofString "n") (v := .int (x : Nat) tx) rfl
      obtain ⟨m1, hNm, hN1, H₁⟩ := H₁.sealed2 hN₁ hN1
      refine wpAny_execs_cons (wpAny_Assign_Name (h_lget (h_loc H₁ (nN _ (uE _ (uV _ (v1 _ hN1)))) (wpAny_BinOp (h_loc H₁ (n1 _ hN1) (h_loc H₁ (nC _ (uN _ (uE _ (uV _ (v1 _ hN1))))) (h_modN hn0 fun u1 tk2 => ⟨aN, x % n, u1, _, eN, nv (x % n), rfl, rfl, S6.get H₁ hNs, by simp [ho], by lia, h_store H₁ fun h3 tk3 H3 => ?_⟩)))))))
      have hN3 := SN1.put hN1 (Str.ofString "one") (nv (x % n)) rfl
      refine wpAny_execs_cons (wpAny_Assign_Name (wpAny_BinOp (wpAny_BinOp (h_loc H3 (n1 _ hN3) (h_loc H3 (nC _ (uN _ (uE _ (uV _ (v1 _ hN3))))) (h_divN hn0 (by lia) (by lia) fun u2 tk4 => h_loc H3 (nC _ (uN _ (uE _ (uV _ (v1 _ hN3))))) (h_modN hn0 fun u3 tk5 => h_store H3 fun h6 tk6 H6 => ?_)))))))
      have hN6 := SN1.put hN3 (Str.ofString "other") (.int ((x / n % n : Nat) : Int) u3) rfl
      refine wpAny_execs_cons (wpAny_Assign_Name (wpAny_BinOp (wpAny_BinOp (wpAny_BinOp (h_loc H6 (n1 _ hN6) (h_loc H6 (nC _ (uN _ (uE _ (uV _ (v1 _ hN6))))) (h_divN hn0 (by lia) (by lia) fun u4 tk7 => h_loc H6 (nC _ (uN _ (uE _ (uV _ (v1 _ hN6))))) (h_divN hn0 hdv (by lia) fun u5 tk8 => h_int fun u6 tk9 => h_modN (b := 4) (by decide) fun u7 tk10 => h_store H6 fun h2 tk2 H2' => ?_))))))))
      have hNe := SN.put (SN.put (SN.put hNm (Str.ofString "one") (nv (x % n)) rfl) (Str.ofString "other") (.int ((x / n % n : Nat) : Int) u3) rfl) (Str.ofString "way") (.int ((x / n / n % 4 : Nat) : Int) u7) rfl
      obtain ⟨N2, SN2, hN2, w1, n2⟩ := SN.snoc hNe (x := Str.ofString "one") (v := nv (x % n)) rfl
      obtain ⟨N2, SN2, hN2, w2, n3⟩ := SN2.snoc hN2 (x := Str.ofString "other") (v := .int ((x / n % n : Nat) : Int) u3) rfl
      obtain ⟨N2, SN2, hN2, w3, n4⟩ := SN2.snoc hN2 (x := Str.ofString "way") (v := .int ((x / n / n % 4 : Nat) : Int) u7) rfl
      obtain ⟨m2, hNe, hN2, H2'⟩ := H2'.sealed2 hNe hN2
      clear H₁ H3 H6
      have hes : ∀ {es : List (Nat × Value)}, (es.map (·.1)).Nodup → (∀ p ∈ es, p.1 < n) → es.length ≤ 1000 := fun nd lt => by have := es_len nd lt; lia
      have hu2 : c.un + 3 + 1 < cLine := hu1
      refine wpAny_execs_cons (wpAny_If (wpAny_isTrue_Compare1 ?_))
      refine wpAny_BinOp (h_loc H2' (n4 _ hN2) (h_int fun u3 tk3 => h_modN (b := 2) (by decide) fun u4 tk4 => h_int fun u5 tk5 => h_eq_int (wpAny_truthy_bool ?_)))
      by_cases hw : x / n / n % 4 % 2 = 0
      · rw [show ((((x / n / n % 4 % 2 : Nat) : Int) == 0) : Bool) = true by rw [hw]; rfl]
        obtain ⟨es, epe, hme, nde, lte, ge⟩ := D.e
        obtain ⟨epl, hml⟩ := D.el (x % n) ho
        refine wpAny_execs_cons (h_append (w := w) (t := t) (s := s) ?_)
        refine h_item (s := s) (kd := kd) (n := n) (nv := nv) hu2 (h_loc H2' (nE _ (uV _ (w1 _ (w2 _ (w3 _ hN2))))) (h_loc H2' (n2 _ (w2 _ (w3 _ hN2))) ⟨h2, tk5, ae, x % n, es, _, rfl, rfl, rfl, ho, DAt.of (NO.at S6 H2') (H2'.get hme) nde lte, ge _ ho, fun tk6 => ⟨la (x % n), _, epl, rfl, H2'.get hml, ?_⟩⟩))
        refine h_lget (h_loc H2' (nN _ (uE _ (uV _ (w1 _ (w2 _ (w3 _ hN2)))))) (h_loc H2' (n3 _ (w3 _ hN2)) ⟨aN, x / n % n, _, _, eN, nv (x / n % n), rfl, rfl, S6.get H2' hNs, by simp [hy], by lia, _, _, _, h2, tk6, _, epl, rfl, H2', hml, ?_, fun h7 tk7 H7 => ?_⟩))
        · have := D.sz (x % n) ho; rw [List.length_map]; lia
        · exact wpAny_execs_nil (wpAny_execs_nil (hRz _ _ h7 tk7 H7 ⟨hNe, _, _, _, _, D.addE ho hy hml⟩))
      · rw [show ((((x / n / n % 4 % 2 : Nat) : Int) == 0) : Bool) = false by rw [beq_eq_false_iff_ne]; lia]
        refine wpAny_execs_cons (wpAny_If (wpAny_isTrue_Compare1 (h_loc H2' (n4 _ hN2) (h_int fun u5 tk5 => h_eq_int (wpAny_truthy_bool ?_)))))
        obtain ⟨vs', epv, hmv, ndv, ltv, gv⟩ := D.v
        by_cases hw3 : x / n / n % 4 = 3
        · rw [show ((((x / n / n % 4 : Nat) : Int) == 3) : Bool) = true by rw [hw3]; rfl]
          refine wpAny_execs_cons (h_setitem (t := t) (s := s) (kd := kd) (n := n) (nv := nv) hu2 (List_ (spliced_none (h_newList H2' (by decide) fun al h7 hlt7 _ H7 => ?_))))
          refine h_loc H7 (nV _ (w1 _ (w2 _ (w3 _ hN2)))) (h_loc H7 (n2 _ (w2 _ (w3 _ hN2))) ⟨h7, tk5, _, _, _, av, x % n, vs', epv, rfl, rfl, rfl, ho, H7, .tail _ hmv, DAt.of (NO.at S6 H7) (H7.get (.tail _ hmv)) ndv ltv, hes ndv ltv, fun h8 tk8 ep8 H8 => ?_⟩)
          exact wpAny_execs_nil (wpAny_execs_nil (wpAny_execs_nil (hRz _ _ h8 tk8 H8 ⟨hNe, _, _, _, _, D.clrV ho hmv ndv ltv gv hlt7⟩)))
        · rw [show ((((x / n / n % 4 : Nat) : Int) == 3) : Bool) = false by rw [beq_eq_false_iff_ne]; lia]
          obtain ⟨us', epl, hml, hus'⟩ := D.vl (x % n) ho
          refine wpAny_execs_cons (wpAny_If (wpAny_isTrue_Compare1 (h_loc H2' (n3 _ (w3 _ hN2)) ?_)))
          refine h_item (s := s) (kd := kd) (n := n) (nv := nv) hu2 (h_loc H2' (nV _ (w1 _ (w2 _ (w3 _ hN2)))) (h_loc H2' (n2 _ (w2 _ (w3 _ hN2))) ⟨h2, tk5, av, x % n, vs', _, rfl, rfl, rfl, ho, DAt.of (NO.at S6 H2') (H2'.get hmv) ndv ltv, gv _ ho, fun tk6 => h_notin_ints (H2'.get hml) hus' (wpAny_truthy_bool ?_)⟩))
          by_cases hin : ((x / n % n : Nat) : Int) ∈ V (x % n)
          · rw [decide_eq_true hin]
            exact wpAny_execs_nil (wpAny_execs_nil (wpAny_execs_nil (wpAny_execs_nil (hRz _ _ h2 tk6 H2' ⟨hNe, _, _, _, _, D.le (Nat.le_succ _)⟩))))
          · rw [decide_eq_false hin]
            refine wpAny_execs_cons (h_append (w := w) (t := t) (s := s) ?_)
            refine h_item (s := s) (kd := kd) (n := n) (nv := nv) hu2 (h_loc H2' (nV _ (w1 _ (w2 _ (w3 _ hN2)))) (h_loc H2' (n2 _ (w2 _ (w3 _ hN2))) ⟨h2, tk6, av, x % n, vs', _, rfl, rfl, rfl, ho, DAt.of (NO.at S6 H2') (H2'.get hmv) ndv ltv, gv _ ho, fun tk7 => ⟨lv (x % n), _, epl, rfl, H2'.get hml, ?_⟩⟩))
            refine h_loc H2' (n3 _ (w3 _ hN2)) ⟨_, _, _, h2, tk7, _, epl, rfl, H2', hml, ?_, fun h8 tk8 H8 => ?_⟩
            · have := (D.vf (x % n) ho).len; rw [hus'.length]; lia
            · exact wpAny_execs_nil (wpAny_execs_nil (wpAny_execs_nil (wpAny_execs_nil (hRz _ _ h8 tk8 H8 ⟨hNe, _, _, _, _, D.addV ho hml hus' hin (by lia)⟩))))
    · rintro m₁ led₁ h tk ⟨hN, E, V, la, lv, D⟩ H₁
      exact (hRs _ ⟨m₁, E, V, la, lv, led₁, h, tk, rfl, H₁, hN, D.le (by lia)⟩)
  clear hN hDI0
  rintro _ ⟨m6, E, V, la', lv', ld, h6, tk6, rfl, H6, hN, D⟩
  -- turn
  have hn0 : n ≠ 0 := by lia
  obtain ⟨tn, htn⟩ : ∃ tn, tn = hd0 / 15 % n := ⟨_, rfl⟩
  have htl' : tn < n := by rw [htn]; exact Nat.mod_lt _ (by lia)
  refine wpAny_execs_cons (wpAny_Assign_Name (wpAny_BinOp (wpAny_BinOp (h_loc H6 (nH _ (uC _ (uN _ (uE _ (uV _ hN))))) (h_int fun u1 tk1 => h_divN (b := 15) (by decide) (by lia) (by decide) fun u2 tk2 => h_loc H6 (nC _ (uN _ (uE _ (uV _ hN)))) (h_modN hn0 fun u3 tk3 => ?_))))))
  rw [← htn]
  refine h_store H6 fun h7 tk7 H7 => ?_
  obtain ⟨N, SN, hN, uT, nU⟩ := SN.snoc (SN.put hN (Str.ofString "turn") (.int (tn : Nat) u3) rfl) (x := Str.ofString "turn") (v := .int (tn : Nat) u3) rfl
  obtain ⟨m7, hN, H7⟩ := H7.sealed hN
  have hNl : ((List.range n).map nv).length ≤ 1000000 := by simp; lia
  -- order
  refine wpAny_execs_cons (wpAny_Assign_Name (wpAny_BinOp (h_sliceFrom (t := t) (s := s) (h_loc H7 (nN _ (uE _ (uV _ (uT _ hN)))) (h_loc H7 (nU _ hN) ⟨h7, tk7, _, _, _, aN, _, eN, tn, u3, rfl, rfl, rfl, H7, S5.get H7 hNs, hNl, fun a8 h8 hlt8 H8 => ?_⟩)))))
  refine h_sliceUpto (t := t) (s := s) (h_loc H8 (nN _ (uE _ (uV _ (uT _ hN)))) (h_loc H8 (nU _ hN) ⟨h8, tk7, _, _, _, aN, _, tn, u3, rfl, rfl, rfl, H8, ⟨_, S5.get H8 hNs, rfl, eN, rfl⟩, hNl, fun a9 h9 hlt9 H9 => ?_⟩))
  refine h_addLists H9 (H9.get (.tail _ (.head _))) (H9.get (.head _)) (by simp; lia) fun a10 h10 hlt10 H10 => h_store H10 fun h11 tk11 H11 => ?_
  obtain ⟨ord, hord⟩ : ∃ ord : List Nat, ord = (List.range n).drop tn ++ (List.range n).take tn := ⟨_, rfl⟩
  have e1 : ((List.range n).map nv).drop tn ++ ((List.range n).map nv).take tn = ord.map nv := by rw [hord, List.map_append, List.map_drop, List.map_take]
  rw [e1] at H11
  obtain ⟨N, SN, hN, uO, nO⟩ := SN.snoc (SN.put hN (Str.ofString "order") (.ref a10) rfl) (x := Str.ofString "order") (v := .ref a10) rfl
  obtain ⟨m11, hN, H11⟩ := H11.sealed hN
  have hordl : ord.length = n := by rw [hord]; simp; lia
  have hordm : ∀ x, x ∈ ord ↔ x < n := by
    intro x
    rw [hord, List.mem_append, ← List.mem_range]
    constructor
    · rintro (h | h)
      · exact List.mem_of_mem_drop h
      · exact List.mem_of_mem_take h
    · intro h
      rw [← List.take_append_drop tn (List.range n)] at h
      exact (List.mem_append.mp h).symm
  clear H6 H7 H8 H9 H10
  -- return
  refine wpAny_execs_cons (wpAny_Return_some (Tuple_ (spliced_more (h_loc H11 (nN _ (uE _ (uV _ (uT _ (uO _ hN))))) (spliced_more (h_loc H11 (nE _ (uV _ (uT _ (uO _ hN)))) (spliced_more (h_loc H11 (nV _ (uT _ (uO _ hN))) (spliced_more ?_)))))))))
  refine wpAny_BinOp (h_loc H11 (nO _ hN) (h_sliceUpto (t := t) (s := s) (h_loc H11 (nO _ hN) (wpAny_BinOp (wpAny_BinOp (h_loc H11 (nH _ (uC _ (uN _ (uE _ (uV _ (uT _ (uO _ hN))))))) (h_int fun u4 tk12 => h_divN (b := 120) (by decide) (by lia) (by decide) fun u5 tk13 => h_int fun u6 tk14 => h_modN (b := 3) (by decide) fun u7 tk15 =>
    ⟨h11, tk15, _, _, _, a10, _, hd0 / 120 % 3, u7, rfl, rfl, rfl, H11, ⟨_, H11.get (.head _), rfl, 0, rfl⟩, by simp; lia, fun a12 h12 hlt12 H12 => ?_⟩)))))))
  refine h_addLists H12 (H12.get (.tail _ (.head _))) (H12.get (.head _)) (by simp; lia) fun a13 h13 hlt13 H13 => spliced_none (h_newTuple H13 (size_ok (by simp)) fun a14 h14 hlt14 _ H14 => ?_)
  have e2 : ord.map nv ++ (ord.map nv).take (hd0 / 120 % 3) = (ord ++ ord.take (hd0 / 120 % 3)).map nv := by rw [List.map_append, List.map_take]
  rw [e2] at H14
  have H14 := H14.mono (led' := (a14, ({ cls := .type "tuple", data := .seq #[.ref aN, .ref ae, .ref av, .ref a13] } : Obj)) :: (a13, lObj ((ord ++ ord.take (hd0 / 120 % 3)).map nv) 0) :: ld) (memC (.head _) (memC (.tail _ (.head _)) (fun p hp => .tail _ (.tail _ (.tail _ (.tail _ (.tail _ (.tail _ hp))))))))
  obtain ⟨rest, hrest⟩ : ∃ rest, rest = (a14, ({ cls := .type "tuple", data := .seq #[.ref aN, .ref ae, .ref av, .ref a13] } : Obj)) :: (a13, lObj ((ord ++ ord.take (hd0 / 120 % 3)).map nv) 0) :: ld := ⟨_, rfl⟩
  rw [← hrest] at H14
  have H15 := Here.thaw0 (c := c.subC _ _ _ _ _ _) (fl := [(a, lObj us ep)] ++ ((aN, lObj ys eN) :: news ++ led)) H14
  refine hRq _ _ ((rest ++ ((a, lObj us ep) :: (aN, lObj ys eN) :: news)) ++ led) h14 tk15 (H15.mono fun p hp => ?_) fun Hc => ?_
  · rcases List.mem_append.mp hp with hp | hp
    · rcases List.mem_append.mp hp with hp | hp
      · exact List.mem_append_right _ hp
      · rcases List.mem_cons.mp hp with rfl | hp
        · exact List.mem_append_left _ (.head _)
        · exact List.mem_append_left _ (List.mem_append_right _ (List.mem_append_left _ hp))
    · exact List.mem_append_left _ (List.mem_append_right _ (List.mem_append_right _ hp))
  · have hmr : ∀ p ∈ rest, p ∈ rest ++ ((a, lObj us ep) :: (aN, lObj ys eN) :: news) := fun p hp => List.mem_append_left _ hp
    have hmn : ∀ p ∈ (aN, lObj ys eN) :: news, p ∈ rest ++ ((a, lObj us ep) :: (aN, lObj ys eN) :: news) := fun p hp => List.mem_append_right _ (.tail _ hp)
    refine hQ n kd nv E V la' lv' ae av aN a13 a14 (ord ++ ord.take (hd0 / 120 % 3)) (rest ++ ((a, lObj us ep) :: (aN, lObj ys eN) :: news)) eN 0 h14 tk15 hn3 hn7 hkd3 hTok (fun k hk => NmAt.mono (NO k hk) hmn) (by rw [← hys']; exact hmn _ (.head _)) (D.mono fun p hp => hmr _ (by rw [hrest]; exact .tail _ (.tail _ hp))) (hmr _ (by rw [hrest]; exact .tail _ (.head _))) ?_ (by simp; lia) (hmr _ (by rw [hrest]; exact .head _)) ?_ Hc
    · intro x
      rw [List.mem_append, hordm]
      constructor
      · rintro (h | h)
        · exact h
        · exact (hordm x).mp (List.mem_of_mem_take h)
      · intro h; exact .inl h
    · intro p hp q hq
      rcases List.mem_append.mp hq with hq | hq
      · exact H14.D p (List.mem_append_right _ (List.mem_append_right _ hp)) q hq
      · rcases List.mem_cons.mp hq with rfl | hq
        · exact hD4 p hp
        · exact H1.D p hp q (by
            rcases List.mem_cons.mp hq with rfl | hq
            · exact .head _
            · exact .tail _ (List.mem_append_left _ hq))
end
end Mine
end

-- part C24
section
open PySem PySem.W PyProof.Rows PySem.Spec
set_option linter.unusedSectionVars false
set_option linter.unusedVariables false
set_option maxRecDepth 100000
namespace Mine
abbrev tObj (vs : List Value) : Obj := { cls := .type "tuple", data := .seq vs.toArray }
inductive CountP (kd n : Nat) (nv : Nat → Value) (s : Shared) (Q : Value → Shared → Prop) (l : Addr) (is : List Nat) (ep : Nat) (kv : Value) (s₂ : Shared)  : Prop
  | mk : ∀ h₂ tk₂ k, (s₂ = sh s h₂ tk₂) → (kv = nv k) → (k < n) → ((∀ i ∈ is, i < n)) → ((∀ k, k < n → NameIs kd h₂ k (nv k))) → (h₂.get? l = some (lObj (is.map nv) ep)) → (∀ u tk', Q (.int (is.count k : Nat) u) (sh s h₂ tk')) → CountP kd n nv s Q l is ep kv s₂
inductive TupP (w : World) (t : Tp) (s : Shared) (Q : Value → Shared → Prop) (v : Value) (s₁ : Shared)  : Prop
  | mk : ∀ h₁ tk₁ c m led l vs ep, (s₁ = sh s h₁ tk₁) → (v = .ref l) → (Here w t c m led h₁) → (h₁.get? l = some (lObj vs ep)) → (vs.length ≤ 1000000) → (∀ a h' tk', (∀ q ∈ led, q.1 < a) → (∀ q ∈ c.fz, q.1 < a) → Here w t c m ((a, tObj vs) :: led) h' → Q (.ref a) (sh s h' tk')) → TupP w t s Q v s₁
section
variable {prog : Program} {M : Model} {w : World} {t : Tp} {c : Cx} {m : Str → Option Value} {led sl : List (Addr × Obj)} {Er : Value → Shared → Prop} {s : Shared} {h h' : Heap} {A : Around} {env : Env} {kd n : Nat} {nv : Nat → Value}

theorem countP_names {is : List Nat} {k : Nat} (hn : ∀ k, k < n → NameIs kd h k (nv k)) (hk : k < n) (his : ∀ i ∈ is, i < n) : (is.map nv).countP (fun y => decide (y = nv k)) = is.count k := by
  induction is with
  | nil => rfl
  | cons i is ih =>
    have hi := his i List.mem_cons_self
    rw [List.map_cons, List.countP_cons, List.count_cons, ih fun j hj => his j (List.mem_cons_of_mem _ hj)]
    congr 1
    by_cases e : i = k
    · subst e; simp
    · have : nv i ≠ nv k := fun q => e (nv_inj hn hi hk q)
      simp [e, this]

/- xs.count(k) of names -/
theorem h_count {o e : Expr} {apos pos : Pos} {pl : Sem Bool} {Q : Value → Shared → Prop} {s₀ : Shared} (hu : A.units + 1 < cLine)
    (hq : wpAny (model prog w) A (eval o env) (fun ov s₁ => Ex3 fun (l : Addr) (is : List Nat) (ep : Nat) => ov = .ref l ∧ s₁.heap.get? l = some (lObj (is.map nv) ep) ∧ wpAny (model prog w) A (eval e env) (CountP kd n nv s Q l is ep) Er s₁) Er s₀)
    (he : eval (.Call (.Attribute o (Str.ofString "count") apos) [e] [] pos) env = (do
      let ov ← eval o env
      standAt apos.atName
      let (f, first) ← holding [ov] (getMethod ov (Str.ofString "count") pl)
      callWith pos f first (backTo pos (starEach [e] env)) []) := by rfl)
    (hb : backTo pos (starEach [e] env) = [(false, eval e env)] := by rfl) :
    wpAny (model prog w) A (eval (.Call (.Attribute o (Str.ofString "count") apos) [e] [] pos) env) Q Er s₀ := by
  refine MethodCall_ (pl := pl) (wpAny_mono hq ?_ fun _ _ x => x) he
  rintro ov s₁ ⟨l, is, ep, rfl, ho, h₁⟩
  refine getMethod_builtin ⟨_, ho, rfl⟩ PySem.F.plainAttrs_list PySem.F.slot_list_count PySem.F.type_list_count (fun a e => by cases e; exact ⟨_, ho, rfl⟩) ?_
  rw [hb]
  refine method1_meets PySem.F.slot_list_count PySem.F.entry_list_count (wpAny_mono h₁ ?_ fun _ _ x => x)
  rintro kv s₂ ⟨h₂, tk₂, k, rfl, rfl, hk, his, hn, ho₂, hq⟩
  refine ⟨⟨_, ho₂, rfl⟩, PySem.F.args_list_count_2 _ _, _, SeqAt.list_countAt l (is.map nv).toArray ep none #[] (nv k) (fun y => decide (y = nv k)), ho₂, eq_names (s := sh s h₂ tk₂) hu hn hk his, ?_⟩
  show Q _ _
  rw [show (is.map nv).toArray.toList = is.map nv from rfl, countP_names hn hk his]
  exact hq _ _

/- tuple(e) of a list -/
theorem h_tupleOf {c₀ : Cx} {m₀ : Str → Option Value} {led₀ : List (Addr × Obj)} {e : Expr} {p pos : Pos} {Q : Value → Shared → Prop} {h₀ : Heap} {tk₀ : Nat} (H₀ : Here w t c₀ m₀ led₀ h₀)
    (hq : wpAny (model prog w) A (eval e env) (TupP w t s Q) Er (sh s h₀ tk₀))
    (hg : env.globals = mainGlobals := by rfl) (hb : env.builtins = builtinsNs := by rfl) (hk : env.scope.kind = .function := by rfl) (hx : env.kindOf (Str.ofString "tuple") = some .globalImplicit := by rfl) (hse : starEach [e] env = (false, eval e env) :: starEach [] env := by rfl) :
    wpAny (model prog w) A (eval (.Call (.Name (Str.ofString "tuple") p) [e] [] pos) env) Q Er (sh s h₀ tk₀) := by
  refine Call_ (h_bootX H₀ rfl boot_tuple ?_ (by decide) hg hb hk hx)
  have hb : backTo pos (starEach [e] env) = [(false, eval e env)] := by rw [hse]; rfl
  rw [hb]
  refine callWith_type1 (wpAny_mono hq ?_ fun _ _ x => x)
  rintro v s₁ ⟨h₁, tk₁, c, m, led, l, vs, ep, rfl, rfl, H, ho, hsz, k⟩
  refine call_tuple_list (s := sh s h₁ tk₁) ⟨_, ho, rfl, ep, rfl⟩ (fun h' hk => ?_) (size_ok (by simpa using hsz))
  have H' := H.ext hk
  exact k _ _ tk₁ (fun q hq => H'.lt hq) (fun q hq => Heap.lt_size (H'.Z q hq).1) (H'.push _)

/- set(e) -/
theorem h_set {c₀ : Cx} {m₀ : Str → Option Value} {led₀ : List (Addr × Obj)} {e : Expr} {p pos : Pos} {Q : Value → Shared → Prop} {h₀ : Heap} {tk₀ : Nat} (H₀ : Here w t c₀ m₀ led₀ h₀)
    (hq : wpAny (model prog w) A (eval e env) (fun v s₁ => wpAny (model prog w) A (call (.type "set") [v]) Q Er s₁) Er (sh s h₀ tk₀))
    (hg : env.globals = mainGlobals := by rfl) (hb : env.builtins = builtinsNs := by rfl) (hk : env.scope.kind = .function := by rfl) (hx : env.kindOf (Str.ofString "set") = some .globalImplicit := by rfl) (hse : starEach [e] env = (false, eval e env) :: starEach [] env := by rfl) :
    wpAny (model prog w) A (eval (.Call (.Name (Str.ofString "set") p) [e] [] pos) env) Q Er (sh s h₀ tk₀) := by
  refine Call_ (h_bootX H₀ rfl boot_set ?_ (by decide) hg hb hk hx)
  have hb : backTo pos (starEach [e] env) = [(false, eval e env)] := by rw [hse]; rfl
  rw [hb]
  exact callWith_type1 hq

/- one thing has been made and filled; no other has turned -/
theorem h_setOfDict {d : Addr} {es : List (Nat × Value)} {epd tk : Nat} {Q : Value → Shared → Prop} (H : Here w t c m led h) (hu : A.units + 10 < cLine) (hd : h.get? d = some (dObj w kd nv es epd)) (hsys : (d == sysModules) = false) (NO : NamesOk kd nv n sl) (S : St c sl)
    (hnd : (es.map (·.1)).Nodup) (hlt : ∀ p ∈ es, p.1 < n) (hlen : es.length = n) (hsm : n ≤ 7) (hT : ∀ k, k < n → tokOk (nv k))
    (hq : ∀ a o mk h', (∀ q ∈ led, q.1 < a) → SetO w kd nv o (es.map (·.1)) mk → Here w t c m ((a, o) :: led) h' → Q (.ref a) (sh s h' tk)) : wpAny (model prog w) A (call (.type "set") [.ref d]) Q Er (sh s h tk) := by
  refine call_set_by (s := sh s h tk) fun led0 => ?_
  have hdl := Heap.lt_size hd
  have hn : ∀ h', Heap.SameBut h.objs.size (h.push (sObj #[] 0 (.fresh 0 0 led0))) h' → Here w t c m led h' := fun h' hs => H.ext fun b o e => (hs.2 b (Nat.ne_of_lt (Heap.lt_size e))).trans (Heap.get?_push_of_some _ e)
  refine updateFrom_dict (s := sh s (h.push (sObj #[] 0 (.fresh 0 0 led0))) tk) (n := n) (o := sObj #[] 0 (.fresh 0 0 led0)) (by show A.units + 1 + 1 < cLine; lia) (Heap.get?_push_of_some _ hd) (Nat.ne_of_lt hdl) hsys (Heap.get?_push_size _ rfl) (fresh_set led0)
    (fun h' hs => NO.at S (hn h' hs)) hnd hlt hlen hsm hT fun h' o' mk hs ho' SO => ?_
  exact hq _ o' mk h' (fun q hq => H.lt hq) SO (H.pushed (fun b o e => (hs.2 b (Nat.ne_of_lt (Heap.lt_size e))).trans (Heap.get?_push_of_some _ e)) ho')

theorem h_setOfList {l : Addr} {ks : List Nat} {epl tk : Nat} {Q : Value → Shared → Prop} (H : Here w t c m led h) (hu : A.units + 20 < cLine) (hh : A.handled = none) (hl : h.get? l = some (lObj (ks.map nv) epl)) (NO : NamesOk kd nv n sl) (S : St c sl)
    (hnd : ks.Nodup) (hlt : ∀ k ∈ ks, k < n) (hlen : ks.length ≤ n) (hsm : n ≤ 7) (hT : ∀ k, k < n → tokOk (nv k)) (htup : 4 ≤ n → ∃ k' ∈ ks.take 4, (k' + kd) % 3 = 2)
    (hq : ∀ a o mk h' tk', (∀ q ∈ led, q.1 < a) → SetO w kd nv o ks mk → Here w t c m ((a, o) :: led) h' → Q (.ref a) (sh s h' tk')) : wpAny (model prog w) A (call (.type "set") [.ref l]) Q Er (sh s h tk) := by
  refine call_set_by (s := sh s h tk) fun led0 => ?_
  have hll := Heap.lt_size hl
  have hk : ∀ h' : Heap, (∀ b o, b ≠ h.objs.size → (h.push (sObj #[] 0 (.fresh 0 0 led0))).get? b = some o → h'.get? b = some o) → ∀ b o, h.get? b = some o → h'.get? b = some o := fun h' hk b o e => hk b o (Nat.ne_of_lt (Heap.lt_size e)) (Heap.get?_push_of_some _ e)
  refine updateFrom_list (s := sh s (h.push (sObj #[] 0 (.fresh 0 0 led0))) tk) (n := n) (ks := ks) (o := sObj #[] 0 (.fresh 0 0 led0)) (by show A.units + 1 + 1 + 10 < cLine; lia) hh (Heap.get?_push_of_some _ hl) (Nat.ne_of_lt hll) (Heap.get?_push_size _ rfl) (fresh_set led0)
    (fun h' hs => NO.at S (H.ext (hk h' hs))) hnd hlt hlen hsm hT htup fun h' o' mk tk' hs ho' SO => ?_
  exact hq _ o' mk h' tk' (fun q hq => H.lt hq) SO (H.pushed (hk h' hs) ho')
end
end Mine
end

-- part C25
section
open PySem PySem.W PyProof.Rows PySem.Spec
set_option linter.unusedSectionVars false
set_option linter.unusedVariables false
set_option maxRecDepth 100000
namespace Mine

theorem eqvAll_refl {kd : Nat} : ∀ is : List Nat, PyData.eqvAll (is.map (ndat kd)) (is.map (ndat kd)) = true := by
  intro is
  induction is with
  | nil => simp [PyData.eqvAll]
  | cons i is ih => simp [PyData.eqvAll, ndat_eqv, ih]
theorem lay_names {kd : Nat} : ∀ is : List Nat, (∀ i ∈ is, i < 1000) → PyData.canLayAll0 (is.map (ndat kd)) = true ∧ PyData.depthAll (is.map (ndat kd)) ≤ 1 := by
  intro is
  induction is with
  | nil => intro _; simp [PyData.canLayAll0, PyData.depthAll]
  | cons i is ih =>
    intro h
    have h1 := @ndat_lay kd i (h i List.mem_cons_self)
    have h2 := ih fun j hj => h j (List.mem_cons_of_mem _ hj)
    simp only [List.map_cons, PyData.canLayAll0, PyData.depthAll, h1.1, h2.1, Bool.and_self, true_and]
    have := h1.2; have := h2.2; lia
theorem reads_names {kd n : Nat} {h : Heap} {nv : Nat → Value} (hn : ∀ k, k < n → NameIs kd h k (nv k)) : ∀ is : List Nat, (∀ i ∈ is, i < n) → ∃ as, ReadsAll h (is.map nv) (is.map (ndat kd)) as := by
  intro is
  induction is with
  | nil => intro _; exact ⟨_, .nil⟩
  | cons i is ih =>
    intro his
    obtain ⟨as, r⟩ := name_reads (hn i (his i List.mem_cons_self))
    obtain ⟨bs, q⟩ := ih fun j hj => his j (List.mem_cons_of_mem _ hj)
    exact ⟨_, .cons r q⟩

section
variable {prog : Program} {M : Model} {w : World} {t : Tp} {c : Cx} {m : Str → Option Value} {led sl : List (Addr × Obj)} {Er : Value → Shared → Prop} {s : Shared} {h h' : Heap} {A : Around} {env : Env} {kd n : Nat} {nv : Nat → Value}

/- two tuples of the same names -/
theorem eqAt_nameTuples {a b : Addr} {is : List Nat} {ea eb : Nat} (hu : A.units + 64 < cLine) (hn : ∀ k, k < n → NameIs kd s.heap k (nv k)) (hsm : n ≤ 1000) (his : ∀ i ∈ is, i < n)
    (ha : s.heap.get? a = some ({ cls := .type "tuple", data := .seq (is.map nv).toArray ea } : Obj)) (hb : s.heap.get? b = some ({ cls := .type "tuple", data := .seq (is.map nv).toArray eb } : Obj)) : SeqAt.EqAt A s (.ref a) (.ref b) true := by
  obtain ⟨as, r⟩ := reads_names hn is his
  have hl := @lay_names kd is fun i hi => by have := his i hi; lia
  have x := SeqAt.eqAt_reads (.tuple (is.map (ndat kd))) (.tuple (is.map (ndat kd))) A s (.ref a) (.ref b) _ _ (.tuple ha rfl rfl r) (.tuple hb rfl rfl r) (by simp only [PyData.canLay0]; exact hl.1) (by simp only [PyData.canLay0]; exact hl.1) (by
    have : (PyData.tuple (is.map (ndat kd))).depth ≤ 2 := by simp only [PyData.depth]; have := hl.2; lia
    lia)
  have e : PyData.eqv (.tuple (is.map (ndat kd))) (.tuple (is.map (ndat kd))) = true := by simp only [PyData.eqv]; exact eqvAll_refl is
  rw [e] at x
  exact x

theorem samePairs_names {nm : String} {a b : Addr} {ea eb : List (Nat × Value)} {epa epb : Nat} {Q : Bool → Shared → Prop} (hu : A.units < cLine) (ha : (a == sysModules) = false) (hb : (b == sysModules) = false)
    (hn : ∀ k, k < n → NameIs kd s.heap k (nv k)) (hda : s.heap.get? a = some (dObj w kd nv ea epa)) (hdb : s.heap.get? b = some (dObj w kd nv eb epb)) (hlt : ∀ p ∈ ea, p.1 < n) (hndb : (eb.map (·.1)).Nodup) (hltb : ∀ p ∈ eb, p.1 < n) (hlen : ea.length = eb.length)
    (hits : ∀ p ∈ ea, ∃ y, dget eb p.1 = some y ∧ SeqAt.EqAt A s p.2 y true) (h : Q true s) : wpAny (model prog w) A (Builtin.Dict.samePairs nm a b) Q Er s := by
  unfold Builtin.Dict.samePairs Builtin.Dict.showsAll
  rw [if_neg (show ¬ (a == sysModules) = true by rw [ha]; exact Bool.false_ne_true), if_neg (show ¬ (b == sysModules) = true by rw [hb]; exact Bool.false_ne_true)]
  refine wpAny_bind (wpAny_pure (wpAny_bind (wpAny_pure ?_)))
  refine wpAny_bind (wpAny_dictEntries hda rfl ?_)
  dsimp only
  refine wpAny_bind (wpAny_dictEntries hdb rfl ?_)
  have hs1 : (ea.map (dEnt w kd nv)).toArray.size = ea.length := by simp
  have hs2 : (eb.map (dEnt w kd nv)).toArray.size = eb.length := by simp
  rw [hs1, hs2, hlen]
  rw [if_neg (by simp)]
  refine wpAny_bind (wpAny_dictEpoch hda rfl ?_)
  refine wpAny_bind ?_
  rw [Std.Legacy.Range.forIn_eq_forIn_range']
  simp only [Std.Legacy.Range.size, Nat.sub_zero, Nat.add_sub_cancel, Nat.div_one]
  rw [← hlen]
  refine wpAny_forIn_list _ (fun rest q s' => s' = s ∧ q = (none, ()) ∧ ∃ i, rest = List.range' i (ea.length - i) ∧ i ≤ ea.length) _ ?_ ?_ _ _ ⟨rfl, rfl, 0, by simp, Nat.zero_le _⟩
  · rintro x rest q s' ⟨rfl, rfl, i, hr, hi⟩
    have hlt' : i < ea.length := by
      rcases Nat.lt_or_ge i ea.length with h | h
      · exact h
      · rw [Nat.sub_eq_zero_of_le h] at hr; simp at hr
    rw [show ea.length - i = (ea.length - (i + 1)) + 1 by lia, List.range'_succ] at hr
    obtain ⟨rfl, hrest⟩ := List.cons.inj hr
    refine wpAny_bind (wpAny_dictEntries hda rfl ?_)
    have hx : ea[x]? = some ea[x] := by simp [hlt']
    have he : (ea.map (dEnt w kd nv)).toArray[x]? = some (dEnt w kd nv ea[x]) := by rw [List.getElem?_toArray, List.getElem?_map, hx]; rfl
    rw [he]
    have hmem : ea[x] ∈ ea := List.getElem_mem _
    obtain ⟨y, hy, heq⟩ := hits ea[x] hmem
    rw [dget_idx] at hy
    have hkn := hlt _ hmem
    show wpAny _ _ (holding [nv ea[x].1, ea[x].2] _ >>= _) _ _ _
    refine wpAny_bind (wpAny_holding (wpAny_bind (dictFind_names (k := ea[x].1) hu (fun p hp => hn _ (hltb p hp)) (hn _ hkn) hndb hdb ?_)))
    cases hf : eb.findIdx? (fun p => p.1 == ea[x].1) with
    | none => rw [hf] at hy; cases hy
    | some j =>
      rw [hf] at hy
      have hy : eb[j]?.map (·.2) = some y := hy
      obtain ⟨p, hp, hpy⟩ := Option.map_eq_some_iff.mp hy
      refine wpAny_bind (wpAny_dictEntries hdb rfl ?_)
      have he2 : (eb.map (dEnt w kd nv)).toArray[j]? = some (dEnt w kd nv p) := by rw [List.getElem?_toArray, List.getElem?_map, hp]; rfl
      rw [he2]
      refine wpAny_holding ?_
      show wpAny _ _ (eqBool ea[x].2 p.2) _ _ _
      rw [hpy]
      refine heq prog w _ _ ?_
      show wpAny _ _ (if (!true) = true then _ else _) _ _ _
      rw [if_neg (by decide)]
      refine wpAny_bind (wpAny_dictEpoch hda rfl ?_)
      rw [if_neg (by simp)]
      exact wpAny_pure ⟨rfl, rfl, x + 1, hrest, hlt'⟩
  · rintro q s' ⟨rfl, rfl, i, hr, hi⟩
    exact wpAny_pure h

theorem h_neDicts {a b : Addr} {ea eb : List (Nat × Value)} {epa epb tk : Nat} {Q : Value → Shared → Prop} (hu : A.units + 1 < cLine) (ha : (a == sysModules) = false) (hb : (b == sysModules) = false)
    (hn : ∀ k, k < n → NameIs kd h k (nv k)) (hda : h.get? a = some (dObj w kd nv ea epa)) (hdb : h.get? b = some (dObj w kd nv eb epb)) (hlt : ∀ p ∈ ea, p.1 < n) (hndb : (eb.map (·.1)).Nodup) (hltb : ∀ p ∈ eb, p.1 < n) (hlen : ea.length = eb.length)
    (hits : ∀ p ∈ ea, ∃ y, dget eb p.1 = some y ∧ SeqAt.EqAt A.in1 (sh s h tk) p.2 y true) (hq : Q (.bool false) (sh s h tk)) : wpAny (model prog w) A (compareOp .NotEq (.ref a) (.ref b)) Q Er (sh s h tk) := by
  have T1 : (sh s h tk).TypeIs (.ref a) "dict" := ⟨_, hda, rfl⟩
  have T2 : (sh s h tk).TypeIs (.ref b) "dict" := ⟨_, hdb, rfl⟩
  refine wpAny_richCompare_same_room (op := .NotEq) T1 T2 PySem.F.slot_dict_ne (wpAny_call_entry PySem.F.slot_dict_ne T1 PySem.F.entry_dict_ne ?_ (PySem.F.args_dict_ne_2 _ _)) (Nat.lt_of_succ_lt hu)
  show wpAny _ _ (Builtin.Dict.dictSlotArgs "__ne__" ⟨[.ref a, .ref b], []⟩ >>= _) _ _ (sh s h tk)
  refine wpAny_bind ?_
  unfold Builtin.Dict.dictSlotArgs
  refine wpAny_bind (wpAny_notOrdered_dict T1 ?_)
  show wpAny _ _ (pure (Value.ref a, Value.ref b)) _ _ (sh s h tk)
  refine wpAny_pure ?_
  refine wpAny_bind (wpAny_isInstance (T := "dict") T2 PySem.F.sub_dict_dict ?_)
  simp only [Bool.not_true, Bool.false_eq_true, if_false]
  refine wpAny_bind (wpAny_pure (wpAny_bind (wpAny_pure ?_)))
  refine wpAny_bind (samePairs_names (A := A.in1) (s := sh s h tk) hu ha hb hn hda hdb hlt hndb hltb hlen hits ?_)
  exact wpAny_pure ⟨_, rfl, (fun x => nomatch x), hq⟩

theorem fold_rep (v : Value) : ∀ (k : Nat) (acc : List Value), List.foldl (fun x1 x2 => x1 ++ x2) acc.toArray (List.replicate k #[v]) = (acc ++ List.replicate k v).toArray := by
  intro k
  induction k with
  | zero => intro acc; simp
  | succ k ih =>
    intro acc
    rw [List.replicate_succ, List.foldl_cons]
    have e : acc.toArray ++ #[v] = (acc ++ [v]).toArray := by simp
    rw [e, ih, List.append_assoc]; rfl

/- [v] * k -/
theorem h_mul {l : Addr} {v : Value} {ep k tk : Nat} {u : Tok} {Q : Value → Shared → Prop} (H : Here w t c m led h) (hl : h.get? l = some (lObj [v] ep)) (hk : k ≤ 1000)
    (hq : ∀ a h', (∀ q ∈ led, q.1 < a) → Here w t c m ((a, lObj (List.replicate k v) 0) :: led) h' → Q (.ref a) (sh s h' tk)) : wpAny (model prog w) A (binaryOp .Mult (.ref l) (.int (k : Nat) u)) Q Er (sh s h tk) := by
  have hsz2 : [v].toArray.size * (k : Int).toNat ≤ 2 ^ 24 := by
    rw [Int.toNat_natCast]
    show 1 * k ≤ 2 ^ 24
    lia
  have N2 : News c.h₀ c.L h (c.fz ++ led) := fun p hp => (List.mem_append.mp hp).elim (H.Z p) (H.N p)
  refine mul_list (s := sh s h tk) H.F N2 hl (by lia) (by lia) hsz2 fun h' F' N' => ?_
  refine hq _ h' (fun q hq => H.lt hq) ?_
  have e : List.foldl (fun x1 x2 => x1 ++ x2) #[] (List.replicate (if ([v].toArray : Array Value).isEmpty = true then 0 else (k : Int).toNat) [v].toArray) = (List.replicate k v).toArray := by
    rw [if_neg (by simp), Int.toNat_natCast]
    have := fold_rep v k []
    simpa using this
  rw [e] at N'
  refine ⟨H.B, H.X, H.T, F', fun p hp => ?_, H.K, fun p hp => N' p (.tail _ (List.mem_append_left _ hp)), fun p hp q hq => ?_⟩
  · rcases List.mem_cons.mp hp with rfl | hp
    · exact N' _ (.head _)
    · exact N' p (.tail _ (List.mem_append_right _ hp))
  · rcases List.mem_cons.mp hq with rfl | hq
    · exact Nat.ne_of_lt (Heap.lt_size (H.Z p hp).1)
    · exact H.D p hp q hq

/- a def in a def -/
theorem h_def {name : Str} {params : Arguments} {body : List Stmt} {scope : Scope} {pos : Pos} {Q : Flow → Shared → Prop} {tk : Nat} {cd P : Addr} {ps : Array Value} {clos : List (Str × Addr)} (H : Here w t c m led h) (hP : (P, tabObj ps) ∈ led) (C : CodeHd c.h₀ cd P) (hcd : c.ccd = .ref cd)
    (ht : TriplesOk ps.toList) (hnf : codeAmong pos ps.toList = none) (hcl : closureFor scope env = pure clos)
    (hq : ∀ f c' oc vs tq ctv doc pm h' tk', oc.data = .fields vs → vs[1]? = some (.str (qualnameIn env name name) tq) → (∀ q ∈ led, q.1 < c') → (∀ q ∈ c.fz, q.1 < c') → c' < f →
      Here w t c m ((f, fnMade name (qualnameIn env name name) params body scope clos doc pm c' ctv) :: (c', oc) :: lput led P (tabObj (ps ++ #[rawInt pos.line, rawInt pos.col, .ref c']))) h' →
      wpAny M A (storeName env name (.ref f)) (fun _ s'' => Q .next s'') Er (sh s h' tk'))
    (he : env = c.env := by rfl) (hd0 : params.defaults = [] := by rfl) (hk0 : params.kw_defaults = [] := by rfl) (ha : annTrees params none env = [] := by rfl) :
    wpAny M A (exec (.FunctionDef name params body [] none [] scope none name pos) env) Q Er (sh s h tk) := by
  refine nestDef_K hd0 hk0 ha ?_
  have hm := H.N _ hP
  have T := topRead_of H.T
  have hgs := T.g.keeps H.F.keep
  obtain ⟨bm, ob, b1, b2, b3, b4, b5, b6⟩ := H.T.bmain
  have hgP : mainGlobals ≠ P := fun q => by
    obtain ⟨o, es, ep, e, hd, _⟩ := hgs
    rw [q, hm.1] at e; cases e; cases hd
  have hbP : bm ≠ P := fun q => by
    have e := H.F.keep _ _ b3
    rw [q, hm.1] at e; cases e; cases b4
  have hbG : bm ≠ mainGlobals := fun q => by
    obtain ⟨o, es, ep, e, hd, _⟩ := T.g
    rw [q, e] at b3; cases b3; rw [hd] at b6; cases b6
  refine makeFunction_K (s := sh s h tk) (mg := t.mg) (c := cd) (P := P) (ps := ps) hcl (by rw [he]) hgs (by rw [he]; exact hcd) (C.keeps H.F.keep) hm.1 ht hnf hgP ⟨bm, ob, b1, b2, hbG, hbP, H.F.keep _ _ b3, b4, b5, b6⟩ fun c' ctv doc h' tk' hx hge hlt hrec htb => ?_
  obtain ⟨c₂, oc, vs, tq, e2, hoc, hd, hv⟩ := hrec
  cases e2
  have hxk : ∀ b o, b ≠ P → h.get? b = some o → h'.get? b = some o := fun b o hb e => hx b o hb e
  have hPL : P ≠ c.L := H.notL hP
  obtain ⟨oL, es, ep, hL, r⟩ := H.F.ns
  have F' : Fr c.h₀ c.L h' m := ⟨⟨oL, es, ep, hxk _ _ (Ne.symm hPL) hL, r⟩, fun b o e => hxk b o (fun q => by rw [q, hm.2.2] at e; cases e) (H.F.keep b o e), H.F.above⟩
  have H1 : Here w t c m (lput led P (tabObj (ps ++ #[rawInt pos.line, rawInt pos.col, .ref c']))) h' := by
    refine ⟨H.B, H.X, H.T, F', fun p hp => ?_, H.K, fun p hp => ⟨hxk _ _ (H.D p hp _ hP) (H.Z p hp).1, (H.Z p hp).2⟩, fun p hp q hq => ?_⟩
    · rcases lput_mem hp with ⟨r, hr, e1, rfl⟩ | ⟨h1, h2⟩
      · exact ⟨htb, hm.2⟩
      · exact ⟨hxk _ _ h2 (H.N p h1).1, (H.N p h1).2⟩
    · rcases lput_mem hq with ⟨r, hr, e1, rfl⟩ | ⟨h1, h2⟩
      · exact H.D p hp (P, tabObj ps) hP
      · exact H.D p hp q h1
  have hLc : c.L < c' := Nat.lt_of_lt_of_le H.F.ns.lt hge
  have fresh : c.h₀.get? c' = none := Heap.get?_none_of_le (Nat.le_trans H.F.above (Nat.le_of_lt hLc))
  have hledc : ∀ q ∈ led, q.1 < c' := fun q hq => Nat.lt_of_lt_of_le (Heap.lt_size (H.N q hq).1) hge
  have hfzc : ∀ q ∈ c.fz, q.1 < c' := fun q hq => Nat.lt_of_lt_of_le (Heap.lt_size (H.Z q hq).1) hge
  have H2 : Here w t c m ((c', oc) :: lput led P (tabObj (ps ++ #[rawInt pos.line, rawInt pos.col, .ref c']))) h' := by
    refine ⟨H1.B, H1.X, H1.T, H1.F, fun p hp => ?_, H1.K, H1.Z, fun p hp q hq => ?_⟩
    · rcases List.mem_cons.mp hp with rfl | hp
      · exact ⟨hoc, Nat.ne_of_gt hLc, fresh⟩
      · exact H1.N p hp
    · rcases List.mem_cons.mp hq with rfl | hq
      · exact Nat.ne_of_lt (hfzc p hp)
      · exact H1.D p hp q hq
  have H3 := H2.push (fnMade name (qualnameIn env name name) params body scope clos doc ((t.mg "__name__").getD .none) c' ctv)
  exact hq _ c' oc vs tq ctv doc _ _ tk' hd hv hledc hfzc hlt H3
end
end Mine
end

-- part C26
section
open PySem PySem.W PyProof.Rows PySem.Spec
set_option linter.unusedSectionVars false
set_option linter.unusedVariables false
set_option maxRecDepth 100000
namespace Mine
section
variable {prog : Program} {M : Model} {w : World} {t : Tp} {c : Cx} {m : Str → Option Value} {led sl : List (Addr × Obj)} {Er : Value → Shared → Prop} {s : Shared} {h h' : Heap} {A : Around} {env : Env} {kd n : Nat} {nv : Nat → Value}

/- a loop over a list that stays as it is; the name stands in a cell -/
theorem h_forListC {x : Str} {px : Pos} {body : List Stmt} {l aX : Addr} {vs : List Value} {Q : Flow → Shared → Prop} {env : Env} {tk : Nat} (I : Nat → (Str → Option Value) → List (Addr × Obj) → Prop)
    (H : Here w t c m led h) (init : I 0 m led) (hin : ∀ i m₁ led₁ fz h, (∀ p ∈ c.fz, p ∈ fz) → I i m₁ led₁ → Here w t (c.wz fz) m₁ led₁ h → ∃ ep, h.get? l = some (lObj vs ep))
    (hcell : ∀ i m₁ led₁, I i m₁ led₁ → ∃ oX v₀, (aX, oX) ∈ led₁ ∧ oX.data = .cell v₀)
    (turn : ∀ i v m₁ led₁ o' h tk fz (Rz : Flow → Shared → Prop) (hRz : ∀ m₂ led₂ h₂ tk₂, Here w t (c.wz fz) m₂ led₂ h₂ → I (i + 1) m₂ led₂ → Rz .next (sh s h₂ tk₂)), vs[i]? = some v → (∀ p ∈ c.fz, p ∈ fz) → I i m₁ led₁ → o'.data = .cell (some v) → Here w t (c.wz fz) m₁ (lput led₁ aX o') h →
      wpAny (model prog w) A (execs body env) Rz NoE (sh s h tk))
    (done : ∀ m₁ led₁ h tk, I vs.length m₁ led₁ → Here w t c m₁ led₁ h → Q .next (sh s h tk)) (hc : env.cells.lookup x = some aX) (hA : A = c.A := by rfl) (he : env = c.env := by rfl) (hx : env.kindOf x = some .cell := by rfl) :
    wpAny (model prog w) A (pyIter (.ref l)) (fun it s₂ => codeAny (model prog w) A (.forLoop (.Name x px) it body [] env)
      (fun r s' => match r with | .ok f => Q f s' | .error e => cameBackBy (model prog w) A env E e s') s₂) E (sh s h tk) := by
  subst hA he
  obtain ⟨ep, hl⟩ := hin 0 m led c.fz h (fun _ h => h) init H
  have hls : h.IsList l vs.toArray := ⟨_, hl, rfl, ep, rfl⟩
  refine wpAny_pyIter_list (s := sh s h tk) hls ?_
  let J : Nat → Shared → Prop := fun k s' => Ex5 fun i m₁ led₁ h₁ tk => k = vs.length + 1 - i ∧ i ≤ vs.length ∧ s' = sh s h₁ tk ∧ I i m₁ led₁ ∧ ∃ o, o.cls = .type "list_iterator" ∧ o.data = .fields #[.ref l, .int i 0] ∧ Here w t (c.wz ((h.objs.size, o) :: c.fz)) m₁ led₁ h₁
  have hfz : ∀ p ∈ c.fz, p.1 ≠ h.objs.size := fun p hp => Nat.ne_of_lt (Heap.lt_size (H.Z p hp).1)
  refine codeAny_forLoop J ?_ (vs.length + 1) ⟨0, m, led, _, tk, rfl, Nat.zero_le _, rfl, init, itObj l 0, rfl, rfl, ?_⟩
  · rintro k s' ⟨i, m₁, led₁, h₁, tk, rfl, hi, rfl, hI, o₁, hc₁, hd₁, H₁⟩
    have hit : h₁.IsListIter h.objs.size l i := ⟨_, (H₁.Z _ (.head _)).1, hc₁, hd₁⟩
    have hl₁ : h₁.IsList l vs.toArray := by
      obtain ⟨ep₁, hl₁⟩ := hin i m₁ led₁ _ h₁ (fun p hp => List.mem_cons_of_mem _ hp) hI H₁
      exact ⟨_, hl₁, rfl, ep₁, rfl⟩
    rcases Nat.lt_or_eq_of_le hi with hlt | rfl
    · have hv : vs[i]? = some vs[i] := by simp [hlt]
      refine wpAny_pyNext_list_item (s := sh s h₁ tk) hit hl₁ (by rw [List.getElem?_toArray]; exact hv) fun h₂ hit₂ hs₂ => ?_
      obtain ⟨o₂, ho₂, hc₂, hd₂⟩ := hit₂
      have H₂ : Here w t (c.wz ((h.objs.size, o₂) :: c.fz)) m₁ led₁ h₂ := H₁.updZ hfz hs₂ ho₂
      obtain ⟨oX, v₀, hoX, hdX⟩ := hcell i m₁ led₁ hI
      refine wpAny_assign_Name (wpAny_storeName_cell (s := sh s h₂ tk) H₂.K hx hc ⟨oX, H₂.get hoX, hdX⟩ (fun h₃ hn₃ hs₃ => ?_))
      obtain ⟨oX₃, hoX₃, hdX₃⟩ := hn₃
      refine noE (wpAny_mono (turn i vs[i] m₁ led₁ oX₃ h₃ tk _ (TurnP w t _ s (I (i + 1))) (fun _ _ _ _ H hI => ⟨rfl, _, _, _, _, rfl, H, hI⟩) hv (fun p hp => List.mem_cons_of_mem _ hp) hI hdX₃ (H₂.upd hoX hs₃ hoX₃)) ?_ fun _ _ x => x)
      rintro f s' ⟨rfl, m₂, led₂, h₄, tk₄, rfl, H₄, hI₄⟩
      exact ⟨vs.length + 1 - (i + 1), loopDec hlt, i + 1, m₂, led₂, h₄, tk₄, rfl, hlt, rfl, hI₄, o₂, hc₂, hd₂, H₄⟩
    · refine wpAny_pyNext_list_end (s := sh s h₁ tk) rfl hit hl₁ (by simp) fun h₂ hs₂ => ?_
      exact wpAny_execs_nil (done m₁ led₁ h₂ tk hI (H₁.extBut hfz hs₂))
  · have := (H.push (itObj l 0)).freeze fun q hq => Nat.ne_of_lt (Heap.lt_size (H.N q hq).1)
    exact this

/- a name that stands in a cell of this frame or of the block around -/
theorem h_cellv {x : Str} {pos : Pos} {v : Value} {Q : Value → Shared → Prop} {tk : Nat} {a : Addr} {o : Obj} (hc : env.cells.lookup x = some a) (ho : h.get? a = some o) (hv : o.data = .cell (some v)) (hq : Q v (sh s h tk))
    (hk : env.scope.kind = .function := by rfl) (hx : env.kindOf x = some .cell := by rfl) (hd : (x == ("__debug__" : Str)) = false := by decide) : wpAny M A (eval (.Name x pos) env) Q Er (sh s h tk) :=
  wpAny_Name (wpAny_loadName_cell (s := sh s h tk) hk hx hc ⟨o, ho, hv⟩ hq) hd
end
end Mine
end

-- part C28
section
open PySem PySem.W PyProof.Rows PySem.Spec
set_option linter.unusedSectionVars false
set_option linter.unusedVariables false
set_option maxRecDepth 100000
namespace Mine
def lawSt : Option Stmt := PySem.Challenge.pw_qb0002_01.main.body[9]?
def lawB : List Stmt := (lawSt.bind defBody).get (by rfl)
def lawS : Scope := (lawSt.bind defScope).get (by rfl)
abbrev lawCx (g : Heap) (L fa : Addr) : Cx :=
  { dp := 1 + claimMargin + 1, un := 7, gd := some [], cn := Str.ofString "law", cs := lawS, a := fa, ccd := .ref 58, cl := cellsFrom (L + 1) lawS.names [], outer := [], A₀ := callerA, base := g, h₀ := g, L := L, fz := [] }
theorem addr_ne {L : Addr} {a b : Nat} (h : a ≠ b) : L + a ≠ L + b := fun e => h (Nat.add_left_cancel e)
/- what stands still in the law: the drawn things, two cells -/
structure LawD (w : World) (L : Addr) (kd n : Nat) (nv : Nat → Value) (E : Nat → List Nat) (V : Nat → List Int) (la lv : Nat → Addr) (vv : Nat → List Value) (ee e2 : Nat → Nat) (ae av aN aO : Addr) (eN eO : Nat) (es vs : List (Nat × Value)) (order : List Nat) (sl : List (Addr × Obj)) : Prop where
  n3 : 3 ≤ n
  n7 : n ≤ 7
  kd3 : kd < 3
  tok : ∀ k, k < n → tokOk (nv k)
  NO : NamesOk kd nv n sl
  N : (aN, lObj ((List.range n).map nv) eN) ∈ sl
  LE : LDict w kd nv n ae es la (fun k => (E k).map nv) ee sl
  LV : LDict w kd nv n av vs lv vv e2 sl
  hV : ∀ k, k < n → Ints (vv k) (V k)
  en : ∀ k, k < n → ∀ y ∈ E k, y < n
  vf : ∀ k, k < n → Few (V k)
  sz : ∀ k, k < n → (E k).length ≤ 100
  O : (aO, lObj (order.map nv) eO) ∈ sl
  ord : ∀ x, x ∈ order ↔ x < n
  ordl : order.length ≤ 20
  cV : ∃ o, (L + 8, o) ∈ sl ∧ o.data = .cell (some (.ref av))
  cE : ∃ o, (L + 7, o) ∈ sl ∧ o.data = .cell (some (.ref ae))

section
variable {w : World} {L : Addr} {kd n : Nat} {nv : Nat → Value} {E : Nat → List Nat} {V : Nat → List Int} {la lv : Nat → Addr} {vv : Nat → List Value} {ee e2 : Nat → Nat} {ae av aN aO : Addr} {eN eO : Nat} {es vs : List (Nat × Value)} {order : List Nat} {sl : List (Addr × Obj)}

theorem LawD.asked (D : LawD w L kd n nv E V la lv vv ee e2 ae av aN aO eN eO es vs order sl) : G.Asked E V n (n + 1) order :=
  ⟨by have := D.n7; lia, Nat.lt_succ_self n, D.en, fun x hx => (D.vf x hx).1, D.ord⟩

theorem LawD.of {b : Nat} (hn3 : 3 ≤ n) (hn7 : n ≤ 7) (hkd : kd < 3) (hT : ∀ k, k < n → tokOk (nv k)) (NO : NamesOk kd nv n sl) (hN : (aN, lObj ((List.range n).map nv) eN) ∈ sl) (D : DI w kd nv n 100 ae av E V la lv sl) (hO : (aO, lObj (order.map nv) eO) ∈ sl) (hord : ∀ x, x ∈ order ↔ x < n) (hol : order.length ≤ 20)
    (cV : ∃ o, (L + 8, o) ∈ sl ∧ o.data = .cell (some (.ref av))) (cE : ∃ o, (L + 7, o) ∈ sl ∧ o.data = .cell (some (.ref ae))) : Ex5 fun vv ee e2 es vs => LawD w L kd n nv E V la lv vv ee e2 ae av aN aO eN eO es vs order sl := by
  obtain ⟨es, ep, he, hnd, hlt, hg⟩ := D.e
  obtain ⟨vs, ep', he', hnd', hlt', hg'⟩ := D.v
  refine ⟨fun k => if h : k < n then (D.vl k h).choose else [], fun k => if h : k < n then (D.el k h).choose else 0, fun k => if h : k < n then (D.vl k h).choose_spec.choose else 0, es, vs, hn3, hn7, hkd, hT, NO, hN, ⟨⟨ep, he⟩, hnd, hlt, hg, fun k hk => ?_⟩, ⟨⟨ep', he'⟩, hnd', hlt', hg', fun k hk => ?_⟩, fun k hk => ?_, D.en, D.vf, D.sz, hO, hord, hol, cV, cE⟩
  · simp only [hk, dif_pos]; exact (D.el k hk).choose_spec
  · simp only [hk, dif_pos]; exact (D.vl k hk).choose_spec.choose_spec.1
  · simp only [hk, dif_pos]; exact (D.vl k hk).choose_spec.choose_spec.2
end

section
variable {prog : Program} {w : World} {t : Tp} {g : Heap} {L fa : Addr} {s : Shared}
abbrev lawEnd (w : World) (t : Tp) (g : Heap) (L fa : Addr) (s : Shared) (f : Flow) (s' : Shared) : Prop :=
  f = .ret (.bool true) ∧ Ex6 fun m' led' h' tk' d ps => s' = sh { s with drawn := d } h' tk' ∧ Here w t (lawCx g L fa) m' led' h' ∧ (56, tabObj ps) ∈ led'

/- a tuple stored into names and cells -/
theorem law_head {h : Heap} {aS : Addr} {m : Str → Option Value} {tk : Nat} {oV oE oB oA oK oR oW oX : Obj} {vs : List Value} {ns : List Int}
    (H : Here w t (lawCx g L fa) m [(L + 8, oV), (L + 7, oE), (L + 6, oB), (L + 5, oA), (L + 4, oK), (L + 3, oR), (L + 2, oW), (L + 1, oX), (56, tabObj #[])] h)
    (hV : oV.data = .cell none) (hE : oE.data = .cell none)
    (hm : m (Str.ofString "script") = some (.ref aS)) (hS : g.IsList aS vs.toArray) (hi : Ints vs ns) (hlen : vs.length ≤ 63)
    (next : ∀ kd n nv E V la lv vv ee e2 ae av aN aO eN eO es us order fz m h tk, LawD w L kd n nv E V la lv vv ee e2 ae av aN aO eN eO es us order fz → m (Str.ofString "names") = some (.ref aN) → m (Str.ofString "order") = some (.ref aO) →
      Here w t ((lawCx g L fa).wz fz) m [(L + 6, oB), (L + 5, oA), (L + 4, oK), (L + 3, oR), (L + 2, oW), (L + 1, oX), (56, tabObj #[])] h → wpAny (model prog w) (lawCx g L fa).A (execs (lawB.drop 1) (lawCx g L fa).env) (lawEnd w t g L fa s) NoE (sh s h tk)) :
    wpAny (model prog w) (lawCx g L fa).A (execs lawB (lawCx g L fa).env) (lawEnd w t g L fa s) NoE (sh s h tk) := by
  have h56 : (56 : Nat) ≠ L + 8 ∧ (56 : Nat) ≠ L + 7 := by
    have hu : ∀ o a, (a, o) ∈ [(L + 8, oV), (L + 7, oE), (L + 6, oB), (L + 5, oA), (L + 4, oK), (L + 3, oR), (L + 2, oW), (L + 1, oX), ((56 : Nat), tabObj #[])] → o.data = .cell none → (56 : Nat) ≠ a := by
      intro o a ho hd e
      subst e
      have := H.uniq ho (show ((56 : Nat), tabObj #[]) ∈ [(L + 8, oV), (L + 7, oE), (L + 6, oB), (L + 5, oA), (L + 4, oK), (L + 3, oR), (L + 2, oW), (L + 1, oX), ((56 : Nat), tabObj #[])] by simp)
      rw [this] at hd; cases hd
    exact ⟨hu oV _ (.head _) hV, hu oE _ (.tail _ (.head _)) hE⟩
  refine wpAny_execs_cons (Assign_Tuple ?_)
  refine Call_ (h_glob H (v := .ref 33) rfl (h_callArgs H.frag rfl (spliced_more (h_loc H hm (spliced_none ⟨H.frag, ?_⟩)))))
  refine drawn_ok H rfl hS hi (by lia) (by show 1 + claimMargin + 1 < recursionLimit; decide) (by show 7 + 100 < cLine; decide) fun n kd nv E V la lv ae av aN aO aT order news eN eO h1 tk1 hn3 hn7 hkd hT NO hN D hO hord hol hTu hoff H1 => ?_
  have hTup : h1.IsTuple aT #[.ref aN, .ref ae, .ref av, .ref aO] := ⟨_, H1.get (List.mem_append_left _ hTu), rfl, 0, rfl⟩
  refine wpAny_assign_Tuple (s := sh s h1 tk1) rfl hTup rfl rfl fun h2 hk2 => ?_
  have H2 := H1.ext (h' := h2) fun b o e' => hk2 b o (Nat.ne_of_lt (Heap.lt_size e')) e'
  refine assignInOrder_cons (wpAny_assign_Name (h_store H2 fun h3 tk3 H3 => ?_))
  refine assignInOrder_cons (wpAny_assign_Name (h_storeCell H3 (a := L + 7) rfl (List.mem_append_right _ (.tail _ (.head _))) hE (fun oE' h4 hE' H4 => ?_) rfl))
  refine assignInOrder_cons (wpAny_assign_Name (h_storeCell H4 (a := L + 8) (o := oV) rfl (lput_ne (List.mem_append_right _ (.head _)) (addr_ne (by decide))) hV (fun oV' h5 hV' H5 => ?_) rfl))
  refine assignInOrder_cons (wpAny_assign_Name (h_store H5 fun h6 tk6 H6 => ?_))
  refine assignInOrder_nil ?_
  clear H1 H2 H3 H4 H5
  have hn7' : ∀ p ∈ news, p.1 ≠ L + 7 := fun p hp => Ne.symm (hoff _ (.tail _ (.head _)) p hp)
  have hn8' : ∀ p ∈ news, p.1 ≠ L + 8 := fun p hp => Ne.symm (hoff _ (.head _) p hp)
  have H7 := Here.freeze0 (fl := (L + 8, oV') :: (L + 7, oE') :: news) (led := [(L + 6, oB), (L + 5, oA), (L + 4, oK), (L + 3, oR), (L + 2, oW), (L + 1, oX), (56, tabObj #[])]) (H6.mono fun p hp => by
    have old : ∀ p ∈ [(L + 6, oB), (L + 5, oA), (L + 4, oK), (L + 3, oR), (L + 2, oW), (L + 1, oX), ((56 : Nat), tabObj #[])], p.1 ≠ L + 7 ∧ p.1 ≠ L + 8 := by
      refine all7 ?_ ?_ ?_ ?_ ?_ ?_ ?_ <;> first | exact ⟨h56.2, h56.1⟩ | exact ⟨addr_ne (by decide), addr_ne (by decide)⟩
    rcases List.mem_append.mp hp with hp | hp
    · rcases List.mem_cons.mp hp with rfl | hp
      · exact lput_self (o := oV) (lput_ne (List.mem_append_right _ (.head _)) (addr_ne (by decide)))
      · rcases List.mem_cons.mp hp with rfl | hp
        · exact lput_ne (lput_self (o := oE) (List.mem_append_right _ (.tail _ (.head _)))) (addr_ne (by decide))
        · exact lput_ne (b := p.1) (o := p.2) (lput_ne (List.mem_append_left _ hp) (hn7' p hp)) (hn8' p hp)
    · have := old p hp
      exact lput_ne (b := p.1) (o := p.2) (lput_ne (List.mem_append_right _ (.tail _ (.tail _ hp))) this.1) this.2) (fun p hp q hq => by
    have old : ∀ q ∈ [(L + 6, oB), (L + 5, oA), (L + 4, oK), (L + 3, oR), (L + 2, oW), (L + 1, oX), ((56 : Nat), tabObj #[])], q.1 ≠ L + 7 ∧ q.1 ≠ L + 8 := by
      refine all7 ?_ ?_ ?_ ?_ ?_ ?_ ?_ <;> first | exact ⟨h56.2, h56.1⟩ | exact ⟨addr_ne (by decide), addr_ne (by decide)⟩
    rcases List.mem_cons.mp hp with rfl | hp
    · exact Ne.symm (old q hq).2
    · rcases List.mem_cons.mp hp with rfl | hp
      · exact Ne.symm (old q hq).1
      · exact Ne.symm (hoff q (.tail _ (.tail _ hq)) p hp))
  have hsub : ∀ p ∈ news, p ∈ (L + 8, oV') :: (L + 7, oE') :: news := fun p hp => .tail _ (.tail _ hp)
  obtain ⟨vv, ee, e2, es, us, D'⟩ := LawD.of (b := 100) (L := L) hn3 hn7 hkd hT (fun k hk => NmAt.mono (NO k hk) hsub) (hsub _ hN) (D.mono hsub) (hsub _ hO) hord hol ⟨oV', .head _, hV'⟩ ⟨oE', .tail _ (.head _), hE'⟩
  exact next kd n nv E V la lv vv ee e2 ae av aN aO eN eO es us order _ _ h6 tk6 D' rfl rfl H7
end
end Mine
end

-- part C29
section
open PySem PySem.W PyProof.Rows PySem.Spec
set_option linter.unusedSectionVars false
set_option linter.unusedVariables false
set_option maxRecDepth 100000
namespace Mine
section
variable {prog : Program} {w : World} {t : Tp} {g : Heap} {L fa : Addr} {s : Shared} {kd n : Nat} {nv : Nat → Value} {E : Nat → List Nat} {V : Nat → List Int} {la lv : Nat → Addr} {vv : Nat → List Value} {ee e2 : Nat → Nat} {ae av aN aO : Addr} {eN eO : Nat} {es us : List (Nat × Value)} {order : List Nat}

theorem LDict.mono {sl sl' : List (Addr × Obj)} {a : Addr} {es : List (Nat × Value)} {la : Nat → Addr} {vs : Nat → List Value} {ee : Nat → Nat} (D : LDict w kd nv n a es la vs ee sl) (hs : ∀ p ∈ sl, p ∈ sl') : LDict w kd nv n a es la vs ee sl' :=
  ⟨let ⟨ep, h⟩ := D.obj; ⟨ep, hs _ h⟩, D.nd, D.lt, D.get, fun k hk => hs _ (D.lst k hk)⟩
theorem LawD.mono {sl sl' : List (Addr × Obj)} (D : LawD w L kd n nv E V la lv vv ee e2 ae av aN aO eN eO es us order sl) (hs : ∀ p ∈ sl, p ∈ sl') : LawD w L kd n nv E V la lv vv ee e2 ae av aN aO eN eO es us order sl' :=
  ⟨D.n3, D.n7, D.kd3, D.tok, fun k hk => NmAt.mono (D.NO k hk) hs, hs _ D.N, D.LE.mono hs, D.LV.mono hs, D.hV, D.en, D.vf, D.sz, hs _ D.O, D.ord, D.ordl, let ⟨o, h, r⟩ := D.cV; ⟨o, hs _ h, r⟩, let ⟨o, h, r⟩ := D.cE; ⟨o, hs _ h, r⟩⟩
theorem range_at {n i : Nat} {nv : Nat → Value} {v : Value} (hv : ((List.range n).map nv)[i]? = some v) : i < n ∧ nv i = v := by
  rw [List.getElem?_map] at hv
  by_cases h : i < n
  · simp [h] at hv; exact ⟨h, hv⟩
  · simp [h] at hv

/- {x: tuple(edges[x]) for x in names}: the tail -/
theorem keptTail {fz : List (Addr × Obj)} (D : LawD w L kd n nv E V la lv vv ee e2 ae av aN aO eN eO es us order fz) {fz2 : List (Addr × Obj)} (hfz : ∀ p ∈ fz, p ∈ fz2) {m : Str → Option Value} {base : List (Addr × Obj)} {h : Heap} {tk : Nat} {RR : Value → Addr → Result → Shared → Prop} {Er : Value → Shared → Prop} {p1 p2 p3 p4 p5 p6 p7 pos : Pos} {iter : Expr} {scope : Scope}
    (hsc : scope = { kind := ScopeKind.function, names := [(Str.ofString ".0", NameKind.local), (Str.ofString "x", NameKind.local), (Str.ofString "tuple", NameKind.globalImplicit), (Str.ofString "edges", NameKind.free)], isGenerator := false, isCoroutine := false, more := [] })
    (H : Here w t ((lawCx g L fa).wz fz2) m base h)
    (done : ∀ ta nw ak ek h tk C oC mC, FF n ta base → (∀ k, k < n → (ta k, tObj ((E k).map nv)) ∈ nw) → (∀ q ∈ nw ++ base, q.1 ≠ ak) → (∀ p ∈ nw, ∀ q ∈ base, q.1 ≠ p.1) → 1 < ak → NsO C oC mC → (∀ p ∈ fz2, p.1 ≠ C) →
      Here w t ((lawCx g L fa).wz ((C, oC) :: fz2)) m ((ak, dObj w kd nv (row n ta) ek) :: (nw ++ base)) h → RR (.ref ak) C (.ok .next) (sh s h tk)) :
    wpAny (model prog w) (lawCx g L fa).A (pyIter (.ref aN)) (fun it s₂ => wpAny (model prog w) (lawCx g L fa).A newDict (fun acc s₃ =>
      wpAny (model prog w) (lawCx g L fa).A (newFunctionEnv scope (lawCx g L fa).env.globals [(Str.ofString "edges", L + 7)] [] (lawCx g L fa).env.qual none .none (some (lawCx g L fa).env)) (fun cenv s₄ =>
        codeAny (model prog w) (lawCx g L fa).A (.compStart (.DictComp (.Name (Str.ofString "x") p1) (.Call (.Name (Str.ofString "tuple") p2) [.Subscript (.Name (Str.ofString "edges") p3) (.Name (Str.ofString "x") p4) p5] [] p6) [⟨.Name (Str.ofString "x") p7, iter, [], 0⟩] scope pos) 0 it acc { cenv with scope := relabel scope (lawCx g L fa).env }) (RR acc cenv.locals) s₄) Er s₃) Er s₂) Er (sh s h tk) := by
  subst hsc
  have hu1 : (lawCx g L fa).un + 1 < cLine := by show 7 + 1 < cLine; decide
  have hn7 := D.n7
  obtain ⟨oE, hoE, hdE⟩ := D.cE
  refine h_dcompTail (c := (lawCx g L fa).wz fz2) (kd := kd) (nv := nv) (n := n) (vs := (List.range n).map nv) (fun i ds led₁ => ∃ ta nw, led₁ = nw ++ base ∧ ds = row i ta ∧ FF i ta base ∧ (∀ k, k < i → (ta k, tObj ((E k).map nv)) ∈ nw) ∧ (∀ p ∈ nw, ∀ q ∈ base, q.1 ≠ p.1)) H ⟨fun _ => 0, [], rfl, rfl, FF.zero, fun k hk => absurd hk (Nat.not_lt_zero _), by simp⟩ ?_ (by simp; lia) (by show 7 < cLine; decide) ?_ ?_
  · rintro i ds led₁ fz3 h hf _ H₁
    exact ⟨eN, (H₁.Z _ (hf _ (hfz _ D.N))).1⟩
  · rintro i v ds led₁ h tk fz3 C oC mC Rz hRz hv hf hC hNC hmC ⟨ta, nw, rfl, rfl, hF, hta, hoff⟩ H₁
    obtain ⟨hin, rfl⟩ := range_at hv
    have S3 : St ((lawCx g L fa).wz fz3) fz := fun p hp => .inl (hf _ (hfz _ hp))
    refine wpAny_tests_nil ⟨_, h, tk, rfl, H₁, ?_⟩
    rw [if_pos rfl]
    refine h_cloc (c := lawCx g L fa) H₁ hC hNC hmC ?_
    refine h_tupleOf H₁ ?_
    refine h_item (s := s) (kd := kd) (n := n) (nv := nv) hu1 (h_cellv (s := s) (h := h) (a := L + 7) rfl (S3.get H₁ hoE) hdE (h_cloc (c := lawCx g L fa) H₁ hC hNC hmC ⟨h, tk, ae, i, es, _, rfl, rfl, rfl, hin, D.LE.at D.NO S3 H₁, D.LE.get i hin, fun tk2 => ⟨h, tk2, _, _, _, la i, _, ee i, rfl, rfl, H₁, S3.get H₁ (D.LE.lst i hin), ?_, fun a h3 tk3 hlt3 _ H3 => ?_⟩⟩))
    · have := D.sz i hin; rw [List.length_map]; lia
    · refine ⟨_, h3, tk3, i, rfl, rfl, hin, D.NO.at S3 H3, H3, hRz _ _ ⟨G.upd ta i a, (a, tObj ((E i).map nv)) :: nw, rfl, row_put .., hF.snoc hlt3 (fun k hk => ⟨_, hta k hk⟩), ?_, ?_⟩⟩
      · intro k hk
        by_cases e : k = i
        · rw [e, G.upd_self]; exact .head _
        · rw [G.upd_ne _ _ e]; exact .tail _ (hta k (by lia))
      · intro p hp q hq
        rcases List.mem_cons.mp hp with rfl | hp
        · exact Nat.ne_of_lt (hlt3 q (List.mem_append_right _ hq))
        · exact hoff p hp q hq
  · rintro ak ds ek led₁ h tk C oC mC ⟨ta, nw, rfl, rfl, hF, hta, hoff⟩ _ _ hak1 hak hNC hCz H₁
    rw [List.length_map, List.length_range] at hF hta H₁
    exact done ta nw ak ek h tk C oC mC hF hta hak hoff hak1 hNC hCz H₁
end
end Mine
end

-- part C30
section
open PySem PySem.W PyProof.Rows PySem.Spec
set_option linter.unusedSectionVars false
set_option linter.unusedVariables false
set_option maxRecDepth 100000
namespace Mine
section
variable {prog : Program} {w : World} {t : Tp} {g : Heap} {L fa : Addr} {s : Shared} {kd n : Nat} {nv : Nat → Value} {E : Nat → List Nat} {V : Nat → List Int} {la lv : Nat → Addr} {vv : Nat → List Value} {ee e2 : Nat → Nat} {ae av aN aO : Addr} {eN eO : Nat} {es us : List (Nat × Value)} {order : List Nat}

/- the state behind the call of digraph -/
structure LawT (w : World) (L : Addr) (kd n : Nat) (nv : Nat → Value) (E : Nat → List Nat) (order : List Nat) (d : Ad) (σ : G.TS Int) (lo : Nat → Addr) (ta : Nat → Addr) (ak : Addr) (ek : Nat) (oB oA oK oR oW oX : Obj) (tb : Array Value) (fz led : List (Addr × Obj)) : Prop where
  T : TI w kd nv n d σ lo led
  few : Szs σ
  rest : ∀ p ∈ [(L + 4, oK), (L + 3, oR), (L + 2, oW), (L + 1, oX), ((56 : Nat), tabObj tb)], p ∈ led ∧ p.1 ≠ d.aF ∧ p.1 ≠ d.ab ∧ p.1 ≠ d.ar ∧ ∀ i ∈ σ.begun, p.1 ≠ lo i
  cB : (L + 6, oB) ∈ fz ∧ oB.data = .cell (some (.ref d.ab))
  cA : (L + 5, oA) ∈ fz ∧ oA.data = .cell (some (.ref d.ar))
  kept : (ak, dObj w kd nv (row n ta) ek) ∈ fz
  keptL : ∀ k, k < n → (ta k, tObj ((E k).map nv)) ∈ fz
  ak1 : 1 < ak
  aF1 : 1 < d.aF

theorem law_seg1 {fz : List (Addr × Obj)} (D : LawD w L kd n nv E V la lv vv ee e2 ae av aN aO eN eO es us order fz) {m : Str → Option Value} {h : Heap} {tk : Nat} {oB oA oK oR oW oX : Obj} {σ : G.TS Int} (hσ : G.digr E V (n + 1) order = some σ)
    (hmN : m (Str.ofString "names") = some (.ref aN)) (hmO : m (Str.ofString "order") = some (.ref aO)) (hB : oB.data = .cell none) (hA : oA.data = .cell none) (C : CodeHd g 58 56)
    (H : Here w t ((lawCx g L fa).wz fz) m [(L + 6, oB), (L + 5, oA), (L + 4, oK), (L + 3, oR), (L + 2, oW), (L + 1, oX), (56, tabObj #[])] h)
    (next : ∀ d lo ta ak ek oB' oA' tb fz' m' led' h' tk', (∀ p ∈ fz, p ∈ fz') → LawT w L kd n nv E order d σ lo ta ak ek oB' oA' oK oR oW oX tb fz' led' → m' (Str.ofString "names") = some (.ref aN) → m' (Str.ofString "order") = some (.ref aO) → m' (Str.ofString "kept") = some (.ref ak) → m' (Str.ofString "told") = some (.ref d.aF) →
      Here w t ((lawCx g L fa).wz fz') m' led' h' → wpAny (model prog w) (lawCx g L fa).A (execs (lawB.drop 7) (lawCx g L fa).env) (lawEnd w t g L fa s) NoE (sh s h' tk')) :
    wpAny (model prog w) (lawCx g L fa).A (execs (lawB.drop 1) (lawCx g L fa).env) (lawEnd w t g L fa s) NoE (sh s h tk) := by
  -- kept
  refine wpAny_execs_cons (h_assignDictComp (cl := [(Str.ofString "edges", L + 7)]) rfl rfl (by decide) (h_loc H hmN (keptTail D (fun p h => h) rfl H (fun ta nw ak ek h1 tk1 aC oC mC hF hta hak hoff hak1 hNC hCz H1 => compEnd_use (c := (lawCx g L fa).wz fz) hNC hCz H1 fun h2 tk2 H2 => ?_))))
  clear H1
  have H3 := Here.freezeAll (c := lawCx g L fa) (fl := (ak, dObj w kd nv (row n ta) ek) :: nw) (fz := fz) (led := [(L + 6, oB), (L + 5, oA), (L + 4, oK), (L + 3, oR), (L + 2, oW), (L + 1, oX), (56, tabObj #[])]) H2 (by
    intro p hp q hq
    rcases List.mem_cons.mp hp with rfl | hp
    · exact Ne.symm (hak q (List.mem_append_right _ hq))
    · exact Ne.symm (hoff p hp q hq))
  clear H2
  obtain ⟨fz1, hfz1⟩ : ∃ fz1, fz1 = (ak, dObj w kd nv (row n ta) ek) :: nw ++ fz := ⟨_, rfl⟩
  rw [← hfz1] at H3
  have hkept : (ak, dObj w kd nv (row n ta) ek) ∈ fz1 := by rw [hfz1]; exact .head _
  have hkeptL : ∀ k, k < n → (ta k, tObj ((E k).map nv)) ∈ fz1 := fun k hk => by rw [hfz1]; exact .tail _ (List.mem_append_left _ (hta k hk))
  have hfzs : ∀ p ∈ fz, p ∈ fz1 := fun p hp => by rw [hfz1]; exact .tail _ (List.mem_append_right _ hp)
  clear hfz1 hF hta hak hoff hNC hCz
  -- begun, asked
  refine wpAny_execs_cons (wpAny_Assign_Name (List_ (spliced_none (h_newList H3 (by decide) fun ab h4 hlt4 hltz4 H4 => h_storeCell H4 (a := L + 6) rfl (.tail _ (.head _)) hB (fun oB' h5 hB' H5 => ?_) rfl))))
  refine wpAny_execs_cons (wpAny_Assign_Name (List_ (spliced_none (h_newList H5 (by decide) fun ar h6 hlt6 hltz6 H6 => ?_))))
  refine h_storeCell H6 (a := L + 5) (o := oA) rfl (.tail _ (lput_ne (.tail _ (.tail _ (.head _))) (addr_ne (by decide)))) hA (fun oA' h7 hA' H7 => ?_) rfl
  have n56 : ∀ {a : Addr} {o : Obj}, (a, o) ∈ [(L + 6, oB), (L + 5, oA), (L + 4, oK), (L + 3, oR), (L + 2, oW), (L + 1, oX), ((56 : Nat), tabObj #[])] → o.data = .cell none → (56 : Nat) ≠ a := by
    intro a o ho hd
    refine H3.ne (o := tabObj #[]) (o' := o) (by repeat constructor) ho ?_
    intro e; rw [← e] at hd; cases hd
  have h565 : (56 : Nat) ≠ L + 5 := n56 (.tail _ (.head _)) hA
  have h566 : (56 : Nat) ≠ L + 6 := n56 (.head _) hB
  have hab : ∀ q ∈ [(L + 6, oB), (L + 5, oA), (L + 4, oK), (L + 3, oR), (L + 2, oW), (L + 1, oX), ((56 : Nat), tabObj #[])], ab ≠ q.1 := fun q hq => Ne.symm (Nat.ne_of_lt (hlt4 q hq))
  have har : ∀ q ∈ lput ((ab, lObj [] 0) :: [(L + 6, oB), (L + 5, oA), (L + 4, oK), (L + 3, oR), (L + 2, oW), (L + 1, oX), ((56 : Nat), tabObj #[])]) (L + 6) oB', ar ≠ q.1 := fun q hq => Ne.symm (Nat.ne_of_lt (hlt6 q hq))
  have harb : ab ≠ ar := Ne.symm (har (ab, lObj [] 0) (lput_ne (.head _) (hab _ (.head _))))
  have H8 := H7.mono (led' := [(ar, lObj [] 0), (ab, lObj [] 0), (L + 6, oB'), (L + 5, oA'), (L + 4, oK), (L + 3, oR), (L + 2, oW), (L + 1, oX), ((56 : Nat), tabObj #[])]) (by
    have old : ∀ p ∈ [(L + 4, oK), (L + 3, oR), (L + 2, oW), (L + 1, oX), ((56 : Nat), tabObj #[])], p.1 ≠ L + 5 ∧ p.1 ≠ L + 6 := by
      refine all5 ?_ ?_ ?_ ?_ ?_ <;> first | exact ⟨h565, h566⟩ | exact ⟨addr_ne (by decide), addr_ne (by decide)⟩
    intro p hp
    rcases List.mem_cons.mp hp with rfl | hp
    · exact lput_ne (.head _) (har (L + 5, oA) (lput_ne (.tail _ (.tail _ (.head _))) (addr_ne (by decide))))
    rcases List.mem_cons.mp hp with rfl | hp
    · exact lput_ne (.tail _ (lput_ne (.head _) (hab _ (.head _)))) (hab _ (.tail _ (.head _)))
    rcases List.mem_cons.mp hp with rfl | hp
    · exact lput_ne (.tail _ (lput_self (o := oB) (.tail _ (.head _)))) (addr_ne (by decide))
    rcases List.mem_cons.mp hp with rfl | hp
    · exact lput_self (o := oA) (.tail _ (lput_ne (.tail _ (.tail _ (.head _))) (addr_ne (by decide))))
    · have := old p hp
      exact lput_ne (b := p.1) (o := p.2) (.tail _ (lput_ne (.tail _ (.tail _ (.tail _ hp))) this.2)) this.1)
  clear H4 H5 H6 H7
  -- first, related
  refine wpAny_execs_cons (h_def (P := 56) (ps := #[]) H8 (by repeat constructor) C rfl True.intro rfl rfl (fun f1 c1 oc1 vs1 tq1 ctv1 doc1 pm1 h9 tk9 hd1 hv1 hlt9 hltz9 hcf9 H9 => h_store H9 fun h10 tk10 H10 => ?_))
  have hL56 : ∀ i, (56 : Nat) ≠ L + i := fun i => Nat.ne_of_lt (Nat.lt_of_lt_of_le (Nat.lt_of_lt_of_le (Nat.lt_trans (by decide) (Heap.lt_size (H.X 59 _ rfl))) H.F.above) (Nat.le_add_right L i))
  have hab56 : ab ≠ 56 := hab (56, tabObj #[]) (by repeat constructor)
  have har56 : ar ≠ 56 := har (56, tabObj #[]) (lput_ne (by repeat constructor) h566)
  have low : ∀ (i : Nat) (o : Obj) (tb : Array Value) (x : List (Addr × Obj)), (L + i, o) ∈ x → (L + i, o) ∈ lput x 56 (tabObj tb) := fun i o tb x hx => lput_ne hx (Ne.symm (hL56 i))
  have nrm : ∀ (tb tb' : Array Value) (p : Addr × Obj), p ∈ [(ar, lObj [] 0), (ab, lObj [] 0), (L + 6, oB'), (L + 5, oA'), (L + 4, oK), (L + 3, oR), (L + 2, oW), (L + 1, oX), ((56 : Nat), tabObj tb')] → p ∈ lput [(ar, lObj [] 0), (ab, lObj [] 0), (L + 6, oB'), (L + 5, oA'), (L + 4, oK), (L + 3, oR), (L + 2, oW), (L + 1, oX), ((56 : Nat), tabObj tb)] 56 (tabObj tb') := by
    intro tb tb' p hp
    refine all9 ?_ ?_ ?_ ?_ ?_ ?_ ?_ ?_ ?_ p hp
    · exact lput_ne (by repeat constructor) har56
    · exact lput_ne (by repeat constructor) hab56
    · exact low _ _ _ _ (by repeat constructor)
    · exact low _ _ _ _ (by repeat constructor)
    · exact low _ _ _ _ (by repeat constructor)
    · exact low _ _ _ _ (by repeat constructor)
    · exact low _ _ _ _ (by repeat constructor)
    · exact low _ _ _ _ (by repeat constructor)
    · exact lput_self (o := tabObj tb) (by repeat constructor)
  generalize hO1 : fnMade _ _ _ _ _ _ _ _ _ _ = O1 at H10
  generalize htb1 : (#[] ++ #[rawInt _, rawInt _, Value.ref c1] : Array Value) = tb1 at H10
  have H11 := H10.mono (led' := (f1, _) :: (c1, oc1) :: [(ar, lObj [] 0), (ab, lObj [] 0), (L + 6, oB'), (L + 5, oA'), (L + 4, oK), (L + 3, oR), (L + 2, oW), (L + 1, oX), ((56 : Nat), tabObj tb1)]) (memC (.head _) (memC (.tail _ (.head _)) (fun p hp => .tail _ (.tail _ (nrm _ _ p hp)))))
  have hP1 : ((56 : Nat), tabObj tb1) ∈ [(ar, lObj [] 0), (ab, lObj [] 0), (L + 6, oB'), (L + 5, oA'), (L + 4, oK), (L + 3, oR), (L + 2, oW), (L + 1, oX), ((56 : Nat), tabObj tb1)] := by simp
  refine wpAny_execs_cons (h_def (P := 56) (ps := tb1) H11 (.tail _ (.tail _ hP1)) C rfl (by rw [← htb1]; simp [TriplesOk, rawInt]) (by rw [← htb1]; simp [codeAmong, rawInt]) rfl (fun f2 c2 oc2 vs2 tq2 ctv2 doc2 pm2 h12 tk12 hd2 hv2 hlt12 hltz12 hcf12 H12 => h_store H12 fun h13 tk13 H13 => ?_))
  generalize htb2 : (tb1 ++ #[rawInt _, rawInt _, Value.ref c2] : Array Value) = tb2 at H13
  generalize hO2 : fnMade _ _ _ _ _ _ _ _ _ _ = O2 at H13
  have hx9 : ∀ q ∈ [(ar, lObj [] 0), (ab, lObj [] 0), (L + 4, oK), (L + 3, oR), (L + 2, oW), (L + 1, oX), ((56 : Nat), tabObj tb2)], q.1 < c1 ∧ q.1 < c2 ∧ q.1 ≠ L + 6 ∧ q.1 ≠ L + 5 := by
    have a1 : ∀ {a : Addr} {o : Obj}, (a, o) ∈ [(ar, lObj [] 0), (ab, lObj [] 0), (L + 6, oB'), (L + 5, oA'), (L + 4, oK), (L + 3, oR), (L + 2, oW), (L + 1, oX), ((56 : Nat), tabObj #[])] → a < c1 := fun h => hlt9 _ h
    have a2 : ∀ {a : Addr} {o : Obj}, (a, o) ∈ [(ar, lObj [] 0), (ab, lObj [] 0), (L + 6, oB'), (L + 5, oA'), (L + 4, oK), (L + 3, oR), (L + 2, oW), (L + 1, oX), ((56 : Nat), tabObj tb1)] → a < c2 := fun h => hlt12 _ (.tail _ (.tail _ h))
    refine all7 ?_ ?_ ?_ ?_ ?_ ?_ ?_
    · exact ⟨a1 (o := lObj [] 0) (by repeat constructor), a2 (o := lObj [] 0) (by repeat constructor), har (L + 6, oB') (lput_self (o := oB) (by repeat constructor)), har (L + 5, oA) (lput_ne (by repeat constructor) (addr_ne (by decide)))⟩
    · exact ⟨a1 (o := lObj [] 0) (by repeat constructor), a2 (o := lObj [] 0) (by repeat constructor), hab (L + 6, oB) (by repeat constructor), hab (L + 5, oA) (by repeat constructor)⟩
    · exact ⟨a1 (o := oK) (by repeat constructor), a2 (o := oK) (by repeat constructor), addr_ne (by decide), addr_ne (by decide)⟩
    · exact ⟨a1 (o := oR) (by repeat constructor), a2 (o := oR) (by repeat constructor), addr_ne (by decide), addr_ne (by decide)⟩
    · exact ⟨a1 (o := oW) (by repeat constructor), a2 (o := oW) (by repeat constructor), addr_ne (by decide), addr_ne (by decide)⟩
    · exact ⟨a1 (o := oX) (by repeat constructor), a2 (o := oX) (by repeat constructor), addr_ne (by decide), addr_ne (by decide)⟩
    · exact ⟨a1 (o := tabObj #[]) (by repeat constructor), a2 (o := tabObj tb1) (by repeat constructor), hL56 6, hL56 5⟩
  have H14 := Here.freezeAll (c := lawCx g L fa) (fl := [(f2, O2), (c2, oc2), (f1, O1), (c1, oc1), (L + 6, oB'), (L + 5, oA')]) (fz := fz1) (led := [(ar, lObj [] 0), (ab, lObj [] 0), (L + 4, oK), (L + 3, oR), (L + 2, oW), (L + 1, oX), ((56 : Nat), tabObj tb2)]) (H13.mono fun p hp => by
    have low1 : ∀ q ∈ [(f1, O1), (c1, oc1)], q ∈ lput ((f1, O1) :: (c1, oc1) :: [(ar, lObj [] 0), (ab, lObj [] 0), (L + 6, oB'), (L + 5, oA'), (L + 4, oK), (L + 3, oR), (L + 2, oW), (L + 1, oX), ((56 : Nat), tabObj tb1)]) 56 (tabObj tb2) := by
      have hc1 : c1 ≠ 56 := Nat.ne_of_gt (hx9 ((56 : Nat), tabObj tb2) (by repeat constructor)).1
      have hf1 : f1 ≠ 56 := Nat.ne_of_gt (Nat.lt_trans (hx9 ((56 : Nat), tabObj tb2) (by repeat constructor)).1 hcf9)
      refine all2 ?_ ?_
      · exact lput_ne (.head _) hf1
      · exact lput_ne (.tail _ (.head _)) hc1
    have low2 : ∀ q ∈ [(ar, lObj [] 0), (ab, lObj [] 0), (L + 6, oB'), (L + 5, oA'), (L + 4, oK), (L + 3, oR), (L + 2, oW), (L + 1, oX), ((56 : Nat), tabObj tb2)], q ∈ lput ((f1, O1) :: (c1, oc1) :: [(ar, lObj [] 0), (ab, lObj [] 0), (L + 6, oB'), (L + 5, oA'), (L + 4, oK), (L + 3, oR), (L + 2, oW), (L + 1, oX), ((56 : Nat), tabObj tb1)]) 56 (tabObj tb2) := fun q hq => .tail _ (.tail _ (nrm tb1 tb2 q hq))
    rcases List.mem_append.mp hp with hp | hp
    · refine all6 ?_ ?_ ?_ ?_ ?_ ?_ p hp
      · exact .head _
      · exact .tail _ (.head _)
      · exact .tail _ (.tail _ (low1 _ (.head _)))
      · exact .tail _ (.tail _ (low1 _ (.tail _ (.head _))))
      · exact .tail _ (.tail _ (low2 _ (.tail _ (.tail _ (.head _)))))
      · exact .tail _ (.tail _ (low2 _ (.tail _ (.tail _ (.tail _ (.head _))))))
    · refine .tail _ (.tail _ (low2 _ ?_))
      rcases List.mem_cons.mp hp with rfl | hp
      · exact .head _
      rcases List.mem_cons.mp hp with rfl | hp
      · exact .tail _ (.head _)
      · exact .tail _ (.tail _ (.tail _ (.tail _ hp)))) (fun p hp q hq => by
    obtain ⟨b1, b2, b3, b4⟩ := hx9 q hq
    refine all6 (P := fun p => p.1 ≠ q.1) ?_ ?_ ?_ ?_ ?_ ?_ p hp
    · exact Nat.ne_of_gt (Nat.lt_trans b2 hcf12)
    · exact Nat.ne_of_gt b2
    · exact Nat.ne_of_gt (Nat.lt_trans b1 hcf9)
    · exact Nat.ne_of_gt b1
    · exact Ne.symm b3
    · exact Ne.symm b4)
  clear H8 H9 H10 H11 H12 H13
  obtain ⟨fz2, hfz2⟩ : ∃ fz2, fz2 = [(f2, O2), (c2, oc2), (f1, O1), (c1, oc1), (L + 6, oB'), (L + 5, oA')] ++ fz1 := ⟨_, rfl⟩
  rw [← hfz2] at H14
  have hs1 : ∀ p ∈ fz1, p ∈ fz2 := fun p hp => by rw [hfz2]; exact List.mem_append_right _ hp
  have m2 : ∀ p ∈ [(f2, O2), (c2, oc2), (f1, O1), (c1, oc1), (L + 6, oB'), (L + 5, oA')], p ∈ fz2 := fun p hp => by rw [hfz2]; exact List.mem_append_left _ hp
  have D2 := D.mono fun p hp => hs1 p (hfzs p hp)
  have S2 : St ((lawCx g L fa).wz fz2) fz2 := fun p hp => .inl hp
  obtain ⟨oV, hoV, hdV⟩ := D2.cV
  obtain ⟨oE, hoE, hdE⟩ := D2.cE
  have FP : FPok prog w t kd n nv V fz2 ab f1 := first_ok (cB := L + 6) (cV := L + 8) (c' := c1) (fo := O1) (oc := oc1) D2.NO D2.LV D2.hV D2.vf (m2 _ (by repeat constructor)) hB' hoV hdV (m2 _ (by repeat constructor)) (by rw [← hO1]; rfl) (m2 _ (by repeat constructor)) hd1 hv1 rfl rfl
  have RR : Rok prog w t n nv la fz2 ar f2 := related_ok (cR := L + 5) (cE := L + 7) (c' := c2) (fo := O2) (oc := oc2) D2.NO D2.LE (m2 _ (by repeat constructor)) hA' hoE hdE (m2 _ (by repeat constructor)) (by rw [← hO2]; rfl) (m2 _ (by repeat constructor)) hd2 hv2 rfl rfl
  -- told
  refine wpAny_execs_cons (wpAny_Assign_Name (Call_ (h_glob H14 (v := .ref 21) rfl (h_callArgs H14.frag rfl (spliced_more (h_loc H14 (v := .ref aO) hmO ?_))))))
  refine spliced_more (h_loc H14 (v := .ref f2) rfl (spliced_more (h_loc H14 (v := .ref f1) rfl (spliced_none ⟨H14.frag, ?_⟩))))
  have hn7 := D.n7
  refine digr_ok D2.NO D2.en (by lia) D2.ord D2.LE.lst FP RR (m2 (f1, O1) (by repeat constructor)) (by rw [← hO1]) (m2 (f2, O2) (by repeat constructor)) (by rw [← hO2]) D2.vf D2.O hσ H14 S2 (epb := 0) (epr := 0) (by repeat constructor) (by repeat constructor) harb (by show 1 + claimMargin + 1 + (n + 1) + 3 < recursionLimit; have : claimMargin = 300 := rfl; have : recursionLimit = 1000 := rfl; lia) (by show 7 + 8 * (n + 1) + 110 < cLine; have : cLine = 9900 := rfl; lia) ?_
  intro d lo led' h15 tk15 hdab hdar hltF H15 T Z hkeep hlo
  refine h_store H15 fun h16 tk16 H16 => ?_
  refine next d lo ta ak ek oB' oA' tb2 fz2 (mset (mset (mset (mset m (Str.ofString "kept") (.ref ak)) (Str.ofString "first") (.ref f1)) (Str.ofString "related") (.ref f2)) (Str.ofString "told") (.ref d.aF)) led' h16 tk16 (fun p hp => hs1 p (hfzs p hp)) ⟨T, Z, ?_, ⟨m2 _ (by repeat constructor), by rw [hdab]; exact hB'⟩, ⟨m2 _ (by repeat constructor), by rw [hdar]; exact hA'⟩, hs1 _ hkept, fun k hk => hs1 _ (hkeptL k hk), hak1, ?_⟩ hmN hmO rfl rfl H16
  · intro p hp
    have hp' : p ∈ [(ar, lObj [] 0), (ab, lObj [] 0), (L + 4, oK), (L + 3, oR), (L + 2, oW), (L + 1, oX), ((56 : Nat), tabObj tb2)] := .tail _ (.tail _ hp)
    have hpab : p.1 ≠ ab := by
      refine all5 (P := fun p => p.1 ≠ ab) ?_ ?_ ?_ ?_ ?_ p hp
      · exact Ne.symm (hab (L + 4, oK) (by repeat constructor))
      · exact Ne.symm (hab (L + 3, oR) (by repeat constructor))
      · exact Ne.symm (hab (L + 2, oW) (by repeat constructor))
      · exact Ne.symm (hab (L + 1, oX) (by repeat constructor))
      · exact Ne.symm hab56
    have hpar : p.1 ≠ ar := by
      have hl : ∀ (i : Nat) (o : Obj), i ≠ 6 → (L + i, o) ∈ [(L + 4, oK), (L + 3, oR), (L + 2, oW), (L + 1, oX)] → ar ≠ L + i := fun i o hi ho => har (L + i, o) (lput_ne (.tail _ (.tail _ (.tail _ (List.mem_append_left [((56 : Nat), tabObj #[])] ho)))) (addr_ne hi))
      refine all5 (P := fun p => p.1 ≠ ar) ?_ ?_ ?_ ?_ ?_ p hp
      · exact Ne.symm (hl 4 oK (by decide) (by repeat constructor))
      · exact Ne.symm (hl 3 oR (by decide) (by repeat constructor))
      · exact Ne.symm (hl 2 oW (by decide) (by repeat constructor))
      · exact Ne.symm (hl 1 oX (by decide) (by repeat constructor))
      · exact Ne.symm har56
    exact ⟨hkeep p hp' hpab hpar, Nat.ne_of_lt (hltF p hp'), by rw [hdab]; exact hpab, by rw [hdar]; exact hpar, fun i hi => hlo i hi p hp'⟩
  · exact Nat.lt_trans (show (1 : Nat) < 56 by decide) (hltF ((56 : Nat), tabObj tb2) (by repeat constructor))
end
end Mine
end

-- part C31
section
open PySem PySem.W PyProof.Rows PySem.Spec
set_option linter.unusedSectionVars false
set_option linter.unusedVariables false
set_option maxRecDepth 100000
namespace Mine
section
variable {prog : Program} {w : World} {t : Tp} {g : Heap} {L fa : Addr} {s : Shared} {kd n : Nat} {nv : Nat → Value} {E : Nat → List Nat} {V : Nat → List Int} {la lv : Nat → Addr} {vv : Nat → List Value} {ee e2 : Nat → Nat} {ae av aN aO : Addr} {eN eO : Nat} {es us : List (Nat × Value)} {order : List Nat}

theorem sys_no {a : Addr} (h : 1 < a) : (a == sysModules) = false := by
  show (a == 1) = false
  rw [beq_eq_false_iff_ne]; exact Nat.ne_of_gt h
theorem perm_len {ks : List Nat} {n : Nat} (hnd : ks.Nodup) (hks : ∀ k, k ∈ ks ↔ k < n) : ks.length = n := by
  have := (List.perm_ext_iff_of_nodup hnd (List.nodup_range (n := n))).mpr fun k => by rw [hks, List.mem_range]
  simpa using this.length_eq

theorem law_seg2a {fz : List (Addr × Obj)} (D : LawD w L kd n nv E V la lv vv ee e2 ae av aN aO eN eO es us order fz) {m : Str → Option Value} {led : List (Addr × Obj)} {h : Heap} {tk : Nat} {d : Ad} {σ : G.TS Int} {lo ta : Nat → Addr} {ak : Addr} {ek : Nat} {oB oA oK oR oW oX : Obj} {tb : Array Value} (LT : LawT w L kd n nv E order d σ lo ta ak ek oB oA oK oR oW oX tb fz led)
    (hbm : ∀ k, k ∈ σ.begun ↔ k < n) (hmN : m (Str.ofString "names") = some (.ref aN)) (hmK : m (Str.ofString "kept") = some (.ref ak)) (hmT : m (Str.ofString "told") = some (.ref d.aF))
    (H : Here w t ((lawCx g L fa).wz fz) m led h)
    (next : ∀ dr h' tk', Here w t ((lawCx g L fa).wz fz) m led h' → wpAny (model prog w) (lawCx g L fa).A (execs (lawB.drop 8) (lawCx g L fa).env) (lawEnd w t g L fa s) NoE (sh { s with drawn := dr } h' tk')) :
    wpAny (model prog w) (lawCx g L fa).A (execs (lawB.drop 7) (lawCx g L fa).env) (lawEnd w t g L fa s) NoE (sh s h tk) := by
  have S : St ((lawCx g L fa).wz fz) fz := fun p hp => .inl hp
  have hn3 := D.n3
  have hn7 := D.n7
  obtain ⟨epF, hF⟩ := LT.T.F
  have hbl := perm_len LT.T.nd hbm
  refine wpAny_execs_cons (wpAny_If (isTrue_or (wpAny_isTrue_Compare1 (h_set H (h_loc H hmT ?_)))))
  refine h_setOfDict (n := n) H (by show 7 + 10 < cLine; decide) (H.get hF) (sys_no LT.aF1) D.NO S (by rw [fes_keys]; exact LT.T.nd) (fun p hp => ?_) (by rw [← hbl]; unfold fes; simp) hn7 D.tok fun a1 o1 mk1 h1 hlt1 S1 H1 => ?_
  · have : p.1 ∈ (fes σ lo).map (·.1) := List.mem_map.mpr ⟨p, hp, rfl⟩
    rw [fes_keys] at this; exact (hbm _).mp this
  rw [fes_keys] at S1
  refine h_set H1 (h_loc H1 hmN (h_setOfList (n := n) (ks := List.range n) H1 (by show 7 + 20 < cLine; decide) rfl (S.get H1 D.N) D.NO S List.nodup_range (fun k hk => List.mem_range.mp hk) (by simp) hn7 D.tok (fun h4 => ?_) fun a2 o2 mk2 h2 tk2 hlt2 S2 H2 => ?_))
  · have h0 : (0 + kd) % 3 = 2 ∨ (1 + kd) % 3 = 2 ∨ (2 + kd) % 3 = 2 := by lia
    have hm : ∀ i, i < 4 → i ∈ (List.range n).take 4 := fun i hi => by
      rw [List.take_range, List.mem_range]; lia
    rcases h0 with h0 | h0 | h0
    · exact ⟨0, hm 0 (by lia), h0⟩
    · exact ⟨1, hm 1 (by lia), h0⟩
    · exact ⟨2, hm 2 (by lia), h0⟩
  refine ne_sets (s := sh s h2 tk2) (n := n) (kd := kd) (nv := nv) (by show 7 + 1 < cLine; decide) (H2.get (.tail _ (.head _))) (H2.get (.head _)) S1 S2 (D.NO.at S H2) hbm (fun k => List.mem_range) LT.T.nd List.nodup_range hn3 hn7 D.tok fun dr => wpAny_truthy_bool ?_
  have H3 := H2.mono (led' := led) fun p hp => .tail _ (.tail _ hp)
  clear H1 H2
  show wpAny _ _ (isTrue _ _ _) _ _ (sh { s with drawn := dr } h2 tk2)
  refine isTrue_or (wpAny_isTrue_Compare1 ?_)
  refine h_dictComp (cl := [(Str.ofString "edges", L + 7)]) rfl rfl (by decide) (h_loc (s := { s with drawn := dr }) H3 hmN (keptTail (s := { s with drawn := dr }) D (fun p h => h) rfl H3 (fun ta' nw ak' ek' h4 tk4 aC oC mC hF' hta hak hoff hak1 hNC hCz H4 => compEnd_none (c := (lawCx g L fa).wz fz) hNC hCz H4 fun h5 H5 => ?_)))
  refine h_loc (s := { s with drawn := dr }) H5 hmK ?_
  refine h_neDicts (s := { s with drawn := dr }) (n := n) (ea := row n ta') (eb := row n ta) (by show 7 + 1 < cLine; decide) (sys_no hak1) (sys_no LT.ak1) (D.NO.at S H5) (H5.get (.head _)) (S.get H5 LT.kept) row_lt (by rw [row_keys]; exact List.nodup_range) row_lt (by unfold row; simp) (fun p hp => ?_) (wpAny_truthy_bool ?_)
  · obtain ⟨k, hk, rfl⟩ := List.mem_map.mp hp
    have hk := List.mem_range.mp hk
    refine ⟨_, row_get hk, ?_⟩
    exact eqAt_nameTuples (s := sh { s with drawn := dr } h5 tk4) (n := n) (kd := kd) (nv := nv) (is := E k) (by show 7 + 1 + 64 < cLine; decide) (D.NO.at S H5) (by lia) (D.en k hk) (H5.get (.tail _ (List.mem_append_left _ (hta k hk)))) (S.get H5 (LT.keptL k hk))
  show wpAny _ _ (isTrue _ _ _) _ _ (sh { s with drawn := dr } h5 tk4)
  refine isTrue_or_nil ?_
  refine wpAny_execs_nil ?_
  exact next dr h5 tk4 (H5.mono fun p hp => .tail _ (List.mem_append_right _ hp))
end
end Mine
end

-- part C32
section
open PySem PySem.W PyProof.Rows PySem.Spec
set_option linter.unusedSectionVars false
set_option linter.unusedVariables false
set_option maxRecDepth 100000
namespace Mine

def pair11 : PyData := .tuple [.int 1, .int 1]
theorem reads_rep {h : Heap} {T : PyData} : ∀ ys : List Value, (∀ y ∈ ys, ∃ as, Reads h y T as) → ∃ as, ReadsAll h ys (List.replicate ys.length T) as := by
  intro ys
  induction ys with
  | nil => intro _; exact ⟨_, .nil⟩
  | cons y ys ih =>
    intro hy
    obtain ⟨as, r⟩ := hy y List.mem_cons_self
    obtain ⟨bs, q⟩ := ih fun z hz => hy z (List.mem_cons_of_mem _ hz)
    exact ⟨_, .cons r q⟩
theorem eqv_rep {T : PyData} (hT : PyData.eqv T T = true) : ∀ n, PyData.eqvAll (List.replicate n T) (List.replicate n T) = true := by
  intro n
  induction n with
  | zero => simp [PyData.eqvAll]
  | succ n ih => simp [List.replicate_succ, PyData.eqvAll, hT, ih]
theorem lay_rep {T : PyData} (hT : T.canLay0 = true) (hd : T.depth ≤ 10) : ∀ n, PyData.canLayAll0 (List.replicate n T) = true ∧ PyData.depthAll (List.replicate n T) ≤ 10 := by
  intro n
  induction n with
  | zero => simp [PyData.canLayAll0, PyData.depthAll]
  | succ n ih =>
    simp only [List.replicate_succ, PyData.canLayAll0, PyData.depthAll, hT, ih.1, Bool.and_self, true_and]
    have := ih.2; lia

section
variable {prog : Program} {w : World} {t : Tp} {g : Heap} {L fa : Addr} {s : Shared} {kd n : Nat} {nv : Nat → Value} {E : Nat → List Nat} {V : Nat → List Int} {la lv : Nat → Addr} {vv : Nat → List Value} {ee e2 : Nat → Nat} {ae av aN aO : Addr} {eN eO : Nat} {es us : List (Nat × Value)} {order : List Nat}

theorem law_seg2b {fz : List (Addr × Obj)} (D : LawD w L kd n nv E V la lv vv ee e2 ae av aN aO eN eO es us order fz) {m : Str → Option Value} {led : List (Addr × Obj)} {h : Heap} {tk : Nat} {d : Ad} {σ : G.TS Int} {lo ta : Nat → Addr} {ak : Addr} {ek : Nat} {oB oA oK oR oW oX : Obj} {tb : Array Value} (LT : LawT w L kd n nv E order d σ lo ta ak ek oB oA oK oR oW oX tb fz led)
    (hbm : ∀ k, k ∈ σ.begun ↔ k < n) (hmN : m (Str.ofString "names") = some (.ref aN))
    (H : Here w t ((lawCx g L fa).wz fz) m led h)
    (next : ∀ h' tk', Here w t ((lawCx g L fa).wz fz) m led h' → wpAny (model prog w) (lawCx g L fa).A (execs (lawB.drop 9) (lawCx g L fa).env) (lawEnd w t g L fa s) NoE (sh s h' tk')) :
    wpAny (model prog w) (lawCx g L fa).A (execs (lawB.drop 8) (lawCx g L fa).env) (lawEnd w t g L fa s) NoE (sh s h tk) := by
  have S : St ((lawCx g L fa).wz fz) fz := fun p hp => .inl hp
  have hn7 := D.n7
  have hu1 : (lawCx g L fa).un + 1 < cLine := by show 7 + 1 < cLine; decide
  obtain ⟨epB, hB⟩ := LT.T.B
  obtain ⟨epR, hR⟩ := LT.T.R
  have hbl : ∀ i ∈ σ.begun, i < n := fun i hi => (hbm i).mp hi
  refine wpAny_execs_cons (wpAny_If (wpAny_isTrue_Compare1 ?_))
  refine h_listComp (cl := [(Str.ofString "begun", L + 6), (Str.ofString "asked", L + 5)]) rfl rfl (by decide) (h_loc H hmN ?_)
  refine h_compTail (c := (lawCx g L fa).wz fz) (vs := (List.range n).map nv) (fun i ys led₁ => ∃ nw, led₁ = nw ++ led ∧ ys.length = i ∧ ∀ y ∈ ys, Ex3 fun a u1 u2 => y = .ref a ∧ (a, tObj [.int 1 u1, .int 1 u2]) ∈ nw) H ⟨[], rfl, rfl, by simp⟩ ?_ (by simp; lia) ?_ ?_
  · rintro i ys led₁ fz3 h hf _ H₁
    exact ⟨eN, (H₁.Z _ (hf _ D.N)).1⟩
  · rintro i v ys led₁ h tk fz3 C oC mC Rz hRz hv hf hC hNC hmC ⟨nw, rfl, hyl, hys⟩ H₁
    obtain ⟨hin, rfl⟩ := range_at hv
    have S3 : St ((lawCx g L fa).wz fz3) fz := fun p hp => .inl (hf _ hp)
    have hc1 : σ.begun.count i = 1 := by rw [LT.T.nd.count, if_pos ((hbm i).mpr hin)]
    refine wpAny_tests_nil ⟨_, h, tk, rfl, H₁, ?_⟩
    rw [if_pos rfl]
    refine Tuple_ (spliced_more ?_)
    refine h_count (s := s) (kd := kd) (n := n) (nv := nv) hu1 (h_cellv (s := s) (h := h) (a := L + 6) rfl (S3.get H₁ LT.cB.1) LT.cB.2 ⟨d.ab, σ.begun, epB, rfl, H₁.get (List.mem_append_right _ hB), h_cloc (c := lawCx g L fa) H₁ hC hNC hmC ⟨h, tk, i, rfl, rfl, hin, hbl, D.NO.at S3 H₁, H₁.get (List.mem_append_right _ hB), fun u1 tk1 => ?_⟩⟩)
    refine spliced_more ?_
    refine h_count (s := s) (kd := kd) (n := n) (nv := nv) hu1 (h_cellv (s := s) (h := h) (a := L + 5) rfl (S3.get H₁ LT.cA.1) LT.cA.2 ⟨d.ar, σ.begun, epR, rfl, H₁.get (List.mem_append_right _ hR), h_cloc (c := lawCx g L fa) H₁ hC hNC hmC ⟨h, tk1, i, rfl, rfl, hin, hbl, D.NO.at S3 H₁, H₁.get (List.mem_append_right _ hR), fun u2 tk2 => ?_⟩⟩)
    rw [hc1]
    refine spliced_none (h_newTuple H₁ (size_ok (by simp)) fun a h3 hlt3 _ H3 => ⟨_, h3, tk2, rfl, H3, hRz _ _ ⟨(a, _) :: nw, rfl, by simp [hyl], fun y hy => ?_⟩⟩)
    rcases List.mem_append.mp hy with hy | hy
    · obtain ⟨a', v1, v2, e, hm⟩ := hys y hy
      exact ⟨a', v1, v2, e, .tail _ hm⟩
    · exact ⟨a, u1, u2, by simpa using hy, .head _⟩
  · rintro al ys el led₁ h1 tk1 C oC mC ⟨nw, rfl, hyl, hys⟩ hla hNC hCz H₁
    rw [List.length_map, List.length_range] at hyl
    refine compEnd_none (c := (lawCx g L fa).wz fz) hNC hCz H₁ fun h2 H2 => ?_
    refine wpAny_BinOp (List_ (spliced_more (Tuple_ (spliced_more (h_int (s := s) (h := h2) (tk := tk1) fun u1 tk2 => spliced_more (h_int fun u2 tk3 => spliced_none (h_newTuple H2 (size_ok (by simp)) fun at' h3 hlt3 _ H3 => ?_)))))))
    refine spliced_none (h_newList H3 (size_ok (by simp)) fun am h4 hlt4 _ H4 => ?_)
    refine h_len H4 (h_loc H4 hmN ⟨h4, tk3, aN, _, eN, rfl, rfl, S.get H4 D.N, by simp; lia, fun u3 tk4 => ?_⟩)
    rw [List.length_map, List.length_range]
    refine h_mul H4 (H4.get (.head _)) (by lia) fun ap h5 hlt5 H5 => ?_
    have hget : ∀ {p}, p ∈ (at', tObj [.int 1 u1, .int 1 u2]) :: (al, lObj ys el) :: (nw ++ led) → h5.get? p.1 = some p.2 := fun {p} hp => H5.get (a := p.1) (o := p.2) (.tail _ (.tail _ hp))
    have r1 : ∀ y ∈ ys, ∃ as, Reads h5 y pair11 as := by
      intro y hy
      obtain ⟨a', v1, v2, rfl, hm⟩ := hys y hy
      exact ⟨_, .tuple (hget (.tail _ (.tail _ (List.mem_append_left _ hm)))) rfl rfl (.cons (.int _ _) (.cons (.int _ _) .nil))⟩
    have r2 : ∀ y ∈ List.replicate n (Value.ref at'), ∃ as, Reads h5 y pair11 as := by
      intro y hy
      rw [(List.mem_replicate.mp hy).2]
      exact ⟨_, .tuple (hget (.head _)) rfl rfl (.cons (.int _ _) (.cons (.int _ _) .nil))⟩
    obtain ⟨as, q1⟩ := reads_rep ys r1
    obtain ⟨bs, q2⟩ := reads_rep _ r2
    rw [hyl] at q1
    rw [List.length_replicate] at q2
    have hT : pair11.canLay0 = true := by decide +kernel
    have hTd : pair11.depth ≤ 10 := by decide +kernel
    have hl := lay_rep hT hTd n
    have hsh : SeqAt.shaped (.list (List.replicate n pair11)) = true := by
      unfold SeqAt.shaped
      rw [Bool.and_eq_true]
      refine ⟨by simp only [PyData.canLay0]; exact hl.1, ?_⟩
      rw [decide_eq_true_eq]
      have h2 := hl.2
      simp only [PyData.depth]
      lia
    refine SeqAt.compareNe_shaped (s := sh s h5 tk4) (.list (H5.get (.tail _ (.tail _ (.tail _ (.head _))))) rfl rfl q1) (.list (H5.get (.head _)) rfl rfl q2) hsh hsh (by show 7 + 64 < cLine; decide) ?_
    rw [show PyData.eqv (.list (List.replicate n pair11)) (.list (List.replicate n pair11)) = true by simp only [PyData.eqv]; exact eqv_rep (by decide +kernel) n]
    refine wpAny_truthy_bool ?_
    refine wpAny_execs_nil ?_
    exact next h5 tk4 (H5.mono fun p hp => .tail _ (.tail _ (.tail _ (.tail _ (List.mem_append_right _ hp)))))
end
end Mine
end

-- part C33
section
open PySem PySem.W PyProof.Rows PySem.Spec
set_option linter.unusedSectionVars false
set_option linter.unusedVariables false
set_option maxRecDepth 100000
namespace Mine
section
variable {prog : Program} {w : World} {t : Tp} {g : Heap} {L fa : Addr} {s : Shared} {kd n : Nat} {nv : Nat → Value} {E : Nat → List Nat} {V : Nat → List Int} {la lv : Nat → Addr} {vv : Nat → List Value} {ee e2 : Nat → Nat} {ae av aN aO : Addr} {eN eO : Nat} {es us : List (Nat × Value)} {order : List Nat}

abbrev lists (n : Nat) (lo : Nat → Addr) (uo : Nat → List Value) (eo : Nat → Nat) : List (Addr × Obj) := (List.range n).map fun i => (lo i, lObj (uo i) (eo i))

theorem Here.bigL {c : Cx} {m : Str → Option Value} {led : List (Addr × Obj)} {h : Heap} (H : Here w t c m led h) : 59 < c.L := Nat.lt_of_lt_of_le (Heap.lt_size (H.X 59 _ rfl)) H.F.above

/- walk = []; for x in order: _law_walked(x, edges, walk) -/
theorem law_seg3a {fz : List (Addr × Obj)} (D : LawD w L kd n nv E V la lv vv ee e2 ae av aN aO eN eO es us order fz) {m : Str → Option Value} {h : Heap} {tk : Nat} {oK oR oW oX : Obj} {tb : Array Value} (hW : oW.data = .cell none) (hX : ∃ v, oX.data = .cell v)
    (hmO : m (Str.ofString "order") = some (.ref aO))
    (H : Here w t ((lawCx g L fa).wz fz) m [(L + 4, oK), (L + 3, oR), (L + 2, oW), (L + 1, oX), ((56 : Nat), tabObj tb)] h)
    (next : ∀ aW eW oW' oX' h' tk', oW'.data = .cell (some (.ref aW)) → (∃ v, oX'.data = .cell v) → Here w t ((lawCx g L fa).wz ((aW, lObj ((G.walkL E (n + 1) order).map nv) eW) :: (L + 2, oW') :: fz)) m [(L + 4, oK), (L + 3, oR), (L + 1, oX'), ((56 : Nat), tabObj tb)] h' →
      wpAny (model prog w) (lawCx g L fa).A (execs (lawB.drop 11) (lawCx g L fa).env) (lawEnd w t g L fa s) NoE (sh s h' tk')) :
    wpAny (model prog w) (lawCx g L fa).A (execs (lawB.drop 9) (lawCx g L fa).env) (lawEnd w t g L fa s) NoE (sh s h tk) := by
  have hn7 := D.n7
  have hL56 : ∀ i, (56 : Nat) ≠ L + i := fun i => Nat.ne_of_lt (Nat.lt_of_lt_of_le (Nat.lt_trans (by decide) H.bigL) (Nat.le_add_right L i))
  refine wpAny_execs_cons (wpAny_Assign_Name (List_ (spliced_none (h_newList H (by decide) fun aW h1 hlt1 hltz1 H1 => h_storeCell H1 (a := L + 2) (o := oW) rfl (.tail _ (.tail _ (.tail _ (.head _)))) hW (fun oW' h2 hW' H2 => ?_) rfl))))
  have hne : ∀ q ∈ [(L + 4, oK), (L + 3, oR), (L + 2, oW), (L + 1, oX), ((56 : Nat), tabObj tb)], aW ≠ q.1 := fun q hq => Ne.symm (Nat.ne_of_lt (hlt1 q hq))
  have n4 : aW ≠ L + 4 := hne (L + 4, oK) (by repeat constructor)
  have n3 : aW ≠ L + 3 := hne (L + 3, oR) (by repeat constructor)
  have n2 : aW ≠ L + 2 := hne (L + 2, oW) (by repeat constructor)
  have n1 : aW ≠ L + 1 := hne (L + 1, oX) (by repeat constructor)
  have n5 : aW ≠ 56 := hne ((56 : Nat), tabObj tb) (by repeat constructor)
  have H3 := H2.mono (led' := [(aW, lObj [] 0), (L + 4, oK), (L + 3, oR), (L + 2, oW'), (L + 1, oX), ((56 : Nat), tabObj tb)]) (by
    refine all6 ?_ ?_ ?_ ?_ ?_ ?_
    · exact lput_ne (by repeat constructor) n2
    · exact lput_ne (by repeat constructor) (addr_ne (by decide))
    · exact lput_ne (by repeat constructor) (addr_ne (by decide))
    · exact lput_self (o := oW) (by repeat constructor)
    · exact lput_ne (by repeat constructor) (addr_ne (by decide))
    · exact lput_ne (by repeat constructor) (hL56 2))
  clear H1 H2
  have D' := D.asked
  have S : St ((lawCx g L fa).wz fz) fz := fun p hp => .inl hp
  refine wpAny_execs_cons (wpAny_For (h_loc H3 hmO ?_))
  refine h_forListC (c := (lawCx g L fa).wz fz) (aX := L + 1) (vs := order.map nv) (fun i m₁ led₁ => m₁ = m ∧ Ex3 fun mi ep oX' => (∀ p ∈ [(aW, lObj (mi.map nv) ep), (L + 4, oK), (L + 3, oR), (L + 2, oW'), (L + 1, oX'), ((56 : Nat), tabObj tb)], p ∈ led₁) ∧ (∃ v, oX'.data = .cell v) ∧ (∀ i ∈ mi, i < n) ∧ mi.Nodup ∧ (order.drop i).foldlM (fun m y => G.walked E (n + 1) y m) mi = some (G.walkL E (n + 1) order)) H3
    ⟨rfl, [], 0, oX, fun p hp => hp, hX, by simp, .nil, by simpa using D'.walk⟩ ?_ ?_ ?_ ?_ rfl
  · rintro i m₁ led₁ fz3 h hf _ H₁
    exact ⟨eO, (H₁.Z _ (hf _ D.O)).1⟩
  · rintro i m₁ led₁ ⟨_, mi, ep, oX', hsub, ⟨v, hv⟩, _⟩
    exact ⟨oX', v, hsub _ (by repeat constructor), hv⟩
  · rintro i v m₁ led₁ o' h tk₁ fz3 Rz hRz hv hf ⟨rfl, mi, ep, oX', hsub, _, hmi, hnd, hfo⟩ hd' H₁
    obtain ⟨y, hy, rfl⟩ : ∃ y, order[i]? = some y ∧ nv y = v := by simpa [List.getElem?_map] using hv
    have hyn : y < n := (D.ord y).mp (List.mem_of_getElem? hy)
    have S3 : St ((lawCx g L fa).wz fz3) fz := fun p hp => .inl (hf _ hp)
    have hdrop : order.drop i = y :: order.drop (i + 1) := by
      obtain ⟨hl, e⟩ := List.getElem?_eq_some_iff.mp hy
      rw [← e]; exact List.drop_eq_getElem_cons hl
    rw [hdrop, List.foldlM_cons] at hfo
    cases e1 : G.walked E (n + 1) y mi with
    | none => rw [e1] at hfo; cases hfo
    | some m2 =>
    rw [e1] at hfo
    have hsp := (G.walked_spec _ _ _ _ e1).2
    have hsub2 : ∀ p ∈ [(aW, lObj (mi.map nv) ep), (L + 4, oK), (L + 3, oR), (L + 2, oW'), (L + 1, o'), ((56 : Nat), tabObj tb)], p ∈ lput led₁ (L + 1) o' := by
      refine all6 ?_ ?_ ?_ ?_ ?_ ?_
      · exact lput_ne (hsub _ (by repeat constructor)) n1
      · exact lput_ne (hsub _ (by repeat constructor)) (addr_ne (by decide))
      · exact lput_ne (hsub _ (by repeat constructor)) (addr_ne (by decide))
      · exact lput_ne (hsub _ (by repeat constructor)) (addr_ne (by decide))
      · exact lput_self (o := oX') (hsub _ (by repeat constructor))
      · exact lput_ne (hsub _ (by repeat constructor)) (hL56 1)
    obtain ⟨oE, hoE, hdE⟩ := D.cE
    have hmW : (aW, lObj (mi.map nv) ep) ∈ lput led₁ (L + 1) o' := hsub2 _ (by repeat constructor)
    refine wpAny_execs_cons (wpAny_Expr_any (Call_ (h_glob H₁ (v := .ref 40) rfl (h_callArgs H₁.frag rfl (spliced_more (h_cellv (s := s) (h := h) (a := L + 1) rfl (H₁.get (hsub2 (L + 1, o') (by repeat constructor))) hd' ?_))))))
    refine spliced_more (h_cellv (s := s) (h := h) (a := L + 7) rfl (S3.get H₁ hoE) hdE (spliced_more (h_cellv (s := s) (h := h) (a := L + 2) rfl (H₁.get (hsub2 (L + 2, oW') (by repeat constructor))) hW' (spliced_none ⟨H₁.frag, ?_⟩))))
    refine walked_ok D.NO D.LE D.en (by lia) (n + 1) y mi m2 e1 _ _ _ _ _ _ _ _ aW ep _ H₁ rfl S3 hyn hmi hnd hmW (by show 1 + claimMargin + 1 + (n + 1) < recursionLimit; have : claimMargin = 300 := rfl; have : recursionLimit = 1000 := rfl; lia) (by show 7 + 8 * (n + 1) + 70 < cLine; have : cLine = 9900 := rfl; lia) ?_
    intro ep2 h2 tk2 H2
    refine wpAny_execs_nil (hRz _ _ h2 tk2 H2 ⟨rfl, m2, ep2, o', ?_, ⟨_, hd'⟩, ?_, hsp.nodup hnd, hfo⟩)
    · refine all6 ?_ ?_ ?_ ?_ ?_ ?_
      · exact lput_self hmW
      · exact lput_ne (hsub2 _ (by repeat constructor)) (Ne.symm n4)
      · exact lput_ne (hsub2 _ (by repeat constructor)) (Ne.symm n3)
      · exact lput_ne (hsub2 _ (by repeat constructor)) (Ne.symm n2)
      · exact lput_ne (hsub2 _ (by repeat constructor)) (Ne.symm n1)
      · exact lput_ne (hsub2 _ (by repeat constructor)) (Ne.symm n5)
    · intro i hi
      rcases hsp.from_ i hi with h | h
      · exact hmi i h
      · exact h.under D.en hyn
  · rintro m₁ led₁ h tk₁ ⟨rfl, mi, ep, oX', hsub, hX', hmi, hnd, hfo⟩ H₁
    rw [List.drop_eq_nil_of_le (by simp)] at hfo
    have e : mi = G.walkL E (n + 1) order := by simpa using hfo
    subst e
    refine next aW ep oW' oX' h tk₁ hW' hX' ?_
    refine Here.freezeAll (c := lawCx g L fa) (fl := [(aW, lObj ((G.walkL E (n + 1) order).map nv) ep), (L + 2, oW')]) (fz := fz) (led := [(L + 4, oK), (L + 3, oR), (L + 1, oX'), ((56 : Nat), tabObj tb)]) (H₁.mono fun p hp => ?_) ?_
    · rcases List.mem_append.mp hp with hp | hp
      · refine all2 ?_ ?_ p hp <;> exact hsub _ (by repeat constructor)
      · refine all4 ?_ ?_ ?_ ?_ p hp <;> exact hsub _ (by repeat constructor)
    · intro p hp q hq
      refine all2 (P := fun p => p.1 ≠ q.1) ?_ ?_ p hp
      · exact all4 (P := fun q => aW ≠ q.1) n4 n3 n1 n5 q hq
      · exact all4 (P := fun q => L + 2 ≠ q.1) (addr_ne (by decide)) (addr_ne (by decide)) (addr_ne (by decide)) (Ne.symm (hL56 2)) q hq
end
end Mine
end

-- part C34
section
open PySem PySem.W PyProof.Rows PySem.Spec
set_option linter.unusedSectionVars false
set_option linter.unusedVariables false
set_option maxRecDepth 100000
namespace Mine
section
variable {prog : Program} {w : World} {t : Tp} {g : Heap} {L fa : Addr} {s : Shared} {kd n : Nat} {nv : Nat → Value} {E : Nat → List Nat} {V : Nat → List Int} {la lv : Nat → Addr} {vv : Nat → List Value} {ee e2 : Nat → Nat} {ae av aN aO : Addr} {eN eO : Nat} {es us : List (Nat × Value)} {order : List Nat}

/- reach = {x: _law_walked(x, edges, []) for x in names} -/
theorem law_seg3b {fz : List (Addr × Obj)} (D : LawD w L kd n nv E V la lv vv ee e2 ae av aN aO eN eO es us order fz) {m : Str → Option Value} {h : Heap} {tk : Nat} {oK oR oX : Obj} {tb : Array Value} (hR : oR.data = .cell none)
    (hmN : m (Str.ofString "names") = some (.ref aN))
    (H : Here w t ((lawCx g L fa).wz fz) m [(L + 4, oK), (L + 3, oR), (L + 1, oX), ((56 : Nat), tabObj tb)] h)
    (next : ∀ ra aR eR oR' fz' h' tk', (∀ p ∈ fz, p ∈ fz') → (aR, dObj w kd nv (row n ra) eR) ∈ fz' → (∀ k, k < n → ∃ ep, (ra k, lObj ((G.reach E (n + 1) k).map nv) ep) ∈ fz') → (L + 3, oR') ∈ fz' → oR'.data = .cell (some (.ref aR)) →
      Here w t ((lawCx g L fa).wz fz') m [(L + 4, oK), (L + 1, oX), ((56 : Nat), tabObj tb)] h' →
      wpAny (model prog w) (lawCx g L fa).A (execs (lawB.drop 12) (lawCx g L fa).env) (lawEnd w t g L fa s) NoE (sh s h' tk')) :
    wpAny (model prog w) (lawCx g L fa).A (execs (lawB.drop 11) (lawCx g L fa).env) (lawEnd w t g L fa s) NoE (sh s h tk) := by
  have hn7 := D.n7
  have hL56 : ∀ i, (56 : Nat) ≠ L + i := fun i => Nat.ne_of_lt (Nat.lt_of_lt_of_le (Nat.lt_trans (by decide) H.bigL) (Nat.le_add_right L i))
  have D' := D.asked
  obtain ⟨oE, hoE, hdE⟩ := D.cE
  obtain ⟨base, hbase⟩ : ∃ base, base = [(L + 4, oK), (L + 3, oR), (L + 1, oX), ((56 : Nat), tabObj tb)] := ⟨_, rfl⟩
  refine wpAny_execs_cons (wpAny_Assign_Name ?_)
  refine h_dictComp (cl := [(Str.ofString "edges", L + 7)]) rfl rfl (by decide) (h_loc H hmN ?_)
  rw [← hbase] at H
  refine h_dcompTail (c := (lawCx g L fa).wz fz) (kd := kd) (nv := nv) (n := n) (vs := (List.range n).map nv) (fun i ds led₁ => ∃ ra nw, led₁ = nw ++ base ∧ ds = row i ra ∧ FF i ra base ∧ (∀ k, k < i → ∃ ep, (ra k, lObj ((G.reach E (n + 1) k).map nv) ep) ∈ nw) ∧ (∀ p ∈ nw, ∀ q ∈ base, q.1 ≠ p.1)) H ⟨fun _ => 0, [], rfl, rfl, FF.zero, fun k hk => absurd hk (Nat.not_lt_zero _), by simp⟩ ?_ (by simp; lia) (by show 7 < cLine; decide) ?_ ?_
  · rintro i ds led₁ fz3 h hf _ H₁
    exact ⟨eN, (H₁.Z _ (hf _ D.N)).1⟩
  · rintro i v ds led₁ h tk fz3 C oC mC Rz hRz hv hf hC hNC hmC ⟨ra, nw, rfl, rfl, hF, hra, hoff⟩ H₁
    obtain ⟨hin, rfl⟩ := range_at hv
    have S3 : St ((lawCx g L fa).wz fz3) fz := fun p hp => .inl (hf _ hp)
    refine wpAny_tests_nil ⟨_, h, tk, rfl, H₁, ?_⟩
    rw [if_pos rfl]
    refine h_cloc (c := lawCx g L fa) H₁ hC hNC hmC ?_
    refine Call_ (h_globX H₁ (v := .ref 40) rfl (h_callArgs H₁.frag rfl (spliced_more (h_cloc (c := lawCx g L fa) H₁ hC hNC hmC ?_))))
    refine spliced_more (h_cellv (s := s) (h := h) (a := L + 7) rfl (S3.get H₁ hoE) hdE (spliced_more (List_ (spliced_none (h_newList H₁ (by decide) fun al h3 hlt3 _ H3 => spliced_none ⟨H3.frag, ?_⟩)))))
    refine walked_ok D.NO D.LE D.en (by lia) (n + 1) i [] (G.reach E (n + 1) i) (D'.reached hin) _ _ _ _ _ _ _ _ al 0 _ H3 rfl S3 hin (by simp) .nil (.head _) (by show 1 + claimMargin + 1 + (n + 1) < recursionLimit; have : claimMargin = 300 := rfl; have : recursionLimit = 1000 := rfl; lia) (by show 7 + 8 * (n + 1) + 70 < cLine; have : cLine = 9900 := rfl; lia) ?_
    intro ep2 h4 tk4 H4
    rw [lput_hd (fun q hq => Nat.ne_of_lt (hlt3 q hq))] at H4
    refine ⟨_, h4, tk4, i, rfl, rfl, hin, D.NO.at S3 H4, H4, hRz _ _ ⟨G.upd ra i al, (al, lObj ((G.reach E (n + 1) i).map nv) ep2) :: nw, rfl, row_put .., hF.snoc hlt3 (fun k hk => let ⟨ep, he⟩ := hra k hk; ⟨_, he⟩), ?_, ?_⟩⟩
    · intro k hk
      by_cases e : k = i
      · rw [e, G.upd_self]; exact ⟨_, .head _⟩
      · rw [G.upd_ne _ _ e]
        obtain ⟨ep, he⟩ := hra k (by lia)
        exact ⟨ep, .tail _ he⟩
    · intro p hp q hq
      rcases List.mem_cons.mp hp with rfl | hp
      · exact Nat.ne_of_lt (hlt3 q (List.mem_append_right _ hq))
      · exact hoff p hp q hq
  · rintro aR ds eR led₁ h1 tk1 C oC mC ⟨ra, nw, rfl, rfl, hF, hra, hoff⟩ _ _ _ haR hNC hCz H₁
    rw [List.length_map, List.length_range] at hF hra H₁
    refine compEnd_none (c := (lawCx g L fa).wz fz) hNC hCz H₁ fun h2 H2 => ?_
    have hb3 : (L + 3, oR) ∈ base := by rw [hbase]; simp
    refine h_storeCell H2 (a := L + 3) (o := oR) rfl (.tail _ (List.mem_append_right _ hb3)) hR (fun oR' h3 hR' H3 => ?_) rfl
    have hxb : ∀ q ∈ [(L + 4, oK), (L + 1, oX), ((56 : Nat), tabObj tb)], q ∈ base := by
      intro q hq
      rw [hbase]
      simp only [List.mem_cons, List.not_mem_nil, or_false] at hq ⊢
      rcases hq with rfl | rfl | rfl <;> simp
    have hxn : ∀ q ∈ [(L + 4, oK), (L + 1, oX), ((56 : Nat), tabObj tb)], q.1 ≠ L + 3 := by
      refine all3 ?_ ?_ ?_
      · exact addr_ne (by decide)
      · exact addr_ne (by decide)
      · exact hL56 3
    have haR3 : aR ≠ L + 3 := Ne.symm (haR _ (List.mem_append_right _ hb3))
    have hnw3 : ∀ p ∈ nw, p.1 ≠ L + 3 := fun p hp => Ne.symm (hoff p hp _ hb3)
    refine next ra aR eR oR' ((L + 3, oR') :: (aR, dObj w kd nv (row n ra) eR) :: nw ++ fz) h3 tk1 (fun p hp => .tail _ (.tail _ (List.mem_append_right _ hp))) (.tail _ (.head _)) (fun k hk => let ⟨ep, he⟩ := hra k hk; ⟨ep, .tail _ (.tail _ (List.mem_append_left _ he))⟩) (.head _) hR' ?_
    refine Here.freezeAll (c := lawCx g L fa) (fl := (L + 3, oR') :: (aR, dObj w kd nv (row n ra) eR) :: nw) (fz := fz) (led := [(L + 4, oK), (L + 1, oX), ((56 : Nat), tabObj tb)]) (H3.mono fun p hp => ?_) ?_
    · rcases List.mem_append.mp hp with hp | hp
      · rcases List.mem_cons.mp hp with rfl | hp
        · exact lput_self (o := oR) (.tail _ (List.mem_append_right _ hb3))
        rcases List.mem_cons.mp hp with rfl | hp
        · exact lput_ne (.head _) haR3
        · exact lput_ne (b := p.1) (o := p.2) (.tail _ (List.mem_append_left _ hp)) (hnw3 p hp)
      · exact lput_ne (b := p.1) (o := p.2) (.tail _ (List.mem_append_right _ (hxb p hp))) (hxn p hp)
    · intro p hp q hq
      rcases List.mem_cons.mp hp with rfl | hp
      · exact Ne.symm (hxn q hq)
      rcases List.mem_cons.mp hp with rfl | hp
      · exact Ne.symm (haR q (List.mem_append_right _ (hxb q hq)))
      · exact Ne.symm (hoff p hp q (hxb q hq))
end
end Mine
end

-- part C35
section
open PySem PySem.W PyProof.Rows PySem.Spec
set_option linter.unusedSectionVars false
set_option linter.unusedVariables false
set_option maxRecDepth 100000
namespace Mine
section
variable {prog : Program} {w : World} {t : Tp} {g : Heap} {L fa : Addr} {s : Shared} {kd n : Nat} {nv : Nat → Value} {E : Nat → List Nat} {V : Nat → List Int} {la lv : Nat → Addr} {vv : Nat → List Value} {ee e2 : Nat → Nat} {ae av aN aO : Addr} {eN eO : Nat} {es us : List (Nat × Value)} {order : List Nat}

theorem FF.snoc' {i : Nat} {la : Nat → Addr} {nw base : List (Addr × Obj)} (F : FF i la base) {a : Addr} (ha : ∀ q ∈ nw ++ base, q.1 ≠ a) (hm : ∀ k, k < i → ∃ o, (la k, o) ∈ nw) : FF (i + 1) (G.upd la i a) base := by
  have hne : ∀ k, k < i → la k ≠ a := fun k hk => by obtain ⟨o, ho⟩ := hm k hk; exact ha _ (List.mem_append_left _ ho)
  refine ⟨fun j hj k hk => ?_, fun j hj q hq => ?_⟩
  · by_cases e1 : j = i
    · by_cases e2 : k = i
      · intro _; rw [e1, e2]
      · rw [e1, G.upd_self, G.upd_ne _ _ e2]; intro q; exact absurd q.symm (hne k (by lia))
    · by_cases e2 : k = i
      · rw [e2, G.upd_self, G.upd_ne _ _ e1]; intro q; exact absurd q (hne j (by lia))
      · rw [G.upd_ne _ _ e1, G.upd_ne _ _ e2]; exact F.inj j (by lia) k (by lia)
  · by_cases e1 : j = i
    · rw [e1, G.upd_self]; exact ha q (List.mem_append_right _ hq)
    · rw [G.upd_ne _ _ e1]; exact F.off j (by lia) q hq

/- knots = {x: [y for y in walk if y in reach[x] and x in reach[y]] for x in names} -/
theorem law_seg3c {fz : List (Addr × Obj)} (D : LawD w L kd n nv E V la lv vv ee e2 ae av aN aO eN eO es us order fz) {m : Str → Option Value} {h : Heap} {tk : Nat} {oK oX oW oR : Obj} {tb : Array Value} {aW aR : Addr} {eW eR : Nat} {ra : Nat → Addr} (hK : oK.data = .cell none)
    (hmN : m (Str.ofString "names") = some (.ref aN)) (hW : (aW, lObj ((G.walkL E (n + 1) order).map nv) eW) ∈ fz) (hcW : (L + 2, oW) ∈ fz) (hdW : oW.data = .cell (some (.ref aW)))
    (hR : (aR, dObj w kd nv (row n ra) eR) ∈ fz) (hRl : ∀ k, k < n → ∃ ep, (ra k, lObj ((G.reach E (n + 1) k).map nv) ep) ∈ fz) (hcR : (L + 3, oR) ∈ fz) (hdR : oR.data = .cell (some (.ref aR)))
    (H : Here w t ((lawCx g L fa).wz fz) m [(L + 4, oK), (L + 1, oX), ((56 : Nat), tabObj tb)] h)
    (next : ∀ ka aK eK oK' nf h' tk', (∀ p ∈ fz, ∀ q ∈ nf, p.1 ≠ q.1) → (aK, dObj w kd nv (row n ka) eK) ∈ nf → (∀ k, k < n → ∃ ep, (ka k, lObj ((G.knots E (n + 1) order k).map nv) ep) ∈ nf) → (L + 4, oK') ∈ nf → oK'.data = .cell (some (.ref aK)) →
      Here w t ((lawCx g L fa).wz (nf ++ fz)) m [(L + 1, oX), ((56 : Nat), tabObj tb)] h' →
      wpAny (model prog w) (lawCx g L fa).A (execs (lawB.drop 13) (lawCx g L fa).env) (lawEnd w t g L fa s) NoE (sh s h' tk')) :
    wpAny (model prog w) (lawCx g L fa).A (execs (lawB.drop 12) (lawCx g L fa).env) (lawEnd w t g L fa s) NoE (sh s h tk) := by
  have hn7 := D.n7
  have hu1 : (lawCx g L fa).un + 1 < cLine := by show 7 + 1 < cLine; decide
  have hL56 : ∀ i, (56 : Nat) ≠ L + i := fun i => Nat.ne_of_lt (Nat.lt_of_lt_of_le (Nat.lt_trans (by decide) H.bigL) (Nat.le_add_right L i))
  have D' := D.asked
  have hWn : ∀ y ∈ G.walkL E (n + 1) order, y < n := fun y hy => (D'.walkMem y).mp hy
  have hWl : (G.walkL E (n + 1) order).length ≤ n := nodup_small D'.walkNd hWn
  have hrn : ∀ x, x < n → ∀ y ∈ G.reach E (n + 1) x, y < n := fun x hx y hy => ((D'.reachMem hx y).mp hy).under D.en hx
  obtain ⟨base, hbase⟩ : ∃ base, base = [(L + 4, oK), (L + 1, oX), ((56 : Nat), tabObj tb)] := ⟨_, rfl⟩
  refine wpAny_execs_cons (wpAny_Assign_Name ?_)
  refine h_dictComp (cl := [(Str.ofString "walk", L + 2), (Str.ofString "reach", L + 3)]) rfl rfl (by decide) (h_loc H hmN ?_)
  rw [← hbase] at H
  refine h_dcompTailC (c := (lawCx g L fa).wz fz) (kd := kd) (nv := nv) (n := n) (vs := (List.range n).map nv) (fun i ds led₁ => ∃ ka nw, led₁ = nw ++ base ∧ ds = row i ka ∧ FF i ka base ∧ (∀ k, k < i → ∃ ep, (ka k, lObj ((G.knots E (n + 1) order k).map nv) ep) ∈ nw) ∧ (∀ p ∈ nw, ∀ q ∈ base, q.1 ≠ p.1)) H ⟨fun _ => 0, [], rfl, rfl, FF.zero, fun k hk => absurd hk (Nat.not_lt_zero _), by simp⟩ ?_ (by simp; lia) (by show 7 < cLine; decide) ?_ ?_
  · rintro i ds led₁ fz3 h hf _ H₁
    exact ⟨eN, (H₁.Z _ (hf _ D.N)).1⟩
  · rintro i v ds led₁ h tk fz3 C aX oXc Rz hRz hv hf hXc hdX ⟨ka, nw, rfl, rfl, hF, hka, hoff⟩ H₁
    obtain ⟨hin, rfl⟩ := range_at hv
    refine wpAny_tests_nil ⟨_, h, tk, rfl, H₁, ?_⟩
    rw [if_pos rfl]
    refine h_cellv (s := s) (h := h) (a := aX) rfl (H₁.Z _ hXc).1 hdX ?_
    refine h_listComp (cl := [(Str.ofString "x", aX), (Str.ofString "reach", L + 3)]) rfl rfl (by decide) (h_cellv (s := s) (h := h) (a := L + 2) rfl (H₁.Z _ (hf _ hcW)).1 hdW ?_)
    refine h_compTail (c := (lawCx g L fa).wz fz3) (vs := (G.walkL E (n + 1) order).map nv) (fun j ys led₂ => ys = (((G.walkL E (n + 1) order).take j).filter fun y => decide (y ∈ G.reach E (n + 1) i) && decide (i ∈ G.reach E (n + 1) y)).map nv ∧ led₂ = nw ++ base) H₁ ⟨rfl, rfl⟩ ?_ (by simp; lia) ?_ ?_
    · rintro j ys led₂ fz4 h hf4 _ H₂
      exact ⟨eW, (H₂.Z _ (hf4 _ (hf _ hW))).1⟩
    · rintro j v ys led₂ h tk fz4 C' oC' mC' Rz hRz hv' hf4 hC' hNC' hmC' ⟨rfl, rfl⟩ H₂
      obtain ⟨y, hy, rfl⟩ : ∃ y, (G.walkL E (n + 1) order)[j]? = some y ∧ nv y = v := by simpa [List.getElem?_map] using hv'
      have hyn : y < n := hWn y (List.mem_of_getElem? hy)
      have hff : ∀ p ∈ fz, p ∈ fz4 := fun p hp => hf4 _ (hf _ hp)
      have S4 : St ((lawCx g L fa).wz fz4) fz := fun p hp => .inl (hff _ hp)
      have hnm := D.NO.at S4 H₂
      have htk : (((G.walkL E (n + 1) order).take (j + 1)).filter fun y => decide (y ∈ G.reach E (n + 1) i) && decide (i ∈ G.reach E (n + 1) y)) = (((G.walkL E (n + 1) order).take j).filter fun y => decide (y ∈ G.reach E (n + 1) i) && decide (i ∈ G.reach E (n + 1) y)) ++ (if (decide (y ∈ G.reach E (n + 1) i) && decide (i ∈ G.reach E (n + 1) y)) = true then [y] else []) := by
        rw [List.take_add_one, hy, List.filter_append]; congr 1
        simp only [Option.toList_some, List.filter_cons, List.filter_nil]
      obtain ⟨ep1, hr1⟩ := hRl i hin
      obtain ⟨ep2, hr2⟩ := hRl y hyn
      have hDR : DAt w kd nv n h aR (row n ra) := DAt.of hnm (S4.get H₂ hR) (by rw [row_keys]; exact List.nodup_range) row_lt
      refine wpAny_tests_one (isTrue_and (wpAny_isTrue_Compare1 (h_cloc (c := lawCx g L fa) H₂ hC' hNC' hmC' ?_)))
      refine h_item (s := s) (kd := kd) (n := n) (nv := nv) hu1 (h_cellv (s := s) (h := h) (a := L + 3) rfl (S4.get H₂ hcR) hdR (h_cellv (s := s) (h := h) (a := aX) rfl (H₂.Z _ (hf4 _ hXc)).1 hdX ⟨h, tk, aR, i, row n ra, _, rfl, rfl, rfl, hin, hDR, row_get hin, fun tk2 => ?_⟩))
      refine h_in_names hu1 hnm hyn (hrn i hin) (S4.get H₂ hr1) (wpAny_truthy_bool ?_)
      by_cases c1 : y ∈ G.reach E (n + 1) i
      · rw [decide_eq_true c1]
        simp only [if_true]
        refine isTrue_and (wpAny_isTrue_Compare1 (h_cellv (s := s) (h := h) (a := aX) rfl (H₂.Z _ (hf4 _ hXc)).1 hdX ?_))
        refine h_item (s := s) (kd := kd) (n := n) (nv := nv) hu1 (h_cellv (s := s) (h := h) (a := L + 3) rfl (S4.get H₂ hcR) hdR (h_cloc (c := lawCx g L fa) H₂ hC' hNC' hmC' ⟨h, tk2, aR, y, row n ra, _, rfl, rfl, rfl, hyn, hDR, row_get hyn, fun tk3 => ?_⟩))
        refine h_in_names hu1 hnm hin (hrn y hyn) (S4.get H₂ hr2) (wpAny_truthy_bool ?_)
        by_cases c2 : i ∈ G.reach E (n + 1) y
        · rw [decide_eq_true c2]
          simp only [if_true]
          refine isTrue_and_nil ⟨_, h, tk3, rfl, H₂, ?_⟩
          rw [if_pos rfl]
          refine h_cloc (c := lawCx g L fa) H₂ hC' hNC' hmC' ⟨_, h, tk3, rfl, H₂, hRz _ _ ⟨?_, rfl⟩⟩
          rw [htk, if_pos (by simp [c1, c2]), List.map_append]; rfl
        · rw [decide_eq_false c2]
          simp only [Bool.false_eq_true, if_false]
          refine ⟨_, h, tk3, rfl, H₂, hRz _ _ ⟨?_, rfl⟩⟩
          rw [htk, if_neg (by simp [c2]), List.append_nil]
      · rw [decide_eq_false c1]
        simp only [Bool.false_eq_true, if_false]
        refine ⟨_, h, tk2, rfl, H₂, hRz _ _ ⟨?_, rfl⟩⟩
        rw [htk, if_neg (by simp [c1]), List.append_nil]
    · rintro al ys el led₂ h3 tk3 C' oC' mC' ⟨rfl, rfl⟩ hal hNC' hCz' H₂
      rw [List.length_map, List.take_length] at H₂
      refine compEnd_none (c := (lawCx g L fa).wz fz3) hNC' hCz' H₂ fun h4 H4 => ?_
      have S3 : St ((lawCx g L fa).wz fz3) fz := fun p hp => .inl (hf _ hp)
      refine ⟨_, h4, tk3, i, rfl, rfl, hin, D.NO.at S3 H4, H4, hRz _ _ ⟨G.upd ka i al, (al, lObj ((G.knots E (n + 1) order i).map nv) el) :: nw, rfl, row_put .., ?_, ?_, ?_⟩⟩
      · exact hF.snoc' hal (fun k hk => let ⟨ep, he⟩ := hka k hk; ⟨_, he⟩)
      · intro k hk
        by_cases e : k = i
        · rw [e, G.upd_self]; exact ⟨_, .head _⟩
        · rw [G.upd_ne _ _ e]
          obtain ⟨ep, he⟩ := hka k (by lia)
          exact ⟨ep, .tail _ he⟩
      · intro p hp q hq
        rcases List.mem_cons.mp hp with rfl | hp
        · exact hal q (List.mem_append_right _ hq)
        · exact hoff p hp q hq
  · rintro aK ds eK led₁ h1 tk1 C oC mC ⟨ka, nw, rfl, rfl, hF, hka, hoff⟩ _ _ _ haK hNC hCz H₁
    rw [List.length_map, List.length_range] at hF hka H₁
    refine compEnd_none (c := (lawCx g L fa).wz fz) hNC hCz H₁ fun h2 H2 => ?_
    have hb4 : (L + 4, oK) ∈ base := by rw [hbase]; simp
    refine h_storeCell H2 (a := L + 4) (o := oK) rfl (.tail _ (List.mem_append_right _ hb4)) hK (fun oK' h3 hK' H3 => ?_) rfl
    have hxb : ∀ q ∈ [(L + 1, oX), ((56 : Nat), tabObj tb)], q ∈ base := by
      intro q hq
      rw [hbase]
      simp only [List.mem_cons, List.not_mem_nil, or_false] at hq ⊢
      rcases hq with rfl | rfl <;> simp
    have hxn : ∀ q ∈ [(L + 1, oX), ((56 : Nat), tabObj tb)], q.1 ≠ L + 4 := by
      refine all2 ?_ ?_
      · exact addr_ne (by decide)
      · exact hL56 4
    have haK4 : aK ≠ L + 4 := Ne.symm (haK _ (List.mem_append_right _ hb4))
    have hnw4 : ∀ p ∈ nw, p.1 ≠ L + 4 := fun p hp => Ne.symm (hoff p hp _ hb4)
    have hmem : ∀ p ∈ (L + 4, oK') :: (aK, dObj w kd nv (row n ka) eK) :: nw, p ∈ lput ((aK, dObj w kd nv (row n ka) eK) :: (nw ++ base)) (L + 4) oK' := by
      intro p hp
      rcases List.mem_cons.mp hp with rfl | hp
      · exact lput_self (o := oK) (.tail _ (List.mem_append_right _ hb4))
      rcases List.mem_cons.mp hp with rfl | hp
      · exact lput_ne (.head _) haK4
      · exact lput_ne (b := p.1) (o := p.2) (.tail _ (List.mem_append_left _ hp)) (hnw4 p hp)
    refine next ka aK eK oK' ((L + 4, oK') :: (aK, dObj w kd nv (row n ka) eK) :: nw) h3 tk1 (fun p hp q hq => H3.D p hp q (hmem q hq)) (.tail _ (.head _)) (fun k hk => let ⟨ep, he⟩ := hka k hk; ⟨ep, .tail _ (.tail _ he)⟩) (.head _) hK' ?_
    refine Here.freezeAll (c := lawCx g L fa) (fl := (L + 4, oK') :: (aK, dObj w kd nv (row n ka) eK) :: nw) (fz := fz) (led := [(L + 1, oX), ((56 : Nat), tabObj tb)]) (H3.mono fun p hp => ?_) ?_
    · rcases List.mem_append.mp hp with hp | hp
      · rcases List.mem_cons.mp hp with rfl | hp
        · exact lput_self (o := oK) (.tail _ (List.mem_append_right _ hb4))
        rcases List.mem_cons.mp hp with rfl | hp
        · exact lput_ne (.head _) haK4
        · exact lput_ne (b := p.1) (o := p.2) (.tail _ (List.mem_append_left _ hp)) (hnw4 p hp)
      · exact lput_ne (b := p.1) (o := p.2) (.tail _ (List.mem_append_right _ (hxb p hp))) (hxn p hp)
    · intro p hp q hq
      rcases List.mem_cons.mp hp with rfl | hp
      · exact Ne.symm (hxn q hq)
      rcases List.mem_cons.mp hp with rfl | hp
      · exact Ne.symm (haK q (List.mem_append_right _ (hxb q hq)))
      · exact Ne.symm (hoff p hp q (hxb q hq))
end
end Mine
end

-- part C36
section
open PySem PySem.W PyProof.Rows PySem.Spec
set_option linter.unusedSectionVars false
set_option linter.unusedVariables false
set_option maxRecDepth 100000
namespace Mine
theorem eqvAll_self : ∀ l : List PyData, (∀ d ∈ l, PyData.eqv d d = true) → PyData.eqvAll l l = true := by
  intro l
  induction l with
  | nil => intro _; simp [PyData.eqvAll]
  | cons d l ih => intro h; simp only [PyData.eqvAll, h d List.mem_cons_self, ih fun x hx => h x (List.mem_cons_of_mem _ hx), Bool.and_self]
theorem layAll : ∀ l : List PyData, (∀ d ∈ l, d.canLay0 = true ∧ d.depth ≤ 10) → PyData.canLayAll0 l = true ∧ PyData.depthAll l ≤ 10 := by
  intro l
  induction l with
  | nil => intro _; simp [PyData.canLayAll0, PyData.depthAll]
  | cons d l ih =>
    intro h
    have h1 := h d List.mem_cons_self
    have h2 := ih fun x hx => h x (List.mem_cons_of_mem _ hx)
    simp only [PyData.canLayAll0, PyData.depthAll, h1.1, h2.1, Bool.and_self, true_and]
    have := h1.2; have := h2.2; lia
theorem readsAll_append {h : Heap} {vs : List Value} {xs : List PyData} {as : List Addr} (r : ReadsAll h vs xs as) {us : List Value} {ys : List PyData} {bs : List Addr} (q : ReadsAll h us ys bs) : ∃ cs, ReadsAll h (vs ++ us) (xs ++ ys) cs := by
  induction vs generalizing xs as with
  | nil => cases r; exact ⟨_, q⟩
  | cons v vs ih =>
    cases r with
    | cons r1 r2 =>
      obtain ⟨cs, e⟩ := ih r2
      exact ⟨_, .cons r1 e⟩
theorem readsAll_ints {h : Heap} : ∀ {vs : List Value} {ns : List Int}, Ints vs ns → ∃ as, ReadsAll h vs (ns.map PyData.int) as := by
  intro vs
  induction vs with
  | nil =>
    intro ns hi
    have : ns = [] := by have := hi.length; simpa using this.symm
    subst this; exact ⟨_, .nil⟩
  | cons v vs ih =>
    intro ns hi
    cases ns with
    | nil => have := hi.length; simp at this
    | cons k ns =>
      obtain ⟨n0, tn, rfl, hn⟩ := hi.at (i := 0) rfl
      have e : k = n0 := by simpa using hn
      subst e
      obtain ⟨as, r⟩ := ih (ns := ns) (by unfold Ints at hi ⊢; simpa using (List.cons.inj hi).2)
      exact ⟨_, .cons (.int _ _) r⟩

theorem tup_ne_list (vs us : List Value) (e : Nat) : tObj vs ≠ lObj us e := fun q => by
  injection q with h1
  injection h1 with h2
  exact absurd h2 (by decide)
def sKnot : Str := Str.ofString "knot"
def knD (kd k : Nat) : PyData := .tuple [.str sKnot, ndat kd k]
theorem knD_eqv (kd k : Nat) : PyData.eqv (knD kd k) (knD kd k) = true := by
  unfold knD
  simp [PyData.eqv, PyData.eqvAll, ndat_eqv]
theorem knD_lay {kd k : Nat} (hk : k < 1000) : (knD kd k).canLay0 = true ∧ (knD kd k).depth ≤ 10 := by
  have h := @ndat_lay kd k hk
  have hs : PyData.strOk sKnot = true := by decide +kernel
  unfold knD
  simp only [PyData.canLay0, PyData.canLayAll0, PyData.depth, PyData.depthAll, hs, h.1, Bool.and_self, true_and]
  have := h.2; lia
/- refs to pairs («knot», k) -/
def KnAt (nv : Nat → Value) (tt : Nat → Addr) (is : List Nat) (led : List (Addr × Obj)) : Prop := ∀ k ∈ is, ∃ u, (tt k, tObj [.str sKnot u, nv k]) ∈ led
theorem reads_kn {kd n : Nat} {h : Heap} {nv : Nat → Value} {tt : Nat → Addr} (hn : ∀ k, k < n → NameIs kd h k (nv k)) : ∀ is : List Nat, (∀ i ∈ is, i < n) → (∀ k ∈ is, ∃ u, h.get? (tt k) = some (tObj [.str sKnot u, nv k])) → ∃ as, ReadsAll h (is.map fun k => Value.ref (tt k)) (is.map (knD kd)) as := by
  intro is
  induction is with
  | nil => intro _ _; exact ⟨_, .nil⟩
  | cons i is ih =>
    intro his hg
    obtain ⟨u, e⟩ := hg i List.mem_cons_self
    obtain ⟨as, r⟩ := name_reads (hn i (his i List.mem_cons_self))
    obtain ⟨bs, q⟩ := ih (fun j hj => his j (List.mem_cons_of_mem _ hj)) fun k hk => hg k (List.mem_cons_of_mem _ hk)
    exact ⟨_, .cons (.tuple e rfl rfl (.cons (.str _ _) (.cons r .nil))) q⟩

section
variable {prog : Program} {w : World} {t : Tp} {c : Cx} {g : Heap} {L fa : Addr} {s : Shared} {kd n : Nat} {nv : Nat → Value} {E : Nat → List Nat} {V : Nat → List Int} {la lv : Nat → Addr} {vv : Nat → List Value} {ee e2 : Nat → Nat} {ae av aN aO : Addr} {eN eO : Nat} {es us : List (Nat × Value)} {order : List Nat}

theorem Here.thawSome {m : Str → Option Value} {led fl fz fz' : List (Addr × Obj)} {h : Heap} (H : Here w t (c.wz fz) m led h) (hfl : ∀ p ∈ fl, p ∈ fz) (hfz : ∀ p ∈ fz', p ∈ fz) (hd : ∀ p ∈ fz', ∀ q ∈ fl, p.1 ≠ q.1) : Here w t (c.wz fz') m (fl ++ led) h := by
  refine ⟨H.B, H.X, H.T, H.F, fun p hp => ?_, H.K, fun p hp => H.Z p (hfz p hp), fun p hp q hq => ?_⟩
  · rcases List.mem_append.mp hp with hp | hp
    · exact H.Z p (hfl p hp)
    · exact H.N p hp
  · rcases List.mem_append.mp hq with hq | hq
    · exact hd p hp q hq
    · exact H.D p (hfz p hp) q hq

def knot1 (fid : Nat → Nat) (r i : Nat) : List Nat := (List.range i).filter fun j => decide (fid j = r)
theorem knot1_succ (fid : Nat → Nat) (r i : Nat) : knot1 fid r (i + 1) = knot1 fid r i ++ (if fid i = r then [i] else []) := by
  unfold knot1
  rw [List.range_succ, List.filter_append]
  congr 1
  by_cases h : fid i = r <;> simp [h]
theorem knot1_lt {fid : Nat → Nat} {r i k : Nat} (h : k ∈ knot1 fid r i) : k < i := by
  unfold knot1 at h
  exact List.mem_range.mp (List.mem_filter.mp h).1

/- for x in names: told[x].append(('knot', x)) -/
theorem law_seg4a {fz : List (Addr × Obj)} (D : LawD w L kd n nv E V la lv vv ee e2 ae av aN aO eN eO es us order fz) {m : Str → Option Value} {h : Heap} {tk : Nat} {oX : Obj} {tb : Array Value} {aF : Addr} {eF : Nat} {lo fid : Nat → Addr} {uo : Nat → List Value} {eo : Nat → Nat} (hX : ∃ v, oX.data = .cell v)
    (hmN : m (Str.ofString "names") = some (.ref aN)) (hmT : m (Str.ofString "told") = some (.ref aF)) {fes : List (Nat × Value)} (hF : (aF, dObj w kd nv fes eF) ∈ fz) (hfnd : (fes.map (·.1)).Nodup) (hflt : ∀ p ∈ fes, p.1 < n) (hfg : ∀ k, k < n → dget fes k = some (.ref (lo (fid k)))) (hfid : ∀ k, k < n → fid k < n)
    (hinj : ∀ i, i < n → ∀ j, j < n → lo i = lo j → i = j) (hul : ∀ i, i < n → (uo i).length ≤ 1000)
    (H : Here w t ((lawCx g L fa).wz fz) m (lists n lo uo eo ++ [(L + 1, oX), ((56 : Nat), tabObj tb)]) h)
    (next : ∀ (tt : Nat → Addr) (eU : Nat → Nat) oX' fz' h' tk', (∀ p ∈ fz, p ∈ fz') → (∃ v, oX'.data = .cell v) → (∀ r, r < n → (lo r, lObj (uo r ++ (knot1 fid r n).map fun j => Value.ref (tt j)) (eU r)) ∈ fz') → KnAt nv tt (List.range n) fz' → Here w t ((lawCx g L fa).wz fz') m [(L + 1, oX'), ((56 : Nat), tabObj tb)] h' →
      wpAny (model prog w) (lawCx g L fa).A (execs (lawB.drop 14) (lawCx g L fa).env) (lawEnd w t g L fa s) NoE (sh s h' tk')) :
    wpAny (model prog w) (lawCx g L fa).A (execs (lawB.drop 13) (lawCx g L fa).env) (lawEnd w t g L fa s) NoE (sh s h tk) := by
  have hn7 := D.n7
  have hu1 : (lawCx g L fa).un + 1 < cLine := by show 7 + 1 < cLine; decide
  have hL56 : ∀ i, (56 : Nat) ≠ L + i := fun i => Nat.ne_of_lt (Nat.lt_of_lt_of_le (Nat.lt_trans (by decide) H.bigL) (Nat.le_add_right L i))
  have S : St ((lawCx g L fa).wz fz) fz := fun p hp => .inl hp
  have hlm : ∀ r, r < n → (lo r, lObj (uo r) (eo r)) ∈ lists n lo uo eo ++ [(L + 1, oX), ((56 : Nat), tabObj tb)] := fun r hr => List.mem_append_left _ (List.mem_map.mpr ⟨r, List.mem_range.mpr hr, rfl⟩)
  have hlX : ∀ r, r < n → lo r ≠ L + 1 := fun r hr => H.ne (hlm r hr) (show (L + 1, oX) ∈ _ by simp) (by rintro rfl; obtain ⟨v, hv⟩ := hX; cases hv)
  have hl5 : ∀ r, r < n → lo r ≠ 56 := fun r hr => H.ne (hlm r hr) (show ((56 : Nat), tabObj tb) ∈ _ by simp) (by intro e; cases e)
  refine wpAny_execs_cons (wpAny_For (h_loc H hmN ?_))
  refine h_forListC (c := (lawCx g L fa).wz fz) (aX := L + 1) (vs := (List.range n).map nv) (fun i m₁ led₁ => m₁ = m ∧ Ex3 fun (tt : Nat → Addr) (eU : Nat → Nat) (oX' : Obj) => (∃ v, oX'.data = .cell v) ∧ (∀ r, r < n → (lo r, lObj (uo r ++ (knot1 fid r i).map fun j => Value.ref (tt j)) (eU r)) ∈ led₁) ∧ KnAt nv tt (List.range i) led₁ ∧ (∀ k, k < i → tt k ≠ L + 1 ∧ tt k ≠ 56) ∧ (L + 1, oX') ∈ led₁ ∧ ((56 : Nat), tabObj tb) ∈ led₁) H
    ⟨rfl, fun _ => 0, eo, oX, hX, ?_, ?_, fun k hk => absurd hk (Nat.not_lt_zero _), by simp, by simp⟩ ?_ ?_ ?_ ?_ rfl
  · intro r hr
    have : (lo r, lObj (uo r) (eo r)) ∈ lists n lo uo eo := List.mem_map.mpr ⟨r, List.mem_range.mpr hr, rfl⟩
    show (lo r, lObj (uo r ++ []) (eo r)) ∈ _
    rw [List.append_nil]
    exact List.mem_append_left _ this
  · intro k hk; simp at hk
  · rintro i m₁ led₁ fz3 h hf _ H₁
    exact ⟨eN, (H₁.Z _ (hf _ D.N)).1⟩
  · rintro i m₁ led₁ ⟨_, tt, eU, oX', ⟨v, hv⟩, _, _, _, hm, _⟩
    exact ⟨oX', v, hm, hv⟩
  · rintro i v m₁ led₁ o' h tk₁ fz3 Rz hRz hv hf ⟨rfl, tt, eU, oX', _, hls, hkn, htX, hxm, h56⟩ hd' H₁
    obtain ⟨hin, rfl⟩ := range_at hv
    have S3 : St ((lawCx g L fa).wz fz3) fz := fun p hp => .inl (hf _ hp)
    have hmX : (L + 1, o') ∈ lput led₁ (L + 1) o' := lput_self hxm
    have hr := hfid i hin
    have hls1 : ∀ r, r < n → (lo r, lObj (uo r ++ (knot1 fid r i).map fun j => Value.ref (tt j)) (eU r)) ∈ lput led₁ (L + 1) o' := fun r hr => lput_ne (hls r hr) (hlX r hr)
    have hk1 : ∀ k, k < i → ∃ u, (tt k, tObj [.str sKnot u, nv k]) ∈ lput led₁ (L + 1) o' := fun k hk => by
      obtain ⟨u, hu⟩ := hkn k (List.mem_range.mpr hk)
      exact ⟨u, lput_ne hu (htX k hk).1⟩
    refine wpAny_execs_cons (h_append (w := w) (t := t) (s := s) ?_)
    refine h_item (s := s) (kd := kd) (n := n) (nv := nv) hu1 (h_loc H₁ (v := .ref aF) hmT (h_cellv (s := s) (h := h) (a := L + 1) rfl (H₁.get hmX) hd' ⟨h, tk₁, aF, i, fes, _, rfl, rfl, rfl, hin, DAt.of (D.NO.at S3 H₁) (S3.get H₁ hF) hfnd hflt, hfg i hin, fun tk2 => ⟨lo (fid i), _, _, rfl, H₁.get (hls1 _ hr), ?_⟩⟩))
    refine Tuple_ (spliced_more (h_str (s := s) (h := h) (tk := tk2) fun u1 tk3 => spliced_more (h_cellv (s := s) (h := h) (a := L + 1) rfl (H₁.get hmX) hd' (spliced_none (h_newTuple H₁ (size_ok (by simp)) fun at' h3 hlt3 _ H3 => ?_)))))
    have hne3 : ∀ {a : Addr} {o : Obj}, (a, o) ∈ lput led₁ (L + 1) o' → a ≠ at' := fun h => Nat.ne_of_lt (hlt3 _ h)
    refine ⟨_, _, _, h3, tk3, _, _, rfl, H3, .tail _ (hls1 _ hr), ?_, fun h4 tk4 H4 => ?_⟩
    · have h1 := hul _ hr
      have h2 : (knot1 fid (fid i) i).length ≤ i := by unfold knot1; have := List.length_filter_le (fun j => decide (fid j = fid i)) (List.range i); simpa using this
      simp; lia
    refine wpAny_execs_nil (hRz _ _ h4 tk4 H4 ⟨rfl, G.upd tt i at', G.upd eU (fid i) (eU (fid i) + 1), o', ⟨_, hd'⟩, ?_, ?_, ?_, ?_, ?_⟩)
    · intro r hrn
      have emap : ((knot1 fid r i).map fun j => Value.ref (G.upd tt i at' j)) = (knot1 fid r i).map fun j => Value.ref (tt j) := by
        apply List.map_congr_left
        intro k hk
        rw [G.upd_ne _ _ (Nat.ne_of_lt (knot1_lt hk))]
      by_cases e : r = fid i
      · subst e
        rw [G.upd_self, knot1_succ, if_pos rfl, List.map_append, emap, ← List.append_assoc]
        have eo2 : uo (fid i) ++ (knot1 fid (fid i) i).map (fun j => Value.ref (tt j)) ++ List.map (fun j => Value.ref (G.upd tt i at' j)) [i] = uo (fid i) ++ (knot1 fid (fid i) i).map (fun j => Value.ref (tt j)) ++ [.ref at'] := by simp [G.upd_self]
        rw [eo2]
        exact lput_self (.tail _ (hls1 _ hr))
      · rw [G.upd_ne _ _ e, knot1_succ, if_neg (fun q => e q.symm), List.append_nil, emap]
        exact lput_ne (.tail _ (hls1 r hrn)) (fun q => e (hinj r hrn _ hr q))
    · intro k hk
      have hk' : k < i + 1 := List.mem_range.mp hk
      by_cases e : k = i
      · subst e
        rw [G.upd_self]
        exact ⟨u1, lput_ne (.head _) (Ne.symm (hne3 (hls1 _ hr)))⟩
      · rw [G.upd_ne _ _ e]
        obtain ⟨u, hu⟩ := hk1 k (by lia)
        exact ⟨u, lput_ne (.tail _ hu) (H3.ne (.tail _ hu) (.tail _ (hls1 _ hr)) (tup_ne_list _ _ _))⟩
    · intro k hk
      by_cases e : k = i
      · subst e
        rw [G.upd_self]
        exact ⟨Ne.symm (hne3 hmX), Ne.symm (hne3 (lput_ne h56 (hL56 1)))⟩
      · rw [G.upd_ne _ _ e]; exact htX k (by lia)
    · exact lput_ne (.tail _ hmX) (Ne.symm (hlX _ hr))
    · exact lput_ne (.tail _ (lput_ne h56 (hL56 1))) (Ne.symm (hl5 _ hr))
  · rintro m₁ led₁ h tk₁ ⟨rfl, tt, eU, oX', hX', hls, hkn, htX, hxm, h56⟩ H₁
    rw [List.length_map, List.length_range] at hls hkn htX
    obtain ⟨fl, hfl⟩ : ∃ fl, fl = (lists n lo (fun r => uo r ++ (knot1 fid r n).map fun j => Value.ref (tt j)) eU) ++ (led₁.filter fun p => decide (p.1 ≠ L + 1 ∧ p.1 ≠ 56)) := ⟨_, rfl⟩
    have hflm : ∀ p ∈ fl, p ∈ led₁ ∧ p.1 ≠ L + 1 ∧ p.1 ≠ 56 := by
      intro p hp
      rw [hfl] at hp
      rcases List.mem_append.mp hp with hp | hp
      · obtain ⟨r, hr, rfl⟩ := List.mem_map.mp hp
        have hr := List.mem_range.mp hr
        exact ⟨hls r hr, hlX r hr, hl5 r hr⟩
      · have := List.mem_filter.mp hp
        exact ⟨this.1, by simpa using this.2⟩
    refine next tt eU oX' (fl ++ fz) h tk₁ (fun p hp => List.mem_append_right _ hp) hX' (fun r hr => List.mem_append_left _ (by rw [hfl]; exact List.mem_append_left _ (List.mem_map.mpr ⟨r, List.mem_range.mpr hr, rfl⟩))) (fun k hk => ?_) ?_
    · obtain ⟨u, hu⟩ := hkn k hk
      refine ⟨u, List.mem_append_left _ ?_⟩
      rw [hfl]
      exact List.mem_append_right _ (List.mem_filter.mpr ⟨hu, by simpa using htX k (List.mem_range.mp hk)⟩)
    · refine Here.freezeAll (c := lawCx g L fa) (fl := fl) (fz := fz) (led := [(L + 1, oX'), ((56 : Nat), tabObj tb)]) (H₁.mono fun p hp => ?_) ?_
      · rcases List.mem_append.mp hp with hp | hp
        · exact (hflm p hp).1
        · refine all2 ?_ ?_ p hp
          · exact hxm
          · exact h56
      · intro p hp q hq
        obtain ⟨_, h1, h2⟩ := hflm p hp
        refine all2 (P := fun q => p.1 ≠ q.1) ?_ ?_ q hq
        · exact h1
        · exact h2
end
end Mine
end

-- part C37
section
open PySem PySem.W PyProof.Rows PySem.Spec
set_option linter.unusedSectionVars false
set_option linter.unusedVariables false
set_option maxRecDepth 100000
namespace Mine

theorem said_small {E : Nat → List Nat} {V : Nat → List Int} {n f : Nat} {order : List Nat} (A : G.Asked E V n f order) (hV : ∀ k, k < n → (V k).length ≤ 1000) {x : Nat} (hx : x < n) {ws : List Int} {m : List Nat} (h : G.said E V (G.plOf E f order) f x [] = some (ws, m)) : ws.length ≤ n * 1000 := by
  have hPn : ∀ x, x < n → ∀ y ∈ (fun x => (E x).map (G.plOf E f order x)) x, y < n := by
    intro x hx y hy
    obtain ⟨z, hz, rfl⟩ := List.mem_map.mp hy
    have hzn := A.inn x hx z hz
    unfold G.plOf
    split
    · exact hzn
    · exact (A.rpS hzn).2
  obtain ⟨m', hm'⟩ := G.walked_some hPn f x [] hx (by rw [G.unv_nil]; exact A.fuel)
  have hs := G.said_of_walked E V (G.plOf E f order) f x [] m' (by simp) hm'
  rw [hs] at h
  have e : (m'.drop 0).flatMap V = ws := by have := Option.some.inj h; exact (Prod.mk.inj this).1
  have hsp := (G.walked_spec _ _ _ _ hm').2
  have hnd := hsp.nodup .nil
  have hlt : ∀ z ∈ m', z < n := fun z hz => by
    rcases hsp.from_ z hz with h | h
    · simp at h
    · exact h.under hPn hx
  have key : ∀ l : List Nat, (∀ z ∈ l, z < n) → (l.flatMap V).length ≤ l.length * 1000 := by
    intro l
    induction l with
    | nil => intro _; simp
    | cons z l ih =>
      intro hl
      have h1 := hV z (hl z List.mem_cons_self)
      have h2 := ih fun y hy => hl y (List.mem_cons_of_mem _ hy)
      rw [List.flatMap_cons, List.length_append, List.length_cons]; lia
  rw [← e]
  have h1 := key m' hlt
  have h2 := nodupN hnd hlt
  show (m'.flatMap V).length ≤ _
  calc (m'.flatMap V).length ≤ m'.length * 1000 := h1
    _ ≤ n * 1000 := Nat.mul_le_mul_right _ h2

section
variable {prog : Program} {w : World} {t : Tp} {c : Cx} {g : Heap} {L fa : Addr} {s : Shared} {kd n : Nat} {nv : Nat → Value} {E : Nat → List Nat} {V : Nat → List Int} {la lv : Nat → Addr} {vv : Nat → List Value} {ee e2 : Nat → Nat} {ae av aN aO : Addr} {eN eO : Nat} {es us : List (Nat × Value)} {order : List Nat}

theorem law_seg4b {fz : List (Addr × Obj)} (D : LawD w L kd n nv E V la lv vv ee e2 ae av aN aO eN eO es us order fz) {m : Str → Option Value} {h : Heap} {tk : Nat} {oX oK : Obj} {tb : Array Value} {aF aK : Addr} {eF eK : Nat} {lo fid tt ka : Nat → Addr} {uo : Nat → List Value} {eU : Nat → Nat} {Cc : Nat → List Int} (hX : ∃ v, oX.data = .cell v)
    (hmN : m (Str.ofString "names") = some (.ref aN)) (hmT : m (Str.ofString "told") = some (.ref aF)) {fes : List (Nat × Value)} (hF : (aF, dObj w kd nv fes eF) ∈ fz) (hfnd : (fes.map (·.1)).Nodup) (hflt : ∀ p ∈ fes, p.1 < n) (hfg : ∀ k, k < n → dget fes k = some (.ref (lo (fid k))))
    (hfid : ∀ k, k < n → fid k = G.rpOf E (n + 1) order k ∧ fid k < n) (hls : ∀ r, r < n → (lo r, lObj (uo r ++ (knot1 fid r n).map fun j => Value.ref (tt j)) (eU r)) ∈ fz) (hkn : KnAt nv tt (List.range n) fz) (huo : ∀ r, r < n → Ints (uo r) (Cc r)) (hCf : ∀ r, r < n → Few (Cc r))
    (hsaid : ∀ x, x < n → ∃ ws mm, G.said E V (G.plOf E (n + 1) order) (n + 1) (G.rpOf E (n + 1) order x) [] = some (ws, mm) ∧ Cc (G.rpOf E (n + 1) order x) = G.once ws) (hknm : ∀ x y, x < n → y < n → (y ∈ G.knots E (n + 1) order x ↔ G.rpOf E (n + 1) order y = G.rpOf E (n + 1) order x))
    (hK : (aK, dObj w kd nv (row n ka) eK) ∈ fz) (hKl : ∀ k, k < n → ∃ ep, (ka k, lObj ((G.knots E (n + 1) order k).map nv) ep) ∈ fz) (hcK : (L + 4, oK) ∈ fz) (hdK : oK.data = .cell (some (.ref aK)))
    (H : Here w t ((lawCx g L fa).wz fz) m [(L + 1, oX), ((56 : Nat), tabObj tb)] h) :
    wpAny (model prog w) (lawCx g L fa).A (execs (lawB.drop 14) (lawCx g L fa).env) (fun f s' => f = .ret (.bool true) ∧ Ex6 fun m' led' fz' h' tk' ps => s' = sh s h' tk' ∧ Here w t ((lawCx g L fa).wz fz') m' led' h' ∧ ((56 : Nat), tabObj ps) ∈ led') NoE (sh s h tk) := by
  have hn7 := D.n7
  have hu1 : (lawCx g L fa).un + 1 < cLine := by show 7 + 1 < cLine; decide
  have hL56 : ∀ i, (56 : Nat) ≠ L + i := fun i => Nat.ne_of_lt (Nat.lt_of_lt_of_le (Nat.lt_trans (by decide) H.bigL) (Nat.le_add_right L i))
  have D' := D.asked
  obtain ⟨oE, hoE, hdE⟩ := D.cE
  obtain ⟨oV, hoV, hdV⟩ := D.cV
  have hKn : ∀ x, x < n → ∀ y ∈ G.knots E (n + 1) order x, y < n := fun x hx y hy => ((D'.knotMem hx y).mp hy).1.under D.en hx
  obtain ⟨e3, LK⟩ : ∃ e3 : Nat → Nat, LDict w kd nv n aK (row n ka) ka (fun k => (G.knots E (n + 1) order k).map nv) e3 fz := by
    refine ⟨fun k => if h : k < n then (hKl k h).choose else 0, ⟨eK, hK⟩, by rw [row_keys]; exact List.nodup_range, row_lt, fun k hk => row_get hk, fun k hk => ?_⟩
    simp only [hk, dif_pos]; exact (hKl k hk).choose_spec
  have hrp0 : ∀ x, x < n → (G.knots E (n + 1) order x)[0]? = some (G.rpOf E (n + 1) order x) := fun x hx => by
    obtain ⟨tl, e⟩ := D'.knotHead hx; rw [e]; rfl
  refine wpAny_execs_cons (wpAny_For (h_loc H hmN ?_))
  refine h_forListC (c := (lawCx g L fa).wz fz) (aX := L + 1) (vs := (List.range n).map nv) (fun i m₁ led₁ => m₁ (Str.ofString "names") = some (.ref aN) ∧ m₁ (Str.ofString "told") = some (.ref aF) ∧ ∃ oX', (∃ v, oX'.data = .cell v) ∧ (L + 1, oX') ∈ led₁ ∧ ((56 : Nat), tabObj tb) ∈ led₁) H
    ⟨hmN, hmT, oX, hX, by simp, by simp⟩ ?_ ?_ ?_ ?_ rfl
  · rintro i m₁ led₁ fz3 h hf _ H₁
    exact ⟨eN, (H₁.Z _ (hf _ D.N)).1⟩
  · rintro i m₁ led₁ ⟨_, _, oX', ⟨v, hv⟩, hm, _⟩
    exact ⟨oX', v, hm, hv⟩
  · rintro i v m₁ led₁ o' h tk₁ fz3 Rz hRz hv hf ⟨hmN₁, hmT₁, oX', _, hxm, h56⟩ hd' H₁
    obtain ⟨hin, rfl⟩ := range_at hv
    have S3 : St ((lawCx g L fa).wz fz3) fz := fun p hp => .inl (hf _ hp)
    have hmX : (L + 1, o') ∈ lput led₁ (L + 1) o' := lput_self hxm
    have hm56 : ((56 : Nat), tabObj tb) ∈ lput led₁ (L + 1) o' := lput_ne h56 (hL56 1)
    generalize lput led₁ (L + 1) o' = led2 at H₁ hmX hm56
    obtain ⟨hfi, hfn⟩ := hfid i hin
    obtain ⟨ws, mm, hws, hCw⟩ := hsaid i hin
    have hrn : G.rpOf E (n + 1) order i < n := by rw [← hfi]; exact hfn
    have hwl : ws.length ≤ n * 1000 := said_small D' (fun k hk => (D.vf k hk).len) hrn hws
    obtain ⟨epK, hKi⟩ := hKl i hin
    have hDK : ∀ {m led h}, Here w t ((lawCx g L fa).wz fz3) m led h → DAt w kd nv n h aK (row n ka) := fun H => DAt.of (D.NO.at S3 H) (S3.get H hK) (by rw [row_keys]; exact List.nodup_range) row_lt
    -- due
    refine wpAny_execs_cons (wpAny_Assign_Name (Call_ (h_glob H₁ (v := .ref 54) rfl (h_callArgs H₁.frag rfl (spliced_more (Call_ (h_glob H₁ (v := .ref 47) rfl (h_callArgs H₁.frag rfl (spliced_more ?_)))))))))
    refine h_lget (h_item (s := s) (kd := kd) (n := n) (nv := nv) hu1 (h_cellv (s := s) (h := h) (a := L + 4) rfl (S3.get H₁ hcK) hdK (h_cellv (s := s) (h := h) (a := L + 1) rfl (H₁.get hmX) hd' ⟨h, tk₁, aK, i, row n ka, _, rfl, rfl, rfl, hin, hDK H₁, row_get hin, fun tk2 => h_int (s := s) (h := h) (tk := tk2) fun u0 tk3 => ⟨ka i, 0, u0, _, epK, nv (G.rpOf E (n + 1) order i), rfl, rfl, S3.get H₁ hKi, ?_, by decide, ?_⟩⟩)))
    · rw [List.getElem?_map, hrp0 i hin]; rfl
    refine spliced_more (h_cellv (s := s) (h := h) (a := L + 7) rfl (S3.get H₁ hoE) hdE (spliced_more (h_cellv (s := s) (h := h) (a := L + 8) rfl (S3.get H₁ hoV) hdV (spliced_more (h_cellv (s := s) (h := h) (a := L + 4) rfl (S3.get H₁ hcK) hdK (spliced_more (List_ (spliced_none (h_newList H₁ (by decide) fun aM h3 hlt3 _ H3 => spliced_none ⟨H3.frag, ?_⟩)))))))))
    refine said_ok D.NO D.LE D.LV LK D.en hKn hrp0 D.hV (pl := G.plOf E (n + 1) order) (fun x y => rfl) (by lia) (n + 1) (G.rpOf E (n + 1) order i) [] ws mm hws _ _ _ _ _ _ _ _ aM 0 _ H3 rfl S3 hrn (by simp) .nil (by simp) (.head _) (by lia) (by show 1 + claimMargin + 1 + (n + 1) < recursionLimit; have : claimMargin = 300 := rfl; have : recursionLimit = 1000 := rfl; lia) (by show 7 + 8 * (n + 1) + 70 < cLine; have : cLine = 9900 := rfl; lia) ?_
    intro aw uw ep' ep'' h4 tk4 hltw huw H4
    refine spliced_none ⟨H4.frag, ?_⟩
    refine once_ok H4 (.head _) huw (by rw [huw.length]; lia) (by show 1 + claimMargin + 1 + 1 < recursionLimit; decide) ?_
    intro ad ud epd h5 tk5 hltd hud hudl H5
    refine h_store H5 fun h6 tk6 H6 => ?_
    have hsub : ∀ p ∈ led2, p.1 ≠ aM → p ∈ (ad, lObj ud epd) :: (aw, lObj uw ep'') :: lput ((aM, lObj [] 0) :: led2) aM (lObj (mm.map nv) ep') := fun p hp hne => .tail _ (.tail _ (lput_ne (b := p.1) (o := p.2) (.tail _ hp) hne))
    have H7 := H6.mono (led' := (ad, lObj ud epd) :: led2) (memC (.head _) (fun p hp => hsub p hp (Nat.ne_of_lt (hlt3 p hp))))
    clear H3 H4 H5 H6
    -- if told[x] != due + [..]
    have hfil : knot1 fid (fid i) n = (List.range n).filter fun y => decide (y ∈ G.knots E (n + 1) order i) := by
      unfold knot1
      apply List.filter_congr
      intro y hy
      have hy := List.mem_range.mp hy
      have e1 := (hfid y hy).1
      have e2 := hknm i y hin hy
      rw [e1, hfi]
      exact decide_eq_decide.mpr e2.symm
    refine wpAny_execs_cons (wpAny_If (wpAny_isTrue_Compare1 ?_))
    refine h_item (s := s) (kd := kd) (n := n) (nv := nv) hu1 (h_loc H7 (v := .ref aF) hmT₁ (h_cellv (s := s) (h := h6) (a := L + 1) rfl (H7.get (.tail _ hmX)) hd' ⟨h6, tk6, aF, i, fes, _, rfl, rfl, rfl, hin, DAt.of (D.NO.at S3 H7) (S3.get H7 hF) hfnd hflt, hfg i hin, fun tk2 => ?_⟩))
    refine wpAny_BinOp (h_loc H7 (v := .ref ad) rfl ?_)
    refine h_listComp (cl := [(Str.ofString "x", L + 1), (Str.ofString "knots", L + 4)]) rfl rfl (by decide) (h_loc H7 (v := .ref aN) hmN₁ ?_)
    refine h_compTail (c := (lawCx g L fa).wz fz3) (vs := (List.range n).map nv) (fun j ys led₄ => ∃ nw tt2, led₄ = nw ++ ((ad, lObj ud epd) :: led2) ∧ ys = ((List.range j).filter fun y => decide (y ∈ G.knots E (n + 1) order i)).map (fun y => Value.ref (tt2 y)) ∧ KnAt nv tt2 ((List.range j).filter fun y => decide (y ∈ G.knots E (n + 1) order i)) nw) H7 ⟨[], fun _ => 0, rfl, rfl, fun k hk => by simp at hk⟩ ?_ (by simp; lia) ?_ ?_
    · rintro j ys led₄ fz4 h hf4 _ H₂
      exact ⟨eN, (H₂.Z _ (hf4 _ (hf _ D.N))).1⟩
    · rintro j v ys led₄ h tk fz4 C' oC' mC' Rz hRz hv' hf4 hC' hNC' hmC' ⟨nw, tt2, rfl, rfl, hk2⟩ H₂
      obtain ⟨hjn, rfl⟩ := range_at hv'
      have hff : ∀ p ∈ fz, p ∈ fz4 := fun p hp => hf4 _ (hf _ hp)
      have S4 : St ((lawCx g L fa).wz fz4) fz := fun p hp => .inl (hff _ hp)
      have hnm := D.NO.at S4 H₂
      have hDK4 : DAt w kd nv n h aK (row n ka) := DAt.of hnm (S4.get H₂ hK) (by rw [row_keys]; exact List.nodup_range) row_lt
      have hsucc : ((List.range (j + 1)).filter fun y => decide (y ∈ G.knots E (n + 1) order i)) = ((List.range j).filter fun y => decide (y ∈ G.knots E (n + 1) order i)) ++ (if j ∈ G.knots E (n + 1) order i then [j] else []) := by
        rw [List.range_succ, List.filter_append]
        congr 1
        by_cases h : j ∈ G.knots E (n + 1) order i <;> simp [h]
      refine wpAny_tests_one (wpAny_isTrue_Compare1 (h_cloc (c := lawCx g L fa) H₂ hC' hNC' hmC' ?_))
      refine h_item (s := s) (kd := kd) (n := n) (nv := nv) hu1 (h_cellv (s := s) (h := h) (a := L + 4) rfl (S4.get H₂ hcK) hdK (h_cellv (s := s) (h := h) (a := L + 1) rfl (H₂.get (List.mem_append_right _ (.tail _ hmX))) hd' ⟨h, tk, aK, i, row n ka, _, rfl, rfl, rfl, hin, hDK4, row_get hin, fun tk3 => ?_⟩))
      refine h_in_names hu1 hnm hjn (hKn i hin) (S4.get H₂ hKi) (wpAny_truthy_bool ?_)
      refine ⟨_, h, tk3, rfl, H₂, ?_⟩
      by_cases c1 : j ∈ G.knots E (n + 1) order i
      · rw [decide_eq_true c1, if_pos rfl]
        refine Tuple_ (spliced_more (h_str (s := s) (h := h) (tk := tk3) fun u1 tk4 => spliced_more (h_cloc (c := lawCx g L fa) H₂ hC' hNC' hmC' (spliced_none (h_newTuple H₂ (size_ok (by simp)) fun at' h3 hlt3 _ H3 => ?_)))))
        refine ⟨_, h3, tk4, rfl, H3, hRz _ _ ⟨(at', _) :: nw, G.upd tt2 j at', rfl, ?_, ?_⟩⟩
        · rw [hsucc, if_pos c1, List.map_append]
          congr 1
          · apply List.map_congr_left
            intro k hk
            have := List.mem_range.mp (List.mem_filter.mp hk).1
            rw [G.upd_ne _ _ (Nat.ne_of_lt this)]
          · simp [G.upd_self]
        · intro k hk
          rw [hsucc, if_pos c1] at hk
          rcases List.mem_append.mp hk with hk | hk
          · have hlt := List.mem_range.mp (List.mem_filter.mp hk).1
            rw [G.upd_ne _ _ (Nat.ne_of_lt hlt)]
            obtain ⟨u, hu⟩ := hk2 k hk
            exact ⟨u, .tail _ hu⟩
          · have : k = j := by simpa using hk
            subst this
            rw [G.upd_self]
            exact ⟨u1, .head _⟩
      · rw [decide_eq_false c1, if_neg (by simp)]
        refine hRz _ _ ⟨nw, tt2, rfl, ?_, ?_⟩
        · rw [hsucc, if_neg c1, List.append_nil]
        · rw [hsucc, if_neg c1, List.append_nil]; exact hk2
    · rintro al ys el led₄ h3 tk3 C' oC' mC' ⟨nw, tt2, rfl, rfl, hk2⟩ hal hNC' hCz' H₂
      rw [List.length_map, List.length_range] at hk2 H₂
      refine compEnd_none (c := (lawCx g L fa).wz fz3) hNC' hCz' H₂ fun h4 H4 => ?_
      have hfl1 : ((List.range n).filter fun y => decide (y ∈ G.knots E (n + 1) order i)).length ≤ n := by
        have := List.length_filter_le (fun y => decide (y ∈ G.knots E (n + 1) order i)) (List.range n); simpa using this
      have hmd : (ad, lObj ud epd) ∈ (al, lObj (((List.range n).filter fun y => decide (y ∈ G.knots E (n + 1) order i)).map fun y => Value.ref (tt2 y)) el) :: (nw ++ (ad, lObj ud epd) :: led2) := .tail _ (List.mem_append_right _ (.head _))
      refine h_addLists H4 (H4.get hmd) (H4.get (.head _)) (by rw [huw.length] at hudl; rw [List.length_map]; lia) fun ap h5 hlt5 H5 => ?_
      have hlt : ∀ k ∈ knot1 fid (fid i) n, k < n := fun k hk => knot1_lt hk
      obtain ⟨a1, q1⟩ := readsAll_ints (h := h5) (huo _ hfn)
      obtain ⟨a2, q2⟩ := reads_kn (tt := tt) (D.NO.at S3 H5) (knot1 fid (fid i) n) hlt (fun k hk => let ⟨u, hu⟩ := hkn k (List.mem_range.mpr (hlt k hk)); ⟨u, S3.get H5 hu⟩)
      obtain ⟨a3, q3⟩ := readsAll_append q1 q2
      obtain ⟨b1, p1⟩ := readsAll_ints (h := h5) hud
      obtain ⟨b2, p2⟩ := reads_kn (tt := tt2) (D.NO.at S3 H5) ((List.range n).filter fun y => decide (y ∈ G.knots E (n + 1) order i)) (fun k hk => List.mem_range.mp (List.mem_filter.mp hk).1) (fun k hk => let ⟨u, hu⟩ := hk2 k hk; ⟨u, H5.get (.tail _ (.tail _ (List.mem_append_left _ hu)))⟩)
      obtain ⟨b3, p3⟩ := readsAll_append p1 p2
      have hCC : Cc (fid i) = G.once ws := by rw [hfi]; exact hCw
      rw [hCC] at q3
      rw [hfil] at q3
      obtain ⟨T, hT⟩ : ∃ T, T = (G.once ws).map PyData.int ++ ((List.range n).filter fun y => decide (y ∈ G.knots E (n + 1) order i)).map (knD kd) := ⟨_, rfl⟩
      rw [← hT] at q3 p3
      have hTd : ∀ d ∈ T, (PyData.eqv d d = true) ∧ d.canLay0 = true ∧ d.depth ≤ 10 := by
        intro d hd
        rw [hT] at hd
        rcases List.mem_append.mp hd with hd | hd
        · obtain ⟨z, hz, rfl⟩ := List.mem_map.mp hd
          exact ⟨by simp [PyData.eqv], by simp [PyData.canLay0], by simp [PyData.depth]⟩
        · obtain ⟨k, hk, rfl⟩ := List.mem_map.mp hd
          have hkn := List.mem_range.mp (List.mem_filter.mp hk).1
          exact ⟨knD_eqv kd k, knD_lay (by lia)⟩
      have hl := layAll T fun d hd => (hTd d hd).2
      have hsh : SeqAt.shaped (.list T) = true := by
        unfold SeqAt.shaped
        rw [Bool.and_eq_true]
        refine ⟨by simp only [PyData.canLay0]; exact hl.1, ?_⟩
        rw [decide_eq_true_eq]
        have h2 := hl.2
        simp only [PyData.depth]
        lia
      have hls' := S3.get H5 (hls _ hfn)
      rw [hfil] at hls'
      refine SeqAt.compareNe_shaped (s := sh s h5 tk3) (.list hls' rfl rfl q3) (.list (H5.get (.head _)) rfl rfl p3) hsh hsh (by show 7 + 64 < cLine; decide) ?_
      rw [show PyData.eqv (.list T) (.list T) = true by simp only [PyData.eqv]; exact eqvAll_self T fun d hd => (hTd d hd).1]
      refine wpAny_truthy_bool ?_
      refine wpAny_execs_nil (wpAny_execs_nil (hRz _ led2 h5 tk3 (H5.mono fun p hp => .tail _ (.tail _ (List.mem_append_right _ (.tail _ hp)))) ⟨hmN₁, hmT₁, o', ⟨_, hd'⟩, hmX, hm56⟩))
  · rintro m₁ led₁ h tk₁ ⟨hmN₁, hmT₁, oX', hX', hxm, h56⟩ H₁
    exact wpAny_execs_cons (wpAny_Return_some (wpAny_Constant_bool ⟨rfl, m₁, led₁, fz, h, tk₁, tb, rfl, H₁, h56⟩))
end
end Mine
end

-- part C38
section
open PySem PySem.W PyProof.Rows PySem.Spec
set_option linter.unusedSectionVars false
set_option linter.unusedVariables false
set_option maxRecDepth 100000
namespace Mine
section
variable {prog : Program} {w : World} {t : Tp} {c : Cx} {g : Heap} {L fa : Addr} {s : Shared}

theorem law_walk {h : Heap} {aS : Addr} {m : Str → Option Value} {tk : Nat} {oV oE oB oA oK oR oW oX : Obj} {vs : List Value} {ns : List Int}
    (H : Here w t (lawCx g L fa) m [(L + 8, oV), (L + 7, oE), (L + 6, oB), (L + 5, oA), (L + 4, oK), (L + 3, oR), (L + 2, oW), (L + 1, oX), (56, tabObj #[])] h)
    (hV : oV.data = .cell none) (hE : oE.data = .cell none) (hB : oB.data = .cell none) (hA : oA.data = .cell none) (hK : oK.data = .cell none) (hR : oR.data = .cell none) (hW : oW.data = .cell none) (hX : oX.data = .cell none)
    (hm : m (Str.ofString "script") = some (.ref aS)) (hS : g.IsList aS vs.toArray) (hi : Ints vs ns) (hlen : vs.length ≤ 63) (C : CodeHd g 58 56) :
    wpAny (model prog w) (lawCx g L fa).A (execs lawB (lawCx g L fa).env) (lawEnd w t g L fa s) NoE (sh s h tk) := by
  refine law_head H hV hE hm hS hi hlen fun kd n nv E V la lv vv ee e2 ae av aN aO eN eO es us order fz m1 h1 tk1 D hmN1 hmO1 H1 => ?_
  obtain ⟨σ, hσ, hbeg, hlaw, hkn⟩ := G.law_ok D.asked
  refine law_seg1 D hσ hmN1 hmO1 hB hA C H1 fun d lo ta ak ek oB' oA' tb fz1 m2 led2 h2 tk2 hfz1 LT hmN2 hmO2 hmK2 hmT2 H2 => ?_
  have D1 := D.mono hfz1
  have hbm : ∀ k, k ∈ σ.begun ↔ k < n := fun k => by rw [hbeg]; exact D.asked.walkMem k
  refine law_seg2a D1 LT hbm hmN2 hmK2 hmT2 H2 fun dr h3 tk3 H3 => ?_
  refine wpAny_mono (Q := lawEnd w t g L fa { s with drawn := dr }) ?_ (fun f s' ⟨e, m', led', h', tk', d', ps, e2, r⟩ => ⟨e, m', led', h', tk', d', ps, e2, r⟩) (fun _ _ x => x)
  refine law_seg2b (s := { s with drawn := dr }) D1 LT hbm hmN2 H3 fun h4 tk4 H4 => ?_
  clear H1 H2 H3
  have hn7 := D.n7
  obtain ⟨epF, hF⟩ := LT.T.F
  obtain ⟨uo, hu⟩ : ∃ uo : Nat → List Value, ∀ r, r < n → ∃ ep, (lo r, lObj (uo r) ep) ∈ led2 ∧ Ints (uo r) (σ.C r) := by
    refine ⟨fun r => if h : r < n then (LT.T.C r ((hbm r).mpr h)).choose else [], fun r hr => ?_⟩
    simp only [hr, dif_pos]; exact (LT.T.C r ((hbm r).mpr hr)).choose_spec
  obtain ⟨eo, hu⟩ : ∃ eo : Nat → Nat, ∀ r, r < n → (lo r, lObj (uo r) (eo r)) ∈ led2 ∧ Ints (uo r) (σ.C r) := by
    refine ⟨fun r => if h : r < n then (hu r h).choose else 0, fun r hr => ?_⟩
    simp only [hr, dif_pos]; exact (hu r hr).choose_spec
  have hlists : ∀ p ∈ lists n lo uo eo, p ∈ led2 ∧ ∃ i, i < n ∧ p.1 = lo i := by
    intro p hp
    obtain ⟨r, hr, rfl⟩ := List.mem_map.mp hp
    exact ⟨(hu r (List.mem_range.mp hr)).1, r, List.mem_range.mp hr, rfl⟩
  have hinj : ∀ i, i < n → ∀ j, j < n → lo i = lo j → i = j := fun i hi j hj => LT.T.inj i ((hbm i).mpr hi) j ((hbm j).mpr hj)
  have haFl : ∀ i, i < n → d.aF ≠ lo i := fun i hi e => LT.T.apl i ((hbm i).mpr hi) (by rw [← e]; simp [Ad.all])
  obtain ⟨fl, hfl⟩ : ∃ fl, fl = (d.aF, dObj w kd nv (fes σ lo) epF) :: lists n lo uo eo := ⟨_, rfl⟩
  have H5 : Here w t ((lawCx g L fa).wz (fl ++ fz1)) m2 [(L + 4, oK), (L + 3, oR), (L + 2, oW), (L + 1, oX), ((56 : Nat), tabObj tb)] h4 := by
    refine Here.freezeAll (c := lawCx g L fa) (fl := fl) (fz := fz1) (led := [(L + 4, oK), (L + 3, oR), (L + 2, oW), (L + 1, oX), ((56 : Nat), tabObj tb)]) (H4.mono fun p hp => ?_) ?_
    · rcases List.mem_append.mp hp with hp | hp
      · rw [hfl] at hp
        rcases List.mem_cons.mp hp with rfl | hp
        · exact hF
        · exact (hlists p hp).1
      · exact (LT.rest p hp).1
    · intro p hp q hq
      have hr := LT.rest q hq
      rw [hfl] at hp
      rcases List.mem_cons.mp hp with rfl | hp
      · exact Ne.symm hr.2.1
      · obtain ⟨_, i, hi, e⟩ := hlists p hp
        rw [e]; exact Ne.symm (hr.2.2.2.2 i ((hbm i).mpr hi))
  have hs5 : ∀ p ∈ fz1, p ∈ fl ++ fz1 := fun p hp => List.mem_append_right _ hp
  refine law_seg3a (s := { s with drawn := dr }) (D1.mono hs5) hW ⟨_, hX⟩ hmO2 H5 fun aW eW oW' oX6 h6 tk6 hW6 hX6 H6 => ?_
  have hs6 : ∀ p ∈ fl ++ fz1, p ∈ (aW, lObj ((G.walkL E (n + 1) order).map nv) eW) :: (L + 2, oW') :: (fl ++ fz1) := fun p hp => .tail _ (.tail _ hp)
  refine law_seg3b (s := { s with drawn := dr }) ((D1.mono hs5).mono hs6) hR hmN2 H6 fun ra aR eR oR7 fz7 h7 tk7 hs7 hR7 hRl7 hcR7 hdR7 H7 => ?_
  have D7 := ((D1.mono hs5).mono hs6).mono hs7
  refine law_seg3c (s := { s with drawn := dr }) D7 hK hmN2 (hs7 _ (.head _)) (hs7 _ (.tail _ (.head _))) hW6 hR7 hRl7 hcR7 hdR7 H7 fun ka aK eK oK8 nf h8 tk8 hdis hK8 hKl8 hcK8 hdK8 H8 => ?_
  have hall : ∀ p ∈ fl ++ fz1, p ∈ fz7 := fun p hp => hs7 _ (hs6 p hp)
  have hlf : ∀ p ∈ lists n lo uo eo, p ∈ fl ++ fz1 := fun p hp => List.mem_append_left _ (by rw [hfl]; exact .tail _ hp)
  have H9 := Here.thawSome (c := lawCx g L fa) (fl := lists n lo uo eo) (fz' := nf ++ (d.aF, dObj w kd nv (fes σ lo) epF) :: fz1) H8 (fun p hp => List.mem_append_right _ (hall p (hlf p hp))) (fun p hp => by
      rcases List.mem_append.mp hp with hp | hp
      · exact List.mem_append_left _ hp
      · refine List.mem_append_right _ (hall p ?_)
        rcases List.mem_cons.mp hp with rfl | hp
        · exact List.mem_append_left _ (by rw [hfl]; exact .head _)
        · exact List.mem_append_right _ hp) (fun p hp q hq => by
      rcases List.mem_append.mp hp with hp | hp
      · exact Ne.symm (hdis q (hall q (hlf q hq)) p hp)
      · obtain ⟨hq1, i, hi, e⟩ := hlists q hq
        rcases List.mem_cons.mp hp with rfl | hp
        · rw [e]; exact haFl i hi
        · exact H4.D p hp q hq1)
  have hs9 : ∀ p ∈ fz1, p ∈ nf ++ (d.aF, dObj w kd nv (fes σ lo) epF) :: fz1 := fun p hp => List.mem_append_right _ (.tail _ hp)
  have D9 := D1.mono hs9
  have hfnd : ((fes σ lo).map (·.1)).Nodup := by rw [fes_keys]; exact LT.T.nd
  have hflt : ∀ p ∈ fes σ lo, p.1 < n := fun p hp => by
    have : p.1 ∈ (fes σ lo).map (·.1) := List.mem_map.mpr ⟨p, hp, rfl⟩
    rw [fes_keys] at this; exact (hbm _).mp this
  have hfg : ∀ k, k < n → dget (fes σ lo) k = some (.ref (lo (σ.fid k))) := fun k hk => fes_get ((hbm k).mpr hk) LT.T.nd
  have hfid : ∀ k, k < n → σ.fid k = G.rpOf E (n + 1) order k ∧ σ.fid k < n := fun k hk => by
    have := hlaw k hk
    exact ⟨this.1, by rw [this.1]; exact this.2.1⟩
  have hFm : (d.aF, dObj w kd nv (fes σ lo) epF) ∈ nf ++ (d.aF, dObj w kd nv (fes σ lo) epF) :: fz1 := List.mem_append_right _ (.head _)
  refine law_seg4a (s := { s with drawn := dr }) D9 hX6 hmN2 hmT2 hFm hfnd hflt hfg (fun k hk => (hfid k hk).2) hinj (fun i hi => ?_) H9 fun tt eU oX10 fz10 h10 tk10 hs10 hX10 hls10 hkn10 H10 => ?_
  · have h1 := (hu i hi).2.length
    have h2 := (LT.few i ((hbm i).mpr hi)).len
    lia
  refine wpAny_mono (law_seg4b (s := { s with drawn := dr }) (Cc := σ.C) (ka := ka) (lo := lo) (uo := uo) (fid := σ.fid) (D9.mono hs10) hX10 hmN2 hmT2 (hs10 _ hFm) hfnd hflt hfg hfid hls10 hkn10 (fun r hr => (hu r hr).2) (fun r hr => LT.few r ((hbm r).mpr hr)) (fun x hx => ?_) hkn (hs10 _ (List.mem_append_left _ hK8)) (fun k hk => let ⟨ep, he⟩ := hKl8 k hk; ⟨ep, hs10 _ (List.mem_append_left _ he)⟩) (hs10 _ (List.mem_append_left _ hcK8)) hdK8 H10) ?_ fun _ _ x => x
  · obtain ⟨_, _, _, ws, mm, h1, h2⟩ := hlaw x hx
    exact ⟨ws, mm, h1, h2⟩
  · rintro f s' ⟨e, m', led', fz', h', tk', ps, rfl, Hz, h56⟩
    exact ⟨e, m', led', h', tk', dr, ps, rfl, Here.fzm (fz' := []) Hz (by simp), h56⟩
end
end Mine
end

-- part C39
section
open PySem PySem.W PyProof.Rows PySem.Spec
set_option linter.unusedSectionVars false
set_option linter.unusedVariables false
set_option maxRecDepth 100000
namespace Mine
theorem ints_of {vs : List Value} {ns : List Int} (h : IntsAre vs ns) : Ints vs ns := by
  induction h with
  | nil => rfl
  | cons n t h ih =>
    unfold Ints at ih ⊢
    rw [List.map_cons, List.map_cons, ih]; rfl

theorem law_join {w : World} {s₁ : Shared} {mg mb : Str → Option Value} {loose : List Str} {mean : ExcName → Option Value} {p : Program} {g h : Heap} {L fa aS : Addr} {m : Str → Option Value} {tk : Nat} {oV oE oB oA oK oR oW oX : Obj} {vs : List Value} {ns : List Int} {cl : Str → Option Addr} {mean' : ExcName → Option Value} {args : List WData} {E : Value → Shared → Prop}
    (X : (Mine.hd.heap_39 w.params).In g) (T : Top p loose mean mg mb g) (B : Below callerA g [] g) (F : Fr g L h m) (hl : g.IsList aS vs.toArray) (C : CodeHd g 58 56)
    (N : News g L h [(L + 8, oV), (L + 7, oE), (L + 6, oB), (L + 5, oA), (L + 4, oK), (L + 3, oR), (L + 2, oW), (L + 1, oX), (56, tabObj #[])])
    (hV : oV.data = .cell none) (hE : oE.data = .cell none) (hB : oB.data = .cell none) (hA : oA.data = .cell none) (hK : oK.data = .cell none) (hR : oR.data = .cell none) (hW : oW.data = .cell none) (hX : oX.data = .cell none)
    (hm : m (Str.ofString "script") = some (.ref aS)) (hi : IntsAre vs ns) (hn : ¬ ((63 : Nat) : Int) < ns.length) (hg : s₁.gens = #[]) :
    wpAny (model PySem.Challenge.rw_qb0002_01.row.prog w) (callerA.deeper (lawCx g L fa).env) (execs lawB (lawCx g L fa).env)
      (fun f s' => GoodW PySem.Challenge.rw_qb0002_01.row.claim cl mean' args { heap := g, gens := s₁.gens, drawn := s₁.drawn, toks := s₁.toks, os := s₁.os } (Except.ok (Flow.ret (match f with | Flow.ret v => v | x => Value.none))) s' ∧ GrownAll [(58, 56)] s'.heap)
      E { heap := h, gens := s₁.gens, drawn := s₁.drawn, toks := tk, os := s₁.os } := by
  have hI := ints_of hi
  have hlen : vs.length ≤ 63 := by rw [hI.length]; omega
  have H : Here w (Tp.mk p loose mean mg mb) (lawCx g L fa) m [(L + 8, oV), (L + 7, oE), (L + 6, oB), (L + 5, oA), (L + 4, oK), (L + 3, oR), (L + 2, oW), (L + 1, oX), (56, tabObj #[])] h :=
    ⟨B, X, T, F, N, rfl, fun p hp => (by cases hp), fun p hp => (by cases hp)⟩
  refine noE (wpAny_mono (law_walk (s := s₁) H hV hE hB hA hK hR hW hX hm hl hI hlen C) ?_ fun _ _ x => x)
  rintro f s' ⟨rfl, m', led', h', tk', d, ps, rfl, H', h56⟩
  refine ⟨goodW_bool (L := L) (m := m') H'.F hg (raisesW_false (r := PySem.Challenge.rw_qb0002_01.row.toRowW) fun _ h => nomatch h) (postW_of (r := PySem.Challenge.rw_qb0002_01.row.toRowW) rfl rfl (by decide +kernel)), ⟨⟨ps, ?_⟩, trivial⟩⟩
  exact H'.get h56
end Mine
end

open PySem PySem.W PyProof.Rows
set_option maxRecDepth 100000 in
set_option maxHeartbeats 8000000 in
theorem PySem.Challenge.cw_qb0002_01_holds : PySem.Challenge.rw_qb0002_01.Holds := by
  refine Mine.hd ?_
  k_go0
  rename_i l6 l5 l4 l3 l2 l1 l0' r0 X0 X' T' K' F' N' l0
  exact Mine.law_join X' T' K' F' (by assumption) (by assumption) N' l6 l5 l4 l3 l2 l1 l0' r0 rfl (by assumption) (by assumption) (by assumption)
