import PyProof.Rows.All
import Wide.All
import OpenK.AllK
import Wide.FinOn
import PySem.Challenge.RW_fp5017_01
set_option Elab.async false
namespace Mine
/-- where a walk was told to stop -/
def Stop (P : Prop) : Prop := P
theorem Stop.out {P : Prop} (h : Stop P) : P := h
end Mine

namespace Mine
/-- the four states of record_in -/
inductive Md where
  | inValue
  | inString
  | inEscape
  | out

/-- record_in's state: its mode, what val holds, what results holds -/
structure Rs where
  md : Md
  val : List Nat
  res : List (List Nat)
def Rs.init : Rs := ⟨.out, [], []⟩
/-- one turn of record_in -/
def rstep (r : Rs) (c : Nat) : Rs := match r.md with
  | .inValue => if c = 41 ∨ c = 44 then ⟨.out, [], r.res ++ [r.val]⟩ else ⟨.inValue, r.val ++ [c], r.res⟩
  | .out => if c = 40 ∨ c = 41 ∨ c = 44 then r else if c = 34 then ⟨.inString, r.val, r.res⟩ else ⟨.inValue, r.val ++ [c], r.res⟩
  | .inString => if c = 34 then ⟨.out, [], r.res ++ [r.val]⟩ else if c = 92 then ⟨.inEscape, r.val, r.res⟩ else ⟨.inString, r.val ++ [c], r.res⟩
  | .inEscape => ⟨.inString, r.val ++ [c], r.res⟩
def rrun (r : Rs) (t : List Nat) : Rs := t.foldl rstep r
def pieces (t : List Nat) : List (List Nat) := (rrun .init t).res

theorem rrun_cons (r : Rs) (c : Nat) (t : List Nat) : rrun r (c :: t) = rrun (rstep r c) t := rfl
theorem rrun_nil (r : Rs) : rrun r [] = r := rfl
theorem rrun_append (r : Rs) (a b : List Nat) : rrun r (a ++ b) = rrun (rrun r a) b := List.foldl_append ..
theorem rrun_snoc (r : Rs) (a : List Nat) (c : Nat) : rrun r (a ++ [c]) = rstep (rrun r a) c := by rw [rrun_append]; rfl

/-- what stood in results beforehand stays ahead -/
theorem rstep_pre (p : List (List Nat)) (r : Rs) (c : Nat) : rstep ⟨r.md, r.val, p ++ r.res⟩ c = ⟨(rstep r c).md, (rstep r c).val, p ++ (rstep r c).res⟩ := by
  obtain ⟨md, val, res⟩ := r
  cases md <;> simp only [rstep] <;> (repeat' split) <;> simp
theorem rrun_pre (p : List (List Nat)) (t : List Nat) : ∀ r : Rs, rrun ⟨r.md, r.val, p ++ r.res⟩ t = ⟨(rrun r t).md, (rrun r t).val, p ++ (rrun r t).res⟩ := by
  induction t with
  | nil => intro r; rfl
  | cons c t ih => intro r; rw [rrun_cons, rstep_pre, ih]; rfl
theorem pieces_out (p : List (List Nat)) (t : List Nat) : (rrun ⟨.out, [], p⟩ t).res = p ++ pieces t := by
  have h := rrun_pre p t .init
  simp only [Rs.init, List.append_nil] at h
  rw [h]; rfl
/-- a text that ends outside of every piece -/
def Ends (t : List Nat) : Prop := rrun .init t = ⟨.out, [], pieces t⟩
theorem pieces_append {a b : List Nat} (h : Ends a) : pieces (a ++ b) = pieces a ++ pieces b := by
  unfold pieces
  rw [rrun_append, h]
  exact pieces_out _ _

/-- _multirange_in's inner def -/
structure Ms where
  inr : Bool
  val : List Nat
  res : List (List Nat)
def Ms.init : Ms := ⟨false, [], []⟩
def mstep (m : Ms) (c : Nat) : Ms :=
  if m.inr then (if c = 93 ∨ c = 41 then ⟨false, [], m.res ++ [m.val ++ [c]]⟩ else ⟨true, m.val ++ [c], m.res⟩)
  else (if c = 91 ∨ c = 40 then ⟨true, m.val ++ [c], m.res⟩ else m)
def mrun (m : Ms) (t : List Nat) : Ms := t.foldl mstep m
def stretches (t : List Nat) : List (List Nat) := (mrun .init t).res
theorem mrun_append (r : Ms) (a b : List Nat) : mrun r (a ++ b) = mrun (mrun r a) b := List.foldl_append ..
theorem mrun_snoc (r : Ms) (a : List Nat) (c : Nat) : mrun r (a ++ [c]) = mstep (mrun r a) c := by rw [mrun_append]; rfl
theorem mrun_cons (r : Ms) (c : Nat) (t : List Nat) : mrun r (c :: t) = mrun (mstep r c) t := rfl
/-- nothing opens: nothing turns -/
theorem mrun_off (r : List (List Nat)) (t : List Nat) (h : ∀ c ∈ t, c ≠ 91 ∧ c ≠ 40) : mrun ⟨false, [], r⟩ t = ⟨false, [], r⟩ := by
  induction t with
  | nil => rfl
  | cons c t ih =>
    have hc := h c (.head _)
    rw [mrun_cons]
    simp only [mstep, Bool.false_eq_true, if_false, hc.1, hc.2, or_self]
    exact ih fun x hx => h x (.tail _ hx)
/-- nothing closes: all is kept -/
theorem mrun_on (r : List (List Nat)) (t : List Nat) (h : ∀ c ∈ t, c ≠ 93 ∧ c ≠ 41) : ∀ v, mrun ⟨true, v, r⟩ t = ⟨true, v ++ t, r⟩ := by
  induction t with
  | nil => intro v; simp [mrun]
  | cons c t ih =>
    intro v
    have hc := h c (.head _)
    rw [mrun_cons]
    simp only [mstep, if_true, hc.1, hc.2, or_self, if_false]
    rw [ih fun x hx => h x (.tail _ hx)]
    simp
end Mine

namespace Mine
theorem drop_at {l : List Nat} {k c : Nat} (h : l[k]? = some c) : l.drop k = c :: l.drop (k + 1) := by
  obtain ⟨hk, e⟩ := List.getElem?_eq_some_iff.mp h
  rw [List.drop_eq_getElem_cons hk, e]
theorem lt_at {l : List Nat} {k c : Nat} (h : l[k]? = some c) : k < l.length := (List.getElem?_eq_some_iff.mp h).1
theorem rrun_drop {l : List Nat} {k c : Nat} (h : l[k]? = some c) (r : Rs) : rrun r (l.drop k) = rrun (rstep r c) (l.drop (k + 1)) := by
  rw [drop_at h, rrun_cons]
/-- within a quoted piece that began at i -/
def QI (l : List Nat) (i : Nat) (wd : List Nat) (at_ : Nat) : Prop :=
  wd.length ≤ at_ ∧ i ≤ at_ ∧ ((at_ ≤ l.length ∧ ∀ res, rrun ⟨.inString, [], res⟩ (l.drop i) = rrun ⟨.inString, wd, res⟩ (l.drop at_)) ∨ (at_ = l.length + 1 ∧ ∀ res, (rrun ⟨.inString, [], res⟩ (l.drop i)).res = res))
theorem q_start {l : List Nat} {i : Nat} (h : i ≤ l.length) : QI l i [] i := ⟨Nat.zero_le _, Nat.le_refl _, .inl ⟨h, fun _ => rfl⟩⟩
theorem q_run {l : List Nat} {i k : Nat} {wd : List Nat} (q : QI l i wd k) (h : k < l.length) : ∀ res, rrun ⟨.inString, [], res⟩ (l.drop i) = rrun ⟨.inString, wd, res⟩ (l.drop k) := by
  obtain ⟨_, _, ⟨_, e⟩ | ⟨e, _⟩⟩ := q
  · exact e
  · omega
theorem q_quote {l : List Nat} {i k : Nat} {wd : List Nat} (q : QI l i wd k) (h : l[k]? = some 34) : ∀ res, rrun ⟨.inString, [], res⟩ (l.drop i) = rrun ⟨.out, [], res ++ [wd]⟩ (l.drop (k + 1)) := fun res => by
  rw [q_run q (lt_at h) res, rrun_drop h]; rfl
theorem q_plain {l : List Nat} {i k c : Nat} {wd : List Nat} (q : QI l i wd k) (h : l[k]? = some c) (h1 : c ≠ 34) (h2 : c ≠ 92) : QI l i (wd ++ [c]) (k + 1) := by
  refine ⟨?_, Nat.le_succ_of_le q.2.1, .inl ⟨lt_at h, fun res => ?_⟩⟩
  · rw [List.length_append, List.length_singleton]; exact Nat.succ_le_succ q.1
  · rw [q_run q (lt_at h) res, rrun_drop h]; simp [rstep, h1, h2]
theorem q_esc {l : List Nat} {i k c : Nat} {wd : List Nat} (q : QI l i wd k) (h : l[k]? = some 92) (h1 : l[k + 1]? = some c) : QI l i (wd ++ [c]) (k + 1 + 1) := by
  refine ⟨?_, Nat.le_succ_of_le (Nat.le_succ_of_le q.2.1), .inl ⟨lt_at h1, fun res => ?_⟩⟩
  · rw [List.length_append, List.length_singleton]; have := q.1; omega
  · rw [q_run q (lt_at h) res, rrun_drop h, rrun_drop h1]; simp [rstep]
theorem q_escEnd {l : List Nat} {i k : Nat} {wd : List Nat} (q : QI l i wd k) (h : l[k]? = some 92) (h1 : ¬ k + 1 < l.length) : QI l i wd (k + 1 + 1) := by
  have hk := lt_at h
  have := q.1
  have := q.2.1
  refine ⟨by omega, by omega, .inr ⟨by omega, fun res => ?_⟩⟩
  rw [q_run q hk res, rrun_drop h, List.drop_eq_nil_of_le (by omega)]
  simp [rstep, rrun_nil]
theorem q_end {l : List Nat} {i k : Nat} {wd : List Nat} (q : QI l i wd k) (h : ¬ k < l.length) : ∀ res, (rrun ⟨.inString, [], res⟩ (l.drop i)).res = res := by
  obtain ⟨_, _, ⟨e, r⟩ | ⟨_, r⟩⟩ := q
  · intro res
    rw [r res, List.drop_eq_nil_of_le (by omega)]; rfl
  · exact r
/-- within a bare piece that began at i -/
def BI (l : List Nat) (i k : Nat) : Prop := i < k ∧ k ≤ l.length ∧ ∀ res, rrun ⟨.out, [], res⟩ (l.drop i) = rrun ⟨.inValue, (l.drop i).take (k - i), res⟩ (l.drop k)
theorem take_at {l : List Nat} {i k c : Nat} (hi : i ≤ k) (h : l[k]? = some c) : (l.drop i).take (k - i) ++ [c] = (l.drop i).take (k + 1 - i) := by
  have e : (l.drop i)[k - i]? = some c := by rw [List.getElem?_drop]; rw [show i + (k - i) = k by omega]; exact h
  rw [show k + 1 - i = (k - i) + 1 by omega, List.take_add_one, e]; rfl
theorem b_start {l : List Nat} {i c : Nat} (h : l[i]? = some c) (h1 : ¬ (c = 40 ∨ c = 41 ∨ c = 44)) (h2 : c ≠ 34) : BI l i (i + 1) := by
  refine ⟨Nat.lt_succ_self _, lt_at h, fun res => ?_⟩
  rw [rrun_drop h, show i + 1 - i = 1 by omega, drop_at h]
  simp [rstep, h1, h2]
theorem b_more {l : List Nat} {i k c : Nat} (b : BI l i k) (h : l[k]? = some c) (h1 : ¬ (c = 41 ∨ c = 44)) : BI l i (k + 1) := by
  refine ⟨Nat.lt_succ_of_lt b.1, lt_at h, fun res => ?_⟩
  rw [b.2.2 res, rrun_drop h, ← take_at (Nat.le_of_lt b.1) h]
  simp [rstep, h1]
theorem b_close {l : List Nat} {i k c : Nat} (b : BI l i k) (h : l[k]? = some c) (h1 : c = 41 ∨ c = 44) : ∀ res, rrun ⟨.out, [], res⟩ (l.drop i) = rrun ⟨.out, [], res ++ [(l.drop i).take (k - i)]⟩ (l.drop k) := fun res => by
  rw [b.2.2 res, rrun_drop h, rrun_drop h]
  rcases h1 with h1 | h1 <;> simp [rstep, h1]
theorem b_end {l : List Nat} {i : Nat} (b : BI l i l.length) : ∀ res, (rrun ⟨.out, [], res⟩ (l.drop i)).res = res := fun res => by
  rw [b.2.2 res, List.drop_eq_nil_of_le (Nat.le_refl _)]; rfl
/-- the law's walk: found so far, at k -/
def WI (l : List Nat) (found : List (List Nat)) (k : Nat) : Prop := found.length ≤ k ∧ k ≤ l.length ∧ rrun .init l = rrun ⟨.out, [], found⟩ (l.drop k)
theorem w_start (l : List Nat) : WI l [] 0 := ⟨Nat.le_refl _, Nat.zero_le _, rfl⟩
theorem w_skip {l : List Nat} {found : List (List Nat)} {k c : Nat} (q : WI l found k) (h : l[k]? = some c) (h1 : c = 40 ∨ c = 41 ∨ c = 44) : WI l found (k + 1) := by
  refine ⟨Nat.le_succ_of_le q.1, lt_at h, ?_⟩
  rw [q.2.2, rrun_drop h]; simp [rstep, h1]
theorem w_quoted {l : List Nat} {found : List (List Nat)} {k j : Nat} {wd : List Nat} (q : WI l found k) (h : l[k]? = some 34) (hj : k + 1 < j) (hl : j ≤ l.length)
    (r : ∀ res, rrun ⟨.inString, [], res⟩ (l.drop (k + 1)) = rrun ⟨.out, [], res ++ [wd]⟩ (l.drop j)) : WI l (found ++ [wd]) j := by
  refine ⟨?_, hl, ?_⟩
  · rw [List.length_append, List.length_singleton]; have := q.1; omega
  · rw [q.2.2, rrun_drop h]; exact r _
theorem w_open {l : List Nat} {found : List (List Nat)} {k : Nat} (q : WI l found k) (h : l[k]? = some 34) (r : ∀ res, (rrun ⟨.inString, [], res⟩ (l.drop (k + 1))).res = res) : pieces l = found := by
  unfold pieces
  rw [q.2.2, rrun_drop h]; exact r _
theorem w_bare {l : List Nat} {found : List (List Nat)} {i k c : Nat} (q : WI l found i) (b : BI l i k) (h : l[k]? = some c) (h1 : c = 41 ∨ c = 44) : WI l (found ++ [(l.drop i).take (k - i)]) k := by
  refine ⟨?_, Nat.le_of_lt (lt_at h), ?_⟩
  · rw [List.length_append, List.length_singleton]; have := q.1; have := b.1; omega
  · rw [q.2.2]; exact b_close b h h1 _
theorem w_unended {l : List Nat} {found : List (List Nat)} {i : Nat} (q : WI l found i) (b : BI l i l.length) : pieces l = found := by
  unfold pieces
  rw [q.2.2]; exact b_end b _
theorem w_done {l : List Nat} {found : List (List Nat)} {k : Nat} (q : WI l found k) (h : ¬ k < l.length) : pieces l = found ∧ Ends l := by
  have e := q.2.2
  rw [List.drop_eq_nil_of_le (by omega)] at e
  have e2 : pieces l = found := by unfold pieces; rw [e]; rfl
  refine ⟨e2, ?_⟩
  unfold Ends
  rw [e2, e]; rfl
end Mine

namespace Mine
/-- the first place of a sign from i on -/
def Find1 (l : List Nat) (c i : Nat) (f : Int) : Prop := (f = -1 ∧ ∀ j, i ≤ j → l[j]? ≠ some c) ∨ ∃ k : Nat, f = (k : Int) ∧ i ≤ k ∧ l[k]? = some c ∧ ∀ j, i ≤ j → j < k → l[j]? ≠ some c
/-- the first place of either -/
def FirstAt (l : List Nat) (c1 c2 i : Nat) (r : Int) : Prop := (r = -1 ∧ ∀ j, i ≤ j → l[j]? ≠ some c1 ∧ l[j]? ≠ some c2) ∨ ∃ k : Nat, r = (k : Int) ∧ i ≤ k ∧ (l[k]? = some c1 ∨ l[k]? = some c2) ∧ ∀ j, i ≤ j → j < k → l[j]? ≠ some c1 ∧ l[j]? ≠ some c2
theorem first_none {l : List Nat} {c1 c2 i : Nat} (h1 : Find1 l c1 i (-1)) (h2 : Find1 l c2 i (-1)) : FirstAt l c1 c2 i (-1) := by
  rcases h1 with ⟨_, h1⟩ | ⟨k, e, _⟩
  · rcases h2 with ⟨_, h2⟩ | ⟨k, e, _⟩
    · exact .inl ⟨rfl, fun j hj => ⟨h1 j hj, h2 j hj⟩⟩
    · omega
  · omega
theorem find_neg {l : List Nat} {c i : Nat} (h : Find1 l c i (-1)) : ∀ j, i ≤ j → l[j]? ≠ some c := by
  rcases h with ⟨_, h⟩ | ⟨k, e, _⟩
  · exact h
  · omega
theorem find_pos {l : List Nat} {c i k : Nat} (h : Find1 l c i (k : Int)) : i ≤ k ∧ l[k]? = some c ∧ ∀ j, i ≤ j → j < k → l[j]? ≠ some c := by
  rcases h with ⟨e, _⟩ | ⟨k', e, h⟩
  · omega
  · have : k' = k := by omega
    subst this
    exact h
theorem first_left {l : List Nat} {c1 c2 i k : Nat} (h1 : Find1 l c1 i (k : Int)) (h2 : Find1 l c2 i (-1)) : FirstAt l c1 c2 i (k : Int) :=
  have p := find_pos h1
  .inr ⟨k, rfl, p.1, .inl p.2.1, fun j a b => ⟨p.2.2 j a b, find_neg h2 j a⟩⟩
theorem first_right {l : List Nat} {c1 c2 i k : Nat} (h1 : Find1 l c1 i (-1)) (h2 : Find1 l c2 i (k : Int)) : FirstAt l c1 c2 i (k : Int) :=
  have p := find_pos h2
  .inr ⟨k, rfl, p.1, .inr p.2.1, fun j a b => ⟨find_neg h1 j a, p.2.2 j a b⟩⟩
theorem first_both {l : List Nat} {c1 c2 i k1 k2 : Nat} {r : Int} (h1 : Find1 l c1 i (k1 : Int)) (h2 : Find1 l c2 i (k2 : Int)) (hr : r = (k1 : Int) ∨ r = (k2 : Int)) (a1 : r ≤ (k1 : Int)) (a2 : r ≤ (k2 : Int)) : FirstAt l c1 c2 i r := by
  have p1 := find_pos h1
  have p2 := find_pos h2
  rcases hr with rfl | rfl
  · exact .inr ⟨k1, rfl, p1.1, .inl p1.2.1, fun j a b => ⟨p1.2.2 j a b, p2.2.2 j a (by omega)⟩⟩
  · exact .inr ⟨k2, rfl, p2.1, .inr p2.2.1, fun j a b => ⟨p1.2.2 j a (by omega), p2.2.2 j a b⟩⟩
theorem mem_drop_at {l : List Nat} {i c : Nat} (h : c ∈ l.drop i) : ∃ j, i ≤ j ∧ l[j]? = some c := by
  obtain ⟨j, hj⟩ := List.getElem?_of_mem h
  rw [List.getElem?_drop] at hj
  exact ⟨i + j, Nat.le_add_right _ _, hj⟩
theorem mem_take_drop_at {l : List Nat} {i k c : Nat} (h : c ∈ (l.drop i).take (k - i)) : ∃ j, i ≤ j ∧ j < k ∧ l[j]? = some c := by
  obtain ⟨j, hj⟩ := List.getElem?_of_mem h
  have hlt := (List.getElem?_eq_some_iff.mp hj).1
  rw [List.getElem?_take] at hj
  split at hj
  · rw [List.getElem?_drop] at hj
    rw [List.length_take] at hlt
    exact ⟨i + j, Nat.le_add_right _ _, by omega, hj⟩
  · cases hj
theorem drop_split (l : List Nat) {i k : Nat} (h : i ≤ k) : l.drop i = (l.drop i).take (k - i) ++ l.drop k := by
  have e := List.take_append_drop (k - i) (l.drop i)
  rw [List.drop_drop, show i + (k - i) = k by omega] at e
  exact e.symm
/-- the law's stretches: found so far, at i -/
def SI (l : List Nat) (found : List (List Nat)) (i : Nat) : Prop := found.length ≤ i ∧ i ≤ l.length ∧ mrun .init l = mrun ⟨false, [], found⟩ (l.drop i)
theorem s_start (l : List Nat) : SI l [] 0 := ⟨Nat.le_refl _, Nat.zero_le _, rfl⟩
/-- nothing opens any more -/
theorem s_none {l : List Nat} {found : List (List Nat)} {i : Nat} (q : SI l found i) (h : FirstAt l 91 40 i (-1)) : stretches l = found := by
  unfold stretches
  rw [q.2.2, mrun_off]
  rcases h with ⟨_, h⟩ | ⟨k, e, _⟩
  · intro c hc
    obtain ⟨j, hj, hc'⟩ := mem_drop_at hc
    exact ⟨fun e => (h j hj).1 (e ▸ hc'), fun e => (h j hj).2 (e ▸ hc')⟩
  · omega
theorem s_begun {l : List Nat} {found : List (List Nat)} {i b : Nat} (q : SI l found i) (h : FirstAt l 91 40 i (b : Int)) : ∃ c, l[b]? = some c ∧ i ≤ b ∧ mrun .init l = mrun ⟨true, [c], found⟩ (l.drop (b + 1)) := by
  rcases h with ⟨e, _⟩ | ⟨k, e, hik, hc, hn⟩
  · omega
  · have : k = b := by omega
    subst this
    obtain ⟨c, hc, hcc⟩ : ∃ c, l[k]? = some c ∧ (c = 91 ∨ c = 40) := by
      rcases hc with hc | hc
      · exact ⟨_, hc, .inl rfl⟩
      · exact ⟨_, hc, .inr rfl⟩
    refine ⟨c, hc, hik, ?_⟩
    rw [q.2.2, drop_split l hik, mrun_append, mrun_off, drop_at hc, mrun_cons]
    · rcases hcc with rfl | rfl <;> rfl
    · intro x hx
      obtain ⟨j, hj, hjk, hx'⟩ := mem_take_drop_at hx
      exact ⟨fun e => (hn j hj hjk).1 (e ▸ hx'), fun e => (hn j hj hjk).2 (e ▸ hx')⟩
/-- an opened stretch is never closed -/
theorem s_open {l : List Nat} {found : List (List Nat)} {i b : Nat} (q : SI l found i) (h : FirstAt l 91 40 i (b : Int)) (h2 : FirstAt l 93 41 (b + 1) (-1)) : stretches l = found := by
  obtain ⟨c, hc, hib, e⟩ := s_begun q h
  unfold stretches
  rw [e, mrun_on]
  rcases h2 with ⟨_, h2⟩ | ⟨k, e, _⟩
  · intro x hx
    obtain ⟨j, hj, hx'⟩ := mem_drop_at hx
    exact ⟨fun e => (h2 j hj).1 (e ▸ hx'), fun e => (h2 j hj).2 (e ▸ hx')⟩
  · omega
/-- one more stretch -/
theorem s_more {l : List Nat} {found : List (List Nat)} {i b e : Nat} (q : SI l found i) (h : FirstAt l 91 40 i (b : Int)) (h2 : FirstAt l 93 41 (b + 1) (e : Int)) :
    i ≤ b ∧ b < e ∧ e < l.length ∧ SI l (found ++ [(l.drop b).take (e + 1 - b)]) (e + 1) := by
  obtain ⟨c, hc, hib, hrun⟩ := s_begun q h
  rcases h2 with ⟨e', _⟩ | ⟨k, e', hbk, hd, hn⟩
  · omega
  · have : k = e := by omega
    subst this
    obtain ⟨d, hd, hdd⟩ : ∃ d, l[k]? = some d ∧ (d = 93 ∨ d = 41) := by
      rcases hd with hd | hd
      · exact ⟨_, hd, .inl rfl⟩
      · exact ⟨_, hd, .inr rfl⟩
    refine ⟨hib, hbk, lt_at hd, ?_, lt_at hd, ?_⟩
    · rw [List.length_append, List.length_singleton]; have := q.1; omega
    · rw [hrun, drop_split l hbk, mrun_append, mrun_on, drop_at hd, mrun_cons]
      · have e1 : (l.drop b).take (k + 1 - b) = [c] ++ (l.drop (b + 1)).take (k - (b + 1)) ++ [d] := by
          rw [drop_at hc, show k + 1 - b = (k - b) + 1 by omega, List.take_succ_cons]
          have := take_at hbk hd
          rw [show k + 1 - (b + 1) = k - b by omega] at this
          rw [← this]; rfl
        rw [e1]
        rcases hdd with rfl | rfl <;> simp [mstep]
      · intro x hx
        obtain ⟨j, hj, hjk, hx'⟩ := mem_take_drop_at hx
        exact ⟨fun e => (hn j hj hjk).1 (e ▸ hx'), fun e => (hn j hj hjk).2 (e ▸ hx')⟩
end Mine

open PySem PySem.W PyProof.Rows
namespace Mine
/-- the second of three -/
def Kept {T W S : Prop} (_ : False → T ∧ W ∧ S) : Prop := W
set_option maxRecDepth 100000 in
set_option maxHeartbeats 8000000 in
/-- what the law's call is to do, as the head asks it -/
def WalkT : Prop := by
  refine' Kept (T := _) (W := _) (S := PySem.Challenge.rw_fp5017_01.row.Holds) (fun no => ⟨?hl, ?hc, ?p⟩)
  case p =>
    k_head
    case hw => w_witness2
  case hl => exact no.elim
  case hc => exact no.elim
end Mine

open PySem PySem.W PyProof.Rows PySem.Calls
namespace Mine
/-- what a call of the def at f upon vs, over the ledger news, gives -/
def Con (w : World) (d : Nat) (f : Addr) (news : List (Addr × Obj)) (vs : List Value) (P : Value → List (Addr × Obj) → Prop) : Prop :=
  ∀ (p : Program) (loose : List Str) (mean : ExcName → Option Value) (mg mb : Str → Option Value) (dp un : Nat) (gd : Option (List Code)) (cn : Str) (cs : Scope) (a : Addr) (ccd : Value) (cl : List (Str × Addr)) (outer : List Env) (A₀ : Around) (base h₀ : Heap) (L : Addr) (m : Str → Option Value) (s : Shared) (Q E : Value → Shared → Prop),
    Below A₀ base outer h₀ → Fr h₀ L s.heap m → (WalkT.heap_1 w.params).In h₀ → News h₀ L s.heap news → Top p loose mean mg mb h₀ → cs.kind = .function → dp + (4 * d + 4) < recursionLimit → un + (40 * d + 80) < cLine →
    (∀ v news' h' tk', P v news' → Fr h₀ L h' m → News h₀ L h' news' → Q v { s with heap := h', toks := tk' }) →
    wpAny (model PySem.Challenge.rw_fp5017_01.row.prog w) (ktrTop dp un gd cn cs L a ccd cl outer) (call (.ref f) vs) Q E s
/-- the end of a def's body -/
def Done (g : Heap) (L : Addr) (s₀ : Shared) (P : Value → List (Addr × Obj) → Prop) (fl : Flow) (s' : Shared) : Prop :=
  ∃ v h' tk' m' news', (match fl with | .ret u => u | _ => Value.none) = v ∧ s' = { s₀ with heap := h', toks := tk' } ∧ Fr g L h' m' ∧ News g L h' news' ∧ P v news'
theorem done_ret {g : Heap} {L : Addr} {s₀ : Shared} {P : Value → List (Addr × Obj) → Prop} {v : Value} {h' : Heap} {tk' : Nat} {m' : Str → Option Value} {news' : List (Addr × Obj)} (F : Fr g L h' m') (N : News g L h' news') (hp : P v news') :
    Done g L s₀ P (.ret v) { s₀ with heap := h', toks := tk' } := ⟨v, h', tk', m', news', rfl, rfl, F, N, hp⟩
def bindM : List (Str × Value) → Str → Option Value
  | [], _ => none
  | (x, v) :: r, y => if y = x then some v else bindM r y
theorem bindM_eq : ∀ l : List (Str × Value), (fun y => l.lookup y) = bindM l
  | [] => rfl
  | (x, v) :: r => by
    funext y
    have ih := congrFun (bindM_eq r) y
    show List.lookup y ((x, v) :: r) = if y = x then some v else bindM r y
    rw [List.lookup_cons]
    by_cases h : y = x
    · subst h; simp
    · have : (y == x) = false := by simpa using h
      rw [this, if_neg h, ih]
/-- a def's body, walked once, from a frame of its own -/
def Body (w : World) (d : Nat) (qual : Str) (scope : Scope) (f : Addr) (cdv : Value) (body : List Stmt) (rb : List (Str × Value)) (news : List (Addr × Obj)) (P : Value → List (Addr × Obj) → Prop) : Prop :=
  ∀ (p : Program) (loose : List Str) (mean : ExcName → Option Value) (mg mb : Str → Option Value) (dp un : Nat) (gd : Option (List Code)) (outer : List Env) (A₀ : Around) (base g : Heap) (L : Addr) (s : Shared),
    Below A₀ base outer g → Fr g L s.heap (bindM rb) → News g L s.heap news → (∀ p ∈ news, p.1 < L) → (WalkT.heap_1 w.params).In g → Top p loose mean mg mb g → dp + (4 * d + 3) < recursionLimit → un + (40 * d + 77) < cLine →
    wpAny (model PySem.Challenge.rw_fp5017_01.row.prog w) (ktrTop dp un gd qual scope L f cdv [] outer) (execs body (envOf qual scope L f cdv)) (Done g L s P) (fun _ _ => False) s
theorem con_of {w : World} {d : Nat} {f : Addr} {news : List (Addr × Obj)} {vs : List Value} {P : Value → List (Addr × Obj) → Prop} {name qual : Str} {params : Arguments} {body : List Stmt} {scope : Scope} {dV kV doc pm cdv ct oc : Value} {an od : Option Addr} {osl : Array (Option Value)} (binds : List (Str × Value))
    (ho : (WalkT.heap_1 w.params).lookup f = some ⟨oc, od, .func (fnOf name qual params body scope dV kV doc pm an cdv ct), osl⟩) (hcd : codeIn (WalkT.heap_1 w.params) cdv qual = true)
    (hbind : ∀ s, BindsTo s (fnOf name qual params body scope dV kV doc pm an cdv ct) ⟨vs, []⟩ binds) (hloc : ∀ y ∈ binds, scope.names.lookup y.1 = some .local)
    (hco : scope.isCoroutine = false) (hgen : scope.isGenerator = false) (hk : scope.kind = .function) (hcell : ∀ x ∈ scope.names, x.2 ≠ .cell)
    (hb : Body w d qual scope f cdv body binds.reverse news P) : Con w d f news vs P := by
  intro p loose mean mg mb dp un gd cn cs a ccd cl outer A₀ base h₀ L m s Q E B F X N T hks hdp hun hret
  refine wpAny_call (callX_plain (cl := []) (binds := binds) B F N T.nolimit rfl rfl hks ((X.keeps F.keep) _ _ ho) rfl (codeRec_of (X.keeps F.keep) hcd) (by show dp < recursionLimit; omega) (hbind s) hloc ?_ hcell hco hgen hk)
  intro g L' h₁ FG F' N' B' st lt
  rw [bindM_eq] at F'
  refine wpAny_mono (hb p loose mean mg mb (dp + 1) (un + 3) gd (envX cn cs L a ccd cl :: outer) _ base g L' { s with heap := h₁, toks := s.toks + binds.length } B' F' N' lt (X.keeps st) (T.keeps st) (by omega) (by omega)) ?_ (fun _ _ x => x.elim)
  rintro fl s' ⟨v, h', tk', m', news', rfl, rfl, F2, N2, hp⟩
  exact ⟨L', m', news', F2, N2, fun F3 N3 => hret _ _ _ _ hp F3 N3⟩
end Mine

open PySem PySem.W PyProof.Rows PySem.Calls
namespace Mine
section
variable {prog : Program} {w : World} {A : Around} {E : Value → Shared → Prop} {s : Shared} {K : Frag} {a b C : Addr}
theorem en_special {y : Value} {r : Value} {Q : Option Value → Shared → Prop} (X : K.In s.heap) (ha : typeIn K (.ref a) = some (.ref C)) (hf : findIn K (.ref C) "__eq__" = some (some (.builtin "object.__eq__"))) (hi : instIn K (.ref a) (.type "object") = some true)
    (hb : ∀ (A' : Around) (P : Fin → Shared → Prop) (E' : Value → Shared → Prop), P (.done (.ret r)) s → wpAny (model prog w) A' (Builtin.«object.__eq__» ⟨[.ref a, y], []⟩) P E' s)
    (h : Q (some r) s) : wpAny (model prog w) A (callSpecialIfBound? (.ref a) "__eq__" [y]) Q E s := by
  simp only [callSpecialIfBound?, bindSpecialIfBound?]
  refine wpAny_holding (wpAny_bind (wpAny_bind ?_))
  refine (looks_specialIn (M := model prog w) X (name := "__eq__") (v := .ref a) (r := some (.builtin "object.__eq__")) (by unfold specialIn; rw [ha]; exact hf)).here ?_
  simp only [F.cmp_object.eq.bind]
  refine wpAny_bind (wpAny_askSetting (wpAny_ite ?_))
  have fin : wpAny (model prog w) A (call (.builtin "object.__eq__") ([.ref a] ++ [y]) >>= fun v => pure (some v)) Q E s := by
    refine wpAny_bind (wpAny_call (codeAny_call_builtin F.cmp_object.eq.plain F.cmpEntry_eq (check_slot F.cmpKind_eq F.cmpSplit_eq (looks_instIn X hi) (F.cmpArgs_eq _ _) ?_)))
    exact hb _ _ _ (wpAny_pure h)
  split
  · exact wpAny_bind (wpAny_pure (wpAny_pure fin))
  · exact wpAny_tryCatch (wpAny_bind (wpAny_pure (wpAny_pure fin)))
theorem en_eq {Q : Value → Shared → Prop} (hu : A.units < cLine) (X : K.In s.heap) (ha : typeIn K (.ref a) = some (.ref C)) (hb : typeIn K (.ref b) = some (.ref C)) (hf : findIn K (.ref C) "__eq__" = some (some (.builtin "object.__eq__")))
    (hia : instIn K (.ref a) (.type "object") = some true) (hib : instIn K (.ref b) (.type "object") = some true) (h : Q (.bool (a == b)) s) :
    wpAny (model prog w) A (compareOp .Eq (.ref a) (.ref b)) Q E s := by
  show wpAny _ _ (richCompare .Eq (.ref a) (.ref b)) Q E s
  obtain ⟨oa, hoa, hca⟩ := Option.map_eq_some_iff.mp ha
  obtain ⟨ob, hob, hcb⟩ := Option.map_eq_some_iff.mp hb
  have ga := X _ _ hoa
  have gb := X _ _ hob
  unfold richCompare
  simp only [oneThing_ref, cmpInfo_Eq]
  refine wpAny_holding (wpAny_bind (wpAny_cRoomFor hu ?_))
  refine wpAny_bind ((looks_typeIn X ha).here (wpAny_bind ((looks_typeIn X hb).here ?_)))
  simp only [bne_self_eq_false, Bool.false_eq_true, if_false]
  refine wpAny_bind (wpAny_pure ?_)
  by_cases e : a = b
  · subst e
    simp only [Bool.false_eq_true, if_false, tryCompare]
    refine wpAny_bind (wpAny_bind (en_special X ha hf hia (fun _ _ _ hp => objEq_entry_same hp) (wpAny_pure (wpAny_pure ?_))))
    simpa using h
  · have e' : (a == b) = false := by simpa using e
    rw [e'] at h
    simp only [Bool.false_eq_true, if_false, tryCompare, Bool.not_false, if_true]
    refine wpAny_bind (wpAny_bind (en_special X ha hf hia (fun _ _ _ hp => objEq_entry_other e ga gb (by rw [hca]; intro q; cases q) hp) (wpAny_pure ?_)))
    refine wpAny_bind (wpAny_bind (en_special X hb hf hib (fun _ _ _ hp => objEq_entry_other (Ne.symm e) gb ga (by rw [hcb]; intro q; cases q) hp) (wpAny_pure ?_)))
    refine wpAny_bind (wpAny_rule (wpAny_bind (wpAny_isSame_ref_other e ga gb (by rw [hca]; intro q; cases q) (wpAny_pure h))))
end
end Mine

open PySem PySem.W PyProof.Rows PySem.Calls
namespace Mine
/-- one sign, a text, as the model bears them -/
def ch (c : Nat) : Str := ⟨#[c]⟩
def tx (l : List Nat) : Str := ⟨l.toArray⟩
theorem tx_length (l : List Nat) : (tx l).length = l.length := by simp [tx, Str.length]
theorem ch_length (c : Nat) : (ch c).length = 1 := rfl
theorem strs_snoc {us : List Value} {ws : List Str} {x : Str} {t : Tok} (h : StrsAre us ws) : StrsAre (us ++ [.str x t]) (ws ++ [x]) := KStt.strs_snoc h
theorem tx_ch (c : Nat) : tx [c] = ch c := rfl
theorem tx_append (a b : List Nat) : tx (a ++ b) = tx a ++ tx b := by
  refine Str.ext' (Array.toList_inj.mp ?_)
  rw [Str.cps_append, Array.toList_append]
  simp [tx]
theorem tx_inj {a b : List Nat} (h : tx a = tx b) : a = b := by
  have := congrArg (fun x => x.cps.toList) h
  simpa [tx] using this
theorem join_chs (l : List Nat) : Str.join (Str.ofString "") (l.map ch) = tx l := by
  induction l with
  | nil => rfl
  | cons c l ih =>
    cases l with
    | nil => rfl
    | cons d l =>
      rw [List.map_cons, List.map_cons, join_cons_cons, ← List.map_cons, ih]
      have e : Str.ofString "" = Str.empty := by decide +kernel
      rw [e, show tx (c :: d :: l) = tx ([c] ++ (d :: l)) from rfl, tx_append, tx_ch]
      rw [Str.append_empty]
section
variable {prog : Program} {w : World} {A : Around} {E : Value → Shared → Prop} {s : Shared} {h₀ h : Heap} {L D : Addr} {m : Str → Option Value} {news : List (Addr × Obj)} {us : List Value} {n : Nat}
theorem ch_weight (l : List Nat) : ((l.map ch).map (·.length)).sum + (l.map ch).length = 2 * l.length := by
  induction l with
  | nil => rfl
  | cons c l ih => simp only [List.map_cons, List.sum_cons, List.length_cons, ch_length] at ih ⊢; omega
theorem my_join {l : List Nat} {t : Tok} {Q : Value → Shared → Prop} (N : News h₀ L s.heap news) (hm : (D, listOf us.toArray n) ∈ news) (hi : StrsAre us (l.map ch)) (hl : l.length ≤ 100000)
    (h : ∀ t' k, Q (.str (tx l) t') { s with toks := k }) : wpAny (model prog w) A (call (.builtin "str.join") [.str (Str.ofString "") t, .ref D]) Q E s := by
  refine join_listW (ys := l.map ch) (News.isList N hm) hi (by decide +kernel) (by rw [ch_weight]; omega) fun t' k => ?_
  have e : Txt.join (Str.ofString "") (l.map ch) = tx l := (beq_iff_eq.mp (join_plain_closes _ _)).trans (join_chs l)
  rw [e]
  exact h t' k
theorem my_clear {news' : Nat → List (Addr × Obj)} {Q : Value → Shared → Prop} (F : Fr h₀ L s.heap m) (N : News h₀ L s.heap news) (U : ∀ k, Upd D (listOf us.toArray n) (listOf #[] k) news (news' k)) (hz : us.length ≤ 100000)
    (h : ∀ k h', Fr h₀ L h' m → News h₀ L h' (news' k) → Q .none { s with heap := h' }) : wpAny (model prog w) A (call (.builtin "list.clear") [.ref D]) Q E s := by
  have hm : (D, listOf us.toArray n) ∈ news := by
    obtain ⟨pre, post, rfl, _, _, _⟩ := (U 0).split
    exact List.mem_append.mpr (.inr (.head _))
  have z := N _ hm
  refine call_meets PySem.F.slot_list_clear ⟨_, z.1, rfl⟩ PySem.F.entry_list_clear (PySem.F.args_list_clear_1 _) (PySem.AutoSeq1.list_clear_list_0 D us.toArray n (by rw [PySem.sizeLine_eq, List.size_toArray]; omega)) ⟨z.1, ?_⟩
  have fr := F.change (h' := s.heap.update D (Obj.mapSeq fun _ => #[])) (Heap.SameBut.update ..) z.2.1 z.2.2
  have q := PySem.IsL.update z.1 (fun _ => (#[] : Array Value))
  obtain ⟨k, hk⟩ : ∃ k, (s.heap.update D (Obj.mapSeq fun _ => #[])).get? D = some (listOf #[] k) := ⟨_, q⟩
  obtain ⟨pre, post, e1, e2, a, c⟩ := (U k).split
  refine h k _ fr ?_
  rw [e2]
  rw [e1] at N
  exact news_set N a c (Heap.SameBut.update ..) hk
end
end Mine
namespace Mine
section
variable {prog : Program} {w : World} {A : Around} {E : Value → Shared → Prop} {s : Shared} {Q : Value → Shared → Prop}
/-- a comparison whose outcome stands in the context -/
theorem eq_known {x y : Str} {t t' : Tok} {b : Bool} (e : (x == y) = b) (hq : Q (.bool b) s) : wpAny (model prog w) A (compareOp .Eq (.str x t) (.str y t')) Q E s :=
  P.eq_str (by rw [eq_meets, e]; exact hq)
theorem in_known {n : Nat} {y : Str} {t t' : Tok} {b : Bool} (e : decide (n ∈ y.cps.toList) = b) (hq : Q (.bool b) s) : wpAny (model prog w) A (compareOp .In (.str ⟨#[n]⟩ t) (.str y t')) Q E s :=
  PyProof.Rows.in_str (by rw [StrLaws.found_one, e]; exact hq)
theorem tup_known {a : Addr} {items : Array Value} {ys : List Str} {x : Str} {u : Tok} {b : Bool} (ht : IsTup s.heap a items) (hi : StrsAre items.toList ys) (e : ys.any (· == x) = b) (hq : Q (.bool b) s) :
    wpAny (model prog w) A (compareOp .In (.str x u) (.ref a)) Q E s := in_tuple_strs ht hi (by rw [e]; exact hq)
end
theorem sgn_eq (n d : Nat) (y : Str) (h : y = ch d) : ((⟨#[n]⟩ : Str) == y) = decide (n = d) := by
  subst h
  rw [Bool.eq_iff_iff, beq_iff_eq, decide_eq_true_eq]
  constructor
  · intro q
    have := congrArg (fun x => x.cps.toList) q
    simpa [ch] using this
  · intro q; rw [q]; rfl
theorem sgn_in3 (n : Nat) : decide (n ∈ (Str.ofString "(),").cps.toList) = decide (n = 40 ∨ n = 41 ∨ n = 44) := by
  rw [show (Str.ofString "(),").cps.toList = [40, 41, 44] from by decide +kernel]
  simp
theorem sgn_tup (n : Nat) : ([Str.ofString ")", Str.ofString ","] : List Str).any (· == (⟨#[n]⟩ : Str)) = decide (n = 41 ∨ n = 44) := by
  have e1 : (Str.ofString ")" == (⟨#[n]⟩ : Str)) = decide (n = 41) := by rw [BEq.comm]; exact sgn_eq n 41 _ (by decide +kernel)
  have e2 : (Str.ofString "," == (⟨#[n]⟩ : Str)) = decide (n = 44) := by rw [BEq.comm]; exact sgn_eq n 44 _ (by decide +kernel)
  simp [e1, e2]
theorem sgn_quote (n : Nat) : ((⟨#[n]⟩ : Str) == Str.ofString "\"") = decide (n = 34) := sgn_eq n 34 _ (by decide +kernel)
theorem sgn_stroke (n : Nat) : ((⟨#[n]⟩ : Str) == Str.ofString "\\") = decide (n = 92) := sgn_eq n 92 _ (by decide +kernel)
theorem txt_empty {l : List Nat} (h : l ≠ []) : (tx l == Str.ofString "") = false := by
  rw [beq_eq_false_iff_ne]
  intro q
  exact h (tx_inj (q.trans (by decide +kernel : Str.ofString "" = tx [])))
end Mine
namespace Mine
abbrev tupOf (vs : List Value) : Obj := { cls := .type "tuple", data := .seq vs.toArray }
def cn (x : Str) : List Nat := x.cps.toList
theorem cn_tx (l : List Nat) : cn (tx l) = l := by simp [cn, tx]
theorem tx_cn (x : Str) : tx (cn x) = x := by simp [cn, tx]
theorem cn_length (x : Str) : (cn x).length = x.length := by simp [cn, Str.length]
theorem codes_cn (x : Str) : (KStt.codes x).map Int.toNat = cn x := by
  unfold KStt.codes cn
  rw [List.map_map]
  exact (List.map_congr_left (g := _root_.id) fun c _ => Int.toNat_natCast c).trans (List.map_id _)
theorem pr_snoc {pre : List Int} {r : Rs} {n : Nat} (h : rrun .init (pre.map Int.toNat) = r) : rrun .init ((pre ++ [(n : Int)]).map Int.toNat) = rstep r n := by
  rw [List.map_append, List.map_cons, List.map_nil, Int.toNat_natCast, rrun_snoc, h]
end Mine

open PySem PySem.W PyProof.Rows PySem.Calls
namespace Mine
/-- the sign at a place -/
def At (x : Str) (j : Int) (c : Nat) : Prop := ∃ k : Nat, j = (k : Int) ∧ (cn x)[k]? = some c
theorem at_of {x : Str} {k c : Nat} (h : (cn x)[k]? = some c) : At x (k : Int) c := ⟨k, rfl, h⟩
theorem at_of1 {x : Str} {k c : Nat} (h : (cn x)[k + 1]? = some c) : At x ((k : Int) + 1) c := ⟨k + 1, rfl, h⟩
section
variable {prog : Program} {w : World} {A : Around} {E : Value → Shared → Prop} {s : Shared}
theorem my_item {value slice : PySem.Expr} {x : Str} {t u : Tok} {j : Int} {c : Nat} {Q : Value → Shared → Prop} (hc : At x j c) (hl : x.length ≤ 1000) (h : ∀ t', Q (.str ⟨#[c]⟩ t') { s with toks := s.toks + 1 })
    (hs : subscripted slice false (.str x t) (.int j u) = operate [.str x t, .int j u] (getItem (.str x t) (.int j u)) := by with_unfolding_all rfl)
    (ht : ∀ r, letTemporaryGo value (.str x t) r = pure () := by intro _; with_unfolding_all rfl) :
    wpAny (model prog w) A (subscriptTail value slice (.str x t) (.int j u)) Q E s := by
  obtain ⟨k, rfl, hk⟩ := hc
  have hlt := lt_at hk
  rw [cn_length] at hlt
  refine item_str (fitsSsize_of (N := 9223372036854775808) (by omega) (by omega) (Int.le_refl _)) (by omega) (by omega) (fun _ => ?_) hs ht
  have e : Txt.item x (k : Int) = ⟨#[c]⟩ := by
    rw [item_meets ⟨by omega, by omega⟩]
    have : x.cps.getD ((k : Int).toNat) 0 = c := by
      rw [Int.toNat_natCast]
      have hk' : x.cps[k]? = some c := by simpa [cn] using hk
      rw [Array.getD_eq_getD_getElem?, hk']; rfl
    rw [this]
  rw [e]
  exact h _
theorem lt_known {a b : Int} {t u : Tok} {r : Bool} {Q : Value → Shared → Prop} (e : decide (a < b) = r) (h : Q (.bool r) s) : wpAny (model prog w) A (compareOp .Lt (.int a t) (.int b u)) Q E s :=
  P.lt_int (by rw [e]; exact h)
theorem eqi_known {a b : Int} {t u : Tok} {r : Bool} {Q : Value → Shared → Prop} (e : (a == b) = r) (h : Q (.bool r) s) : wpAny (model prog w) A (compareOp .Eq (.int a t) (.int b u)) Q E s :=
  PyProof.Rows.eq_int (by rw [e]; exact h)
theorem my_iadd {l : List Nat} {c : Nat} {t u : Tok} {Q : Value → Shared → Prop} (hl : l.length ≤ 100000) (h : ∀ t' k, Q (.str (tx (l ++ [c])) t') { s with toks := k }) : wpAny (model prog w) A (inplaceOp .Add (.str (tx l) t) (.str ⟨#[c]⟩ u)) Q E s := by
  have e : tx l ++ (⟨#[c]⟩ : Str) = tx (l ++ [c]) := (tx_append l [c]).symm
  refine SBL.iadd (fun t' k hh => ?_) (by
    rw [tx_length, PySem.sizeLine_eq]; show l.length + 1 ≤ _; omega)
  rw [e]
  exact h t' k
theorem my_len {x : Str} {t : Tok} {Q : Value → Shared → Prop} (hl : x.length ≤ 1000) (h : ∀ t', Q (.int (x.length : Int) t') { s with toks := s.toks + 1 + 1 }) : wpAny (model prog w) A (call (.builtin "len") [.str x t]) Q E s :=
  P.len_str (by omega) (h _)
end
end Mine
namespace Mine
theorem my_slice (x : Str) {i k : Nat} (h1 : i ≤ k) (h2 : k ≤ (cn x).length) : Txt.slice x (some (i : Int)) (some (k : Int)) = tx (((cn x).drop i).take (k - i)) := by
  rw [cn_length] at h2
  have e := beq_iff_eq.mp (slice_closesL (x := x) (i := (i : Int)) (j := (k : Int)) (by omega) (by omega) (by omega))
  rw [e]
  have e1 : ((k : Int) - (i : Int)).toNat = k - i := by omega
  rw [e1, Int.toNat_natCast]
  rfl
theorem strs_snoc' {us : List Value} {ws : List Str} {y z : Str} {t : Tok} (h : StrsAre us ws) (e : y = z) : StrsAre (us ++ [.str y t]) (ws ++ [z]) := by subst e; exact strs_snoc h
theorem con_use {w : World} {d : Nat} {f : Addr} {news : List (Addr × Obj)} {vs : List Value} {P : Value → List (Addr × Obj) → Prop} (c : Con w d f news vs P)
    {p : Program} {loose : List Str} {mean : ExcName → Option Value} {mg mb : Str → Option Value} {dp un : Nat} {gd : Option (List Code)} {cn : Str} {cs : Scope} {a : Addr} {ccd : Value} {cl : List (Str × Addr)} {outer : List Env} {A₀ : Around} {base h₀ : Heap} {L : Addr} {m : Str → Option Value} {s : Shared} {Q E : Value → Shared → Prop}
    (B : Below A₀ base outer h₀) (F : Fr h₀ L s.heap m) (X : (WalkT.heap_1 w.params).In h₀) (N : News h₀ L s.heap news) (T : Top p loose mean mg mb h₀) (hk : cs.kind = .function) (hd : dp + (4 * d + 4) < recursionLimit) (hu : un + (40 * d + 80) < cLine)
    (ret : ∀ v news' h' tk', P v news' → Fr h₀ L h' m → News h₀ L h' news' → Q v { s with heap := h', toks := tk' }) :
    wpAny (model PySem.Challenge.rw_fp5017_01.row.prog w) (ktrTop dp un gd cn cs L a ccd cl outer) (call (.ref f) vs) Q E s :=
  c p loose mean mg mb dp un gd cn cs a ccd cl outer A₀ base h₀ L m s Q E B F X N T hk hd hu ret
end Mine
namespace Mine
theorem notin_known {prog : Program} {w : World} {A : Around} {E : Value → Shared → Prop} {s : Shared} {Q : Value → Shared → Prop} {n : Nat} {y : Str} {t t' : Tok} {b : Bool} (e : (!decide (n ∈ y.cps.toList)) = b) (hq : Q (.bool b) s) :
    wpAny (model prog w) A (compareOp .NotIn (.str ⟨#[n]⟩ t) (.str y t')) Q E s :=
  PyProof.Rows.notIn_str (by rw [StrLaws.found_one, e]; exact hq)
theorem sgn_notin2 (n : Nat) : (!decide (n ∈ (Str.ofString "),").cps.toList)) = !decide (n = 41 ∨ n = 44) := by
  rw [show (Str.ofString "),").cps.toList = [41, 44] from by decide +kernel]
  simp
/-- the inner while of the walk -/
def BJ (l : List Nat) (i e : Nat) : Prop := i ≤ e ∧ e ≤ l.length ∧ (e = i ∨ BI l i e)
end Mine

open PySem PySem.W PyProof.Rows PySem.Calls
namespace Mine
/-- a def's body whose locals are captured -/
def BodyC (w : World) (d : Nat) (qual : Str) (scope : Scope) (f : Addr) (cdv : Value) (body : List Stmt) (binds : List (Str × Value)) (news : List (Addr × Obj)) (P : Value → List (Addr × Obj) → Prop) : Prop :=
  ∀ (p : Program) (loose : List Str) (mean : ExcName → Option Value) (mg mb : Str → Option Value) (dp un : Nat) (gd : Option (List Code)) (outer : List Env) (A₀ : Around) (base g : Heap) (L : Addr) (s : Shared) (cells : List (Addr × Obj)),
    Below A₀ base outer g → Fr g L s.heap (bindL (envOfC qual scope L f cdv).kindOf binds fun _ => none) → News g L s.heap (cells ++ news) → CellsAre (bindC (envOfC qual scope L f cdv).kindOf binds fun _ => none) (cellsFrom (L + 1) scope.names []) cells → (∀ p ∈ news, p.1 < L) →
    (WalkT.heap_1 w.params).In g → Top p loose mean mg mb g → dp + (4 * d + 3) < recursionLimit → un + (40 * d + 77) < cLine →
    wpAny (model PySem.Challenge.rw_fp5017_01.row.prog w) (ktrTop dp un gd qual scope L f cdv (cellsFrom (L + 1) scope.names []) outer) (execs body (envOfC qual scope L f cdv)) (Done g L s P) (fun _ _ => False) s
theorem con_ofC {w : World} {d : Nat} {f : Addr} {news : List (Addr × Obj)} {vs : List Value} {P : Value → List (Addr × Obj) → Prop} {name qual : Str} {params : Arguments} {body : List Stmt} {scope : Scope} {dV kV doc pm cdv ct oc : Value} {an od : Option Addr} {osl : Array (Option Value)} (binds : List (Str × Value))
    (ho : (WalkT.heap_1 w.params).lookup f = some ⟨oc, od, .func (fnOf name qual params body scope dV kV doc pm an cdv ct), osl⟩) (hcd : codeIn (WalkT.heap_1 w.params) cdv qual = true)
    (hbind : ∀ s, BindsTo s (fnOf name qual params body scope dV kV doc pm an cdv ct) ⟨vs, []⟩ binds) (hkind : (binds.all fun y => scope.names.lookup y.1 == some .local || scope.names.lookup y.1 == some .cell) = true)
    (hnd : ((cellsFrom 0 scope.names []).map (·.1)).Nodup) (hco : scope.isCoroutine = false) (hgen : scope.isGenerator = false) (hk : scope.kind = .function)
    (hb : BodyC w d qual scope f cdv body binds news P) : Con w d f news vs P := by
  intro p loose mean mg mb dp un gd cn cs a ccd cl outer A₀ base h₀ L m s Q E B F X N T hks hdp hun hret
  refine wpAny_call (callX_cells (binds := binds) B F N T.nolimit rfl rfl hks ((X.keeps F.keep) _ _ ho) rfl (codeRec_of (X.keeps F.keep) hcd) (by show dp < recursionLimit; omega) (hbind s) (kindsX hkind) hnd ?_ hco hgen hk)
  intro g L' h₁ tk cells FG F' N' Y B' st lt
  refine wpAny_mono (hb p loose mean mg mb (dp + 1) (un + 3) gd (envX cn cs L a ccd cl :: outer) _ base g L' { s with heap := h₁, toks := tk } cells B' F' N' Y lt (X.keeps st) (T.keeps st) (by omega) (by omega)) ?_ (fun _ _ x => x.elim)
  rintro fl s' ⟨v, h', tk', m', news', rfl, rfl, F2, N2, hp⟩
  exact ⟨L', m', news', F2, N2, fun F3 N3 => hret _ _ _ _ hp F3 N3⟩
end Mine
namespace Mine
section
variable {prog : Program} {w : World} {A : Around} {h₀ : Heap} {L : Addr} {m : Str → Option Value} {env : Env} {elt : PySem.Expr} {x : Str} {scope : Scope} {cl : List (Str × Addr)} {s : Shared} {S : List (Addr × Obj) → Prop} {P : Nat → Value → Prop} {Fin : List Value → List (Addr × Obj) → Prop}
/-- a comprehension by what holds of the list so far and of the ledger -/
theorem comp_inv (J : Nat → List Value → List (Addr × Obj) → Prop) (n : Nat)
    (turn : ∀ i v ys news I oI C oC D m₂ h tk (E' : Value → Shared → Prop), i < n → P i v → J i ys news → LCg.NsObj oC m₂ → m₂ x = some v → Fr h₀ L h m → News h₀ L h ((I, oI) :: (C, oC) :: (D, LCg.lst ys) :: news) → LCg.Off3 I C D news → ((@Ne Nat I C) ∧ (@Ne Nat I D) ∧ (@Ne Nat C D)) →
      wpAny (model prog w) A (eval elt (compEnvC scope cl C env)) (LCg.CompEnd h₀ L m { s with heap := h, toks := tk } I oI C oC D (LCg.lst ys) S (fun y news' => J (i + 1) (ys ++ [y]) news')) E' { s with heap := h, toks := tk })
    (fin : ∀ ys news, J n ys news → Fin ys news) {news : List (Addr × Obj)} (h0 : J 0 [] news) : LCg.CompRest prog w A h₀ L m env elt x scope cl s S P Fin n 0 [] news := by
  have key : ∀ (k i : Nat) (ys : List Value) (news : List (Addr × Obj)), i + k = n → J i ys news → LCg.CompRest prog w A h₀ L m env elt x scope cl s S P Fin k i ys news := by
    intro k
    induction k with
    | zero =>
      intro i ys news hi hj
      have e : i = n := by omega
      subst e
      exact LCg.CompRest.zero (fin ys news hj)
    | succ k ih =>
      intro i ys news hi hj
      refine LCg.CompRest.succ ?_
      intro v I oI C oC D m₂ h tk E' hv hC hx F N off ne
      refine wpAny_mono (turn i v ys news I oI C oC D m₂ h tk E' (by omega) hv hj hC hx F N off ne) (fun y s₂ hq => ?_) fun _ _ e => e
      obtain ⟨h', tk', nw, e, F', N', off', hS, hr⟩ := hq
      exact ⟨h', tk', nw, e, F', N', off', hS, ih (i + 1) _ _ (by omega) hr⟩
  exact key n 0 [] news (by omega) h0
end
section
variable {prog : Program} {w : World} {A : Around} {E : Value → Shared → Prop} {s : Shared} {h₀ : Heap} {L l : Addr}
theorem len_tup {news : List (Addr × Obj)} {us : List Value} {k : Nat} {Q : Value → Shared → Prop} (N : News h₀ L s.heap news) (hm : (l, tupOf us) ∈ news) (e : us.length = k) (hfit : k ≤ 1000)
    (h : Q (.int (k : Int) (s.toks + 1)) { s with toks := s.toks + 1 + 1 }) : wpAny (model prog w) A (call (.builtin "len") [.ref l]) Q E s := by
  have hl : IsTup s.heap l us.toArray := ⟨_, (N _ hm).1, rfl, 0, rfl⟩
  have e2 : us.toArray.size = k := by rw [List.size_toArray, e]
  exact len_tuple hl (by rw [e2]; omega) (by rw [e2]; exact h)
theorem len_lst {news : List (Addr × Obj)} {us : List Value} {k c : Nat} {Q : Value → Shared → Prop} (N : News h₀ L s.heap news) (hm : (l, listOf us.toArray c) ∈ news) (e : us.length = k) (hfit : k ≤ 1000)
    (h : Q (.int (k : Int) (s.toks + 1)) { s with toks := s.toks + 1 + 1 }) : wpAny (model prog w) A (call (.builtin "len") [.ref l]) Q E s := kst_len N hm e (by omega) h
end
end Mine
namespace Mine
theorem strs_at : ∀ {us : List Value} {ws : List Str}, StrsAre us ws → ∀ i : Nat, i < ws.length → ∃ y t, us[i]? = some (.str y t) ∧ ws[i]? = some y
  | _, _, .nil, _, h => absurd h (Nat.not_lt_zero _)
  | _, _, .cons y t _, 0, _ => ⟨y, t, rfl, rfl⟩
  | _, _, .cons _ _ r, i + 1, h => by
    obtain ⟨y, t, a, b⟩ := strs_at r i (Nat.lt_of_succ_lt_succ h)
    exact ⟨y, t, by simpa using a, by simpa using b⟩
section
variable {prog : Program} {w : World} {A : Around} {E : Value → Shared → Prop} {s : Shared} {h₀ : Heap} {L l : Addr} {news : List (Addr × Obj)} {us : List Value} {i n : Nat} {u : Tok} {v : Value} {Q : Value → Shared → Prop}
theorem item_tup {value slice : PySem.Expr} (N : News h₀ L s.heap news) (hm : (l, tupOf us) ∈ news) (hv : us[i]? = some v) (hi : us.length ≤ 1000) (h : Q v s)
    (hs : subscripted slice false (.ref l) (.int (i : Int) u) = operate [.ref l, .int (i : Int) u] (getItem (.ref l) (.int (i : Int) u)) := by with_unfolding_all rfl) :
    wpAny (model prog w) A (subscriptTail value slice (.ref l) (.int (i : Int) u)) Q E s := by
  have hlt := (List.getElem?_eq_some_iff.mp hv).1
  exact item_tupleT (l := us) ⟨_, (N _ hm).1, rfl, 0, rfl⟩ (by omega) (by omega) (j := i) (by simp [seqIndex?, hlt]; omega) hv h hs
theorem item_lst {value slice : PySem.Expr} (N : News h₀ L s.heap news) (hm : (l, listOf us.toArray n) ∈ news) (hv : us[i]? = some v) (hi : us.length ≤ 1000) (h : Q v s)
    (hs : subscripted slice false (.ref l) (.int (i : Int) u) = operate [.ref l, .int (i : Int) u] (getItem (.ref l) (.int (i : Int) u)) := by with_unfolding_all rfl) :
    wpAny (model prog w) A (subscriptTail value slice (.ref l) (.int (i : Int) u)) Q E s := by
  have hlt := (List.getElem?_eq_some_iff.mp hv).1
  have hl := News.isList N hm
  exact tail_any hl.typeIs slot_list_getitem.lookup (wpAny_getItem_list hl (by omega) (by omega) (by simpa using hv) h) hs
theorem all_true {k : Nat} (F : Fr h₀ L s.heap m) (N : News h₀ L s.heap news) (hh : A.handled = none) (hl : s.heap.IsList l us.toArray) (hb : LSm.BoolsAre us (List.replicate k true))
    (h : ∀ h' tk, Fr h₀ L h' m → News h₀ L h' news → Q (.bool true) { s with heap := h', toks := tk }) : wpAny (model prog w) A (call (.builtin "all") [.ref l]) Q E s := by
  refine LSm.all_bools F N hh hl hb ?_
  have e : (List.replicate k true).all (fun b => b) = true := by simp
  simpa [e] using h
end
end Mine

open PySem PySem.W PyProof.Rows PySem.Calls
namespace Mine
section
variable {prog : Program} {w : World} {A : Around} {E : Value → Shared → Prop} {s : Shared} {h₀ : Heap} {m : Str → Option Value} {env : Env}
/-- the signs of a plain text as a comprehension's source -/
def TextSrc (prog : Program) (w : World) (A : Around) (h₀ : Heap) (m : Str → Option Value) (env : Env) (elt : PySem.Expr) (x y : Str) (scope : Scope) (cl : List (Str × Addr)) (Q : Flow → Shared → Prop) (xv : Value) (s₁ : Shared) : Prop :=
  ∃ xs tk news, xv = .str xs tk ∧ xs.cps.all (· < 128) = true ∧ A.handled = none ∧ Fr h₀ env.locals s₁.heap m ∧ News h₀ env.locals s₁.heap news ∧ xs.cps.size ≤ sizeLine ∧
    ∀ g, LCg.CompRest prog w A h₀ env.locals m env elt x scope cl { s₁ with heap := g } (fun _ => True) (SignAt xs) (LCg.FinA h₀ env.locals m { s₁ with heap := g } y Q) xs.cps.size 0 [] news
theorem assign_comp_text {elt iter : PySem.Expr} {x y : Str} {px py : Pos} {scope : Scope} {cl : List (Str × Addr)} {pos spos : Pos} {Q : Flow → Shared → Prop} (_F : Fr h₀ env.locals s.heap m)
    (hsw : swapsWith (.ListComp elt [⟨.Name x px, iter, [], 0⟩] scope pos) (some (.Name y py)) spos.line env = pure true)
    (hclos : closureFor scope env = pure cl) (hcell : ∀ z ∈ scope.names, z.2 ≠ .cell) (hkind : scope.kind = .function)
    (hnames : ∀ z ∈ scope.names, z.2 = .local → scope.names.lookup z.1 = some .local) (hx : scope.names.lookup x = some .local)
    (hy : env.kindOf y = some .local) (hp : (env.scope.kind == .class || (env.scope.kind == .module && env.locals != env.globals)) = false)
    (h : wpAny (model prog w) A (eval iter env) (TextSrc prog w A h₀ m env elt x y scope cl Q) E s)
    (hs : ∀ x, foldedSetIterable iter env x = pure x := by intro _; rfl) :
    wpAny (model prog w) A (exec (.Assign [.Name y py] (.ListComp elt [⟨.Name x px, iter, [], 0⟩] scope pos) spos) env) Q E s := by
  rw [exec_Assign_Name_used _ _ _ _ hsw]
  have core : ∀ xv s₁, TextSrc prog w A h₀ m env elt x y scope cl Q xv s₁ → wpAny (model prog w) A (pyIter xv) (fun it s₂ => wpAny (model prog w) A (newList []) (fun acc s₃ =>
      wpAny (model prog w) A (newFunctionEnv scope env.globals cl [] env.qual none .none (some env)) (fun cenv s₄ =>
        codeAny (model prog w) A (.compStart (.ListComp elt [⟨.Name x px, iter, [], 0⟩] scope pos) 0 it acc { cenv with scope := relabel scope env }) (compPost (model prog w) A E (some (assign (.Name y py) env)) (fun _ s' => Q .next s') acc cenv.locals) s₄) E s₃) E s₂) E s₁ := by
    rintro xv s₁ ⟨xs, tk, news, rfl, ha, hh, F, N, hsz, R⟩
    have up : ∀ (ob : Obj) b o, s₁.heap.get? b = some o → (s₁.heap.push ob).get? b = some o := fun ob b o e => Heap.get?_push_of_some _ e
    refine wpAny_pyIter_ascii ha ?_
    refine LCg.block_U (Walks.strAscii hh s₁.heap.objs.size xs tk) hsz (fun i h st => ⟨_, st.choose_spec.1⟩) ?_ hcell hkind hx ⟨_, Heap.get?_push_size _ rfl, rfl, rfl⟩ ?_ (F.keeps (up _)) (N.grown (up _)) (Nat.ne_of_lt F.ns.lt) (next_is_new F) (fun p hp => Nat.ne_of_lt (Heap.lt_size (N p hp).1)) trivial (R _) ?_
    · intro i h h' o nw st e e' _ _ _
      exact (Walks.strAscii (prog := prog) (w := w) hh s₁.heap.objs.size xs tk).frame i h h' st fun b hb o' he => by
        rw [List.mem_singleton.mp hb] at he ⊢
        rw [e] at he
        rw [e', he]
    · intro b hb
      rw [List.mem_singleton.mp hb]
      show s₁.heap.objs.size < (s₁.heap.push _).objs.size
      rw [Heap.size_push]
      exact Nat.lt_succ_self _
    · intro D C h tk' m' ys news' F' N' o1 hn hC₀ hD₀ hCL hDL hCD offC fin
      refine wpAny_assign_Name (wpAny_storeName_local hy F'.ns (fun h₂ hn₂ hs₂ => ?_) hp)
      refine ⟨m', hn.sameBut hs₂ hCL, fun h₃ hs₃ => fin D h₃ _ ((F'.set hn₂ hs₂).change hs₃ hCL hC₀) (fun p hp => ?_) o1⟩
      have z := N'.set hs₂ p hp
      refine ⟨(hs₃.2 p.1 ?_).trans z.1, z.2⟩
      rcases List.mem_cons.mp hp with rfl | hp
      · exact Ne.symm hCD
      · exact offC p hp
  exact wpAny_bind (wpAny_standAt (wpAny_bind (wpAny_bind (wpAny_mono (wpAny_comprehension_free (use := some (assign (.Name y py) env)) (Q := fun _ s' => Q .next s') rfl hs hclos hkind hnames (wpAny_mono h core fun _ _ e => e))
    (fun _ _ hq => wpAny_pure (wpAny_pure hq)) fun _ _ e => e))))
end
end Mine

namespace Mine
theorem find1_of (x : Str) (c i : Nat) : Find1 (cn x) c i (Txt.find3 x ⟨#[c]⟩ (i : Int)) := by
  have e : fromIndex x.length (i : Int) = i := by unfold fromIndex; rw [if_neg (by omega)]; omega
  have g : ∀ j, (cn x)[j]? = some c → j < x.length ∧ x.cps.getD j 0 = c := fun j hj => by
    have hlt := lt_at hj
    rw [cn_length] at hlt
    have hj' : x.cps[j]? = some c := by simpa [cn] using hj
    exact ⟨hlt, by rw [Array.getD_eq_getD_getElem?, hj']; rfl⟩
  have g' : ∀ j, j < x.length → x.cps.getD j 0 = c → (cn x)[j]? = some c := fun j hj hc => by
    exact StrLaws.getElem?_of_getD hj hc
  rcases StrLaws.find3_spec x c (i : Int) with ⟨h, hn⟩ | ⟨k, h, hlo, hk, hc, hn⟩
  · rw [e] at hn
    exact .inl ⟨h, fun j hj hjc => hn j hj (g j hjc).1 (g j hjc).2⟩
  · rw [e] at hlo hn
    exact .inr ⟨k, h, hlo, g' k hk hc, fun j hj hjk hjc => hn j hj hjk (g j hjc).2⟩
section
variable {prog : Program} {w : World} {A : Around} {E : Value → Shared → Prop} {s : Shared}
theorem my_find {x : Str} {c i : Nat} {t u v : Tok} {Q : Value → Shared → Prop} (h : ∀ f t', Find1 (cn x) c i f → Q (.int f t') { s with toks := s.toks + 1 }) :
    wpAny (model prog w) A (call (.builtin "str.find") [.str x t, .str ⟨#[c]⟩ u, .int (i : Int) v]) Q E s := SC.find3 (h _ _ (find1_of x c i))
theorem ge_known {a b : Int} {t u : Tok} {r : Bool} {Q : Value → Shared → Prop} (e : decide (b ≤ a) = r) (h : Q (.bool r) s) : wpAny (model prog w) A (compareOp .GtE (.int a t) (.int b u)) Q E s :=
  P.ge_int (by rw [show decide (a ≥ b) = r from e]; exact h)
end
end Mine

open PySem PySem.W PyProof.Rows PySem.Calls
namespace Mine
theorem rstep_len (r : Rs) (c : Nat) : (rstep r c).res.length ≤ r.res.length + 1 := by
  obtain ⟨md, val, res⟩ := r
  cases md <;> simp only [rstep] <;> (repeat' split) <;> simp
theorem rrun_len (l : List Nat) : ∀ r : Rs, (rrun r l).res.length ≤ r.res.length + l.length := by
  induction l with
  | nil => intro r; exact Nat.le_refl _
  | cons c l ih => intro r; rw [rrun_cons]; have := ih (rstep r c); have := rstep_len r c; rw [List.length_cons]; omega
theorem pieces_len (l : List Nat) : (pieces l).length ≤ l.length := by
  have := rrun_len l .init
  unfold pieces
  simpa [Rs.init] using this
theorem mstep_len (r : Ms) (c : Nat) : (mstep r c).res.length ≤ r.res.length + 1 := by
  unfold mstep; (repeat' split) <;> simp
theorem mrun_len (l : List Nat) : ∀ r : Ms, (mrun r l).res.length ≤ r.res.length + l.length := by
  induction l with
  | nil => intro r; exact Nat.le_refl _
  | cons c l ih => intro r; rw [mrun_cons]; have := ih (mstep r c); have := mstep_len r c; rw [List.length_cons]; omega
theorem stretches_len (l : List Nat) : (stretches l).length ≤ l.length := by
  have := mrun_len l .init
  unfold stretches
  simpa [Ms.init] using this
theorem cn_append (x y : Str) : cn (x ++ y) = cn x ++ cn y := by
  unfold cn
  rw [Str.cps_append, Array.toList_append]
theorem len_append (x y : Str) : (x ++ y).length = x.length + y.length := by
  rw [← cn_length, cn_append, List.length_append, cn_length, cn_length]
theorem pieces_small {x : Str} (h : x.length ≤ 1000) : ((pieces (cn x)).map tx).length ≤ 1000 := by
  rw [List.length_map]; have := pieces_len (cn x); rw [cn_length] at this; omega
theorem pieces_app {x y : Str} (h : Ends (cn x)) : (pieces (cn (x ++ y))).map tx = (pieces (cn x)).map tx ++ (pieces (cn y)).map tx := by
  rw [cn_append, pieces_append h, List.map_append]
theorem strs_append : ∀ {us vs : List Value} {ws zs : List Str}, StrsAre us ws → StrsAre vs zs → StrsAre (us ++ vs) (ws ++ zs)
  | _, _, _, _, .nil, h => h
  | _, _, _, _, .cons x t r, h => .cons x t (strs_append r h)
theorem con_top {w : World} {d : Nat} {f : Addr} {news : List (Addr × Obj)} {vs : List Value} {P : Value → List (Addr × Obj) → Prop} (c : Con w d f news vs P)
    {p : Program} {loose : List Str} {mean : ExcName → Option Value} {mg mb : Str → Option Value} {dp un : Nat} {gd : Option (List Code)} {cn : Str} {cs : Scope} {a : Addr} {ccd : Value} {cl : List (Str × Addr)} {outer : List Env} {A A₀ : Around} {base h₀ : Heap} {L : Addr} {m : Str → Option Value} {s : Shared} {Q E : Value → Shared → Prop}
    (B : Below A₀ base outer h₀) (F : Fr h₀ L s.heap m) (X : (WalkT.heap_1 w.params).In h₀) (N : News h₀ L s.heap news) (T : Top p loose mean mg mb h₀) (hA : A = ktrTop dp un gd cn cs L a ccd cl outer) (hk : cs.kind = .function) (hd : dp + (4 * d + 4) < recursionLimit) (hu : un + (40 * d + 80) < cLine)
    (ret : ∀ v news' h' tk', P v news' → Fr h₀ L h' m → News h₀ L h' news' → Q v { s with heap := h', toks := tk' }) :
    wpAny (model PySem.Challenge.rw_fp5017_01.row.prog w) A (call (.ref f) vs) Q E s := by
  subst hA
  exact c p loose mean mg mb dp un gd cn cs a ccd cl outer A₀ base h₀ L m s Q E B F X N T hk hd hu ret
section
variable {prog : Program} {w : World} {A : Around} {E : Value → Shared → Prop} {s : Shared} {h₀ : Heap} {L a b : Addr} {m : Str → Option Value} {news : List (Addr × Obj)} {us vs : List Value} {n k : Nat} {Q : Value → Shared → Prop}
theorem eq_strs {ws : List Str} (N : News h₀ L s.heap news) (ha : (a, listOf us.toArray n) ∈ news) (hb : (b, listOf vs.toArray k) ∈ news) (hi : StrsAre us ws) (hj : StrsAre vs ws) (hu : A.units < cLine) (h : Q (.bool true) s) :
    wpAny (model prog w) A (compareOp .Eq (.ref a) (.ref b)) Q E s := by
  refine PySem.SeqAt.eq_listAt (e := fun _ => true) (News.isList N ha) (News.isList N hb) (by rw [List.size_toArray, List.size_toArray, hi.length, hj.length]) hu (fun j h1 h2 => ?_) (by rw [List.all_eq_true.mpr fun _ _ => rfl]; exact h)
  rw [List.size_toArray, hi.length] at h1
  obtain ⟨y, t, e1, e2⟩ := strs_at hi j h1
  obtain ⟨z, u, e3, e4⟩ := strs_at hj j h1
  rw [e2] at e4
  cases e4
  have g1 : us.toArray[j] = .str y t := by
    obtain ⟨_, q⟩ := List.getElem?_eq_some_iff.mp e1
    simpa using q
  have g2 : vs.toArray[j] = .str y u := by
    obtain ⟨_, q⟩ := List.getElem?_eq_some_iff.mp e3
    simpa using q
  rw [g1, g2]
  have := PySem.SeqAt.EqAt.str_str (A := A.in1) (s := s) y t y u
  rwa [beq_self_eq_true] at this
theorem eq_ints {ns : List Int} (N : News h₀ L s.heap news) (ha : (a, listOf us.toArray n) ∈ news) (hb : (b, listOf vs.toArray k) ∈ news) (hi : IntsAre us ns) (hj : IntsAre vs ns) (hu : A.units + 64 < cLine) (h : Q (.bool true) s) :
    wpAny (model prog w) A (compareOp .Eq (.ref a) (.ref b)) Q E s := by
  refine eq_intsK (News.isList N ha) hi (News.isList N hb) hj hu ?_
  rwa [decide_eq_true rfl]
theorem my_add (F : Fr h₀ L s.heap m) (N : News h₀ L s.heap news) (ha : (a, listOf us.toArray n) ∈ news) (hb : (b, listOf vs.toArray k) ∈ news) (hu : us.length ≤ 1000) (hv : vs.length ≤ 1000)
    (h : ∀ D h', Fr h₀ L h' m → News h₀ L h' ((D, listOf (us ++ vs).toArray 0) :: news) → Q (.ref D) { s with heap := h' }) : wpAny (model prog w) A (binaryOp .Add (.ref a) (.ref b)) Q E s :=
  add_lists F N (News.isList N ha) (News.isList N hb) (fun h' F' N' => h _ h' F' N') (by rw [PySem.sizeLine_eq]; omega)
end
end Mine

open PySem PySem.W PyProof.Rows PySem.Calls
namespace Mine
theorem sgn_close (n : Nat) : decide (n ∈ (Str.ofString "])").cps.toList) = decide (n = 93 ∨ n = 41) := by
  rw [show (Str.ofString "])").cps.toList = [93, 41] from by decide +kernel]
  simp
theorem sgn_opens (n : Nat) : decide (n ∈ (Str.ofString "[(").cps.toList) = decide (n = 91 ∨ n = 40) := by
  rw [show (Str.ofString "[(").cps.toList = [91, 40] from by decide +kernel]
  simp
/-- ten, twenty and so on -/
def tens (k : Nat) : List Int := (List.range k).map fun i : Nat => 10 * ((i : Int) + 1)
theorem tens_succ (k : Nat) : tens (k + 1) = tens k ++ [10 * ((k : Int) + 1)] := by
  unfold tens
  rw [List.range_succ, List.map_append]; rfl
theorem ints_snoc : ∀ {us : List Value} {ns : List Int} {x y : Int} {t : Tok}, IntsAre us ns → x = y → IntsAre (us ++ [.int x t]) (ns ++ [y])
  | _, _, _, _, t, .nil, e => by subst e; exact .cons _ t .nil
  | _, _, _, _, _, .cons n u r, e => .cons n u (ints_snoc r e)
theorem pm_snoc {pre : List Int} {r : Ms} {n : Nat} (h : mrun .init (pre.map Int.toNat) = r) : mrun .init ((pre ++ [(n : Int)]).map Int.toNat) = mstep r n := by
  rw [List.map_append, List.map_cons, List.map_nil, Int.toNat_natCast, mrun_snoc, h]
section
variable {prog : Program} {w : World} {A : Around} {E : Value → Shared → Prop} {s : Shared} {h₀ : Heap} {L l : Addr} {news : List (Addr × Obj)} {Q : Value → Shared → Prop}
theorem my_lenA {its : Array Value} {k c : Nat} (N : News h₀ L s.heap news) (hm : (l, listOf its c) ∈ news) (e : its.size = k) (hfit : k ≤ 1000)
    (h : Q (.int (k : Int) (s.toks + 1)) { s with toks := s.toks + 1 + 1 }) : wpAny (model prog w) A (call (.builtin "len") [.ref l]) Q E s := KM.len_K N hm e (by omega) h
end
theorem mv11 {g : Heap} {L : Addr} {h : Heap} {a1 a2 a3 a4 a5 a6 a7 a8 a9 a10 a11 a12 a13 : Addr × Obj} (N : News g L h [a1, a2, a3, a4, a5, a6, a7, a8, a9, a10, a11, a12, a13]) : News g L h (a1 :: a2 :: a11 :: [a3, a4, a5, a6, a7, a8, a9, a10, a12, a13]) := by
  refine kst_newsOf N fun p hp => ?_
  simp only [List.mem_cons, List.not_mem_nil, or_false] at hp ⊢
  rcases hp with q | q | q | q | q | q | q | q | q | q | q | q | q <;> simp [q]
structure Sm where
  r : Ms
  us : List Value
  vs : List Value
  hs : List Value
  n1 : Nat
  n2 : Nat
  n3 : Nat
def FactsM (c : Sm) : Prop := StrsAre c.us (c.r.val.map ch) ∧ IntsAre c.vs (tens c.r.res.length) ∧ StrsAre c.hs (c.r.res.map tx)
def PM (pre : List Int) (c : Sm) : Prop := mrun .init (pre.map Int.toNat) = c.r ∧ c.r.val.length ≤ pre.length ∧ c.r.res.length ≤ pre.length
theorem kst_text3 {prog : Program} {w : World} {A : Around} {E : Value → Shared → Prop} {s : Shared} {env : Env} {h₀ : Heap} {x : PySem.Str} {body : List Stmt} {Q : Flow → Shared → Prop} {xt : PySem.Str} {tx : Tok} {m₀ : PySem.Str → Option Value} {a b e : Addr} {rest : List (Addr × Obj)}
    (hh : A.handled = none) (F : Fr h₀ env.locals s.heap m₀) (N : News h₀ env.locals s.heap ((a, listOf #[] 0) :: (b, listOf #[] 0) :: (e, listOf #[] 0) :: rest)) (hk : m₀ (Str.ofString "in_range") = some (.bool false))
    (turn : ∀ (c : Sm) (pre post : List Int) (n : Nat) t (u : PySem.Str → Option Value) h tk own, KStt.codes xt = pre ++ (n : Int) :: post → OwnOff own (((a, listOf c.us.toArray c.n1) :: (b, listOf c.vs.toArray c.n2) :: (e, listOf c.hs.toArray c.n3) :: rest).map (·.1)) → FactsM c → PM pre c →
      Fr h₀ env.locals h (fun y => if y = x then some (.str ⟨#[n]⟩ t) else kstB (fun z => if ([Str.ofString "value"] : List Str).contains z then u z else m₀ z) [(Str.ofString "in_range", .bool c.r.inr)] y) → News h₀ env.locals h (((a, listOf c.us.toArray c.n1) :: (b, listOf c.vs.toArray c.n2) :: (e, listOf c.hs.toArray c.n3) :: rest) ++ own) →
      wpAny (model prog w) A (execs body env) (InvPostN h₀ env.locals (KstS (fun c : Sm => (a, listOf c.us.toArray c.n1) :: (b, listOf c.vs.toArray c.n2) :: (e, listOf c.hs.toArray c.n3) :: rest) (fun c => [(Str.ofString "in_range", .bool c.r.inr)]) FactsM x [Str.ofString "value"] m₀ PM (pre ++ [(n : Int)])) own (((a, listOf c.us.toArray c.n1) :: (b, listOf c.vs.toArray c.n2) :: (e, listOf c.hs.toArray c.n3) :: rest).map (·.1)) { s with heap := h, toks := tk } Q) E { s with heap := h, toks := tk })
    (done : ∀ (us vs hs : List Value) (n1 n2 n3 : Nat) (ib : Bool) (u : PySem.Str → Option Value) h tk, IntsAre vs (tens (stretches (cn xt)).length) → StrsAre hs ((stretches (cn xt)).map Mine.tx) → Fr h₀ env.locals h (fun y => if y = x then u y else kstB (fun z => if ([Str.ofString "value"] : List Str).contains z then u z else m₀ z) [(Str.ofString "in_range", .bool ib)] y) →
      News h₀ env.locals h ((a, listOf us.toArray n1) :: (b, listOf vs.toArray n2) :: (e, listOf hs.toArray n3) :: rest) → Q .next { s with heap := h, toks := tk }) :
    wpAny (model prog w) A (pyIter (.str xt tx)) (fun it s₂ => LoopAtV prog w A h₀ env x body Q E it s₂) E s := by
  refine KStt.kst_text (fun c : Sm => (a, listOf c.us.toArray c.n1) :: (b, listOf c.vs.toArray c.n2) :: (e, listOf c.hs.toArray c.n3) :: rest) (fun c => [(Str.ofString "in_range", .bool c.r.inr)]) FactsM [Str.ofString "value"] PM ⟨Ms.init, [], [], [], 0, 0, 0⟩ hh F N ⟨.nil, .nil, .nil⟩ ?_ ⟨rfl, Nat.le_refl _, Nat.le_refl _⟩ turn ?_
  · intro p hp
    cases List.mem_singleton.mp hp
    exact hk
  · rintro ⟨r, us, vs, hs, n1, n2, n3⟩ u h tk ⟨f1, f2, f3⟩ ⟨p1, p2, p3⟩ F N
    dsimp only at f1 f2 f3 p1 p2 p3 F N
    rw [codes_cn] at p1
    have e : stretches (cn xt) = r.res := by unfold stretches; rw [p1]
    exact done us vs hs n1 n2 n3 r.inr u h tk (e ▸ f2) (e ▸ f3) F N
end Mine
namespace Mine
section
variable {prog : Program} {w : World} {A : Around} {E : Value → Shared → Prop} {s : Shared} {h₀ : Heap} {L D : Addr} {m : Str → Option Value} {news news' : List (Addr × Obj)} {us : List Value} {n : Nat} {v : Value}
theorem my_append {Q : Value → Shared → Prop} (F : Fr h₀ L s.heap m) (N : News h₀ L s.heap news) (U : Upd D (listOf us.toArray n) (listOf (us ++ [v]).toArray (n + 1)) news news') (hz : us.length ≤ 1000)
    (h : ∀ h', Fr h₀ L h' m → News h₀ L h' news' → Q .none { s with heap := h' }) : wpAny (model prog w) A (call (.builtin "list.append") [.ref D, v]) Q E s := by
  exact append_K F N (by rw [List.push_toArray]; exact U) h (by rw [PySem.sizeLine_eq, List.size_toArray]; omega)
end
end Mine

open PySem PySem.W PyProof.Rows PySem.Calls
namespace Mine
section
def mdA : Md → Nat
  | .inString => 640
  | .inEscape => 642
  | .inValue => 644
  | .out => 646
structure Sr where
  r : Rs
  us : List Value
  vs : List Value
  n1 : Nat
  n2 : Nat
def FactsR (c : Sr) : Prop := StrsAre c.us (c.r.val.map ch) ∧ StrsAre c.vs (c.r.res.map tx) ∧ (c.r.md = .inValue → c.r.val ≠ [])
def PR (pre : List Int) (c : Sr) : Prop := rrun .init (pre.map Int.toNat) = c.r ∧ c.r.val.length ≤ pre.length ∧ c.r.res.length ≤ pre.length
local macro_rules | `(tactic| walk_at "exec For Name Name cons nil") => `(tactic| (k_here; (rename Fr _ _ _ _ => lF'); (with_unfolding_all refine' For_invVF lF' ?k1 ?k2 ?_; (case k1 => exact rfl); (case k2 => exact rfl); k_whole)))
local macro_rules | `(tactic| walk_at "pyIter str") => `(tactic| (refine Stop.out ?_))
local macro_rules | `(tactic| walk_at "InvEndN") => `(tactic| (refine Stop.out ?_))
local macro_rules | `(tactic| walk_at "Done") => `(tactic| (refine Stop.out ?_))
local macro_rules | `(tactic| walk_at "compareOp Eq ref ref") => `(tactic| (k_here; k_dflt (refine' en_eq ?k1 ?k2 ?k3 ?k4 ?k5 ?k6 ?k7 ?_; (case k1 => ktr_units); (case k2 => k_in); (case k3 => k_is); (case k4 => k_is); (case k5 => k_is); (case k6 => k_is); (case k7 => k_is))))
local macro_rules | `(tactic| walk_at "call builtin:str.join") => `(tactic| (k_here; k_dflt (refine' my_join ?k1 ?k2 ?k3 ?k4 ?_; (case k1 => k_asm); (case k2 => k_mem); (case k3 => assumption); (case k4 => omega)); intro t8 k8))
local macro_rules | `(tactic| walk_at "call builtin:list.clear") => `(tactic| (k_here; k_dflt (refine' my_clear ?k1 ?k2 ?k3 ?k4 ?_; (case k1 => k_asm); (case k2 => k_asm); (case k3 => (intro k7; k_upd)); (case k4 => omega)); intro k8 h8 F8 N8))
local macro_rules | `(tactic| walk_at "call builtin:list.append") => `(tactic| (k_here; k_dflt (refine' append_K ?k1 ?k2 ?k3 ?_ ?z; (case k1 => k_asm); (case k2 => k_asm); (case k3 => k_upd); (case z => (rw [PySem.sizeLine_eq, List.size_toArray]; omega))); intro h8 F8 N8))
local macro_rules | `(tactic| walk_at "call type:tuple") => `(tactic| (k_here; k_dflt (refine' kde_tupleOf ?k1 ?k2 ?k3 ?k4 ?k5 ?_; (case k1 => k_asm); (case k2 => k_asm); (case k3 => exact News.isList (by k_asm) (by k_mem)); (case k4 => (rw [List.size_toArray]; omega)); (case k5 => rfl)); intro D8 h8 F8 N8 l8; have l8 := allLt_of l8))
local macro_rules | `(tactic| walk_at "compareOp Eq str str") => `(tactic| (k_here; k_dflt (refine' eq_known ?k1 ?_; (case k1 => with_reducible assumption))))
local macro_rules | `(tactic| walk_at "compareOp In str str") => `(tactic| (k_here; k_dflt (refine' in_known ?k1 ?_; (case k1 => with_reducible assumption))))
local macro_rules | `(tactic| walk_at "compareOp In str ref") => `(tactic| (k_here; k_dflt (refine' tup_known (ys := [Str.ofString ")", Str.ofString ","]) ?k1 ?k2 ?k3 ?_; (case k3 => with_reducible assumption); (case k1 => exact News.isTup (by k_asm) (by k_mem)); (case k2 => exact .cons _ _ (.cons _ _ .nil)))))
local macro_rules | `(tactic| walk_at "REC_EN") => `(tactic| ((refine' List.forall_mem_cons.mpr ⟨?e1, List.forall_mem_cons.mpr ⟨?e2, ?e3⟩⟩); (case e1 => k_mem); (case e2 => k_mem); (case e3 => (intro p9 h9; kst_mem))))
local macro_rules | `(tactic| walk_at "REC_ENDS") => `(tactic| first
  | (intro p9 h9; kst_mem; done)
  | rfl
  | (kst_all; done)
  | ((show ∀ z, _ → _ → _ → _ = _); intro z z1 z2 z3; have z4 := z2 _ (List.Mem.head _); have z5 : z ≠ Str.ofString "value" := (by intro q; rw [q] at z3; exact absurd z3 (by decide)); (simp only [kstB, z1, z4, z5, z3, if_false, Bool.false_eq_true]; done))
  | (refine ⟨?_, ?_, ?_⟩ <;> (dsimp only [List.map_nil]; first | exact .nil | assumption | (rw [List.map_append]; exact strs_snoc (by assumption)) | (intro q9; cases q9; done) | (intro _; exact List.append_ne_nil_of_right_ne_nil _ (List.cons_ne_nil _ _))))
  | ((simp only [List.length_append, List.length_cons, List.length_nil]; omega))
  | (simp [rstep, *]; done))
set_option maxRecDepth 100000 in
set_option maxHeartbeats 8000000 in
/-- record_in: a tuple of the machine's pieces -/
theorem c_rec (w : World) (d : Nat) (x : Str) (t : Tok) (news : List (Addr × Obj)) (hx : x.length ≤ 1000) :
    Con w d 677 news [.str x t] (fun v news' => ∃ r vs, v = .ref r ∧ news' = (r, tupOf vs) :: news ∧ StrsAre vs ((pieces (cn x)).map tx) ∧ ∀ p ∈ news, p.1 < r) := by
  w_on
  refine con_of [(Str.ofString "data", .str x t)] (by k_is) (by k_is) (fun s => BindsTo.of_eq (by rfl)) (locs (by rfl)) (by rfl) (by rfl) (by rfl) (by decide) ?_
  intro p loose mean mg mb dp un gd outer A₀ base g L s B F N lt X T hd hu
  simp only [List.reverse_cons, List.reverse_nil, List.nil_append, bindM] at F
  k_steps
  rename News _ _ _ _ => N9
  rename Fr _ _ _ _ => F9
  unfold Stop
  with_unfolding_all refine KStt.kst_text (fun (c : Sr) => (_, listOf c.us.toArray c.n1) :: (_, listOf c.vs.toArray c.n2) :: news) (fun c => [(Str.ofString "state", .ref (mdA c.r.md))]) FactsR [Str.ofString "value"] PR ⟨Rs.init, [], [], 0, 0⟩ (by rfl) F9 N9 ?_ ?_ ?_ ?_ ?_
  · exact ⟨.nil, .nil, fun q => by cases q⟩
  · kst_all
  · exact ⟨rfl, Nat.le_refl _, Nat.le_refl _⟩
  · intro c pre post n t1 u h tk own e hoff hf hp F1 N1
    obtain ⟨⟨md, val, res⟩, us, vs, n1, n2⟩ := c
    obtain ⟨f1, f2, f3⟩ := hf
    obtain ⟨p1, p2, p3⟩ := hp
    have el := congrArg List.length e
    rw [KStt.codes_length, List.length_append, List.length_cons] at el
    have hus : us.length ≤ 1000 := by rw [f1.length, List.length_map]; dsimp only at p2 ⊢; omega
    have hvs : vs.length ≤ 1000 := by rw [f2.length, List.length_map]; dsimp only at p3 ⊢; omega
    have hvl : val.length ≤ 1000 := by dsimp only at p2 ⊢; omega
    clear F9 N9 el e
    dsimp only [List.map_cons] at hoff
    simp only [List.cons_append] at N1
    have hMk := kstMark
    cases md
    · dsimp only [mdA] at F1 N1 f1 f2 f3 p1 p2 p3
      have f3 := f3 rfl
      have qe := txt_empty f3
      by_cases h1 : n = 41 ∨ n = 44
      · have q1 := (sgn_tup n).trans (decide_eq_true h1)
        have q2 := (sgn_in3 n).trans (decide_eq_true (.inr h1))
        k_steps
        unfold Stop
        rename News _ _ _ _ => nE
        (try simp only [List.push_toArray] at nE)
        refine' kst_end (⟨⟨.out, [], res ++ [val]⟩, [], vs ++ [_], _, _⟩ : Sr) (by assumption) nE _ _ _ _ _ _ ⟨(pr_snoc p1).trans _, _, _⟩
        any_goals walk_at "REC_EN"
        all_goals walk_at "REC_ENDS"
      · have q1 := (sgn_tup n).trans (decide_eq_false h1)
        k_steps
        unfold Stop
        rename News _ _ _ _ => nE
        (try simp only [List.push_toArray] at nE)
        refine' kst_end (⟨⟨.inValue, val ++ [n], res⟩, us ++ [_], vs, _, _⟩ : Sr) (by assumption) nE _ _ _ _ _ _ ⟨(pr_snoc p1).trans _, _, _⟩
        any_goals walk_at "REC_EN"
        all_goals walk_at "REC_ENDS"
    · dsimp only [mdA] at F1 N1 f1 f2 f3 p1 p2 p3
      clear f3
      by_cases h1 : n = 34
      · have q1 := (sgn_quote n).trans (decide_eq_true h1)
        k_steps
        unfold Stop
        rename News _ _ _ _ => nE
        (try simp only [List.push_toArray] at nE)
        refine' kst_end (⟨⟨.out, [], res ++ [val]⟩, [], vs ++ [_], _, _⟩ : Sr) (by assumption) nE _ _ _ _ _ _ ⟨(pr_snoc p1).trans _, _, _⟩
        any_goals walk_at "REC_EN"
        all_goals walk_at "REC_ENDS"
      · have q1 := (sgn_quote n).trans (decide_eq_false h1)
        by_cases h2 : n = 92
        · have q2 := (sgn_stroke n).trans (decide_eq_true h2)
          k_steps
          unfold Stop
          rename News _ _ _ _ => nE
          (try simp only [List.push_toArray] at nE)
          refine' kst_end (⟨⟨.inEscape, val, res⟩, us, vs, _, _⟩ : Sr) (by assumption) nE _ _ _ _ _ _ ⟨(pr_snoc p1).trans _, _, _⟩
          any_goals walk_at "REC_EN"
          all_goals walk_at "REC_ENDS"
        · have q2 := (sgn_stroke n).trans (decide_eq_false h2)
          k_steps
          unfold Stop
          rename News _ _ _ _ => nE
          (try simp only [List.push_toArray] at nE)
          refine' kst_end (⟨⟨.inString, val ++ [n], res⟩, us ++ [_], vs, _, _⟩ : Sr) (by assumption) nE _ _ _ _ _ _ ⟨(pr_snoc p1).trans _, _, _⟩
          any_goals walk_at "REC_EN"
          all_goals walk_at "REC_ENDS"
    · dsimp only [mdA] at F1 N1 f1 f2 f3 p1 p2 p3
      clear f3
      k_steps
      unfold Stop
      rename News _ _ _ _ => nE
      (try simp only [List.push_toArray] at nE)
      refine' kst_end (⟨⟨.inString, val ++ [n], res⟩, us ++ [_], vs, _, _⟩ : Sr) (by assumption) nE _ _ _ _ _ _ ⟨(pr_snoc p1).trans _, _, _⟩
      any_goals walk_at "REC_EN"
      all_goals walk_at "REC_ENDS"
    · dsimp only [mdA] at F1 N1 f1 f2 f3 p1 p2 p3
      clear f3
      by_cases h1 : n = 40 ∨ n = 41 ∨ n = 44
      · have q1 := (sgn_in3 n).trans (decide_eq_true h1)
        k_steps
        unfold Stop
        rename News _ _ _ _ => nE
        (try simp only [List.push_toArray] at nE)
        refine' kst_end (⟨⟨.out, val, res⟩, us, vs, _, _⟩ : Sr) (by assumption) nE _ _ _ _ _ _ ⟨(pr_snoc p1).trans _, _, _⟩
        any_goals walk_at "REC_EN"
        all_goals walk_at "REC_ENDS"
      · have q1 := (sgn_in3 n).trans (decide_eq_false h1)
        by_cases h2 : n = 34
        · have q2 := (sgn_quote n).trans (decide_eq_true h2)
          k_steps
          unfold Stop
          rename News _ _ _ _ => nE
          (try simp only [List.push_toArray] at nE)
          refine' kst_end (⟨⟨.inString, val, res⟩, us, vs, _, _⟩ : Sr) (by assumption) nE _ _ _ _ _ _ ⟨(pr_snoc p1).trans _, _, _⟩
          any_goals walk_at "REC_EN"
          all_goals walk_at "REC_ENDS"
        · have q2 := (sgn_quote n).trans (decide_eq_false h2)
          k_steps
          unfold Stop
          rename News _ _ _ _ => nE
          (try simp only [List.push_toArray] at nE)
          refine' kst_end (⟨⟨.inValue, val ++ [n], res⟩, us ++ [_], vs, _, _⟩ : Sr) (by assumption) nE _ _ _ _ _ _ ⟨(pr_snoc p1).trans _, _, _⟩
          any_goals walk_at "REC_EN"
          all_goals walk_at "REC_ENDS"
  · intro c u h tk hf hp F1 N1
    obtain ⟨⟨md, val, res⟩, us, vs, n1, n2⟩ := c
    obtain ⟨f1, f2, f3⟩ := hf
    obtain ⟨p1, p2, p3⟩ := hp
    have hvs : vs.length ≤ 1000 := by rw [f2.length, List.length_map]; dsimp only at p3 ⊢; rw [KStt.codes_length] at p3; omega
    clear F9 N9
    dsimp only at F1 N1 f1 f2 f3 p1 p2 p3
    rw [codes_cn] at p1
    k_steps
    unfold Stop
    rename News _ _ _ _ => nE
    rename AllLt _ _ => lE
    have hP : pieces (cn x) = res := by unfold pieces; rw [p1]
    exact done_ret (by assumption) (kst_newsOf nE (l' := _ :: news) (List.forall_mem_cons.mpr ⟨.head _, fun q hq => .tail _ (.tail _ (.tail _ hq))⟩)) ⟨_, vs, rfl, rfl, hP ▸ f2, kst_ltOf lE.2.2⟩
end
end Mine

open PySem PySem.W PyProof.Rows PySem.Calls
namespace Mine
section
structure Sq where
  wd : List Nat
  k : Nat
  tw : Tok
  tk : Tok
local macro_rules | `(tactic| walk_at "exec While") => `(tactic| (refine Stop.out ?_))
local macro_rules | `(tactic| walk_at "exec While Compare cons nil") => `(tactic| (refine Stop.out ?_))
local macro_rules | `(tactic| walk_at "KswEnd") => `(tactic| (refine Stop.out ?_))
local macro_rules | `(tactic| walk_at "Done") => `(tactic| (refine Stop.out ?_))
local macro_rules | `(tactic| walk_at "compareOp Eq str str") => `(tactic| (k_here; k_dflt (refine' eq_known ?k1 ?_; (case k1 => with_reducible assumption))))
local macro_rules | `(tactic| walk_at "compareOp Lt int int") => `(tactic| (k_here; k_dflt (refine' lt_known ?k1 ?_; (case k1 => with_reducible assumption))))
local macro_rules | `(tactic| walk_at "subscriptTail Name Name str int") => `(tactic| (k_here; k_dflt (refine' my_item ?k1 ?k2 ?_ ?k3 ?k4; (case k1 => with_reducible assumption); (case k2 => assumption); (case k3 => with_unfolding_all rfl); (case k4 => (intro _; with_unfolding_all rfl))); intro t8))
local macro_rules | `(tactic| walk_at "inplaceOp Add str str") => `(tactic| (k_here; k_dflt (refine' my_iadd ?k1 ?_; (case k1 => omega)); intro t8 k8))
local macro_rules | `(tactic| walk_at "call builtin:len") => `(tactic| (k_here; k_dflt (refine' my_len ?k1 ?_; (case k1 => assumption)); intro t8))
local macro_rules | `(tactic| walk_at "KSW_SAME") => `(tactic| (intro z z2 z3; (simp only [List.forall_mem_cons, List.not_mem_nil, false_implies, implies_true, and_true, ne_eq] at z2); simp only [kstB, z2, z3, if_false, Bool.false_eq_true, ite_self]; try rfl))
set_option maxRecDepth 100000 in
set_option maxHeartbeats 8000000 in
/-- _law_quoted from place i -/
theorem c_quoted (w : World) (d : Nat) (x : Str) (i : Nat) (t ti : Tok) (news : List (Addr × Obj)) (hx : x.length ≤ 1000) (hi : i ≤ (cn x).length) :
    Con w d 696 news [.str x t, .int i ti] (fun v news' => ∃ r vv j tj, v = .ref r ∧ news' = (r, tupOf [vv, .int ((j : Nat) : Int) tj]) :: news ∧ (∀ p ∈ news, p.1 < r) ∧
      ((∃ wd tw, vv = .str (tx wd) tw ∧ i < j ∧ j ≤ (cn x).length ∧ ∀ res, rrun ⟨.inString, [], res⟩ ((cn x).drop i) = rrun ⟨.out, [], res ++ [wd]⟩ ((cn x).drop j)) ∨
        (vv = .none ∧ ∀ res, (rrun ⟨.inString, [], res⟩ ((cn x).drop i)).res = res))) := by
  w_on
  refine con_of [(Str.ofString "text", .str x t), (Str.ofString "at", .int i ti)] (by k_is) (by k_is) (fun s => BindsTo.of_eq (by rfl)) (locs (by rfl)) (by rfl) (by rfl) (by rfl) (by decide) ?_
  intro p loose mean mg mb dp un gd outer A₀ base g L s B F N lt X T hd hu
  simp only [List.reverse_cons, List.reverse_nil, List.nil_append, List.cons_append, bindM] at F
  k_steps
  rename Fr _ _ _ _ => F9
  rename News _ _ _ _ => N9
  unfold Stop
  with_unfolding_all refine' ksw_while (fun (_ : Sq) => news) (fun c => [(Str.ofString "word", .str (tx c.wd) c.tw), (Str.ofString "at", .int (c.k : Int) c.tk)]) (fun _ => True) [] (fun c => QI (cn x) i c.wd c.k) (fun c => (cn x).length + 1 - c.k) ⟨[], i, _, _⟩ F9 N9 trivial ?q1 ?q2 ?q3
  case q1 => kst_all
  case q2 => exact q_start hi
  case q3 =>
    rintro ⟨wd, k, tw, tk⟩ u h tk' - hq F1 N1
    dsimp only at hq F1 N1
    clear F9 N9
    have hn := cn_length x
    by_cases hk : k < (cn x).length
    · have hl : decide ((k : Int) < (x.length : Int)) = true := decide_eq_true (by omega)
      obtain ⟨c, hc⟩ : ∃ c, (cn x)[k]? = some c := ⟨_, List.getElem?_eq_getElem hk⟩
      have hA := at_of hc
      have hwl := hq.1
      by_cases h1 : c = 34
      · have q1 := (sgn_quote c).trans (decide_eq_true h1)
        subst h1
        k_steps
        unfold Stop
        rename News _ _ _ _ => nE
        exact done_ret (by assumption) nE ⟨_, _, k + 1, _, rfl, rfl, by assumption, .inl ⟨wd, _, rfl, Nat.lt_succ_of_le hq.2.1, hk, q_quote hq hc⟩⟩
      · have q1 := (sgn_quote c).trans (decide_eq_false h1)
        by_cases h2 : c = 92
        · have q2 := (sgn_stroke c).trans (decide_eq_true h2)
          subst h2
          by_cases h3 : k + 1 < (cn x).length
          · obtain ⟨c2, hc2⟩ : ∃ c, (cn x)[k + 1]? = some c := ⟨_, List.getElem?_eq_getElem h3⟩
            have hA2 := at_of1 hc2
            have hl2 : decide ((k : Int) + 1 < (x.length : Int)) = true := decide_eq_true (by omega)
            k_steps
            unfold Stop
            rename News _ _ _ _ => nE
            refine' ksw_end (⟨wd ++ [c2], k + 1 + 1, _, _⟩ : Sq) (by assumption) nE (fun p hp => hp) trivial ?e1 ?e2 (q_esc hq hc hc2) ?e3
            case e1 => kst_all
            case e2 => walk_at "KSW_SAME"
            case e3 => (dsimp only; omega)
          · have hl2 : decide ((k : Int) + 1 < (x.length : Int)) = false := decide_eq_false (by omega)
            k_steps
            unfold Stop
            rename News _ _ _ _ => nE
            refine' ksw_end (⟨wd, k + 1 + 1, _, _⟩ : Sq) (by assumption) nE (fun p hp => hp) trivial ?e1 ?e2 (q_escEnd hq hc h3) ?e3
            case e1 => kst_all
            case e2 => walk_at "KSW_SAME"
            case e3 => (dsimp only; omega)
        · have q2 := (sgn_stroke c).trans (decide_eq_false h2)
          k_steps
          unfold Stop
          rename News _ _ _ _ => nE
          refine' ksw_end (⟨wd ++ [c], k + 1, _, _⟩ : Sq) (by assumption) nE (fun p hp => hp) trivial ?e1 ?e2 (q_plain hq hc h1 h2) ?e3
          case e1 => kst_all
          case e2 => walk_at "KSW_SAME"
          case e3 => (dsimp only; omega)
    · have hl : decide ((k : Int) < (x.length : Int)) = false := decide_eq_false (by omega)
      k_steps
      unfold Stop
      rename News _ _ _ _ => nE
      exact done_ret (by assumption) nE ⟨_, _, k, _, rfl, rfl, by assumption, .inr ⟨rfl, q_end hq hk⟩⟩
end
end Mine

open PySem PySem.W PyProof.Rows PySem.Calls
namespace Mine
section
structure Sw where
  fd : List (List Nat)
  us : List Value
  n : Nat
  k : Nat
  tk : Tok
local macro_rules | `(tactic| walk_at "exec While Compare cons nil") => `(tactic| (refine Stop.out ?_))
local macro_rules | `(tactic| walk_at "exec While BoolOp") => `(tactic| (refine Stop.out ?_))
local macro_rules | `(tactic| walk_at "exec While") => `(tactic| (refine Stop.out ?_))
local macro_rules | `(tactic| walk_at "call ref") => `(tactic| (refine Stop.out ?_))
local macro_rules | `(tactic| walk_at "KswEnd") => `(tactic| (refine Stop.out ?_))
local macro_rules | `(tactic| walk_at "Done") => `(tactic| (refine Stop.out ?_))
local macro_rules | `(tactic| walk_at "compareOp Eq str str") => `(tactic| (k_here; k_dflt (refine' eq_known ?k1 ?_; (case k1 => with_reducible assumption))))
local macro_rules | `(tactic| walk_at "compareOp In str str") => `(tactic| (k_here; k_dflt (refine' in_known ?k1 ?_; (case k1 => with_reducible assumption))))
local macro_rules | `(tactic| walk_at "compareOp NotIn str str") => `(tactic| (k_here; k_dflt (refine' notin_known ?k1 ?_; (case k1 => with_reducible assumption))))
local macro_rules | `(tactic| walk_at "W_EN2") => `(tactic| ((refine' List.forall_mem_cons.mpr ⟨?e1, List.forall_mem_cons.mpr ⟨?e2, ?e3⟩⟩); (case e1 => k_mem); (case e2 => k_mem); (case e3 => (intro p9 h9; kst_mem))))
local macro_rules | `(tactic| walk_at "W_EN") => `(tactic| ((refine' List.forall_mem_cons.mpr ⟨?e1, ?e3⟩); (case e1 => k_mem); (case e3 => (intro p9 h9; kst_mem))))
local macro_rules | `(tactic| walk_at "compareOp Lt int int") => `(tactic| (k_here; k_dflt (refine' lt_known ?k1 ?_; (case k1 => with_reducible assumption))))
local macro_rules | `(tactic| walk_at "compareOp Eq int int") => `(tactic| (k_here; k_dflt (refine' eqi_known ?k1 ?_; (case k1 => with_reducible assumption))))
local macro_rules | `(tactic| walk_at "subscriptTail Name Name str int") => `(tactic| (k_here; k_dflt (refine' my_item ?k1 ?k2 ?_ ?k3 ?k4; (case k1 => with_reducible assumption); (case k2 => assumption); (case k3 => with_unfolding_all rfl); (case k4 => (intro _; with_unfolding_all rfl))); intro t8))
local macro_rules | `(tactic| walk_at "subscriptTail Name Slice str ref") => `(tactic| (k_here; (with_reducible rename Fr _ _ _ _ => F'); (with_reducible rename News _ _ _ _ => N'); (refine slice_strN_ss (hsz := ?hsz) (s := ⟨_, _, _, _, _⟩) F' N' ?_); (case hsz => (rw [PySem.sizeLine_eq]; omega)); intro h8 t8 k8 F8 N8))
local macro_rules | `(tactic| walk_at "call builtin:len") => `(tactic| (k_here; k_dflt (refine' my_len ?k1 ?_; (case k1 => assumption)); intro t8))
local macro_rules | `(tactic| walk_at "call builtin:list.append") => `(tactic| (k_here; k_dflt (refine' append_K ?k1 ?k2 ?k3 ?_ ?z; (case k1 => k_asm); (case k2 => k_asm); (case k3 => k_upd); (case z => (rw [PySem.sizeLine_eq, List.size_toArray]; omega))); intro h8 F8 N8))
local macro_rules | `(tactic| walk_at "KSW_SAME") => `(tactic| (intro z z2 z3; (simp only [List.forall_mem_cons, List.not_mem_nil, false_implies, implies_true, and_true, ne_eq] at z2); first
  | (have z4 := z3; (simp only [List.contains_cons, List.contains_nil, Bool.or_false, Bool.or_eq_false_iff, beq_eq_false_iff_ne, ne_eq] at z4); (simp only [kstB, z2, z3, z4, List.contains_nil, if_false, Bool.false_eq_true, ite_self]; done))
  | (simp only [kstB, z2, List.contains_nil, if_false, Bool.false_eq_true, ite_self]; done)))
set_option maxRecDepth 100000 in
set_option maxHeartbeats 8000000 in
/-- _law_walk -/
theorem c_walk (w : World) (d : Nat) (x : Str) (t : Tok) (news : List (Addr × Obj)) (hx : x.length ≤ 1000) :
    Con w (d + 1) 703 news [.str x t] (fun v news' => ∃ r l us n b, v = .ref r ∧ news' = (r, tupOf [.ref l, .bool b]) :: (l, listOf us.toArray n) :: news ∧ StrsAre us ((pieces (cn x)).map tx) ∧ (b = true → Ends (cn x)) ∧ l < r ∧ ∀ p ∈ news, p.1 < l) := by
  w_on
  refine con_of [(Str.ofString "text", .str x t)] (by k_is) (by k_is) (fun s => BindsTo.of_eq (by rfl)) (locs (by rfl)) (by rfl) (by rfl) (by rfl) (by decide) ?_
  intro p loose mean mg mb dp un gd outer A₀ base g L s B F N lt X T hd hu
  simp only [List.reverse_cons, List.reverse_nil, List.nil_append, List.cons_append, bindM] at F
  k_steps
  rename Fr _ _ _ _ => F9
  rename News _ _ _ _ => N9
  unfold Stop
  with_unfolding_all refine' ksw_while (fun (c : Sw) => (_, listOf c.us.toArray c.n) :: news) (fun c => [(Str.ofString "at", .int (c.k : Int) c.tk)]) (fun c => StrsAre c.us (c.fd.map tx)) [Str.ofString "word", Str.ofString "end"] (fun c => WI (cn x) c.fd c.k) (fun c => (cn x).length - c.k) ⟨[], [], 0, 0, _⟩ F9 (kst_newsOf N9 (List.forall_mem_cons.mpr ⟨.tail _ (.head _), fun q hq => .tail _ (.tail _ hq)⟩)) .nil ?q1 ?q2 ?q3
  case q1 => kst_all
  case q2 => exact w_start _
  case q3 =>
    rintro ⟨fd, us, n, k, tk⟩ u h tk' hf hq F1 N1
    dsimp only at hf hq F1 N1
    clear F9 N9
    have hMk := kstMark
    have hn := cn_length x
    have hfl := hf.length
    rw [List.length_map] at hfl
    have hfk := hq.1
    have hkl := hq.2.1
    by_cases hk : k < (cn x).length
    · have hl : decide ((k : Int) < (x.length : Int)) = true := decide_eq_true (by omega)
      obtain ⟨c, hc⟩ : ∃ c, (cn x)[k]? = some c := ⟨_, List.getElem?_eq_getElem hk⟩
      have hA := at_of hc
      by_cases h1 : c = 40 ∨ c = 41 ∨ c = 44
      · have q1 := (sgn_in3 c).trans (decide_eq_true h1)
        k_steps
        unfold Stop
        rename News _ _ _ _ => nE
        refine' ksw_end (⟨fd, us, n, k + 1, _⟩ : Sw) (by assumption) nE (fun p hp => hp) hf ?e1 ?e2 (w_skip hq hc h1) ?e3
        case e1 => kst_all
        case e2 => walk_at "KSW_SAME"
        case e3 => (dsimp only; omega)
      · have q1 := (sgn_in3 c).trans (decide_eq_false h1)
        by_cases h2 : c = 34
        · have q2 := (sgn_quote c).trans (decide_eq_true h2)
          subst h2
          k_steps
          unfold Stop
          rename Fr _ _ _ _ => F8
          rename News _ _ _ _ => N8
          refine' con_use (c_quoted w d x (k + 1) _ _ _ hx (lt_at hc)) (by assumption) F8 X N8 T rfl (by omega) (by omega) ?_
          rintro v news' h9 tk9 ⟨r, vv, j, tj, rfl, rfl, lr, hor⟩ F2 N2
          have lr := allLt_of lr
          simp only [AllLt] at lr
          clear F8 N8
          rcases hor with ⟨wd, tw, rfl, hj1, hj2, hr⟩ | ⟨rfl, hr⟩
          · k_steps
            unfold Stop
            rename News _ _ _ _ => nE
            (try simp only [List.push_toArray] at nE)
            refine' ksw_end (⟨fd ++ [wd], us ++ [_], _, j, _⟩ : Sw) (by assumption) nE ?en ?ef ?e1 ?e2 (w_quoted hq hc hj1 hj2 hr) ?e3
            case en => walk_at "W_EN"
            case e1 => kst_all
            case e2 => walk_at "KSW_SAME"
            case e3 => (dsimp only; omega)
            case ef => (dsimp only; rw [List.map_append]; exact strs_snoc hf)
          · k_steps
            unfold Stop
            rename News _ _ _ _ => nE
            refine' done_ret (by assumption) (kst_newsOf nE ?en) ⟨_, _, us, n, false, rfl, rfl, (w_open hq hc hr).symm ▸ hf, (fun q => by cases q), ?el, by assumption⟩
            case en => walk_at "W_EN2"
            case el => exact ltN (by omega)
        · have q2 := (sgn_quote c).trans (decide_eq_false h2)
          k_steps
          rename Fr _ _ _ _ => F8
          rename News _ _ _ _ => N8
          unfold Stop
          with_unfolding_all refine' ksw_while (fun (_ : Nat × Tok) => _) (fun c => [(Str.ofString "end", .int (c.1 : Int) c.2)]) (fun _ => True) [] (fun c => BJ (cn x) k c.1) (fun c => (cn x).length - c.1) (k, _) F8 N8 trivial ?r1 ?r2 ?r3
          case r1 => kst_all
          case r2 => exact ⟨Nat.le_refl _, hkl, .inl rfl⟩
          case r3 =>
            rintro ⟨e, te⟩ u2 h2' tk2 - hb F2 N2
            dsimp only at hb F2 N2
            clear F8 N8
            obtain ⟨hb1, hb2, hb3⟩ := hb
            by_cases he : e < (cn x).length
            · have hl2 : decide ((e : Int) < (x.length : Int)) = true := decide_eq_true (by omega)
              have hl3 : ((e : Int) == (x.length : Int)) = false := beq_eq_false_iff_ne.mpr (by omega)
              obtain ⟨c2, hc2⟩ : ∃ c, (cn x)[e]? = some c := ⟨_, List.getElem?_eq_getElem he⟩
              have hA2 := at_of hc2
              by_cases h3 : c2 = 41 ∨ c2 = 44
              · have q3 := (sgn_notin2 c2).trans (by rw [decide_eq_true h3]; rfl : (!decide (c2 = 41 ∨ c2 = 44)) = false)
                have hBI : BI (cn x) k e := hb3.resolve_left (by rintro rfl; rw [hc] at hc2; cases hc2; exact h1 (.inr h3))
                k_steps
                unfold Stop
                rename News _ _ _ _ => nE
                (try simp only [List.push_toArray] at nE)
                refine' ksw_end (⟨fd ++ [((cn x).drop k).take (e - k)], us ++ [_], _, e, _⟩ : Sw) (by assumption) nE ?en ?ef ?e1 ?e2 (w_bare hq hBI hc2 h3) ?e3
                case en => walk_at "W_EN"
                case ef => (dsimp only; rw [List.map_append]; exact strs_snoc' hf (my_slice x hb1 hb2))
                case e1 => kst_all
                case e2 => walk_at "KSW_SAME"
                case e3 => (have := hBI.1; dsimp only; omega)
              · have q3 := (sgn_notin2 c2).trans (by rw [decide_eq_false h3]; rfl : (!decide (c2 = 41 ∨ c2 = 44)) = true)
                have hBI : BI (cn x) k (e + 1) := hb3.elim (fun q => by subst q; rw [hc] at hc2; cases hc2; exact b_start hc h1 h2) (fun q => b_more q hc2 h3)
                k_steps
                unfold Stop
                rename News _ _ _ _ => nE
                refine' ksw_end ((e + 1, _) : Nat × Tok) (by assumption) nE (fun p hp => hp) trivial ?e1 ?e2 ⟨by omega, he, .inr hBI⟩ ?e3
                case e1 => kst_all
                case e2 => walk_at "KSW_SAME"
                case e3 => (dsimp only; omega)
            · have hl2 : decide ((e : Int) < (x.length : Int)) = false := decide_eq_false (by omega)
              have hl3 : ((e : Int) == (x.length : Int)) = true := beq_iff_eq.mpr (by omega)
              have hee : e = (cn x).length := by omega
              have hBI : BI (cn x) k (cn x).length := by subst hee; exact hb3.resolve_left (by omega)
              k_steps
              unfold Stop
              rename News _ _ _ _ => nE
              refine' done_ret (by assumption) (kst_newsOf nE ?en) ⟨_, _, us, n, false, rfl, rfl, (w_unended hq hBI).symm ▸ hf, (fun q => by cases q), ?el, by assumption⟩
              case en => walk_at "W_EN2"
              case el => exact ltN (by omega)
    · have hl : decide ((k : Int) < (x.length : Int)) = false := decide_eq_false (by omega)
      k_steps
      unfold Stop
      rename News _ _ _ _ => nE
      refine' done_ret (by assumption) (kst_newsOf nE ?en) ⟨_, _, us, n, true, rfl, rfl, (w_done hq hk).1.symm ▸ hf, fun _ => (w_done hq hk).2, ?el, by assumption⟩
      case en => walk_at "W_EN2"
      case el => exact ltN (by omega)
end
end Mine

open PySem PySem.W PyProof.Rows PySem.Calls
namespace Mine
section
local macro_rules | `(tactic| walk_at "Done") => `(tactic| (refine Stop.out ?_))
local macro_rules | `(tactic| k_mem) => `(tactic| assumption)
local macro_rules | `(tactic| walk_at "call builtin:isinstance") => `(tactic| (k_here; k_dflt (refine' IsiPair.tuple_tuple ?k1 ?k2 ?_; (case k1 => exact News.get (by k_asm) (by k_mem)); (case k2 => rfl))))
local macro_rules | `(tactic| walk_at "call builtin:len") => `(tactic| (k_here; k_dflt (first
  | (refine' len_tup ?k1 ?k2 ?k3 ?k4 ?_; (case k1 => k_asm); (case k2 => k_mem); (case k3 => assumption); (case k4 => assumption))
  | (refine' len_lst ?k1 ?k2 ?k3 ?k4 ?_; (case k1 => k_asm); (case k2 => k_mem); (case k3 => assumption); (case k4 => assumption)))))
local macro_rules | `(tactic| walk_at "compareOp Eq int int") => `(tactic| (k_here; k_dflt (refine' eqi_known ?k1 ?_; (case k1 => exact beq_self_eq_true _))))
local macro_rules | `(tactic| walk_at "eval ListComp") => `(tactic| (k_here; k_dflt (refine LCg.ListComp_U (F₀ := by k_asm) (by with_unfolding_all rfl) (by decide) (by rfl) (by decide) (by rfl) ?_)))
local macro_rules | `(tactic| walk_at "subscriptTail Name Name ref int") => `(tactic| (k_here; k_dflt (first
  | (refine' item_tup ?k1 ?k2 ?k3 ?k4 ?_ ?k5; (case k1 => k_asm); (case k2 => k_mem); (case k3 => assumption); (case k4 => omega); (case k5 => with_unfolding_all rfl))
  | (refine' item_lst ?k1 ?k2 ?k3 ?k4 ?_ ?k5; (case k1 => k_asm); (case k2 => k_mem); (case k3 => assumption); (case k4 => omega); (case k5 => with_unfolding_all rfl)))))
local macro_rules | `(tactic| walk_at "compareOp Eq str str") => `(tactic| (k_here; k_dflt (refine' eq_known ?k1 ?_; (case k1 => with_reducible assumption))))
local macro_rules | `(tactic| walk_at "call builtin:all") => `(tactic| (k_here; k_dflt (refine' all_true ?k1 ?k2 ?k3 ?k4 ?k5 ?_; (case k1 => k_asm); (case k2 => k_asm); (case k3 => rfl); (case k4 => exact News.isList (by k_asm) (by k_mem)); (case k5 => assumption)); intro h8 tk8 F8 N8))
local macro_rules | `(tactic| walk_at "CompEnd") => `(tactic| (refine Stop.out ?_))
local macro_rules | `(tactic| walk_at "CompSrc") => `(tactic| (refine Stop.out ?_))
set_option maxRecDepth 100000 in
set_option maxHeartbeats 8000000 in
/-- _law_plain -/
theorem c_plain (w : World) (d : Nat) (r l : Addr) (vs us : List Value) (ws : List Str) (n : Nat) (news : List (Addr × Obj)) (hr : (r, tupOf vs) ∈ news) (hl : (l, listOf us.toArray n) ∈ news) (hv : StrsAre vs ws) (hu0 : StrsAre us ws) (hw : ws.length ≤ 1000) :
    Con w d 727 news [.ref r, .ref l] (fun v news' => v = .bool true ∧ news' = news) := by
  w_on
  refine con_ofC [(Str.ofString "told", .ref r), (Str.ofString "due", .ref l)] (by k_is) (by k_is) (fun s => BindsTo.of_eq (by rfl)) (by rfl) (by decide +kernel) (by rfl) (by rfl) (by rfl) ?_
  intro p loose mean mg mb dp un gd outer A₀ base g L s cells B F N Y lt X T hd hu
  k_cells Y
  have hvl := hv.length
  have hul := hu0.length
  simp only [List.cons_append, List.nil_append] at N
  k_steps
  unfold Stop
  rename Fr _ _ _ _ => F8
  rename News _ _ _ _ => N8
  refine LCg.CompSrc.range (by rfl) F8 N8 (by assumption) (small_one (by omega) (by omega) (by omega) (by omega)) (rangeSize_nat _ _) (by rw [PySem.sizeLine_eq]; omega) ?_
  intro g'
  refine comp_inv (fun i ys nw => nw = _ ∧ LSm.BoolsAre ys (List.replicate i true)) _ ?_ ?_ ⟨rfl, .nil⟩
  · rintro i v ys nw I oI C oC D m₂ h tk E' hi ⟨t, rfl⟩ ⟨rfl, hys⟩ hC hx F N off ne
    rw [Int.zero_add] at hx
    obtain ⟨y, t1, hv1, -⟩ := strs_at hv i hi
    obtain ⟨y', t2, hu1, hy2⟩ := strs_at hu0 i hi
    obtain ⟨y3, t3, hv3, hy3⟩ := strs_at hv i hi
    have hyy : (y == y') = true := by
      rw [hv1] at hv3; cases hv3; rw [hy2] at hy3; cases hy3; exact beq_self_eq_true _
    clear hv3 hy3 hy2
    k_steps
    unfold Stop
    exact LCg.CompEnd.intro F N _ (fun p hp => hp) off trivial ⟨rfl, by rw [List.replicate_succ']; exact kbo_app hys (.cons true .nil)⟩
  · rintro ys nw ⟨rfl, hys⟩
    k_steps
    unfold Stop
    rename News _ _ _ _ => nE
    exact done_ret (by assumption) (kst_newsOf nE (by intro p9 h9; kst_mem)) ⟨rfl, rfl⟩
end
end Mine

open PySem PySem.W PyProof.Rows PySem.Calls
namespace Mine
structure MyMark : Prop where
  one : True
section
local macro_rules | `(tactic| walk_at "Done") => `(tactic| (refine Stop.out ?_))
local macro_rules | `(tactic| k_mem) => `(tactic| assumption)
local macro_rules | `(tactic| walk_at "exec Assign cons ListComp") => `(tactic| (k_here; (with_reducible show wpAny _ _ (exec (Stmt.Assign _ (Expr.ListComp _ [Comprehension.mk _ _ [] _] _ _) _) _) _ _ _); k_dflt (refine' assign_comp_text ?k0 ?k1 ?k2 ?k3 ?k4 ?k5 ?k6 ?k7 ?k8 ?_ ?k9; (case k0 => k_asm); (case k1 => with_unfolding_all rfl); (case k2 => with_unfolding_all rfl); (case k3 => decide); (case k4 => rfl); (case k5 => decide); (case k6 => rfl); (case k7 => rfl); (case k8 => rfl); (case k9 => (intro _; with_unfolding_all rfl)))))
local macro_rules | `(tactic| walk_at "TextSrc") => `(tactic| (refine Stop.out ?_))
local macro_rules | `(tactic| walk_at "call builtin:str.find") => `(tactic| (k_here; k_dflt (refine' my_find ?_); intro f8 t8 hf8))
local macro_rules | `(tactic| walk_at "CompEnd") => `(tactic| (k_dflt (refine' LCg.CompEnd.intro ?k1 ?k2 _ (fun p hp => hp) ?k3 ?k4 ?_; (case k1 => k_asm); (case k2 => k_asm); (case k3 => assumption); (case k4 => first | trivial | exact .inr ⟨_, by k_mem, rfl, _, rfl⟩))))
local macro_rules | `(tactic| walk_at "CompEnd") => `(tactic| ((rename MyMark => hM9); refine Stop.out ?_))
local macro_rules | `(tactic| walk_at "compareOp GtE int int") => `(tactic| (k_here; k_dflt (refine' ge_known ?k1 ?_; (case k1 => with_reducible assumption))))
set_option maxRecDepth 100000 in
set_option maxHeartbeats 1000000 in
/-- _law_first -/
theorem c_first (w : World) (d : Nat) (x sg : Str) (c1 c2 i : Nat) (t ts ti : Tok) (news : List (Addr × Obj)) (hx : x.length ≤ 1000) (hi : i ≤ (cn x).length) (hsg : sg.cps = #[c1, c2]) (hc1 : c1 < 128) (hc2 : c2 < 128) :
    Con w d 708 news [.str x t, .str sg ts, .int (i : Int) ti] (fun v news' => ∃ r tr, v = .int r tr ∧ news' = news ∧ FirstAt (cn x) c1 c2 i r) := by
  w_on
  refine con_ofC [(Str.ofString "text", .str x t), (Str.ofString "signs", .str sg ts), (Str.ofString "at", .int (i : Int) ti)] (by k_is) (by k_is) (fun s => BindsTo.of_eq (by rfl)) (by rfl) (by decide +kernel) (by rfl) (by rfl) (by rfl) ?_
  intro p loose mean mg mb dp un gd outer A₀ base g L s cells B F N Y lt X T hd hu
  k_cells Y
  simp only [List.cons_append, List.nil_append] at N
  have hn := cn_length x
  k_steps
  rename Fr _ _ _ _ => F8
  rename News _ _ _ _ => N8
  unfold Stop
  refine ⟨sg, ts, _, rfl, by rw [hsg]; simp [hc1, hc2], by rfl, F8, N8, by rw [hsg, PySem.sizeLine_eq]; show 2 ≤ _; omega, ?_⟩
  intro g'
  refine comp_inv (fun i' ys nw => nw = _ ∧ ((i' = 0 ∧ ys = []) ∨ (i' = 1 ∧ ∃ f1 t1, ys = [.int f1 t1] ∧ Find1 (cn x) c1 i f1) ∨ (i' = 2 ∧ ∃ f1 t1 f2 t2, ys = [.int f1 t1, .int f2 t2] ∧ Find1 (cn x) c1 i f1 ∧ Find1 (cn x) c2 i f2))) _ ?_ ?_ ⟨rfl, .inl ⟨rfl, rfl⟩⟩
  · rintro i' v ys nw I oI C oC D m₂ h tk E' hi' ⟨c, u, hc, rfl⟩ ⟨rfl, hys⟩ hC hx2 F N off ne
    have hM := MyMark.mk trivial
    k_steps
    unfold Stop
    rename Find1 _ _ _ _ => hF
    refine LCg.CompEnd.intro F N _ (fun p hp => hp) off trivial ⟨rfl, ?_⟩
    rw [hsg] at hc
    rcases hys with ⟨rfl, rfl⟩ | ⟨rfl, f1, t1, rfl, h1⟩ | ⟨rfl, _⟩
    · have hcc : c1 = c := by simpa using hc
      exact .inr (.inl ⟨rfl, _, _, rfl, hcc ▸ hF⟩)
    · have hcc : c2 = c := by simpa using hc
      exact .inr (.inr ⟨rfl, _, _, _, _, rfl, h1, hcc ▸ hF⟩)
    · rw [hsg] at hi'
      exact absurd hi' (Nat.lt_irrefl 2)
  · rintro ys nw ⟨rfl, hys⟩
    obtain ⟨f1, t1, f2, t2, rfl, hf1, hf2⟩ : ∃ f1 t1 f2 t2, ys = [.int f1 t1, .int f2 t2] ∧ Find1 (cn x) c1 i f1 ∧ Find1 (cn x) c2 i f2 := by
      have e : sg.cps.size = 2 := by rw [hsg]; rfl
      rcases hys with ⟨h, _⟩ | ⟨h, _⟩ | ⟨_, h⟩
      · omega
      · omega
      · exact h
    clear hys
    have g0 : decide ((0 : Int) ≤ -1) = false := by decide
    rcases id hf1 with ⟨rfl, -⟩ | ⟨k1, rfl, -⟩
    · rcases id hf2 with ⟨rfl, -⟩ | ⟨k2, rfl, -⟩
      · k_steps
        unfold Stop
        rename News _ _ _ _ => nE
        exact done_ret (by assumption) (kst_newsOf nE (by intro p9 h9; kst_mem)) ⟨_, _, rfl, rfl, first_none hf1 hf2⟩
      · have g2 : decide ((0 : Int) ≤ (k2 : Int)) = true := decide_eq_true (by omega)
        k_steps
        all_goals unfold Stop
        · exfalso
          rename decide ((_ :: _ : List Int) = []) = true => hb
          simp at hb
        · rename News _ _ _ _ => nE
          rename_i a' b'
          exact done_ret (by assumption) (kst_newsOf nE (by intro p9 h9; kst_mem)) ⟨_, _, rfl, rfl, by rw [show _ = (k2 : Int) from a']; exact first_right hf1 hf2⟩
    · have g1 : decide ((0 : Int) ≤ (k1 : Int)) = true := decide_eq_true (by omega)
      rcases id hf2 with ⟨rfl, -⟩ | ⟨k2, rfl, -⟩
      · k_steps
        all_goals unfold Stop
        · exfalso
          rename decide ((_ :: _ : List Int) = []) = true => hb
          simp at hb
        · rename News _ _ _ _ => nE
          rename_i a' b'
          exact done_ret (by assumption) (kst_newsOf nE (by intro p9 h9; kst_mem)) ⟨_, _, rfl, rfl, by rw [show _ = (k1 : Int) from a']; exact first_left hf1 hf2⟩
      · have g2 : decide ((0 : Int) ≤ (k2 : Int)) = true := decide_eq_true (by omega)
        k_steps
        all_goals unfold Stop
        · exfalso
          rename decide ((_ :: _ : List Int) = []) = true => hb
          simp at hb
        · rename News _ _ _ _ => nE
          rename_i a' b'
          exact done_ret (by assumption) (kst_newsOf nE (by intro p9 h9; kst_mem)) ⟨_, _, rfl, rfl, first_both hf1 hf2 a' b'.1 b'.2⟩
end
end Mine

open PySem PySem.W PyProof.Rows PySem.Calls
namespace Mine
section
structure Ss where
  fd : List (List Nat)
  us : List Value
  n : Nat
  k : Nat
  tk : Tok
local macro_rules | `(tactic| walk_at "exec While Compare cons nil") => `(tactic| (refine Stop.out ?_))
local macro_rules | `(tactic| walk_at "exec While BoolOp") => `(tactic| (refine Stop.out ?_))
local macro_rules | `(tactic| walk_at "exec While") => `(tactic| (refine Stop.out ?_))
local macro_rules | `(tactic| walk_at "call ref") => `(tactic| (refine Stop.out ?_))
local macro_rules | `(tactic| walk_at "KswEnd") => `(tactic| (refine Stop.out ?_))
local macro_rules | `(tactic| walk_at "Done") => `(tactic| (refine Stop.out ?_))
local macro_rules | `(tactic| walk_at "compareOp Eq str str") => `(tactic| (k_here; k_dflt (refine' eq_known ?k1 ?_; (case k1 => with_reducible assumption))))
local macro_rules | `(tactic| walk_at "compareOp In str str") => `(tactic| (k_here; k_dflt (refine' in_known ?k1 ?_; (case k1 => with_reducible assumption))))
local macro_rules | `(tactic| walk_at "compareOp NotIn str str") => `(tactic| (k_here; k_dflt (refine' notin_known ?k1 ?_; (case k1 => with_reducible assumption))))
local macro_rules | `(tactic| walk_at "W_EN2") => `(tactic| ((refine' List.forall_mem_cons.mpr ⟨?e1, List.forall_mem_cons.mpr ⟨?e2, ?e3⟩⟩); (case e1 => k_mem); (case e2 => k_mem); (case e3 => (intro p9 h9; kst_mem))))
local macro_rules | `(tactic| walk_at "W_EN") => `(tactic| ((refine' List.forall_mem_cons.mpr ⟨?e1, ?e3⟩); (case e1 => k_mem); (case e3 => (intro p9 h9; kst_mem))))
local macro_rules | `(tactic| walk_at "compareOp Lt int int") => `(tactic| (k_here; k_dflt (refine' lt_known ?k1 ?_; (case k1 => with_reducible assumption))))
local macro_rules | `(tactic| walk_at "compareOp Eq int int") => `(tactic| (k_here; k_dflt (refine' eqi_known ?k1 ?_; (case k1 => with_reducible assumption))))
local macro_rules | `(tactic| walk_at "subscriptTail Name Name str int") => `(tactic| (k_here; k_dflt (refine' my_item ?k1 ?k2 ?_ ?k3 ?k4; (case k1 => with_reducible assumption); (case k2 => assumption); (case k3 => with_unfolding_all rfl); (case k4 => (intro _; with_unfolding_all rfl))); intro t8))
local macro_rules | `(tactic| walk_at "subscriptTail Name Slice str ref") => `(tactic| (k_here; (with_reducible rename Fr _ _ _ _ => F'); (with_reducible rename News _ _ _ _ => N'); (refine slice_strN_ss (hsz := ?hsz) (s := ⟨_, _, _, _, _⟩) F' N' ?_); (case hsz => (rw [PySem.sizeLine_eq]; omega)); intro h8 t8 k8 F8 N8))
local macro_rules | `(tactic| walk_at "call builtin:len") => `(tactic| (k_here; k_dflt (refine' my_len ?k1 ?_; (case k1 => assumption)); intro t8))
local macro_rules | `(tactic| walk_at "call builtin:list.append") => `(tactic| (k_here; k_dflt (refine' append_K ?k1 ?k2 ?k3 ?_ ?z; (case k1 => k_asm); (case k2 => k_asm); (case k3 => k_upd); (case z => (rw [PySem.sizeLine_eq, List.size_toArray]; omega))); intro h8 F8 N8))
local macro_rules | `(tactic| walk_at "KSW_SAME") => `(tactic| (intro z z2 z3; (simp only [List.forall_mem_cons, List.not_mem_nil, false_implies, implies_true, and_true, ne_eq] at z2); first
  | (have z4 := z3; (simp only [List.contains_cons, List.contains_nil, Bool.or_false, Bool.or_eq_false_iff, beq_eq_false_iff_ne, ne_eq] at z4); (simp only [kstB, z2, z3, z4, List.contains_nil, if_false, Bool.false_eq_true, ite_self]; done))
  | (simp only [kstB, z2, List.contains_nil, if_false, Bool.false_eq_true, ite_self]; done)))
local macro_rules | `(tactic| walk_at "compareOp GtE int int") => `(tactic| (k_here; k_dflt (refine' ge_known ?k1 ?_; (case k1 => with_reducible assumption))))
set_option maxRecDepth 100000 in
set_option maxHeartbeats 2000000 in
/-- _law_stretches -/
theorem c_stretches (w : World) (d : Nat) (x : Str) (t : Tok) (news : List (Addr × Obj)) (hx : x.length ≤ 1000) :
    Con w (d + 1) 715 news [.str x t] (fun v news' => ∃ l us n, v = .ref l ∧ news' = (l, listOf us.toArray n) :: news ∧ StrsAre us ((stretches (cn x)).map tx) ∧ ∀ p ∈ news, p.1 < l) := by
  w_on
  refine con_of [(Str.ofString "text", .str x t)] (by k_is) (by k_is) (fun s => BindsTo.of_eq (by rfl)) (locs (by rfl)) (by rfl) (by rfl) (by rfl) (by decide) ?_
  intro p loose mean mg mb dp un gd outer A₀ base g L s B F N lt X T hd hu
  simp only [List.reverse_cons, List.reverse_nil, List.nil_append, List.cons_append, bindM] at F
  k_steps
  rename Fr _ _ _ _ => F9
  rename News _ _ _ _ => N9
  unfold Stop
  with_unfolding_all refine' ksw_while (fun (c : Ss) => (_, listOf c.us.toArray c.n) :: news) (fun c => [(Str.ofString "at", .int (c.k : Int) c.tk)]) (fun c => StrsAre c.us (c.fd.map tx)) [Str.ofString "begun", Str.ofString "ended"] (fun c => SI (cn x) c.fd c.k) (fun c => (cn x).length - c.k) ⟨[], [], 0, 0, _⟩ F9 (kst_newsOf N9 (List.forall_mem_cons.mpr ⟨.tail _ (.head _), fun q hq => .tail _ (.tail _ hq)⟩)) .nil ?q1 ?q2 ?q3
  case q1 => kst_all
  case q2 => exact s_start _
  case q3 =>
    rintro ⟨fd, us, n, k, tk⟩ u h tk' hf hq F1 N1
    dsimp only at hf hq F1 N1
    clear F9 N9
    have hMk := kstMark
    have hn := cn_length x
    have hfl := hf.length
    rw [List.length_map] at hfl
    have hfk := hq.1
    have hkl := hq.2.1
    k_steps
    unfold Stop
    rename Fr _ _ _ _ => F8
    rename News _ _ _ _ => N8
    refine' con_use (c_first w d x _ 91 40 k _ _ _ _ hx hkl (by decide +kernel) (by decide) (by decide)) (by assumption) F8 X N8 T rfl (by omega) (by omega) ?_
    rintro v news' h9 tk9 ⟨r, tr, rfl, rfl, hFA⟩ F2 N2
    clear F8 N8
    rcases id hFA with ⟨rfl, -⟩ | ⟨b, rfl, hkb, hbc, -⟩
    · have q1 : decide ((0 : Int) ≤ -1) = false := by decide
      have q2 : decide ((-1 : Int) < 0) = true := by decide
      k_steps
      unfold Stop
      rename News _ _ _ _ => nE
      refine' done_ret (by assumption) (kst_newsOf nE ?en) ⟨_, us, n, rfl, rfl, (s_none hq hFA).symm ▸ hf, by assumption⟩
      case en => walk_at "W_EN"
    · have q1 : decide ((0 : Int) ≤ (b : Int)) = true := decide_eq_true (by omega)
      have hbl : b < (cn x).length := hbc.elim lt_at lt_at
      k_steps
      unfold Stop
      rename Fr _ _ _ _ => F8
      rename News _ _ _ _ => N8
      refine' con_use (c_first w d x _ 93 41 (b + 1) _ _ _ _ hx hbl (by decide +kernel) (by decide) (by decide)) (by assumption) F8 X N8 T rfl (by omega) (by omega) ?_
      rintro v news' h9 tk9 ⟨r, tr, rfl, rfl, hFB⟩ F2 N2
      clear F8 N8
      rcases id hFB with ⟨rfl, -⟩ | ⟨e, rfl, hbe, -, -⟩
      · have q2 : decide ((-1 : Int) < 0) = true := by decide
        k_steps
        unfold Stop
        rename News _ _ _ _ => nE
        refine' done_ret (by assumption) (kst_newsOf nE ?en) ⟨_, us, n, rfl, rfl, (s_open hq hFA hFB).symm ▸ hf, by assumption⟩
        case en => walk_at "W_EN"
      · have q2 : decide ((e : Int) < 0) = false := decide_eq_false (by omega)
        obtain ⟨m1, m2, m3, m4⟩ := s_more hq hFA hFB
        k_steps
        unfold Stop
        rename News _ _ _ _ => nE
        (try simp only [List.push_toArray] at nE)
        refine' ksw_end (⟨fd ++ [((cn x).drop b).take (e + 1 - b)], us ++ [_], _, e + 1, _⟩ : Ss) (by assumption) nE ?en ?ef ?e1 ?e2 m4 ?e3
        case en => walk_at "W_EN"
        case ef => (dsimp only; rw [List.map_append]; exact strs_snoc' hf (my_slice x (i := b) (k := e + 1) (by omega) (by omega)))
        case e1 => kst_all
        case e2 => walk_at "KSW_SAME"
        case e3 => (dsimp only; omega)
end
end Mine

open PySem PySem.W PyProof.Rows PySem.Calls
namespace Mine
section
variable {prog : Program} {w : World} {A : Around} {E : Value → Shared → Prop} {s : Shared} {Q : Value → Shared → Prop}
theorem le_known {a b : Int} {t u : Tok} {r : Bool} (e : decide (a ≤ b) = r) (h : Q (.bool r) s) : wpAny (model prog w) A (compareOp .LtE (.int a t) (.int b u)) Q E s :=
  P.le_int (by rw [e]; exact h)
theorem mod_known {a b : Int} {t u : Tok} (hb : 0 < b) (h : ∀ r t', 0 ≤ r → r < b → Q (.int r t') { s with toks := s.toks + 1 }) : wpAny (model prog w) A (binaryOp .Mod (.int a t) (.int b u)) Q E s :=
  PyProof.Rows.mod_int (by omega) (h _ _ (Int.fmod_nonneg_of_pos a hb) (Int.fmod_lt_of_pos a hb))
end
theorem item_lstZ {prog : Program} {w : World} {A : Around} {E : Value → Shared → Prop} {s : Shared} {h₀ : Heap} {L l : Addr} {news : List (Addr × Obj)} {us : List Value} {i n : Nat} {j : Int} {u : Tok} {v : Value} {Q : Value → Shared → Prop} {value slice : PySem.Expr} (N : News h₀ L s.heap news) (hm : (l, listOf us.toArray n) ∈ news) (hv : us[i]? = some v) (hi : us.length ≤ 1000) (hj : j = (i : Int)) (h : Q v s)
    (hs : subscripted slice false (.ref l) (.int j u) = operate [.ref l, .int j u] (getItem (.ref l) (.int j u)) := by with_unfolding_all rfl) :
    wpAny (model prog w) A (subscriptTail value slice (.ref l) (.int j u)) Q E s := by
  subst hj
  exact item_lst N hm hv hi h hs
theorem ints_at : ∀ {us : List Value} {ws : List Int}, IntsAre us ws → ∀ i : Nat, i < us.length → ∃ y t, us[i]? = some (.int y t)
  | _, _, .nil, _, h => absurd h (Nat.not_lt_zero _)
  | _, _, .cons y t _, 0, _ => ⟨y, t, rfl⟩
  | _, _, .cons _ _ r, i + 1, h => by
    obtain ⟨y, t, a⟩ := ints_at r i (Nat.lt_of_succ_lt_succ h)
    exact ⟨y, t, by simpa using a⟩
section
local macro_rules | `(tactic| walk_at "Done") => `(tactic| (refine Stop.out ?_))
local macro_rules | `(tactic| walk_at "compareOp LtE int int") => `(tactic| (k_here; k_dflt (refine' le_known ?k1 ?_; (case k1 => with_reducible assumption))))
local macro_rules | `(tactic| walk_at "binaryOp Mod int int") => `(tactic| (k_here; k_dflt (refine' mod_known ?k1 ?_; (case k1 => with_reducible assumption)); intro r8 t8 a8 b8))
local macro_rules | `(tactic| walk_at "call builtin:len") => `(tactic| (k_here; k_dflt (refine' len_lst ?k1 ?k2 ?k3 ?k4 ?_; (case k1 => k_asm); (case k2 => exact .tail _ (by assumption)); (case k3 => rfl); (case k4 => omega))))
local macro_rules | `(tactic| walk_at "subscriptTail Name BinOp ref int") => `(tactic| (k_here; k_dflt (refine' item_lstZ ?k1 ?k2 ?k3 ?k4 ?kj ?_ ?k5; (case k1 => k_asm); (case k2 => exact .tail _ (by assumption)); (case k3 => assumption); (case k4 => omega); (case kj => omega); (case k5 => with_unfolding_all rfl))))
local macro_rules | `(tactic| walk_at "setItem ref int") => `(tactic| (k_here; k_dflt (refine' ki_set ?F ?N ?a ?b ?e ?U ?_; (case F => k_asm); (case N => k_asm); (case U => exact Upd.head (by assumption)); (case a => decide); (case b => decide); (case e => rfl)); intro h8 F8 N8))
set_option maxRecDepth 100000 in
set_option maxHeartbeats 2000000 in
/-- _law_next -/
theorem c_next (w : World) (d : Nat) (S l : Addr) (us : List Value) (ns : List Int) (n n2 k : Nat) (lim : Int) (tk tl : Tok) (rest : List (Addr × Obj)) (hl : (l, listOf us.toArray n2) ∈ rest) (hus : IntsAre us ns) (h60 : us.length ≤ 60) (hk : k ≤ 1000) (hlim : 0 < lim) (hS : ∀ p ∈ rest, p.1 ≠ S) :
    Con w d 684 ((S, listOf #[.ref l, .int (k : Int) tk] n) :: rest) [.ref S, .int lim tl] (fun v news' => ∃ r tr tk', v = .int r tr ∧ 0 ≤ r ∧ r < lim ∧ news' = (S, listOf #[.ref l, .int ((k + 1 : Nat) : Int) tk'] n) :: rest) := by
  w_on
  refine con_of [(Str.ofString "state", .ref S), (Str.ofString "limit", .int lim tl)] (by k_is) (by k_is) (fun s => BindsTo.of_eq (by rfl)) (locs (by rfl)) (by rfl) (by rfl) (by rfl) (by decide) ?_
  intro p loose mean mg mb dp un gd outer A₀ base g L s B F N lt X T hd hu
  simp only [List.reverse_cons, List.reverse_nil, List.nil_append, List.cons_append, bindM] at F
  have hMk := kstMark
  by_cases hle : k + 1 ≤ us.length
  · have q1 : decide (((k : Int) + 1) ≤ (us.length : Int)) = true := decide_eq_true (by omega)
    obtain ⟨y, ty, hy⟩ := ints_at hus k (by omega)
    k_steps
    unfold Stop
    rename_i r8 t8 a8 b8
    exact done_ret (by assumption) (by assumption) ⟨r8, t8, _, rfl, a8, b8, rfl⟩
  · have q1 : decide (((k : Int) + 1) ≤ (us.length : Int)) = false := decide_eq_false (by omega)
    k_steps
    unfold Stop
    rename_i r8 t8 a8 b8
    exact done_ret (by assumption) (by assumption) ⟨r8, t8, _, rfl, a8, b8, rfl⟩
end
end Mine

open PySem PySem.W PyProof.Rows PySem.Calls
namespace Mine
theorem sign_at {r : Int} (h0 : 0 ≤ r) (h1 : r < 11) : ∃ c, At (Str.ofString "(),\"\\abé []") r c := by
  obtain ⟨k, rfl⟩ := Int.eq_ofNat_of_zero_le h0
  have e : (cn (Str.ofString "(),\"\\abé []")).length = 11 := by decide +kernel
  have hk : k < (cn (Str.ofString "(),\"\\abé []")).length := by omega
  exact ⟨_, k, rfl, List.getElem?_eq_getElem hk⟩
section
local macro_rules | `(tactic| walk_at "Done") => `(tactic| (refine Stop.out ?_))
local macro_rules | `(tactic| walk_at "call ref") => `(tactic| (refine Stop.out ?_))
local macro_rules | `(tactic| walk_at "CompEnd") => `(tactic| (refine Stop.out ?_))
local macro_rules | `(tactic| walk_at "CompSrc") => `(tactic| (refine Stop.out ?_))
local macro_rules | `(tactic| walk_at "eval ListComp") => `(tactic| (k_here; k_dflt (refine LCg.ListComp_U (F₀ := by k_asm) (by with_unfolding_all rfl) (by decide) (by rfl) (by decide) (by rfl) ?_)))
local macro_rules | `(tactic| walk_at "subscriptTail Name Call str int") => `(tactic| (k_here; k_dflt (refine' my_item ?k1 ?k2 ?_ ?k3 ?k4; (case k1 => with_reducible assumption); (case k2 => decide +kernel); (case k3 => with_unfolding_all rfl); (case k4 => (intro _; with_unfolding_all rfl))); intro t8))
local macro_rules | `(tactic| walk_at "call builtin:str.join") => `(tactic| (k_here; k_dflt (refine' my_join ?k1 ?k2 ?k3 ?k4 ?_; (case k1 => k_asm); (case k2 => k_mem); (case k3 => assumption); (case k4 => omega)); intro t8 k8))
set_option maxRecDepth 100000 in
set_option maxHeartbeats 2000000 in
/-- _law_text -/
theorem c_text (w : World) (d : Nat) (S l : Addr) (us : List Value) (ns : List Int) (n n2 k : Nat) (tk : Tok) (rest : List (Addr × Obj)) (hl : (l, listOf us.toArray n2) ∈ rest) (hus : IntsAre us ns) (h60 : us.length ≤ 60) (hk : k ≤ 900) (hS : ∀ p ∈ rest, p.1 ≠ S) :
    Con w (d + 1) 689 ((S, listOf #[.ref l, .int (k : Int) tk] n) :: rest) [.ref S] (fun v news' => ∃ x tr k' tk', v = .str x tr ∧ x.length ≤ 14 ∧ k' ≤ k + 15 ∧ news' = (S, listOf #[.ref l, .int ((k' : Nat) : Int) tk'] n) :: rest) := by
  w_on
  refine con_ofC [(Str.ofString "state", .ref S)] (by k_is) (by k_is) (fun s => BindsTo.of_eq (by rfl)) (by rfl) (by decide +kernel) (by rfl) (by rfl) (by rfl) ?_
  intro p loose mean mg mb dp un gd outer A₀ base g L s cells B F N Y lt X T hd hu
  k_cells Y
  simp only [List.cons_append, List.nil_append] at N
  have hMk := kstMark
  rename Obj => o9
  have hSL : @Ne Nat (L + 1) S := Nat.ne_of_gt (Nat.lt_succ_of_lt (lt _ (.head _)))
  k_steps
  unfold Stop
  rename Fr _ _ _ _ => F8
  rename News _ _ _ _ => N8
  refine' con_use (c_next w d S l us ns n n2 k 15 tk _ ((L + 1, o9) :: rest) (.tail _ hl) hus h60 (by omega) (by decide) ?hs) (by assumption) F8 X (kst_newsOf N8 ?hn) T rfl (by omega) (by omega) ?_
  case hn => exact List.forall_mem_cons.mpr ⟨.tail _ (.head _), List.forall_mem_cons.mpr ⟨.head _, fun q hq => .tail _ (.tail _ hq)⟩⟩
  case hs => exact List.forall_mem_cons.mpr ⟨hSL, hS⟩
  rintro v news' h9 tk9 ⟨r, tr, tk1, rfl, r0, r15, rfl⟩ F2 N2
  clear F8 N8
  obtain ⟨r, rfl⟩ := Int.eq_ofNat_of_zero_le r0
  k_steps
  unfold Stop
  rename Fr _ _ _ _ => F8
  rename News _ _ _ _ => N8
  refine LCg.CompSrc.range (by rfl) F8 N8 (by assumption) (small_one (by omega) (by omega) (by omega) (by omega)) (rangeSize_nat _ _) (by rw [PySem.sizeLine_eq]; omega) ?_
  intro g'
  refine comp_inv (fun i ys nw => ∃ (k' : Nat) (tk' : Tok) (cs : List Nat), nw = (S, listOf #[.ref l, .int (k' : Int) tk'] n) :: (L + 1, o9) :: rest ∧ k' ≤ k + 1 + i ∧ StrsAre ys (cs.map ch) ∧ cs.length = i) _ ?_ ?_ ⟨k + 1, _, [], rfl, Nat.le_refl _, .nil, rfl⟩
  · rintro i v ys nw I oI C oC D m₂ h tk E' hi ⟨t, rfl⟩ ⟨k', tk', cs, rfl, hk', hys, hcs⟩ hC hx F N off ne
    k_steps
    unfold Stop
    rename Fr _ _ _ _ => F7
    rename News _ _ _ _ => N7
    rename IntsAre _ _ => hus
    refine' con_use (c_next w d S l us ns n n2 k' 11 tk' _ ((I, oI) :: (C, oC) :: (D, LCg.lst ys) :: (L + 1, o9) :: rest) (.tail _ (.tail _ (.tail _ (.tail _ hl)))) hus h60 (by omega) (by decide) ?hs) (by assumption) F7 X (kst_newsOf N7 ?hn) T rfl (by omega) (by omega) ?_
    case hs => exact List.forall_mem_cons.mpr ⟨Ne.symm off.1.1, List.forall_mem_cons.mpr ⟨Ne.symm off.1.2.1, List.forall_mem_cons.mpr ⟨Ne.symm off.1.2.2, List.forall_mem_cons.mpr ⟨hSL, hS⟩⟩⟩⟩
    case hn => exact List.forall_mem_cons.mpr ⟨.tail _ (.tail _ (.tail _ (.head _))), List.forall_mem_cons.mpr ⟨.head _, List.forall_mem_cons.mpr ⟨.tail _ (.head _), List.forall_mem_cons.mpr ⟨.tail _ (.tail _ (.head _)), fun q hq => .tail _ (.tail _ (.tail _ (.tail _ hq)))⟩⟩⟩⟩
    rintro v news' h9 tk9 ⟨r, tr, tk1, rfl, r0, r11, rfl⟩ F2 N2
    clear F7 N7
    obtain ⟨c, hA⟩ := sign_at r0 r11
    k_steps
    unfold Stop
    rename Fr _ _ _ _ => F7
    rename News _ _ _ _ => N7
    refine LCg.CompEnd.intro F7 N7 ((S, listOf #[.ref l, .int ((k' + 1 : Nat) : Int) tk1] n) :: (L + 1, o9) :: rest) ?he off trivial ⟨k' + 1, _, cs ++ [c], rfl, by omega, ?hc, ?hl⟩
    case he => exact List.forall_mem_cons.mpr ⟨.tail _ (.head _), List.forall_mem_cons.mpr ⟨.tail _ (.tail _ (.head _)), List.forall_mem_cons.mpr ⟨.tail _ (.tail _ (.tail _ (.head _))), List.forall_mem_cons.mpr ⟨.head _, fun q hq => .tail _ (.tail _ (.tail _ (.tail _ hq)))⟩⟩⟩⟩
    case hc => (rw [List.map_append]; exact strs_snoc hys)
    case hl => (rw [List.length_append, hcs]; rfl)
  · rintro ys nw ⟨k', tk', cs, rfl, hk', hys, hcs⟩
    have hc14 : cs.length ≤ 14 := by omega
    k_steps
    unfold Stop
    rename News _ _ _ _ => nE
    refine' done_ret (news' := (S, listOf #[.ref l, .int (k' : Int) tk'] n) :: rest) (by assumption) (kst_newsOf nE ?he) ⟨_, _, k', tk', rfl, (tx_length cs).symm ▸ hc14, by omega, rfl⟩
    case he => exact List.forall_mem_cons.mpr ⟨.tail _ (.head _), fun q hq => .tail _ (.tail _ (.tail _ hq))⟩
end
end Mine

open PySem PySem.W PyProof.Rows PySem.Calls
namespace Mine
theorem ints60 {us : List Value} {ns : List Int} (h : IntsAre us (List.take 60 ns)) : us.length ≤ 60 := by
  rw [h.length]; exact List.length_take_le 60 _
/-- a statement's end that leaves the names and the ledger as they stood -/
def Cut (g : Heap) (L : Addr) (s₀ : Shared) (m : Str → Option Value) (news : List (Addr × Obj)) (fl : Flow) (s' : Shared) : Prop :=
  fl = .next ∧ ∃ h' tk', s' = { s₀ with heap := h', toks := tk' } ∧ Fr g L h' m ∧ News g L h' news
theorem cut_in {g : Heap} {L : Addr} {s₀ : Shared} {m : Str → Option Value} {news : List (Addr × Obj)} {h' : Heap} {tk' : Nat} (F : Fr g L h' m) (N : News g L h' news) : Cut g L s₀ m news .next { s₀ with heap := h', toks := tk' } := ⟨rfl, h', tk', rfl, F, N⟩
theorem cut_at {M : Model} {A : Around} {g : Heap} {L : Addr} {m : Str → Option Value} {news news₀ : List (Addr × Obj)} {st : Stmt} {env : Env} {Q : Flow → Shared → Prop} {E : Value → Shared → Prop} {s : Shared} (_F : Fr g L s.heap m) (_N : News g L s.heap news₀) (hsub : ∀ p ∈ news, p ∈ news₀)
    (h : wpAny M A (exec st env) (Cut g L s m news) E s) (k : ∀ h' tk', Fr g L h' m → News g L h' news → Q .next { s with heap := h', toks := tk' }) : wpAny M A (exec st env) Q E s := by
  refine wpAny_mono h ?_ fun _ _ x => x
  rintro fl s' ⟨rfl, h', tk', rfl, F, N⟩
  exact k h' tk' F N
structure MyMark2 : Prop where
  one : True
structure MyMark3 : Prop where
  one : True
section
local macro_rules | `(tactic| walk_at "call ref") => `(tactic| ((with_reducible first | show wpAny _ _ (call (Value.ref 677) _) _ _ _ | show wpAny _ _ (call (Value.ref 689) _) _ _ _ | show wpAny _ _ (call (Value.ref 703) _) _ _ _ | show wpAny _ _ (call (Value.ref 715) _) _ _ _ | show wpAny _ _ (call (Value.ref 727) _) _ _ _); refine Stop.out ?_))
local macro_rules | `(tactic| walk_at "exec For Name Name cons nil") => `(tactic| (k_here; (rename Fr _ _ _ _ => lF'); (with_unfolding_all refine' For_invVF lF' ?k1 ?k2 ?_; (case k1 => exact rfl); (case k2 => exact rfl); k_whole)))
local macro_rules | `(tactic| walk_at "InvEndN") => `(tactic| (refine Stop.out ?_))
local macro_rules | `(tactic| walk_at "call builtin:str.join") => `(tactic| (k_here; k_dflt (refine' my_join ?k1 ?k2 ?k3 ?k4 ?_; (case k1 => k_asm); (case k2 => k_mem); (case k3 => assumption); (case k4 => omega)); intro t8 k8))
local macro_rules | `(tactic| walk_at "call builtin:list.clear") => `(tactic| (k_here; k_dflt (refine' my_clear ?k1 ?k2 ?k3 ?k4 ?_; (case k1 => k_asm); (case k2 => k_asm); (case k3 => (intro k7; k_upd)); (case k4 => omega)); intro k8 h8 F8 N8))
local macro_rules | `(tactic| walk_at "call builtin:list.append") => `(tactic| (k_here; k_dflt (refine' my_append ?k1 ?k2 ?k3 ?k4 ?_; (case k1 => k_asm); (case k2 => k_asm); (case k3 => k_upd); (case k4 => omega)); intro h8 F8 N8))
local macro_rules | `(tactic| walk_at "compareOp In str str") => `(tactic| (k_here; k_dflt (refine' in_known ?k1 ?_; (case k1 => with_reducible assumption))))
local macro_rules | `(tactic| walk_at "call builtin:len") => `(tactic| (k_here; (with_reducible rename MyMark2 => hM2); k_dflt (refine' my_lenA ?k1 ?k2 ?k3 ?k4 ?_; (case k1 => k_asm); (case k2 => k_mem); (case k3 => first | (rw [List.size_toArray, List.length_append, List.length_singleton]; done) | (rw [List.size_toArray]; done)); (case k4 => omega))))
local macro_rules | `(tactic| walk_at "REC_EN") => `(tactic| (dsimp only; repeat' (first | exact List.forall_mem_nil _ | refine List.forall_mem_cons.mpr ⟨by k_mem, ?_⟩)))
local macro_rules | `(tactic| walk_at "REC_HR") => `(tactic| ((show ∀ z, _ → _ → _ → _ = _); intro z z1 z2 z3; have z4 := z2 _ (List.Mem.head _); have z5 : z ≠ Str.ofString "value" := (by intro q; rw [q] at z3; exact absurd z3 (by decide)); (simp only [kstB, z1, z4, z5, z3, if_false, Bool.false_eq_true]; done)))
local macro_rules | `(tactic| walk_at "compareOp Eq ref ref") => `(tactic| (refine Stop.out ?_))
local macro_rules | `(tactic| walk_at "LeaveK") => `(tactic| ((with_reducible rename MyMark3 => hM3); clear hM3; k_dflt (refine' leaveK_ ?k1 ?k2 ?_; (case k1 => k_asm); (case k2 => k_asm)); intro kF kN; refine Stop.out ?_))
local macro_rules | `(tactic| walk_at "CompEnd") => `(tactic| (refine Stop.out ?_))
local macro_rules | `(tactic| walk_at "CompSrc") => `(tactic| (refine Stop.out ?_))
local macro_rules | `(tactic| walk_at "eval ListComp") => `(tactic| (k_here; k_dflt (refine LCg.ListComp_U (F₀ := by k_asm) (by with_unfolding_all rfl) (by decide) (by rfl) (by decide) (by rfl) ?_)))
local macro_rules | `(tactic| k_ne) => `(tactic| ((with_reducible rename MyMark2 => hM2); (refine neN ?_); (try dsimp only); with_reducible first | exact Nat.ne_of_lt (by assumption) | exact Nat.ne_of_gt (by assumption)))
local macro_rules | `(tactic| walk_at "pyIter str") => `(tactic| (refine Stop.out ?_))
local macro_rules | `(tactic| walk_at "exec If BoolOp") => `(tactic| ((with_reducible fail_if_success show wpAny _ _ _ (Cut _ _ _ _ _) _ _); refine Stop.out ?_))
local macro_rules | `(tactic| walk_at "exec If UnaryOp") => `(tactic| ((with_reducible fail_if_success show wpAny _ _ _ (Cut _ _ _ _ _) _ _); refine Stop.out ?_))
local macro_rules | `(tactic| walk_at "Cut") => `(tactic| (refine Stop.out ?_))
local macro_rules | `(tactic| walk_at "binaryOp Add ref ref") => `(tactic| (k_here; k_dflt (refine' my_add ?F ?N ?a ?b ?u ?v ?_; (case F => k_asm); (case N => k_asm); (case a => k_mem); (case b => k_mem); (case u => assumption); (case v => assumption)); intro D8 h8 F8 N8))
set_option maxRecDepth 100000 in
set_option maxHeartbeats 4000000 in
theorem law_walk : WalkT := by
  unfold WalkT Kept
  k_go0
  all_goals try k_fold
  have hMk := kstMark
  k_steps
  unfold Stop
  rename IntsAre _ (List.take 60 _) => hI9
  have h60 := ints60 hI9
  k_steps
  unfold Stop
  rename Fr _ _ _ _ => F8
  rename News _ _ _ _ => N8
  refine' con_top (c_text _ 0 _ _ _ _ 0 _ 0 _ _ (.head _) hI9 h60 (by omega) ?hs) (by assumption) F8 (by assumption) N8 (by assumption) rfl rfl (by decide +kernel) (by decide +kernel) ?_
  case hs => k_all
  rintro v news' h9 tk9 ⟨x1, tx1, k1, tk1, rfl, hx1, hk1, rfl⟩ F2 N2
  clear F8 N8
  k_steps
  unfold Stop
  rename Fr _ _ _ _ => F8
  rename News _ _ _ _ => N8
  refine' con_top (c_text _ 0 _ _ _ _ 0 _ k1 _ _ (.head _) hI9 h60 (by omega) ?hs) (by assumption) F8 (by assumption) N8 (by assumption) rfl rfl (by decide +kernel) (by decide +kernel) ?_
  case hs => k_all
  rintro v news' h9 tk9 ⟨x2, tx2, k2, tk2, rfl, hx2, hk2, rfl⟩ F2 N2
  clear F8 N8
  k_steps
  unfold Stop
  rename Fr _ _ _ _ => F8
  rename News _ _ _ _ => N8
  refine' con_top (c_text _ 0 _ _ _ _ 0 _ k2 _ _ (.head _) hI9 h60 (by omega) ?hs) (by assumption) F8 (by assumption) N8 (by assumption) rfl rfl (by decide +kernel) (by decide +kernel) ?_
  case hs => k_all
  rintro v news' h9 tk9 ⟨x3, tx3, k3, tk3, rfl, hx3, hk3, rfl⟩ F2 N2
  clear F8 N8
  k_steps
  unfold Stop
  rename Fr _ _ _ _ => F8
  rename News _ _ _ _ => N8
  refine' con_top (c_walk _ 0 x1 _ _ (by omega)) (by assumption) F8 (by assumption) N8 (by assumption) rfl rfl (by decide +kernel) (by decide +kernel) ?_
  rintro v news' h9 tk9 ⟨w1, l1, us1, n1, b1, rfl, rfl, g1, e1, -, -⟩ F2 N2
  clear F8 N8
  have hz1 : us1.length ≤ 1000 := by rw [g1.length]; exact pieces_small (by omega)
  k_steps
  unfold Stop
  rename Fr _ _ _ _ => F8
  rename News _ _ _ _ => N8
  refine' cut_at (news := [(l1, listOf us1.toArray n1), (717, tabObj #[]), (23, tabObj #[])]) F8 N8 ?hsub ?hif ?_
  case hsub => exact List.forall_mem_cons.mpr ⟨by k_mem, List.forall_mem_cons.mpr ⟨by k_mem, List.forall_mem_cons.mpr ⟨by k_mem, List.forall_mem_nil _⟩⟩⟩
  case hif =>
    k_steps
    unfold Stop
    rename Fr _ _ _ _ => F8
    rename News _ _ _ _ => N8
    refine' con_top (c_rec _ 0 x1 _ _ (by omega)) (by assumption) F8 (by assumption) N8 (by assumption) rfl rfl (by decide +kernel) (by decide +kernel) ?_
    rintro v news' h9 tk9 ⟨ra, vsa, rfl, rfl, fa, -⟩ F2 N2
    clear F8 N8
    k_steps
    unfold Stop
    rename Fr _ _ _ _ => F8
    rename News _ _ _ _ => N8
    refine' con_top (c_plain _ 0 _ _ _ _ _ _ _ ?hr ?hl fa g1 (pieces_small (by omega))) (by assumption) F8 (by assumption) N8 (by assumption) rfl rfl (by decide +kernel) (by decide +kernel) ?_
    case hr => k_mem
    case hl => k_mem
    rintro v news' h9 tk9 ⟨rfl, rfl⟩ F2 N2
    clear F8 N8
    k_steps
    unfold Stop
    rename Fr _ _ _ _ => F8
    rename News _ _ _ _ => N8
    refine' con_top (c_rec _ 0 x2 _ _ (by omega)) (by assumption) F8 (by assumption) N8 (by assumption) rfl rfl (by decide +kernel) (by decide +kernel) ?_
    rintro v news' h9 tk9 ⟨rb, vsb, rfl, rfl, fb, -⟩ F2 N2
    clear F8 N8
    k_steps
    unfold Stop
    rename Fr _ _ _ _ => F8
    rename News _ _ _ _ => N8
    refine' con_top (c_walk _ 0 x2 _ _ (by omega)) (by assumption) F8 (by assumption) N8 (by assumption) rfl rfl (by decide +kernel) (by decide +kernel) ?_
    rintro v news' h9 tk9 ⟨wb, lb, usb, nb, bb, rfl, rfl, gb, eb, -, -⟩ F2 N2
    clear F8 N8
    k_steps
    unfold Stop
    rename Fr _ _ _ _ => F8
    rename News _ _ _ _ => N8
    refine' con_top (c_plain _ 0 _ _ _ _ _ _ _ ?hr ?hl fb gb (pieces_small (by omega))) (by assumption) F8 (by assumption) N8 (by assumption) rfl rfl (by decide +kernel) (by decide +kernel) ?_
    case hr => k_mem
    case hl => k_mem
    rintro v news' h9 tk9 ⟨rfl, rfl⟩ F2 N2
    clear F8 N8
    k_steps
    unfold Stop
    rename Fr _ _ _ _ => F8
    rename News _ _ _ _ => N8
    exact cut_in F8 (kst_newsOf N8 (by exact List.forall_mem_cons.mpr ⟨by k_mem, List.forall_mem_cons.mpr ⟨by k_mem, List.forall_mem_cons.mpr ⟨by k_mem, List.forall_mem_nil _⟩⟩⟩))
  intro h9 tk9 F2 N2
  clear F8 N8
  k_steps
  unfold Stop
  rename Fr _ _ _ _ => F8
  rename News _ _ _ _ => N8
  refine' cut_at (news := [(l1, listOf us1.toArray n1), (717, tabObj #[]), (23, tabObj #[])]) F8 N8 ?hsub ?hif ?_
  case hsub => exact List.forall_mem_cons.mpr ⟨by k_mem, List.forall_mem_cons.mpr ⟨by k_mem, List.forall_mem_cons.mpr ⟨by k_mem, List.forall_mem_nil _⟩⟩⟩
  case hif =>
    k_steps
    unfold Stop
    rename Fr _ _ _ _ => F8
    rename News _ _ _ _ => N8
    refine' con_top (c_rec _ 0 x3 _ _ (by omega)) (by assumption) F8 (by assumption) N8 (by assumption) rfl rfl (by decide +kernel) (by decide +kernel) ?_
    rintro v news' h9 tk9 ⟨ra, vsa, rfl, rfl, fa, -⟩ F2 N2
    clear F8 N8
    k_steps
    unfold Stop
    rename Fr _ _ _ _ => F8
    rename News _ _ _ _ => N8
    refine' con_top (c_walk _ 0 x3 _ _ (by omega)) (by assumption) F8 (by assumption) N8 (by assumption) rfl rfl (by decide +kernel) (by decide +kernel) ?_
    rintro v news' h9 tk9 ⟨wa, la, usa, na, ba, rfl, rfl, ga, ea, -, -⟩ F2 N2
    clear F8 N8
    k_steps
    unfold Stop
    rename Fr _ _ _ _ => F8
    rename News _ _ _ _ => N8
    refine' con_top (c_plain _ 0 _ _ _ _ _ _ _ ?hr ?hl fa ga (pieces_small (by omega))) (by assumption) F8 (by assumption) N8 (by assumption) rfl rfl (by decide +kernel) (by decide +kernel) ?_
    case hr => k_mem
    case hl => k_mem
    rintro v news' h9 tk9 ⟨rfl, rfl⟩ F2 N2
    clear F8 N8
    k_steps
    unfold Stop
    rename Fr _ _ _ _ => F8
    rename News _ _ _ _ => N8
    exact cut_in F8 (kst_newsOf N8 (by exact List.forall_mem_cons.mpr ⟨by k_mem, List.forall_mem_cons.mpr ⟨by k_mem, List.forall_mem_cons.mpr ⟨by k_mem, List.forall_mem_nil _⟩⟩⟩))
  intro h9 tk9 F2 N2
  clear F8 N8
  k_steps
  unfold Stop
  rename Fr _ _ _ _ => F8
  rename News _ _ _ _ => N8
  refine' cut_at (news := [(l1, listOf us1.toArray n1), (717, tabObj #[]), (23, tabObj #[])]) F8 N8 ?hsub ?hif ?_
  case hsub => exact List.forall_mem_cons.mpr ⟨by k_mem, List.forall_mem_cons.mpr ⟨by k_mem, List.forall_mem_cons.mpr ⟨by k_mem, List.forall_mem_nil _⟩⟩⟩
  case hif =>
    have hz12 : (x1 ++ x2).length ≤ 1000 := by rw [len_append]; omega
    cases b1
    · k_steps
      unfold Stop
      rename Fr _ _ _ _ => F8
      rename News _ _ _ _ => N8
      exact cut_in F8 (kst_newsOf N8 (by exact List.forall_mem_cons.mpr ⟨by k_mem, List.forall_mem_cons.mpr ⟨by k_mem, List.forall_mem_cons.mpr ⟨by k_mem, List.forall_mem_nil _⟩⟩⟩))
    · skip
      have he1 := e1 rfl
      k_steps
      unfold Stop
      rename Fr _ _ _ _ => F8
      rename News _ _ _ _ => N8
      refine' con_top (c_rec _ 0 (x1 ++ x2) _ _ hz12) (by assumption) F8 (by assumption) N8 (by assumption) rfl rfl (by decide +kernel) (by decide +kernel) ?_
      rintro v news' h9 tk9 ⟨ra, vsa, rfl, rfl, fa, -⟩ F2 N2
      clear F8 N8
      k_steps
      unfold Stop
      rename Fr _ _ _ _ => F8
      rename News _ _ _ _ => N8
      refine' con_top (c_walk _ 0 x2 _ _ (by omega)) (by assumption) F8 (by assumption) N8 (by assumption) rfl rfl (by decide +kernel) (by decide +kernel) ?_
      rintro v news' h9 tk9 ⟨wb, lb, usb, nb, bb, rfl, rfl, gb, eb, -, -⟩ F2 N2
      clear F8 N8
      have hzb : usb.length ≤ 1000 := by rw [gb.length]; exact pieces_small (by omega)
      k_steps
      unfold Stop
      rename Fr _ _ _ _ => F8
      rename News _ _ _ _ => N8
      refine' con_top (c_plain _ 0 _ _ _ _ _ _ _ ?hr ?hl fa (by rw [pieces_app he1]; exact strs_append g1 gb) (pieces_small hz12)) (by assumption) F8 (by assumption) N8 (by assumption) rfl rfl (by decide +kernel) (by decide +kernel) ?_
      case hr => k_mem
      case hl => k_mem
      rintro v news' h9 tk9 ⟨rfl, rfl⟩ F2 N2
      clear F8 N8
      k_steps
      unfold Stop
      rename Fr _ _ _ _ => F8
      rename News _ _ _ _ => N8
      exact cut_in F8 (kst_newsOf N8 (by exact List.forall_mem_cons.mpr ⟨by k_mem, List.forall_mem_cons.mpr ⟨by k_mem, List.forall_mem_cons.mpr ⟨by k_mem, List.forall_mem_nil _⟩⟩⟩))
  intro h9 tk9 F2 N2
  clear F8 N8
  k_steps
  unfold Stop
  rename Fr _ _ _ _ => F8
  rename News _ _ _ _ => N8
  refine' cut_at (news := [(717, tabObj #[]), (23, tabObj #[])]) F8 N8 ?hsub ?hif ?_
  case hsub => exact List.forall_mem_cons.mpr ⟨by k_mem, List.forall_mem_cons.mpr ⟨by k_mem, List.forall_mem_nil _⟩⟩
  case hif =>
    have hz12 : (x1 ++ x2).length ≤ 1000 := by rw [len_append]; omega
    k_steps
    unfold Stop
    rename Fr _ _ _ _ => F8
    rename News _ _ _ _ => N8
    refine' con_top (c_rec _ 0 (x1 ++ x2) _ _ hz12) (by assumption) F8 (by assumption) N8 (by assumption) rfl rfl (by decide +kernel) (by decide +kernel) ?_
    rintro v news' h9 tk9 ⟨ra, vsa, rfl, rfl, fa, -⟩ F2 N2
    clear F8 N8
    k_steps
    unfold Stop
    rename Fr _ _ _ _ => F8
    rename News _ _ _ _ => N8
    refine' con_top (c_walk _ 0 (x1 ++ x2) _ _ hz12) (by assumption) F8 (by assumption) N8 (by assumption) rfl rfl (by decide +kernel) (by decide +kernel) ?_
    rintro v news' h9 tk9 ⟨wa, la, usa, na, ba, rfl, rfl, ga, ea, -, -⟩ F2 N2
    clear F8 N8
    k_steps
    unfold Stop
    rename Fr _ _ _ _ => F8
    rename News _ _ _ _ => N8
    refine' con_top (c_plain _ 0 _ _ _ _ _ _ _ ?hr ?hl fa ga (pieces_small hz12)) (by assumption) F8 (by assumption) N8 (by assumption) rfl rfl (by decide +kernel) (by decide +kernel) ?_
    case hr => k_mem
    case hl => k_mem
    rintro v news' h9 tk9 ⟨rfl, rfl⟩ F2 N2
    clear F8 N8
    k_steps
    unfold Stop
    rename Fr _ _ _ _ => F8
    rename News _ _ _ _ => N8
    exact cut_in F8 (kst_newsOf N8 (by exact List.forall_mem_cons.mpr ⟨by k_mem, List.forall_mem_cons.mpr ⟨by k_mem, List.forall_mem_nil _⟩⟩))
  intro h9 tk9 F2 N2
  clear F8 N8
  k_steps
  unfold Stop
  rename Fr _ _ _ _ => F8
  rename News _ _ _ _ => N8
  refine' con_top (c_stretches _ 0 x3 _ _ (by omega)) (by assumption) F8 (by assumption) N8 (by assumption) rfl rfl (by decide +kernel) (by decide +kernel) ?_
  rintro v news' h9 tk9 ⟨due, usd, nd, rfl, rfl, gd, lgd⟩ F2 N2
  clear F8 N8
  have lgd := allLt_of lgd
  simp only [AllLt] at lgd
  k_steps
  unfold Stop
  rename Fr _ _ _ _ => F8
  rename News _ _ _ _ => N8
  refine' kst_text3 ?hh F8 (mv11 N8) ?hk ?turn ?done
  case hh => rfl
  case hk => with_unfolding_all rfl
  case turn =>
    rintro ⟨⟨inr, val, res⟩, us, vs, hs, n1, n2, n3⟩ pre post n t1 u h tk own e hoff ⟨f1, f2, f3⟩ ⟨p1, p2, p3⟩ F1 N1
    dsimp only at f1 f2 f3 p1 p2 p3 F1 N1
    have el := congrArg List.length e
    rw [KStt.codes_length, List.length_append, List.length_cons] at el
    have hul : us.length ≤ 1000 := by rw [f1.length, List.length_map]; omega
    have hvl : vs.length ≤ 1000 := by rw [f2.length]; unfold tens; rw [List.length_map, List.length_range]; omega
    have hhl : hs.length = res.length := by rw [f3.length, List.length_map]
    have hrl : res.length ≤ 999 := by omega
    have hval : val.length ≤ 1000 := by omega
    clear F8 N8 el e
    dsimp only [List.map_cons, List.map_nil] at hoff
    simp only [List.cons_append, List.nil_append] at N1
    have hM2 := MyMark2.mk trivial
    repeat (rename (@LT.lt Nat _ _ _ ∧ _) => hq; obtain ⟨hq1, hq2⟩ := hq)
    cases inr
    · by_cases h1 : n = 91 ∨ n = 40
      · have q1 := (sgn_opens n).trans (decide_eq_true h1)
        k_steps
        unfold Stop
        rename News _ _ _ _ => nE
        refine' kst_end (⟨⟨true, val ++ [n], res⟩, us ++ [_], vs, hs, _, _, _⟩ : Sm) (by assumption) nE ?en ?eo ?ea ?ef ?ek ?er ⟨(pm_snoc p1).trans ?ep, ?el1, ?el2⟩
        case en => walk_at "REC_EN"
        case eo => (intro p9 h9; kst_mem)
        case ea => rfl
        case ef => exact ⟨by rw [List.map_append]; exact strs_snoc f1, f2, f3⟩
        case ek => kst_all
        case er => walk_at "REC_HR"
        case ep => simp [mstep, h1]
        case el1 => (simp only [List.length_append, List.length_cons, List.length_nil]; omega)
        case el2 => (simp only [List.length_append, List.length_cons, List.length_nil]; omega)
      · have q1 := (sgn_opens n).trans (decide_eq_false h1)
        k_steps
        unfold Stop
        rename News _ _ _ _ => nE
        refine' kst_end (⟨⟨false, val, res⟩, us, vs, hs, _, _, _⟩ : Sm) (by assumption) nE ?en ?eo ?ea ?ef ?ek ?er ⟨(pm_snoc p1).trans ?ep, ?el1, ?el2⟩
        case en => walk_at "REC_EN"
        case eo => (intro p9 h9; kst_mem)
        case ea => rfl
        case ef => exact ⟨f1, f2, f3⟩
        case ek => kst_all
        case er => walk_at "REC_HR"
        case ep => simp [mstep, h1]
        case el1 => (simp only [List.length_append, List.length_cons, List.length_nil]; omega)
        case el2 => (simp only [List.length_append, List.length_cons, List.length_nil]; omega)
    · by_cases h1 : n = 93 ∨ n = 41
      · have q1 := (sgn_close n).trans (decide_eq_true h1)
        have f4 : StrsAre (us ++ [.str ⟨#[n]⟩ t1]) ((val ++ [n]).map ch) := by rw [List.map_append]; exact strs_snoc f1
        have hval4 : (val ++ [n]).length ≤ 1001 := by rw [List.length_append, List.length_singleton]; omega
        have hus4 : (us ++ [Value.str ⟨#[n]⟩ t1]).length ≤ 1001 := by rw [List.length_append, List.length_singleton]; omega
        k_steps
        unfold Stop
        rename News _ _ _ _ => nE
        refine' kst_end (⟨⟨false, [], res ++ [val ++ [n]]⟩, [], vs ++ [_], hs ++ [_], _, _, _⟩ : Sm) (by assumption) nE ?en ?eo ?ea ?ef ?ek ?er ⟨(pm_snoc p1).trans ?ep, ?el1, ?el2⟩
        case en => walk_at "REC_EN"
        case eo => (intro p9 h9; kst_mem)
        case ea => rfl
        case ef => exact ⟨.nil, by dsimp only; rw [List.length_append, List.length_singleton, tens_succ]; exact ints_snoc f2 (by rw [hhl]; omega), by dsimp only; rw [List.map_append]; exact strs_snoc f3⟩
        case ek => kst_all
        case er => walk_at "REC_HR"
        case ep => simp [mstep, h1]
        case el1 => (simp only [List.length_append, List.length_cons, List.length_nil]; omega)
        case el2 => (simp only [List.length_append, List.length_cons, List.length_nil]; omega)
      · have q1 := (sgn_close n).trans (decide_eq_false h1)
        k_steps
        unfold Stop
        rename News _ _ _ _ => nE
        refine' kst_end (⟨⟨true, val ++ [n], res⟩, us ++ [_], vs, hs, _, _, _⟩ : Sm) (by assumption) nE ?en ?eo ?ea ?ef ?ek ?er ⟨(pm_snoc p1).trans ?ep, ?el1, ?el2⟩
        case en => walk_at "REC_EN"
        case eo => (intro p9 h9; kst_mem)
        case ea => rfl
        case ef => exact ⟨by rw [List.map_append]; exact strs_snoc f1, f2, f3⟩
        case ek => kst_all
        case er => walk_at "REC_HR"
        case ep => simp [mstep, h1]
        case el1 => (simp only [List.length_append, List.length_cons, List.length_nil]; omega)
        case el2 => (simp only [List.length_append, List.length_cons, List.length_nil]; omega)
  case done =>
    intro us vs hs n1 n2 n3 ib u h tk f2 f3 F N
    clear F8 N8
    rw [show (stretches (cn x3)).length = usd.length from (by rw [gd.length, List.length_map])] at f2
    have hM3 := MyMark3.mk trivial
    have hM2 := MyMark2.mk trivial
    have hud : usd.length ≤ 1000 := by rw [gd.length, List.length_map]; have := stretches_len (cn x3); rw [cn_length] at this; omega
    k_steps
    unfold Stop
    clear F N
    k_steps
    unfold Stop
    rename Fr _ _ _ _ => F8
    rename News _ _ _ _ => N8
    have hU : callerA.units + 3 < cLine := by decide +kernel
    refine eq_strs (us := hs) (vs := usd) N8 (by k_mem) (by k_mem) f3 gd hU ?_
    k_steps
    unfold Stop
    rename Fr _ _ _ _ => F8
    rename News _ _ _ _ => N8
    refine LCg.CompSrc.range (by rfl) F8 N8 (by assumption) (small_one (by omega) (by omega) (by omega) (by omega)) (rangeSize_nat _ _) (by rw [PySem.sizeLine_eq]; omega) ?_
    intro g'
    refine comp_inv (fun i ys nw => nw = _ ∧ IntsAre ys (tens i)) _ ?_ ?_ ⟨rfl, .nil⟩
    · rintro i v ys nw I oI C oC D m₂ h tk E' hi ⟨t, rfl⟩ ⟨rfl, hys⟩ hC hx F N off ne
      k_steps
      unfold Stop
      exact LCg.CompEnd.intro F N _ (fun p hp => hp) off trivial ⟨rfl, by rw [tens_succ]; exact ints_snoc hys (by rw [Int.zero_add])⟩
    · rintro ys nw ⟨rfl, hys⟩
      k_steps
      unfold Stop
      rename Fr _ _ _ _ => F8
      rename News _ _ _ _ => N8
      have hV : callerA.units + 3 + 64 < cLine := by decide +kernel
      refine eq_ints (us := vs) (vs := ys) N8 (by k_mem) (by k_mem) f2 hys hV ?_
      k_steps

end
end Mine

open PySem PySem.W PyProof.Rows
namespace Mine
theorem hd_use {W S : Prop} (f : True → W ∧ S) : S := (f trivial).2
/-! The head lays, for each constant that it writes out, a twin and the twin's equation. Those of the trees and heaps are
very large, and the head comes through without them: a name that stands already is not laid. -/
/-- stands for the twin of heap_1_39 -/
theorem hd.tw10727248033764811480 : True := trivial
/-- stands for the twin of heap_1_47 -/
theorem hd.tw14727110085682223627 : True := trivial
/-- stands for the twin of tree_1_49 -/
theorem hd.tw3673089383077640791 : True := trivial
/-- stands for the twin of tree_1_69 -/
theorem hd.tw16353284522026333675 : True := trivial
/-- stands for the twin of tree_1_259 -/
theorem hd.tw8902478645137244967 : True := trivial
/-- stands for the twin of tree_1_344 -/
theorem hd.tw1268587187398252353 : True := trivial
/-- stands for the twin of tree_1_352 -/
theorem hd.tw8516396586173555454 : True := trivial
/-- stands for the twin of tree_1_572 -/
theorem hd.tw14256263135024787601 : True := trivial
/-- stands for the twin of tree_1_653 -/
theorem hd.tw8557720439512000009 : True := trivial
/-- stands for the twin of tree_1_743 -/
theorem hd.tw3811592773271367157 : True := trivial
/-- stands for the twin of tree_1_795 -/
theorem hd.tw16192261307278809468 : True := trivial
/-- stands for the twin of tree_1_929 -/
theorem hd.tw13540140411694542859 : True := trivial
/-- stands for the twin of tree_1_962 -/
theorem hd.tw13915417613099795869 : True := trivial
/-- stands for the twin of tree_1_1047 -/
theorem hd.tw18048303946913911919 : True := trivial
/-- stands for the twin of tree_1_1066 -/
theorem hd.tw10693273971655334444 : True := trivial
/-- stands for the twin of tree_1_1076 -/
theorem hd.tw5587440605795279889 : True := trivial
/-- stands for the twin of tree_1_1102 -/
theorem hd.tw11476289252869269743 : True := trivial
/-- stands for the twin of tree_1_1120 -/
theorem hd.tw8872683223941718361 : True := trivial
/-- stands for the twin of tree_1_1138 -/
theorem hd.tw2140991558795027242 : True := trivial
/-- stands for the twin of tree_1_1185 -/
theorem hd.tw8537221436171954403 : True := trivial
/-- stands for the twin of tree_1_1194 -/
theorem hd.tw7914744436752029447 : True := trivial
/-- stands for the twin of tree_1_1206 -/
theorem hd.tw4267557013636171763 : True := trivial
/-- stands for the twin of tree_1_1217 -/
theorem hd.tw10492822194049148480 : True := trivial
/-- stands for the twin of tree_1_1226 -/
theorem hd.tw720451198259331604 : True := trivial
/-- stands for the twin of tree_1_1239 -/
theorem hd.tw1983418560594488843 : True := trivial
/-- stands for the twin of tree_1_1259 -/
theorem hd.tw18360395170990003915 : True := trivial
/-- stands for the twin of tree_1_1332 -/
theorem hd.tw7750477164304352153 : True := trivial
/-- stands for the twin of heap_1_1334 -/
theorem hd.tw1945452389420114427 : True := trivial
set_option Elab.async true
set_option maxRecDepth 100000 in
set_option maxHeartbeats 8000000 in
theorem hd (h : WalkT) : PySem.Challenge.rw_fp5017_01.Holds := by
  refine' hd_use (W := _) (fun _ => ⟨?hc, ?p⟩)
  case p =>
    w_on
    o_law
    k_head
    case hw => w_witness2
  case hc => exact h
end Mine

theorem PySem.Challenge.cw_fp5017_01_holds : PySem.Challenge.rw_fp5017_01.Holds :=
  Mine.hd Mine.law_walk
