import PyProof.Rows.All
import Wide.All
import OpenK.AllK
import Wide.FinOn
import PySem.Challenge.RW_io0052_04
open PySem PySem.W PyProof.Rows PySem.Calls
set_option Elab.async false
set_option linter.unusedVariables false
namespace Mine

section
def clip (v : Option Int) (d n : Int) : Int := match v with
  | none => d
  | some i => max 0 (min (if i < 0 then i + n else i) n)
theorem slice_at {x : PySem.Str} {l u : Option Int} {a b : Nat} (hab : a ≤ b) (hb : b ≤ x.length) (hl : clip l 0 x.length = a) (hu : clip u x.length x.length = b) :
    PySem.Txt.slice x l u = ⟨((x.cps.toList.drop a).take (b - a)).toArray⟩ := by
  have hs : Builtin.Str.strSliceIndices l u 1 x.length = (List.range (b - a)).map (a + ·) := by
    have e : Builtin.Str.strSliceIndices l u 1 x.length = sliceRange (clip l 0 x.length) (clip u x.length x.length) 1 := by
      cases l <;> cases u <;> rfl
    rw [e, hl, hu]
    unfold sliceRange
    simp only [show (1 : Int) > 0 by decide, if_true, Int.ediv_one, Int.one_mul]
    by_cases h : a < b
    · rw [if_pos (by omega)]
      have : ((b : Int) - a + 1 - 1).toNat = b - a := by omega
      rw [this]
      apply List.map_congr_left
      intro k _
      omega
    · rw [if_neg (by omega)]
      have : b - a = 0 := by omega
      simp [this]
  have hp := pick_run x.cps a (b - a)
  unfold PySem.Txt.slice
  rw [hs]
  split
  · rename_i h
    have hn : b - a = x.length := by simpa using h
    have ha : a = 0 := by omega
    subst ha
    rw [Nat.sub_zero] at hn
    subst hn
    have e : (x.cps.toList.drop 0).take (x.length - 0) = x.cps.toList := by
      rw [List.drop_zero, Nat.sub_zero]
      exact List.take_of_length_le (by rw [Array.length_toList]; exact Nat.le_refl _)
    rw [e]
  · rw [hp]
theorem slice_mid {p q r : PySem.Str} {l u : Option Int} (hl : clip l 0 (p ++ q ++ r).length = p.length) (hu : clip u (p ++ q ++ r).length (p ++ q ++ r).length = ((p.length + q.length : Nat) : Int)) :
    PySem.Txt.slice (p ++ q ++ r) l u = q := by
  have hlen : (p ++ q ++ r).length = p.length + q.length + r.length := by rw [PySem.Str.length_append, PySem.Str.length_append]
  rw [slice_at (a := p.length) (b := p.length + q.length) (by omega) (by omega) hl hu]
  have e : (p ++ q ++ r).cps.toList = p.cps.toList ++ (q.cps.toList ++ r.cps.toList) := by
    rw [KT.app_list, KT.app_list, List.append_assoc]
  have lp : p.cps.toList.length = p.length := Array.length_toList
  have lq : q.cps.toList.length = q.length := Array.length_toList
  rw [e, ← lp, List.drop_left, Nat.add_sub_cancel_left, ← lq, List.take_left]
theorem app_empty (a : PySem.Str) : a ++ PySem.Str.empty = a := by
  have e : (a ++ PySem.Str.empty).cps = a.cps := by
    rw [PySem.Str.cps_append]
    simp [PySem.Str.empty]
  exact congrArg PySem.Str.mk e
theorem app_assoc (a b c : PySem.Str) : a ++ b ++ c = a ++ (b ++ c) := by
  have e : (a ++ b ++ c).cps = (a ++ (b ++ c)).cps := by
    simp only [PySem.Str.cps_append, Array.append_assoc]
  exact congrArg PySem.Str.mk e
theorem empty_len : PySem.Str.empty.length = 0 := rfl
/-- the first k signs -/
theorem slice_to {p r : PySem.Str} {k : Int} (hk : k = p.length) : PySem.Txt.slice (p ++ r) none (some k) = p := by
  have h := slice_mid (p := PySem.Str.empty) (q := p) (r := r) (l := none) (u := some k)
  rw [KT.empty_app] at h
  refine h rfl ?_
  rw [PySem.Str.length_append, hk, empty_len, clip]
  have : ¬ ((p.length : Int) < 0) := by omega
  rw [if_neg this]; omega
/-- all but the last ones -/
theorem slice_toNeg {p r : PySem.Str} {k : Int} (hk : k = -(r.length : Int)) (hr : 0 < r.length) : PySem.Txt.slice (p ++ r) none (some k) = p := by
  have h := slice_mid (p := PySem.Str.empty) (q := p) (r := r) (l := none) (u := some k)
  rw [KT.empty_app] at h
  refine h rfl ?_
  rw [PySem.Str.length_append, hk, empty_len, clip]
  rw [if_pos (by omega)]; omega
theorem slice_from {p r : PySem.Str} {k : Int} (hk : k = p.length) : PySem.Txt.slice (p ++ r) (some k) none = r := by
  have h := slice_mid (p := p) (q := r) (r := PySem.Str.empty) (l := some k) (u := none)
  rw [app_empty] at h
  refine h ?_ ?_
  · rw [PySem.Str.length_append, hk, clip, if_neg (by omega)]; omega
  · rw [PySem.Str.length_append]; rfl
theorem slice_fromNeg {p r : PySem.Str} {k : Int} (hk : k = -(r.length : Int)) (hr : 0 < r.length) : PySem.Txt.slice (p ++ r) (some k) none = r := by
  have h := slice_mid (p := p) (q := r) (r := PySem.Str.empty) (l := some k) (u := none)
  rw [app_empty] at h
  refine h ?_ ?_
  · rw [PySem.Str.length_append, hk, clip, if_pos (by omega)]; omega
  · rw [PySem.Str.length_append]; rfl
theorem slice_inner {p q r : PySem.Str} {k j : Int} (hk : k = p.length) (hj : j = -(r.length : Int)) (hr : 0 < r.length) : PySem.Txt.slice (p ++ q ++ r) (some k) (some j) = q := by
  refine slice_mid ?_ ?_
  · rw [PySem.Str.length_append, PySem.Str.length_append, hk, clip, if_neg (by omega)]; omega
  · rw [PySem.Str.length_append, PySem.Str.length_append, hj, clip, if_pos (by omega)]; omega
end

section
/-- a comprehension without a test, by an invariant over the turn's number, the list so far and the ledger -/
theorem comp_inv {prog : Program} {w : World} {A : Around} {h₀ : Heap} {L : Addr} {m : Str → Option Value} {env : Env} {elt : Expr} {x : Str} {scope : Scope} {cl : List (Str × Addr)} {s : Shared}
    {S : List (Addr × Obj) → Prop} {P : Nat → Value → Prop} {Fin : List Value → List (Addr × Obj) → Prop} {n : Nat} {news : List (Addr × Obj)}
    (R : Nat → List Value → List (Addr × Obj) → Prop) (h0 : R 0 [] news)
    (turn : ∀ i v I oI C oC D m₂ ys nx h tk (E' : Value → Shared → Prop), i < n → P i v → R i ys nx → LCg.NsObj oC m₂ → m₂ x = some v → Fr h₀ L h m →
      News h₀ L h ((I, oI) :: (C, oC) :: (D, LCg.lst ys) :: nx) → LCg.Off3 I C D nx → ((@Ne Nat I C) ∧ (@Ne Nat I D) ∧ (@Ne Nat C D)) →
      wpAny (model prog w) A (eval elt (compEnvC scope cl C env)) (LCg.CompEnd h₀ L m { s with heap := h, toks := tk } I oI C oC D (LCg.lst ys) S (fun y nx' => R (i + 1) (ys ++ [y]) nx')) E' { s with heap := h, toks := tk })
    (fin : ∀ ys nx, R n ys nx → Fin ys nx) : LCg.CompRest prog w A h₀ L m env elt x scope cl s S P Fin n 0 [] news := by
  have key : ∀ (j i : Nat) (ys : List Value) (nx : List (Addr × Obj)), i + j = n → R i ys nx → LCg.CompRest prog w A h₀ L m env elt x scope cl s S P Fin j i ys nx := by
    intro j
    induction j with
    | zero => intro i ys nx hi hr; exact LCg.CompRest.zero (fin ys nx (by rw [show n = i by omega]; exact hr))
    | succ j ih =>
      intro i ys nx hi hr
      refine LCg.CompRest.succ ?_
      intro v I oI C oC D m₂ h tk E' hv hC hx F N off ne
      refine wpAny_mono (turn i v I oI C oC D m₂ ys nx h tk E' (by omega) hv hr hC hx F N off ne) (fun y s₂ hq => ?_) fun _ _ e => e
      obtain ⟨h', tk', nw, e, F', N', off', hS, hr'⟩ := hq
      exact ⟨h', tk', nw, e, F', N', off', hS, ih (i + 1) _ nw (by omega) hr'⟩
  exact key n 0 [] news (by omega) h0

/-- what a turn that leaves the ledger hands on -/
def ElK (news : List (Addr × Obj)) (R : Value → Prop) (y : Value) (nx : List (Addr × Obj)) : Prop := nx = news ∧ R y
theorem ElK.intro {news : List (Addr × Obj)} {R : Value → Prop} {y : Value} (h : R y) : ElK news R y news := ⟨rfl, h⟩
/-- the same where the ledger stays as it is -/
theorem comp_keep {prog : Program} {w : World} {A : Around} {h₀ : Heap} {L : Addr} {m : Str → Option Value} {env : Env} {elt : Expr} {x : Str} {scope : Scope} {cl : List (Str × Addr)} {s : Shared}
    {S : List (Addr × Obj) → Prop} {P : Nat → Value → Prop} {Fin : List Value → List (Addr × Obj) → Prop} {n : Nat} {news : List (Addr × Obj)}
    (R : Nat → List Value → Prop) (h0 : R 0 [])
    (turn : ∀ i v I oI C oC D m₂ ys h tk (E' : Value → Shared → Prop), i < n → P i v → R i ys → LCg.NsObj oC m₂ → m₂ x = some v → Fr h₀ L h m →
      News h₀ L h ((I, oI) :: (C, oC) :: (D, LCg.lst ys) :: news) → LCg.Off3 I C D news → ((@Ne Nat I C) ∧ (@Ne Nat I D) ∧ (@Ne Nat C D)) →
      wpAny (model prog w) A (eval elt (compEnvC scope cl C env)) (LCg.CompEnd h₀ L m { s with heap := h, toks := tk } I oI C oC D (LCg.lst ys) S (ElK news fun y => R (i + 1) (ys ++ [y]))) E' { s with heap := h, toks := tk })
    (fin : ∀ ys, R n ys → Fin ys news) : LCg.CompRest prog w A h₀ L m env elt x scope cl s S P Fin n 0 [] news := by
  refine comp_inv (fun i ys nx => nx = news ∧ R i ys) ⟨rfl, h0⟩ ?_ ?_
  · rintro i v I oI C oC D m₂ ys nx h tk E' hi hv ⟨rfl, hr⟩ hC hx F N off ne
    refine wpAny_mono (turn i v I oI C oC D m₂ ys h tk E' hi hv hr hC hx F N off ne) (fun y s₂ hq => ?_) fun _ _ e => e
    obtain ⟨h', tk', nw, e, F', N', off', hS, hr'⟩ := hq
    exact ⟨h', tk', nw, e, F', N', off', hS, hr'⟩
  · rintro ys nx ⟨rfl, hr⟩
    exact fin ys hr

theorem ElK.done {h₀ : Heap} {L I C D : Addr} {m : Str → Option Value} {s₁ : Shared} {oI oC oD : Obj} {S : List (Addr × Obj) → Prop} {news : List (Addr × Obj)} {R : Value → Prop} {y : Value} {h' : Heap} {tk : Nat} {all : List (Addr × Obj)}
    (F : Fr h₀ L h' m) (N : News h₀ L h' all) (sub : ∀ p ∈ (I, oI) :: (C, oC) :: (D, oD) :: news, p ∈ all) (off : LCg.Off3 I C D news) (hS : S news) (r : R y) :
    LCg.CompEnd h₀ L m s₁ I oI C oC D oD S (ElK news R) y { s₁ with heap := h', toks := tk } := LCg.CompEnd.intro F N news sub off hS (.intro r)

/-- what a turn hands on that makes objects of its own: they are set behind the others -/
def ElG (news : List (Addr × Obj)) (R : Value → List (Addr × Obj) → Prop) (y : Value) (nx : List (Addr × Obj)) : Prop := ∃ own, nx = news ++ own ∧ R y own
theorem comp_grow {prog : Program} {w : World} {A : Around} {h₀ : Heap} {L : Addr} {m : Str → Option Value} {env : Env} {elt : Expr} {x : Str} {scope : Scope} {cl : List (Str × Addr)} {s : Shared}
    {S : List (Addr × Obj) → Prop} {P : Nat → Value → Prop} {Fin : List Value → List (Addr × Obj) → Prop} {n : Nat} {news : List (Addr × Obj)}
    (R : Nat → List Value → List (Addr × Obj) → Prop) (h0 : R 0 [] [])
    (turn : ∀ i v I oI C oC D m₂ ys own h tk (E' : Value → Shared → Prop), i < n → P i v → R i ys own → LCg.NsObj oC m₂ → m₂ x = some v → Fr h₀ L h m →
      News h₀ L h ((I, oI) :: (C, oC) :: (D, LCg.lst ys) :: (news ++ own)) → LCg.Off3 I C D (news ++ own) → ((@Ne Nat I C) ∧ (@Ne Nat I D) ∧ (@Ne Nat C D)) →
      wpAny (model prog w) A (eval elt (compEnvC scope cl C env)) (LCg.CompEnd h₀ L m { s with heap := h, toks := tk } I oI C oC D (LCg.lst ys) S (ElG news fun y own' => R (i + 1) (ys ++ [y]) own')) E' { s with heap := h, toks := tk })
    (fin : ∀ ys own, R n ys own → Fin ys (news ++ own)) : LCg.CompRest prog w A h₀ L m env elt x scope cl s S P Fin n 0 [] news := by
  refine comp_inv (fun i ys nx => ∃ own, nx = news ++ own ∧ R i ys own) ⟨[], by simp, h0⟩ ?_ ?_
  · rintro i v I oI C oC D m₂ ys nx h tk E' hi hv ⟨own, rfl, hr⟩ hC hx F N off ne
    exact turn i v I oI C oC D m₂ ys own h tk E' hi hv hr hC hx F N off ne
  · rintro ys nx ⟨own, rfl, hr⟩
    exact fin ys own hr
theorem off3_grow {I C D x d : Addr} {ox od : Obj} {news own : List (Addr × Obj)} (off : LCg.Off3 I C D (news ++ own)) (h : @LT.lt Nat _ I d ∧ @LT.lt Nat _ C d ∧ @LT.lt Nat _ D d ∧ @LT.lt Nat _ d x) :
    LCg.Off3 I C D (news ++ (x, ox) :: (d, od) :: own) := by
  have o := off.mem
  refine LCg.Off3.of fun p hp => ?_
  rcases List.mem_append.mp hp with hp | hp
  · exact o p (List.mem_append_left _ hp)
  · rcases List.mem_cons.mp hp with rfl | hp
    · exact ⟨Nat.ne_of_gt (by omega), Nat.ne_of_gt (by omega), Nat.ne_of_gt (by omega)⟩
    · rcases List.mem_cons.mp hp with rfl | hp
      · exact ⟨Nat.ne_of_gt (by omega), Nat.ne_of_gt (by omega), Nat.ne_of_gt (by omega)⟩
      · exact o p (List.mem_append_right _ hp)
/-- a turn's end that has made one object and its dict -/
theorem ElG.made {h₀ : Heap} {L I C D x d : Addr} {m : Str → Option Value} {s₁ : Shared} {oI oC oD ox od : Obj} {S : List (Addr × Obj) → Prop} {news own : List (Addr × Obj)} {R : Value → List (Addr × Obj) → Prop} {y : Value} {h' : Heap} {tk : Nat} {all : List (Addr × Obj)}
    (F : Fr h₀ L h' m) (N : News h₀ L h' all) (sub : ∀ p ∈ (I, oI) :: (C, oC) :: (D, oD) :: (news ++ (x, ox) :: (d, od) :: own), p ∈ all) (off : LCg.Off3 I C D (news ++ own))
    (lt : @LT.lt Nat _ I d ∧ @LT.lt Nat _ C d ∧ @LT.lt Nat _ D d ∧ @LT.lt Nat _ d x) (hS : S (news ++ (x, ox) :: (d, od) :: own)) (r : R y ((x, ox) :: (d, od) :: own)) :
    LCg.CompEnd h₀ L m s₁ I oI C oC D oD S (ElG news R) y { s₁ with heap := h', toks := tk } :=
  LCg.CompEnd.intro F N _ sub (off3_grow off lt) hS ⟨_, rfl, r⟩

/-- what a field's name may be here: a short text, a small number, None -/
def NmOk (v : Value) : Prop := (∃ s t, v = .str s t ∧ s.length ≤ 100) ∨ (∃ i t, v = .int i t ∧ 0 ≤ i ∧ i < 1000) ∨ v = .none
/-- its text -/
def nmTxt : Value → PySem.Str
  | .str s _ => s
  | .int i _ => PySem.Str.ofString (toString i)
  | _ => PySem.Str.ofString "None"
def NmsOk (vs : List Value) : Prop := ∀ v ∈ vs, NmOk v
theorem NmsOk.snoc {vs : List Value} {v : Value} (h : NmsOk vs) (hv : NmOk v) : NmsOk (vs ++ [v]) := by
  intro x hx
  rcases List.mem_append.mp hx with h1 | h1
  · exact h x h1
  · rw [List.mem_singleton.mp h1]; exact hv

/-- one field: an object of class C with the one attribute name -/
def FieldIs (C : Addr) (news : List (Addr × Obj)) (y v : Value) : Prop :=
  ∃ a d h t, y = .ref a ∧ (a, instObj C d) ∈ news ∧ (d, dictOf [⟨h, .str (PySem.Str.ofString "name") t, v⟩] 1) ∈ news
inductive FieldsAt (C : Addr) (news : List (Addr × Obj)) : List Value → List Value → Prop
  | nil : FieldsAt C news [] []
  | cons {y v ys vs} : FieldIs C news y v → FieldsAt C news ys vs → FieldsAt C news (y :: ys) (v :: vs)
theorem FieldIs.mono {C : Addr} {a b : List (Addr × Obj)} {y v : Value} (h : FieldIs C a y v) (hs : ∀ p ∈ a, p ∈ b) : FieldIs C b y v :=
  let ⟨x, d, hh, t, e, h1, h2⟩ := h; ⟨x, d, hh, t, e, hs _ h1, hs _ h2⟩
theorem FieldsAt.mono {C : Addr} {a b : List (Addr × Obj)} {ys vs : List Value} (h : FieldsAt C a ys vs) (hs : ∀ p ∈ a, p ∈ b) : FieldsAt C b ys vs := by
  induction h with
  | nil => exact .nil
  | cons h1 _ ih => exact .cons (h1.mono hs) ih
theorem FieldsAt.snoc {C : Addr} {news : List (Addr × Obj)} {ys vs : List Value} {y v : Value} (h : FieldsAt C news ys vs) (hv : FieldIs C news y v) : FieldsAt C news (ys ++ [y]) (vs ++ [v]) := by
  induction h with
  | nil => exact .cons hv .nil
  | cons h1 _ ih => exact .cons h1 ih
theorem FieldsAt.length {C : Addr} {news : List (Addr × Obj)} {ys vs : List Value} (h : FieldsAt C news ys vs) : ys.length = vs.length := by
  induction h with
  | nil => rfl
  | cons _ _ ih => simp [ih]
theorem FieldsAt.get {C : Addr} {news : List (Addr × Obj)} {ys vs : List Value} (h : FieldsAt C news ys vs) : ∀ {i : Nat} {y : Value}, ys[i]? = some y → ∃ v, vs[i]? = some v ∧ FieldIs C news y v := by
  induction h with
  | nil => intro i y hy; simp at hy
  | cons h1 _ ih =>
    intro i y hy
    cases i with
    | zero => simp only [List.getElem?_cons_zero, Option.some.injEq] at hy; subst hy; exact ⟨_, rfl, h1⟩
    | succ i => exact ih (by simpa using hy)
theorem FieldsAt.tail {C : Addr} {news : List (Addr × Obj)} {ys vs : List Value} (h : FieldsAt C news ys vs) : FieldsAt C news ys.tail vs.tail := by
  cases h with
  | nil => exact .nil
  | cons _ h => exact h
/-- the names of the law: their kinds -/
theorem nm_chr (n : Nat) (t : Tok) : NmOk (.str ⟨#[n]⟩ t) := .inl ⟨_, _, rfl, by show (1 : Nat) ≤ 100; omega⟩
theorem nm_int {i : Int} (t : Tok) (h0 : 0 ≤ i) (h1 : i < 1000) : NmOk (.int i t) := .inr (.inl ⟨_, _, rfl, h0, h1⟩)
theorem nm_none : NmOk .none := .inr (.inr rfl)
theorem nm_str {s : PySem.Str} (t : Tok) (h : s.length ≤ 100) : NmOk (.str s t) := .inl ⟨_, _, rfl, h⟩
theorem FieldIs.made {C x d : Addr} {hs : Int} {t : Tok} {v : Value} {own : List (Addr × Obj)} : FieldIs C ((x, instObj C d) :: (d, dictOf [⟨hs, .str (PySem.Str.ofString "name") t, v⟩] 1) :: own) (.ref x) v :=
  ⟨x, d, hs, t, rfl, .head _, .tail _ (.head _)⟩
theorem fields_step {C x d : Addr} {hs : Int} {t : Tok} {v : Value} {own : List (Addr × Obj)} {ys vs : List Value} {i : Nat} (h : FieldsAt C own ys (vs.take i)) (hv : vs.toArray[i]? = some v) :
    FieldsAt C ((x, instObj C d) :: (d, dictOf [⟨hs, .str (PySem.Str.ofString "name") t, v⟩] 1) :: own) (ys ++ [.ref x]) (vs.take (i + 1)) := by
  have e : vs.take (i + 1) = vs.take i ++ [v] := by rw [List.take_add_one, (by simpa using hv : vs[i]? = some v)]; rfl
  rw [e]
  exact (h.mono fun p hp => .tail _ (.tail _ hp)).snoc .made
/-- the end of a turn of [_FIELD_BASE(name) for name in names] -/
theorem fields_end {K : Addr} {h₀ : Heap} {L I C D x d : Addr} {m : Str → Option Value} {s₁ : Shared} {oI oC oD : Obj} {S : List (Addr × Obj) → Prop} {news own : List (Addr × Obj)} {hs : Int} {t : Tok} {v : Value} {ys vs : List Value} {i : Nat} {h' : Heap} {tk : Nat}
    (F : Fr h₀ L h' m) (N : News h₀ L h' ((x, instObj K d) :: (d, dictOf [⟨hs, .str (PySem.Str.ofString "name") t, v⟩] 1) :: (I, oI) :: (C, oC) :: (D, oD) :: (news ++ own)))
    (off : LCg.Off3 I C D (news ++ own)) (lt : @LT.lt Nat _ I d ∧ @LT.lt Nat _ C d ∧ @LT.lt Nat _ D d ∧ @LT.lt Nat _ d x) (hf : FieldsAt K own ys (vs.take i)) (hv : vs.toArray[i]? = some v)
    (hS : ∀ own', S (news ++ own')) :
    LCg.CompEnd h₀ L m s₁ I oI C oC D oD S (ElG news fun y own' => FieldsAt K own' (ys ++ [y]) (vs.take (i + 1))) (.ref x) { s₁ with heap := h', toks := tk } :=
  ElG.made F N (by
    intro p hp
    simp only [List.mem_cons, List.mem_append] at hp ⊢
    rcases hp with h | h | h | h | h | h | h <;> simp only [h, true_or, or_true]) off lt (hS _) (fields_step (hs := hs) (t := t) hf hv)
theorem comp_fields {prog : Program} {w : World} {A : Around} {h₀ : Heap} {L : Addr} {m : Str → Option Value} {env : Env} {elt : Expr} {x : Str} {scope : Scope} {cl : List (Str × Addr)} {s : Shared}
    {S : List (Addr × Obj) → Prop} {Fin : List Value → List (Addr × Obj) → Prop} {news : List (Addr × Obj)} {vs : List Value} (K : Addr)
    (turn : ∀ i v I oI C oC D m₂ ys own h tk (E' : Value → Shared → Prop), vs.toArray[i]? = some v → FieldsAt K own ys (vs.take i) → LCg.NsObj oC m₂ → m₂ x = some v → Fr h₀ L h m →
      News h₀ L h ((I, oI) :: (C, oC) :: (D, LCg.lst ys) :: (news ++ own)) → LCg.Off3 I C D (news ++ own) → ((@Ne Nat I C) ∧ (@Ne Nat I D) ∧ (@Ne Nat C D)) →
      wpAny (model prog w) A (eval elt (compEnvC scope cl C env)) (LCg.CompEnd h₀ L m { s with heap := h, toks := tk } I oI C oC D (LCg.lst ys) S (ElG news fun y own' => FieldsAt K own' (ys ++ [y]) (vs.take (i + 1)))) E' { s with heap := h, toks := tk })
    (fin : ∀ ys own, FieldsAt K own ys vs → Fin ys (news ++ own)) : LCg.CompRest prog w A h₀ L m env elt x scope cl s S (fun i v => vs.toArray[i]? = some v) Fin vs.toArray.size 0 [] news :=
  comp_grow (fun i ys own => FieldsAt K own ys (vs.take i)) .nil (fun i v I oI C oC D m₂ ys own h tk E' _ hv hr hC hx F N off ne => turn i v I oI C oC D m₂ ys own h tk E' hv hr hC hx F N off ne)
    fun ys own h => fin ys own (by simpa using h)

/-- no object here is an iterator -/
def NoIt (l : List (Addr × Obj)) : Prop := ∀ p ∈ l, p.2.cls ≠ .type "list_iterator" ∧ p.2.cls ≠ .type "tuple_iterator" ∧ p.2.cls ≠ .type "range_iterator"
theorem NoIt.nil : NoIt [] := fun _ h => nomatch h
theorem NoIt.cons {a : Addr} {o : Obj} {l : List (Addr × Obj)} (h : o.cls ≠ .type "list_iterator" ∧ o.cls ≠ .type "tuple_iterator" ∧ o.cls ≠ .type "range_iterator") (hl : NoIt l) : NoIt ((a, o) :: l) := fun p hp => by
  rcases List.mem_cons.mp hp with rfl | hp
  · exact h
  · exact hl p hp
theorem NoIt.append {a b : List (Addr × Obj)} (ha : NoIt a) (hb : NoIt b) : NoIt (a ++ b) := fun p hp => (List.mem_append.mp hp).elim (ha p) (hb p)

/-- each object lies elsewhere than I, or is no iterator -/
def OffIt (I : Addr) (l : List (Addr × Obj)) : Prop := ∀ p ∈ l, p.1 ≠ I ∨ (p.2.cls ≠ .type "list_iterator" ∧ p.2.cls ≠ .type "tuple_iterator" ∧ p.2.cls ≠ .type "range_iterator")
theorem NoIt.off {l : List (Addr × Obj)} (h : NoIt l) {I : Addr} : OffIt I l := fun p hp => .inr (h p hp)
theorem OffIt.of {l : List (Addr × Obj)} {I : Addr} (h : ∀ p ∈ l, p.1 ≠ I) : OffIt I l := fun p hp => .inl (h p hp)
def TurnEnd (h₀ : Heap) (L I : Addr) (oI : Obj) (J : (Str → Option Value) → List (Addr × Obj) → Prop) (s₁ s₂ : Shared) : Prop :=
  ∃ h' tk m' nx all, s₂ = { s₁ with heap := h', toks := tk } ∧ Fr h₀ L h' m' ∧ News h₀ L h' all ∧ (I, oI) ∈ all ∧ (∀ p ∈ nx, p ∈ all) ∧ OffIt I nx ∧ J m' nx
def TurnPost (h₀ : Heap) (L I : Addr) (oI : Obj) (J : (Str → Option Value) → List (Addr × Obj) → Prop) (s₁ : Shared) (Q : Flow → Shared → Prop) (f : Flow) (s₂ : Shared) : Prop :=
  match f with
  | .ret v => Q (.ret v) s₂
  | .brk => Q .next s₂
  | _ => TurnEnd h₀ L I oI J s₁ s₂

section
variable {prog : Program} {w : World} {A : Around} {E : Value → Shared → Prop} {s : Shared} {env : Env} {h₀ : Heap} {x : Str} {body : List Stmt} {Q : Flow → Shared → Prop}
/-- a for loop by an invariant over the turn's number, the frame and the ledger, which may grow -/
theorem loop_any {I : Addr} {fp : List Addr} {n : Nat} {P : Nat → Value → Prop} {St : Nat → Heap → Prop} {m₀ : Str → Option Value} {news Src : List (Addr × Obj)} (J : Nat → (Str → Option Value) → List (Addr × Obj) → Prop)
    (W : Walks prog w A I fp [I] n P St) (hLf : env.locals ∉ fp) (hI : h₀.get? I = none) (hnw : ∀ p ∈ news, p.1 ≠ I)
    (hIo : ∀ i h, St i h → ∃ o, h.get? I = some o ∧ (o.cls = .type "list_iterator" ∨ o.cls = .type "tuple_iterator" ∨ o.cls = .type "range_iterator"))
    (hfp : ∀ b ∈ fp, b = I ∨ h₀.get? b ≠ none ∨ ∃ o, (b, o) ∈ Src) (hst : St 0 s.heap) (F : Fr h₀ env.locals s.heap m₀) (N : News h₀ env.locals s.heap news) (hj : J 0 m₀ news) (hsrc : ∀ i m nx, J i m nx → ∀ p ∈ Src, p ∈ nx)
    (turn : ∀ i v m₁ nx h tk I oI, i < n → P i v → J i m₁ nx → (∀ p ∈ nx, p.1 ≠ I) → Fr h₀ env.locals h (fun y => if y = x then some v else m₁ y) → News h₀ env.locals h ((I, oI) :: nx) →
      wpAny (model prog w) A (execs body env) (TurnPost h₀ env.locals I oI (J (i + 1)) { s with heap := h, toks := tk } Q) E { s with heap := h, toks := tk })
    (done : ∀ m₁ nx h tk, J n m₁ nx → Fr h₀ env.locals h m₁ → News h₀ env.locals h nx → Q .next { s with heap := h, toks := tk }) :
    LoopAtV prog w A h₀ env x body Q E (.ref I) s := by
  refine ⟨I, fp, [I], n, P, St, m₀, news, J, rfl, W, hLf, fun b hb => by rw [List.mem_singleton.mp hb]; exact hI, fun p hp hb => hnw p hp (List.mem_singleton.mp hb), hst, F, N, hj, ?_, ?_⟩
  · rintro i v m₁ nx s₁ own ⟨hh', tk', rfl⟩ hin hP hJ hoff hown hget hall hst₁ F₁ N₁
    obtain ⟨oI, hoI, hcl⟩ := hIo _ _ hst₁
    have hII : (I, oI) ∈ own := hall I (W.sub I (List.mem_singleton.mpr rfl)) hI oI hoI
    have N₂ : News h₀ env.locals hh' ((I, oI) :: nx) := fun p hp => by
      rcases List.mem_cons.mp hp with rfl | hp
      · exact N₁ _ (List.mem_append_left _ hII)
      · exact N₁ _ (List.mem_append_right _ hp)
    refine wpAny_mono (turn i v m₁ nx hh' tk' I oI hin hP hJ (fun p hp e => hoff p hp (List.mem_singleton.mpr e)) F₁ N₂) (fun f s₂ p => ?_) fun _ _ e => e
    have fin : TurnEnd h₀ env.locals I oI (J (i + 1)) { s with heap := hh', toks := tk' } s₂ → LoopStepU h₀ env.locals [I] own (J (i + 1)) { s with heap := hh', toks := tk' } .next s₂ := by
      rintro ⟨h', tk, m', nx', all, e, F', N', hIa, hsub, hno, hJ'⟩
      refine ⟨rfl, h', tk, m', nx', e, F', fun p hp => ?_, fun p hp hb => ?_, hJ'⟩
      · rcases List.mem_append.mp hp with hp | hp
        · rcases hfp p.1 (hown p hp) with h1 | h1 | ⟨o, h1⟩
          · have h2 := hget p hp
            rw [h1, hoI] at h2
            have h3 : p = (I, oI) := Prod.ext h1 (Option.some.inj h2).symm
            rw [h3]; exact N' _ hIa
          · exact absurd (N₁ p (List.mem_append_left _ hp)).2.2 h1
          · have h2 := (N₁ _ (List.mem_append_right own (hsrc _ _ _ hJ _ h1))).1
            rw [hget p hp] at h2
            have h3 : p = (p.1, o) := Prod.ext rfl (Option.some.inj h2)
            rw [h3]; exact N' _ (hsub _ (hsrc _ _ _ hJ' _ h1))
        · exact N' p (hsub p hp)
      · have h1 := List.mem_singleton.mp hb
        have h2 := (N' p (hsub p hp)).1
        rw [h1, (N' _ hIa).1] at h2
        rcases hno p hp with h3 | h3
        · exact h3 h1
        rw [← Option.some.inj h2] at h3
        rcases hcl with hc | hc | hc
        · exact h3.1 hc
        · exact h3.2.1 hc
        · exact h3.2.2 hc
    cases f with
    | ret v => exact .ret p
    | brk => exact .brk p
    | next => exact .next (fin p)
    | cont => exact .cont (fin p)
  · rintro h' tk m' nx' F' N' _ hJ
    exact done m' nx' h' tk hJ F' N'
end

/-- the state of a loop: its ledger, its names, what holds of it -/
def LoopSt {σ : Type} (x : Str) (Led : σ → List (Addr × Obj)) (ps : σ → List (Str × Value)) (stored : List Str) (m₀ : Str → Option Value) (P : σ → Prop) (m : Str → Option Value) (nx : List (Addr × Obj)) : Prop :=
  ∃ c : σ, nx = Led c ∧ (∀ p ∈ ps c, m p.1 = some p.2) ∧ (∀ z, z ≠ x → (∀ p ∈ ps c, z ≠ p.1) → stored.contains z = false → m z = m₀ z) ∧ P c
theorem TurnEnd.intro {σ : Type} {x : Str} {Led : σ → List (Addr × Obj)} {ps : σ → List (Str × Value)} {stored : List Str} {m₀ : Str → Option Value} {P : σ → Prop} {h₀ : Heap} {L I : Addr} {oI : Obj} {s₁ : Shared} {h' : Heap} {tk : Nat} {m' : Str → Option Value} {all : List (Addr × Obj)}
    (c : σ) (F : Fr h₀ L h' m') (N : News h₀ L h' all) (hI : (I, oI) ∈ all) (sub : ∀ p ∈ Led c, p ∈ all) (no : OffIt I (Led c)) (hk : ∀ p ∈ ps c, m' p.1 = some p.2) (hr : ∀ z, z ≠ x → (∀ p ∈ ps c, z ≠ p.1) → stored.contains z = false → m' z = m₀ z) (hp : P c) :
    TurnEnd h₀ L I oI (LoopSt x Led ps stored m₀ P) s₁ { s₁ with heap := h', toks := tk } := ⟨h', tk, m', Led c, all, rfl, F, N, hI, sub, no, c, rfl, hk, hr, hp⟩

section
variable {prog : Program} {w : World} {A : Around} {E : Value → Shared → Prop} {s : Shared} {env : Env} {h₀ : Heap} {x : Str} {body : List Stmt} {Q : Flow → Shared → Prop}
theorem iter_tupS {σ : Type} {ax : Addr} {ep : Nat} {vs : List Value} {m₀ : Str → Option Value} (Led : σ → List (Addr × Obj)) (ps : σ → List (Str × Value)) (stored : List Str) (P : Nat → σ → Prop) (c₀ : σ)
    (hh : A.handled = none) (F : Fr h₀ env.locals s.heap m₀) (N : News h₀ env.locals s.heap (Led c₀)) (hm : ∀ c, (ax, ({ cls := .type "tuple", data := .seq vs.toArray ep } : Obj)) ∈ Led c)
    (hk : ∀ p ∈ ps c₀, m₀ p.1 = some p.2) (hp : P 0 c₀)
    (turn : ∀ (c : σ) i v (u : Str → Option Value) h tk I oI, vs.toArray[i]? = some v → P i c → (∀ p ∈ Led c, p.1 ≠ I) → Fr h₀ env.locals h (fun y => if y = x then some v else kstB (fun z => if stored.contains z then u z else m₀ z) (ps c) y) → News h₀ env.locals h ((I, oI) :: Led c) →
      wpAny (model prog w) A (execs body env) (TurnPost h₀ env.locals I oI (LoopSt x Led ps stored m₀ (P (i + 1))) { s with heap := h, toks := tk } Q) E { s with heap := h, toks := tk })
    (done : ∀ (c : σ) (u : Str → Option Value) h tk, P vs.length c → Fr h₀ env.locals h (fun y => if y = x then u y else kstB (fun z => if stored.contains z then u z else m₀ z) (ps c) y) → News h₀ env.locals h (Led c) → Q .next { s with heap := h, toks := tk }) :
    wpAny (model prog w) A (pyIter (.ref ax)) (fun it s₂ => LoopAtV prog w A h₀ env x body Q E it s₂) E s := by
  have hax := N _ (hm c₀)
  have hl : IsTup s.heap ax vs.toArray := ⟨_, hax.1, rfl, ep, rfl⟩
  have hne : ax ≠ s.heap.objs.size := Nat.ne_of_lt (Heap.lt_size hax.1)
  refine wpAny_pyIter_tuple hl ?_
  refine loop_any (Src := [(ax, ({ cls := .type "tuple", data := .seq vs.toArray ep } : Obj))]) (m₀ := m₀) (news := Led c₀) (fun i m nx => LoopSt x Led ps stored m₀ (P i) m nx) (Walks.tuple hh s.heap.objs.size ax hne vs.toArray) ?_ (next_is_new F) (fun p hp => Nat.ne_of_lt (Heap.lt_size (N p hp).1)) ?_ ?_ ⟨⟨_, Heap.get?_push_size _ rfl, rfl, rfl⟩, ?_⟩ (F.push _) (fun p hp => ⟨Heap.get?_push_of_some _ (N p hp).1, (N p hp).2⟩) ⟨c₀, rfl, hk, fun _ _ _ _ => rfl, hp⟩ ?_ ?_ ?_
  · intro hmm
    rcases List.mem_cons.mp hmm with e | hmm
    · exact absurd F.ns.lt (e ▸ Nat.lt_irrefl _)
    · exact hax.2.1 (List.mem_singleton.mp hmm).symm
  · intro i h st
    obtain ⟨o, e, hc, _⟩ := st.1
    exact ⟨o, e, .inr (.inl hc)⟩
  · intro b hb
    rcases List.mem_cons.mp hb with e | hb
    · exact .inl e
    · rw [List.mem_singleton.mp hb]; exact .inr (.inr ⟨_, .head _⟩)
  · obtain ⟨o, e, r⟩ := hl
    exact ⟨o, Heap.get?_push_of_some _ e, r⟩
  · rintro i m nx ⟨c, rfl, _⟩ p hp
    rw [List.mem_singleton.mp hp]; exact hm c
  · rintro i v m₁ nx h tk I oI hi hP ⟨c, rfl, h1, h2, hp'⟩ off F₁ N₁
    exact turn c i v m₁ h tk I oI hP hp' off (kst_fr h1 h2 F₁) N₁
  · rintro m₁ nx h tk ⟨c, rfl, h1, h2, hp'⟩ F₁ N₁
    rw [List.size_toArray] at hp'
    exact done c m₁ h tk hp' (kst_frOut h1 h2 F₁) N₁

theorem iter_listS {σ : Type} {ax : Addr} {ep : Nat} {vs : List Value} {m₀ : Str → Option Value} (Led : σ → List (Addr × Obj)) (ps : σ → List (Str × Value)) (stored : List Str) (P : Nat → σ → Prop) (c₀ : σ)
    (hh : A.handled = none) (F : Fr h₀ env.locals s.heap m₀) (N : News h₀ env.locals s.heap (Led c₀)) (hm : ∀ c, (ax, ({ cls := .type "list", data := .seq vs.toArray ep } : Obj)) ∈ Led c)
    (hk : ∀ p ∈ ps c₀, m₀ p.1 = some p.2) (hp : P 0 c₀)
    (turn : ∀ (c : σ) i v (u : Str → Option Value) h tk I oI, vs.toArray[i]? = some v → P i c → (∀ p ∈ Led c, p.1 ≠ I) → Fr h₀ env.locals h (fun y => if y = x then some v else kstB (fun z => if stored.contains z then u z else m₀ z) (ps c) y) → News h₀ env.locals h ((I, oI) :: Led c) →
      wpAny (model prog w) A (execs body env) (TurnPost h₀ env.locals I oI (LoopSt x Led ps stored m₀ (P (i + 1))) { s with heap := h, toks := tk } Q) E { s with heap := h, toks := tk })
    (done : ∀ (c : σ) (u : Str → Option Value) h tk, P vs.length c → Fr h₀ env.locals h (fun y => if y = x then u y else kstB (fun z => if stored.contains z then u z else m₀ z) (ps c) y) → News h₀ env.locals h (Led c) → Q .next { s with heap := h, toks := tk }) :
    wpAny (model prog w) A (pyIter (.ref ax)) (fun it s₂ => LoopAtV prog w A h₀ env x body Q E it s₂) E s := by
  have hax := N _ (hm c₀)
  have hl : s.heap.IsList ax vs.toArray := ⟨_, hax.1, rfl, ep, rfl⟩
  have hne : ax ≠ s.heap.objs.size := Nat.ne_of_lt (Heap.lt_size hax.1)
  refine wpAny_pyIter_list hl ?_
  refine loop_any (Src := [(ax, ({ cls := .type "list", data := .seq vs.toArray ep } : Obj))]) (m₀ := m₀) (news := Led c₀) (fun i m nx => LoopSt x Led ps stored m₀ (P i) m nx) (Walks.list hh s.heap.objs.size ax hne vs.toArray) ?_ (next_is_new F) (fun p hp => Nat.ne_of_lt (Heap.lt_size (N p hp).1)) ?_ ?_ ⟨⟨_, Heap.get?_push_size _ rfl, rfl, rfl⟩, ?_⟩ (F.push _) (fun p hp => ⟨Heap.get?_push_of_some _ (N p hp).1, (N p hp).2⟩) ⟨c₀, rfl, hk, fun _ _ _ _ => rfl, hp⟩ ?_ ?_ ?_
  · intro hmm
    rcases List.mem_cons.mp hmm with e | hmm
    · exact absurd F.ns.lt (e ▸ Nat.lt_irrefl _)
    · exact hax.2.1 (List.mem_singleton.mp hmm).symm
  · intro i h st
    obtain ⟨o, e, hc, _⟩ := st.1
    exact ⟨o, e, .inl hc⟩
  · intro b hb
    rcases List.mem_cons.mp hb with e | hb
    · exact .inl e
    · rw [List.mem_singleton.mp hb]; exact .inr (.inr ⟨_, .head _⟩)
  · exact hl.at fun o e => Heap.get?_push_of_some _ e
  · rintro i m nx ⟨c, rfl, _⟩ p hp
    rw [List.mem_singleton.mp hp]; exact hm c
  · rintro i v m₁ nx h tk I oI hi hP ⟨c, rfl, h1, h2, hp'⟩ off F₁ N₁
    exact turn c i v m₁ h tk I oI hP hp' off (kst_fr h1 h2 F₁) N₁
  · rintro m₁ nx h tk ⟨c, rfl, h1, h2, hp'⟩ F₁ N₁
    rw [List.size_toArray] at hp'
    exact done c m₁ h tk hp' (kst_frOut h1 h2 F₁) N₁
end

/-- the ledger holds the tuple that a comprehension walks -/
def TupIn (ax : Addr) (its : Array Value) (k : Nat) (nw : List (Addr × Obj)) : Prop := (ax, ({ cls := .type "tuple", data := .seq its k } : Obj)) ∈ nw
section
variable {prog : Program} {w : World} {A : Around} {E : Value → Shared → Prop} {s : Shared} {h₀ : Heap} {L : Addr} {m : Str → Option Value} {env : Env}
def SrcTup (prog : Program) (w : World) (A : Around) (h₀ : Heap) (L : Addr) (m : Str → Option Value) (env : Env) (elt : Expr) (x : Str) (scope : Scope) (cl : List (Str × Addr)) (Fin : Shared → List Value → List (Addr × Obj) → Prop) (xv : Value) (s₁ : Shared) : Prop :=
  ∃ ax its k news, xv = .ref ax ∧ A.handled = none ∧ Fr h₀ L s₁.heap m ∧ News h₀ L s₁.heap news ∧ TupIn ax its k news ∧ its.size ≤ sizeLine ∧
    ∀ g, LCg.CompRest prog w A h₀ L m env elt x scope cl { s₁ with heap := g } (TupIn ax its k) (fun i v => its[i]? = some v) (Fin { s₁ with heap := g }) its.size 0 [] news
theorem tup_st {ax I : Addr} {its : Array Value} {k : Nat} : ∀ i (h h' : Heap) (o : Obj) (nw : List (Addr × Obj)), (h.IsTupleIter I ax i ∧ h.IsTuple ax its) → h.get? I = some o → h'.get? I = some o → (∀ b o, h₀.get? b = some o → h'.get? b = some o) → News h₀ L h' nw → TupIn ax its k nw → (h'.IsTupleIter I ax i ∧ h'.IsTuple ax its) :=
  fun i h h' o nw st e e' _ N S => ⟨by obtain ⟨o', q, r⟩ := st.1; rw [e] at q; cases q; exact ⟨o, e', r⟩, ⟨_, (N _ S).1, rfl, k, rfl⟩⟩
theorem ListComp_tup {elt iter : Expr} {x : Str} {px : Pos} {scope : Scope} {cl : List (Str × Addr)} {pos : Pos} {Q : Value → Shared → Prop} (F₀ : Fr h₀ L s.heap m)
    (hclos : closureFor scope env = pure cl) (hcell : ∀ y ∈ scope.names, y.2 ≠ .cell) (hkind : scope.kind = .function)
    (hnames : ∀ y ∈ scope.names, y.2 = .local → scope.names.lookup y.1 = some .local) (hx : scope.names.lookup x = some .local)
    (h : wpAny (model prog w) A (eval iter env) (SrcTup prog w A h₀ L m env elt x scope cl (fun s₂ => LCg.FinE h₀ L m s₂ Q)) E s)
    (hs : ∀ x, foldedSetIterable iter env x = pure x := by intro _; rfl) :
    wpAny (model prog w) A (eval (.ListComp elt [⟨.Name x px, iter, [], 0⟩] scope pos) env) Q E s := by
  rw [eval_ListComp]
  refine wpAny_comprehension_free (use := none) rfl hs hclos hkind hnames (wpAny_mono h (fun xv s₁ h₁ => ?_) fun _ _ e => e)
  obtain ⟨ax, its, k, news, rfl, hh, F, N, S, hsz, R⟩ := h₁
  have hl : s₁.heap.IsTuple ax its := ⟨_, (N _ S).1, rfl, k, rfl⟩
  have hlt : ax < s₁.heap.objs.size := Heap.lt_size (N _ S).1
  refine wpAny_pyIter_tuple hl ?_
  have up : ∀ b o, s₁.heap.get? b = some o → (s₁.heap.push { cls := .type "tuple_iterator", data := .fields #[.ref ax, .int 0 0] }).get? b = some o := fun b o e => Heap.get?_push_of_some _ e
  refine LCg.block_U (Walks.tuple hh s₁.heap.objs.size ax (Nat.ne_of_lt hlt) its) hsz (fun i h st => by obtain ⟨o, e, _⟩ := st.1; exact ⟨o, e⟩) tup_st hcell hkind hx ⟨⟨_, Heap.get?_push_size _ rfl, rfl, rfl⟩, hl.at fun o e => Heap.get?_push_of_some _ e⟩ (fun b hb => ?_)
    (F.keeps up) (N.grown up) (Nat.ne_of_lt F.ns.lt) (next_is_new F) (fun p hp => Nat.ne_of_lt (Heap.lt_size (N p hp).1)) S (R _) ?_
  · show b < (s₁.heap.push _).objs.size
    rw [Heap.size_push]
    rcases List.mem_cons.mp hb with rfl | hb
    · exact Nat.lt_succ_self _
    · rw [List.mem_singleton.mp hb]; exact Nat.lt_succ_of_lt hlt
  · intro D C h tk m' ys news' F' N' o1 hn hC₀ hD₀ hCL hDL hCD offC fin
    refine ⟨m', hn, fun h'' hs'' => fin D h'' tk (F'.change hs'' hCL hC₀) (fun p hp => ?_) o1⟩
    refine ⟨hs''.extBut _ _ ?_ (N' p hp).1, (N' p hp).2⟩
    rcases List.mem_cons.mp hp with rfl | hp
    · exact Ne.symm hCD
    · exact offC p hp
end

/-- an object that is the list, or the tuple, of these values -/
def SeqObj (o : Obj) (ys : List Value) : Prop := ∃ k, o = { cls := .type "list", data := .seq ys.toArray k } ∨ o = { cls := .type "tuple", data := .seq ys.toArray k }
def SIn (ax : Addr) (oax : Obj) (S : List (Addr × Obj) → Prop) : Prop := ∀ nw, (ax, oax) ∈ nw → S nw
theorem SIn.use {ax : Addr} {oax : Obj} {S : List (Addr × Obj) → Prop} (h : SIn ax oax S) {nw : List (Addr × Obj)} (hm : (ax, oax) ∈ nw) : S nw := h nw hm
/-- a list | tuple in the ledger as the source of a comprehension: one rule for both -/
theorem ListComp_seq {prog : Program} {w : World} {A : Around} {E : Value → Shared → Prop} {s : Shared} {h₀ : Heap} {L : Addr} {m : Str → Option Value} {env : Env} {elt iter : Expr} {x : Str} {px : Pos} {scope : Scope} {cl : List (Str × Addr)} {pos : Pos} {Q : Value → Shared → Prop}
    {ax : Addr} {oax : Obj} {ys : List Value} {news : List (Addr × Obj)} (hh : A.handled = none) (F : Fr h₀ L s.heap m) (hq : SeqObj oax ys) (hi : ∀ Q' : Value → Shared → Prop, Q' (.ref ax) s → wpAny (model prog w) A (eval iter env) Q' E s) (N : News h₀ L s.heap news) (hm : (ax, oax) ∈ news) (hsz : ys.length ≤ sizeLine)
    (hclos : closureFor scope env = pure cl) (hcell : ∀ y ∈ scope.names, y.2 ≠ .cell) (hkind : scope.kind = .function)
    (hnames : ∀ y ∈ scope.names, y.2 = .local → scope.names.lookup y.1 = some .local) (hx : scope.names.lookup x = some .local)
    (h : ∀ (g : Heap) (S : List (Addr × Obj) → Prop), SIn ax oax S → LCg.CompRest prog w A h₀ L m env elt x scope cl { s with heap := g } S (fun i v => ys.toArray[i]? = some v) (LCg.FinE h₀ L m { s with heap := g } Q) ys.toArray.size 0 [] news)
    (hs : ∀ x, foldedSetIterable iter env x = pure x := by intro _; rfl) :
    wpAny (model prog w) A (eval (.ListComp elt [⟨.Name x px, iter, [], 0⟩] scope pos) env) Q E s := by
  obtain ⟨k, rfl | rfl⟩ := hq
  · exact LCg.ListComp_U F hclos hcell hkind hnames hx (hi _ (LCg.CompSrc.ledger hh F N hm (by rw [List.size_toArray]; exact hsz) fun g => h g _ fun nw hw => .inr ⟨_, hw, rfl, _, rfl⟩)) hs
  · exact ListComp_tup F hclos hcell hkind hnames hx (hi _ ⟨ax, _, k, news, rfl, hh, F, N, hm, by rw [List.size_toArray]; exact hsz, fun g => h g _ fun nw hw => hw⟩) hs
theorem truthy_seq {prog : Program} {w : World} {A : Around} {E : Value → Shared → Prop} {s : Shared} {h₀ : Heap} {L : Addr} {ax : Addr} {oax : Obj} {ys : List Value} {news : List (Addr × Obj)} {Q : Bool → Shared → Prop} (N : News h₀ L s.heap news) (hm : (ax, oax) ∈ news) (hq : SeqObj oax ys) (hsz : ys.length ≤ 1000)
    (h : Q (!ys.isEmpty) { s with toks := s.toks + 1 + 1 }) : wpAny (model prog w) A (truthy (.ref ax)) Q E s := by
  have hf : ((ys.toArray.size : Nat) : Int) < 2 ^ 63 := by rw [List.size_toArray]; omega
  obtain ⟨k, rfl | rfl⟩ := hq
  · have := wpAny_truthy_list (prog := prog) (w := w) (A := A) (E := E) (Q := Q) (News.isList N hm) hf
    exact this (by simpa using h)
  · have := truthy_tuple (prog := prog) (w := w) (A := A) (E := E) (Q := Q) (News.isTup N hm) hf
    exact this (by simpa using h)

/-- one piece of the text, and all of them -/
def piece (word t : PySem.Str) : PySem.Str := word ++ PySem.Str.ofString "." ++ t
def tstr (word : PySem.Str) (ts : List PySem.Str) : PySem.Str :=
  if ts = [] then PySem.Str.ofString "()" else PySem.Str.ofString "(" ++ PySem.Txt.join (PySem.Str.ofString ",") (ts.map (piece word)) ++ PySem.Str.ofString ",)"

theorem truthy_seq0 {prog : Program} {w : World} {A : Around} {E : Value → Shared → Prop} {s : Shared} {h₀ : Heap} {L : Addr} {ax : Addr} {oax : Obj} {news : List (Addr × Obj)} {Q : Bool → Shared → Prop} (N : News h₀ L s.heap news) (hm : (ax, oax) ∈ news) (hq : SeqObj oax [])
    (h : Q false { s with toks := s.toks + 1 + 1 }) : wpAny (model prog w) A (truthy (.ref ax)) Q E s := truthy_seq N hm hq (by simp) h
theorem truthy_seq1 {prog : Program} {w : World} {A : Around} {E : Value → Shared → Prop} {s : Shared} {h₀ : Heap} {L : Addr} {ax : Addr} {oax : Obj} {y : Value} {ys : List Value} {news : List (Addr × Obj)} {Q : Bool → Shared → Prop} (N : News h₀ L s.heap news) (hm : (ax, oax) ∈ news) (hq : SeqObj oax (y :: ys)) (hsz : (y :: ys).length ≤ 1000)
    (h : Q true { s with toks := s.toks + 1 + 1 }) : wpAny (model prog w) A (truthy (.ref ax)) Q E s := truthy_seq N hm hq hsz h

theorem strs_snoc {y : PySem.Str} {t : Tok} : ∀ {vs : List Value} {ys : List PySem.Str}, StrsAre vs ys → StrsAre (vs ++ [.str y t]) (ys ++ [y])
  | _, _, .nil => .cons y t .nil
  | _, _, .cons z u r => .cons z u (strs_snoc r)
/-- the pieces' comprehension: [f'{obj_name}.{f.name}' for f in fields] -/
theorem comp_ts {prog : Program} {w : World} {A : Around} {h₀ : Heap} {L : Addr} {m : Str → Option Value} {env : Env} {elt : Expr} {x : Str} {scope : Scope} {cl : List (Str × Addr)} {s : Shared}
    {S : List (Addr × Obj) → Prop} {Fin : List Value → List (Addr × Obj) → Prop} {news news₀ : List (Addr × Obj)} {ys vs : List Value} {K : Addr} {word : PySem.Str} (hf : FieldsAt K news₀ ys vs) (hn : NmsOk vs) (hw₀ : word.length ≤ 16)
    (turn : ∀ v₂ a d hs t I oI C oC D m₂ zs h tk (E' : Value → Shared → Prop), (a, instObj K d) ∈ news₀ → (d, dictOf [⟨hs, .str (PySem.Str.ofString "name") t, v₂⟩] 1) ∈ news₀ → NmOk v₂ → LCg.NsObj oC m₂ → m₂ x = some (.ref a) → Fr h₀ L h m →
      News h₀ L h ((I, oI) :: (C, oC) :: (D, LCg.lst zs) :: news) → LCg.Off3 I C D news → ((@Ne Nat I C) ∧ (@Ne Nat I D) ∧ (@Ne Nat C D)) →
      wpAny (model prog w) A (eval elt (compEnvC scope cl C env)) (LCg.CompEnd h₀ L m { s with heap := h, toks := tk } I oI C oC D (LCg.lst zs) S (ElK news fun y => ∃ t, y = .str (piece word (nmTxt v₂)) t)) E' { s with heap := h, toks := tk })
    (fin : ∀ zs, StrsAre zs (vs.map fun v => piece word (nmTxt v)) → Fin zs news) : LCg.CompRest prog w A h₀ L m env elt x scope cl s S (fun i v => ys.toArray[i]? = some v) Fin ys.toArray.size 0 [] news := by
  refine comp_keep (fun i zs => StrsAre zs ((vs.take i).map fun v => piece word (nmTxt v))) .nil ?_ ?_
  · intro i v I oI C oC D m₂ zs h tk E' _ hv hr hC hx F N off ne
    obtain ⟨v₂, hv₂, a, d, hs, t, rfl, m1, m2⟩ := hf.get (i := i) (by simpa using hv)
    refine wpAny_mono (turn v₂ a d hs t I oI C oC D m₂ zs h tk E' m1 m2 (hn _ (List.mem_of_getElem? hv₂)) hC hx F N off ne) (fun y s₂ hq => ?_) fun _ _ e => e
    obtain ⟨h', tk', nw, e, F', N', off', hS, hnw, t', hy⟩ := hq
    refine ⟨h', tk', nw, e, F', N', off', hS, hnw, ?_⟩
    have e2 : vs.take (i + 1) = vs.take i ++ [v₂] := by rw [List.take_add_one, hv₂]; rfl
    rw [e2, hy, List.map_append]
    exact strs_snoc hr
  · intro zs hz
    refine fin zs ?_
    have : ys.toArray.size = vs.length := by rw [List.size_toArray]; exact hf.length
    rwa [this, List.take_length] at hz

theorem piece_end {word r x : PySem.Str} {tk : Tok} (e : r = piece word x) : ∃ t, Value.str r tk = .str (piece word x) t := ⟨tk, by rw [e]⟩
theorem piece_is {word x : PySem.Str} : PySem.Str.empty ++ word ++ PySem.Str.ofString "." ++ x = piece word x := by rw [KT.empty_app]; rfl

theorem nmTxt_len {v : Value} (h : NmOk v) : (nmTxt v).length ≤ 100 := by
  rcases h with ⟨s, t, rfl, h⟩ | ⟨i, t, rfl, h0, h1⟩ | rfl
  · exact h
  · exact Nat.le_trans (KT.len_num h0 (by omega)) (by decide)
  · decide
theorem piece_len {word x : PySem.Str} (hw : word.length ≤ 16) (hx : x.length ≤ 100) : (piece word x).length ≤ 117 := by
  unfold piece
  rw [PySem.Str.length_append, PySem.Str.length_append]
  have : (PySem.Str.ofString ".").length = 1 := by decide
  omega
theorem sum_le {α : Type} (f : α → Nat) (b : Nat) : ∀ l : List α, (∀ a ∈ l, f a ≤ b) → (l.map f).sum ≤ b * l.length
  | [], _ => by simp
  | a :: r, h => by
    have h1 := h a (.head _)
    have h2 := sum_le f b r fun x hx => h x (.tail _ hx)
    simp only [List.map_cons, List.sum_cons, List.length_cons, Nat.mul_add, Nat.mul_one]
    omega
theorem pieces_sum {word : PySem.Str} {vs : List Value} (hw : word.length ≤ 16) (hn : NmsOk vs) : ((vs.map fun v => piece word (nmTxt v)).map (·.length)).sum ≤ 117 * vs.length := by
  rw [List.map_map]
  exact sum_le _ 117 vs fun v hv => piece_len hw (nmTxt_len (hn v hv))
theorem join_ts {prog : Program} {w : World} {A : Around} {E : Value → Shared → Prop} {s : Shared} {h₀ : Heap} {L D : Addr} {nw : List (Addr × Obj)} {zs vs : List Value} {word : PySem.Str} {t : Tok} {Q : Value → Shared → Prop}
    (hz : StrsAre zs (vs.map fun v => piece word (nmTxt v))) (N : News h₀ L s.heap nw) (hm : (D, LCg.lst zs) ∈ nw) (hn : NmsOk vs) (hl : vs.length ≤ 63) (hw : word.length ≤ 16)
    (h : ∀ t' k, (PySem.Txt.join (PySem.Str.ofString ",") (vs.map fun v => piece word (nmTxt v))).length ≤ 8000 → Q (.str (PySem.Txt.join (PySem.Str.ofString ",") (vs.map fun v => piece word (nmTxt v))) t') { s with toks := k }) :
    wpAny (model prog w) A (call (.builtin "str.join") [.str (PySem.Str.ofString ",") t, .ref D]) Q E s := by
  have hs := pieces_sum hw hn
  have h1 : (PySem.Str.ofString ",").length = 1 := by decide
  refine join_listC (News.isList N hm) (ys := vs.map fun v => piece word (nmTxt v)) (by simpa using hz) (by decide) ?_ fun t' k => h t' k ?_
  · rw [List.length_map]; omega
  · show (Builtin.Str.glued _ _).length ≤ _
    rw [StrLaws.glued_eq_join]
    refine Nat.le_trans (StrLaws.join_length_le _ _) ?_
    rw [List.length_map, h1]; omega
theorem tstr_nil {word : PySem.Str} {vs : List Value} (h : vs.length = 0) : PySem.Str.ofString "()" = tstr word (vs.map nmTxt) := by
  rw [List.length_eq_zero_iff.mp h]; rfl
theorem tstr_cons {word : PySem.Str} {vs : List Value} (h : 0 < vs.length) :
    PySem.Str.empty ++ PySem.Str.ofString "(" ++ PySem.Txt.join (PySem.Str.ofString ",") (vs.map fun v => piece word (nmTxt v)) ++ PySem.Str.ofString ",)" = tstr word (vs.map nmTxt) := by
  cases vs with
  | nil => exact absurd h (by simp)
  | cons a r =>
    rw [KT.empty_app, tstr, if_neg (by simp), List.map_map]; rfl

/-- the pieces, each with its comma -/
def pieceC (word t : PySem.Str) : PySem.Str := piece word t ++ PySem.Str.ofString ","
def cat (word : PySem.Str) : List PySem.Str → PySem.Str
  | [] => PySem.Str.empty
  | t :: r => pieceC word t ++ cat word r
theorem cat_append (word : PySem.Str) : ∀ a b : List PySem.Str, cat word (a ++ b) = cat word a ++ cat word b
  | [], b => (KT.empty_app _).symm
  | t :: r, b => by
    show pieceC word t ++ cat word (r ++ b) = pieceC word t ++ cat word r ++ cat word b
    rw [cat_append word r b, app_assoc]
theorem cat_one (word t : PySem.Str) : cat word [t] = pieceC word t := app_empty _
theorem join_cat (word : PySem.Str) : ∀ (t : PySem.Str) (r : List PySem.Str), PySem.Str.join (PySem.Str.ofString ",") ((t :: r).map (piece word)) ++ PySem.Str.ofString "," = cat word (t :: r)
  | t, [] => by
    show piece word t ++ PySem.Str.ofString "," = pieceC word t ++ PySem.Str.empty
    rw [app_empty]; rfl
  | t, u :: r => by
    show piece word t ++ PySem.Str.ofString "," ++ PySem.Str.join (PySem.Str.ofString ",") ((u :: r).map (piece word)) ++ PySem.Str.ofString "," = pieceC word t ++ cat word (u :: r)
    rw [app_assoc, join_cat word u r]; rfl
theorem tstr_cat (word : PySem.Str) (ts : List PySem.Str) : tstr word ts = PySem.Str.ofString "(" ++ cat word ts ++ PySem.Str.ofString ")" := by
  cases ts with
  | nil => rfl
  | cons t r =>
    rw [tstr, if_neg (by simp), ← join_cat]
    have e : PySem.Str.ofString ",)" = PySem.Str.ofString "," ++ PySem.Str.ofString ")" := by decide +kernel
    show _ ++ Builtin.Str.glued _ _ ++ _ = _
    rw [StrLaws.glued_eq_join, e, ← app_assoc, ← app_assoc]
theorem pieceC_len {word x : PySem.Str} (hw : word.length ≤ 16) (hx : x.length ≤ 100) : (pieceC word x).length ≤ 118 := by
  have := piece_len hw hx
  unfold pieceC
  rw [PySem.Str.length_append]
  have : (PySem.Str.ofString ",").length = 1 := by decide
  omega
theorem cat_len {word : PySem.Str} (hw : word.length ≤ 16) : ∀ {vs : List Value}, NmsOk vs → (cat word (vs.map nmTxt)).length ≤ 118 * vs.length
  | [], _ => by simp [cat, empty_len]
  | v :: r, h => by
    show (pieceC word (nmTxt v) ++ cat word (r.map nmTxt)).length ≤ _
    rw [PySem.Str.length_append]
    have h1 := pieceC_len hw (nmTxt_len (h v (.head _)))
    have h2 := cat_len hw (vs := r) fun x hx => h x (.tail _ hx)
    simp only [List.length_cons, Nat.mul_add, Nat.mul_one]
    omega
theorem tstr_len {word : PySem.Str} {vs : List Value} (hw : word.length ≤ 16) (hn : NmsOk vs) (hl : vs.length ≤ 63) : (tstr word (vs.map nmTxt)).length ≤ 8000 := by
  have := cat_len hw hn
  rw [tstr_cat, PySem.Str.length_append, PySem.Str.length_append]
  have h1 : (PySem.Str.ofString "(").length = 1 := by decide
  have h2 : (PySem.Str.ofString ")").length = 1 := by decide
  omega
theorem tstr_first {word : PySem.Str} {ts : List PySem.Str} : PySem.Txt.slice (tstr word ts) none (some 1) = PySem.Str.ofString "(" := by
  rw [tstr_cat, app_assoc]; exact slice_to (by decide)
theorem tstr_last {word : PySem.Str} {ts : List PySem.Str} : PySem.Txt.slice (tstr word ts) (some (-1)) none = PySem.Str.ofString ")" := by
  rw [tstr_cat]; exact slice_fromNeg (by decide) (by decide)
theorem tstr_inner {word : PySem.Str} {ts : List PySem.Str} : PySem.Txt.slice (tstr word ts) (some 1) (some (-1)) = cat word ts := by
  rw [tstr_cat]; exact slice_inner (by decide) (by decide) (by decide)
theorem ne_same {prog : Program} {w : World} {A : Around} {E : Value → Shared → Prop} {s : Shared} {a b : PySem.Str} {t u : Tok} {Q : Value → Shared → Prop} (e : a = b) (h : Q (.bool false) s) : wpAny (model prog w) A (compareOp .NotEq (.str a t) (.str b u)) Q E s :=
  ne_str (by subst e; simpa using h)
theorem eq_same {prog : Program} {w : World} {A : Around} {E : Value → Shared → Prop} {s : Shared} {a b : PySem.Str} {t u : Tok} {Q : Value → Shared → Prop} (e : a = b) (h : Q (.bool true) s) : wpAny (model prog w) A (compareOp .Eq (.str a t) (.str b u)) Q E s :=
  eq_str (by subst e; simpa using h)

section
variable {prog : Program} {w : World} {A : Around} {E : Value → Shared → Prop} {s : Shared} {env : Env} {h₀ : Heap} {body : List Stmt} {Q : Flow → Shared → Prop}
/-- the loop of _law_agrees -/
theorem loop_la {ax : Addr} {ep : Nat} {vs : List Value} {word : PySem.Str} {m₀ : Str → Option Value} {news : List (Addr × Obj)} {t₀ : Tok}
    (hh : A.handled = none) (F : Fr h₀ env.locals s.heap m₀) (N : News h₀ env.locals s.heap news) (hm : (ax, ({ cls := .type "list", data := .seq vs.reverse.toArray ep } : Obj)) ∈ news) (hn : NmsOk vs) (hl : vs.length ≤ 63) (hw : word.length ≤ 16) (hk : m₀ (PySem.Str.ofString "left") = some (.str (cat word (vs.map nmTxt)) t₀))
    (turn : ∀ v (l' : List PySem.Str) (tl : Tok) (u : Str → Option Value) h tk I oI, NmOk v → (cat word l' ++ (piece word (nmTxt v) ++ PySem.Str.ofString ",")).length ≤ 7918 → (piece word (nmTxt v) ++ PySem.Str.ofString ",").length ≤ 7918 → OffIt I news →
      Fr h₀ env.locals h (fun y => if y = PySem.Str.ofString "name" then some v else kstB (fun z => if [PySem.Str.ofString "piece"].contains z then u z else m₀ z) [(PySem.Str.ofString "left", .str (cat word l' ++ (piece word (nmTxt v) ++ PySem.Str.ofString ",")) tl)] y) → News h₀ env.locals h ((I, oI) :: news) →
      wpAny (model prog w) A (execs body env) (TurnPost h₀ env.locals I oI (LoopSt (PySem.Str.ofString "name") (fun _ => news) (fun c : PySem.Str × Tok => [(PySem.Str.ofString "left", .str c.1 c.2)]) [PySem.Str.ofString "piece"] m₀ (fun c => c.1 = cat word l')) { s with heap := h, toks := tk } Q) E { s with heap := h, toks := tk })
    (done : ∀ (tl : Tok) (u : Str → Option Value) h tk, Fr h₀ env.locals h (fun y => if y = PySem.Str.ofString "name" then u y else kstB (fun z => if [PySem.Str.ofString "piece"].contains z then u z else m₀ z) [(PySem.Str.ofString "left", .str PySem.Str.empty tl)] y) → News h₀ env.locals h news → Q .next { s with heap := h, toks := tk }) :
    wpAny (model prog w) A (pyIter (.ref ax)) (fun it s₂ => LoopAtV prog w A h₀ env (PySem.Str.ofString "name") body Q E it s₂) E s := by
  refine iter_listS (ep := ep) (vs := vs.reverse) (fun _ => news) (fun c : PySem.Str × Tok => [(PySem.Str.ofString "left", .str c.1 c.2)]) [PySem.Str.ofString "piece"] (fun i c => c.1 = cat word ((vs.take (vs.length - i)).map nmTxt)) (cat word (vs.map nmTxt), t₀) hh F N (fun _ => hm) ?_ ?_ ?_ ?_
  · intro p hp
    rw [List.mem_singleton.mp hp]; exact hk
  · show cat word (vs.map nmTxt) = cat word ((vs.take (vs.length - 0)).map nmTxt)
    rw [Nat.sub_zero, List.take_length]
  · rintro ⟨left, tl⟩ i v u h tk I oI hv hp off F₁ N₁
    have hv' : vs.reverse[i]? = some v := by simpa using hv
    have hi : i < vs.length := by
      have := (List.getElem?_eq_some_iff.mp hv').1
      simpa using this
    rw [List.getElem?_reverse hi] at hv'
    have e1 : vs.take (vs.length - i) = vs.take (vs.length - (i + 1)) ++ [v] := by
      have e2 : vs.length - i = (vs.length - (i + 1)) + 1 := by omega
      rw [e2, List.take_add_one]
      have e3 : vs[vs.length - (i + 1)]? = some v := by
        rw [show vs.length - (i + 1) = vs.length - 1 - i by omega]; exact hv'
      rw [e3]; rfl
    have hp' : left = cat word ((vs.take (vs.length - (i + 1))).map nmTxt) ++ (piece word (nmTxt v) ++ PySem.Str.ofString ",") := by
      have hp2 : left = cat word ((vs.take (vs.length - i)).map nmTxt) := hp
      rw [hp2, e1, List.map_append, cat_append]
      show _ ++ cat word [nmTxt v] = _
      rw [cat_one]; rfl
    subst hp'
    have hok : NmOk v := hn v (List.mem_of_getElem? hv')
    have hlen : (cat word ((vs.take (vs.length - (i + 1))).map nmTxt)).length ≤ 7800 := by
      have h1 := cat_len hw (vs := vs.take (vs.length - (i + 1))) fun x hx => hn x (List.mem_of_mem_take hx)
      rw [List.length_take] at h1
      have h2 : min (vs.length - (i + 1)) vs.length ≤ 62 := by omega
      omega
    have hp3 : (piece word (nmTxt v) ++ PySem.Str.ofString ",").length ≤ 118 := pieceC_len hw (nmTxt_len hok)
    exact turn v _ tl u h tk I oI hok (by rw [PySem.Str.length_append]; omega) (by omega) (.of off) F₁ N₁
  · rintro ⟨left, tl⟩ u h tk hp F₁ N₁
    have hp' : left = PySem.Str.empty := by
      have hp2 : left = cat word ((vs.take (vs.length - vs.reverse.length)).map nmTxt) := hp
      rw [hp2, List.length_reverse, Nat.sub_self]; rfl
    subst hp'
    exact done tl u h tk F₁ N₁
end

theorem len_ok {x : PySem.Str} (h : x.length ≤ 7918) : ¬ (x.length : Int) ≥ 2 ^ 63 := by omega
theorem left_end {word p : PySem.Str} {l' : List PySem.Str} : PySem.Txt.slice (cat word l' ++ p) none (some (((cat word l' ++ p).length : Int) - (p.length : Int))) = cat word l' :=
  slice_to (by rw [PySem.Str.length_append]; omega)

theorem la_end {word p : PySem.Str} {l' : List PySem.Str} {news all : List (Addr × Obj)} {m₀ m' : Str → Option Value} {h₀ : Heap} {L I : Addr} {oI : Obj} {s₁ : Shared} {h' : Heap} {tk : Nat} {tl : Tok}
    (F : Fr h₀ L h' m') (N : News h₀ L h' all) (hI : (I, oI) ∈ all) (sub : ∀ p ∈ news, p ∈ all) (no : OffIt I news)
    (hk : m' (PySem.Str.ofString "left") = some (.str (PySem.Txt.slice (cat word l' ++ p) none (some (((cat word l' ++ p).length : Int) - (p.length : Int)))) tl))
    (hr : ∀ z, z ≠ PySem.Str.ofString "name" → z ≠ PySem.Str.ofString "left" → z ≠ PySem.Str.ofString "piece" → m' z = m₀ z) :
    TurnEnd h₀ L I oI (LoopSt (PySem.Str.ofString "name") (fun _ => news) (fun c : PySem.Str × Tok => [(PySem.Str.ofString "left", .str c.1 c.2)]) [PySem.Str.ofString "piece"] m₀ (fun c => c.1 = cat word l')) s₁ { s₁ with heap := h', toks := tk } :=
  TurnEnd.intro (_, tl) F N hI sub no (fun q hq => by rw [List.mem_singleton.mp hq]; exact hk) (fun z h1 h2 h3 => hr z h1 (h2 _ (.head _)) (fun e => by subst e; simp at h3)) left_end

/-- a loop over a tuple of words that leaves frame and ledger as they are -/
theorem loop_words {prog : Program} {w : World} {A : Around} {E : Value → Shared → Prop} {s : Shared} {env : Env} {h₀ : Heap} {x : Str} {body : List Stmt} {Q : Flow → Shared → Prop} {ax : Addr} {ep : Nat} {vs : List Value} {m₀ : Str → Option Value} {news : List (Addr × Obj)}
    (hh : A.handled = none) (F : Fr h₀ env.locals s.heap m₀) (N : News h₀ env.locals s.heap news) (hm : (ax, ({ cls := .type "tuple", data := .seq vs.toArray ep } : Obj)) ∈ news) (hvs : ∀ v ∈ vs, ∃ word t, v = .str word t ∧ word.length ≤ 16)
    (turn : ∀ word tw h tk I oI, word.length ≤ 16 → OffIt I news → Fr h₀ env.locals h (fun y => if y = x then some (.str word tw) else m₀ y) → News h₀ env.locals h ((I, oI) :: news) →
      wpAny (model prog w) A (execs body env) (TurnPost h₀ env.locals I oI (LoopSt x (fun _ : Unit => news) (fun _ => []) [] m₀ (fun _ => True)) { s with heap := h, toks := tk } Q) E { s with heap := h, toks := tk })
    (done : ∀ (u : Str → Option Value) h tk, Fr h₀ env.locals h (fun y => if y = x then u y else m₀ y) → News h₀ env.locals h news → Q .next { s with heap := h, toks := tk }) :
    wpAny (model prog w) A (pyIter (.ref ax)) (fun it s₂ => LoopAtV prog w A h₀ env x body Q E it s₂) E s := by
  refine iter_tupS (ep := ep) (vs := vs) (fun _ : Unit => news) (fun _ => []) [] (fun _ _ => True) () hh F N (fun _ => hm) (fun _ h => nomatch h) trivial ?_ ?_
  · rintro _ i v u h tk I oI hv _ off F₁ N₁
    obtain ⟨word, t, rfl, hw⟩ := hvs v (List.mem_of_getElem? (by simpa using hv))
    exact turn word t h tk I oI hw (.of off) F₁ N₁
  · intro _ u h tk _ F₁ N₁
    exact done u h tk F₁ N₁
theorem words_end {x : Str} {news all : List (Addr × Obj)} {m₀ m' : Str → Option Value} {h₀ : Heap} {L I : Addr} {oI : Obj} {s₁ : Shared} {h' : Heap} {tk : Nat}
    (F : Fr h₀ L h' m') (N : News h₀ L h' all) (hI : (I, oI) ∈ all) (sub : ∀ p ∈ news, p ∈ all) (no : OffIt I news) (hr : ∀ z, z ≠ x → m' z = m₀ z) :
    TurnEnd h₀ L I oI (LoopSt x (fun _ : Unit => news) (fun _ => []) [] m₀ (fun _ => True)) s₁ { s₁ with heap := h', toks := tk } :=
  TurnEnd.intro () F N hI sub no (fun _ h => nomatch h) (fun z h1 _ _ => hr z h1) trivial

theorem pick_drop1 (l : List Value) : kms_pick l (some 1) none = l.drop 1 := by
  unfold kms_pick kms_lo kms_hi
  cases l with
  | nil => rfl
  | cons a r => simp
theorem FieldsAt.drop1 {C : Addr} {news : List (Addr × Obj)} {ys vs : List Value} (h : FieldsAt C news ys vs) : FieldsAt C news (ys.drop 1) (vs.drop 1) := by
  cases h with
  | nil => exact .nil
  | cons _ h => exact h
theorem NmsOk.drop1 {vs : List Value} (h : NmsOk vs) : NmsOk (vs.drop 1) := fun v hv => h v (List.mem_of_mem_drop hv)
end

section
theorem split_ne (x y : PySem.Str) : PySem.Txt.split x y ≠ [] := by
  unfold PySem.Txt.split
  split
  · simp
  · split
    · simp
    · rw [StrLaws.partsBetween_eq]
      obtain ⟨p, q, e⟩ := StrLaws.partsFrom_ne x y.length 0 (PySem.Builtin.Str.occurrences x y 0 x.length (x.length + 1))
      rw [e]; simp
theorem free_head {c : Nat} : ∀ {a b u v : List Nat}, c ∉ a → c ∉ b → a ++ c :: u = b ++ c :: v → a = b ∧ u = v
  | [], [], _, _, _, _, h => ⟨rfl, (List.cons.inj h).2⟩
  | [], y :: b, _, _, _, hb, h => absurd (.head _) ((List.cons.inj h).1 ▸ hb)
  | x :: a, [], _, _, ha, _, h => absurd (.head _) ((List.cons.inj h).1 ▸ ha)
  | x :: a, y :: b, u, v, ha, hb, h => by
    have h1 := (List.cons.inj h).1
    have h2 := free_head (fun m => ha (.tail _ m)) (fun m => hb (.tail _ m)) (List.cons.inj h).2
    exact ⟨by rw [h1, h2.1], h2.2⟩
theorem str_ext {a b : PySem.Str} (h : a.cps.toList = b.cps.toList) : a = b := Str.ext' (Array.toList_inj.mp h)
theorem join_uniq {c : Nat} : ∀ {ps qs : List PySem.Str}, ps ≠ [] → qs ≠ [] → (∀ p ∈ ps, c ∉ p.cps.toList) → (∀ p ∈ qs, c ∉ p.cps.toList) → PySem.Str.join ⟨#[c]⟩ ps = PySem.Str.join ⟨#[c]⟩ qs → ps = qs
  | [], _, h, _, _, _, _ => absurd rfl h
  | _ :: _, [], _, h, _, _, _ => absurd rfl h
  | [p], [q], _, _, _, _, e => by rw [show p = q from e]
  | [p], q :: q' :: qs, _, _, hp, _, e => by
    refine absurd ?_ (hp p (.head _))
    have e' : p = q ++ ⟨#[c]⟩ ++ PySem.Str.join ⟨#[c]⟩ (q' :: qs) := e
    rw [e', KT.app_list, KT.app_list]
    simp
  | p :: p' :: ps, [q], _, _, _, hq, e => by
    refine absurd ?_ (hq q (.head _))
    have e' : p ++ ⟨#[c]⟩ ++ PySem.Str.join ⟨#[c]⟩ (p' :: ps) = q := e
    rw [← e', KT.app_list, KT.app_list]
    simp
  | p :: p' :: ps, q :: q' :: qs, _, _, hp, hq, e => by
    have e' : p ++ ⟨#[c]⟩ ++ PySem.Str.join ⟨#[c]⟩ (p' :: ps) = q ++ ⟨#[c]⟩ ++ PySem.Str.join ⟨#[c]⟩ (q' :: qs) := e
    have e2 := congrArg (fun s : PySem.Str => s.cps.toList) e'
    simp only [KT.app_list, List.append_assoc] at e2
    have e3 := free_head (hp p (.head _)) (hq q (.head _)) (by simpa using e2)
    rw [str_ext e3.1, join_uniq (c := c) (by simp) (by simp) (fun x hx => hp x (.tail _ hx)) (fun x hx => hq x (.tail _ hx)) (str_ext e3.2)]
theorem split_is {x : PySem.Str} {c : Nat} {ps : List PySem.Str} (hne : ps ≠ []) (hf : ∀ p ∈ ps, c ∉ p.cps.toList) (e : PySem.Str.join ⟨#[c]⟩ ps = x) : PySem.Txt.split x ⟨#[c]⟩ = ps :=
  join_uniq (split_ne _ _) hne (StrLaws.split_free x c) hf ((StrLaws.join_split x ⟨#[c]⟩).trans e.symm)
theorem comma_is : PySem.Str.ofString "," = ⟨#[44]⟩ := by decide +kernel
theorem join_pieces (word : PySem.Str) : ∀ l : List PySem.Str, PySem.Str.join (PySem.Str.ofString ",") (l.map (piece word) ++ [PySem.Str.empty]) = cat word l
  | [] => rfl
  | [t] => by
    show piece word t ++ PySem.Str.ofString "," ++ PySem.Str.empty = pieceC word t ++ PySem.Str.empty
    rfl
  | t :: u :: r => by
    show piece word t ++ PySem.Str.ofString "," ++ PySem.Str.join (PySem.Str.ofString ",") ((u :: r).map (piece word) ++ [PySem.Str.empty]) = pieceC word t ++ cat word (u :: r)
    rw [join_pieces word (u :: r)]; rfl
theorem split_cat {word : PySem.Str} {l : List PySem.Str} (hf : ∀ t ∈ l, 44 ∉ (piece word t).cps.toList) : PySem.Txt.split (cat word l) (PySem.Str.ofString ",") = l.map (piece word) ++ [PySem.Str.empty] := by
  rw [comma_is]
  refine split_is (by simp) ?_ (by rw [← comma_is]; exact join_pieces word l)
  intro p hp
  rcases List.mem_append.mp hp with hp | hp
  · obtain ⟨t, ht, rfl⟩ := List.mem_map.mp hp
    exact hf t ht
  · rw [List.mem_singleton.mp hp]; simp [PySem.Str.empty]
end

section
/-- each object of own lies above each of news -/
def Above (news own : List (Addr × Obj)) : Prop := ∀ p ∈ own, ∀ q ∈ news, @LT.lt Nat _ q.1 p.1
theorem Above.nil {news : List (Addr × Obj)} : Above news [] := fun _ h => nomatch h
theorem above_off {news own : List (Addr × Obj)} {a : Addr} {o : Obj} (h : Above news own) (hm : (a, o) ∈ news) : ∀ p ∈ own, p.1 ≠ a := fun p hp => Nat.ne_of_gt (h p hp _ hm)
theorem Above.two {news own : List (Addr × Obj)} {x d : Addr} {ox od : Obj} (h : Above news own) (hd : ∀ q ∈ news, @LT.lt Nat _ q.1 d) (hx : @LT.lt Nat _ d x) : Above news ((x, ox) :: (d, od) :: own) := fun p hp q hq => by
  rcases List.mem_cons.mp hp with rfl | hp
  · exact Nat.lt_trans (hd q hq) hx
  rcases List.mem_cons.mp hp with rfl | hp
  · exact hd q hq
  · exact h p hp q hq
theorem fields_endB {K : Addr} {h₀ : Heap} {L I C D x d : Addr} {m : Str → Option Value} {s₁ : Shared} {oI oC oD : Obj} {S : List (Addr × Obj) → Prop} {news own : List (Addr × Obj)} {hs : Int} {t : Tok} {v : Value} {ys vs : List Value} {i : Nat} {h' : Heap} {tk : Nat}
    (F : Fr h₀ L h' m) (N : News h₀ L h' ((x, instObj K d) :: (d, dictOf [⟨hs, .str (PySem.Str.ofString "name") t, v⟩] 1) :: (I, oI) :: (C, oC) :: (D, oD) :: (news ++ own)))
    (off : LCg.Off3 I C D (news ++ own)) (lt : @LT.lt Nat _ I d ∧ @LT.lt Nat _ C d ∧ @LT.lt Nat _ D d ∧ @LT.lt Nat _ d x) (hb : ∀ q ∈ news, @LT.lt Nat _ q.1 d) (ha : Above news own) (hf : FieldsAt K own ys (vs.take i)) (hv : vs.toArray[i]? = some v)
    (hS : ∀ own', S (news ++ own')) :
    LCg.CompEnd h₀ L m s₁ I oI C oC D oD S (ElG news fun y own' => FieldsAt K own' (ys ++ [y]) (vs.take (i + 1)) ∧ Above news own') (.ref x) { s₁ with heap := h', toks := tk } :=
  ElG.made F N (by
    intro p hp
    simp only [List.mem_cons, List.mem_append] at hp ⊢
    rcases hp with h | h | h | h | h | h | h <;> simp only [h, true_or, or_true]) off lt (hS _) ⟨fields_step (hs := hs) (t := t) hf hv, ha.two hb lt.2.2.2⟩
theorem comp_fieldsB {prog : Program} {w : World} {A : Around} {h₀ : Heap} {L : Addr} {m : Str → Option Value} {env : Env} {elt : Expr} {x : Str} {scope : Scope} {cl : List (Str × Addr)} {s : Shared}
    {S : List (Addr × Obj) → Prop} {Fin : List Value → List (Addr × Obj) → Prop} {news : List (Addr × Obj)} {vs : List Value} (K : Addr)
    (turn : ∀ i v I oI C oC D m₂ ys own h tk (E' : Value → Shared → Prop), vs.toArray[i]? = some v → FieldsAt K own ys (vs.take i) → Above news own → LCg.NsObj oC m₂ → m₂ x = some v → Fr h₀ L h m →
      News h₀ L h ((I, oI) :: (C, oC) :: (D, LCg.lst ys) :: (news ++ own)) → LCg.Off3 I C D (news ++ own) → ((@Ne Nat I C) ∧ (@Ne Nat I D) ∧ (@Ne Nat C D)) →
      wpAny (model prog w) A (eval elt (compEnvC scope cl C env)) (LCg.CompEnd h₀ L m { s with heap := h, toks := tk } I oI C oC D (LCg.lst ys) S (ElG news fun y own' => FieldsAt K own' (ys ++ [y]) (vs.take (i + 1)) ∧ Above news own')) E' { s with heap := h, toks := tk })
    (fin : ∀ ys own, FieldsAt K own ys vs → Above news own → Fin ys (news ++ own)) : LCg.CompRest prog w A h₀ L m env elt x scope cl s S (fun i v => vs.toArray[i]? = some v) Fin vs.toArray.size 0 [] news :=
  comp_grow (fun i ys own => FieldsAt K own ys (vs.take i) ∧ Above news own) ⟨.nil, .nil⟩ (fun i v I oI C oC D m₂ ys own h tk E' _ hv hr hC hx F N off ne => turn i v I oI C oC D m₂ ys own h tk E' hv hr.1 hr.2 hC hx F N off ne)
    fun ys own h => fin ys own (by simpa using h.1) h.2
theorem valueAt_stored (kvs : List (PySem.Str × Value)) (k k' : PySem.Str) (v : Value) : valueAt (stored kvs k v) k' = if k = k' then some v else valueAt kvs k' := by
  unfold stored
  split
  · rename_i h
    unfold valueAt
    induction kvs with
    | nil => simp at h
    | cons p r ih =>
      rw [List.map_cons]
      by_cases hp : p.1 = k
      · by_cases hk : k = k'
        · simp [hp, hk]
        · rw [if_pos hp, if_neg hk]
          have h1 : ¬ k = k' := hk
          have h2 : ¬ p.1 = k' := fun e => hk (hp.symm.trans e)
          rw [List.find?_cons_of_neg (by simpa using h2), List.find?_cons_of_neg (by simpa using h2)]
          by_cases hr : (r.any fun kv => kv.1 = k) = true
          · have := ih hr
            rw [if_neg hk] at this
            exact this
          · congr 1
            have : r.map (fun kv => if kv.1 = k then (kv.1, v) else kv) = r := by
              have h3 : ∀ kv ∈ r, ¬ kv.1 = k := fun kv hm e => hr (List.any_eq_true.mpr ⟨kv, hm, by simpa using e⟩)
              clear ih h hr
              induction r with
              | nil => rfl
              | cons q r ih =>
                rw [List.map_cons, if_neg (h3 q (.head _)), ih fun kv hm => h3 kv (.tail _ hm)]
            rw [this]
      · have hr : (r.any fun kv => kv.1 = k) = true := by
          rw [List.any_cons] at h
          simpa [hp] using h
        rw [if_neg hp]
        by_cases h2 : p.1 = k'
        · have hk : ¬ k = k' := fun e => hp (h2.trans e.symm)
          rw [List.find?_cons_of_pos (by simpa using h2), if_neg hk, List.find?_cons_of_pos (by simpa using h2)]
        · rw [List.find?_cons_of_neg (by simpa using h2), List.find?_cons_of_neg (by simpa using h2)]
          exact ih hr
  · rename_i h
    have hn : valueAt kvs k = none := by
      have := valueAt_isSome_eq_any kvs k
      cases hv : valueAt kvs k with
      | none => rfl
      | some x => rw [hv] at this; exact absurd this.symm h
    unfold valueAt at hn ⊢
    rw [List.find?_append]
    by_cases hk : k = k'
    · subst hk
      have : (kvs.find? fun kv => kv.1 = k) = none := by simpa using hn
      rw [this, if_pos rfl]; simp
    · rw [if_neg hk]
      cases hf : kvs.find? (fun kv => kv.1 = k') with
      | none => simp [hk]
      | some x => simp
/-- the worth under a name -/
def worth (k : List (PySem.Str × Value)) (t : PySem.Str) : Value := (valueAt k t).getD .none
theorem worth_at {k : List (PySem.Str × Value)} {t : PySem.Str} (h : (valueAt k t).isSome = true) : valueAt k t = some (worth k t) := by
  unfold worth
  cases hv : valueAt k t with
  | none => rw [hv] at h; cases h
  | some v => rfl
/-- no comma, no full stop -/
def Tidy (t : PySem.Str) : Prop := 44 ∉ t.cps.toList ∧ 46 ∉ t.cps.toList
theorem dot_is : PySem.Str.ofString "." = ⟨#[46]⟩ := by decide +kernel
theorem piece_free {word t : PySem.Str} (hw : Tidy word) (ht : Tidy t) : 44 ∉ (piece word t).cps.toList := by
  unfold piece
  rw [KT.app_list, KT.app_list, dot_is]
  simp only [List.mem_append]
  rintro ((h | h) | h)
  · exact hw.1 h
  · simp at h
  · exact ht.1 h
theorem split_piece {word t : PySem.Str} (hw : Tidy word) (ht : Tidy t) : PySem.Txt.split (piece word t) (PySem.Str.ofString ".") = [word, t] := by
  unfold piece
  rw [dot_is]
  refine split_is (by simp) ?_ rfl
  intro p hp
  simp only [List.mem_cons, List.not_mem_nil, or_false] at hp
  rcases hp with rfl | rfl
  · exact hw.2
  · exact ht.2
theorem split_tstr {word : PySem.Str} {ts : List PySem.Str} (hw : Tidy word) (ht : ∀ t ∈ ts, Tidy t) : PySem.Txt.split (PySem.Txt.slice (tstr word ts) (some 1) (some (-1))) (PySem.Str.ofString ",") = ts.map (piece word) ++ [PySem.Str.empty] := by
  rw [tstr_inner]; exact split_cat fun t h => piece_free hw (ht t h)
/-- two tuples of the very same items -/
theorem ne_tup {prog : Program} {w : World} {A : Around} {E : Value → Shared → Prop} {s : Shared} {h₀ : Heap} {L a b : Addr} {news : List (Addr × Obj)} {ys : List Value} {k j : Nat} {Q : Value → Shared → Prop}
    (N : News h₀ L s.heap news) (ha : (a, ({ cls := .type "tuple", data := .seq ys.toArray k } : Obj)) ∈ news) (hb : (b, ({ cls := .type "tuple", data := .seq ys.toArray j } : Obj)) ∈ news) (hu : A.units < cLine)
    (h : Q (.bool false) s) : wpAny (model prog w) A (compareOp .NotEq (.ref a) (.ref b)) Q E s := by
  have h1 : s.heap.IsTuple a ys.toArray := ⟨_, (N _ ha).1, rfl, k, rfl⟩
  have h2 : s.heap.IsTuple b ys.toArray := ⟨_, (N _ hb).1, rfl, j, rfl⟩
  refine SeqAt.RcNeAt.tuples (e := fun _ => true) h1 h2 hu (fun j _ _ => SeqAt.EqAt.same _) prog w E Q ?_
  have e : (((List.range (min ys.toArray.size ys.toArray.size)).all fun _ => true) && ys.toArray.size == ys.toArray.size) = true := by simp
  rw [e]; exact h

theorem strs_split {p : List PySem.Str} {q : PySem.Str} : ∀ {zs : List Value}, StrsAre zs (p ++ [q]) → ∃ zs' t, zs = zs' ++ [.str q t] ∧ StrsAre zs' p := by
  induction p with
  | nil =>
    intro zs h
    cases h with
    | cons y t r => cases r; exact ⟨[], t, rfl, .nil⟩
  | cons a r ih =>
    intro zs h
    cases h with
    | cons y t r' =>
      obtain ⟨zs', t', e, h'⟩ := ih r'
      exact ⟨.str a t :: zs', t', by rw [e]; rfl, .cons a t h'⟩
theorem strs_len {zs : List Value} {l : List PySem.Str} (h : StrsAre zs l) : zs.length = l.length := by
  induction h with
  | nil => rfl
  | cons _ _ _ ih => simp [ih]
theorem strs_get {zs : List Value} {l : List PySem.Str} (h : StrsAre zs l) : ∀ {i : Nat} {v : Value}, zs[i]? = some v → ∃ x t, l[i]? = some x ∧ v = .str x t := by
  induction h with
  | nil => intro i v hv; simp at hv
  | cons y t r ih =>
    intro i v hv
    cases i with
    | zero => simp only [List.getElem?_cons_zero, Option.some.injEq] at hv; exact ⟨y, t, rfl, hv.symm⟩
    | succ i => exact ih (by simpa using hv)
theorem empty_is : PySem.Str.empty = PySem.Str.ofString "" := by decide +kernel
section
variable {prog : Program} {w : World} {A : Around} {E : Value → Shared → Prop} {s : Shared} {h₀ : Heap} {L D : Addr} {m : Str → Option Value} {news : List (Addr × Obj)} {word : PySem.Str} {ts : List PySem.Str} {Q : Value → Shared → Prop}
theorem split_ps {t u : Tok} (F : Fr h₀ L s.heap m) (N : News h₀ L s.heap news) (hw : Tidy word) (ht : ∀ t ∈ ts, Tidy t) (hsz : (PySem.Txt.slice (tstr word ts) (some 1) (some (-1))).length ≤ 8000)
    (h : ∀ D zs t' h' k, StrsAre zs (ts.map (piece word)) → Fr h₀ L h' m → News h₀ L h' ((D, listOf (zs ++ [Value.str (PySem.Str.ofString "") t']).toArray 0) :: news) → (∀ p ∈ news, p.1 < D) → Q (.ref D) { s with heap := h', toks := k }) :
    wpAny (model prog w) A (call (.builtin "str.split") [.str (PySem.Txt.slice (tstr word ts) (some 1) (some (-1))) t, .str (PySem.Str.ofString ",") u]) Q E s := by
  refine KSpl.split1 F N (by decide) (fun D l h' k e a F' N' l1 => ?_) (by rw [PySem.sizeLine_eq]; omega)
  rw [split_tstr hw ht] at e
  rw [e] at a
  obtain ⟨zs', t', e', h''⟩ := strs_split a
  rw [e', empty_is] at N'
  exact h D zs' t' h' k h'' F' N' l1
theorem split_dot {x : PySem.Str} {t u : Tok} (F : Fr h₀ L s.heap m) (N : News h₀ L s.heap news) (hw : Tidy word) (ht : Tidy x) (hsz : (piece word x).length ≤ 200)
    (h : ∀ D t1 t2 h' k, Fr h₀ L h' m → News h₀ L h' ((D, listOf #[Value.str word t1, Value.str x t2] 0) :: news) → (∀ p ∈ news, p.1 < D) → Q (.ref D) { s with heap := h', toks := k }) :
    wpAny (model prog w) A (call (.builtin "str.split") [.str (piece word x) t, .str (PySem.Str.ofString ".") u]) Q E s := by
  refine KSpl.split1 F N (by decide) (fun D l h' k e a F' N' l1 => ?_) (by rw [PySem.sizeLine_eq]; omega)
  rw [split_piece hw ht] at e
  rw [e] at a
  generalize hz : strValues l = zs at a N'
  cases a with
  | cons y t1 r => cases r with
    | cons y' t2 r' => cases r'; exact h D t1 t2 h' k F' N' l1
end
section
variable {prog : Program} {w : World} {A : Around} {E : Value → Shared → Prop} {s : Shared} {h₀ : Heap} {L D : Addr} {m : Str → Option Value} {news news' : List (Addr × Obj)} {n : Nat} {vs : List Value} {Q : Value → Shared → Prop}
theorem len_L (N : News h₀ L s.heap news) (hm : (D, listOf vs.toArray n) ∈ news) (hz : vs.length ≤ 1000) (h : Q (.int (vs.length : Int) (s.toks + 1)) { s with toks := s.toks + 1 + 1 }) : wpAny (model prog w) A (call (.builtin "len") [.ref D]) Q E s :=
  kst_len N hm rfl (by omega) h
theorem append_L {x : Value} (F : Fr h₀ L s.heap m) (N : News h₀ L s.heap news) (U : Upd D (listOf vs.toArray n) (listOf (vs ++ [x]).toArray (n + 1)) news news') (hz : vs.length ≤ sizeLine)
    (h : ∀ h', Fr h₀ L h' m → News h₀ L h' news' → Q .none { s with heap := h' }) : wpAny (model prog w) A (call (.builtin "list.append") [.ref D, x]) Q E s :=
  append_K F N (its := vs.toArray) (by rw [List.push_toArray]; exact U) h (by rw [List.size_toArray]; exact hz)
end
end

section
/-- a comprehension with a test, the ledger kept -/
theorem compT_keep {prog : Program} {w : World} {A : Around} {h₀ : Heap} {L : Addr} {m : Str → Option Value} {env : Env} {ct elt : Expr} {x : Str} {scope : Scope} {cl : List (Str × Addr)} {s : Shared}
    {S : List (Addr × Obj) → Prop} {P : Nat → Value → Prop} {Fin : List Value → List (Addr × Obj) → Prop} {n : Nat} {news : List (Addr × Obj)}
    (R : Nat → List Value → Prop) (h0 : R 0 [])
    (turn : ∀ i v I oI C oC D m₂ ys h tk (E' : Value → Shared → Prop), i < n → P i v → R i ys → LCg.NsObj oC m₂ → m₂ x = some v → Fr h₀ L h m →
      News h₀ L h ((I, oI) :: (C, oC) :: (D, LCg.lst ys) :: news) → LCg.Off3 I C D news → ((@Ne Nat I C) ∧ (@Ne Nat I D) ∧ (@Ne Nat C D)) →
      wpAny (model prog w) A (isTrue ct (compEnvC scope cl C env) (eval ct (compEnvC scope cl C env))) (fun ok s' => if ok = true then
        wpAny (model prog w) A (eval elt (compEnvC scope cl C env)) (LCg.CompEnd h₀ L m { s with heap := h, toks := tk } I oI C oC D (LCg.lst ys) S (ElK news fun y => R (i + 1) (ys ++ [y]))) E' s'
        else LCg.CompEnd h₀ L m { s with heap := h, toks := tk } I oI C oC D (LCg.lst ys) S (ElK news fun _ => R (i + 1) ys) Value.none s') E' { s with heap := h, toks := tk })
    (fin : ∀ ys, R n ys → Fin ys news) : LCt.CompRestT prog w A h₀ L m env ct elt x scope cl s S P Fin n 0 [] news := by
  have key : ∀ (j i : Nat) (ys : List Value), i + j = n → R i ys → LCt.CompRestT prog w A h₀ L m env ct elt x scope cl s S P Fin j i ys news := by
    intro j
    induction j with
    | zero => intro i ys hi hr; exact LCt.CompRestT.zero (fin ys (by rw [show n = i by omega]; exact hr))
    | succ j ih =>
      intro i ys hi hr
      refine LCt.CompRestT.succ ?_
      intro v I oI C oC D m₂ h tk E' hv hC hx F N off ne
      refine wpAny_mono (turn i v I oI C oC D m₂ ys h tk E' (by omega) hv hr hC hx F N off ne) (fun ok s₂ hq => ?_) fun _ _ e => e
      cases ok with
      | true =>
        simp only [if_true] at hq ⊢
        refine wpAny_mono hq (fun y s₃ hq => ?_) fun _ _ e => e
        obtain ⟨h', tk', nw, e, F', N', off', hS, hnw, hr'⟩ := hq
        subst hnw
        exact ⟨h', tk', _, e, F', N', off', hS, ih (i + 1) _ (by omega) hr'⟩
      | false =>
        simp only [Bool.false_eq_true, if_false] at hq ⊢
        obtain ⟨h', tk', nw, e, F', N', off', hS, hnw, hr'⟩ := hq
        subst hnw
        exact ⟨h', tk', _, e, F', N', off', hS, ih (i + 1) _ (by omega) hr'⟩
  exact key n 0 [] (by omega) h0
section
variable {prog : Program} {w : World} {A : Around} {E : Value → Shared → Prop} {s : Shared} {h₀ : Heap} {L : Addr} {m : Str → Option Value} {env : Env}
/-- y = [elt for x in (a list | a tuple of the ledger) if ct] -/
theorem Assign_ListComp_seqT {ct elt iter : Expr} {x y : Str} {px py : Pos} {scope : Scope} {cl : List (Str × Addr)} {pos spos : Pos} {Q : Flow → Shared → Prop} {ax : Addr} {oax : Obj} {ys : List Value} {news : List (Addr × Obj)}
    (hh : A.handled = none) (F : Fr h₀ L s.heap m) (hq : SeqObj oax ys) (hi : ∀ Q' : Value → Shared → Prop, Q' (.ref ax) s → wpAny (model prog w) A (eval iter env) Q' E s) (N : News h₀ L s.heap news) (hm : (ax, oax) ∈ news) (hsz : ys.length ≤ sizeLine)
    (hLe : env.locals = L)
    (hsw : swapsWith (.ListComp elt [⟨.Name x px, iter, [ct], 0⟩] scope pos) (some (.Name y py)) spos.line env = pure true)
    (hclos : closureFor scope env = pure cl) (hcell : ∀ z ∈ scope.names, z.2 ≠ .cell) (hkind : scope.kind = .function)
    (hnames : ∀ z ∈ scope.names, z.2 = .local → scope.names.lookup z.1 = some .local) (hx : scope.names.lookup x = some .local)
    (hy : env.kindOf y = some .local) (hp : (env.scope.kind == .class || (env.scope.kind == .module && env.locals != env.globals)) = false)
    (h : ∀ (g : Heap) (S : List (Addr × Obj) → Prop), SIn ax oax S → LCt.CompRestT prog w A h₀ L m env ct elt x scope cl { s with heap := g } S (fun i v => ys.toArray[i]? = some v) (LCg.FinA h₀ L m { s with heap := g } y Q) ys.toArray.size 0 [] news)
    (hs : ∀ x, foldedSetIterable iter env x = pure x := by intro _; rfl) :
    wpAny (model prog w) A (exec (.Assign [.Name y py] (.ListComp elt [⟨.Name x px, iter, [ct], 0⟩] scope pos) spos) env) Q E s := by
  obtain ⟨k, rfl | rfl⟩ := hq
  · exact LCt.Assign_ListComp_T F hLe hsw hclos hcell hkind hnames hx hy hp (hi _ (LCt.CompSrcT.ledger hh F N hm (by rw [List.size_toArray]; exact hsz) fun g => h g _ fun nw hw => .inr ⟨_, hw, rfl, _, rfl⟩)) hs
  · subst hLe
    rw [exec_Assign_Name_used _ _ _ _ hsw]
    refine wpAny_bind (wpAny_standAt (wpAny_bind ?_))
    show wpAny _ A (do let _ ← comprehension (.ListComp elt [⟨.Name x px, iter, [ct], 0⟩] scope pos) scope env _ (newList []) false (eval iter env) (some (assign (.Name y py) env))) _ _ s
    refine wpAny_bind (wpAny_mono (wpAny_comprehension_free (use := some (assign (.Name y py) env)) (Q := fun _ s' => Q .next s') rfl hs hclos hkind hnames
      (hi _ ?_)) (fun _ s' hq => wpAny_pure (wpAny_pure hq)) fun _ _ e => e)
    have hl : s.heap.IsTuple ax ys.toArray := ⟨_, (N _ hm).1, rfl, k, rfl⟩
    have hlt : ax < s.heap.objs.size := Heap.lt_size (N _ hm).1
    refine wpAny_pyIter_tuple hl ?_
    have up : ∀ b o, s.heap.get? b = some o → (s.heap.push { cls := .type "tuple_iterator", data := .fields #[.ref ax, .int 0 0] }).get? b = some o := fun b o e => Heap.get?_push_of_some _ e
    refine LCt.block_T (Walks.tuple hh s.heap.objs.size ax (Nat.ne_of_lt hlt) ys.toArray) (by rw [List.size_toArray]; exact hsz) (fun i h st => by obtain ⟨o, e, _⟩ := st.1; exact ⟨o, e⟩) (tup_st (k := k)) hcell hkind hx ⟨⟨_, Heap.get?_push_size _ rfl, rfl, rfl⟩, hl.at fun o e => Heap.get?_push_of_some _ e⟩ (fun b hb => ?_)
      (F.keeps up) (N.grown up) (Nat.ne_of_lt F.ns.lt) (next_is_new F) (fun p hp => Nat.ne_of_lt (Heap.lt_size (N p hp).1)) hm (h _ _ fun nw hw => hw) ?_
    · show b < (s.heap.push _).objs.size
      rw [Heap.size_push]
      rcases List.mem_cons.mp hb with rfl | hb
      · exact Nat.lt_succ_self _
      · rw [List.mem_singleton.mp hb]; exact Nat.lt_succ_of_lt hlt
    · intro D C h' tk m' ys' news' F' N' o1 hn hC₀ hD₀ hCL hDL hCD offC fin
      show wpAny _ A (assign (.Name y py) env (.ref D)) _ _ _
      refine wpAny_assign_Name (wpAny_storeName_local hy F'.ns (fun h₂ hn₂ hs₂ => ?_) hp)
      have hL₀ : h₀.get? env.locals = none := Heap.get?_none_of_le F'.above
      have F₂ : Fr h₀ env.locals h₂ (fun z => if z = y then some (.ref D) else m z) := ⟨hn₂, fun b o e => hs₂.extBut b o (fun q => by rw [q, hL₀] at e; cases e) (F'.keep b o e), F'.above⟩
      refine ⟨m', hn.sameBut hs₂ hCL, fun h'' hs'' => fin D h'' _ (F₂.change hs'' hCL hC₀) (fun p hp => ?_) o1⟩
      have z : h₂.get? p.1 = some p.2 := hs₂.extBut _ _ (N' p hp).2.1 (N' p hp).1
      refine ⟨hs''.extBut _ _ ?_ z, (N' p hp).2⟩
      rcases List.mem_cons.mp hp with rfl | hp
      · exact Ne.symm hCD
      · exact offC p hp
end
end

section
/-- one field of law 4 -/
structure Fd4 where
  x : Addr
  d : Addr
  t1 : Tok
  t2 : Tok
  t3 : Tok
  tv : Tok
  word : PySem.Str
  vh : Value
  vc : Value
  kp : Bool
/-- its two objects -/
def led4 (hn hh hc : Int) (C : Addr) : List Fd4 → List (Addr × Obj)
  | [] => []
  | r :: rs => (r.x, instObj C r.d) :: (r.d, dictOf [⟨hn, .str (PySem.Str.ofString "name") r.t1, .str r.word r.tv⟩, ⟨hh, .str (PySem.Str.ofString "hash") r.t2, r.vh⟩, ⟨hc, .str (PySem.Str.ofString "compare") r.t3, r.vc⟩] 3) :: led4 hn hh hc C rs
def refs4 (rs : List Fd4) : List Value := rs.map fun r => .ref r.x
theorem led4_append (hn hh hc : Int) (C : Addr) : ∀ a b : List Fd4, led4 hn hh hc C (a ++ b) = led4 hn hh hc C a ++ led4 hn hh hc C b
  | [], _ => rfl
  | r :: rs, b => by
    show _ :: _ :: led4 hn hh hc C (rs ++ b) = _
    rw [led4_append hn hh hc C rs b]; rfl
theorem led4_mem {hn hh hc : Int} {C : Addr} : ∀ {rs : List Fd4} {r : Fd4}, r ∈ rs → (r.x, instObj C r.d) ∈ led4 hn hh hc C rs ∧
    (r.d, dictOf [⟨hn, .str (PySem.Str.ofString "name") r.t1, .str r.word r.tv⟩, ⟨hh, .str (PySem.Str.ofString "hash") r.t2, r.vh⟩, ⟨hc, .str (PySem.Str.ofString "compare") r.t3, r.vc⟩] 3) ∈ led4 hn hh hc C rs
  | [], _, h => nomatch h
  | a :: rs, r, h => by
    rcases List.mem_cons.mp h with rfl | h
    · exact ⟨.head _, .tail _ (.head _)⟩
    · have := led4_mem (hn := hn) (hh := hh) (hc := hc) (C := C) h
      exact ⟨.tail _ (.tail _ this.1), .tail _ (.tail _ this.2)⟩
theorem led4_kind {hn hh hc : Int} {C : Addr} : ∀ {rs : List Fd4}, ∀ p ∈ led4 hn hh hc C rs, p.2.cls = .ref C ∨ p.2.cls = .type "dict"
  | [], _, h => nomatch h
  | r :: rs, p, h => by
    rcases List.mem_cons.mp h with rfl | h
    · exact .inl rfl
    rcases List.mem_cons.mp h with rfl | h
    · exact .inr rfl
    · exact led4_kind p h
theorem led4_noIt {hn hh hc : Int} {C : Addr} {rs : List Fd4} : NoIt (led4 hn hh hc C rs) := fun p hp => by
  rcases led4_kind p hp with h | h <;> rw [h] <;> exact ⟨by simp, by simp, by simp⟩
theorem led4_off {hn hh hc : Int} {C : Addr} {rs : List Fd4} {h₀ h : Heap} {L a : Addr} {its : Array Value} {k : Nat} {all : List (Addr × Obj)} (N : News h₀ L h all) (hm : (a, listOf its k) ∈ all) (hsub : ∀ p ∈ led4 hn hh hc C rs, p ∈ all) : ∀ p ∈ led4 hn hh hc C rs, p.1 ≠ a := fun p hp e => by
  have h1 := (N p (hsub p hp)).1
  rw [e, (N _ hm).1] at h1
  have h2 := led4_kind p hp
  rw [← Option.some.inj h1] at h2
  rcases h2 with h2 | h2
  · cases h2
  · exact absurd (Value.type.inj h2) (by decide)
/-- the truth of what may stand in hash and compare -/
def TVc (el : Addr) (v : Value) (b : Bool) : Prop :=
  (v = .bool true ∧ b = true) ∨ (v = .bool false ∧ b = false) ∨ (∃ t, v = .int 1 t ∧ b = true) ∨ (∃ t, v = .int 0 t ∧ b = false) ∨
    (∃ t, v = .str (PySem.Str.ofString "no") t ∧ b = true) ∨ (∃ t, v = .str (PySem.Str.ofString "") t ∧ b = false) ∨ (v = .ref el ∧ b = false)
def TrOk (el : Addr) (vh vc : Value) (b : Bool) : Prop := (vh = .none ∧ TVc el vc b) ∨ TVc el vh b
def HOk (el : Addr) (j : Int) (v : Value) : Prop :=
  (j = 0 ∧ v = .none) ∨ (j = 1 ∧ v = .bool true) ∨ (j = 2 ∧ v = .bool false) ∨ (j = 3 ∧ ∃ t, v = .int 0 t) ∨ (j = 4 ∧ ∃ t, v = .int 1 t) ∨ (j = 5 ∧ ∃ t, v = .str (PySem.Str.ofString "") t) ∨
    (j = 6 ∧ ∃ t, v = .str (PySem.Str.ofString "no") t) ∨ (j = 7 ∧ v = .ref el)
def COk (j : Int) (v : Value) : Prop := (j = 0 ∧ v = .bool true) ∨ (j = 1 ∧ v = .bool false) ∨ (j = 2 ∧ ∃ t, v = .int 1 t) ∨ (j = 3 ∧ ∃ t, v = .str (PySem.Str.ofString "") t)
theorem cok_true {el : Addr} {i : Int} {v : Value} (h : COk i v) (hi : i = 0 ∨ i = 2) : TVc el v true := by
  rcases h with ⟨e, h⟩ | ⟨e, h⟩ | ⟨e, t, h⟩ | ⟨e, t, h⟩
  · exact .inl ⟨h, rfl⟩
  · omega
  · exact .inr (.inr (.inl ⟨t, h, rfl⟩))
  · omega
theorem cok_false {el : Addr} {i : Int} {v : Value} (h : COk i v) (hi : i ≠ 0 ∧ i ≠ 2) : TVc el v false := by
  rcases h with ⟨e, h⟩ | ⟨e, h⟩ | ⟨e, t, h⟩ | ⟨e, t, h⟩
  · omega
  · exact .inr (.inl ⟨h, rfl⟩)
  · omega
  · exact .inr (.inr (.inr (.inr (.inr (.inl ⟨t, h, rfl⟩)))))
theorem tr_true {el : Addr} {j i : Int} {vh vc : Value} (h : HOk el j vh) (c : COk i vc) (hj : (j = 1 ∨ j = 4 ∨ j = 6) ∨ (j = 0 ∧ (i = 0 ∨ i = 2))) : TrOk el vh vc true := by
  rcases h with ⟨e, h⟩ | ⟨e, h⟩ | ⟨e, h⟩ | ⟨e, t, h⟩ | ⟨e, t, h⟩ | ⟨e, t, h⟩ | ⟨e, t, h⟩ | ⟨e, h⟩
  · exact .inl ⟨h, cok_true c (by omega)⟩
  · exact .inr (.inl ⟨h, rfl⟩)
  · omega
  · omega
  · exact .inr (.inr (.inr (.inl ⟨t, h, rfl⟩)))
  · omega
  · exact .inr (.inr (.inr (.inr (.inr (.inl ⟨t, h, rfl⟩)))))
  · omega
theorem tr_false {el : Addr} {j i : Int} {vh vc : Value} (h : HOk el j vh) (c : COk i vc) (h1 : ¬ (j = 1 ∨ j = 4 ∨ j = 6)) (h2 : j = 0 → i ≠ 0 ∧ i ≠ 2) : TrOk el vh vc false := by
  rcases h with ⟨e, h⟩ | ⟨e, h⟩ | ⟨e, h⟩ | ⟨e, t, h⟩ | ⟨e, t, h⟩ | ⟨e, t, h⟩ | ⟨e, t, h⟩ | ⟨e, h⟩
  · exact .inl ⟨h, cok_false c (h2 e)⟩
  · exact absurd (.inl e) h1
  · exact .inr (.inr (.inl ⟨h, rfl⟩))
  · exact .inr (.inr (.inr (.inr (.inl ⟨t, h, rfl⟩))))
  · exact absurd (.inr (.inl e)) h1
  · exact .inr (.inr (.inr (.inr (.inr (.inr (.inl ⟨t, h, rfl⟩))))))
  · exact absurd (.inr (.inr e)) h1
  · exact .inr (.inr (.inr (.inr (.inr (.inr (.inr ⟨h, rfl⟩))))))
/-- what is known of a field -/
def Ok4 (el : Addr) (r : Fd4) : Prop := (Tidy r.word ∧ r.word.length ≤ 100 ∧ r.word ≠ PySem.Str.ofString "") ∧ TrOk el r.vh r.vc r.kp
def Oks (el : Addr) (rs : List Fd4) : Prop := ∀ r ∈ rs, Ok4 el r
def dueTxt (r : Fd4) : PySem.Str := if r.kp = true then r.word else PySem.Str.ofString ""
def kept (rs : List Fd4) : List Fd4 := rs.filter (·.kp)
def words4 (rs : List Fd4) : List PySem.Str := rs.map (·.word)
theorem Oks.drop {el : Addr} {rs : List Fd4} (h : Oks el rs) (n : Nat) : Oks el (rs.drop n) := fun r hr => h r (List.mem_of_mem_drop hr)
theorem Oks.kept {el : Addr} {rs : List Fd4} (h : Oks el rs) : Oks el (kept rs) := fun r hr => h r (List.mem_filter.mp hr).1
theorem Oks.snoc {el : Addr} {rs : List Fd4} {r : Fd4} (h : Oks el rs) (hr : Ok4 el r) : Oks el (rs ++ [r]) := fun q hq => by
  rcases List.mem_append.mp hq with h1 | h1
  · exact h q h1
  · rw [List.mem_singleton.mp h1]; exact hr
section
variable {prog : Program} {w : World} {A : Around} {E : Value → Shared → Prop} {s : Shared} {h₀ : Heap} {L D : Addr} {m : Str → Option Value} {news all : List (Addr × Obj)} {el : Addr} {ke : Nat}
/-- the truth of such a value -/
theorem truthy_TV {v : Value} {b : Bool} {Q : Bool → Shared → Prop} (h : TVc el v b) (N : News h₀ L s.heap all) (hm : (el, listOf (List.toArray []) ke) ∈ all) (hq : ∀ tk, Q b { s with toks := tk }) : wpAny (model prog w) A (truthy v) Q E s := by
  have hq' : Q b s := hq s.toks
  rcases h with ⟨rfl, rfl⟩ | ⟨rfl, rfl⟩ | ⟨t, rfl, rfl⟩ | ⟨t, rfl, rfl⟩ | ⟨t, rfl, rfl⟩ | ⟨t, rfl, rfl⟩ | ⟨rfl, rfl⟩
  · exact wpAny_truthy_bool hq'
  · exact wpAny_truthy_bool hq'
  · exact P.truthy_int (by simpa using hq')
  · exact P.truthy_int (by simpa using hq')
  · have e : (((PySem.Str.ofString "no").length : Int) != 0) = true := by decide
    exact P.truthy_str (by decide) (by rw [e]; exact hq _)
  · have e : (((PySem.Str.ofString "").length : Int) != 0) = false := by decide
    exact P.truthy_str (by decide) (by rw [e]; exact hq _)
  · have := wpAny_truthy_list (prog := prog) (w := w) (A := A) (E := E) (Q := Q) (News.isList N hm) (by decide)
    exact this (by simpa using hq _)
/-- such a value is not None -/
theorem is_none_TV {v : Value} {b : Bool} {Q : Value → Shared → Prop} (h : TVc el v b) (hq : Q (.bool false) s) : wpAny (model prog w) A (compareOp .Is v .none) Q E s := by
  rcases h with ⟨rfl, rfl⟩ | ⟨rfl, rfl⟩ | ⟨t, rfl, rfl⟩ | ⟨t, rfl, rfl⟩ | ⟨t, rfl, rfl⟩ | ⟨t, rfl, rfl⟩ | ⟨rfl, rfl⟩ <;> exact wpAny_is_other (by rfl) (by intro x; cases x) hq
end
end

section
theorem CompEnd.weak {h₀ : Heap} {L I C D : Addr} {m : Str → Option Value} {s₁ s₂ : Shared} {oI oC oD : Obj} {S : List (Addr × Obj) → Prop} {news : List (Addr × Obj)} {R R' : Value → Prop} {y : Value}
    (h : LCg.CompEnd h₀ L m s₁ I oI C oC D oD S (ElK news R) y s₂) (hr : R y → R' y) : LCg.CompEnd h₀ L m s₁ I oI C oC D oD S (ElK news R') y s₂ := by
  obtain ⟨h', tk', nw, e, F', N', off', hS, hnw, hy⟩ := h
  exact ⟨h', tk', nw, e, F', N', off', hS, hnw, hr hy⟩
theorem kept_take {rl : List Fd4} {i : Nat} {r : Fd4} (hr : rl[i]? = some r) : kept (rl.take (i + 1)) = if r.kp = true then kept (rl.take i) ++ [r] else kept (rl.take i) := by
  unfold kept
  rw [List.take_add_one, hr, List.filter_append]
  by_cases h : r.kp = true
  · rw [if_pos h]; simp [h]
  · rw [if_neg h]; simp [h]
section
variable {prog : Program} {w : World} {A : Around} {h₀ : Heap} {L : Addr} {m : Str → Option Value} {env : Env} {ct elt : Expr} {x : Str} {scope : Scope} {cl : List (Str × Addr)} {s : Shared}
    {S : List (Addr × Obj) → Prop} {Fin : List Value → List (Addr × Obj) → Prop} {news : List (Addr × Obj)} {el : Addr}
/-- [f for f in fields if ..] -/
theorem comp_flds {hn hh hc : Int} {K : Addr} {rl : List Fd4} (ho : Oks el rl) (hsub : ∀ p ∈ led4 hn hh hc K rl, p ∈ news)
    (turn : ∀ r I oI C oC D m₂ ys h tk (E' : Value → Shared → Prop), r ∈ rl → (r.x, instObj K r.d) ∈ news →
      (r.d, dictOf [⟨hn, .str (PySem.Str.ofString "name") r.t1, .str r.word r.tv⟩, ⟨hh, .str (PySem.Str.ofString "hash") r.t2, r.vh⟩, ⟨hc, .str (PySem.Str.ofString "compare") r.t3, r.vc⟩] 3) ∈ news → TrOk el r.vh r.vc r.kp →
      LCg.NsObj oC m₂ → m₂ x = some (.ref r.x) → Fr h₀ L h m → News h₀ L h ((I, oI) :: (C, oC) :: (D, LCg.lst ys) :: news) → LCg.Off3 I C D news → ((@Ne Nat I C) ∧ (@Ne Nat I D) ∧ (@Ne Nat C D)) →
      wpAny (model prog w) A (isTrue ct (compEnvC scope cl C env) (eval ct (compEnvC scope cl C env))) (fun ok s' => if ok = true then
        wpAny (model prog w) A (eval elt (compEnvC scope cl C env)) (LCg.CompEnd h₀ L m { s with heap := h, toks := tk } I oI C oC D (LCg.lst ys) S (ElK news fun y => r.kp = true ∧ y = .ref r.x)) E' s'
        else LCg.CompEnd h₀ L m { s with heap := h, toks := tk } I oI C oC D (LCg.lst ys) S (ElK news fun _ => r.kp = false) Value.none s') E' { s with heap := h, toks := tk })
    (fin : Fin (refs4 (kept rl)) news) : LCt.CompRestT prog w A h₀ L m env ct elt x scope cl s S (fun i v => (refs4 rl).toArray[i]? = some v) Fin (refs4 rl).toArray.size 0 [] news := by
  refine compT_keep (fun i ys => ys = refs4 (kept (rl.take i))) rfl (fun i v I oI C oC D m₂ ys h tk E' hi hv hr hC hx F N off ne => ?_) (fun ys hr => ?_)
  · have hv' : (refs4 rl)[i]? = some v := by simpa using hv
    unfold refs4 at hv'
    rw [List.getElem?_map] at hv'
    cases hrl : rl[i]? with
    | none => rw [hrl] at hv'; cases hv'
    | some r =>
      rw [hrl] at hv'
      have hv2 : Value.ref r.x = v := by simpa using hv'
      subst hv2
      have hm := List.mem_of_getElem? hrl
      have mm := led4_mem (hn := hn) (hh := hh) (hc := hc) (C := K) hm
      have hr' : ys = refs4 (kept (rl.take i)) := hr
      refine wpAny_mono (turn r I oI C oC D m₂ ys h tk E' hm (hsub _ mm.1) (hsub _ mm.2) (ho r hm).2 hC hx F N off ne) (fun ok s₂ hq => ?_) fun _ _ e => e
      cases ok with
      | true =>
        simp only [if_true] at hq ⊢
        refine wpAny_mono hq (fun y s₃ hq => CompEnd.weak hq ?_) fun _ _ e => e
        rintro ⟨hk, rfl⟩
        show ys ++ [Value.ref r.x] = refs4 (kept (rl.take (i + 1)))
        rw [kept_take hrl, if_pos hk, hr']; unfold refs4; rw [List.map_append]; rfl
      | false =>
        simp only [Bool.false_eq_true, if_false] at hq ⊢
        refine CompEnd.weak hq fun hk => ?_
        show ys = refs4 (kept (rl.take (i + 1)))
        rw [kept_take hrl, if_neg (by rw [hk]; simp)]; exact hr'
  · have e : ys = refs4 (kept (rl.take (refs4 rl).toArray.size)) := hr
    have : (refs4 rl).toArray.size = rl.length := by rw [List.size_toArray]; unfold refs4; rw [List.length_map]
    rw [this, List.take_length] at e
    subst e; exact fin
/-- [part[5:] for part in .. if part[:5] == 'self.'] -/
theorem comp_part {ts : List PySem.Str} {word : PySem.Str} {zs : List Value} (hz : StrsAre zs (ts.map (piece word)))
    (turn : ∀ t tk' I oI C oC D m₂ ys h tk (E' : Value → Shared → Prop), t ∈ ts → LCg.NsObj oC m₂ → m₂ x = some (.str (piece word t) tk') → Fr h₀ L h m → News h₀ L h ((I, oI) :: (C, oC) :: (D, LCg.lst ys) :: news) → LCg.Off3 I C D news → ((@Ne Nat I C) ∧ (@Ne Nat I D) ∧ (@Ne Nat C D)) →
      wpAny (model prog w) A (isTrue ct (compEnvC scope cl C env) (eval ct (compEnvC scope cl C env))) (fun ok s' => if ok = true then
        wpAny (model prog w) A (eval elt (compEnvC scope cl C env)) (LCg.CompEnd h₀ L m { s with heap := h, toks := tk } I oI C oC D (LCg.lst ys) S (ElK news fun y => ∃ u, y = .str t u)) E' s'
        else LCg.CompEnd h₀ L m { s with heap := h, toks := tk } I oI C oC D (LCg.lst ys) S (ElK news fun _ => False) Value.none s') E' { s with heap := h, toks := tk })
    (fin : ∀ ys, StrsAre ys ts → Fin ys news) : LCt.CompRestT prog w A h₀ L m env ct elt x scope cl s S (fun i v => zs.toArray[i]? = some v) Fin zs.toArray.size 0 [] news := by
  refine compT_keep (fun i ys => StrsAre ys (ts.take i)) .nil (fun i v I oI C oC D m₂ ys h tk E' hi hv hr hC hx F N off ne => ?_) (fun ys hr => ?_)
  · have hv' : zs[i]? = some v := by simpa using hv
    obtain ⟨y, t', hy, rfl⟩ := strs_get hz hv'
    rw [List.getElem?_map] at hy
    cases hti : ts[i]? with
    | none => rw [hti] at hy; cases hy
    | some ti =>
      rw [hti] at hy
      have hy' : piece word ti = y := by simpa using hy
      subst hy'
      refine wpAny_mono (turn ti t' I oI C oC D m₂ ys h tk E' (List.mem_of_getElem? hti) hC hx F N off ne) (fun ok s₂ hq => ?_) fun _ _ e => e
      cases ok with
      | true =>
        simp only [if_true] at hq ⊢
        refine wpAny_mono hq (fun y s₃ hq => CompEnd.weak hq ?_) fun _ _ e => e
        rintro ⟨u, rfl⟩
        show StrsAre (ys ++ [Value.str ti u]) (ts.take (i + 1))
        rw [List.take_add_one, hti]; exact strs_snoc hr
      | false =>
        simp only [Bool.false_eq_true, if_false] at hq ⊢
        exact CompEnd.weak hq fun hk => hk.elim
  · refine fin ys ?_
    have hr' : StrsAre ys (ts.take zs.toArray.size) := hr
    rwa [List.size_toArray, strs_len hz, List.length_map, List.take_length] at hr'
/-- [word for word in due[-5:] if word != ''] -/
theorem comp_due4 {rl : List Fd4} {zs : List Value} (ho : Oks el rl) (hz : StrsAre zs (rl.map dueTxt))
    (turn : ∀ r tk' I oI C oC D m₂ ys h tk (E' : Value → Shared → Prop), r ∈ rl → r.word ≠ PySem.Str.ofString "" → LCg.NsObj oC m₂ → m₂ x = some (.str (dueTxt r) tk') → Fr h₀ L h m → News h₀ L h ((I, oI) :: (C, oC) :: (D, LCg.lst ys) :: news) → LCg.Off3 I C D news → ((@Ne Nat I C) ∧ (@Ne Nat I D) ∧ (@Ne Nat C D)) →
      wpAny (model prog w) A (isTrue ct (compEnvC scope cl C env) (eval ct (compEnvC scope cl C env))) (fun ok s' => if ok = true then
        wpAny (model prog w) A (eval elt (compEnvC scope cl C env)) (LCg.CompEnd h₀ L m { s with heap := h, toks := tk } I oI C oC D (LCg.lst ys) S (ElK news fun y => r.kp = true ∧ ∃ u, y = .str (dueTxt r) u)) E' s'
        else LCg.CompEnd h₀ L m { s with heap := h, toks := tk } I oI C oC D (LCg.lst ys) S (ElK news fun _ => r.kp = false) Value.none s') E' { s with heap := h, toks := tk })
    (fin : ∀ ys, StrsAre ys (words4 (kept rl)) → Fin ys news) : LCt.CompRestT prog w A h₀ L m env ct elt x scope cl s S (fun i v => zs.toArray[i]? = some v) Fin zs.toArray.size 0 [] news := by
  refine compT_keep (fun i ys => StrsAre ys (words4 (kept (rl.take i)))) .nil (fun i v I oI C oC D m₂ ys h tk E' hi hv hr hC hx F N off ne => ?_) (fun ys hr => ?_)
  · have hv' : zs[i]? = some v := by simpa using hv
    obtain ⟨y, t', hy, rfl⟩ := strs_get hz hv'
    rw [List.getElem?_map] at hy
    cases hrl : rl[i]? with
    | none => rw [hrl] at hy; cases hy
    | some r =>
      rw [hrl] at hy
      have hy' : dueTxt r = y := by simpa using hy
      subst hy'
      have hm := List.mem_of_getElem? hrl
      refine wpAny_mono (turn r t' I oI C oC D m₂ ys h tk E' hm (ho r hm).1.2.2 hC hx F N off ne) (fun ok s₂ hq => ?_) fun _ _ e => e
      cases ok with
      | true =>
        simp only [if_true] at hq ⊢
        refine wpAny_mono hq (fun y s₃ hq => CompEnd.weak hq ?_) fun _ _ e => e
        rintro ⟨hk, u, rfl⟩
        show StrsAre (ys ++ [Value.str (dueTxt r) u]) (words4 (kept (rl.take (i + 1))))
        have e : dueTxt r = r.word := by unfold dueTxt; rw [if_pos hk]
        rw [kept_take hrl, if_pos hk, e]
        unfold words4; rw [List.map_append]; exact strs_snoc hr
      | false =>
        simp only [Bool.false_eq_true, if_false] at hq ⊢
        refine CompEnd.weak hq fun hk => ?_
        show StrsAre ys (words4 (kept (rl.take (i + 1))))
        rw [kept_take hrl, if_neg (by rw [hk]; simp)]; exact hr
  · refine fin ys ?_
    have hr' : StrsAre ys (words4 (kept (rl.take zs.toArray.size))) := hr
    rwa [List.size_toArray, strs_len hz, List.length_map, List.take_length] at hr'
end
section
variable {prog : Program} {w : World} {A : Around} {E : Value → Shared → Prop} {s : Shared} {h₀ : Heap} {L D : Addr} {m : Str → Option Value} {news all : List (Addr × Obj)}
theorem ne_due {r : Fd4} {t u : Tok} {Q : Value → Shared → Prop} (hw : r.word ≠ PySem.Str.ofString "") (h : Q (.bool r.kp) s) : wpAny (model prog w) A (compareOp .NotEq (.str (dueTxt r) t) (.str (PySem.Str.ofString "") u)) Q E s := by
  refine ne_str ?_
  cases hk : r.kp with
  | true =>
    have e : dueTxt r = r.word := by unfold dueTxt; rw [if_pos hk]
    have e2 : (r.word != PySem.Str.ofString "") = true := by simpa using hw
    rw [e]; rw [hk] at h
    have := h
    simpa [e2] using h
  | false =>
    have e : dueTxt r = PySem.Str.ofString "" := by unfold dueTxt; rw [if_neg (by rw [hk]; simp)]
    rw [e]; rw [hk] at h; simpa using h
theorem strs_at {zs : List Value} {l : List PySem.Str} (h : StrsAre zs l) (j : Nat) (h1 : j < zs.length) (h2 : j < l.length) : ∃ t, zs[j] = .str l[j] t := by
  obtain ⟨x, t, hx, hv⟩ := strs_get h (List.getElem?_eq_getElem h1)
  rw [List.getElem?_eq_getElem h2] at hx
  exact ⟨t, by rw [hv, ← Option.some.inj hx]⟩
/-- two lists of the same texts -/
theorem ne_strs {a b : Addr} {zs ys : List Value} {l : List PySem.Str} {j k : Nat} {Q : Value → Shared → Prop} (N : News h₀ L s.heap all) (ha : (a, listOf zs.toArray j) ∈ all) (hb : (b, listOf ys.toArray k) ∈ all) (hz : StrsAre zs l) (hy : StrsAre ys l) (hu : A.units < cLine)
    (h : Q (.bool false) s) : wpAny (model prog w) A (compareOp .NotEq (.ref a) (.ref b)) Q E s := by
  have h1 := News.isList N ha
  have h2 := News.isList N hb
  have e1 := strs_len hz
  have e2 := strs_len hy
  refine SeqAt.RcNeAt.lists (e := fun _ => true) h1 h2 (by simp [e1, e2]) hu (fun i i1 i2 => ?_) prog w E Q ?_
  · obtain ⟨t, ht⟩ := strs_at hz i (by simpa using i1) (by simp at i1; omega)
    obtain ⟨u, hu'⟩ := strs_at hy i (by simpa using i2) (by simp at i1; omega)
    have q1 : zs.toArray[i] = zs[i]'(by simpa using i1) := by simp
    have q2 : ys.toArray[i] = ys[i]'(by simpa using i2) := by simp
    rw [q1, q2, ht, hu']
    have := SeqAt.EqAt.str_str (A := A.in1) (s := s) (l[i]'(by simp at i1; omega)) t (l[i]'(by simp at i1; omega)) u
    simpa using this
  · have e : ((List.range zs.toArray.size).all fun _ => true) = true := by simp
    rw [e]; exact h
end
end

section
def names4 (rl : List Fd4) : List Value := rl.map fun r => .str r.word r.tv
theorem names4_txt {rl : List Fd4} : (names4 rl).map nmTxt = words4 rl := by
  unfold names4 words4; rw [List.map_map]; rfl
theorem names4_ok {el : Addr} {rl : List Fd4} (h : Oks el rl) : NmsOk (names4 rl) := fun v hv => by
  obtain ⟨r, hr, rfl⟩ := List.mem_map.mp hv
  exact nm_str _ (h r hr).1.2.1
/-- the pieces' comprehension -/
theorem comp_ts4 {prog : Program} {w : World} {A : Around} {h₀ : Heap} {L : Addr} {m : Str → Option Value} {env : Env} {elt : Expr} {x : Str} {scope : Scope} {cl : List (Str × Addr)} {s : Shared}
    {S : List (Addr × Obj) → Prop} {Fin : List Value → List (Addr × Obj) → Prop} {news news₀ : List (Addr × Obj)} {ys : List Value} {rl : List Fd4} {hn hh hc : Int} {K el : Addr} {word : PySem.Str} (hys : ys = refs4 rl) (ho : Oks el rl) (hsub : ∀ p ∈ led4 hn hh hc K rl, p ∈ news₀) (hw₀ : word.length ≤ 16)
    (turn : ∀ (r : Fd4) I oI C oC D m₂ zs h tk (E' : Value → Shared → Prop), (r.x, instObj K r.d) ∈ news₀ →
      (r.d, dictOf [⟨hn, .str (PySem.Str.ofString "name") r.t1, .str r.word r.tv⟩, ⟨hh, .str (PySem.Str.ofString "hash") r.t2, r.vh⟩, ⟨hc, .str (PySem.Str.ofString "compare") r.t3, r.vc⟩] 3) ∈ news₀ → r.word.length ≤ 100 →
      LCg.NsObj oC m₂ → m₂ x = some (.ref r.x) → Fr h₀ L h m → News h₀ L h ((I, oI) :: (C, oC) :: (D, LCg.lst zs) :: news) → LCg.Off3 I C D news → ((@Ne Nat I C) ∧ (@Ne Nat I D) ∧ (@Ne Nat C D)) →
      wpAny (model prog w) A (eval elt (compEnvC scope cl C env)) (LCg.CompEnd h₀ L m { s with heap := h, toks := tk } I oI C oC D (LCg.lst zs) S (ElK news fun y => ∃ t, y = .str (piece word r.word) t)) E' { s with heap := h, toks := tk })
    (fin : ∀ zs, StrsAre zs ((names4 rl).map fun v => piece word (nmTxt v)) → Fin zs news) : LCg.CompRest prog w A h₀ L m env elt x scope cl s S (fun i v => ys.toArray[i]? = some v) Fin ys.toArray.size 0 [] news := by
  subst hys
  refine comp_keep (fun i zs => StrsAre zs ((names4 (rl.take i)).map fun v => piece word (nmTxt v))) .nil ?_ ?_
  · intro i v I oI C oC D m₂ zs h tk E' _ hv hr hC hx F N off ne
    have hv' : (refs4 rl)[i]? = some v := by simpa using hv
    unfold refs4 at hv'
    rw [List.getElem?_map] at hv'
    cases hrl : rl[i]? with
    | none => rw [hrl] at hv'; cases hv'
    | some r =>
      rw [hrl] at hv'
      have hv2 : Value.ref r.x = v := by simpa using hv'
      subst hv2
      have hm := List.mem_of_getElem? hrl
      have mm := led4_mem (hn := hn) (hh := hh) (hc := hc) (C := K) hm
      refine wpAny_mono (turn r I oI C oC D m₂ zs h tk E' (hsub _ mm.1) (hsub _ mm.2) (ho r hm).1.2.1 hC hx F N off ne) (fun y s₂ hq => CompEnd.weak hq ?_) fun _ _ e => e
      rintro ⟨t', rfl⟩
      show StrsAre (zs ++ [Value.str (piece word r.word) t']) _
      unfold names4 at hr ⊢
      rw [List.take_add_one, hrl, List.map_append, List.map_append]
      exact strs_snoc hr
  · intro zs hz
    refine fin zs ?_
    have : (refs4 rl).toArray.size = rl.length := by rw [List.size_toArray]; unfold refs4; rw [List.length_map]
    rwa [this, List.take_length] at hz
/-- the line that the builder is told -/
def hline (ts : List PySem.Str) : PySem.Str := PySem.Str.ofString "  return hash(" ++ tstr (PySem.Str.ofString "self") ts ++ PySem.Str.ofString ")"
def hbase (ts : List PySem.Str) : PySem.Str := PySem.Str.ofString "((" ++ cat (PySem.Str.ofString "self") ts ++ PySem.Str.ofString "))"
theorem hline_is (ts : List PySem.Str) : hline ts = PySem.Str.ofString "  return hash" ++ hbase ts := by
  unfold hline hbase
  rw [tstr_cat]
  have e1 : PySem.Str.ofString "  return hash(" = PySem.Str.ofString "  return hash" ++ PySem.Str.ofString "(" := by decide +kernel
  have e2 : PySem.Str.ofString "((" = PySem.Str.ofString "(" ++ PySem.Str.ofString "(" := by decide +kernel
  have e3 : PySem.Str.ofString "))" = PySem.Str.ofString ")" ++ PySem.Str.ofString ")" := by decide +kernel
  rw [e1, e2, e3]
  simp only [app_assoc]
theorem hline_head {ts : List PySem.Str} : PySem.Txt.slice (hline ts) none (some 13) = PySem.Str.ofString "  return hash" := by
  rw [hline_is]; exact slice_to (by decide)
theorem hline_rest {ts : List PySem.Str} : PySem.Txt.slice (hline ts) (some 13) none = hbase ts := by
  rw [hline_is]; exact slice_from (by decide)
theorem hbase_head {ts : List PySem.Str} : PySem.Txt.slice (hbase ts) none (some 2) = PySem.Str.ofString "((" := by
  unfold hbase; rw [app_assoc]; exact slice_to (by decide)
theorem hbase_last {ts : List PySem.Str} : PySem.Txt.slice (hbase ts) (some (-2)) none = PySem.Str.ofString "))" := by
  unfold hbase; exact slice_fromNeg (by decide) (by decide)
theorem hbase_inner {ts : List PySem.Str} : PySem.Txt.slice (hbase ts) (some 2) (some (-2)) = cat (PySem.Str.ofString "self") ts := by
  unfold hbase; exact slice_inner (by decide) (by decide) (by decide)
theorem piece_head {t : PySem.Str} : PySem.Txt.slice (piece (PySem.Str.ofString "self") t) none (some 5) = PySem.Str.ofString "self." := by
  have e : PySem.Str.ofString "self" ++ PySem.Str.ofString "." = PySem.Str.ofString "self." := by decide +kernel
  unfold piece; rw [e]; exact slice_to (by decide)
theorem piece_rest {t : PySem.Str} : PySem.Txt.slice (piece (PySem.Str.ofString "self") t) (some 5) none = t := by
  have e : PySem.Str.ofString "self" ++ PySem.Str.ofString "." = PySem.Str.ofString "self." := by decide +kernel
  unfold piece; rw [e]; exact slice_from (by decide)
theorem cat4_len {ts : List PySem.Str} (h : ∀ t ∈ ts, Tidy t ∧ t.length ≤ 100) (hl : ts.length ≤ 63) : (cat (PySem.Str.ofString "self") ts).length ≤ 7500 := by
  have : ∀ {ts : List PySem.Str}, (∀ t ∈ ts, Tidy t ∧ t.length ≤ 100) → (cat (PySem.Str.ofString "self") ts).length ≤ 118 * ts.length := by
    intro ts
    induction ts with
    | nil => intro _; simp [cat, empty_len]
    | cons v r ih =>
      intro h
      show (pieceC (PySem.Str.ofString "self") v ++ cat (PySem.Str.ofString "self") r).length ≤ _
      rw [PySem.Str.length_append]
      have h1 := pieceC_len (word := PySem.Str.ofString "self") (by decide) (h v (.head _)).2
      have h2 := ih fun x hx => h x (.tail _ hx)
      simp only [List.length_cons, Nat.mul_add, Nat.mul_one]
      omega
  have := this h
  omega
theorem hline_len {ts : List PySem.Str} (h : ∀ t ∈ ts, Tidy t ∧ t.length ≤ 100) (hl : ts.length ≤ 63) : (hline ts).length ≤ 8000 := by
  have := cat4_len h hl
  rw [hline_is]; unfold hbase
  simp only [PySem.Str.length_append]
  have h1 : (PySem.Str.ofString "  return hash").length = 13 := by decide
  have h2 : (PySem.Str.ofString "((").length = 2 := by decide
  have h3 : (PySem.Str.ofString "))").length = 2 := by decide
  omega
theorem hbase_len {ts : List PySem.Str} (h : ∀ t ∈ ts, Tidy t ∧ t.length ≤ 100) (hl : ts.length ≤ 63) : (hbase ts).length ≤ 8000 := by
  have := cat4_len h hl
  unfold hbase
  simp only [PySem.Str.length_append]
  have h2 : (PySem.Str.ofString "((").length = 2 := by decide
  have h3 : (PySem.Str.ofString "))").length = 2 := by decide
  omega
theorem tidy_self : Tidy (PySem.Str.ofString "self") := by unfold Tidy; decide +kernel
section
variable {prog : Program} {w : World} {A : Around} {E : Value → Shared → Prop} {s : Shared} {h₀ : Heap} {L D : Addr} {m : Str → Option Value} {news all : List (Addr × Obj)} {ts : List PySem.Str} {Q : Value → Shared → Prop}
theorem split_h {x : PySem.Str} {t u : Tok} (e : x = cat (PySem.Str.ofString "self") ts) (F : Fr h₀ L s.heap m) (N : News h₀ L s.heap news) (ht : ∀ t ∈ ts, Tidy t ∧ t.length ≤ 100) (hl : ts.length ≤ 63)
    (h : ∀ D zs t' h' k, StrsAre zs (ts.map (piece (PySem.Str.ofString "self"))) → Fr h₀ L h' m → News h₀ L h' ((D, listOf (zs ++ [Value.str (PySem.Str.ofString "") t']).toArray 0) :: news) → (∀ p ∈ news, p.1 < D) → Q (.ref D) { s with heap := h', toks := k }) :
    wpAny (model prog w) A (call (.builtin "str.split") [.str x t, .str (PySem.Str.ofString ",") u]) Q E s := by
  have hx := cat4_len ht hl
  subst e
  refine KSpl.split1 F N (by decide) (fun D l h' k e a F' N' l1 => ?_) (by rw [PySem.sizeLine_eq]; omega)
  rw [split_cat fun t h => piece_free tidy_self (ht t h).1] at e
  rw [e] at a
  obtain ⟨zs', t', e', h''⟩ := strs_split a
  rw [e', empty_is] at N'
  exact h D zs' t' h' k h'' F' N' l1
theorem item_last4 {value slice : PySem.Expr} {l : List Value} {x : Value} {ep : Nat} {u : Tok}
    (N : News h₀ L s.heap all) (hm : (D, listOf (l ++ [x]).toArray ep) ∈ all) (hz : l.length ≤ 1000) (h : Q x s)
    (hss : subscripted slice false (.ref D) (.int (-1) u) = operate [.ref D, .int (-1) u] (getItem (.ref D) (.int (-1) u))) : wpAny (model prog w) A (subscriptTail value slice (.ref D) (.int (-1) u)) Q E s := by
  have hl := News.isList N hm
  refine tail_any hl.typeIs slot_list_getitem.lookup (wpAny_getItem_list_neg hl (by decide) ?_ (by decide) ?_ h) hss
  · simp; omega
  · have e : (-1 + (((l ++ [x]).toArray.size : Nat) : Int)).toNat = l.length := by simp; omega
    rw [e]; simp
end
theorem pick_init4 {l : List Value} {x : Value} : kms_pick (l ++ [x]) none (some (-1)) = l := by
  unfold kms_pick kms_lo kms_hi
  simp
theorem h_head {ts : List PySem.Str} {k : Int} (hk : k = 13) : PySem.Txt.slice (hline ts) none (some k) = PySem.Str.ofString "  return hash" := by subst hk; exact hline_head
theorem r_head {ts : List PySem.Str} {k : Int} (hk : k = 13) : PySem.Txt.slice (PySem.Txt.slice (hline ts) (some k) none) none (some 2) = PySem.Str.ofString "((" := by subst hk; rw [hline_rest]; exact hbase_head
theorem r_last {ts : List PySem.Str} {k : Int} (hk : k = 13) : PySem.Txt.slice (PySem.Txt.slice (hline ts) (some k) none) (some (-2)) none = PySem.Str.ofString "))" := by subst hk; rw [hline_rest]; exact hbase_last
theorem r_inner {ts : List PySem.Str} {k : Int} (hk : k = 13) : PySem.Txt.slice (PySem.Txt.slice (hline ts) (some k) none) (some 2) (some (-2)) = cat (PySem.Str.ofString "self") ts := by subst hk; rw [hline_rest]; exact hbase_inner
theorem piece4_len {t : PySem.Str} {ts : List PySem.Str} (h : ∀ t ∈ ts, Tidy t ∧ t.length ≤ 100) (hm : t ∈ ts) : (piece (PySem.Str.ofString "self") t).length ≤ 200 := Nat.le_trans (piece_len (by decide) (h t hm).2) (by decide)
end

section
section
variable {prog : Program} {w : World} {A : Around} {E : Value → Shared → Prop} {s : Shared} {env : Env} {h₀ : Heap} {x : Str} {body : List Stmt} {Q : Flow → Shared → Prop}
/-- a loop over range(n) -/
theorem iter_rangeS {σ : Type} {r : Addr} {b₀ : Int} {t₀ u₀ v₀ : Tok} {n : Nat} {m₀ : Str → Option Value} (Led : σ → List (Addr × Obj)) (ps : σ → List (Str × Value)) (stored : List Str) (P : Nat → σ → Prop) (c₀ : σ)
    (hh : A.handled = none) (hr : IsRange s.heap r 0 b₀ 1 t₀ u₀ v₀) (hsmall : Builtin.Range.small 0 b₀ 1 = true) (hn : Builtin.Range.rangeSize 0 b₀ 1 = (n : Int)) (F : Fr h₀ env.locals s.heap m₀) (N : News h₀ env.locals s.heap (Led c₀))
    (hk : ∀ p ∈ ps c₀, m₀ p.1 = some p.2) (hp : P 0 c₀)
    (turn : ∀ (c : σ) (i : Nat) t (u : Str → Option Value) h tk I oI, i < n → P i c → (∀ p ∈ Led c, p.1 ≠ I) → Fr h₀ env.locals h (fun y => if y = x then some (.int (i : Int) t) else kstB (fun z => if stored.contains z then u z else m₀ z) (ps c) y) → News h₀ env.locals h ((I, oI) :: Led c) →
      wpAny (model prog w) A (execs body env) (TurnPost h₀ env.locals I oI (LoopSt x Led ps stored m₀ (P (i + 1))) { s with heap := h, toks := tk } Q) E { s with heap := h, toks := tk })
    (done : ∀ (c : σ) (u : Str → Option Value) h tk, P n c → Fr h₀ env.locals h (fun y => if y = x then u y else kstB (fun z => if stored.contains z then u z else m₀ z) (ps c) y) → News h₀ env.locals h (Led c) → Q .next { s with heap := h, toks := tk }) :
    wpAny (model prog w) A (pyIter (.ref r)) (fun it s₂ => LoopAtV prog w A h₀ env x body Q E it s₂) E s := by
  refine wpAny_pyIter_range hr hsmall ?_
  have W : Walks prog w A s.heap.objs.size [s.heap.objs.size] [s.heap.objs.size] n (fun i v => i < n ∧ ∃ t, v = .int ((0 : Int) + i * 1) t)
      (fun i h => IsRangeIter h s.heap.objs.size ((0 : Int) + (i : Nat) * 1) ((n : Int) - (i : Nat)) 1) := (Walks.range hh _ 0 1 n).bound
  refine loop_any (Src := []) (m₀ := m₀) (news := Led c₀) (fun i m nx => LoopSt x Led ps stored m₀ (P i) m nx) W ?_ (next_is_new F) (fun p hp => Nat.ne_of_lt (Heap.lt_size (N p hp).1)) ?_ ?_ (by show IsRangeIter _ _ _ _ _; rw [hn]; simpa using Heap.get?_push_size _ rfl) (F.push _) (fun p hp => ⟨Heap.get?_push_of_some _ (N p hp).1, (N p hp).2⟩) ⟨c₀, rfl, hk, fun _ _ _ _ => rfl, hp⟩ (fun _ _ _ _ _ h => nomatch h) ?_ ?_
  · intro hmm
    exact absurd F.ns.lt ((List.mem_singleton.mp hmm) ▸ Nat.lt_irrefl _)
  · intro i h st
    exact ⟨_, st, .inr (.inr rfl)⟩
  · intro b hb
    exact .inl (List.mem_singleton.mp hb)
  · rintro i v m₁ nx h tk I oI hi ⟨_, t, rfl⟩ ⟨c, rfl, h1, h2, hp'⟩ off F₁ N₁
    have e1 : (0 : Int) + (i : Int) * 1 = (i : Int) := by omega
    rw [e1] at F₁
    exact turn c i t m₁ h tk I oI hi hp' off (kst_fr h1 h2 F₁) N₁
  · rintro m₁ nx h tk ⟨c, rfl, h1, h2, hp'⟩ F₁ N₁
    exact done c m₁ h tk hp' (kst_frOut h1 h2 F₁) N₁

/-- a statement whose ends are joined -/
def JoinEnd (h₀ : Heap) (L : Addr) (J : (Str → Option Value) → List (Addr × Obj) → Prop) (s₁ s₂ : Shared) : Prop :=
  ∃ h' tk m' all, s₂ = { s₁ with heap := h', toks := tk } ∧ Fr h₀ L h' m' ∧ News h₀ L h' all ∧ J m' all
def JoinPost (h₀ : Heap) (L : Addr) (J : (Str → Option Value) → List (Addr × Obj) → Prop) (s₁ : Shared) (Q : Flow → Shared → Prop) (f : Flow) (s₂ : Shared) : Prop :=
  match f with
  | .next => JoinEnd h₀ L J s₁ s₂
  | f => Q f s₂
theorem join_st {J : (Str → Option Value) → List (Addr × Obj) → Prop} {L : Addr} {st : Stmt} (hw : wpAny (model prog w) A (exec st env) (JoinPost h₀ L J s Q) E s)
    (hc : ∀ m' all h tk, J m' all → Fr h₀ L h m' → News h₀ L h all → Q .next { s with heap := h, toks := tk }) : wpAny (model prog w) A (exec st env) Q E s := by
  refine wpAny_mono hw (fun f s₂ hq => ?_) fun _ _ e => e
  cases f with
  | next =>
    obtain ⟨h', tk, m', all, rfl, F, N, hj⟩ := hq
    exact hc m' all h' tk hj F N
  | _ => exact hq
end

/-- the state of law 4's loop -/
structure St4 where
  rs : List Fd4
  re : Nat
  du : List Value
  de : Nat
  nt : List Value
  ne : Nat
structure Inv4 (el : Addr) (i k : Nat) (c : St4) : Prop where
  ln : c.rs.length = i
  nl : c.nt.length = k
  ok : Oks el c.rs
  du : StrsAre c.du (c.rs.map dueTxt)
theorem Inv4.dl {el : Addr} {i k : Nat} {c : St4} (h : Inv4 el i k c) : c.du.length = i := by
  have := strs_len h.du
  rw [List.length_map, h.ln] at this; exact this
theorem Inv4.rl {el : Addr} {i k : Nat} {c : St4} (h : Inv4 el i k c) : (refs4 c.rs).length = i := by
  unfold refs4; rw [List.length_map]; exact h.ln
abbrev nmK : PySem.Str := PySem.Str.ofString "name"
/-- what lies in the ledger at a turn's start -/
def Led4 (hn hh hc : Int) (dA rA nA : Addr) (f1 f2 : List (Addr × Obj)) (c : St4) : List (Addr × Obj) :=
  (dA, listOf c.du.toArray c.de) :: (rA, listOf (refs4 c.rs).toArray c.re) :: (f1 ++ (nA, listOf c.nt.toArray c.ne) :: (f2 ++ led4 hn hh hc 52 c.rs))
theorem led4_sub {hn hh hc : Int} {dA rA nA : Addr} {f1 f2 : List (Addr × Obj)} {c : St4} : ∀ p ∈ led4 hn hh hc 52 c.rs, p ∈ Led4 hn hh hc dA rA nA f1 f2 c := fun p hp =>
  .tail _ (.tail _ (List.mem_append_right _ (.tail _ (List.mem_append_right _ hp))))
def stored4 : List Str := [PySem.Str.ofString "x", PySem.Str.ofString "word", PySem.Str.ofString "one", PySem.Str.ofString "lot", PySem.Str.ofString "given", PySem.Str.ofString "name", PySem.Str.ofString "args", PySem.Str.ofString "body", PySem.Str.ofString "mark"]
/-- what is apart in a turn -/
structure Apart4 (hn hh hc : Int) (I dA rA nA : Addr) (rs : List Fd4) : Prop where
  i : ∀ p ∈ led4 hn hh hc 52 rs, p.1 ≠ I
  d : ∀ p ∈ led4 hn hh hc 52 rs, p.1 ≠ dA
  r : ∀ p ∈ led4 hn hh hc 52 rs, p.1 ≠ rA
  n : ∀ p ∈ led4 hn hh hc 52 rs, p.1 ≠ nA
  id : @Ne Nat I dA
  ir : @Ne Nat I rA
  im : @Ne Nat I nA
theorem loop4 {prog : Program} {w : World} {A : Around} {E : Value → Shared → Prop} {s : Shared} {env : Env} {h₀ : Heap} {body : List Stmt} {Q : Flow → Shared → Prop} {r : Addr} {b₀ : Int} {t₀ u₀ v₀ : Tok} {n : Nat} {m₀ : Str → Option Value} {dA rA nA el : Addr} {f1 f2 : List (Addr × Obj)}
    (ha : A.handled = none) (hr : IsRange s.heap r 0 b₀ 1 t₀ u₀ v₀) (hsmall : Builtin.Range.small 0 b₀ 1 = true) (hsz : Builtin.Range.rangeSize 0 b₀ 1 = (n : Int)) (F : Fr h₀ env.locals s.heap m₀)
    (hel : (el, listOf (List.toArray []) 0) ∈ f2)
    (N : News h₀ env.locals s.heap ((dA, listOf (List.toArray []) 0) :: (rA, listOf (List.toArray []) 0) :: (f1 ++ (nA, listOf (List.toArray []) 0) :: f2)))
    (turn : ∀ (c : St4) (i : Nat) t (u : Str → Option Value) h tk I oI, i < n → Inv4 el (i - 1) i c → c.rs.length = i - 1 → c.nt.length = i → c.du.length = i - 1 → (refs4 c.rs).length = i - 1 → Apart4 (PyData.keyHash w.params (PySem.Str.ofString "name")) (PyData.keyHash w.params (PySem.Str.ofString "hash")) (PyData.keyHash w.params (PySem.Str.ofString "compare")) I dA rA nA c.rs → (∀ p ∈ f1 ++ f2, p.1 ≠ I) →
      Fr h₀ env.locals h (fun y => if y = PySem.Str.ofString "k" then some (.int (i : Int) t) else kstB (fun z => if [PySem.Str.ofString "x", PySem.Str.ofString "word", PySem.Str.ofString "one", PySem.Str.ofString "lot", PySem.Str.ofString "given", PySem.Str.ofString "name", PySem.Str.ofString "args", PySem.Str.ofString "body", PySem.Str.ofString "mark"].contains z then u z else m₀ z) [] y) →
      News h₀ env.locals h ((I, oI) :: (dA, listOf c.du.toArray c.de) :: (rA, listOf (refs4 c.rs).toArray c.re) :: (f1 ++ (nA, listOf c.nt.toArray c.ne) :: (f2 ++ led4 (PyData.keyHash w.params (PySem.Str.ofString "name")) (PyData.keyHash w.params (PySem.Str.ofString "hash")) (PyData.keyHash w.params (PySem.Str.ofString "compare")) 52 c.rs))) →
      wpAny (model prog w) A (execs body env) (TurnPost h₀ env.locals I oI (LoopSt (PySem.Str.ofString "k") (Led4 (PyData.keyHash w.params (PySem.Str.ofString "name")) (PyData.keyHash w.params (PySem.Str.ofString "hash")) (PyData.keyHash w.params (PySem.Str.ofString "compare")) dA rA nA f1 f2) (fun _ => []) stored4 m₀ (Inv4 el i (i + 1))) { s with heap := h, toks := tk } Q) E { s with heap := h, toks := tk })
    (done : ∀ (u : Str → Option Value) (m : Str → Option Value) h tk, Fr h₀ env.locals h m → News h₀ env.locals h f2 → Q .next { s with heap := h, toks := tk }) :
    wpAny (model prog w) A (pyIter (.ref r)) (fun it s₂ => LoopAtV prog w A h₀ env (PySem.Str.ofString "k") body Q E it s₂) E s := by
  refine iter_rangeS (Led4 (PyData.keyHash w.params (PySem.Str.ofString "name")) (PyData.keyHash w.params (PySem.Str.ofString "hash")) (PyData.keyHash w.params (PySem.Str.ofString "compare")) dA rA nA f1 f2) (fun _ => []) stored4 (fun i => Inv4 el (i - 1) i) ⟨[], 0, [], 0, [], 0⟩ ha hr hsmall hsz F ?_ (fun _ h => nomatch h) ⟨rfl, rfl, (fun _ h => nomatch h), .nil⟩ ?_ ?_
  · intro p hp
    refine N p ?_
    rcases List.mem_cons.mp hp with rfl | hp
    · exact .head _
    rcases List.mem_cons.mp hp with rfl | hp
    · exact .tail _ (.head _)
    refine .tail _ (.tail _ ?_)
    rcases List.mem_append.mp hp with hp | hp
    · exact List.mem_append_left _ hp
    rcases List.mem_cons.mp hp with rfl | hp
    · exact List.mem_append_right _ (.head _)
    rcases List.mem_append.mp hp with hp | hp
    · exact List.mem_append_right _ (.tail _ hp)
    · nomatch hp
  · rintro c i t u h tk I oI hi hinv off F₁ N₁
    have sub : ∀ p ∈ led4 (PyData.keyHash w.params (PySem.Str.ofString "name")) (PyData.keyHash w.params (PySem.Str.ofString "hash")) (PyData.keyHash w.params (PySem.Str.ofString "compare")) 52 c.rs, p ∈ (I, oI) :: Led4 (PyData.keyHash w.params (PySem.Str.ofString "name")) (PyData.keyHash w.params (PySem.Str.ofString "hash")) (PyData.keyHash w.params (PySem.Str.ofString "compare")) dA rA nA f1 f2 c := fun p hp => .tail _ (led4_sub p hp)
    refine turn c i t u h tk I oI hi hinv hinv.ln hinv.nl hinv.dl hinv.rl ⟨fun p hp => off p (led4_sub p hp), led4_off N₁ (.tail _ (.head _)) sub, led4_off N₁ (.tail _ (.tail _ (.head _))) sub, led4_off N₁ (.tail _ (.tail _ (.tail _ (List.mem_append_right _ (.head _))))) sub,
      fun e => off _ (.head _) e.symm, fun e => off _ (.tail _ (.head _)) e.symm, fun e => off _ (.tail _ (.tail _ (List.mem_append_right _ (.head _)))) e.symm⟩ (fun p hp => off p ((List.mem_append.mp hp).elim (fun h => .tail _ (.tail _ (List.mem_append_left _ h))) (fun h => .tail _ (.tail _ (List.mem_append_right _ (.tail _ (List.mem_append_left _ h))))))) F₁ N₁
  · rintro c u h tk _ F₁ N₁
    exact done u _ h tk F₁ fun p hp => N₁ p (.tail _ (.tail _ (List.mem_append_right _ (.tail _ (List.mem_append_left _ hp)))))
/-- the end of a turn -/
theorem end4 {hn hh hc : Int} {dA rA nA el I L : Addr} {f1 f2 all : List (Addr × Obj)} {oI : Obj} {i re de ne : Nat} {rs : List Fd4} {du nt : List Value} {m₀ m' : Str → Option Value} {h₀ h' : Heap} {s₁ : Shared} {tk : Nat}
    (F : Fr h₀ L h' m') (N : News h₀ L h' all) (hI : (I, oI) ∈ all) (no : ∀ p ∈ f1 ++ f2, p.1 ≠ I) (m1 : (dA, listOf du.toArray de) ∈ all) (m2 : (rA, listOf (refs4 rs).toArray re) ∈ all) (m3 : (nA, listOf nt.toArray ne) ∈ all) (m4 : ∀ p ∈ f1, p ∈ all) (m5 : ∀ p ∈ f2, p ∈ all) (m6 : ∀ p ∈ led4 hn hh hc 52 rs, p ∈ all)
    (hr : ∀ z, z ≠ PySem.Str.ofString "k" → z ≠ PySem.Str.ofString "x" → z ≠ PySem.Str.ofString "word" → z ≠ PySem.Str.ofString "one" → z ≠ PySem.Str.ofString "lot" → z ≠ PySem.Str.ofString "given" → z ≠ PySem.Str.ofString "name" → z ≠ PySem.Str.ofString "args" → z ≠ PySem.Str.ofString "body" → z ≠ PySem.Str.ofString "mark" → m' z = m₀ z) (hl : rs.length = i) (hk : nt.length = i + 1) (ho : Oks el rs) (hd : StrsAre du (rs.map dueTxt)) :
    TurnEnd h₀ L I oI (LoopSt (PySem.Str.ofString "k") (Led4 hn hh hc dA rA nA f1 f2) (fun _ => []) stored4 m₀ (Inv4 el i (i + 1))) s₁ { s₁ with heap := h', toks := tk } := by
  refine TurnEnd.intro ⟨rs, re, du, de, nt, ne⟩ F N hI ?_ ?_ (fun _ h => nomatch h) (fun z h1 _ h3 => hr z h1 (fun e => by subst e; simp [stored4] at h3) (fun e => by subst e; simp [stored4] at h3) (fun e => by subst e; simp [stored4] at h3) (fun e => by subst e; simp [stored4] at h3) (fun e => by subst e; simp [stored4] at h3) (fun e => by subst e; simp [stored4] at h3) (fun e => by subst e; simp [stored4] at h3) (fun e => by subst e; simp [stored4] at h3) (fun e => by subst e; simp [stored4] at h3)) ⟨hl, hk, ho, hd⟩
  · intro p hp
    rcases List.mem_cons.mp hp with rfl | hp
    · exact m1
    rcases List.mem_cons.mp hp with rfl | hp
    · exact m2
    rcases List.mem_append.mp hp with hp | hp
    · exact m4 p hp
    rcases List.mem_cons.mp hp with rfl | hp
    · exact m3
    rcases List.mem_append.mp hp with hp | hp
    · exact m5 p hp
    · exact m6 p hp
  · intro p hp
    rcases List.mem_cons.mp hp with rfl | hp
    · exact .inr ⟨by simp, by simp, by simp⟩
    rcases List.mem_cons.mp hp with rfl | hp
    · exact .inr ⟨by simp, by simp, by simp⟩
    rcases List.mem_append.mp hp with hp | hp
    · exact .inl (no p (List.mem_append_left _ hp))
    rcases List.mem_cons.mp hp with rfl | hp
    · exact .inr ⟨by simp, by simp, by simp⟩
    rcases List.mem_append.mp hp with hp | hp
    · exact .inl (no p (List.mem_append_right _ hp))
    · exact .inr (led4_noIt p hp)
/-- the if at a turn's start, joined -/
theorem join4 {prog : Program} {w : World} {A : Around} {E : Value → Shared → Prop} {s : Shared} {env : Env} {h₀ : Heap} {st : Stmt} {Q : Flow → Shared → Prop} {m₀ : Str → Option Value} {L I dA rA nA el : Addr} {oI : Obj} {f1 f2 : List (Addr × Obj)} {i j ne de re : Nat} {nt : List Value} {c₀ : St4} {hn hh hc : Int}
    (F₀ : Fr h₀ L s.heap m₀) (N₀ : News h₀ L s.heap ((I, oI) :: (dA, listOf c₀.du.toArray de) :: (rA, listOf (refs4 c₀.rs).toArray re) :: (f1 ++ (nA, listOf nt.toArray ne) :: (f2 ++ led4 hn hh hc 52 c₀.rs)))) (hi₀ : Inv4 el j i c₀)
    (hw : wpAny (model prog w) A (exec st env) (JoinPost h₀ L (LoopSt (PySem.Str.ofString "x") (fun c : St4 => (I, oI) :: Led4 hn hh hc dA rA nA f1 f2 { c with nt := nt, ne := ne }) (fun _ => []) [PySem.Str.ofString "word", PySem.Str.ofString "one"] m₀ (fun c : St4 => Inv4 el i i { c with nt := nt, ne := ne } ∧ Apart4 hn hh hc I dA rA nA c.rs)) s Q) E s)
    (hc : ∀ (c : St4) (u : Str → Option Value) h tk, Oks el c.rs → StrsAre c.du (c.rs.map dueTxt) → c.rs.length = i → c.du.length = i → (refs4 c.rs).length = i → Apart4 hn hh hc I dA rA nA c.rs →
      Fr h₀ L h (fun y => if y = PySem.Str.ofString "x" then u y else kstB (fun z => if [PySem.Str.ofString "word", PySem.Str.ofString "one"].contains z then u z else m₀ z) [] y) →
      News h₀ L h ((I, oI) :: (dA, listOf c.du.toArray c.de) :: (rA, listOf (refs4 c.rs).toArray c.re) :: (f1 ++ (nA, listOf nt.toArray ne) :: (f2 ++ led4 hn hh hc 52 c.rs))) → Q .next { s with heap := h, toks := tk }) :
    wpAny (model prog w) A (exec st env) Q E s := by
  refine join_st hw fun m' all h tk hj F N => ?_
  obtain ⟨c, rfl, h1, h2, hi, ha⟩ := hj
  exact hc c m' h tk hi.ok hi.du hi.ln hi.dl hi.rl ha (kst_frOut h1 h2 F) N
/-- its end -/
theorem joined4 {hn hh hc : Int} {dA rA nA el I L : Addr} {f1 f2 all : List (Addr × Obj)} {oI : Obj} {i re de ne : Nat} {rs : List Fd4} {du nt : List Value} {m₀ m' : Str → Option Value} {h₀ h' : Heap} {s₁ : Shared} {tk : Nat}
    (F : Fr h₀ L h' m') (N : News h₀ L h' all) (hI : (I, oI) ∈ all) (m1 : (dA, listOf du.toArray de) ∈ all) (m2 : (rA, listOf (refs4 rs).toArray re) ∈ all) (m3 : (nA, listOf nt.toArray ne) ∈ all) (m4 : ∀ p ∈ f1, p ∈ all) (m5 : ∀ p ∈ f2, p ∈ all) (m6 : ∀ p ∈ led4 hn hh hc 52 rs, p ∈ all)
    (hr : ∀ z, z ≠ PySem.Str.ofString "x" → z ≠ PySem.Str.ofString "word" → z ≠ PySem.Str.ofString "one" → m' z = m₀ z) (hl : rs.length = i) (hk : nt.length = i) (ho : Oks el rs) (hd : StrsAre du (rs.map dueTxt)) (ha : Apart4 hn hh hc I dA rA nA rs) :
    JoinEnd h₀ L (LoopSt (PySem.Str.ofString "x") (fun c : St4 => (I, oI) :: Led4 hn hh hc dA rA nA f1 f2 { c with nt := nt, ne := ne }) (fun _ => []) [PySem.Str.ofString "word", PySem.Str.ofString "one"] m₀ (fun c : St4 => Inv4 el i i { c with nt := nt, ne := ne } ∧ Apart4 hn hh hc I dA rA nA c.rs)) s₁ { s₁ with heap := h', toks := tk } := by
  refine ⟨h', tk, m', (I, oI) :: Led4 hn hh hc dA rA nA f1 f2 ⟨rs, re, du, de, nt, ne⟩, rfl, F, fun p hp => N p ?_, ⟨rs, re, du, de, nt, ne⟩, rfl, (fun _ h => nomatch h), (fun z h1 _ h3 => hr z h1 (fun e => by subst e; simp at h3) (fun e => by subst e; simp at h3)), ⟨hl, hk, ho, hd⟩, ha⟩
  rcases List.mem_cons.mp hp with rfl | hp
  · exact hI
  rcases List.mem_cons.mp hp with rfl | hp
  · exact m1
  rcases List.mem_cons.mp hp with rfl | hp
  · exact m2
  rcases List.mem_append.mp hp with hp | hp
  · exact m4 p hp
  rcases List.mem_cons.mp hp with rfl | hp
  · exact m3
  rcases List.mem_append.mp hp with hp | hp
  · exact m5 p hp
  · exact m6 p hp
/-- one field more: what is apart -/
theorem Apart4.snoc {hn hh hc : Int} {I dA rA nA : Addr} {rs : List Fd4} {r : Fd4} (h : Apart4 hn hh hc I dA rA nA rs) (hx : @Ne Nat r.x I ∧ @Ne Nat r.x dA ∧ @Ne Nat r.x rA ∧ @Ne Nat r.x nA) (hd : @Ne Nat r.d I ∧ @Ne Nat r.d dA ∧ @Ne Nat r.d rA ∧ @Ne Nat r.d nA) : Apart4 hn hh hc I dA rA nA (rs ++ [r]) := by
  have key : ∀ (a : Addr), (∀ p ∈ led4 hn hh hc 52 rs, p.1 ≠ a) → @Ne Nat r.x a → @Ne Nat r.d a → ∀ p ∈ led4 hn hh hc 52 (rs ++ [r]), p.1 ≠ a := fun a h1 h2 h3 p hp => by
    rw [led4_append] at hp
    rcases List.mem_append.mp hp with hp | hp
    · exact h1 p hp
    rcases List.mem_cons.mp hp with rfl | hp
    · exact h2
    · rw [List.mem_singleton.mp hp]; exact h3
  exact ⟨key I h.i hx.1 hd.1, key dA h.d hx.2.1 hd.2.1, key rA h.r hx.2.2.1 hd.2.2.1, key nA h.n hx.2.2.2 hd.2.2.2, h.id, h.ir, h.im⟩
/-- the if's end where a field came -/
theorem joinedS {hn hh hc : Int} {dA rA nA el I L x d : Addr} {f1 f2 all : List (Addr × Obj)} {oI : Obj} {i re de ne : Nat} {rs : List Fd4} {du nt : List Value} {m₀ m' : Str → Option Value} {h₀ h' : Heap} {s₁ : Shared} {tk : Nat} {t1 t2 t3 tv td : Tok} {word dt : PySem.Str} {vh vc : Value} (kp : Bool)
    (F : Fr h₀ L h' m') (N : News h₀ L h' all) (hI : (I, oI) ∈ all) (m1 : (dA, listOf (du ++ [Value.str dt td]).toArray de) ∈ all) (m2 : (rA, listOf (refs4 rs ++ [Value.ref x]).toArray re) ∈ all) (m3 : (nA, listOf nt.toArray ne) ∈ all) (m4 : ∀ p ∈ f1, p ∈ all) (m5 : ∀ p ∈ f2, p ∈ all) (m6 : ∀ p ∈ led4 hn hh hc 52 rs, p ∈ all)
    (mx : (x, instObj 52 d) ∈ all) (md : (d, dictOf [⟨hn, .str (PySem.Str.ofString "name") t1, .str word tv⟩, ⟨hh, .str (PySem.Str.ofString "hash") t2, vh⟩, ⟨hc, .str (PySem.Str.ofString "compare") t3, vc⟩] 3) ∈ all)
    (hr : ∀ z, z ≠ PySem.Str.ofString "x" → z ≠ PySem.Str.ofString "word" → z ≠ PySem.Str.ofString "one" → m' z = m₀ z) (hl : rs.length + 1 = i) (hk : nt.length = i) (ho : Oks el rs) (hd : StrsAre du (rs.map dueTxt)) (hw : Tidy word ∧ word.length ≤ 100 ∧ word ≠ PySem.Str.ofString "") (htr : TrOk el vh vc kp) (hdt : dt = if kp = true then word else PySem.Str.ofString "")
    (ha : Apart4 hn hh hc I dA rA nA rs) (hx : @Ne Nat x I ∧ @Ne Nat x dA ∧ @Ne Nat x rA ∧ @Ne Nat x nA) (hdd : @Ne Nat d I ∧ @Ne Nat d dA ∧ @Ne Nat d rA ∧ @Ne Nat d nA) :
    JoinEnd h₀ L (LoopSt (PySem.Str.ofString "x") (fun c : St4 => (I, oI) :: Led4 hn hh hc dA rA nA f1 f2 { c with nt := nt, ne := ne }) (fun _ => []) [PySem.Str.ofString "word", PySem.Str.ofString "one"] m₀ (fun c : St4 => Inv4 el i i { c with nt := nt, ne := ne } ∧ Apart4 hn hh hc I dA rA nA c.rs)) s₁ { s₁ with heap := h', toks := tk } := by
  have e1 : refs4 (rs ++ [(⟨x, d, t1, t2, t3, tv, word, vh, vc, kp⟩ : Fd4)]) = refs4 rs ++ [Value.ref x] := by unfold refs4; rw [List.map_append]; rfl
  refine joined4 (rs := rs ++ [⟨x, d, t1, t2, t3, tv, word, vh, vc, kp⟩]) F N hI m1 (by rw [e1]; exact m2) m3 m4 m5 (fun p hp => ?_) hr (by rw [List.length_append]; exact hl) hk (ho.snoc ⟨hw, htr⟩) ?_ (ha.snoc hx hdd)
  · rw [led4_append] at hp
    rcases List.mem_append.mp hp with hp | hp
    · exact m6 p hp
    rcases List.mem_cons.mp hp with rfl | hp
    · exact mx
    · rw [List.mem_singleton.mp hp]; exact md
  · rw [List.map_append, hdt]; exact strs_snoc hd
section
variable {prog : Program} {w : World} {A : Around} {E : Value → Shared → Prop} {s : Shared} {h₀ : Heap} {L D : Addr} {m : Str → Option Value} {news all : List (Addr × Obj)} {Q : Value → Shared → Prop} {value slice : PySem.Expr} {k : Int} {u : Tok} {ep : Nat}
theorem word_item {ta tb tc td te : Tok} (N : News h₀ L s.heap news) (hm : (D, listOf #[Value.str (PySem.Str.ofString "a") ta, Value.str (PySem.Str.ofString "b_2") tb, Value.str (PySem.Str.ofString "self") tc, Value.str (PySem.Str.ofString "hash") td, Value.str (PySem.Str.ofString "_") te] ep) ∈ news)
    (h0 : 0 ≤ k) (h1 : k < 5) (h : ∀ word t, (Tidy word ∧ word.length ≤ 100 ∧ word ≠ PySem.Str.ofString "") → Q (.str word t) s)
    (hs : subscripted slice false (.ref D) (.int k u) = operate [.ref D, .int k u] (getItem (.ref D) (.int k u))) :
    wpAny (model prog w) A (subscriptTail value slice (.ref D) (.int k u)) Q E s := by
  have hl := News.isList N hm
  have e : k = 0 ∨ k = 1 ∨ k = 2 ∨ k = 3 ∨ k = 4 := by omega
  rcases e with rfl | rfl | rfl | rfl | rfl
  · exact tail_any hl.typeIs slot_list_getitem.lookup (wpAny_getItem_list hl (by decide) (by decide) rfl (h _ ta (by unfold Tidy; decide +kernel))) hs
  · exact tail_any hl.typeIs slot_list_getitem.lookup (wpAny_getItem_list hl (by decide) (by decide) rfl (h _ tb (by unfold Tidy; decide +kernel))) hs
  · exact tail_any hl.typeIs slot_list_getitem.lookup (wpAny_getItem_list hl (by decide) (by decide) rfl (h _ tc (by unfold Tidy; decide +kernel))) hs
  · exact tail_any hl.typeIs slot_list_getitem.lookup (wpAny_getItem_list hl (by decide) (by decide) rfl (h _ td (by unfold Tidy; decide +kernel))) hs
  · exact tail_any hl.typeIs slot_list_getitem.lookup (wpAny_getItem_list hl (by decide) (by decide) rfl (h _ te (by unfold Tidy; decide +kernel))) hs
theorem hash_item {el : Addr} {t3 t4 t5 t6 : Tok} (N : News h₀ L s.heap news) (hm : (D, listOf #[Value.none, Value.bool true, Value.bool false, Value.int 0 t3, Value.int 1 t4, Value.str (PySem.Str.ofString "") t5, Value.str (PySem.Str.ofString "no") t6, Value.ref el] ep) ∈ news)
    (h0 : 0 ≤ k) (h1 : k < 8) (h : ∀ v, HOk el k v → Q v s)
    (hs : subscripted slice false (.ref D) (.int k u) = operate [.ref D, .int k u] (getItem (.ref D) (.int k u))) :
    wpAny (model prog w) A (subscriptTail value slice (.ref D) (.int k u)) Q E s := by
  have hl := News.isList N hm
  have e : k = 0 ∨ k = 1 ∨ k = 2 ∨ k = 3 ∨ k = 4 ∨ k = 5 ∨ k = 6 ∨ k = 7 := by omega
  rcases e with rfl | rfl | rfl | rfl | rfl | rfl | rfl | rfl
  · exact tail_any hl.typeIs slot_list_getitem.lookup (wpAny_getItem_list hl (by decide) (by decide) rfl (h _ (.inl ⟨rfl, rfl⟩))) hs
  · exact tail_any hl.typeIs slot_list_getitem.lookup (wpAny_getItem_list hl (by decide) (by decide) rfl (h _ (.inr (.inl ⟨rfl, rfl⟩)))) hs
  · exact tail_any hl.typeIs slot_list_getitem.lookup (wpAny_getItem_list hl (by decide) (by decide) rfl (h _ (.inr (.inr (.inl ⟨rfl, rfl⟩))))) hs
  · exact tail_any hl.typeIs slot_list_getitem.lookup (wpAny_getItem_list hl (by decide) (by decide) rfl (h _ (.inr (.inr (.inr (.inl ⟨rfl, _, rfl⟩)))))) hs
  · exact tail_any hl.typeIs slot_list_getitem.lookup (wpAny_getItem_list hl (by decide) (by decide) rfl (h _ (.inr (.inr (.inr (.inr (.inl ⟨rfl, _, rfl⟩))))))) hs
  · exact tail_any hl.typeIs slot_list_getitem.lookup (wpAny_getItem_list hl (by decide) (by decide) rfl (h _ (.inr (.inr (.inr (.inr (.inr (.inl ⟨rfl, _, rfl⟩)))))))) hs
  · exact tail_any hl.typeIs slot_list_getitem.lookup (wpAny_getItem_list hl (by decide) (by decide) rfl (h _ (.inr (.inr (.inr (.inr (.inr (.inr (.inl ⟨rfl, _, rfl⟩))))))))) hs
  · exact tail_any hl.typeIs slot_list_getitem.lookup (wpAny_getItem_list hl (by decide) (by decide) rfl (h _ (.inr (.inr (.inr (.inr (.inr (.inr (.inr ⟨rfl, rfl⟩))))))))) hs
theorem cmp_item {t2 t3 : Tok} (N : News h₀ L s.heap news) (hm : (D, listOf #[Value.bool true, Value.bool false, Value.int 1 t2, Value.str (PySem.Str.ofString "") t3] ep) ∈ news)
    (h0 : 0 ≤ k) (h1 : k < 4) (h : ∀ v, COk k v → Q v s)
    (hs : subscripted slice false (.ref D) (.int k u) = operate [.ref D, .int k u] (getItem (.ref D) (.int k u))) :
    wpAny (model prog w) A (subscriptTail value slice (.ref D) (.int k u)) Q E s := by
  have hl := News.isList N hm
  have e : k = 0 ∨ k = 1 ∨ k = 2 ∨ k = 3 := by omega
  rcases e with rfl | rfl | rfl | rfl
  · exact tail_any hl.typeIs slot_list_getitem.lookup (wpAny_getItem_list hl (by decide) (by decide) rfl (h _ (.inl ⟨rfl, rfl⟩))) hs
  · exact tail_any hl.typeIs slot_list_getitem.lookup (wpAny_getItem_list hl (by decide) (by decide) rfl (h _ (.inr (.inl ⟨rfl, rfl⟩)))) hs
  · exact tail_any hl.typeIs slot_list_getitem.lookup (wpAny_getItem_list hl (by decide) (by decide) rfl (h _ (.inr (.inr (.inl ⟨rfl, _, rfl⟩))))) hs
  · exact tail_any hl.typeIs slot_list_getitem.lookup (wpAny_getItem_list hl (by decide) (by decide) rfl (h _ (.inr (.inr (.inr ⟨rfl, _, rfl⟩))))) hs
/-- noted[k]: the last one -/
theorem last_item {l : List Value} {x : Value} {i : Nat} (N : News h₀ L s.heap news) (hm : (D, listOf (l ++ [x]).toArray ep) ∈ news) (hl : l.length = i) (hz : i ≤ 1000) (h : Q x s)
    (hs : subscripted slice false (.ref D) (.int (i : Int) u) = operate [.ref D, .int (i : Int) u] (getItem (.ref D) (.int (i : Int) u))) : wpAny (model prog w) A (subscriptTail value slice (.ref D) (.int (i : Int) u)) Q E s := by
  have hl' := News.isList N hm
  refine tail_any hl'.typeIs slot_list_getitem.lookup (wpAny_getItem_list hl' (by omega) (by omega) ?_ h) hs
  rw [← hl]; simp
end
theorem pick_last5 {l : List Value} : kms_pick l (some (-5)) none = l.drop (l.length - 5) := by
  show (l.drop (l.length - 5)).take (l.length - (l.length - 5)) = _
  exact List.take_of_length_le (by rw [List.length_drop]; exact Nat.le_refl _)
theorem refs4_drop {rs : List Fd4} (n : Nat) : (refs4 rs).drop n = refs4 (rs.drop n) := by unfold refs4; rw [List.map_drop]
theorem strs_drop {vs : List Value} {l : List PySem.Str} (h : StrsAre vs l) : ∀ n, StrsAre (vs.drop n) (l.drop n) := by
  induction h with
  | nil => intro n; simp only [List.drop_nil]; exact .nil
  | cons x t r ih =>
    intro n
    cases n with
    | zero => exact .cons x t r
    | succ n => exact ih n
theorem fmod42 {y : Int} (h : Int.fmod y 2 = 0) : Int.fmod y 4 = 0 ∨ Int.fmod y 4 = 2 := by
  rw [Int.fmod_eq_emod_of_nonneg _ (by decide)] at h
  rw [Int.fmod_eq_emod_of_nonneg _ (by decide)]
  omega
theorem fmod42' {y : Int} (h : Int.fmod y 2 ≠ 0) : Int.fmod y 4 ≠ 0 ∧ Int.fmod y 4 ≠ 2 := by
  rw [Int.fmod_eq_emod_of_nonneg _ (by decide)] at h
  rw [Int.fmod_eq_emod_of_nonneg _ (by decide)]
  omega
/-- the last five -/
def last5 (rs : List Fd4) : List Fd4 := rs.drop (rs.length - 5)
theorem pick_refs5 {rs : List Fd4} : kms_pick (refs4 rs) (some (-5)) none = refs4 (last5 rs) := by
  rw [pick_last5, refs4_drop]
  have e : (refs4 rs).length = rs.length := by unfold refs4; rw [List.length_map]
  rw [e]; rfl
theorem last5_len {rs : List Fd4} : (last5 rs).length ≤ 5 := by unfold last5; rw [List.length_drop]; omega
theorem refs5_len {rs : List Fd4} : (refs4 (last5 rs)).length ≤ 5 := by unfold refs4; rw [List.length_map]; exact last5_len
theorem kept_len {rs : List Fd4} : (kept rs).length ≤ rs.length := by unfold kept; exact List.length_filter_le _ _
theorem kept5_len {rs : List Fd4} : (kept (last5 rs)).length ≤ 5 := Nat.le_trans kept_len last5_len
theorem names5_len {rs : List Fd4} : (names4 (kept (last5 rs))).length ≤ 63 := by unfold names4; rw [List.length_map]; exact Nat.le_trans kept5_len (by decide)
theorem words5_len {rs : List Fd4} : (words4 (kept (last5 rs))).length ≤ 63 := by unfold words4; rw [List.length_map]; exact Nat.le_trans kept5_len (by decide)
theorem due5 {du : List Value} {rs : List Fd4} (h : StrsAre du (rs.map dueTxt)) : StrsAre (du.drop (du.length - 5)) ((last5 rs).map dueTxt) := by
  have e : du.length = rs.length := by have := strs_len h; rwa [List.length_map] at this
  have := strs_drop h (du.length - 5)
  rw [← List.map_drop] at this
  unfold last5; rw [← e]; exact this
theorem Oks.last5 {el : Addr} {rs : List Fd4} (h : Oks el rs) : Oks el (last5 rs) := h.drop _
theorem words_ok {el : Addr} {rs : List Fd4} (h : Oks el rs) : ∀ t ∈ words4 (kept (last5 rs)), Tidy t ∧ t.length ≤ 100 := fun t ht => by
  obtain ⟨r, hr, rfl⟩ := List.mem_map.mp ht
  have := (h.last5.kept r hr).1
  exact ⟨this.1, this.2.1⟩
theorem led4_subs {hn hh hc : Int} {C : Addr} : ∀ {a b : List Fd4}, (∀ r ∈ a, r ∈ b) → ∀ p ∈ led4 hn hh hc C a, p ∈ led4 hn hh hc C b
  | [], _, _, _, h => nomatch h
  | r :: a, b, hs, p, h => by
    have m := led4_mem (hn := hn) (hh := hh) (hc := hc) (C := C) (hs r (.head _))
    rcases List.mem_cons.mp h with rfl | h
    · exact m.1
    rcases List.mem_cons.mp h with rfl | h
    · exact m.2
    · exact led4_subs (fun q hq => hs q (.tail _ hq)) p h
theorem sub_last5 {hn hh hc : Int} {I dA rA nA : Addr} {rs : List Fd4} {news : List (Addr × Obj)} (ha : Apart4 hn hh hc I dA rA nA rs) (h : ∀ p ∈ led4 hn hh hc 52 rs, p ∈ news) : ∀ p ∈ led4 hn hh hc 52 (last5 rs), p ∈ news := fun p hp =>
  h p (led4_subs (fun r hr => List.mem_of_mem_drop hr) p hp)
theorem sub_kept5 {hn hh hc : Int} {I dA rA nA : Addr} {rs : List Fd4} {news : List (Addr × Obj)} (ha : Apart4 hn hh hc I dA rA nA rs) (h : ∀ p ∈ led4 hn hh hc 52 rs, p ∈ news) : ∀ p ∈ led4 hn hh hc 52 (kept (last5 rs)), p ∈ news := fun p hp =>
  sub_last5 ha h p (led4_subs (fun r hr => (List.mem_filter.mp hr).1) p hp)
section
variable {prog : Program} {w : World} {A : Around} {h₀ : Heap} {L : Addr} {m : Str → Option Value} {env : Env} {ct elt : Expr} {x : Str} {scope : Scope} {cl : List (Str × Addr)} {s : Shared}
    {S : List (Addr × Obj) → Prop} {Fin : List Value → List (Addr × Obj) → Prop} {news : List (Addr × Obj)} {el : Addr}
/-- [f for f in fields if ..] in two kinds of turn -/
theorem comp_flds2 {hn hh hc : Int} {K : Addr} {rl : List Fd4} (ho : Oks el rl) (hsub : ∀ p ∈ led4 hn hh hc K rl, p ∈ news)
    (turn1 : ∀ (r : Fd4) I oI C oC D m₂ ys h tk (E' : Value → Shared → Prop), (r.x, instObj K r.d) ∈ news →
      (r.d, dictOf [⟨hn, .str (PySem.Str.ofString "name") r.t1, .str r.word r.tv⟩, ⟨hh, .str (PySem.Str.ofString "hash") r.t2, .none⟩, ⟨hc, .str (PySem.Str.ofString "compare") r.t3, r.vc⟩] 3) ∈ news → TVc el r.vc r.kp →
      LCg.NsObj oC m₂ → m₂ x = some (.ref r.x) → Fr h₀ L h m → News h₀ L h ((I, oI) :: (C, oC) :: (D, LCg.lst ys) :: news) → LCg.Off3 I C D news → ((@Ne Nat I C) ∧ (@Ne Nat I D) ∧ (@Ne Nat C D)) →
      wpAny (model prog w) A (isTrue ct (compEnvC scope cl C env) (eval ct (compEnvC scope cl C env))) (fun ok s' => if ok = true then
        wpAny (model prog w) A (eval elt (compEnvC scope cl C env)) (LCg.CompEnd h₀ L m { s with heap := h, toks := tk } I oI C oC D (LCg.lst ys) S (ElK news fun y => r.kp = true ∧ y = .ref r.x)) E' s'
        else LCg.CompEnd h₀ L m { s with heap := h, toks := tk } I oI C oC D (LCg.lst ys) S (ElK news fun _ => r.kp = false) Value.none s') E' { s with heap := h, toks := tk })
    (turn2 : ∀ (r : Fd4) I oI C oC D m₂ ys h tk (E' : Value → Shared → Prop), (r.x, instObj K r.d) ∈ news →
      (r.d, dictOf [⟨hn, .str (PySem.Str.ofString "name") r.t1, .str r.word r.tv⟩, ⟨hh, .str (PySem.Str.ofString "hash") r.t2, r.vh⟩, ⟨hc, .str (PySem.Str.ofString "compare") r.t3, r.vc⟩] 3) ∈ news → TVc el r.vh r.kp →
      LCg.NsObj oC m₂ → m₂ x = some (.ref r.x) → Fr h₀ L h m → News h₀ L h ((I, oI) :: (C, oC) :: (D, LCg.lst ys) :: news) → LCg.Off3 I C D news → ((@Ne Nat I C) ∧ (@Ne Nat I D) ∧ (@Ne Nat C D)) →
      wpAny (model prog w) A (isTrue ct (compEnvC scope cl C env) (eval ct (compEnvC scope cl C env))) (fun ok s' => if ok = true then
        wpAny (model prog w) A (eval elt (compEnvC scope cl C env)) (LCg.CompEnd h₀ L m { s with heap := h, toks := tk } I oI C oC D (LCg.lst ys) S (ElK news fun y => r.kp = true ∧ y = .ref r.x)) E' s'
        else LCg.CompEnd h₀ L m { s with heap := h, toks := tk } I oI C oC D (LCg.lst ys) S (ElK news fun _ => r.kp = false) Value.none s') E' { s with heap := h, toks := tk })
    (fin : Fin (refs4 (kept rl)) news) : LCt.CompRestT prog w A h₀ L m env ct elt x scope cl s S (fun i v => (refs4 rl).toArray[i]? = some v) Fin (refs4 rl).toArray.size 0 [] news := by
  refine comp_flds ho hsub (fun r I oI C oC D m₂ ys h tk E' hr m1 m2 ht hC hx F N off ne => ?_) fin
  rcases ht with ⟨e, ht⟩ | ht
  · rw [e] at m2
    exact turn1 r I oI C oC D m₂ ys h tk E' m1 m2 ht hC hx F N off ne
  · exact turn2 r I oI C oC D m₂ ys h tk E' m1 m2 ht hC hx F N off ne
end
/-- a test whose answer is a variable -/
theorem ite_kp {P R : Prop} {b : Bool} (h1 : b = true → P) (h2 : b = false → R) : if b = true then P else R := by
  cases b with
  | true => rw [if_pos rfl]; exact h1 rfl
  | false => rw [if_neg (by simp)]; exact h2 rfl
theorem handed_TV {el : Addr} {v : Value} {b : Bool} (h : TVc el v b) : handedIn v = true := by
  rcases h with ⟨rfl, _⟩ | ⟨rfl, _⟩ | ⟨t, rfl, _⟩ | ⟨t, rfl, _⟩ | ⟨t, rfl, _⟩ | ⟨t, rfl, _⟩ | ⟨rfl, _⟩ <;> rfl
theorem mem_sub {x : Addr × Obj} {l all : List (Addr × Obj)} (h : x ∈ l) (hs : ∀ p ∈ l, p ∈ all) : x ∈ all := hs x h
theorem inst4 {h₀ h : Heap} {L x C d : Addr} {news all : List (Addr × Obj)} {es : List DictEntry} {k : Nat} (N : News h₀ L h all) (h1 : (x, instObj C d) ∈ news) (h2 : (d, dictOf es k) ∈ news) (hs : ∀ p ∈ news, p ∈ all) : InstAt h x (instObj C d) C (some (dictOf es k)) :=
  InstAt.of_news N (hs _ h1) (hs _ h2)
section
variable {M : Model} {A : Around} {E : Value → Shared → Prop} {s : Shared} {env : Env} {pos : Pos} {first : List Value} {Q : Value → Shared → Prop} {q : Addr}
/-- a function made in the call, called with keywords -/
theorem callWith_FKW {e : Expr} {rest : List Expr} {kws : List Keyword} (hall : (backToKw pos (keywordEach kws env)).all (·.1.isSome) = true)
    (h : wpAny M A (spliced (backTo pos (starEach (e :: rest) env))) (fun vs s₁ => wpAny M A (evalAll ((backToKw pos (keywordEach kws env)).map (·.2)))
      (fun ks s₂ => FnAt q s₂.heap ∧ wpAny M A (call (.ref q) (first ++ vs) (((backToKw pos (keywordEach kws env)).filterMap (·.1)).zip ks)) Q E s₂) E s₁) E s)
    (hplain : ((backTo pos (starEach (e :: rest) env)).any (·.1) || (backToKw pos (keywordEach kws env)).any (·.1.isNone)) = false := by rfl) (he : starEach (e :: rest) env = (false, eval e env) :: starEach rest env := by rfl) :
    wpAny M A (callWith pos (.ref q) first (backTo pos (starEach (e :: rest) env)) (backToKw pos (keywordEach kws env))) Q E s :=
  callWith_of (P := FnAt q) hplain keeps_F (evalArgs_kw2 hall h he)
end
theorem in_146 {prog : Program} {w : World} {A : Around} {E : Value → Shared → Prop} {s : Shared} {D : Addr} {Q : Value → Shared → Prop} {x : Int} {ta tb tc u : Tok} (ht : IsTup s.heap D #[Value.int 1 ta, Value.int 4 tb, Value.int 6 tc]) (h : Q (.bool (decide (x = 1 ∨ x = 4 ∨ x = 6))) s) :
    wpAny (model prog w) A (compareOp .In (.int x u) (.ref D)) Q E s := by
  refine in_tuple_ints (ns := [1, 4, 6]) ht (.cons 1 ta (.cons 4 tb (.cons 6 tc .nil))) ?_
  have e : ([1, 4, 6] : List Int).any (· == x) = decide (x = 1 ∨ x = 4 ∨ x = 6) := by
    rw [Bool.eq_iff_iff]
    simp only [List.any_cons, List.any_nil, Bool.or_false, Bool.or_eq_true, beq_iff_eq, decide_eq_true_eq]
    omega
  rw [e]; exact h
theorem room4 {vs : List Value} {i : Nat} (h : vs.length = i) (hi : i ≤ 64) : vs.length ≤ sizeLine := by rw [h]; exact Nat.le_trans hi (by rw [PySem.sizeLine_eq]; decide)
theorem room4' {vs : List Value} {i : Nat} (h : vs.length = i - 1) (hi : i ≤ 64) : vs.length ≤ sizeLine := by rw [h]; exact Nat.le_trans (Nat.sub_le _ _) (Nat.le_trans hi (by rw [PySem.sizeLine_eq]; decide))
theorem len_snoc {vs : List Value} {x : Value} {i : Nat} (h : vs.length = i) : (vs ++ [x]).length = i + 1 := by rw [List.length_append, h]; rfl
theorem due_len {du : List Value} : (du.drop (du.length - 5)).length ≤ 5 := by rw [List.length_drop]; omega
theorem i1000 {i : Nat} (h : i ≤ 64) : i ≤ 1000 := Nat.le_trans h (by decide)
section
variable {prog : Program} {w : World} {A : Around} {E : Value → Shared → Prop} {s : Shared} {h₀ : Heap} {L D a b : Addr} {news : List (Addr × Obj)} {Q : Value → Shared → Prop}
theorem len_noted {vs : List Value} {x : Value} {i ep : Nat} (N : News h₀ L s.heap news) (hm : (D, listOf (vs ++ [x]).toArray ep) ∈ news) (h : vs.length = i) (hi : i ≤ 64) (hq : Q (.int ((i : Int) + 1) (s.toks + 1)) { s with toks := s.toks + 1 + 1 }) : wpAny (model prog w) A (call (.builtin "len") [.ref D]) Q E s := by
  refine len_L N hm (by rw [len_snoc h]; omega) ?_
  have e : (((vs ++ [x]).length : Nat) : Int) = (i : Int) + 1 := by rw [len_snoc h]; omega
  rw [e]; exact hq
theorem len_one {x : Value} {ep : Nat} (N : News h₀ L s.heap news) (hm : (D, listOf #[x] ep) ∈ news) (hq : Q (.int 1 (s.toks + 1)) { s with toks := s.toks + 1 + 1 }) : wpAny (model prog w) A (call (.builtin "len") [.ref D]) Q E s :=
  len_L (vs := [x]) N hm (by simp) hq
theorem ne_tup1 {x : PySem.Str} {t u : Tok} {k j : Nat} (N : News h₀ L s.heap news) (ha : (a, ({ cls := .type "tuple", data := .seq #[Value.str x t] k } : Obj)) ∈ news) (hb : (b, ({ cls := .type "tuple", data := .seq #[Value.str x u] j } : Obj)) ∈ news) (hu : A.units < cLine)
    (h : Q (.bool false) s) : wpAny (model prog w) A (compareOp .NotEq (.ref a) (.ref b)) Q E s := by
  have h1 : s.heap.IsTuple a #[Value.str x t] := ⟨_, (N _ ha).1, rfl, k, rfl⟩
  have h2 : s.heap.IsTuple b #[Value.str x u] := ⟨_, (N _ hb).1, rfl, j, rfl⟩
  refine SeqAt.RcNeAt.tuples (e := fun _ => true) h1 h2 hu (fun j i1 i2 => ?_) prog w E Q ?_
  · have e : j = 0 := by simp at i1; omega
    subst e
    have := SeqAt.EqAt.str_str (A := A.in1) (s := s) x t x u
    simpa using this
  · have e : (((List.range (min (#[Value.str x t] : Array Value).size (#[Value.str x u] : Array Value).size)).all fun _ => true) && (#[Value.str x t] : Array Value).size == (#[Value.str x u] : Array Value).size) = true := by simp
    rw [e]; exact h
end
theorem ne_intS {prog : Program} {w : World} {A : Around} {E : Value → Shared → Prop} {s : Shared} {a : Int} {t u : Tok} {Q : Value → Shared → Prop} (h : Q (.bool false) s) : wpAny (model prog w) A (compareOp .NotEq (.int a t) (.int a u)) Q E s :=
  IsLeap.wpAny_ne_int (by simpa using h)
end

section
set_option maxRecDepth 100000 in
set_option maxHeartbeats 8000000 in
open_top hd for PySem.Challenge.rw_io0052_04
end

section
local macro_rules | `(tactic| k_mem) => `(tactic| first | exact List.Mem.head _ | assumption | (refine List.Mem.tail _ ?_; k_mem))
local macro_rules | `(tactic| walk_at "truthy ref") => `(tactic| (k_here; k_dflt (first | refine truthy_seq0 (by k_asm) (by k_mem) (by assumption) ?_ | refine truthy_seq1 (by k_asm) (by k_mem) (by assumption) (by omega) ?_)))
local macro_rules | `(tactic| walk_at "eval ListComp") => `(tactic| (k_here; k_dflt (refine ListComp_seq (by rfl) (by k_asm) (by assumption) (fun Q' hQ' => by (first | (refine' nameX_L ?F ?v ?_ ?a ?b; (case F => k_asm); (case a => rfl); (case b => rfl); (case v => rfl); assumption))) (by k_asm) (by k_mem) (by (rw [PySem.sizeLine_eq]; omega)) (by with_unfolding_all rfl) (by decide) (by rfl) (by decide) (by rfl) (fun g' S' hS' => ?_))))
local macro_rules | `(tactic| walk_at "CompRest") => `(tactic| (k_here; k_dflt ((refine' comp_ts4 (by assumption) (by assumption) (by assumption) (by assumption) (fun r' I' oI' C' oC' D' m' zs' h' tk' E' m1' m2' hw' hC' hx' F' N' off' ne' => ?_) (fun zs' hz' => ?_)); kcf_last)))
local macro_rules | `(tactic| walk_at "CompEnd") => `(tactic| (k_here; k_dflt ((refine' ElK.done ?F ?N ?sub ?off ?S ?r); ((case F => assumption)); ((case N => assumption)); ((case sub => kcf_all)); ((case off => assumption)); ((case S => exact (SIn.use (by assumption) (by k_mem)))); ((case r => (refine piece_end ?_; exact piece_is))))))
local macro_rules | `(tactic| walk_at "call builtin:str.join") => `(tactic| (k_here; k_dflt (refine join_ts (by assumption) (by k_asm) (by k_mem) (names4_ok (by assumption)) (by assumption) (by assumption) ?_); intro _ _ hjl'))

set_option maxRecDepth 100000 in
set_option maxHeartbeats 8000000 in
theorem ts4_call {w : World} {p : Program} {loose : List Str} {mean : ExcName → Option Value} {mg mb : Str → Option Value} {cn₀ cn : Str} {cs₀ cs : Scope} {L₀ L a₀ a : Addr} {ccd₀ ccd : Value} {cl₀ cl : List (Str × Addr)} {base h₀ : Heap} {m : Str → Option Value} {news : List (Addr × Obj)} {s : Shared} {Q E : Value → Shared → Prop}
    {word : Str} {tw : Tok} {ax el : Addr} {oax : Obj} {ys : List Value} {rl : List Fd4} {hn hh hc : Int}
    (B : Below (callerA.deeper (envX cn₀ cs₀ L₀ a₀ ccd₀ cl₀)) base [envX cn₀ cs₀ L₀ a₀ ccd₀ cl₀] h₀) (F : Fr h₀ L s.heap m) (X : (hd.heap_39 w.params).In h₀) (N : News h₀ L s.heap news) (T : Top p loose mean mg mb h₀) (hk : cs.kind = .function)
    (hm : (ax, oax) ∈ news) (hq : SeqObj oax ys) (hys : ys = refs4 rl) (hsub : ∀ q ∈ led4 hn hh hc 52 rl, q ∈ news) (ho : Oks el rl) (hl : (names4 rl).length ≤ 63) (hw : word.length ≤ 16)
    (hret : ∀ t h' tk', (tstr word (words4 rl)).length ≤ 8000 → Fr h₀ L h' m → News h₀ L h' news → Q (.str (tstr word (words4 rl)) t) { s with heap := h', toks := tk' }) :
    wpAny (model Challenge.rw_io0052_04.row.prog w) ((callerA.deeper (envX cn₀ cs₀ L₀ a₀ ccd₀ cl₀)).deeper (envX cn cs L a ccd cl)) (call (.ref 61) [.str word tw, .ref ax]) Q E s := by
  have htl := tstr_len hw (names4_ok ho) hl
  rw [names4_txt] at htl
  have hyl : ys.length = (names4 rl).length := by rw [hys]; unfold refs4 names4; rw [List.length_map, List.length_map]
  have hret' : CbRet h₀ L m news s Q fun t => .str (tstr word ((names4 rl).map nmTxt)) t := fun t h' tk' F' N' => by
    rw [names4_txt]; exact hret t h' tk' htl F' N'
  clear hret
  cases ys
  all_goals w_strict (
    revert X; k_fill; intro X
    refine wpAny_call ?_
    k_dflt (refine' code_defC ?k1 ?k2 ?k3 ?k4 ?k5 ?kA ?kF ?kK ?k6 ?k7 ?k8 ?k9 ?kB ?kD ?_ ?c2 ?c3 ?c4; (case kA => exact rfl); (case kF => exact rfl); (case kK => assumption); (case k1 => k_asm); (case k2 => k_asm); (case k3 => k_asm); (case k4 => k_asm); (case k5 => k_asm); (case k6 => k_is); (case k7 => k_is); (case k8 => k_room); (case k9 => exact BindsTo.of_eq rfl); (case kB => exact rfl); (case kD => decide +kernel); (case c2 => exact rfl); (case c3 => exact rfl); (case c4 => exact rfl); k_whole; intro g' L' h' tk' cells' FG' F' N' Y' B' X' T' l1; k_cells Y'; (try simp only [List.cons_append, List.nil_append] at N'); (try dsimp only); (try k_lift B'); (try k_fold))
    k_steps
    all_goals (refine cb_retS hret' ?_ (by k_asm) (by first | k_asm | (refine cb_drop (by assumption) ?_; kcf_all)))
    all_goals (simp only [List.length_nil, List.length_cons] at hyl)
    all_goals (first | exact tstr_nil (by omega) | exact tstr_cons (by omega)))
end

section
local macro_rules | `(tactic| k_mem) => `(tactic| first | exact List.Mem.head _ | assumption | (refine List.Mem.tail _ ?_; k_mem))
local macro_rules | `(tactic| walk_at "compareOp NotEq str str") => `(tactic| (k_here; k_dflt (first | refine ne_same (by with_reducible exact h_head (by decide)) ?_ | refine ne_same (by with_reducible exact r_head (by decide)) ?_ | refine ne_same (by with_reducible exact r_last (by decide)) ?_ | refine ne_same (by with_reducible rfl) ?_)))
local macro_rules | `(tactic| walk_at "compareOp Eq str str") => `(tactic| (k_here; k_dflt (refine eq_same piece_head ?_)))
local macro_rules | `(tactic| walk_at "call builtin:str.split") => `(tactic| (k_here; k_dflt ((refine' split_h ?e ?F ?N ?ht ?hl ?_); (case e => with_reducible exact r_inner (by decide)); (case F => k_asm); (case N => k_asm); (case ht => with_reducible assumption); (case hl => with_reducible assumption)); intro D' zs' t' h' k' hz' F' N' l1; (have hzl' := strs_len hz'); (simp only [List.length_map] at hzl'); (try k_lt l1)))
local macro_rules | `(tactic| walk_at "call builtin:len") => `(tactic| (k_here; (with_reducible show wpAny _ _ (call (Value.builtin "len") [Value.ref _]) _ _ _); k_dflt (refine kst_len (by k_asm) (by k_mem) rfl (by (try simp only [List.length_append, List.length_cons, List.length_nil]); omega) ?_)))
local macro_rules | `(tactic| walk_at "subscriptTail Name UnaryOp ref int") => `(tactic| (k_here; k_dflt (refine item_last4 (by k_asm) (by k_mem) (by omega) ?_ (by with_unfolding_all rfl))))
local macro_rules | `(tactic| walk_at "subscriptTail Name Slice ref ref") => `(tactic| (k_here; k_dflt (refine' kms_slice_lit ?F ?N ?l ?p ?q ?e ?_ ?s ?t ?z; (case F => k_asm); (case N => k_asm); (case l => exact News.isList (by k_asm) (by k_mem)); (case p => kmk_part); (case q => kmk_part); (case e => exact pick_init4); (case s => with_unfolding_all rfl); (case t => kmk_pure); (case z => (rw [PySem.sizeLine_eq, List.size_toArray, List.length_append]; simp; omega))); intro D' h' F' N' l1; (try k_lt l1); (try k_sweep)))
local macro_rules | `(tactic| walk_at "CompSrcT") => `(tactic| (k_here; k_dflt ((refine LCt.CompSrcT.ledger (by rfl) (by k_asm) (by k_asm) (by k_mem) (by (rw [PySem.sizeLine_eq, List.size_toArray]; omega)) ?_; intro g'); (refine' comp_part (by assumption) (fun t' tk' I' oI' C' oC' D' m' ys' h' tkk' E' ht' hC' hx' F' N' off' ne' => ?_) (fun ys' hy' => ?_)); (all_goals (try (have hyl' := strs_len hy'))); (all_goals (try (have hpl' := piece4_len (by with_reducible assumption) ht'))); kcf_last)))
local macro_rules | `(tactic| walk_at "CompEnd") => `(tactic| (k_here; k_dflt ((refine' ElK.done ?F ?N ?sub ?off ?S ?r); (case F => assumption); (case N => assumption); (case sub => kcf_all); (case off => first | assumption | (simp only [LCg.Off3, and_true]; assumption)); (case S => first | lcg_src | assumption); (case r => exact ⟨_, by rw [piece_rest]⟩))))
theorem sub_hd3 {a b c : Addr × Obj} {l : List (Addr × Obj)} : ∀ p ∈ a :: l, p ∈ a :: b :: c :: l := fun p hp => by
  rcases List.mem_cons.mp hp with rfl | hp
  · exact .head _
  · exact .tail _ (.tail _ (.tail _ hp))
set_option maxRecDepth 100000 in
set_option maxHeartbeats 8000000 in
theorem ln_call {w : World} {p : Program} {loose : List Str} {mean : ExcName → Option Value} {mg mb : Str → Option Value} {cn : Str} {cs : Scope} {L a : Addr} {ccd : Value} {cl : List (Str × Addr)} {base h₀ : Heap} {m : Str → Option Value} {news : List (Addr × Obj)} {s : Shared} {Q E : Value → Shared → Prop}
    {tt : Tok} {ts : List PySem.Str}
    (B : Below callerA base [] h₀) (F : Fr h₀ L s.heap m) (X : (hd.heap_39 w.params).In h₀) (N : News h₀ L s.heap news) (T : Top p loose mean mg mb h₀) (hk : cs.kind = .function)
    (hts : ∀ t ∈ ts, Tidy t ∧ t.length ≤ 100) (hst : ts.length ≤ 63)
    (hret : ∀ D zs k h' tk', StrsAre zs ts → Fr h₀ L h' m → News h₀ L h' ((D, listOf zs.toArray k) :: news) → Q (.ref D) { s with heap := h', toks := tk' }) :
    wpAny (model Challenge.rw_io0052_04.row.prog w) (callerA.deeper (envX cn cs L a ccd cl)) (call (.ref 71) [.str (hline ts) tt]) Q E s := by
  have htl := hline_len hts hst
  have hbl := hbase_len hts hst
  w_strict (
    revert X; k_fill; intro X
    refine wpAny_call ?_
    k_dflt (refine' code_def ?k1 ?k2 ?k3 ?k4 ?k5 ?kA ?kF ?kK ?k6 ?k7 ?k8 ?k9 ?kB ?_ ?c2 ?c3 ?c4 ?c5; (case kA => exact rfl); (case kF => exact rfl); (case kK => assumption); (case k1 => k_asm); (case k2 => k_asm); (case k3 => k_asm); (case k4 => k_asm); (case k5 => k_asm); (case k6 => k_is); (case k7 => k_is); (case k8 => k_room); (case k9 => exact BindsTo.of_eq rfl); (case c5 => decide); (case kB => exact locs rfl); (case c2 => exact rfl); (case c3 => exact rfl); (case c4 => exact rfl); k_whole; intro g' L' h' FG' F' N' B' X' T'; (try dsimp only); (try k_lift B'); (try k_fold))
    k_steps
    all_goals (first | (exfalso; simp only [List.length_append, List.length_cons, List.length_nil] at *; omega) | ((with_reducible rename StrsAre _ ts => hy9); (with_reducible rename News _ _ _ _ => N9); k_dflt (exact hret _ _ _ _ _ hy9 (by k_asm) (cb_drop N9 sub_hd3)))))
end

section
local macro_rules | `(tactic| walk_at "exec For") => `(tactic| (k_here; ((rename Fr _ _ _ _ => lF'); (with_unfolding_all refine' For_invVF lF' ?k1 ?k2 ?_; (case k1 => exact rfl); (case k2 => exact rfl); k_whole))))
local macro_rules | `(tactic| walk_at "exec For Name Call cons nil") => `(tactic| (k_here; ((rename Fr _ _ _ _ => lF'); (with_unfolding_all refine' For_invVF lF' ?k1 ?k2 ?_; (case k1 => exact rfl); (case k2 => exact rfl); k_whole))))
local macro_rules | `(tactic| walk_at "pyIter ref") => `(tactic| (k_here; (with_reducible rename News _ _ _ _ => N9); (try kcf_lens); k_dflt ((refine loop4 (f1 := [_, _, _, _, _]) (f2 := [_, _, _, _, _, _]) (by rfl) (by assumption) (by first | exact small_one (by kcf_bnd) (by kcf_bnd) (by kcf_bnd) (by kcf_bnd) | decide) (by exact rangeSize_nat _ _) (by k_asm) (by k_mem) N9 (fun c' i' t' u' h' tk' I' oI' hi' hinv' hln' hnl' hdl' hrl' hap' hof' F' N' => ?_) (fun u' m' h' tk' F' N' => ?_)); (all_goals (try simp only [List.cons_append, List.nil_append] at N')); (all_goals (try (have hi64' : i' ≤ 64 := by omega))); (all_goals (try (have hI1' := hap'.id; have hI2' := hap'.ir; have hI3' := hap'.im))); kcf_last)))
local macro_rules | `(tactic| walk_at "TurnPost") => `(tactic| (dsimp only [TurnPost]))
local macro_rules | `(tactic| walk_at "JoinPost") => `(tactic| (dsimp only [JoinPost]))
local macro_rules | `(tactic| walk_at "exec If") => `(tactic| (k_here; (with_reducible show wpAny _ _ (exec (Stmt.If (PySem.Expr.Compare (PySem.Expr.Name _ _) _ _ _) _ _ _) _) _ _ _); (fail_if_success (with_reducible show wpAny _ _ _ (JoinPost _ _ _ _ _) _ _)); (with_reducible rename News _ _ _ _ => N9); k_dflt ((refine join4 (f1 := [_, _, _, _, _]) (f2 := [_, _, _, _, _, _]) (by k_asm) N9 (by assumption) ?_ (fun c' u' h' tk' hok' hdu' hln' hdl' hrl' hap' F' N' => ?_)); (all_goals (try simp only [List.cons_append, List.nil_append] at N')))))
local macro_rules | `(tactic| walk_at "subscriptTail Name BinOp ref int") => `(tactic| (k_here; (with_reducible show wpAny _ _ (subscriptTail _ _ (Value.ref _) (Value.int (Int.fmod _ 5) _)) _ _ _); k_dflt ((refine word_item (by k_asm) (by k_mem) (fmod_lo _ (by decide)) (fmod_hi _ (by decide)) ?_ (by with_unfolding_all rfl)); intro word' tw' hw')))
local macro_rules | `(tactic| walk_at "subscriptTail Name BinOp ref int") => `(tactic| (k_here; (with_reducible show wpAny _ _ (subscriptTail _ _ (Value.ref _) (Value.int (Int.fmod _ 8) _)) _ _ _); k_dflt ((refine hash_item (by k_asm) (by k_mem) (fmod_lo _ (by decide)) (fmod_hi _ (by decide)) ?_ (by with_unfolding_all rfl)); intro vh' hvh')))
local macro_rules | `(tactic| walk_at "subscriptTail Name BinOp ref int") => `(tactic| (k_here; (with_reducible show wpAny _ _ (subscriptTail _ _ (Value.ref _) (Value.int (Int.fmod _ 4) _)) _ _ _); k_dflt ((refine cmp_item (by k_asm) (by k_mem) (fmod_lo _ (by decide)) (fmod_hi _ (by decide)) ?_ (by with_unfolding_all rfl)); intro vc' hvc')))
local macro_rules | `(tactic| walk_at "call ref") => `(tactic| (k_here; (with_reducible show wpAny _ _ (call (.ref 52) _) _ _ _); k_dflt (refine' call_cls ?k1 ?k2 ?k3 ?k4 ?k5 ?k6 ?_; (case k1 => k_asm); (case k2 => k_asm); (case k3 => k_asm); (case k4 => k_is); (case k5 => k_is); (case k6 => k_is); k_whole; intro x' d' h' F' N' l1 l2; (try k_lt l1); (try k_lt2 l2); (try k_sweep); k_enter)))
local macro_rules | `(tactic| walk_at "subscriptTail Name Slice ref ref") => `(tactic| (k_here; k_dflt (refine' kms_slice_lit ?F ?N ?l ?p ?q ?e ?_ ?s ?t ?z; (case F => k_asm); (case N => k_asm); (case l => exact News.isList (by k_asm) (by k_mem)); (case p => kmk_part); (case q => kmk_part); (case e => first | (with_reducible exact pick_refs5) | exact pick_last5); (case s => with_unfolding_all rfl); (case t => kmk_pure); (case z => (rw [PySem.sizeLine_eq, List.size_toArray]; omega))); intro D' h' F' N' l1; (try k_lt l1); (try k_sweep)))
local macro_rules | `(tactic| walk_at "call type:tuple") => `(tactic| (k_here; k_dflt (refine' kde_tupleOf ?k1 ?k2 ?k3 ?k4 ?k5 ?_; (case k1 => k_asm); (case k2 => k_asm); (case k3 => exact News.isList (by k_asm) (by k_mem)); (case k5 => rfl); (case k4 => (rw [List.size_toArray]; exact Nat.le_trans refs5_len (by decide)))); intro D' h' F' N' l1; (try k_lt l1); (try k_sweep)))
local macro_rules | `(tactic| walk_at "exec Assign cons ListComp") => `(tactic| (k_here; k_dflt ((refine' Assign_ListComp_seqT (by rfl) ?F ?q ?i ?N ?m ?z (by rfl) (by with_unfolding_all rfl) (by with_unfolding_all rfl) (by decide) (by rfl) (by decide) (by rfl) (by rfl) (by rfl) (fun g' S' hS' => ?_)); (case F => k_asm); (case i => (intro Q' hQ'; (first | (refine' nameX_L ?F ?v ?_ ?a ?b; (case F => k_asm); (case a => rfl); (case b => rfl); (case v => rfl); assumption)))); (case N => k_asm); (case m => k_mem); (case q => exact ⟨_, by first | exact Or.inl rfl | exact Or.inr rfl⟩); (case z => exact Nat.le_trans refs5_len (by rw [PySem.sizeLine_eq]; decide)))))
local macro_rules | `(tactic| walk_at "CompRestT") => `(tactic| (k_here; k_dflt ((refine' comp_flds2 (Oks.last5 (by assumption)) (sub_last5 (by assumption) (by kcf_all)) (fun r' I' oI' C' oC' D' m' ys' h' tk' E' m1' m2' htv' hC' hx' F' N' off' ne' => ?_) (fun r' I' oI' C' oC' D' m' ys' h' tk' E' m1' m2' htv' hC' hx' F' N' off' ne' => ?_) ?_); kcf_last)))
local macro_rules | `(tactic| walk_at "call ref") => `(tactic| (k_here; (with_reducible show wpAny _ _ (call (.ref 61) _) _ _ _); k_dflt ((refine' ts4_call (by k_asm) (by k_asm) (by k_asm) (by k_asm) (by k_asm) (by rfl) ?hm ⟨_, Or.inl rfl⟩ (by rfl) (sub_kept5 (by assumption) (by kcf_all)) (Oks.kept (Oks.last5 (by assumption))) names5_len (by decide) ?_); (case hm => k_mem); intro _ _ _ hts' _ _; (try dsimp only); (try k_fold))))
local macro_rules | `(tactic| walk_at "call ref") => `(tactic| (k_here; (with_reducible show wpAny _ _ (call (.ref 71) _) _ _ _); k_dflt ((refine' ln_call (by k_asm) (by k_asm) (by k_asm) (by k_asm) (by k_asm) (by rfl) (words_ok (by assumption)) words5_len ?_); intro _ _ _ _ _ hzs' _ _; (try dsimp only); (try k_fold))))
local macro_rules | `(tactic| k_handed) => `(tactic| exact handed_TV (by with_reducible assumption))
local macro_rules | `(tactic| walk_at "getAttr ref true") => `(tactic| (k_here; (with_reducible show wpAny _ _ (getAttr (Value.ref (Fd4.x _)) _ _) _ _ _); k_dflt ((refine' get_own ?k1 ?k2 ?k3 ?k4 ?k5 ?k6 ?k7 ?k8 ?k9 ?_); (((case k1 => k_asm); (case k2 => k_asm))); ((case k3 => exact inst4 (by k_asm) (by with_reducible assumption) (by with_reducible assumption) (by kcf_all))); (((case k4 => k_is); (case k5 => k_is); (case k6 => k_is); (case k7 => k_is))); ((case k8 => k_get)); ((case k9 => k_handed)))))
local macro_rules | `(tactic| k_all) => `(tactic| ((with_reducible show ∀ p, p ∈ led4 _ _ _ _ _ → _); first | exact Apart4.d (by with_reducible assumption) | exact Apart4.r (by with_reducible assumption) | exact Apart4.n (by with_reducible assumption) | exact Apart4.i (by with_reducible assumption) | exact allLt_of (by with_reducible assumption)))
local macro_rules | `(tactic| walk_at "call builtin:list.append") => `(tactic| (k_here; (try dsimp only [List.cons_append, List.nil_append]); (with_reducible show wpAny _ _ (call (Value.builtin _) [Value.ref _, _]) _ _ _); k_dflt (refine' append_L ?k1 ?k2 ?k3 ?k4 ?_; (((case k1 => k_asm); (case k2 => k_asm))); ((case k3 => k_upd)); ((case k4 => first | exact room4 (by with_reducible assumption) (by with_reducible assumption) | exact room4' (by with_reducible assumption) (by with_reducible assumption) | (rw [PySem.sizeLine_eq]; omega))); k_whole); intro h' F' N'; (try k_sweep)))
local macro_rules | `(tactic| walk_at "truthy") => `(tactic| (k_here; k_dflt ((refine truthy_TV (by with_reducible assumption) (by k_asm) (by k_mem) ?_); intro tk')))
local macro_rules | `(tactic| walk_at "compareOp Is none") => `(tactic| (k_here; (with_reducible show wpAny _ _ (compareOp _ (Fd4.vh _) _) _ _ _); k_dflt (refine is_none_TV (by with_reducible assumption) ?_)))
local macro_rules | `(tactic| walk_at "ite") => `(tactic| (k_here; (with_reducible show if Fd4.kp _ = true then _ else _); ((refine ite_kp (fun hkp' => ?_) (fun hkp' => ?_)))))
local macro_rules | `(tactic| walk_at "CompEnd") => `(tactic| (k_here; k_dflt ((refine' ElK.done ?F ?N ?sub ?off ?S ?r); (case F => assumption); (case N => assumption); (case sub => kcf_all); (case off => first | assumption | (simp only [LCg.Off3, and_true]; assumption)); (case S => first | exact (SIn.use (by assumption) (by k_mem)) | lcg_src | assumption); (case r => first | (with_reducible assumption) | exact ⟨by with_reducible assumption, rfl⟩ | exact ⟨by with_reducible assumption, _, rfl⟩))))
local macro_rules | `(tactic| walk_at "getMethod ref") => `(tactic| (k_here; (with_reducible show wpAny _ _ (getMethod _ (PySem.Str.ofString "add_fn") _) _ _ _); k_dflt (refine' kmu_own ?k1 ?k2 ?k3 ?k4 ?k5 ?_; (case k1 => k_asm); (case k2 => k_asm); (case k3 => k_inst); (case k4 => k_is); (case k5 => k_is); k_whole)))
local macro_rules | `(tactic| walk_at "callWith ref") => `(tactic| ((with_reducible show wpAny _ _ (callWith _ _ _ _ (backToKw _ (keywordEach (_ :: _) _))) _ _ _); (k_here; k_dflt (refine callWith_FKW (by rfl) ?_))))
local macro_rules | `(tactic| walk_at "callWith ref nil") => `(tactic| ((with_reducible show wpAny _ _ (callWith _ _ _ _ (backToKw _ (keywordEach (_ :: _) _))) _ _ _); (k_here; k_dflt (refine callWith_FKW (by rfl) ?_))))
local macro_rules | `(tactic| walk_at "JoinEnd") => `(tactic| (k_here; k_dflt ((refine' joined4 ?F ?N ?I ?m1 ?m2 ?m3 ?m4 ?m5 ?m6 ?hr ?hl ?hk ?ho ?hd ?ha); (case F => k_asm); (case N => k_asm); (case I => k_mem); (case m1 => k_mem); (case m2 => k_mem); (case m3 => k_mem); (case m4 => kcf_all); (case m5 => kcf_all); (case m6 => kcf_all); (case hr => (intro z h1 h2 h3; simp [kstB, h1, h2, h3])); (case hl => omega); (case hk => assumption); (case ho => exact Inv4.ok (by with_reducible assumption)); (case hd => exact Inv4.du (by with_reducible assumption)); (case ha => with_reducible assumption))))
local macro_rules | `(tactic| walk_at "JoinEnd") => `(tactic| (k_here; k_dflt ((refine' joinedS false ?F ?N ?I ?m1 ?m2 ?m3 ?m4 ?m5 ?m6 ?mx ?md ?hr ?hl ?hk ?ho ?hd ?hw ?htr ?hdt ?ha ?hx ?hdd); ((case F => k_asm); (case N => k_asm); (case I => k_mem); ((case m1 => k_mem)); ((case m2 => k_mem)); (case m3 => k_mem); (case m4 => kcf_all); (case m5 => kcf_all); (case m6 => kcf_all); ((case mx => k_mem)); ((case md => k_mem)); ((case hr => (intro z h1 h2 h3; simp [kstB, h1, h2, h3]))); (case hl => omega); (case hk => assumption); (case ho => exact Inv4.ok (by with_reducible assumption)); (case hd => exact Inv4.du (by with_reducible assumption)); (case hw => with_reducible assumption); (case ha => with_reducible assumption); (((case hx => (refine ⟨?_, ?_, ?_, ?_⟩ <;> omega)); (case hdd => (refine ⟨?_, ?_, ?_, ?_⟩ <;> omega))))); (case hdt => exact (if_neg (by decide)).symm); ((case htr => exact tr_false (by with_reducible assumption) (by with_reducible assumption) (by omega) (fun h => fmod42' (by omega)))))))
local macro_rules | `(tactic| walk_at "JoinEnd") => `(tactic| (k_here; k_dflt ((refine' joinedS true ?F ?N ?I ?m1 ?m2 ?m3 ?m4 ?m5 ?m6 ?mx ?md ?hr ?hl ?hk ?ho ?hd ?hw ?htr ?hdt ?ha ?hx ?hdd); ((case F => k_asm); (case N => k_asm); (case I => k_mem); ((case m1 => k_mem)); ((case m2 => k_mem)); (case m3 => k_mem); (case m4 => kcf_all); (case m5 => kcf_all); (case m6 => kcf_all); ((case mx => k_mem)); ((case md => k_mem)); ((case hr => (intro z h1 h2 h3; simp [kstB, h1, h2, h3]))); (case hl => omega); (case hk => assumption); (case ho => exact Inv4.ok (by with_reducible assumption)); (case hd => exact Inv4.du (by with_reducible assumption)); (case hw => with_reducible assumption); (case ha => with_reducible assumption); (((case hx => (refine ⟨?_, ?_, ?_, ?_⟩ <;> omega)); (case hdd => (refine ⟨?_, ?_, ?_, ?_⟩ <;> omega))))); (case hdt => exact (if_pos rfl).symm); ((case htr => exact tr_true (by with_reducible assumption) (by with_reducible assumption) (by first | omega | exact Or.inr ⟨by omega, fmod42 (by omega)⟩))))))
local macro_rules | `(tactic| walk_at "compareOp In int ref") => `(tactic| (k_here; k_dflt (refine in_146 (News.isTup (by k_asm) (by k_mem)) ?_)))
local macro_rules | `(tactic| walk_at "execs cons Expr nil") => `(tactic| ((with_reducible refine wpAny_execs_cons ?_); (try dsimp only)))
local macro_rules | `(tactic| walk_at "compareOp NotEq int int") => `(tactic| (k_here; (with_reducible refine ne_intS ?_)))
local macro_rules | `(tactic| walk_at "call builtin:len") => `(tactic| (k_here; (with_reducible show wpAny _ _ (call (Value.builtin "len") [Value.ref _]) _ _ _); k_dflt (first | refine len_noted (by k_asm) (by k_mem) (by with_reducible assumption) (by with_reducible assumption) ?_ | refine len_one (by k_asm) (by k_mem) ?_)))
local macro_rules | `(tactic| walk_at "call builtin:len cons nil") => `(tactic| (k_here; (with_reducible show wpAny _ _ (call (Value.builtin "len") [Value.ref _]) _ _ _); k_dflt (first | refine len_noted (by k_asm) (by k_mem) (by with_reducible assumption) (by with_reducible assumption) ?_ | refine len_one (by k_asm) (by k_mem) ?_)))
local macro_rules | `(tactic| walk_at "subscriptTail Name Name ref int") => `(tactic| (k_here; k_dflt (refine last_item (by k_asm) (by k_mem) (by with_reducible assumption) (i1000 (by with_reducible assumption)) ?_ (by with_unfolding_all rfl))))
local macro_rules | `(tactic| walk_at "compareOp NotEq ref ref") => `(tactic| (k_here; k_dflt (refine ne_strs (by k_asm) (by k_mem) (by k_mem) (by with_reducible assumption) (by with_reducible assumption) (by ke_room) ?_)))
local macro_rules | `(tactic| walk_at "compareOp NotEq ref ref") => `(tactic| (k_here; k_dflt (refine ne_tup1 (by k_asm) (by k_mem) (by k_mem) (by ke_room) ?_)))
local macro_rules | `(tactic| walk_at "compareOp NotEq str str") => `(tactic| (k_here; (with_reducible show wpAny _ _ (compareOp _ (Value.str (dueTxt _) _) _) _ _ _); k_dflt (refine ne_due (by with_reducible assumption) ?_)))
local macro_rules | `(tactic| walk_at "eval ListComp") => `(tactic| (k_here; k_dflt (refine LCt.ListComp_T (F₀ := by k_asm) (by with_unfolding_all rfl) (by decide) (by rfl) (by decide) (by rfl) ?_)))
local macro_rules | `(tactic| walk_at "CompSrcT") => `(tactic| (k_here; k_dflt ((refine LCt.CompSrcT.ledger (by rfl) (by k_asm) (by k_asm) (by k_mem) (by (rw [PySem.sizeLine_eq, List.size_toArray]; exact Nat.le_trans due_len (by decide))) ?_; intro g'); (refine' comp_due4 (Oks.last5 (by with_reducible assumption)) (due5 (by with_reducible assumption)) (fun r' tk' I' oI' C' oC' D' m' ys' h' tkk' E' hm' hw' hC' hx' F' N' off' ne' => ?_) (fun ys' hy' => ?_)); kcf_last)))
local macro_rules | `(tactic| walk_at "FinE") => `(tactic| ((unfold LCg.FinE); intro D' h' tk' F' N' o1'; (try simp only [List.nil_append, List.cons_append] at o1'); (try simp only [LCg.Off1, and_true] at o1'); (try simp only [List.nil_append, List.cons_append] at N'); (try dsimp only)))
local macro_rules | `(tactic| walk_at "TurnEnd") => `(tactic| (k_here; k_dflt ((refine' end4 ?F ?N ?I ?no ?m1 ?m2 ?m3 ?m4 ?m5 ?m6 ?hr ?hl ?hk ?ho ?hd); (((case F => k_asm); (case N => k_asm); (case I => k_mem); (case m1 => k_mem); (case m2 => k_mem); (case m3 => k_mem))); (((case m4 => kcf_all); (case m5 => kcf_all); (case m6 => kcf_all))); ((case no => with_reducible assumption)); ((case hr => (intro z h1 h2 h3 h4 h5 h6 h7 h8 h9 h10; simp [kstB, h1, h2, h3, h4, h5, h6, h7, h8, h9, h10]))); (((case hl => with_reducible assumption); (case hk => exact len_snoc (by with_reducible assumption)); (case ho => with_reducible assumption); (case hd => with_reducible assumption))))))
set_option maxRecDepth 100000 in
set_option maxHeartbeats 40000000 in
theorem walked : PySem.Challenge.rw_io0052_04.Holds := by
  refine hd ?_
  w_strict (k_go0; (all_goals try k_fold); k_steps)
end

end Mine

theorem PySem.Challenge.cw_io0052_04_holds : PySem.Challenge.rw_io0052_04.Holds := by
  exact Mine.walked
