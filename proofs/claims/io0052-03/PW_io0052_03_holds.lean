import PyProof.Rows.All
import Wide.All
import OpenK.AllK
import Wide.FinOn
import PySem.Challenge.RW_io0052_03
open PySem PySem.W PyProof.Rows PySem.Calls
set_option Elab.async false
set_option linter.unusedVariables false
namespace Mine

section
def clip (v : Option Int) (d n : Int) : Int := match v with
  | none => d
  | some i => max 0 (min (if i < 0 then i + n else i) n)
theorem slice_at {x : PySem.Str} {l u : Option Int} {a b : Nat} (hab : a ≤ b) (hb : b ≤ x.length) (hl : clip l 0 x.length = a) (hu : clip u x.length x.length = b) :
    PySem.Txt.slice x l u = ⟨((x.cps.toList.drop a).take (b - a)).toArray⟩ := by
  have hs : Builtin.Str.strSliceIndices l u 1 x.length = (List.range (b - a)).map (a + ·) := by
    have e : Builtin.Str.strSliceIndices l u 1 x.length = sliceRange (clip l 0 x.length) (clip u x.length x.length) 1 := by
      cases l <;> cases u <;> rfl
    rw [e, hl, hu]
    unfold sliceRange
    simp only [show (1 : Int) > 0 by decide, if_true, Int.ediv_one, Int.one_mul]
    by_cases h : a < b
    · rw [if_pos (by omega)]
      have : ((b : Int) - a + 1 - 1).toNat = b - a := by omega
      rw [this]
      apply List.map_congr_left
      intro k _
      omega
    · rw [if_neg (by omega)]
      have : b - a = 0 := by omega
      simp [this]
  have hp := pick_run x.cps a (b - a)
  unfold PySem.Txt.slice
  rw [hs]
  split
  · rename_i h
    have hn : b - a = x.length := by simpa using h
    have ha : a = 0 := by omega
    subst ha
    rw [Nat.sub_zero] at hn
    subst hn
    have e : (x.cps.toList.drop 0).take (x.length - 0) = x.cps.toList := by
      rw [List.drop_zero, Nat.sub_zero]
      exact List.take_of_length_le (by rw [Array.length_toList]; exact Nat.le_refl _)
    rw [e]
  · rw [hp]
theorem slice_mid {p q r : PySem.Str} {l u : Option Int} (hl : clip l 0 (p ++ q ++ r).length = p.length) (hu : clip u (p ++ q ++ r).length (p ++ q ++ r).length = ((p.length + q.length : Nat) : Int)) :
    PySem.Txt.slice (p ++ q ++ r) l u = q := by
  have hlen : (p ++ q ++ r).length = p.length + q.length + r.length := by rw [PySem.Str.length_append, PySem.Str.length_append]
  rw [slice_at (a := p.length) (b := p.length + q.length) (by omega) (by omega) hl hu]
  have e : (p ++ q ++ r).cps.toList = p.cps.toList ++ (q.cps.toList ++ r.cps.toList) := by
    rw [KT.app_list, KT.app_list, List.append_assoc]
  have lp : p.cps.toList.length = p.length := Array.length_toList
  have lq : q.cps.toList.length = q.length := Array.length_toList
  rw [e, ← lp, List.drop_left, Nat.add_sub_cancel_left, ← lq, List.take_left]
theorem app_empty (a : PySem.Str) : a ++ PySem.Str.empty = a := by
  have e : (a ++ PySem.Str.empty).cps = a.cps := by
    rw [PySem.Str.cps_append]
    simp [PySem.Str.empty]
  exact congrArg PySem.Str.mk e
theorem app_assoc (a b c : PySem.Str) : a ++ b ++ c = a ++ (b ++ c) := by
  have e : (a ++ b ++ c).cps = (a ++ (b ++ c)).cps := by
    simp only [PySem.Str.cps_append, Array.append_assoc]
  exact congrArg PySem.Str.mk e
theorem empty_len : PySem.Str.empty.length = 0 := rfl
/-- the first k signs -/
theorem slice_to {p r : PySem.Str} {k : Int} (hk : k = p.length) : PySem.Txt.slice (p ++ r) none (some k) = p := by
  have h := slice_mid (p := PySem.Str.empty) (q := p) (r := r) (l := none) (u := some k)
  rw [KT.empty_app] at h
  refine h rfl ?_
  rw [PySem.Str.length_append, hk, empty_len, clip]
  have : ¬ ((p.length : Int) < 0) := by omega
  rw [if_neg this]; omega
/-- all but the last ones -/
theorem slice_toNeg {p r : PySem.Str} {k : Int} (hk : k = -(r.length : Int)) (hr : 0 < r.length) : PySem.Txt.slice (p ++ r) none (some k) = p := by
  have h := slice_mid (p := PySem.Str.empty) (q := p) (r := r) (l := none) (u := some k)
  rw [KT.empty_app] at h
  refine h rfl ?_
  rw [PySem.Str.length_append, hk, empty_len, clip]
  rw [if_pos (by omega)]; omega
theorem slice_from {p r : PySem.Str} {k : Int} (hk : k = p.length) : PySem.Txt.slice (p ++ r) (some k) none = r := by
  have h := slice_mid (p := p) (q := r) (r := PySem.Str.empty) (l := some k) (u := none)
  rw [app_empty] at h
  refine h ?_ ?_
  · rw [PySem.Str.length_append, hk, clip, if_neg (by omega)]; omega
  · rw [PySem.Str.length_append]; rfl
theorem slice_fromNeg {p r : PySem.Str} {k : Int} (hk : k = -(r.length : Int)) (hr : 0 < r.length) : PySem.Txt.slice (p ++ r) (some k) none = r := by
  have h := slice_mid (p := p) (q := r) (r := PySem.Str.empty) (l := some k) (u := none)
  rw [app_empty] at h
  refine h ?_ ?_
  · rw [PySem.Str.length_append, hk, clip, if_pos (by omega)]; omega
  · rw [PySem.Str.length_append]; rfl
theorem slice_inner {p q r : PySem.Str} {k j : Int} (hk : k = p.length) (hj : j = -(r.length : Int)) (hr : 0 < r.length) : PySem.Txt.slice (p ++ q ++ r) (some k) (some j) = q := by
  refine slice_mid ?_ ?_
  · rw [PySem.Str.length_append, PySem.Str.length_append, hk, clip, if_neg (by omega)]; omega
  · rw [PySem.Str.length_append, PySem.Str.length_append, hj, clip, if_pos (by omega)]; omega
end

section
/-- a comprehension without a test, by an invariant over the turn's number, the list so far and the ledger -/
theorem comp_inv {prog : Program} {w : World} {A : Around} {h₀ : Heap} {L : Addr} {m : Str → Option Value} {env : Env} {elt : Expr} {x : Str} {scope : Scope} {cl : List (Str × Addr)} {s : Shared}
    {S : List (Addr × Obj) → Prop} {P : Nat → Value → Prop} {Fin : List Value → List (Addr × Obj) → Prop} {n : Nat} {news : List (Addr × Obj)}
    (R : Nat → List Value → List (Addr × Obj) → Prop) (h0 : R 0 [] news)
    (turn : ∀ i v I oI C oC D m₂ ys nx h tk (E' : Value → Shared → Prop), i < n → P i v → R i ys nx → LCg.NsObj oC m₂ → m₂ x = some v → Fr h₀ L h m →
      News h₀ L h ((I, oI) :: (C, oC) :: (D, LCg.lst ys) :: nx) → LCg.Off3 I C D nx → ((@Ne Nat I C) ∧ (@Ne Nat I D) ∧ (@Ne Nat C D)) →
      wpAny (model prog w) A (eval elt (compEnvC scope cl C env)) (LCg.CompEnd h₀ L m { s with heap := h, toks := tk } I oI C oC D (LCg.lst ys) S (fun y nx' => R (i + 1) (ys ++ [y]) nx')) E' { s with heap := h, toks := tk })
    (fin : ∀ ys nx, R n ys nx → Fin ys nx) : LCg.CompRest prog w A h₀ L m env elt x scope cl s S P Fin n 0 [] news := by
  have key : ∀ (j i : Nat) (ys : List Value) (nx : List (Addr × Obj)), i + j = n → R i ys nx → LCg.CompRest prog w A h₀ L m env elt x scope cl s S P Fin j i ys nx := by
    intro j
    induction j with
    | zero => intro i ys nx hi hr; exact LCg.CompRest.zero (fin ys nx (by rw [show n = i by omega]; exact hr))
    | succ j ih =>
      intro i ys nx hi hr
      refine LCg.CompRest.succ ?_
      intro v I oI C oC D m₂ h tk E' hv hC hx F N off ne
      refine wpAny_mono (turn i v I oI C oC D m₂ ys nx h tk E' (by omega) hv hr hC hx F N off ne) (fun y s₂ hq => ?_) fun _ _ e => e
      obtain ⟨h', tk', nw, e, F', N', off', hS, hr'⟩ := hq
      exact ⟨h', tk', nw, e, F', N', off', hS, ih (i + 1) _ nw (by omega) hr'⟩
  exact key n 0 [] news (by omega) h0

/-- what a turn that leaves the ledger hands on -/
def ElK (news : List (Addr × Obj)) (R : Value → Prop) (y : Value) (nx : List (Addr × Obj)) : Prop := nx = news ∧ R y
theorem ElK.intro {news : List (Addr × Obj)} {R : Value → Prop} {y : Value} (h : R y) : ElK news R y news := ⟨rfl, h⟩
/-- the same where the ledger stays as it is -/
theorem comp_keep {prog : Program} {w : World} {A : Around} {h₀ : Heap} {L : Addr} {m : Str → Option Value} {env : Env} {elt : Expr} {x : Str} {scope : Scope} {cl : List (Str × Addr)} {s : Shared}
    {S : List (Addr × Obj) → Prop} {P : Nat → Value → Prop} {Fin : List Value → List (Addr × Obj) → Prop} {n : Nat} {news : List (Addr × Obj)}
    (R : Nat → List Value → Prop) (h0 : R 0 [])
    (turn : ∀ i v I oI C oC D m₂ ys h tk (E' : Value → Shared → Prop), i < n → P i v → R i ys → LCg.NsObj oC m₂ → m₂ x = some v → Fr h₀ L h m →
      News h₀ L h ((I, oI) :: (C, oC) :: (D, LCg.lst ys) :: news) → LCg.Off3 I C D news → ((@Ne Nat I C) ∧ (@Ne Nat I D) ∧ (@Ne Nat C D)) →
      wpAny (model prog w) A (eval elt (compEnvC scope cl C env)) (LCg.CompEnd h₀ L m { s with heap := h, toks := tk } I oI C oC D (LCg.lst ys) S (ElK news fun y => R (i + 1) (ys ++ [y]))) E' { s with heap := h, toks := tk })
    (fin : ∀ ys, R n ys → Fin ys news) : LCg.CompRest prog w A h₀ L m env elt x scope cl s S P Fin n 0 [] news := by
  refine comp_inv (fun i ys nx => nx = news ∧ R i ys) ⟨rfl, h0⟩ ?_ ?_
  · rintro i v I oI C oC D m₂ ys nx h tk E' hi hv ⟨rfl, hr⟩ hC hx F N off ne
    refine wpAny_mono (turn i v I oI C oC D m₂ ys h tk E' hi hv hr hC hx F N off ne) (fun y s₂ hq => ?_) fun _ _ e => e
    obtain ⟨h', tk', nw, e, F', N', off', hS, hr'⟩ := hq
    exact ⟨h', tk', nw, e, F', N', off', hS, hr'⟩
  · rintro ys nx ⟨rfl, hr⟩
    exact fin ys hr

theorem ElK.done {h₀ : Heap} {L I C D : Addr} {m : Str → Option Value} {s₁ : Shared} {oI oC oD : Obj} {S : List (Addr × Obj) → Prop} {news : List (Addr × Obj)} {R : Value → Prop} {y : Value} {h' : Heap} {tk : Nat} {all : List (Addr × Obj)}
    (F : Fr h₀ L h' m) (N : News h₀ L h' all) (sub : ∀ p ∈ (I, oI) :: (C, oC) :: (D, oD) :: news, p ∈ all) (off : LCg.Off3 I C D news) (hS : S news) (r : R y) :
    LCg.CompEnd h₀ L m s₁ I oI C oC D oD S (ElK news R) y { s₁ with heap := h', toks := tk } := LCg.CompEnd.intro F N news sub off hS (.intro r)

/-- what a turn hands on that makes objects of its own: they are set behind the others -/
def ElG (news : List (Addr × Obj)) (R : Value → List (Addr × Obj) → Prop) (y : Value) (nx : List (Addr × Obj)) : Prop := ∃ own, nx = news ++ own ∧ R y own
theorem comp_grow {prog : Program} {w : World} {A : Around} {h₀ : Heap} {L : Addr} {m : Str → Option Value} {env : Env} {elt : Expr} {x : Str} {scope : Scope} {cl : List (Str × Addr)} {s : Shared}
    {S : List (Addr × Obj) → Prop} {P : Nat → Value → Prop} {Fin : List Value → List (Addr × Obj) → Prop} {n : Nat} {news : List (Addr × Obj)}
    (R : Nat → List Value → List (Addr × Obj) → Prop) (h0 : R 0 [] [])
    (turn : ∀ i v I oI C oC D m₂ ys own h tk (E' : Value → Shared → Prop), i < n → P i v → R i ys own → LCg.NsObj oC m₂ → m₂ x = some v → Fr h₀ L h m →
      News h₀ L h ((I, oI) :: (C, oC) :: (D, LCg.lst ys) :: (news ++ own)) → LCg.Off3 I C D (news ++ own) → ((@Ne Nat I C) ∧ (@Ne Nat I D) ∧ (@Ne Nat C D)) →
      wpAny (model prog w) A (eval elt (compEnvC scope cl C env)) (LCg.CompEnd h₀ L m { s with heap := h, toks := tk } I oI C oC D (LCg.lst ys) S (ElG news fun y own' => R (i + 1) (ys ++ [y]) own')) E' { s with heap := h, toks := tk })
    (fin : ∀ ys own, R n ys own → Fin ys (news ++ own)) : LCg.CompRest prog w A h₀ L m env elt x scope cl s S P Fin n 0 [] news := by
  refine comp_inv (fun i ys nx => ∃ own, nx = news ++ own ∧ R i ys own) ⟨[], by simp, h0⟩ ?_ ?_
  · rintro i v I oI C oC D m₂ ys nx h tk E' hi hv ⟨own, rfl, hr⟩ hC hx F N off ne
    exact turn i v I oI C oC D m₂ ys own h tk E' hi hv hr hC hx F N off ne
  · rintro ys nx ⟨own, rfl, hr⟩
    exact fin ys own hr
theorem off3_grow {I C D x d : Addr} {ox od : Obj} {news own : List (Addr × Obj)} (off : LCg.Off3 I C D (news ++ own)) (h : @LT.lt Nat _ I d ∧ @LT.lt Nat _ C d ∧ @LT.lt Nat _ D d ∧ @LT.lt Nat _ d x) :
    LCg.Off3 I C D (news ++ (x, ox) :: (d, od) :: own) := by
  have o := off.mem
  refine LCg.Off3.of fun p hp => ?_
  rcases List.mem_append.mp hp with hp | hp
  · exact o p (List.mem_append_left _ hp)
  · rcases List.mem_cons.mp hp with rfl | hp
    · exact ⟨Nat.ne_of_gt (by omega), Nat.ne_of_gt (by omega), Nat.ne_of_gt (by omega)⟩
    · rcases List.mem_cons.mp hp with rfl | hp
      · exact ⟨Nat.ne_of_gt (by omega), Nat.ne_of_gt (by omega), Nat.ne_of_gt (by omega)⟩
      · exact o p (List.mem_append_right _ hp)
/-- a turn's end that has made one object and its dict -/
theorem ElG.made {h₀ : Heap} {L I C D x d : Addr} {m : Str → Option Value} {s₁ : Shared} {oI oC oD ox od : Obj} {S : List (Addr × Obj) → Prop} {news own : List (Addr × Obj)} {R : Value → List (Addr × Obj) → Prop} {y : Value} {h' : Heap} {tk : Nat} {all : List (Addr × Obj)}
    (F : Fr h₀ L h' m) (N : News h₀ L h' all) (sub : ∀ p ∈ (I, oI) :: (C, oC) :: (D, oD) :: (news ++ (x, ox) :: (d, od) :: own), p ∈ all) (off : LCg.Off3 I C D (news ++ own))
    (lt : @LT.lt Nat _ I d ∧ @LT.lt Nat _ C d ∧ @LT.lt Nat _ D d ∧ @LT.lt Nat _ d x) (hS : S (news ++ (x, ox) :: (d, od) :: own)) (r : R y ((x, ox) :: (d, od) :: own)) :
    LCg.CompEnd h₀ L m s₁ I oI C oC D oD S (ElG news R) y { s₁ with heap := h', toks := tk } :=
  LCg.CompEnd.intro F N _ sub (off3_grow off lt) hS ⟨_, rfl, r⟩

/-- what a field's name may be here: a short text, a small number, None -/
def NmOk (v : Value) : Prop := (∃ s t, v = .str s t ∧ s.length ≤ 100) ∨ (∃ i t, v = .int i t ∧ 0 ≤ i ∧ i < 1000) ∨ v = .none
/-- its text -/
def nmTxt : Value → PySem.Str
  | .str s _ => s
  | .int i _ => PySem.Str.ofString (toString i)
  | _ => PySem.Str.ofString "None"
def NmsOk (vs : List Value) : Prop := ∀ v ∈ vs, NmOk v
theorem NmsOk.snoc {vs : List Value} {v : Value} (h : NmsOk vs) (hv : NmOk v) : NmsOk (vs ++ [v]) := by
  intro x hx
  rcases List.mem_append.mp hx with h1 | h1
  · exact h x h1
  · rw [List.mem_singleton.mp h1]; exact hv

/-- one field: an object of class C with the one attribute name -/
def FieldIs (C : Addr) (news : List (Addr × Obj)) (y v : Value) : Prop :=
  ∃ a d h t, y = .ref a ∧ (a, instObj C d) ∈ news ∧ (d, dictOf [⟨h, .str (PySem.Str.ofString "name") t, v⟩] 1) ∈ news
inductive FieldsAt (C : Addr) (news : List (Addr × Obj)) : List Value → List Value → Prop
  | nil : FieldsAt C news [] []
  | cons {y v ys vs} : FieldIs C news y v → FieldsAt C news ys vs → FieldsAt C news (y :: ys) (v :: vs)
theorem FieldIs.mono {C : Addr} {a b : List (Addr × Obj)} {y v : Value} (h : FieldIs C a y v) (hs : ∀ p ∈ a, p ∈ b) : FieldIs C b y v :=
  let ⟨x, d, hh, t, e, h1, h2⟩ := h; ⟨x, d, hh, t, e, hs _ h1, hs _ h2⟩
theorem FieldsAt.mono {C : Addr} {a b : List (Addr × Obj)} {ys vs : List Value} (h : FieldsAt C a ys vs) (hs : ∀ p ∈ a, p ∈ b) : FieldsAt C b ys vs := by
  induction h with
  | nil => exact .nil
  | cons h1 _ ih => exact .cons (h1.mono hs) ih
theorem FieldsAt.snoc {C : Addr} {news : List (Addr × Obj)} {ys vs : List Value} {y v : Value} (h : FieldsAt C news ys vs) (hv : FieldIs C news y v) : FieldsAt C news (ys ++ [y]) (vs ++ [v]) := by
  induction h with
  | nil => exact .cons hv .nil
  | cons h1 _ ih => exact .cons h1 ih
theorem FieldsAt.length {C : Addr} {news : List (Addr × Obj)} {ys vs : List Value} (h : FieldsAt C news ys vs) : ys.length = vs.length := by
  induction h with
  | nil => rfl
  | cons _ _ ih => simp [ih]
theorem FieldsAt.get {C : Addr} {news : List (Addr × Obj)} {ys vs : List Value} (h : FieldsAt C news ys vs) : ∀ {i : Nat} {y : Value}, ys[i]? = some y → ∃ v, vs[i]? = some v ∧ FieldIs C news y v := by
  induction h with
  | nil => intro i y hy; simp at hy
  | cons h1 _ ih =>
    intro i y hy
    cases i with
    | zero => simp only [List.getElem?_cons_zero, Option.some.injEq] at hy; subst hy; exact ⟨_, rfl, h1⟩
    | succ i => exact ih (by simpa using hy)
theorem FieldsAt.tail {C : Addr} {news : List (Addr × Obj)} {ys vs : List Value} (h : FieldsAt C news ys vs) : FieldsAt C news ys.tail vs.tail := by
  cases h with
  | nil => exact .nil
  | cons _ h => exact h
/-- the names of the law: their kinds -/
theorem nm_chr (n : Nat) (t : Tok) : NmOk (.str ⟨#[n]⟩ t) := .inl ⟨_, _, rfl, by show (1 : Nat) ≤ 100; omega⟩
theorem nm_int {i : Int} (t : Tok) (h0 : 0 ≤ i) (h1 : i < 1000) : NmOk (.int i t) := .inr (.inl ⟨_, _, rfl, h0, h1⟩)
theorem nm_none : NmOk .none := .inr (.inr rfl)
theorem nm_str {s : PySem.Str} (t : Tok) (h : s.length ≤ 100) : NmOk (.str s t) := .inl ⟨_, _, rfl, h⟩
theorem FieldIs.made {C x d : Addr} {hs : Int} {t : Tok} {v : Value} {own : List (Addr × Obj)} : FieldIs C ((x, instObj C d) :: (d, dictOf [⟨hs, .str (PySem.Str.ofString "name") t, v⟩] 1) :: own) (.ref x) v :=
  ⟨x, d, hs, t, rfl, .head _, .tail _ (.head _)⟩
theorem fields_step {C x d : Addr} {hs : Int} {t : Tok} {v : Value} {own : List (Addr × Obj)} {ys vs : List Value} {i : Nat} (h : FieldsAt C own ys (vs.take i)) (hv : vs.toArray[i]? = some v) :
    FieldsAt C ((x, instObj C d) :: (d, dictOf [⟨hs, .str (PySem.Str.ofString "name") t, v⟩] 1) :: own) (ys ++ [.ref x]) (vs.take (i + 1)) := by
  have e : vs.take (i + 1) = vs.take i ++ [v] := by rw [List.take_add_one, (by simpa using hv : vs[i]? = some v)]; rfl
  rw [e]
  exact (h.mono fun p hp => .tail _ (.tail _ hp)).snoc .made
/-- the end of a turn of [_FIELD_BASE(name) for name in names] -/
theorem fields_end {K : Addr} {h₀ : Heap} {L I C D x d : Addr} {m : Str → Option Value} {s₁ : Shared} {oI oC oD : Obj} {S : List (Addr × Obj) → Prop} {news own : List (Addr × Obj)} {hs : Int} {t : Tok} {v : Value} {ys vs : List Value} {i : Nat} {h' : Heap} {tk : Nat}
    (F : Fr h₀ L h' m) (N : News h₀ L h' ((x, instObj K d) :: (d, dictOf [⟨hs, .str (PySem.Str.ofString "name") t, v⟩] 1) :: (I, oI) :: (C, oC) :: (D, oD) :: (news ++ own)))
    (off : LCg.Off3 I C D (news ++ own)) (lt : @LT.lt Nat _ I d ∧ @LT.lt Nat _ C d ∧ @LT.lt Nat _ D d ∧ @LT.lt Nat _ d x) (hf : FieldsAt K own ys (vs.take i)) (hv : vs.toArray[i]? = some v)
    (hS : ∀ own', S (news ++ own')) :
    LCg.CompEnd h₀ L m s₁ I oI C oC D oD S (ElG news fun y own' => FieldsAt K own' (ys ++ [y]) (vs.take (i + 1))) (.ref x) { s₁ with heap := h', toks := tk } :=
  ElG.made F N (by
    intro p hp
    simp only [List.mem_cons, List.mem_append] at hp ⊢
    rcases hp with h | h | h | h | h | h | h <;> simp only [h, true_or, or_true]) off lt (hS _) (fields_step (hs := hs) (t := t) hf hv)
theorem comp_fields {prog : Program} {w : World} {A : Around} {h₀ : Heap} {L : Addr} {m : Str → Option Value} {env : Env} {elt : Expr} {x : Str} {scope : Scope} {cl : List (Str × Addr)} {s : Shared}
    {S : List (Addr × Obj) → Prop} {Fin : List Value → List (Addr × Obj) → Prop} {news : List (Addr × Obj)} {vs : List Value} (K : Addr)
    (turn : ∀ i v I oI C oC D m₂ ys own h tk (E' : Value → Shared → Prop), vs.toArray[i]? = some v → FieldsAt K own ys (vs.take i) → LCg.NsObj oC m₂ → m₂ x = some v → Fr h₀ L h m →
      News h₀ L h ((I, oI) :: (C, oC) :: (D, LCg.lst ys) :: (news ++ own)) → LCg.Off3 I C D (news ++ own) → ((@Ne Nat I C) ∧ (@Ne Nat I D) ∧ (@Ne Nat C D)) →
      wpAny (model prog w) A (eval elt (compEnvC scope cl C env)) (LCg.CompEnd h₀ L m { s with heap := h, toks := tk } I oI C oC D (LCg.lst ys) S (ElG news fun y own' => FieldsAt K own' (ys ++ [y]) (vs.take (i + 1)))) E' { s with heap := h, toks := tk })
    (fin : ∀ ys own, FieldsAt K own ys vs → Fin ys (news ++ own)) : LCg.CompRest prog w A h₀ L m env elt x scope cl s S (fun i v => vs.toArray[i]? = some v) Fin vs.toArray.size 0 [] news :=
  comp_grow (fun i ys own => FieldsAt K own ys (vs.take i)) .nil (fun i v I oI C oC D m₂ ys own h tk E' _ hv hr hC hx F N off ne => turn i v I oI C oC D m₂ ys own h tk E' hv hr hC hx F N off ne)
    fun ys own h => fin ys own (by simpa using h)

/-- no object here is an iterator -/
def NoIt (l : List (Addr × Obj)) : Prop := ∀ p ∈ l, p.2.cls ≠ .type "list_iterator" ∧ p.2.cls ≠ .type "tuple_iterator" ∧ p.2.cls ≠ .type "range_iterator"
theorem NoIt.nil : NoIt [] := fun _ h => nomatch h
theorem NoIt.cons {a : Addr} {o : Obj} {l : List (Addr × Obj)} (h : o.cls ≠ .type "list_iterator" ∧ o.cls ≠ .type "tuple_iterator" ∧ o.cls ≠ .type "range_iterator") (hl : NoIt l) : NoIt ((a, o) :: l) := fun p hp => by
  rcases List.mem_cons.mp hp with rfl | hp
  · exact h
  · exact hl p hp
theorem NoIt.append {a b : List (Addr × Obj)} (ha : NoIt a) (hb : NoIt b) : NoIt (a ++ b) := fun p hp => (List.mem_append.mp hp).elim (ha p) (hb p)

/-- each object lies elsewhere than I, or is no iterator -/
def OffIt (I : Addr) (l : List (Addr × Obj)) : Prop := ∀ p ∈ l, p.1 ≠ I ∨ (p.2.cls ≠ .type "list_iterator" ∧ p.2.cls ≠ .type "tuple_iterator" ∧ p.2.cls ≠ .type "range_iterator")
theorem NoIt.off {l : List (Addr × Obj)} (h : NoIt l) {I : Addr} : OffIt I l := fun p hp => .inr (h p hp)
theorem OffIt.of {l : List (Addr × Obj)} {I : Addr} (h : ∀ p ∈ l, p.1 ≠ I) : OffIt I l := fun p hp => .inl (h p hp)
def TurnEnd (h₀ : Heap) (L I : Addr) (oI : Obj) (J : (Str → Option Value) → List (Addr × Obj) → Prop) (s₁ s₂ : Shared) : Prop :=
  ∃ h' tk m' nx all, s₂ = { s₁ with heap := h', toks := tk } ∧ Fr h₀ L h' m' ∧ News h₀ L h' all ∧ (I, oI) ∈ all ∧ (∀ p ∈ nx, p ∈ all) ∧ OffIt I nx ∧ J m' nx
def TurnPost (h₀ : Heap) (L I : Addr) (oI : Obj) (J : (Str → Option Value) → List (Addr × Obj) → Prop) (s₁ : Shared) (Q : Flow → Shared → Prop) (f : Flow) (s₂ : Shared) : Prop :=
  match f with
  | .ret v => Q (.ret v) s₂
  | .brk => Q .next s₂
  | _ => TurnEnd h₀ L I oI J s₁ s₂

section
variable {prog : Program} {w : World} {A : Around} {E : Value → Shared → Prop} {s : Shared} {env : Env} {h₀ : Heap} {x : Str} {body : List Stmt} {Q : Flow → Shared → Prop}
/-- a for loop by an invariant over the turn's number, the frame and the ledger, which may grow -/
theorem loop_any {I : Addr} {fp : List Addr} {n : Nat} {P : Nat → Value → Prop} {St : Nat → Heap → Prop} {m₀ : Str → Option Value} {news Src : List (Addr × Obj)} (J : Nat → (Str → Option Value) → List (Addr × Obj) → Prop)
    (W : Walks prog w A I fp [I] n P St) (hLf : env.locals ∉ fp) (hI : h₀.get? I = none) (hnw : ∀ p ∈ news, p.1 ≠ I)
    (hIo : ∀ i h, St i h → ∃ o, h.get? I = some o ∧ (o.cls = .type "list_iterator" ∨ o.cls = .type "tuple_iterator" ∨ o.cls = .type "range_iterator"))
    (hfp : ∀ b ∈ fp, b = I ∨ h₀.get? b ≠ none ∨ ∃ o, (b, o) ∈ Src) (hst : St 0 s.heap) (F : Fr h₀ env.locals s.heap m₀) (N : News h₀ env.locals s.heap news) (hj : J 0 m₀ news) (hsrc : ∀ i m nx, J i m nx → ∀ p ∈ Src, p ∈ nx)
    (turn : ∀ i v m₁ nx h tk I oI, i < n → P i v → J i m₁ nx → (∀ p ∈ nx, p.1 ≠ I) → Fr h₀ env.locals h (fun y => if y = x then some v else m₁ y) → News h₀ env.locals h ((I, oI) :: nx) →
      wpAny (model prog w) A (execs body env) (TurnPost h₀ env.locals I oI (J (i + 1)) { s with heap := h, toks := tk } Q) E { s with heap := h, toks := tk })
    (done : ∀ m₁ nx h tk, J n m₁ nx → Fr h₀ env.locals h m₁ → News h₀ env.locals h nx → Q .next { s with heap := h, toks := tk }) :
    LoopAtV prog w A h₀ env x body Q E (.ref I) s := by
  refine ⟨I, fp, [I], n, P, St, m₀, news, J, rfl, W, hLf, fun b hb => by rw [List.mem_singleton.mp hb]; exact hI, fun p hp hb => hnw p hp (List.mem_singleton.mp hb), hst, F, N, hj, ?_, ?_⟩
  · rintro i v m₁ nx s₁ own ⟨hh', tk', rfl⟩ hin hP hJ hoff hown hget hall hst₁ F₁ N₁
    obtain ⟨oI, hoI, hcl⟩ := hIo _ _ hst₁
    have hII : (I, oI) ∈ own := hall I (W.sub I (List.mem_singleton.mpr rfl)) hI oI hoI
    have N₂ : News h₀ env.locals hh' ((I, oI) :: nx) := fun p hp => by
      rcases List.mem_cons.mp hp with rfl | hp
      · exact N₁ _ (List.mem_append_left _ hII)
      · exact N₁ _ (List.mem_append_right _ hp)
    refine wpAny_mono (turn i v m₁ nx hh' tk' I oI hin hP hJ (fun p hp e => hoff p hp (List.mem_singleton.mpr e)) F₁ N₂) (fun f s₂ p => ?_) fun _ _ e => e
    have fin : TurnEnd h₀ env.locals I oI (J (i + 1)) { s with heap := hh', toks := tk' } s₂ → LoopStepU h₀ env.locals [I] own (J (i + 1)) { s with heap := hh', toks := tk' } .next s₂ := by
      rintro ⟨h', tk, m', nx', all, e, F', N', hIa, hsub, hno, hJ'⟩
      refine ⟨rfl, h', tk, m', nx', e, F', fun p hp => ?_, fun p hp hb => ?_, hJ'⟩
      · rcases List.mem_append.mp hp with hp | hp
        · rcases hfp p.1 (hown p hp) with h1 | h1 | ⟨o, h1⟩
          · have h2 := hget p hp
            rw [h1, hoI] at h2
            have h3 : p = (I, oI) := Prod.ext h1 (Option.some.inj h2).symm
            rw [h3]; exact N' _ hIa
          · exact absurd (N₁ p (List.mem_append_left _ hp)).2.2 h1
          · have h2 := (N₁ _ (List.mem_append_right own (hsrc _ _ _ hJ _ h1))).1
            rw [hget p hp] at h2
            have h3 : p = (p.1, o) := Prod.ext rfl (Option.some.inj h2)
            rw [h3]; exact N' _ (hsub _ (hsrc _ _ _ hJ' _ h1))
        · exact N' p (hsub p hp)
      · have h1 := List.mem_singleton.mp hb
        have h2 := (N' p (hsub p hp)).1
        rw [h1, (N' _ hIa).1] at h2
        rcases hno p hp with h3 | h3
        · exact h3 h1
        rw [← Option.some.inj h2] at h3
        rcases hcl with hc | hc | hc
        · exact h3.1 hc
        · exact h3.2.1 hc
        · exact h3.2.2 hc
    cases f with
    | ret v => exact .ret p
    | brk => exact .brk p
    | next => exact .next (fin p)
    | cont => exact .cont (fin p)
  · rintro h' tk m' nx' F' N' _ hJ
    exact done m' nx' h' tk hJ F' N'
end

/-- the state of a loop: its ledger, its names, what holds of it -/
def LoopSt {σ : Type} (x : Str) (Led : σ → List (Addr × Obj)) (ps : σ → List (Str × Value)) (stored : List Str) (m₀ : Str → Option Value) (P : σ → Prop) (m : Str → Option Value) (nx : List (Addr × Obj)) : Prop :=
  ∃ c : σ, nx = Led c ∧ (∀ p ∈ ps c, m p.1 = some p.2) ∧ (∀ z, z ≠ x → (∀ p ∈ ps c, z ≠ p.1) → stored.contains z = false → m z = m₀ z) ∧ P c
theorem TurnEnd.intro {σ : Type} {x : Str} {Led : σ → List (Addr × Obj)} {ps : σ → List (Str × Value)} {stored : List Str} {m₀ : Str → Option Value} {P : σ → Prop} {h₀ : Heap} {L I : Addr} {oI : Obj} {s₁ : Shared} {h' : Heap} {tk : Nat} {m' : Str → Option Value} {all : List (Addr × Obj)}
    (c : σ) (F : Fr h₀ L h' m') (N : News h₀ L h' all) (hI : (I, oI) ∈ all) (sub : ∀ p ∈ Led c, p ∈ all) (no : OffIt I (Led c)) (hk : ∀ p ∈ ps c, m' p.1 = some p.2) (hr : ∀ z, z ≠ x → (∀ p ∈ ps c, z ≠ p.1) → stored.contains z = false → m' z = m₀ z) (hp : P c) :
    TurnEnd h₀ L I oI (LoopSt x Led ps stored m₀ P) s₁ { s₁ with heap := h', toks := tk } := ⟨h', tk, m', Led c, all, rfl, F, N, hI, sub, no, c, rfl, hk, hr, hp⟩

section
variable {prog : Program} {w : World} {A : Around} {E : Value → Shared → Prop} {s : Shared} {env : Env} {h₀ : Heap} {x : Str} {body : List Stmt} {Q : Flow → Shared → Prop}
theorem iter_tupS {σ : Type} {ax : Addr} {ep : Nat} {vs : List Value} {m₀ : Str → Option Value} (Led : σ → List (Addr × Obj)) (ps : σ → List (Str × Value)) (stored : List Str) (P : Nat → σ → Prop) (c₀ : σ)
    (hh : A.handled = none) (F : Fr h₀ env.locals s.heap m₀) (N : News h₀ env.locals s.heap (Led c₀)) (hm : ∀ c, (ax, ({ cls := .type "tuple", data := .seq vs.toArray ep } : Obj)) ∈ Led c)
    (hk : ∀ p ∈ ps c₀, m₀ p.1 = some p.2) (hp : P 0 c₀)
    (turn : ∀ (c : σ) i v (u : Str → Option Value) h tk I oI, vs.toArray[i]? = some v → P i c → (∀ p ∈ Led c, p.1 ≠ I) → Fr h₀ env.locals h (fun y => if y = x then some v else kstB (fun z => if stored.contains z then u z else m₀ z) (ps c) y) → News h₀ env.locals h ((I, oI) :: Led c) →
      wpAny (model prog w) A (execs body env) (TurnPost h₀ env.locals I oI (LoopSt x Led ps stored m₀ (P (i + 1))) { s with heap := h, toks := tk } Q) E { s with heap := h, toks := tk })
    (done : ∀ (c : σ) (u : Str → Option Value) h tk, P vs.length c → Fr h₀ env.locals h (fun y => if y = x then u y else kstB (fun z => if stored.contains z then u z else m₀ z) (ps c) y) → News h₀ env.locals h (Led c) → Q .next { s with heap := h, toks := tk }) :
    wpAny (model prog w) A (pyIter (.ref ax)) (fun it s₂ => LoopAtV prog w A h₀ env x body Q E it s₂) E s := by
  have hax := N _ (hm c₀)
  have hl : IsTup s.heap ax vs.toArray := ⟨_, hax.1, rfl, ep, rfl⟩
  have hne : ax ≠ s.heap.objs.size := Nat.ne_of_lt (Heap.lt_size hax.1)
  refine wpAny_pyIter_tuple hl ?_
  refine loop_any (Src := [(ax, ({ cls := .type "tuple", data := .seq vs.toArray ep } : Obj))]) (m₀ := m₀) (news := Led c₀) (fun i m nx => LoopSt x Led ps stored m₀ (P i) m nx) (Walks.tuple hh s.heap.objs.size ax hne vs.toArray) ?_ (next_is_new F) (fun p hp => Nat.ne_of_lt (Heap.lt_size (N p hp).1)) ?_ ?_ ⟨⟨_, Heap.get?_push_size _ rfl, rfl, rfl⟩, ?_⟩ (F.push _) (fun p hp => ⟨Heap.get?_push_of_some _ (N p hp).1, (N p hp).2⟩) ⟨c₀, rfl, hk, fun _ _ _ _ => rfl, hp⟩ ?_ ?_ ?_
  · intro hmm
    rcases List.mem_cons.mp hmm with e | hmm
    · exact absurd F.ns.lt (e ▸ Nat.lt_irrefl _)
    · exact hax.2.1 (List.mem_singleton.mp hmm).symm
  · intro i h st
    obtain ⟨o, e, hc, _⟩ := st.1
    exact ⟨o, e, .inr (.inl hc)⟩
  · intro b hb
    rcases List.mem_cons.mp hb with e | hb
    · exact .inl e
    · rw [List.mem_singleton.mp hb]; exact .inr (.inr ⟨_, .head _⟩)
  · obtain ⟨o, e, r⟩ := hl
    exact ⟨o, Heap.get?_push_of_some _ e, r⟩
  · rintro i m nx ⟨c, rfl, _⟩ p hp
    rw [List.mem_singleton.mp hp]; exact hm c
  · rintro i v m₁ nx h tk I oI hi hP ⟨c, rfl, h1, h2, hp'⟩ off F₁ N₁
    exact turn c i v m₁ h tk I oI hP hp' off (kst_fr h1 h2 F₁) N₁
  · rintro m₁ nx h tk ⟨c, rfl, h1, h2, hp'⟩ F₁ N₁
    rw [List.size_toArray] at hp'
    exact done c m₁ h tk hp' (kst_frOut h1 h2 F₁) N₁

theorem iter_listS {σ : Type} {ax : Addr} {ep : Nat} {vs : List Value} {m₀ : Str → Option Value} (Led : σ → List (Addr × Obj)) (ps : σ → List (Str × Value)) (stored : List Str) (P : Nat → σ → Prop) (c₀ : σ)
    (hh : A.handled = none) (F : Fr h₀ env.locals s.heap m₀) (N : News h₀ env.locals s.heap (Led c₀)) (hm : ∀ c, (ax, ({ cls := .type "list", data := .seq vs.toArray ep } : Obj)) ∈ Led c)
    (hk : ∀ p ∈ ps c₀, m₀ p.1 = some p.2) (hp : P 0 c₀)
    (turn : ∀ (c : σ) i v (u : Str → Option Value) h tk I oI, vs.toArray[i]? = some v → P i c → (∀ p ∈ Led c, p.1 ≠ I) → Fr h₀ env.locals h (fun y => if y = x then some v else kstB (fun z => if stored.contains z then u z else m₀ z) (ps c) y) → News h₀ env.locals h ((I, oI) :: Led c) →
      wpAny (model prog w) A (execs body env) (TurnPost h₀ env.locals I oI (LoopSt x Led ps stored m₀ (P (i + 1))) { s with heap := h, toks := tk } Q) E { s with heap := h, toks := tk })
    (done : ∀ (c : σ) (u : Str → Option Value) h tk, P vs.length c → Fr h₀ env.locals h (fun y => if y = x then u y else kstB (fun z => if stored.contains z then u z else m₀ z) (ps c) y) → News h₀ env.locals h (Led c) → Q .next { s with heap := h, toks := tk }) :
    wpAny (model prog w) A (pyIter (.ref ax)) (fun it s₂ => LoopAtV prog w A h₀ env x body Q E it s₂) E s := by
  have hax := N _ (hm c₀)
  have hl : s.heap.IsList ax vs.toArray := ⟨_, hax.1, rfl, ep, rfl⟩
  have hne : ax ≠ s.heap.objs.size := Nat.ne_of_lt (Heap.lt_size hax.1)
  refine wpAny_pyIter_list hl ?_
  refine loop_any (Src := [(ax, ({ cls := .type "list", data := .seq vs.toArray ep } : Obj))]) (m₀ := m₀) (news := Led c₀) (fun i m nx => LoopSt x Led ps stored m₀ (P i) m nx) (Walks.list hh s.heap.objs.size ax hne vs.toArray) ?_ (next_is_new F) (fun p hp => Nat.ne_of_lt (Heap.lt_size (N p hp).1)) ?_ ?_ ⟨⟨_, Heap.get?_push_size _ rfl, rfl, rfl⟩, ?_⟩ (F.push _) (fun p hp => ⟨Heap.get?_push_of_some _ (N p hp).1, (N p hp).2⟩) ⟨c₀, rfl, hk, fun _ _ _ _ => rfl, hp⟩ ?_ ?_ ?_
  · intro hmm
    rcases List.mem_cons.mp hmm with e | hmm
    · exact absurd F.ns.lt (e ▸ Nat.lt_irrefl _)
    · exact hax.2.1 (List.mem_singleton.mp hmm).symm
  · intro i h st
    obtain ⟨o, e, hc, _⟩ := st.1
    exact ⟨o, e, .inl hc⟩
  · intro b hb
    rcases List.mem_cons.mp hb with e | hb
    · exact .inl e
    · rw [List.mem_singleton.mp hb]; exact .inr (.inr ⟨_, .head _⟩)
  · exact hl.at fun o e => Heap.get?_push_of_some _ e
  · rintro i m nx ⟨c, rfl, _⟩ p hp
    rw [List.mem_singleton.mp hp]; exact hm c
  · rintro i v m₁ nx h tk I oI hi hP ⟨c, rfl, h1, h2, hp'⟩ off F₁ N₁
    exact turn c i v m₁ h tk I oI hP hp' off (kst_fr h1 h2 F₁) N₁
  · rintro m₁ nx h tk ⟨c, rfl, h1, h2, hp'⟩ F₁ N₁
    rw [List.size_toArray] at hp'
    exact done c m₁ h tk hp' (kst_frOut h1 h2 F₁) N₁
end

/-- the ledger holds the tuple that a comprehension walks -/
def TupIn (ax : Addr) (its : Array Value) (k : Nat) (nw : List (Addr × Obj)) : Prop := (ax, ({ cls := .type "tuple", data := .seq its k } : Obj)) ∈ nw
section
variable {prog : Program} {w : World} {A : Around} {E : Value → Shared → Prop} {s : Shared} {h₀ : Heap} {L : Addr} {m : Str → Option Value} {env : Env}
def SrcTup (prog : Program) (w : World) (A : Around) (h₀ : Heap) (L : Addr) (m : Str → Option Value) (env : Env) (elt : Expr) (x : Str) (scope : Scope) (cl : List (Str × Addr)) (Fin : Shared → List Value → List (Addr × Obj) → Prop) (xv : Value) (s₁ : Shared) : Prop :=
  ∃ ax its k news, xv = .ref ax ∧ A.handled = none ∧ Fr h₀ L s₁.heap m ∧ News h₀ L s₁.heap news ∧ TupIn ax its k news ∧ its.size ≤ sizeLine ∧
    ∀ g, LCg.CompRest prog w A h₀ L m env elt x scope cl { s₁ with heap := g } (TupIn ax its k) (fun i v => its[i]? = some v) (Fin { s₁ with heap := g }) its.size 0 [] news
theorem tup_st {ax I : Addr} {its : Array Value} {k : Nat} : ∀ i (h h' : Heap) (o : Obj) (nw : List (Addr × Obj)), (h.IsTupleIter I ax i ∧ h.IsTuple ax its) → h.get? I = some o → h'.get? I = some o → (∀ b o, h₀.get? b = some o → h'.get? b = some o) → News h₀ L h' nw → TupIn ax its k nw → (h'.IsTupleIter I ax i ∧ h'.IsTuple ax its) :=
  fun i h h' o nw st e e' _ N S => ⟨by obtain ⟨o', q, r⟩ := st.1; rw [e] at q; cases q; exact ⟨o, e', r⟩, ⟨_, (N _ S).1, rfl, k, rfl⟩⟩
theorem ListComp_tup {elt iter : Expr} {x : Str} {px : Pos} {scope : Scope} {cl : List (Str × Addr)} {pos : Pos} {Q : Value → Shared → Prop} (F₀ : Fr h₀ L s.heap m)
    (hclos : closureFor scope env = pure cl) (hcell : ∀ y ∈ scope.names, y.2 ≠ .cell) (hkind : scope.kind = .function)
    (hnames : ∀ y ∈ scope.names, y.2 = .local → scope.names.lookup y.1 = some .local) (hx : scope.names.lookup x = some .local)
    (h : wpAny (model prog w) A (eval iter env) (SrcTup prog w A h₀ L m env elt x scope cl (fun s₂ => LCg.FinE h₀ L m s₂ Q)) E s)
    (hs : ∀ x, foldedSetIterable iter env x = pure x := by intro _; rfl) :
    wpAny (model prog w) A (eval (.ListComp elt [⟨.Name x px, iter, [], 0⟩] scope pos) env) Q E s := by
  rw [eval_ListComp]
  refine wpAny_comprehension_free (use := none) rfl hs hclos hkind hnames (wpAny_mono h (fun xv s₁ h₁ => ?_) fun _ _ e => e)
  obtain ⟨ax, its, k, news, rfl, hh, F, N, S, hsz, R⟩ := h₁
  have hl : s₁.heap.IsTuple ax its := ⟨_, (N _ S).1, rfl, k, rfl⟩
  have hlt : ax < s₁.heap.objs.size := Heap.lt_size (N _ S).1
  refine wpAny_pyIter_tuple hl ?_
  have up : ∀ b o, s₁.heap.get? b = some o → (s₁.heap.push { cls := .type "tuple_iterator", data := .fields #[.ref ax, .int 0 0] }).get? b = some o := fun b o e => Heap.get?_push_of_some _ e
  refine LCg.block_U (Walks.tuple hh s₁.heap.objs.size ax (Nat.ne_of_lt hlt) its) hsz (fun i h st => by obtain ⟨o, e, _⟩ := st.1; exact ⟨o, e⟩) tup_st hcell hkind hx ⟨⟨_, Heap.get?_push_size _ rfl, rfl, rfl⟩, hl.at fun o e => Heap.get?_push_of_some _ e⟩ (fun b hb => ?_)
    (F.keeps up) (N.grown up) (Nat.ne_of_lt F.ns.lt) (next_is_new F) (fun p hp => Nat.ne_of_lt (Heap.lt_size (N p hp).1)) S (R _) ?_
  · show b < (s₁.heap.push _).objs.size
    rw [Heap.size_push]
    rcases List.mem_cons.mp hb with rfl | hb
    · exact Nat.lt_succ_self _
    · rw [List.mem_singleton.mp hb]; exact Nat.lt_succ_of_lt hlt
  · intro D C h tk m' ys news' F' N' o1 hn hC₀ hD₀ hCL hDL hCD offC fin
    refine ⟨m', hn, fun h'' hs'' => fin D h'' tk (F'.change hs'' hCL hC₀) (fun p hp => ?_) o1⟩
    refine ⟨hs''.extBut _ _ ?_ (N' p hp).1, (N' p hp).2⟩
    rcases List.mem_cons.mp hp with rfl | hp
    · exact Ne.symm hCD
    · exact offC p hp
end

/-- an object that is the list, or the tuple, of these values -/
def SeqObj (o : Obj) (ys : List Value) : Prop := ∃ k, o = { cls := .type "list", data := .seq ys.toArray k } ∨ o = { cls := .type "tuple", data := .seq ys.toArray k }
def SIn (ax : Addr) (oax : Obj) (S : List (Addr × Obj) → Prop) : Prop := ∀ nw, (ax, oax) ∈ nw → S nw
theorem SIn.use {ax : Addr} {oax : Obj} {S : List (Addr × Obj) → Prop} (h : SIn ax oax S) {nw : List (Addr × Obj)} (hm : (ax, oax) ∈ nw) : S nw := h nw hm
/-- a list | tuple in the ledger as the source of a comprehension: one rule for both -/
theorem ListComp_seq {prog : Program} {w : World} {A : Around} {E : Value → Shared → Prop} {s : Shared} {h₀ : Heap} {L : Addr} {m : Str → Option Value} {env : Env} {elt iter : Expr} {x : Str} {px : Pos} {scope : Scope} {cl : List (Str × Addr)} {pos : Pos} {Q : Value → Shared → Prop}
    {ax : Addr} {oax : Obj} {ys : List Value} {news : List (Addr × Obj)} (hh : A.handled = none) (F : Fr h₀ L s.heap m) (hq : SeqObj oax ys) (hi : ∀ Q' : Value → Shared → Prop, Q' (.ref ax) s → wpAny (model prog w) A (eval iter env) Q' E s) (N : News h₀ L s.heap news) (hm : (ax, oax) ∈ news) (hsz : ys.length ≤ sizeLine)
    (hclos : closureFor scope env = pure cl) (hcell : ∀ y ∈ scope.names, y.2 ≠ .cell) (hkind : scope.kind = .function)
    (hnames : ∀ y ∈ scope.names, y.2 = .local → scope.names.lookup y.1 = some .local) (hx : scope.names.lookup x = some .local)
    (h : ∀ (g : Heap) (S : List (Addr × Obj) → Prop), SIn ax oax S → LCg.CompRest prog w A h₀ L m env elt x scope cl { s with heap := g } S (fun i v => ys.toArray[i]? = some v) (LCg.FinE h₀ L m { s with heap := g } Q) ys.toArray.size 0 [] news)
    (hs : ∀ x, foldedSetIterable iter env x = pure x := by intro _; rfl) :
    wpAny (model prog w) A (eval (.ListComp elt [⟨.Name x px, iter, [], 0⟩] scope pos) env) Q E s := by
  obtain ⟨k, rfl | rfl⟩ := hq
  · exact LCg.ListComp_U F hclos hcell hkind hnames hx (hi _ (LCg.CompSrc.ledger hh F N hm (by rw [List.size_toArray]; exact hsz) fun g => h g _ fun nw hw => .inr ⟨_, hw, rfl, _, rfl⟩)) hs
  · exact ListComp_tup F hclos hcell hkind hnames hx (hi _ ⟨ax, _, k, news, rfl, hh, F, N, hm, by rw [List.size_toArray]; exact hsz, fun g => h g _ fun nw hw => hw⟩) hs
theorem truthy_seq {prog : Program} {w : World} {A : Around} {E : Value → Shared → Prop} {s : Shared} {h₀ : Heap} {L : Addr} {ax : Addr} {oax : Obj} {ys : List Value} {news : List (Addr × Obj)} {Q : Bool → Shared → Prop} (N : News h₀ L s.heap news) (hm : (ax, oax) ∈ news) (hq : SeqObj oax ys) (hsz : ys.length ≤ 1000)
    (h : Q (!ys.isEmpty) { s with toks := s.toks + 1 + 1 }) : wpAny (model prog w) A (truthy (.ref ax)) Q E s := by
  have hf : ((ys.toArray.size : Nat) : Int) < 2 ^ 63 := by rw [List.size_toArray]; omega
  obtain ⟨k, rfl | rfl⟩ := hq
  · have := wpAny_truthy_list (prog := prog) (w := w) (A := A) (E := E) (Q := Q) (News.isList N hm) hf
    exact this (by simpa using h)
  · have := truthy_tuple (prog := prog) (w := w) (A := A) (E := E) (Q := Q) (News.isTup N hm) hf
    exact this (by simpa using h)

/-- one piece of the text, and all of them -/
def piece (word t : PySem.Str) : PySem.Str := word ++ PySem.Str.ofString "." ++ t
def tstr (word : PySem.Str) (ts : List PySem.Str) : PySem.Str :=
  if ts = [] then PySem.Str.ofString "()" else PySem.Str.ofString "(" ++ PySem.Txt.join (PySem.Str.ofString ",") (ts.map (piece word)) ++ PySem.Str.ofString ",)"

theorem truthy_seq0 {prog : Program} {w : World} {A : Around} {E : Value → Shared → Prop} {s : Shared} {h₀ : Heap} {L : Addr} {ax : Addr} {oax : Obj} {news : List (Addr × Obj)} {Q : Bool → Shared → Prop} (N : News h₀ L s.heap news) (hm : (ax, oax) ∈ news) (hq : SeqObj oax [])
    (h : Q false { s with toks := s.toks + 1 + 1 }) : wpAny (model prog w) A (truthy (.ref ax)) Q E s := truthy_seq N hm hq (by simp) h
theorem truthy_seq1 {prog : Program} {w : World} {A : Around} {E : Value → Shared → Prop} {s : Shared} {h₀ : Heap} {L : Addr} {ax : Addr} {oax : Obj} {y : Value} {ys : List Value} {news : List (Addr × Obj)} {Q : Bool → Shared → Prop} (N : News h₀ L s.heap news) (hm : (ax, oax) ∈ news) (hq : SeqObj oax (y :: ys)) (hsz : (y :: ys).length ≤ 1000)
    (h : Q true { s with toks := s.toks + 1 + 1 }) : wpAny (model prog w) A (truthy (.ref ax)) Q E s := truthy_seq N hm hq hsz h

theorem strs_snoc {y : PySem.Str} {t : Tok} : ∀ {vs : List Value} {ys : List PySem.Str}, StrsAre vs ys → StrsAre (vs ++ [.str y t]) (ys ++ [y])
  | _, _, .nil => .cons y t .nil
  | _, _, .cons z u r => .cons z u (strs_snoc r)
/-- the pieces' comprehension: [f'{obj_name}.{f.name}' for f in fields] -/
theorem comp_ts {prog : Program} {w : World} {A : Around} {h₀ : Heap} {L : Addr} {m : Str → Option Value} {env : Env} {elt : Expr} {x : Str} {scope : Scope} {cl : List (Str × Addr)} {s : Shared}
    {S : List (Addr × Obj) → Prop} {Fin : List Value → List (Addr × Obj) → Prop} {news news₀ : List (Addr × Obj)} {ys vs : List Value} {K : Addr} {word : PySem.Str} (hf : FieldsAt K news₀ ys vs) (hn : NmsOk vs) (hw₀ : word.length ≤ 16)
    (turn : ∀ v₂ a d hs t I oI C oC D m₂ zs h tk (E' : Value → Shared → Prop), (a, instObj K d) ∈ news₀ → (d, dictOf [⟨hs, .str (PySem.Str.ofString "name") t, v₂⟩] 1) ∈ news₀ → NmOk v₂ → LCg.NsObj oC m₂ → m₂ x = some (.ref a) → Fr h₀ L h m →
      News h₀ L h ((I, oI) :: (C, oC) :: (D, LCg.lst zs) :: news) → LCg.Off3 I C D news → ((@Ne Nat I C) ∧ (@Ne Nat I D) ∧ (@Ne Nat C D)) →
      wpAny (model prog w) A (eval elt (compEnvC scope cl C env)) (LCg.CompEnd h₀ L m { s with heap := h, toks := tk } I oI C oC D (LCg.lst zs) S (ElK news fun y => ∃ t, y = .str (piece word (nmTxt v₂)) t)) E' { s with heap := h, toks := tk })
    (fin : ∀ zs, StrsAre zs (vs.map fun v => piece word (nmTxt v)) → Fin zs news) : LCg.CompRest prog w A h₀ L m env elt x scope cl s S (fun i v => ys.toArray[i]? = some v) Fin ys.toArray.size 0 [] news := by
  refine comp_keep (fun i zs => StrsAre zs ((vs.take i).map fun v => piece word (nmTxt v))) .nil ?_ ?_
  · intro i v I oI C oC D m₂ zs h tk E' _ hv hr hC hx F N off ne
    obtain ⟨v₂, hv₂, a, d, hs, t, rfl, m1, m2⟩ := hf.get (i := i) (by simpa using hv)
    refine wpAny_mono (turn v₂ a d hs t I oI C oC D m₂ zs h tk E' m1 m2 (hn _ (List.mem_of_getElem? hv₂)) hC hx F N off ne) (fun y s₂ hq => ?_) fun _ _ e => e
    obtain ⟨h', tk', nw, e, F', N', off', hS, hnw, t', hy⟩ := hq
    refine ⟨h', tk', nw, e, F', N', off', hS, hnw, ?_⟩
    have e2 : vs.take (i + 1) = vs.take i ++ [v₂] := by rw [List.take_add_one, hv₂]; rfl
    rw [e2, hy, List.map_append]
    exact strs_snoc hr
  · intro zs hz
    refine fin zs ?_
    have : ys.toArray.size = vs.length := by rw [List.size_toArray]; exact hf.length
    rwa [this, List.take_length] at hz

theorem piece_end {word r x : PySem.Str} {tk : Tok} (e : r = piece word x) : ∃ t, Value.str r tk = .str (piece word x) t := ⟨tk, by rw [e]⟩
theorem piece_is {word x : PySem.Str} : PySem.Str.empty ++ word ++ PySem.Str.ofString "." ++ x = piece word x := by rw [KT.empty_app]; rfl

theorem nmTxt_len {v : Value} (h : NmOk v) : (nmTxt v).length ≤ 100 := by
  rcases h with ⟨s, t, rfl, h⟩ | ⟨i, t, rfl, h0, h1⟩ | rfl
  · exact h
  · exact Nat.le_trans (KT.len_num h0 (by omega)) (by decide)
  · decide
theorem piece_len {word x : PySem.Str} (hw : word.length ≤ 16) (hx : x.length ≤ 100) : (piece word x).length ≤ 117 := by
  unfold piece
  rw [PySem.Str.length_append, PySem.Str.length_append]
  have : (PySem.Str.ofString ".").length = 1 := by decide
  omega
theorem sum_le {α : Type} (f : α → Nat) (b : Nat) : ∀ l : List α, (∀ a ∈ l, f a ≤ b) → (l.map f).sum ≤ b * l.length
  | [], _ => by simp
  | a :: r, h => by
    have h1 := h a (.head _)
    have h2 := sum_le f b r fun x hx => h x (.tail _ hx)
    simp only [List.map_cons, List.sum_cons, List.length_cons, Nat.mul_add, Nat.mul_one]
    omega
theorem pieces_sum {word : PySem.Str} {vs : List Value} (hw : word.length ≤ 16) (hn : NmsOk vs) : ((vs.map fun v => piece word (nmTxt v)).map (·.length)).sum ≤ 117 * vs.length := by
  rw [List.map_map]
  exact sum_le _ 117 vs fun v hv => piece_len hw (nmTxt_len (hn v hv))
theorem join_ts {prog : Program} {w : World} {A : Around} {E : Value → Shared → Prop} {s : Shared} {h₀ : Heap} {L D : Addr} {nw : List (Addr × Obj)} {zs vs : List Value} {word : PySem.Str} {t : Tok} {Q : Value → Shared → Prop}
    (hz : StrsAre zs (vs.map fun v => piece word (nmTxt v))) (N : News h₀ L s.heap nw) (hm : (D, LCg.lst zs) ∈ nw) (hn : NmsOk vs) (hl : vs.length ≤ 63) (hw : word.length ≤ 16)
    (h : ∀ t' k, (PySem.Txt.join (PySem.Str.ofString ",") (vs.map fun v => piece word (nmTxt v))).length ≤ 8000 → Q (.str (PySem.Txt.join (PySem.Str.ofString ",") (vs.map fun v => piece word (nmTxt v))) t') { s with toks := k }) :
    wpAny (model prog w) A (call (.builtin "str.join") [.str (PySem.Str.ofString ",") t, .ref D]) Q E s := by
  have hs := pieces_sum hw hn
  have h1 : (PySem.Str.ofString ",").length = 1 := by decide
  refine join_listC (News.isList N hm) (ys := vs.map fun v => piece word (nmTxt v)) (by simpa using hz) (by decide) ?_ fun t' k => h t' k ?_
  · rw [List.length_map]; omega
  · show (Builtin.Str.glued _ _).length ≤ _
    rw [StrLaws.glued_eq_join]
    refine Nat.le_trans (StrLaws.join_length_le _ _) ?_
    rw [List.length_map, h1]; omega
theorem tstr_nil {word : PySem.Str} {vs : List Value} (h : vs.length = 0) : PySem.Str.ofString "()" = tstr word (vs.map nmTxt) := by
  rw [List.length_eq_zero_iff.mp h]; rfl
theorem tstr_cons {word : PySem.Str} {vs : List Value} (h : 0 < vs.length) :
    PySem.Str.empty ++ PySem.Str.ofString "(" ++ PySem.Txt.join (PySem.Str.ofString ",") (vs.map fun v => piece word (nmTxt v)) ++ PySem.Str.ofString ",)" = tstr word (vs.map nmTxt) := by
  cases vs with
  | nil => exact absurd h (by simp)
  | cons a r =>
    rw [KT.empty_app, tstr, if_neg (by simp), List.map_map]; rfl

/-- the pieces, each with its comma -/
def pieceC (word t : PySem.Str) : PySem.Str := piece word t ++ PySem.Str.ofString ","
def cat (word : PySem.Str) : List PySem.Str → PySem.Str
  | [] => PySem.Str.empty
  | t :: r => pieceC word t ++ cat word r
theorem cat_append (word : PySem.Str) : ∀ a b : List PySem.Str, cat word (a ++ b) = cat word a ++ cat word b
  | [], b => (KT.empty_app _).symm
  | t :: r, b => by
    show pieceC word t ++ cat word (r ++ b) = pieceC word t ++ cat word r ++ cat word b
    rw [cat_append word r b, app_assoc]
theorem cat_one (word t : PySem.Str) : cat word [t] = pieceC word t := app_empty _
theorem join_cat (word : PySem.Str) : ∀ (t : PySem.Str) (r : List PySem.Str), PySem.Str.join (PySem.Str.ofString ",") ((t :: r).map (piece word)) ++ PySem.Str.ofString "," = cat word (t :: r)
  | t, [] => by
    show piece word t ++ PySem.Str.ofString "," = pieceC word t ++ PySem.Str.empty
    rw [app_empty]; rfl
  | t, u :: r => by
    show piece word t ++ PySem.Str.ofString "," ++ PySem.Str.join (PySem.Str.ofString ",") ((u :: r).map (piece word)) ++ PySem.Str.ofString "," = pieceC word t ++ cat word (u :: r)
    rw [app_assoc, join_cat word u r]; rfl
theorem tstr_cat (word : PySem.Str) (ts : List PySem.Str) : tstr word ts = PySem.Str.ofString "(" ++ cat word ts ++ PySem.Str.ofString ")" := by
  cases ts with
  | nil => rfl
  | cons t r =>
    rw [tstr, if_neg (by simp), ← join_cat]
    have e : PySem.Str.ofString ",)" = PySem.Str.ofString "," ++ PySem.Str.ofString ")" := by decide +kernel
    show _ ++ Builtin.Str.glued _ _ ++ _ = _
    rw [StrLaws.glued_eq_join, e, ← app_assoc, ← app_assoc]
theorem pieceC_len {word x : PySem.Str} (hw : word.length ≤ 16) (hx : x.length ≤ 100) : (pieceC word x).length ≤ 118 := by
  have := piece_len hw hx
  unfold pieceC
  rw [PySem.Str.length_append]
  have : (PySem.Str.ofString ",").length = 1 := by decide
  omega
theorem cat_len {word : PySem.Str} (hw : word.length ≤ 16) : ∀ {vs : List Value}, NmsOk vs → (cat word (vs.map nmTxt)).length ≤ 118 * vs.length
  | [], _ => by simp [cat, empty_len]
  | v :: r, h => by
    show (pieceC word (nmTxt v) ++ cat word (r.map nmTxt)).length ≤ _
    rw [PySem.Str.length_append]
    have h1 := pieceC_len hw (nmTxt_len (h v (.head _)))
    have h2 := cat_len hw (vs := r) fun x hx => h x (.tail _ hx)
    simp only [List.length_cons, Nat.mul_add, Nat.mul_one]
    omega
theorem tstr_len {word : PySem.Str} {vs : List Value} (hw : word.length ≤ 16) (hn : NmsOk vs) (hl : vs.length ≤ 63) : (tstr word (vs.map nmTxt)).length ≤ 8000 := by
  have := cat_len hw hn
  rw [tstr_cat, PySem.Str.length_append, PySem.Str.length_append]
  have h1 : (PySem.Str.ofString "(").length = 1 := by decide
  have h2 : (PySem.Str.ofString ")").length = 1 := by decide
  omega
theorem tstr_first {word : PySem.Str} {ts : List PySem.Str} : PySem.Txt.slice (tstr word ts) none (some 1) = PySem.Str.ofString "(" := by
  rw [tstr_cat, app_assoc]; exact slice_to (by decide)
theorem tstr_last {word : PySem.Str} {ts : List PySem.Str} : PySem.Txt.slice (tstr word ts) (some (-1)) none = PySem.Str.ofString ")" := by
  rw [tstr_cat]; exact slice_fromNeg (by decide) (by decide)
theorem tstr_inner {word : PySem.Str} {ts : List PySem.Str} : PySem.Txt.slice (tstr word ts) (some 1) (some (-1)) = cat word ts := by
  rw [tstr_cat]; exact slice_inner (by decide) (by decide) (by decide)
theorem ne_same {prog : Program} {w : World} {A : Around} {E : Value → Shared → Prop} {s : Shared} {a b : PySem.Str} {t u : Tok} {Q : Value → Shared → Prop} (e : a = b) (h : Q (.bool false) s) : wpAny (model prog w) A (compareOp .NotEq (.str a t) (.str b u)) Q E s :=
  ne_str (by subst e; simpa using h)
theorem eq_same {prog : Program} {w : World} {A : Around} {E : Value → Shared → Prop} {s : Shared} {a b : PySem.Str} {t u : Tok} {Q : Value → Shared → Prop} (e : a = b) (h : Q (.bool true) s) : wpAny (model prog w) A (compareOp .Eq (.str a t) (.str b u)) Q E s :=
  eq_str (by subst e; simpa using h)

section
variable {prog : Program} {w : World} {A : Around} {E : Value → Shared → Prop} {s : Shared} {env : Env} {h₀ : Heap} {body : List Stmt} {Q : Flow → Shared → Prop}
/-- the loop of _law_agrees -/
theorem loop_la {ax : Addr} {ep : Nat} {vs : List Value} {word : PySem.Str} {m₀ : Str → Option Value} {news : List (Addr × Obj)} {t₀ : Tok}
    (hh : A.handled = none) (F : Fr h₀ env.locals s.heap m₀) (N : News h₀ env.locals s.heap news) (hm : (ax, ({ cls := .type "list", data := .seq vs.reverse.toArray ep } : Obj)) ∈ news) (hn : NmsOk vs) (hl : vs.length ≤ 63) (hw : word.length ≤ 16) (hk : m₀ (PySem.Str.ofString "left") = some (.str (cat word (vs.map nmTxt)) t₀))
    (turn : ∀ v (l' : List PySem.Str) (tl : Tok) (u : Str → Option Value) h tk I oI, NmOk v → (cat word l' ++ (piece word (nmTxt v) ++ PySem.Str.ofString ",")).length ≤ 7918 → (piece word (nmTxt v) ++ PySem.Str.ofString ",").length ≤ 7918 → OffIt I news →
      Fr h₀ env.locals h (fun y => if y = PySem.Str.ofString "name" then some v else kstB (fun z => if [PySem.Str.ofString "piece"].contains z then u z else m₀ z) [(PySem.Str.ofString "left", .str (cat word l' ++ (piece word (nmTxt v) ++ PySem.Str.ofString ",")) tl)] y) → News h₀ env.locals h ((I, oI) :: news) →
      wpAny (model prog w) A (execs body env) (TurnPost h₀ env.locals I oI (LoopSt (PySem.Str.ofString "name") (fun _ => news) (fun c : PySem.Str × Tok => [(PySem.Str.ofString "left", .str c.1 c.2)]) [PySem.Str.ofString "piece"] m₀ (fun c => c.1 = cat word l')) { s with heap := h, toks := tk } Q) E { s with heap := h, toks := tk })
    (done : ∀ (tl : Tok) (u : Str → Option Value) h tk, Fr h₀ env.locals h (fun y => if y = PySem.Str.ofString "name" then u y else kstB (fun z => if [PySem.Str.ofString "piece"].contains z then u z else m₀ z) [(PySem.Str.ofString "left", .str PySem.Str.empty tl)] y) → News h₀ env.locals h news → Q .next { s with heap := h, toks := tk }) :
    wpAny (model prog w) A (pyIter (.ref ax)) (fun it s₂ => LoopAtV prog w A h₀ env (PySem.Str.ofString "name") body Q E it s₂) E s := by
  refine iter_listS (ep := ep) (vs := vs.reverse) (fun _ => news) (fun c : PySem.Str × Tok => [(PySem.Str.ofString "left", .str c.1 c.2)]) [PySem.Str.ofString "piece"] (fun i c => c.1 = cat word ((vs.take (vs.length - i)).map nmTxt)) (cat word (vs.map nmTxt), t₀) hh F N (fun _ => hm) ?_ ?_ ?_ ?_
  · intro p hp
    rw [List.mem_singleton.mp hp]; exact hk
  · show cat word (vs.map nmTxt) = cat word ((vs.take (vs.length - 0)).map nmTxt)
    rw [Nat.sub_zero, List.take_length]
  · rintro ⟨left, tl⟩ i v u h tk I oI hv hp off F₁ N₁
    have hv' : vs.reverse[i]? = some v := by simpa using hv
    have hi : i < vs.length := by
      have := (List.getElem?_eq_some_iff.mp hv').1
      simpa using this
    rw [List.getElem?_reverse hi] at hv'
    have e1 : vs.take (vs.length - i) = vs.take (vs.length - (i + 1)) ++ [v] := by
      have e2 : vs.length - i = (vs.length - (i + 1)) + 1 := by omega
      rw [e2, List.take_add_one]
      have e3 : vs[vs.length - (i + 1)]? = some v := by
        rw [show vs.length - (i + 1) = vs.length - 1 - i by omega]; exact hv'
      rw [e3]; rfl
    have hp' : left = cat word ((vs.take (vs.length - (i + 1))).map nmTxt) ++ (piece word (nmTxt v) ++ PySem.Str.ofString ",") := by
      have hp2 : left = cat word ((vs.take (vs.length - i)).map nmTxt) := hp
      rw [hp2, e1, List.map_append, cat_append]
      show _ ++ cat word [nmTxt v] = _
      rw [cat_one]; rfl
    subst hp'
    have hok : NmOk v := hn v (List.mem_of_getElem? hv')
    have hlen : (cat word ((vs.take (vs.length - (i + 1))).map nmTxt)).length ≤ 7800 := by
      have h1 := cat_len hw (vs := vs.take (vs.length - (i + 1))) fun x hx => hn x (List.mem_of_mem_take hx)
      rw [List.length_take] at h1
      have h2 : min (vs.length - (i + 1)) vs.length ≤ 62 := by omega
      omega
    have hp3 : (piece word (nmTxt v) ++ PySem.Str.ofString ",").length ≤ 118 := pieceC_len hw (nmTxt_len hok)
    exact turn v _ tl u h tk I oI hok (by rw [PySem.Str.length_append]; omega) (by omega) (.of off) F₁ N₁
  · rintro ⟨left, tl⟩ u h tk hp F₁ N₁
    have hp' : left = PySem.Str.empty := by
      have hp2 : left = cat word ((vs.take (vs.length - vs.reverse.length)).map nmTxt) := hp
      rw [hp2, List.length_reverse, Nat.sub_self]; rfl
    subst hp'
    exact done tl u h tk F₁ N₁
end

theorem len_ok {x : PySem.Str} (h : x.length ≤ 7918) : ¬ (x.length : Int) ≥ 2 ^ 63 := by omega
theorem left_end {word p : PySem.Str} {l' : List PySem.Str} : PySem.Txt.slice (cat word l' ++ p) none (some (((cat word l' ++ p).length : Int) - (p.length : Int))) = cat word l' :=
  slice_to (by rw [PySem.Str.length_append]; omega)

theorem la_end {word p : PySem.Str} {l' : List PySem.Str} {news all : List (Addr × Obj)} {m₀ m' : Str → Option Value} {h₀ : Heap} {L I : Addr} {oI : Obj} {s₁ : Shared} {h' : Heap} {tk : Nat} {tl : Tok}
    (F : Fr h₀ L h' m') (N : News h₀ L h' all) (hI : (I, oI) ∈ all) (sub : ∀ p ∈ news, p ∈ all) (no : OffIt I news)
    (hk : m' (PySem.Str.ofString "left") = some (.str (PySem.Txt.slice (cat word l' ++ p) none (some (((cat word l' ++ p).length : Int) - (p.length : Int)))) tl))
    (hr : ∀ z, z ≠ PySem.Str.ofString "name" → z ≠ PySem.Str.ofString "left" → z ≠ PySem.Str.ofString "piece" → m' z = m₀ z) :
    TurnEnd h₀ L I oI (LoopSt (PySem.Str.ofString "name") (fun _ => news) (fun c : PySem.Str × Tok => [(PySem.Str.ofString "left", .str c.1 c.2)]) [PySem.Str.ofString "piece"] m₀ (fun c => c.1 = cat word l')) s₁ { s₁ with heap := h', toks := tk } :=
  TurnEnd.intro (_, tl) F N hI sub no (fun q hq => by rw [List.mem_singleton.mp hq]; exact hk) (fun z h1 h2 h3 => hr z h1 (h2 _ (.head _)) (fun e => by subst e; simp at h3)) left_end

/-- a loop over a tuple of words that leaves frame and ledger as they are -/
theorem loop_words {prog : Program} {w : World} {A : Around} {E : Value → Shared → Prop} {s : Shared} {env : Env} {h₀ : Heap} {x : Str} {body : List Stmt} {Q : Flow → Shared → Prop} {ax : Addr} {ep : Nat} {vs : List Value} {m₀ : Str → Option Value} {news : List (Addr × Obj)}
    (hh : A.handled = none) (F : Fr h₀ env.locals s.heap m₀) (N : News h₀ env.locals s.heap news) (hm : (ax, ({ cls := .type "tuple", data := .seq vs.toArray ep } : Obj)) ∈ news) (hvs : ∀ v ∈ vs, ∃ word t, v = .str word t ∧ word.length ≤ 16)
    (turn : ∀ word tw h tk I oI, word.length ≤ 16 → OffIt I news → Fr h₀ env.locals h (fun y => if y = x then some (.str word tw) else m₀ y) → News h₀ env.locals h ((I, oI) :: news) →
      wpAny (model prog w) A (execs body env) (TurnPost h₀ env.locals I oI (LoopSt x (fun _ : Unit => news) (fun _ => []) [] m₀ (fun _ => True)) { s with heap := h, toks := tk } Q) E { s with heap := h, toks := tk })
    (done : ∀ (u : Str → Option Value) h tk, Fr h₀ env.locals h (fun y => if y = x then u y else m₀ y) → News h₀ env.locals h news → Q .next { s with heap := h, toks := tk }) :
    wpAny (model prog w) A (pyIter (.ref ax)) (fun it s₂ => LoopAtV prog w A h₀ env x body Q E it s₂) E s := by
  refine iter_tupS (ep := ep) (vs := vs) (fun _ : Unit => news) (fun _ => []) [] (fun _ _ => True) () hh F N (fun _ => hm) (fun _ h => nomatch h) trivial ?_ ?_
  · rintro _ i v u h tk I oI hv _ off F₁ N₁
    obtain ⟨word, t, rfl, hw⟩ := hvs v (List.mem_of_getElem? (by simpa using hv))
    exact turn word t h tk I oI hw (.of off) F₁ N₁
  · intro _ u h tk _ F₁ N₁
    exact done u h tk F₁ N₁
theorem words_end {x : Str} {news all : List (Addr × Obj)} {m₀ m' : Str → Option Value} {h₀ : Heap} {L I : Addr} {oI : Obj} {s₁ : Shared} {h' : Heap} {tk : Nat}
    (F : Fr h₀ L h' m') (N : News h₀ L h' all) (hI : (I, oI) ∈ all) (sub : ∀ p ∈ news, p ∈ all) (no : OffIt I news) (hr : ∀ z, z ≠ x → m' z = m₀ z) :
    TurnEnd h₀ L I oI (LoopSt x (fun _ : Unit => news) (fun _ => []) [] m₀ (fun _ => True)) s₁ { s₁ with heap := h', toks := tk } :=
  TurnEnd.intro () F N hI sub no (fun _ h => nomatch h) (fun z h1 _ _ => hr z h1) trivial

theorem pick_drop1 (l : List Value) : kms_pick l (some 1) none = l.drop 1 := by
  unfold kms_pick kms_lo kms_hi
  cases l with
  | nil => rfl
  | cons a r => simp
theorem FieldsAt.drop1 {C : Addr} {news : List (Addr × Obj)} {ys vs : List Value} (h : FieldsAt C news ys vs) : FieldsAt C news (ys.drop 1) (vs.drop 1) := by
  cases h with
  | nil => exact .nil
  | cons _ h => exact h
theorem NmsOk.drop1 {vs : List Value} (h : NmsOk vs) : NmsOk (vs.drop 1) := fun v hv => h v (List.mem_of_mem_drop hv)
end

section
set_option maxRecDepth 100000 in
set_option maxHeartbeats 8000000 in
open_top hd for PySem.Challenge.rw_io0052_03
end

section
section
variable {prog : Program} {w : World} {A : Around} {E : Value → Shared → Prop} {s : Shared} {env : Env} {h₀ : Heap} {x : Str} {body : List Stmt} {Q : Flow → Shared → Prop}
/-- a loop over range(n) -/
theorem iter_rangeS {σ : Type} {r : Addr} {b₀ : Int} {t₀ u₀ v₀ : Tok} {n : Nat} {m₀ : Str → Option Value} (Led : σ → List (Addr × Obj)) (ps : σ → List (Str × Value)) (stored : List Str) (P : Nat → σ → Prop) (c₀ : σ)
    (hh : A.handled = none) (hr : IsRange s.heap r 0 b₀ 1 t₀ u₀ v₀) (hsmall : Builtin.Range.small 0 b₀ 1 = true) (hn : Builtin.Range.rangeSize 0 b₀ 1 = (n : Int)) (F : Fr h₀ env.locals s.heap m₀) (N : News h₀ env.locals s.heap (Led c₀))
    (hk : ∀ p ∈ ps c₀, m₀ p.1 = some p.2) (hp : P 0 c₀)
    (turn : ∀ (c : σ) (i : Nat) t (u : Str → Option Value) h tk I oI, i < n → P i c → (∀ p ∈ Led c, p.1 ≠ I) → Fr h₀ env.locals h (fun y => if y = x then some (.int (i : Int) t) else kstB (fun z => if stored.contains z then u z else m₀ z) (ps c) y) → News h₀ env.locals h ((I, oI) :: Led c) →
      wpAny (model prog w) A (execs body env) (TurnPost h₀ env.locals I oI (LoopSt x Led ps stored m₀ (P (i + 1))) { s with heap := h, toks := tk } Q) E { s with heap := h, toks := tk })
    (done : ∀ (c : σ) (u : Str → Option Value) h tk, P n c → Fr h₀ env.locals h (fun y => if y = x then u y else kstB (fun z => if stored.contains z then u z else m₀ z) (ps c) y) → News h₀ env.locals h (Led c) → Q .next { s with heap := h, toks := tk }) :
    wpAny (model prog w) A (pyIter (.ref r)) (fun it s₂ => LoopAtV prog w A h₀ env x body Q E it s₂) E s := by
  refine wpAny_pyIter_range hr hsmall ?_
  have W : Walks prog w A s.heap.objs.size [s.heap.objs.size] [s.heap.objs.size] n (fun i v => i < n ∧ ∃ t, v = .int ((0 : Int) + i * 1) t)
      (fun i h => IsRangeIter h s.heap.objs.size ((0 : Int) + (i : Nat) * 1) ((n : Int) - (i : Nat)) 1) := (Walks.range hh _ 0 1 n).bound
  refine loop_any (Src := []) (m₀ := m₀) (news := Led c₀) (fun i m nx => LoopSt x Led ps stored m₀ (P i) m nx) W ?_ (next_is_new F) (fun p hp => Nat.ne_of_lt (Heap.lt_size (N p hp).1)) ?_ ?_ (by show IsRangeIter _ _ _ _ _; rw [hn]; simpa using Heap.get?_push_size _ rfl) (F.push _) (fun p hp => ⟨Heap.get?_push_of_some _ (N p hp).1, (N p hp).2⟩) ⟨c₀, rfl, hk, fun _ _ _ _ => rfl, hp⟩ (fun _ _ _ _ _ h => nomatch h) ?_ ?_
  · intro hmm
    exact absurd F.ns.lt ((List.mem_singleton.mp hmm) ▸ Nat.lt_irrefl _)
  · intro i h st
    exact ⟨_, st, .inr (.inr rfl)⟩
  · intro b hb
    exact .inl (List.mem_singleton.mp hb)
  · rintro i v m₁ nx h tk I oI hi ⟨_, t, rfl⟩ ⟨c, rfl, h1, h2, hp'⟩ off F₁ N₁
    have e1 : (0 : Int) + (i : Int) * 1 = (i : Int) := by omega
    rw [e1] at F₁
    exact turn c i t m₁ h tk I oI hi hp' off (kst_fr h1 h2 F₁) N₁
  · rintro m₁ nx h tk ⟨c, rfl, h1, h2, hp'⟩ F₁ N₁
    exact done c m₁ h tk hp' (kst_frOut h1 h2 F₁) N₁
end

/-- one field object: its address, its dict's, the token of the key, the name -/
structure Fd where
  x : Addr
  d : Addr
  t : Tok
  v : Value
/-- its two objects -/
def ledOf (hs : Int) (C : Addr) : List Fd → List (Addr × Obj)
  | [] => []
  | r :: rs => (r.x, instObj C r.d) :: (r.d, dictOf [⟨hs, .str (PySem.Str.ofString "name") r.t, r.v⟩] 1) :: ledOf hs C rs
theorem ledOf_append (hs : Int) (C : Addr) : ∀ a b : List Fd, ledOf hs C (a ++ b) = ledOf hs C a ++ ledOf hs C b
  | [], _ => rfl
  | r :: rs, b => by
    show _ :: _ :: ledOf hs C (rs ++ b) = _
    rw [ledOf_append hs C rs b]; rfl
def refsOf (rs : List Fd) : List Value := rs.map fun r => .ref r.x
def namesOf (rs : List Fd) : List Value := rs.map fun r => r.v
theorem ledOf_fields {hs : Int} {C : Addr} : ∀ {rs : List Fd} {news : List (Addr × Obj)}, (∀ p ∈ ledOf hs C rs, p ∈ news) → FieldsAt C news (refsOf rs) (namesOf rs)
  | [], _, _ => .nil
  | r :: rs, news, h => .cons ⟨r.x, r.d, hs, r.t, rfl, h _ (.head _), h _ (.tail _ (.head _))⟩ (ledOf_fields fun p hp => h p (.tail _ (.tail _ hp)))
theorem ledOf_mem {hs : Int} {C : Addr} : ∀ {rs : List Fd} {r : Fd}, r ∈ rs → (r.x, instObj C r.d) ∈ ledOf hs C rs ∧ (r.d, dictOf [⟨hs, .str (PySem.Str.ofString "name") r.t, r.v⟩] 1) ∈ ledOf hs C rs
  | [], _, h => nomatch h
  | a :: rs, r, h => by
    rcases List.mem_cons.mp h with rfl | h
    · exact ⟨.head _, .tail _ (.head _)⟩
    · have := ledOf_mem (hs := hs) (C := C) h
      exact ⟨.tail _ (.tail _ this.1), .tail _ (.tail _ this.2)⟩
theorem ledOf_kind {hs : Int} {C : Addr} : ∀ {rs : List Fd}, ∀ p ∈ ledOf hs C rs, p.2.cls = .ref C ∨ p.2.cls = .type "dict"
  | [], _, h => nomatch h
  | r :: rs, p, h => by
    rcases List.mem_cons.mp h with rfl | h
    · exact .inl rfl
    rcases List.mem_cons.mp h with rfl | h
    · exact .inr rfl
    · exact ledOf_kind p h
theorem ledOf_noIt {hs : Int} {C : Addr} {rs : List Fd} : NoIt (ledOf hs C rs) := fun p hp => by
  rcases ledOf_kind p hp with h | h <;> rw [h] <;> exact ⟨by simp, by simp, by simp⟩
/-- no field's object lies where a list lies -/
theorem ledOf_off {hs : Int} {C : Addr} {rs : List Fd} {h₀ h : Heap} {L a : Addr} {its : Array Value} {k : Nat} {all : List (Addr × Obj)} (N : News h₀ L h all) (hm : (a, listOf its k) ∈ all) (hsub : ∀ p ∈ ledOf hs C rs, p ∈ all) : ∀ p ∈ ledOf hs C rs, p.1 ≠ a := fun p hp e => by
  have h1 := (N p (hsub p hp)).1
  rw [e, (N _ hm).1] at h1
  have h2 := ledOf_kind p hp
  rw [← Option.some.inj h1] at h2
  rcases h2 with h2 | h2
  · cases h2
  · exact absurd (Value.type.inj h2) (by decide)

theorem mul_x {prog : Program} {w : World} {A : Around} {E : Value → Shared → Prop} {s : Shared} {t u : Tok} {n : Int} {Q : Value → Shared → Prop} (h0 : 0 ≤ n) (h1 : n < 3) (h : ∀ y t' k, y.length ≤ 2 → Q (.str y t') { s with toks := k }) :
    wpAny (model prog w) A (binaryOp .Mult (.str (PySem.Str.ofString "x") t) (.int n u)) Q E s := by
  have e : n = 0 ∨ n = 1 ∨ n = 2 := by omega
  rcases e with rfl | rfl | rfl
  · exact SB.mul (by unfold MulOk; decide +kernel) fun t' k => h _ t' k (by decide +kernel)
  · exact SB.mul (by unfold MulOk; decide +kernel) fun t' k => h _ t' k (by decide +kernel)
  · exact SB.mul (by unfold MulOk; decide +kernel) fun t' k => h _ t' k (by decide +kernel)

/-- the state of the law's loop -/
structure St3 where
  rs : List Fd
  re : Nat
  szs : List Value
  se : Nat
  tt : Tok
def sizesOf (word : PySem.Str) (rs : List Fd) : List Int := rs.map fun r => ((pieceC word (nmTxt r.v)).length : Int)
def txtOf (word : PySem.Str) (rs : List Fd) : PySem.Str := tstr word ((namesOf rs).map nmTxt)
def Led3 (hs : Int) (C rowA szA : Addr) (c : St3) : List (Addr × Obj) := (rowA, listOf (refsOf c.rs).toArray c.re) :: (szA, listOf c.szs.toArray c.se) :: ledOf hs C c.rs
def Inv3 (word : PySem.Str) (i : Nat) (c : St3) : Prop := c.rs.length ≤ i ∧ NmsOk (namesOf c.rs) ∧ IntsAre c.szs (sizesOf word c.rs) ∧ (c.rs.map (·.d)).Nodup

theorem menu2 {prog : Program} {w : World} {A : Around} {E : Value → Shared → Prop} {s : Shared} {h₀ : Heap} {L D : Addr} {news : List (Addr × Obj)} {value slice : PySem.Expr} {a b : PySem.Str} {ta tb u : Tok} {k : Int} {ep : Nat} {Q : Value → Shared → Prop}
    (N : News h₀ L s.heap news) (hm : (D, listOf #[.str a ta, .str b tb] ep) ∈ news) (h0 : 0 ≤ k) (h1 : k < 2) (ha : a.length ≤ 16) (hb : b.length ≤ 16) (h : ∀ word t, word.length ≤ 16 → Q (.str word t) s)
    (hs : subscripted slice false (.ref D) (.int k u) = operate [.ref D, .int k u] (getItem (.ref D) (.int k u))) :
    wpAny (model prog w) A (subscriptTail value slice (.ref D) (.int k u)) Q E s := by
  have hl := News.isList N hm
  have e : k = 0 ∨ k = 1 := by omega
  rcases e with rfl | rfl
  · exact tail_any hl.typeIs slot_list_getitem.lookup (wpAny_getItem_list hl (by decide) (by decide) rfl (h a ta ha)) hs
  · exact tail_any hl.typeIs slot_list_getitem.lookup (wpAny_getItem_list hl (by decide) (by decide) rfl (h b tb hb)) hs

/-- where the fields' dicts do not lie -/
def Apart3 (I R S : Addr) (rs : List Fd) : Prop := ∀ r ∈ rs, (@Ne Nat r.d I ∧ @Ne Nat r.d R ∧ @Ne Nat r.d S) ∧ ∀ r' ∈ rs, r'.x ≠ r.d
theorem apart3_of {hs : Int} {C I R S : Addr} {rs : List Fd} {h₀ h : Heap} {L : Addr} {all : List (Addr × Obj)} (N : News h₀ L h all) (hsub : ∀ p ∈ ledOf hs C rs, p ∈ all) (h1 : ∀ p ∈ ledOf hs C rs, p.1 ≠ I) (h2 : ∀ p ∈ ledOf hs C rs, p.1 ≠ R) (h3 : ∀ p ∈ ledOf hs C rs, p.1 ≠ S) : Apart3 I R S rs := fun r hr => by
  have m := ledOf_mem (hs := hs) (C := C) hr
  refine ⟨⟨h1 _ m.2, h2 _ m.2, h3 _ m.2⟩, fun r' hr' e => ?_⟩
  have m' := ledOf_mem (hs := hs) (C := C) hr'
  have a := (N _ (hsub _ m'.1)).1
  have b := (N _ (hsub _ m.2)).1
  dsimp only at a b
  rw [e, b] at a
  cases a
theorem loop3 {prog : Program} {w : World} {A : Around} {E : Value → Shared → Prop} {s : Shared} {env : Env} {h₀ : Heap} {body : List Stmt} {Q : Flow → Shared → Prop} {r : Addr} {b₀ : Int} {t₀ u₀ v₀ : Tok} {n : Nat} {m₀ : Str → Option Value} {news : List (Addr × Obj)} {rowA szA : Addr} {word : PySem.Str} {tt : Tok} (C : Addr)
    (hh : A.handled = none) (hr : IsRange s.heap r 0 b₀ 1 t₀ u₀ v₀) (hsmall : Builtin.Range.small 0 b₀ 1 = true) (hn : Builtin.Range.rangeSize 0 b₀ 1 = (n : Int)) (F : Fr h₀ env.locals s.heap m₀) (N : News h₀ env.locals s.heap news)
    (hrow : m₀ (PySem.Str.ofString "row") = some (.ref rowA)) (hsz : m₀ (PySem.Str.ofString "sizes") = some (.ref szA)) (htext : m₀ (PySem.Str.ofString "text") = some (.str (PySem.Str.ofString "()") tt)) (hw : word.length ≤ 16)
    (m1 : (rowA, listOf (List.toArray []) 0) ∈ news) (m2 : (szA, listOf (List.toArray []) 0) ∈ news) (hne : @Ne Nat rowA szA)
    (turn : ∀ (c : St3) (i : Nat) t (u : Str → Option Value) h tk I oI, i < n → Inv3 word i c → c.rs.length ≤ i → (refsOf c.rs).length = c.rs.length → c.szs.length = c.rs.length → (∀ p ∈ ledOf (PyData.keyHash w.params (PySem.Str.ofString "name")) C c.rs, p.1 ≠ I) → Apart3 I rowA szA c.rs → (@Ne Nat I rowA) → (@Ne Nat I szA) →
      (∀ p ∈ ledOf (PyData.keyHash w.params (PySem.Str.ofString "name")) C c.rs, p.1 ≠ rowA) → (∀ p ∈ ledOf (PyData.keyHash w.params (PySem.Str.ofString "name")) C c.rs, p.1 ≠ szA) →
      Fr h₀ env.locals h (fun y => if y = PySem.Str.ofString "k" then some (.int (i : Int) t) else kstB (fun z => if [PySem.Str.ofString "what", PySem.Str.ofString "name", PySem.Str.ofString "piece", PySem.Str.ofString "j", PySem.Str.ofString "start"].contains z then u z else m₀ z) [(PySem.Str.ofString "text", .str (txtOf word c.rs) c.tt)] y) →
      News h₀ env.locals h ((I, oI) :: (rowA, listOf (refsOf c.rs).toArray c.re) :: (szA, listOf c.szs.toArray c.se) :: ledOf (PyData.keyHash w.params (PySem.Str.ofString "name")) C c.rs) →
      wpAny (model prog w) A (execs body env) (TurnPost h₀ env.locals I oI (LoopSt (PySem.Str.ofString "k") (Led3 (PyData.keyHash w.params (PySem.Str.ofString "name")) C rowA szA) (fun c => [(PySem.Str.ofString "text", .str (txtOf word c.rs) c.tt)]) [PySem.Str.ofString "what", PySem.Str.ofString "name", PySem.Str.ofString "piece", PySem.Str.ofString "j", PySem.Str.ofString "start"] m₀ (Inv3 word (i + 1))) { s with heap := h, toks := tk } Q) E { s with heap := h, toks := tk })
    (done : ∀ (u : Str → Option Value) (m : Str → Option Value) h tk, Fr h₀ env.locals h m → News h₀ env.locals h [] → Q .next { s with heap := h, toks := tk }) :
    wpAny (model prog w) A (pyIter (.ref r)) (fun it s₂ => LoopAtV prog w A h₀ env (PySem.Str.ofString "k") body Q E it s₂) E s := by
  refine iter_rangeS (Led3 (PyData.keyHash w.params (PySem.Str.ofString "name")) C rowA szA) (fun c => [(PySem.Str.ofString "text", .str (txtOf word c.rs) c.tt)]) [PySem.Str.ofString "what", PySem.Str.ofString "name", PySem.Str.ofString "piece", PySem.Str.ofString "j", PySem.Str.ofString "start"] (Inv3 word) ⟨[], 0, [], 0, tt⟩ hh hr hsmall hn F ?_ ?_ ?_ ?_ ?_
  · intro p hp
    rcases List.mem_cons.mp hp with rfl | hp
    · exact N _ m1
    · rw [List.mem_singleton.mp hp]; exact N _ m2
  · intro p hp
    rw [List.mem_singleton.mp hp]; exact htext
  · exact ⟨Nat.le_refl _, (fun _ h => nomatch h), .nil, .nil⟩
  · rintro c i t u h tk I oI hi hinv off F₁ N₁
    refine turn c i t u h tk I oI hi hinv hinv.1 (by unfold refsOf; rw [List.length_map]) (by have := hinv.2.2.1.length; unfold sizesOf at this; rw [List.length_map] at this; exact this) (fun p hp => off p (.tail _ (.tail _ hp))) (apart3_of N₁ (fun p hp => .tail _ (.tail _ (.tail _ hp))) (fun p hp => off p (.tail _ (.tail _ hp))) (ledOf_off N₁ (.tail _ (.head _)) fun p hp => .tail _ (.tail _ (.tail _ hp))) (ledOf_off N₁ (.tail _ (.tail _ (.head _))) fun p hp => .tail _ (.tail _ (.tail _ hp)))) (fun e => off _ (.head _) e.symm) (fun e => off _ (.tail _ (.head _)) e.symm) ?_ ?_ F₁ N₁
    · exact ledOf_off N₁ (.tail _ (.head _)) fun p hp => .tail _ (.tail _ (.tail _ hp))
    · exact ledOf_off N₁ (.tail _ (.tail _ (.head _))) fun p hp => .tail _ (.tail _ (.tail _ hp))
  · rintro c u h tk _ F₁ N₁
    exact done u _ h tk F₁ .nil

section
variable {prog : Program} {w : World} {A : Around} {E : Value → Shared → Prop} {s : Shared} {h₀ : Heap} {L D : Addr} {m : Str → Option Value} {news news' : List (Addr × Obj)} {n : Nat} {vs us : List Value} {Q : Value → Shared → Prop}
theorem append_L {x : Value} (F : Fr h₀ L s.heap m) (N : News h₀ L s.heap news) (U : Upd D (listOf vs.toArray n) (listOf (vs ++ [x]).toArray (n + 1)) news news') (hz : vs.length ≤ sizeLine)
    (h : ∀ h', Fr h₀ L h' m → News h₀ L h' news' → Q .none { s with heap := h' }) : wpAny (model prog w) A (call (.builtin "list.append") [.ref D, x]) Q E s :=
  append_K F N (its := vs.toArray) (by rw [List.push_toArray]; exact U) h (by rw [List.size_toArray]; exact hz)
theorem insert_L {x : Value} {u : Tok} (F : Fr h₀ L s.heap m) (N : News h₀ L s.heap news) (U : Upd D (listOf vs.toArray n) (listOf (x :: vs).toArray (n + 1)) news news') (hz : vs.length ≤ sizeLine)
    (h : ∀ h', Fr h₀ L h' m → News h₀ L h' news' → Q .none { s with heap := h' }) : wpAny (model prog w) A (call (.builtin "list.insert") [.ref D, .int 0 u, x]) Q E s :=
  kl_insert F N (its := vs.toArray) rfl (l := x :: vs) (by simp [kl_ins]) U hz h
theorem last_L : ∀ {us : List Value}, 0 < us.length → ∃ y, kl_last us = some (us.dropLast, y)
  | [a], _ => ⟨a, rfl⟩
  | a :: b :: r, _ => by
    obtain ⟨y, hy⟩ := last_L (us := b :: r) (by simp)
    refine ⟨y, ?_⟩
    unfold kl_last
    rw [hy]; rfl
theorem pop_L (F : Fr h₀ L s.heap m) (N : News h₀ L s.heap news) (U : Upd D (listOf us.toArray n) (listOf us.dropLast.toArray (n + 1)) news news') (hne : 0 < us.length) (hz : us.length ≤ sizeLine)
    (h : ∀ y h', Fr h₀ L h' m → News h₀ L h' news' → Q y { s with heap := h' }) : wpAny (model prog w) A (call (.builtin "list.pop") [.ref D]) Q E s := by
  obtain ⟨y, hy⟩ := last_L hne
  exact kl_pop F N (its := us.toArray) hy U hz fun h' F' N' => h y h' F' N'
theorem popI_L {l : List Int} (hi : IntsAre us l) (F : Fr h₀ L s.heap m) (N : News h₀ L s.heap news) (U : Upd D (listOf us.toArray n) (listOf us.dropLast.toArray (n + 1)) news news') (hne : 0 < us.length) (hz : us.length ≤ sizeLine)
    (h : ∀ h' t, Fr h₀ L h' m → News h₀ L h' news' → Q (.int (l.getLastD 0) t) { s with heap := h' }) : wpAny (model prog w) A (call (.builtin "list.pop") [.ref D]) Q E s :=
  kpa_pop F N U hi hne hz fun h' t F' N' _ => h h' t F' N'
theorem len_L (N : News h₀ L s.heap news) (hm : (D, listOf vs.toArray n) ∈ news) (hz : vs.length ≤ 1000) (h : Q (.int (vs.length : Int) (s.toks + 1)) { s with toks := s.toks + 1 + 1 }) : wpAny (model prog w) A (call (.builtin "len") [.ref D]) Q E s :=
  kst_len N hm rfl (by omega) h
end
theorem Inv3.ints {word : PySem.Str} {i : Nat} {c : St3} (h : Inv3 word i c) : IntsAre c.szs (sizesOf word c.rs) := h.2.2.1

/-- the address lies above the fields' dicts -/
def Fresh (d : Addr) (rs : List Fd) : Prop := ∀ r ∈ rs, r.d ≠ d
theorem fresh3 {a b c : Addr × Obj} {hs : Int} {C d : Addr} {rs : List Fd} (h : ∀ p ∈ a :: b :: c :: ledOf hs C rs, p.1 < d) : Fresh d rs := fun r hr e => by
  have := h _ (.tail _ (.tail _ (.tail _ (ledOf_mem (hs := hs) (C := C) hr).2)))
  rw [e] at this
  exact Nat.lt_irrefl _ this
theorem refsOf_app {rs : List Fd} {r : Fd} : refsOf (rs ++ [r]) = refsOf rs ++ [.ref r.x] := by unfold refsOf; rw [List.map_append]; rfl
theorem refsOf_drop {rs : List Fd} : refsOf rs.dropLast = (refsOf rs).dropLast := by unfold refsOf; rw [List.map_dropLast]

section
variable {prog : Program} {w : World} {A : Around} {E : Value → Shared → Prop} {s : Shared} {h₀ : Heap} {L D : Addr} {m : Str → Option Value} {news news' : List (Addr × Obj)} {n : Nat} {rs : List Fd} {Q : Value → Shared → Prop}
theorem rowApp {C x d : Addr} {hs : Int} {t : Tok} {v : Value} (F : Fr h₀ L s.heap m) (N : News h₀ L s.heap news) (m1 : (x, instObj C d) ∈ news) (m2 : (d, dictOf [⟨hs, .str (PySem.Str.ofString "name") t, v⟩] 1) ∈ news)
    (U : Upd D (listOf (refsOf rs).toArray n) (listOf (refsOf (rs ++ [⟨x, d, t, v⟩])).toArray (n + 1)) news news') (hz : (refsOf rs).length ≤ sizeLine)
    (h : ∀ h', Fr h₀ L h' m → News h₀ L h' news' → Q .none { s with heap := h' }) : wpAny (model prog w) A (call (.builtin "list.append") [.ref D, .ref x]) Q E s :=
  append_L F N (by rw [← refsOf_app (r := ⟨x, d, t, v⟩)]; exact U) hz h
theorem rowIns {C x d : Addr} {hs : Int} {t u : Tok} {v : Value} (F : Fr h₀ L s.heap m) (N : News h₀ L s.heap news) (m1 : (x, instObj C d) ∈ news) (m2 : (d, dictOf [⟨hs, .str (PySem.Str.ofString "name") t, v⟩] 1) ∈ news)
    (U : Upd D (listOf (refsOf rs).toArray n) (listOf (refsOf (⟨x, d, t, v⟩ :: rs)).toArray (n + 1)) news news') (hz : (refsOf rs).length ≤ sizeLine)
    (h : ∀ h', Fr h₀ L h' m → News h₀ L h' news' → Q .none { s with heap := h' }) : wpAny (model prog w) A (call (.builtin "list.insert") [.ref D, .int 0 u, .ref x]) Q E s :=
  insert_L F N U hz h
theorem rowPop (F : Fr h₀ L s.heap m) (N : News h₀ L s.heap news)
    (U : Upd D (listOf (refsOf rs).toArray n) (listOf (refsOf rs.dropLast).toArray (n + 1)) news news') (hne : 0 < (refsOf rs).length) (hz : (refsOf rs).length ≤ sizeLine)
    (h : ∀ y h', Fr h₀ L h' m → News h₀ L h' news' → Q y { s with heap := h' }) : wpAny (model prog w) A (call (.builtin "list.pop") [.ref D]) Q E s :=
  pop_L F N (by rw [← refsOf_drop]; exact U) hne hz h
end
theorem ledOf_subApp {hs : Int} {C x d : Addr} {t : Tok} {v : Value} {rs : List Fd} {all : List (Addr × Obj)} (h : ∀ p ∈ ledOf hs C rs, p ∈ all) (m1 : (x, instObj C d) ∈ all) (m2 : (d, dictOf [⟨hs, .str (PySem.Str.ofString "name") t, v⟩] 1) ∈ all) :
    ∀ p ∈ ledOf hs C (rs ++ [⟨x, d, t, v⟩]), p ∈ all := by
  rw [ledOf_append]
  intro p hp
  rcases List.mem_append.mp hp with hp | hp
  · exact h p hp
  rcases List.mem_cons.mp hp with rfl | hp
  · exact m1
  · rw [List.mem_singleton.mp hp]; exact m2
theorem ledOf_subDrop {hs : Int} {C : Addr} {rs : List Fd} {all : List (Addr × Obj)} (h : ∀ p ∈ ledOf hs C rs, p ∈ all) : ∀ p ∈ ledOf hs C rs.dropLast, p ∈ all := by
  intro p hp
  by_cases hne : rs = []
  · subst hne; exact h p hp
  · refine h p ?_
    have e := List.dropLast_concat_getLast hne
    rw [← e, ledOf_append]
    exact List.mem_append_left _ hp
theorem nms_app {rs : List Fd} {x d : Addr} {t : Tok} {v : Value} (h : NmsOk (namesOf rs)) (hv : NmOk v) : NmsOk (namesOf (rs ++ [⟨x, d, t, v⟩])) := by
  unfold namesOf; rw [List.map_append]; exact h.snoc hv
theorem nms_cons {rs : List Fd} {r : Fd} (h : NmsOk (namesOf rs)) (hv : NmOk r.v) : NmsOk (namesOf (r :: rs)) := by
  intro v hm
  rcases List.mem_cons.mp hm with rfl | hm
  · exact hv
  · exact h v hm
theorem nms_drop {rs : List Fd} (h : NmsOk (namesOf rs)) : NmsOk (namesOf rs.dropLast) := fun v hm => by
  refine h v ?_
  obtain ⟨r, hr, e⟩ := List.mem_map.mp hm
  exact List.mem_map.mpr ⟨r, List.dropLast_subset _ hr, e⟩
theorem nms_set {rs : List Fd} {r : Fd} {j : Nat} (h : NmsOk (namesOf rs)) (hv : NmOk r.v) : NmsOk (namesOf (rs.set j r)) := fun v hm => by
  obtain ⟨a, ha, e⟩ := List.mem_map.mp hm
  rcases List.mem_or_eq_of_mem_set ha with ha | ha
  · exact h v (List.mem_map.mpr ⟨a, ha, e⟩)
  · subst ha; rw [← e]; exact hv

/-- the four equations of the texts -/
theorem txt_app {word name : PySem.Str} {rs : List Fd} {x d : Addr} {t u : Tok} : txtOf word (rs ++ [⟨x, d, t, .str name u⟩]) =
    PySem.Txt.slice (txtOf word rs) none (some (-1)) ++ (word ++ PySem.Str.ofString "." ++ name ++ PySem.Str.ofString ",") ++ PySem.Str.ofString ")" := by
  unfold txtOf
  rw [tstr_cat, tstr_cat, slice_toNeg (by decide) (by decide)]
  have e : cat word ((namesOf (rs ++ [⟨x, d, t, .str name u⟩])).map nmTxt) = cat word ((namesOf rs).map nmTxt) ++ pieceC word name := by
    unfold namesOf; rw [List.map_append, List.map_append, cat_append]
    show _ ++ cat word [name] = _
    rw [cat_one]
  rw [e, ← app_assoc]; rfl
theorem txt_ins {word name : PySem.Str} {rs : List Fd} {x d : Addr} {t u : Tok} : txtOf word (⟨x, d, t, .str name u⟩ :: rs) =
    PySem.Str.ofString "(" ++ (word ++ PySem.Str.ofString "." ++ name ++ PySem.Str.ofString ",") ++ PySem.Txt.slice (txtOf word rs) (some 1) none := by
  unfold txtOf
  rw [tstr_cat, tstr_cat, app_assoc (PySem.Str.ofString "(") (cat word ((namesOf rs).map nmTxt)), slice_from (by decide)]
  show PySem.Str.ofString "(" ++ (pieceC word name ++ cat word ((namesOf rs).map nmTxt)) ++ _ = _
  rw [← app_assoc, app_assoc]; rfl
theorem txt_pop {word : PySem.Str} {rs : List Fd} (h : 0 < rs.length) : txtOf word rs.dropLast =
    PySem.Txt.slice (txtOf word rs) none (some (((txtOf word rs).length : Int) - 1 - (sizesOf word rs).getLastD 0)) ++ PySem.Str.ofString ")" := by
  have hne : rs ≠ [] := by intro e; rw [e] at h; exact absurd h (by simp)
  obtain ⟨a, r, rfl⟩ : ∃ a r, rs = a ++ [r] := ⟨_, _, (List.dropLast_concat_getLast hne).symm⟩
  rw [List.dropLast_concat]
  have e1 : (sizesOf word (a ++ [r])).getLastD 0 = ((pieceC word (nmTxt r.v)).length : Int) := by unfold sizesOf; simp
  have e2 : cat word ((namesOf (a ++ [r])).map nmTxt) = cat word ((namesOf a).map nmTxt) ++ pieceC word (nmTxt r.v) := by
    unfold namesOf; rw [List.map_append, List.map_append, cat_append]
    show _ ++ cat word [nmTxt r.v] = _
    rw [cat_one]
  have e3 : txtOf word (a ++ [r]) = (PySem.Str.ofString "(" ++ cat word ((namesOf a).map nmTxt)) ++ (pieceC word (nmTxt r.v) ++ PySem.Str.ofString ")") := by
    unfold txtOf; rw [tstr_cat, e2]; simp only [app_assoc]
  rw [e1, e3, slice_to (by
    have h1 : (PySem.Str.ofString ")").length = 1 := by decide
    simp only [PySem.Str.length_append, h1]; omega)]
  unfold txtOf; rw [tstr_cat]

theorem split_at : ∀ {rs : List Fd} {j : Nat} {r : Fd}, rs[j]? = some r → ∃ a b, rs = a ++ r :: b ∧ a.length = j
  | [], _, _, h => by simp at h
  | q :: rs, 0, r, h => by
    simp only [List.getElem?_cons_zero, Option.some.injEq] at h
    exact ⟨[], rs, by rw [h]; rfl, rfl⟩
  | q :: rs, j + 1, r, h => by
    obtain ⟨a, b, e, hl⟩ := split_at (rs := rs) (j := j) (by simpa using h)
    exact ⟨q :: a, b, by rw [e]; rfl, by rw [List.length_cons, hl]⟩
theorem refsOf_set {rs : List Fd} {j : Nat} {r : Fd} {v : Value} (hr : rs[j]? = some r) : refsOf rs = refsOf (rs.set j { r with v := v }) := by
  obtain ⟨a, b, rfl, hl⟩ := split_at hr
  rw [← hl]
  have : ∀ a : List Fd, refsOf (a ++ r :: b) = refsOf ((a ++ r :: b).set a.length { r with v := v }) := by
    intro a
    induction a with
    | nil => rfl
    | cons x a ih => show _ :: refsOf (a ++ r :: b) = _ :: refsOf ((a ++ r :: b).set a.length { r with v := v }); rw [ih]
  exact this a
theorem ledOf_fieldsS {hs : Int} {C : Addr} {rs : List Fd} {j : Nat} {r : Fd} {v : Value} {news : List (Addr × Obj)} (hr : rs[j]? = some r) (h : ∀ p ∈ ledOf hs C (rs.set j { r with v := v }), p ∈ news) : FieldsAt C news (refsOf rs) (namesOf (rs.set j { r with v := v })) := by
  have := ledOf_fields h
  rwa [← refsOf_set hr] at this
theorem sizes_sum (word : PySem.Str) : ∀ rs : List Fd, (sizesOf word rs).sum = ((cat word ((namesOf rs).map nmTxt)).length : Int)
  | [] => rfl
  | r :: rs => by
    show ((pieceC word (nmTxt r.v)).length : Int) + (sizesOf word rs).sum = ((pieceC word (nmTxt r.v) ++ cat word ((namesOf rs).map nmTxt)).length : Int)
    rw [sizes_sum word rs, PySem.Str.length_append]; omega
theorem set_mid (a b : List Fd) (r q : Fd) : (a ++ r :: b).set a.length q = a ++ q :: b := by
  induction a with
  | nil => rfl
  | cons x a ih => show x :: (a ++ r :: b).set a.length q = _; rw [ih]; rfl
theorem cat_mid (word : PySem.Str) (a b : List Fd) (r : Fd) : cat word ((namesOf (a ++ r :: b)).map nmTxt) = cat word ((namesOf a).map nmTxt) ++ (pieceC word (nmTxt r.v) ++ cat word ((namesOf b).map nmTxt)) := by
  unfold namesOf; rw [List.map_append, List.map_append, cat_append]; rfl
theorem txt_set {word name : PySem.Str} {rs : List Fd} {j : Int} {r : Fd} {u : Tok} (hr : rs[j.toNat]? = some r) : txtOf word (rs.set j.toNat { r with v := .str name u }) =
    PySem.Txt.slice (txtOf word rs) none (some (1 + ((sizesOf word rs).take j.toNat).sum)) ++ (word ++ PySem.Str.ofString "." ++ name ++ PySem.Str.ofString ",") ++
      PySem.Txt.slice (txtOf word rs) (some (1 + ((sizesOf word rs).take j.toNat).sum + (sizesOf word rs).getD j.toNat 0)) none := by
  obtain ⟨a, b, rfl, hl⟩ := split_at hr
  rw [← hl]
  have e1 : (sizesOf word (a ++ r :: b)).take a.length = sizesOf word a := by
    unfold sizesOf; rw [List.map_append, ← List.length_map (f := fun r : Fd => ((pieceC word (nmTxt r.v)).length : Int)), List.take_left]
  have e2 : (sizesOf word (a ++ r :: b)).getD a.length 0 = ((pieceC word (nmTxt r.v)).length : Int) := by
    unfold sizesOf; rw [List.getD_eq_getElem?_getD, List.getElem?_map]; simp
  have h1 : (PySem.Str.ofString "(").length = 1 := by decide
  have e3 : txtOf word (a ++ r :: b) = (PySem.Str.ofString "(" ++ cat word ((namesOf a).map nmTxt)) ++ (pieceC word (nmTxt r.v) ++ (cat word ((namesOf b).map nmTxt) ++ PySem.Str.ofString ")")) := by
    unfold txtOf; rw [tstr_cat, cat_mid]; simp only [app_assoc]
  have e4 : txtOf word (a ++ r :: b) = (PySem.Str.ofString "(" ++ cat word ((namesOf a).map nmTxt) ++ pieceC word (nmTxt r.v)) ++ (cat word ((namesOf b).map nmTxt) ++ PySem.Str.ofString ")") := by
    rw [e3]; simp only [app_assoc]
  have s1 : PySem.Txt.slice (txtOf word (a ++ r :: b)) none (some (1 + (sizesOf word a).sum)) = PySem.Str.ofString "(" ++ cat word ((namesOf a).map nmTxt) := by
    rw [e3]; exact slice_to (by rw [PySem.Str.length_append, h1, sizes_sum]; omega)
  have s2 : PySem.Txt.slice (txtOf word (a ++ r :: b)) (some (1 + (sizesOf word a).sum + ((pieceC word (nmTxt r.v)).length : Int))) none = cat word ((namesOf b).map nmTxt) ++ PySem.Str.ofString ")" := by
    rw [e4]; exact slice_from (by rw [PySem.Str.length_append, PySem.Str.length_append, h1, sizes_sum]; omega)
  rw [e1, e2, s1, s2, set_mid]
  unfold txtOf; rw [tstr_cat, cat_mid]
  show PySem.Str.ofString "(" ++ (cat word ((namesOf a).map nmTxt) ++ (pieceC word name ++ cat word ((namesOf b).map nmTxt))) ++ PySem.Str.ofString ")" = PySem.Str.ofString "(" ++ cat word ((namesOf a).map nmTxt) ++ pieceC word name ++ (cat word ((namesOf b).map nmTxt) ++ PySem.Str.ofString ")")
  simp only [app_assoc]
theorem txtOf_len {word : PySem.Str} {i : Nat} {c : St3} (hw : word.length ≤ 16) (h : Inv3 word i c) (hi : i ≤ 63) : (txtOf word c.rs).length ≤ 8000 := by
  refine tstr_len hw h.2.1 ?_
  unfold namesOf; rw [List.length_map]; exact Nat.le_trans h.1 hi

/-- the end of a turn -/
theorem end3 {hs : Int} {C rowA szA I L : Addr} {oI : Obj} {word tx : PySem.Str} {tt : Tok} {i re se : Nat} {rs : List Fd} {szs : List Value} {m₀ m' : Str → Option Value} {h₀ h' : Heap} {s₁ : Shared} {tk : Nat} {all : List (Addr × Obj)}
    {rfs : List Value} (F : Fr h₀ L h' m') (N : News h₀ L h' all) (hI : (I, oI) ∈ all) (hx : rfs = refsOf rs) (m1 : (rowA, listOf rfs.toArray re) ∈ all) (m2 : (szA, listOf szs.toArray se) ∈ all) (m3 : ∀ p ∈ ledOf hs C rs, p ∈ all)
    (htx : m' (PySem.Str.ofString "text") = some (.str tx tt)) (e : txtOf word rs = tx) (hr : ∀ z, z ≠ PySem.Str.ofString "k" → z ≠ PySem.Str.ofString "text" → z ≠ PySem.Str.ofString "what" → z ≠ PySem.Str.ofString "name" → z ≠ PySem.Str.ofString "piece" → z ≠ PySem.Str.ofString "j" → z ≠ PySem.Str.ofString "start" → m' z = m₀ z)
    (hl : rs.length ≤ i + 1) (hn : NmsOk (namesOf rs)) (hz : IntsAre szs (sizesOf word rs)) (hd : (rs.map (·.d)).Nodup) :
    TurnEnd h₀ L I oI (LoopSt (PySem.Str.ofString "k") (Led3 hs C rowA szA) (fun c => [(PySem.Str.ofString "text", .str (txtOf word c.rs) c.tt)]) [PySem.Str.ofString "what", PySem.Str.ofString "name", PySem.Str.ofString "piece", PySem.Str.ofString "j", PySem.Str.ofString "start"] m₀ (Inv3 word (i + 1))) s₁ { s₁ with heap := h', toks := tk } := by
  subst e
  subst hx
  refine TurnEnd.intro ⟨rs, re, szs, se, tt⟩ F N hI ?_ (NoIt.off ?_) ?_ ?_ ⟨hl, hn, hz, hd⟩
  · intro p hp
    rcases List.mem_cons.mp hp with rfl | hp
    · exact m1
    rcases List.mem_cons.mp hp with rfl | hp
    · exact m2
    · exact m3 p hp
  · exact .cons ⟨by simp, by simp, by simp⟩ (.cons ⟨by simp, by simp, by simp⟩ ledOf_noIt)
  · intro p hp
    rw [List.mem_singleton.mp hp]; exact htx
  · intro z h1 h2 h3
    have h4 := h2 _ (.head _)
    refine hr z h1 h4 ?_ ?_ ?_ ?_ ?_ <;> (intro e; subst e; simp at h3)
theorem nodup_app {rs : List Fd} {x d : Addr} {t : Tok} {v : Value} (h : (rs.map (·.d)).Nodup) (f : Fresh d rs) : ((rs ++ [(⟨x, d, t, v⟩ : Fd)]).map (fun r : Fd => r.d)).Nodup := by
  rw [List.map_append, List.nodup_append]
  refine ⟨h, by simp, ?_⟩
  intro a ha b hb
  obtain ⟨r, hr, rfl⟩ := List.mem_map.mp ha
  simp at hb; subst hb
  exact f r hr
theorem nodup_cons3 {rs : List Fd} {x d : Addr} {t : Tok} {v : Value} (h : (rs.map (·.d)).Nodup) (f : Fresh d rs) : (((⟨x, d, t, v⟩ : Fd) :: rs).map (·.d)).Nodup := by
  rw [List.map_cons, List.nodup_cons]
  refine ⟨fun hm => ?_, h⟩
  obtain ⟨r, hr, e⟩ := List.mem_map.mp hm
  exact f r hr e
theorem nodup_drop {rs : List Fd} (h : (rs.map (·.d)).Nodup) : (rs.dropLast.map (·.d)).Nodup := by
  rw [List.map_dropLast]
  exact h.sublist (List.dropLast_sublist _)
theorem nodup_set {rs : List Fd} {j : Nat} {r : Fd} {v : Value} (hr : rs[j]? = some r) (h : (rs.map (·.d)).Nodup) : ((rs.set j { r with v := v }).map (·.d)).Nodup := by
  obtain ⟨a, b, rfl, hl⟩ := split_at hr
  rw [← hl, set_mid]
  simpa using h
theorem ints_app {word : PySem.Str} {rs : List Fd} {szs : List Value} {x d : Addr} {t u : Tok} {v : Value} (h : IntsAre szs (sizesOf word rs)) : IntsAre (szs ++ [.int ((pieceC word (nmTxt v)).length : Int) u]) (sizesOf word (rs ++ [⟨x, d, t, v⟩])) := by
  unfold sizesOf; rw [List.map_append]; exact IntsAre.append h (.cons _ _ .nil)
theorem ints_cons {word : PySem.Str} {rs : List Fd} {szs : List Value} {x d : Addr} {t u : Tok} {v : Value} (h : IntsAre szs (sizesOf word rs)) : IntsAre (.int ((pieceC word (nmTxt v)).length : Int) u :: szs) (sizesOf word (⟨x, d, t, v⟩ :: rs)) := .cons _ _ h
theorem ints_dropL : ∀ {us : List Value} {l : List Int}, IntsAre us l → IntsAre us.dropLast l.dropLast
  | _, _, .nil => .nil
  | _, _, .cons n t .nil => .nil
  | _, _, .cons n t (.cons n' t' r) => .cons n t (ints_dropL (.cons n' t' r))
theorem ints_drop {word : PySem.Str} {rs : List Fd} {szs : List Value} (h : IntsAre szs (sizesOf word rs)) : IntsAre szs.dropLast (sizesOf word rs.dropLast) := by
  have := ints_dropL h
  unfold sizesOf at this ⊢
  rwa [← List.map_dropLast] at this
theorem Inv3.nms {word : PySem.Str} {i : Nat} {c : St3} (h : Inv3 word i c) : NmsOk (namesOf c.rs) := h.2.1
theorem Inv3.nd {word : PySem.Str} {i : Nat} {c : St3} (h : Inv3 word i c) : (c.rs.map (·.d)).Nodup := h.2.2.2
theorem len_ok8 {x : PySem.Str} (h : x.length ≤ 8000) : ¬ (x.length : Int) ≥ 2 ^ 63 := by omega
theorem slice_len8 {word : PySem.Str} {i : Nat} {c : St3} {l u : Option Int} (hw : word.length ≤ 16) (h : Inv3 word i c) (hi : i ≤ 63) : (PySem.Txt.slice (txtOf word c.rs) l u).length ≤ 8000 := Nat.le_trans (PySem.Txt.slice_le _ _ _) (txtOf_len hw h hi)
theorem txt_room {word : PySem.Str} {i : Nat} {c : St3} (hw : word.length ≤ 16) (h : Inv3 word i c) (hi : i ≤ 63) : (txtOf word c.rs).length ≤ sizeLine := Nat.le_trans (txtOf_len hw h hi) (by decide)
theorem add_ok {x y : PySem.Str} {A B : Nat} (ha : x.length ≤ A) (hb : y.length ≤ B) (h : A + B ≤ sizeLine) : x.length + y.length ≤ sizeLine := by omega
theorem nms_nil : NmsOk [] := fun _ h => nomatch h
theorem ints_appS {word name : PySem.Str} {rs : List Fd} {szs : List Value} {x d : Addr} {t u u' : Tok} (h : IntsAre szs (sizesOf word rs)) : IntsAre (szs ++ [.int ((word ++ PySem.Str.ofString "." ++ name ++ PySem.Str.ofString ",").length : Int) u]) (sizesOf word (rs ++ [⟨x, d, t, .str name u'⟩])) := ints_app (v := .str name u') h
theorem ints_consS {word name : PySem.Str} {rs : List Fd} {szs : List Value} {x d : Addr} {t u u' : Tok} (h : IntsAre szs (sizesOf word rs)) : IntsAre (.int ((word ++ PySem.Str.ofString "." ++ name ++ PySem.Str.ofString ",").length : Int) u :: szs) (sizesOf word (⟨x, d, t, .str name u'⟩ :: rs)) := ints_cons (v := .str name u') h

theorem upd_led {hs : Int} {C : Addr} {v' : Value} : ∀ {rs : List Fd} {j : Nat} {r : Fd}, rs[j]? = some r → (rs.map (·.d)).Nodup → (∀ r' ∈ rs, r'.x ≠ r.d) →
    Upd r.d (dictOf [⟨hs, .str (PySem.Str.ofString "name") r.t, r.v⟩] 1) (dictOf [⟨hs, .str (PySem.Str.ofString "name") r.t, v'⟩] 1) (ledOf hs C rs) (ledOf hs C (rs.set j { r with v := v' }))
  | [], _, _, h, _, _ => by simp at h
  | q :: rs, 0, r, h, nd, hx => by
    simp only [List.getElem?_cons_zero, Option.some.injEq] at h
    subst h
    rw [List.map_cons, List.nodup_cons] at nd
    refine Upd.tail (hx _ (.head _)) (Upd.head fun p hp e => ?_)
    have key : ∀ {l : List Fd}, p ∈ ledOf hs C l → (∃ r' ∈ l, p.1 = r'.x) ∨ ∃ r' ∈ l, p.1 = r'.d := by
      intro l
      induction l with
      | nil => intro h; nomatch h
      | cons a l ih =>
        intro h
        rcases List.mem_cons.mp h with rfl | h
        · exact .inl ⟨a, .head _, rfl⟩
        rcases List.mem_cons.mp h with rfl | h
        · exact .inr ⟨a, .head _, rfl⟩
        · exact (ih h).imp (fun ⟨r', h1, h2⟩ => ⟨r', .tail _ h1, h2⟩) fun ⟨r', h1, h2⟩ => ⟨r', .tail _ h1, h2⟩
    rcases key hp with ⟨r', hr', e'⟩ | ⟨r', hr', e'⟩
    · exact hx r' (.tail _ hr') (e'.symm.trans e)
    · exact nd.1 (List.mem_map.mpr ⟨r', hr', e'.symm.trans e⟩)
  | q :: rs, j + 1, r, h, nd, hx => by
    have h' : rs[j]? = some r := by simpa using h
    rw [List.map_cons, List.nodup_cons] at nd
    have hm := List.mem_of_getElem? h'
    refine Upd.tail (hx _ (.head _)) (Upd.tail (fun e => nd.1 (List.mem_map.mpr ⟨r, hm, e.symm⟩)) ?_)
    exact upd_led h' nd.2 fun r' hr' => hx r' (.tail _ hr')
theorem rowItem {prog : Program} {w : World} {A : Around} {E : Value → Shared → Prop} {s : Shared} {h₀ : Heap} {L D I R S : Addr} {news : List (Addr × Obj)} {value slice : PySem.Expr} {rs : List Fd} {re : Nat} {j : Int} {u : Tok} {Q : Value → Shared → Prop} (hs : Int) (C : Addr)
    (hA : Apart3 I R S rs) (N : News h₀ L s.heap news) (hm : (D, listOf (refsOf rs).toArray re) ∈ news) (hsub : ∀ p ∈ ledOf hs C rs, p ∈ news) (h0 : 0 ≤ j) (h1 : j < ((refsOf rs).length : Int)) (hz : (refsOf rs).length ≤ 1000)
    (h : ∀ r, rs[j.toNat]? = some r → (r.x, instObj C r.d) ∈ ledOf hs C rs → (r.d, dictOf [⟨hs, .str (PySem.Str.ofString "name") r.t, r.v⟩] 1) ∈ ledOf hs C rs → @Ne Nat I r.d → @Ne Nat R r.d → @Ne Nat S r.d → (∀ r' ∈ rs, r'.x ≠ r.d) → Q (.ref r.x) s)
    (hss : subscripted slice false (.ref D) (.int j u) = operate [.ref D, .int j u] (getItem (.ref D) (.int j u))) :
    wpAny (model prog w) A (subscriptTail value slice (.ref D) (.int j u)) Q E s := by
  have hl := News.isList N hm
  have hlen : (refsOf rs).length = rs.length := by unfold refsOf; rw [List.length_map]
  have hj : j.toNat < rs.length := by omega
  obtain ⟨r, hr⟩ : ∃ r, rs[j.toNat]? = some r := ⟨rs[j.toNat], by simp [hj]⟩
  have hmem := List.mem_of_getElem? hr
  have m := ledOf_mem (hs := hs) (C := C) hmem
  have a := hA r hmem
  refine tail_any hl.typeIs slot_list_getitem.lookup (wpAny_getItem_list hl h0 (by omega) (x := .ref r.x) ?_ (h r hr m.1 m.2 a.1.1.symm a.1.2.1.symm a.1.2.2.symm a.2)) hss
  have e : (refsOf rs)[j.toNat]? = some (.ref r.x) := by unfold refsOf; rw [List.getElem?_map, hr]; rfl
  simpa using e
theorem pick_take {l : List Value} {j : Int} (h0 : 0 ≤ j) (h1 : j ≤ (l.length : Int)) : kms_pick l none (some j) = l.take j.toNat := by
  unfold kms_pick kms_lo kms_hi
  have : ¬ j < 0 := by omega
  simp only [if_neg this, List.drop_zero, Nat.sub_zero]
  congr 1; omega
theorem ints_take : ∀ {us : List Value} {l : List Int} (k : Nat), IntsAre us l → IntsAre (us.take k) (l.take k)
  | _, _, 0, _ => by simp only [List.take_zero]; exact .nil
  | _, _, k + 1, .nil => by simp only [List.take_nil]; exact .nil
  | _, _, k + 1, .cons n t r => .cons n t (ints_take k r)
theorem itemI_L {prog : Program} {w : World} {A : Around} {E : Value → Shared → Prop} {s : Shared} {h₀ : Heap} {L D : Addr} {news : List (Addr × Obj)} {value slice : PySem.Expr} {us : List Value} {l : List Int} {ep : Nat} {j : Int} {u : Tok} {Q : Value → Shared → Prop}
    (hi : IntsAre us l) (N : News h₀ L s.heap news) (hm : (D, listOf us.toArray ep) ∈ news) (h0 : 0 ≤ j) (h1 : j < (us.length : Int)) (hz : us.length ≤ 1000) (h : ∀ t, Q (.int (l.getD j.toNat 0) t) s)
    (hss : subscripted slice false (.ref D) (.int j u) = operate [.ref D, .int j u] (getItem (.ref D) (.int j u))) : wpAny (model prog w) A (subscriptTail value slice (.ref D) (.int j u)) Q E s := by
  have hl := News.isList N hm
  have hlen := hi.length
  have hj : j.toNat < l.length := by omega
  obtain ⟨t, ht⟩ := hi.get j.toNat l[j.toNat] (by simp [hj])
  refine tail_any hl.typeIs slot_list_getitem.lookup (wpAny_getItem_list hl h0 (by omega) (x := .int (l.getD j.toNat 0) t) ?_ (h t)) hss
  have e : l.getD j.toNat 0 = l[j.toNat] := by rw [List.getD_eq_getElem?_getD]; simp [hj]
  rw [e]; simpa using ht
theorem ints_setS {word name : PySem.Str} {rs : List Fd} {szs : List Value} {j : Nat} {r : Fd} {u u' : Tok} (h : IntsAre (szs.set j (.int ((word ++ PySem.Str.ofString "." ++ name ++ PySem.Str.ofString ",").length : Int) u)) ((sizesOf word rs).set j ((word ++ PySem.Str.ofString "." ++ name ++ PySem.Str.ofString ",").length : Int))) :
    IntsAre (szs.set j (.int ((word ++ PySem.Str.ofString "." ++ name ++ PySem.Str.ofString ",").length : Int) u)) (sizesOf word (rs.set j { r with v := .str name u' })) := by
  have e : sizesOf word (rs.set j { r with v := .str name u' }) = (sizesOf word rs).set j ((word ++ PySem.Str.ofString "." ++ name ++ PySem.Str.ofString ",").length : Int) := by
    unfold sizesOf; rw [List.map_set]; rfl
  rw [e]; exact h
theorem sizesOf_len {word : PySem.Str} {rs : List Fd} : (sizesOf word rs).length = rs.length := by unfold sizesOf; rw [List.length_map]
end

section
local macro_rules | `(tactic| k_mem) => `(tactic| first | exact List.Mem.head _ | assumption | (refine List.Mem.tail _ ?_; k_mem))

local macro_rules | `(tactic| walk_at "truthy ref") => `(tactic| (k_here; k_dflt (first | refine truthy_seq0 (by k_asm) (by k_mem) (by assumption) ?_ | refine truthy_seq1 (by k_asm) (by k_mem) (by assumption) (by omega) ?_)))
local macro_rules | `(tactic| walk_at "eval ListComp") => `(tactic| (k_here; k_dflt (refine ListComp_seq (by rfl) (by k_asm) (by assumption) (fun Q' hQ' => by (first | (refine' nameX_L ?F ?v ?_ ?a ?b; (case F => k_asm); (case a => rfl); (case b => rfl); (case v => rfl); assumption))) (by k_asm) (by k_mem) (by (rw [PySem.sizeLine_eq]; omega)) (by with_unfolding_all rfl) (by decide) (by rfl) (by decide) (by rfl) (fun g' S' hS' => ?_))))

local macro_rules | `(tactic| walk_at "CompRest") => `(tactic| (k_here; k_dflt ((refine' comp_ts (by assumption) (by assumption) (by assumption) (fun v' a' d' hs' t' I' oI' C' oC' D' m' zs' h' tk' E' m1' m2' hn' hC' hx' F' N' off' ne' => ?_) (fun zs' hz' => ?_)); (all_goals (try (rcases hn' with ⟨s', t', hv', hs'⟩ | ⟨i', t', hv', h0', h1'⟩ | hv' <;> subst hv'))); kcf_last)))
local macro_rules | `(tactic| walk_at "CompEnd") => `(tactic| (k_here; k_dflt ((refine ElK.done (by assumption) (by assumption) (by kcf_all) (by assumption) (SIn.use (by assumption) (by k_mem)) (piece_end ?_)); exact piece_is)))
local macro_rules | `(tactic| walk_at "call builtin:str.join") => `(tactic| (k_here; k_dflt (refine join_ts (by assumption) (by k_asm) (by k_mem) (by assumption) (by assumption) (by assumption) ?_); intro _ _ hjl'))

set_option maxRecDepth 100000 in
set_option maxHeartbeats 8000000 in
theorem ts_call {w : World} {mean : ExcName → Option Value} {mg mb : Str → Option Value} {cn : Str} {cs : Scope} {L a : Addr} {ccd : Value} {cl : List (Str × Addr)} {base h₀ : Heap} {m : Str → Option Value} {news : List (Addr × Obj)} {s : Shared} {Q E : Value → Shared → Prop}
    {word : Str} {tw : Tok} {ax : Addr} {oax : Obj} {ys vs : List Value}
    (B : Below callerA base [] h₀) (F : Fr h₀ L s.heap m) (X : (hd.heap_39 w.params).In h₀) (N : News h₀ L s.heap news) (T : Top hd.view_39 (looseW hd.view_39 []) mean mg mb h₀) (hk : cs.kind = .function)
    (hm : (ax, oax) ∈ news) (hq : SeqObj oax ys) (hf : FieldsAt 38 news ys vs) (hn : NmsOk vs) (hl : vs.length ≤ 63) (hw : word.length ≤ 16)
    (hret : CbRet h₀ L m news s Q fun t => .str (tstr word (vs.map nmTxt)) t) :
    wpAny (model Challenge.rw_io0052_03.row.prog w) (callerA.deeper (envX cn cs L a ccd cl)) (call (.ref 47) [.str word tw, .ref ax]) Q E s := by
  have hyl := hf.length
  cases ys
  all_goals w_strict (
    revert X; k_fill; intro X
    refine wpAny_call ?_
    k_dflt (refine' code_defC ?k1 ?k2 ?k3 ?k4 ?k5 ?kA ?kF ?kK ?k6 ?k7 ?k8 ?k9 ?kB ?kD ?_ ?c2 ?c3 ?c4; (case kA => exact rfl); (case kF => exact rfl); (case kK => assumption); (case k1 => k_asm); (case k2 => k_asm); (case k3 => k_asm); (case k4 => k_asm); (case k5 => k_asm); (case k6 => k_is); (case k7 => k_is); (case k8 => k_room); (case k9 => exact BindsTo.of_eq rfl); (case kB => exact rfl); (case kD => decide +kernel); (case c2 => exact rfl); (case c3 => exact rfl); (case c4 => exact rfl); k_whole; intro g' L' h' tk' cells' FG' F' N' Y' B' X' T' l1; k_cells Y'; (try simp only [List.cons_append, List.nil_append] at N'); (try dsimp only); (try k_lift B'); (try k_fold))
    k_steps
    all_goals (refine cb_retS hret ?_ (by k_asm) (by first | k_asm | (refine cb_drop (by assumption) ?_; kcf_all)))
    all_goals (simp only [List.length_nil, List.length_cons] at hyl)
    all_goals (first | exact tstr_nil (by omega) | exact tstr_cons (by omega)))
end

section
local macro_rules | `(tactic| k_mem) => `(tactic| first | exact List.Mem.head _ | assumption | (refine List.Mem.tail _ ?_; k_mem))
local macro_rules | `(tactic| k_all) => `(tactic| first | assumption | (refine' ledOf_off ?N ?m ?s; (case N => assumption); (case m => k_mem); (case s => (intro p hp; k_mem))))
local macro_rules | `(tactic| k_upd) => `(tactic| exact upd_led (by assumption) (Inv3.nd (by assumption)) (by assumption))
local macro_rules | `(tactic| walk_at "subscriptTail") => `(tactic| (k_here; (with_reducible show wpAny _ _ (subscriptTail _ _ (Value.ref _) (Value.int (Int.fmod _ 2) _)) _ _ _); k_dflt ((refine menu2 (by k_asm) (by k_mem) (fmod_lo _ (by decide)) (fmod_hi _ (by decide)) (by decide) (by decide) ?_ (by with_unfolding_all rfl)); intro word' tw' hw')))
local macro_rules | `(tactic| walk_at "exec For") => `(tactic| (k_here; (rename Fr _ _ _ _ => lF'); (with_unfolding_all refine' For_invVF lF' ?k1 ?k2 ?_; (case k1 => exact rfl); (case k2 => exact rfl); k_whole)))
local macro_rules | `(tactic| walk_at "exec For Name Call cons nil") => `(tactic| (k_here; (rename Fr _ _ _ _ => lF'); (with_unfolding_all refine' For_invVF lF' ?k1 ?k2 ?_; (case k1 => exact rfl); (case k2 => exact rfl); k_whole)))
local macro_rules | `(tactic| walk_at "pyIter ref") => `(tactic| (k_here; (try kcf_lens); k_dflt ((refine loop3 38 (by rfl) (by assumption) (by first | exact small_one (by kcf_bnd) (by kcf_bnd) (by kcf_bnd) (by kcf_bnd) | decide) (by first | exact rangeSize_nat _ _ | rfl) (by k_asm) (by k_asm) (by rfl) (by rfl) (by rfl) (by assumption) (by k_mem) (by k_mem) (by omega) (fun c' i' t' u' h' tk' I' oI' hi' hinv' hln' hrl' hsl' offI' neR' neS' oR' oS' F' N' => ?_) (fun u' m' h' tk' F' N' => ?_)); kcf_last)))
local macro_rules | `(tactic| walk_at "binaryOp Mult str int") => `(tactic| (k_here; k_dflt ((refine mul_x (fmod_lo _ (by decide)) (fmod_hi _ (by decide)) ?_); intro y' t' k' hy')))
local macro_rules | `(tactic| walk_at "call builtin:list.append") => `(tactic| (k_here; (with_reducible show wpAny _ _ (call (Value.builtin _) [Value.ref _, _]) _ _ _); k_dflt (refine' append_L ?k1 ?k2 ?k3 ?k4 ?_; (case k1 => k_asm); (case k2 => k_asm); (case k3 => k_upd); (case k4 => (rw [PySem.sizeLine_eq]; omega)); k_whole); intro h' F' N'; (try k_sweep)))
local macro_rules | `(tactic| walk_at "call builtin:list.append") => `(tactic| (k_here; (with_reducible show wpAny _ _ (call (Value.builtin _) [Value.ref _, Value.ref _]) _ _ _); k_dflt (refine' rowApp ?k1 ?k2 ?m1 ?m2 ?k3 ?k4 ?_; (case k1 => k_asm); (case k2 => k_asm); (case m1 => k_mem); (case m2 => k_mem); (case k3 => k_upd); (case k4 => (rw [PySem.sizeLine_eq]; omega)); k_whole); intro h' F' N'; (try k_sweep)))
local macro_rules | `(tactic| walk_at "call builtin:list.insert") => `(tactic| (k_here; (with_reducible show wpAny _ _ (call (Value.builtin _) [Value.ref _, Value.int _ _, _]) _ _ _); k_dflt (refine' insert_L ?k1 ?k2 ?k3 ?k4 ?_; (case k1 => k_asm); (case k2 => k_asm); (case k3 => k_upd); (case k4 => (rw [PySem.sizeLine_eq]; omega)); k_whole); intro h' F' N'; (try k_sweep)))
local macro_rules | `(tactic| walk_at "call builtin:list.insert") => `(tactic| (k_here; (with_reducible show wpAny _ _ (call (Value.builtin _) [Value.ref _, Value.int _ _, Value.ref _]) _ _ _); k_dflt (refine' rowIns ?k1 ?k2 ?m1 ?m2 ?k3 ?k4 ?_; (case k1 => k_asm); (case k2 => k_asm); (case m1 => k_mem); (case m2 => k_mem); (case k3 => k_upd); (case k4 => (rw [PySem.sizeLine_eq]; omega)); k_whole); intro h' F' N'; (try k_sweep)))
local macro_rules | `(tactic| walk_at "call builtin:list.pop") => `(tactic| (k_here; (with_reducible show wpAny _ _ (call (Value.builtin _) [Value.ref _]) _ _ _); k_dflt (refine' popI_L (Inv3.ints (by assumption)) ?k1 ?k2 ?k3 ?k4 ?k5 ?_; (case k1 => k_asm); (case k2 => k_asm); (case k3 => k_upd); (case k4 => omega); (case k5 => (rw [PySem.sizeLine_eq]; omega)); k_whole); intro h' t' F' N'; (try k_sweep)))
local macro_rules | `(tactic| walk_at "call builtin:list.pop") => `(tactic| (k_here; (with_reducible show wpAny _ _ (call (Value.builtin _) [Value.ref _]) _ _ _); k_dflt (refine' rowPop ?k1 ?k2 ?k3 ?k4 ?k5 ?_; (case k1 => k_asm); (case k2 => k_asm); (case k3 => k_upd); (case k4 => omega); (case k5 => (rw [PySem.sizeLine_eq]; omega)); k_whole); intro y' h' F' N'; (try k_sweep)))
local macro_rules | `(tactic| walk_at "call builtin:len") => `(tactic| (k_here; (with_reducible show wpAny _ _ (call (Value.builtin "len") [Value.ref _]) _ _ _); k_dflt (refine len_L (by k_asm) (by k_mem) (by omega) ?_)))
local macro_rules | `(tactic| walk_at "call builtin:len") => `(tactic| (k_here; (with_reducible show wpAny _ _ (call (Value.builtin "len") [Value.str _ _]) _ _ _); k_dflt (first | refine P.len_str (len_ok (by exact Nat.le_trans (KT.len_app (KT.len_app (KT.len_app (by assumption) (Nat.le_refl _)) (KT.len_app (KT.len_app (Nat.le_refl _) (by assumption)) (KT.len_num (by omega) (by omega)))) (Nat.le_refl _)) (by decide))) ?_ | refine P.len_str (len_ok8 (txtOf_len (by assumption) (by assumption) (by omega))) ?_)))
local macro_rules | `(tactic| walk_at "call ref") => `(tactic| (k_here; (with_reducible show wpAny _ _ (call (.ref 38) _) _ _ _); k_dflt (refine' call_cls ?k1 ?k2 ?k3 ?k4 ?k5 ?k6 ?_; (case k1 => k_asm); (case k2 => k_asm); (case k3 => k_asm); (case k4 => k_is); (case k5 => k_is); (case k6 => k_is); k_whole; intro x' d' h' F' N' l1 l2; (have l9 := fresh3 l1); (try k_lt l1); (try k_lt2 l2); (try k_sweep); k_enter)))
local macro_rules | `(tactic| walk_at "call ref") => `(tactic| (k_here; (with_reducible show wpAny _ _ (call (.ref 47) _) _ _ _); k_dflt ((refine' ts_call (by k_asm) (by k_asm) (by k_asm) (by k_asm) (by k_asm) (by rfl) ?hm ?hq ?hf ?hn ?hl ?hw ?_); (case hm => k_mem); (case hq => exact ⟨_, Or.inl rfl⟩); ((case hf => first | exact FieldsAt.nil | (refine' ledOf_fields (hs := PyData.keyHash _ (PySem.Str.ofString "name")) ?hs; (case hs => first | (intro p hp; k_mem) | (refine' ledOf_subApp ?ha ?hb ?hc; (case ha => (intro p hp; k_mem)); (case hb => k_mem); (case hc => k_mem)) | (refine' ledOf_subDrop ?ha; (case ha => (intro p hp; k_mem))) | kcf_all)) | (refine' ledOf_fieldsS (hs := PyData.keyHash _ (PySem.Str.ofString "name")) (by assumption) ?hs; (case hs => first | (intro p hp; k_mem) | (refine' ledOf_subApp ?ha ?hb ?hc; (case ha => (intro p hp; k_mem)); (case hb => k_mem); (case hc => k_mem)) | (refine' ledOf_subDrop ?ha; (case ha => (intro p hp; k_mem))) | kcf_all)))); ((case hn => first | exact nms_nil | first | exact nms_app (Inv3.nms (by assumption)) (nm_str _ (by exact Nat.le_trans (KT.len_app (KT.len_app (Nat.le_refl _) (by assumption)) (KT.len_num (by omega) (by omega))) (by decide))) | exact nms_cons (Inv3.nms (by assumption)) (nm_str _ (by exact Nat.le_trans (KT.len_app (KT.len_app (Nat.le_refl _) (by assumption)) (KT.len_num (by omega) (by omega))) (by decide))) | exact nms_drop (Inv3.nms (by assumption)) | exact nms_set (Inv3.nms (by assumption)) (nm_str _ (by exact Nat.le_trans (KT.len_app (KT.len_app (Nat.le_refl _) (by assumption)) (KT.len_num (by omega) (by omega))) (by decide))))); ((case hl => first | exact Nat.zero_le _ | (unfold namesOf; rw [List.length_map]; ((try simp only [List.length_append, List.length_cons, List.length_nil, List.length_dropLast, List.length_set]); omega)))); (case hw => assumption); intro _ _ _ _ _; (try dsimp only); (try k_fold))))
local macro_rules | `(tactic| walk_at "compareOp NotEq str str") => `(tactic| (k_here; k_dflt (first | refine ne_same txt_app ?_ | refine ne_same txt_ins ?_ | refine ne_same (txt_pop (by omega)) ?_ | refine ne_same (txt_set (by assumption)) ?_ | refine ne_same (by rfl) ?_)))
local macro_rules | `(tactic| walk_at "TurnPost") => `(tactic| (dsimp only [TurnPost]))
local macro_rules | `(tactic| walk_at "TurnEnd") => `(tactic| (k_here; k_dflt ((refine' end3 (hs := PyData.keyHash _ (PySem.Str.ofString "name")) ?F ?N ?I ?hx ?m1 ?m2 ?m3 ?tx ?e ?r ?l ?n ?z ?d); (((case F => assumption); (case N => assumption); (case I => k_mem); (case hx => rfl); (case m1 => k_mem); (case m2 => k_mem))); ((case m3 => first | (intro p hp; k_mem) | (refine' ledOf_subApp ?ha ?hb ?hc; (case ha => (intro p hp; k_mem)); (case hb => k_mem); (case hc => k_mem)) | (refine' ledOf_subDrop ?ha; (case ha => (intro p hp; k_mem))) | kcf_all)); (((case tx => rfl); (case e => first | exact txt_app | exact txt_ins | exact txt_pop (by omega) | exact txt_set (by assumption)))); ((case r => (intro z h1 h2 h3 h4 h5 h6 h7; simp [kstB, h1, h2, h3, h4, h5, h6, h7]))); ((case l => ((try simp only [List.length_append, List.length_cons, List.length_nil, List.length_dropLast, List.length_set]); omega))); ((case n => first | exact nms_app (Inv3.nms (by assumption)) (nm_str _ (by exact Nat.le_trans (KT.len_app (KT.len_app (Nat.le_refl _) (by assumption)) (KT.len_num (by omega) (by omega))) (by decide))) | exact nms_cons (Inv3.nms (by assumption)) (nm_str _ (by exact Nat.le_trans (KT.len_app (KT.len_app (Nat.le_refl _) (by assumption)) (KT.len_num (by omega) (by omega))) (by decide))) | exact nms_drop (Inv3.nms (by assumption)) | exact nms_set (Inv3.nms (by assumption)) (nm_str _ (by exact Nat.le_trans (KT.len_app (KT.len_app (Nat.le_refl _) (by assumption)) (KT.len_num (by omega) (by omega))) (by decide))))); ((case z => first | exact ints_appS (Inv3.ints (by assumption)) | exact ints_consS (Inv3.ints (by assumption)) | exact ints_drop (Inv3.ints (by assumption)) | exact ints_setS (by assumption) | assumption)); ((case d => first | exact nodup_app (Inv3.nd (by assumption)) (by assumption) | exact nodup_cons3 (Inv3.nd (by assumption)) (by assumption) | exact nodup_drop (Inv3.nd (by assumption)) | exact nodup_set (by assumption) (Inv3.nd (by assumption)))))))
local macro_rules | `(tactic| walk_at "TurnEnd") => `(tactic| (k_here; (with_reducible rename (_ : List Fd)[(_ : Nat)]? = some _ => hr9); k_dflt ((refine' end3 (hs := PyData.keyHash _ (PySem.Str.ofString "name")) ?F ?N ?I ?hx ?m1 ?m2 ?m3 ?tx ?e ?r ?l ?n ?z ?d); (((case F => assumption); (case N => assumption); (case I => k_mem))); ((case m3 => (intro p hp; k_mem))); ((case hx => exact refsOf_set hr9)); (((case m1 => k_mem); (case m2 => k_mem))); (((case tx => rfl); (case e => exact txt_set hr9))); ((case r => (intro z h1 h2 h3 h4 h5 h6 h7; simp [kstB, h1, h2, h3, h4, h5, h6, h7]))); ((case l => ((try simp only [List.length_append, List.length_cons, List.length_nil, List.length_dropLast, List.length_set]); omega))); ((case n => first | exact nms_app (Inv3.nms (by assumption)) (nm_str _ (by exact Nat.le_trans (KT.len_app (KT.len_app (Nat.le_refl _) (by assumption)) (KT.len_num (by omega) (by omega))) (by decide))) | exact nms_cons (Inv3.nms (by assumption)) (nm_str _ (by exact Nat.le_trans (KT.len_app (KT.len_app (Nat.le_refl _) (by assumption)) (KT.len_num (by omega) (by omega))) (by decide))) | exact nms_drop (Inv3.nms (by assumption)) | exact nms_set (Inv3.nms (by assumption)) (nm_str _ (by exact Nat.le_trans (KT.len_app (KT.len_app (Nat.le_refl _) (by assumption)) (KT.len_num (by omega) (by omega))) (by decide))))); ((case z => exact ints_setS (by assumption))); ((case d => exact nodup_set hr9 (Inv3.nd (by assumption)))))))
local macro_rules | `(tactic| kt_len) => `(tactic| first | assumption | exact slice_len8 (by assumption) (by assumption) (by omega) | exact txtOf_len (by assumption) (by assumption) (by omega))
local macro_rules | `(tactic| walk_at "binaryOp Add str str") => `(tactic| (k_here; (with_reducible show wpAny _ _ (binaryOp Operator.Add (Value.str _ _) (Value.str _ _)) _ _ _); (refine' PyProof.Rows.add_str ?_ ?hsz; (case hsz => (refine' add_ok ?ha ?hb ?hc; (case ha => kt_len); (case hb => kt_len); (case hc => k_dflt decide)))); intro _ _))
local macro_rules | `(tactic| walk_at "subscriptTail Name Slice str ref") => `(tactic| (k_here; (with_reducible rename Fr _ _ _ _ => F'); (with_reducible rename News _ _ _ _ => N'); k_dflt (first | refine' slice_strN_ns (s := ⟨_, _, _, _, _⟩) F' N' ?_ (by with_unfolding_all rfl) (by intro _; with_unfolding_all rfl) (txt_room (by assumption) (by assumption) (by omega)) | refine' slice_strN_sn (s := ⟨_, _, _, _, _⟩) F' N' ?_ (by with_unfolding_all rfl) (by intro _; with_unfolding_all rfl) (txt_room (by assumption) (by assumption) (by omega))); intro _ _ _ _ _))
local macro_rules | `(tactic| walk_at "subscriptTail Name Name ref int") => `(tactic| (k_here; k_dflt ((refine' itemI_L (Inv3.ints (by assumption)) ?N ?m ?a ?b ?c ?_ ?e); (case N => k_asm); (case m => k_mem); (case a => exact fmod_lo _ (by omega)); (case b => exact Int.lt_of_lt_of_le (fmod_hi _ (by omega)) (by omega)); (case c => omega); (case e => with_unfolding_all rfl); intro t')))
local macro_rules | `(tactic| walk_at "subscriptTail Name Name ref int") => `(tactic| (k_here; k_dflt ((refine' rowItem (PyData.keyHash _ (PySem.Str.ofString "name")) 38 ?A ?N ?m ?s ?a ?b ?c ?_ ?e); (case A => assumption); (case N => k_asm); (case m => k_mem); (case s => (intro p hp; k_mem)); (case a => exact fmod_lo _ (by omega)); (case b => exact fmod_hi _ (by omega)); (case c => omega); (case e => with_unfolding_all rfl); intro r' hr' m1' m2' n1' n2' n3' hx')))
local macro_rules | `(tactic| walk_at "subscriptTail Name Slice ref ref") => `(tactic| (k_here; k_dflt (refine' kms_slice_lit ?F ?N ?l ?p ?q ?e ?_ ?s ?t ?z; (case F => k_asm); (case N => k_asm); (case l => exact News.isList (by k_asm) (by k_mem)); (case p => kmk_part); (case q => kmk_part); (case e => exact pick_take (fmod_lo _ (by omega)) (Int.le_trans (Int.le_of_lt (fmod_hi _ (by omega))) (by (simp only [List.toList_toArray]; omega)))); (case s => with_unfolding_all rfl); (case t => kmk_pure); (case z => (rw [PySem.sizeLine_eq, List.size_toArray]; omega))); intro D' h' F' N' l1; (try k_lt l1); (try k_sweep)))
local macro_rules | `(tactic| walk_at "call builtin:sum") => `(tactic| (k_here; (with_reducible rename Inv3 _ _ _ => hI9); k_dflt (refine' sumK ?k0 ?k1 ?k2 ?k3 ?k4 ?_; (case k0 => with_unfolding_all rfl); (case k1 => k_asm); (case k2 => k_asm); (case k3 => exact News.isList (by k_asm) (by k_mem)); (case k4 => exact ints_take _ (Inv3.ints hI9))); intro h' tk' t' F' N'))
local macro_rules | `(tactic| walk_at "setItem ref int") => `(tactic| (k_here; k_dflt (refine' ksa_set ?k1 ?k2 ?k3 ?k4 ?k5 ?k6 ?k7 ?_; (case k4 => exact Inv3.ints (by assumption)); (case k1 => k_asm); (case k2 => k_asm); (case k3 => k_upd); (case k5 => exact fmod_lo _ (by omega)); (case k6 => (refine Int.lt_of_lt_of_le (fmod_hi _ (by omega)) ?_; (rw [sizesOf_len]; omega))); (case k7 => exact Int.lt_trans (fmod_hi _ (by omega)) (by omega))); intro h' F' N' hI' _ _))
set_option maxRecDepth 100000 in
set_option maxHeartbeats 40000000 in
theorem walked : PySem.Challenge.rw_io0052_03.Holds := by
  refine hd ?_
  w_strict (k_go0; (all_goals try k_fold); k_steps)
end

end Mine

theorem PySem.Challenge.cw_io0052_03_holds : PySem.Challenge.rw_io0052_03.Holds := by
  exact Mine.walked
