import PyProof.Rows.All
import Wide.All
import OpenK.AllK
import Wide.FinOn
import PySem.Challenge.RW_io0052_02
open PySem PySem.W PyProof.Rows PySem.Calls
set_option Elab.async false
set_option linter.unusedVariables false
namespace Mine

section
def clip (v : Option Int) (d n : Int) : Int := match v with
  | none => d
  | some i => max 0 (min (if i < 0 then i + n else i) n)
theorem slice_at {x : PySem.Str} {l u : Option Int} {a b : Nat} (hab : a ≤ b) (hb : b ≤ x.length) (hl : clip l 0 x.length = a) (hu : clip u x.length x.length = b) :
    PySem.Txt.slice x l u = ⟨((x.cps.toList.drop a).take (b - a)).toArray⟩ := by
  have hs : Builtin.Str.strSliceIndices l u 1 x.length = (List.range (b - a)).map (a + ·) := by
    have e : Builtin.Str.strSliceIndices l u 1 x.length = sliceRange (clip l 0 x.length) (clip u x.length x.length) 1 := by
      cases l <;> cases u <;> rfl
    rw [e, hl, hu]
    unfold sliceRange
    simp only [show (1 : Int) > 0 by decide, if_true, Int.ediv_one, Int.one_mul]
    by_cases h : a < b
    · rw [if_pos (by omega)]
      have : ((b : Int) - a + 1 - 1).toNat = b - a := by omega
      rw [this]
      apply List.map_congr_left
      intro k _
      omega
    · rw [if_neg (by omega)]
      have : b - a = 0 := by omega
      simp [this]
  have hp := pick_run x.cps a (b - a)
  unfold PySem.Txt.slice
  rw [hs]
  split
  · rename_i h
    have hn : b - a = x.length := by simpa using h
    have ha : a = 0 := by omega
    subst ha
    rw [Nat.sub_zero] at hn
    subst hn
    have e : (x.cps.toList.drop 0).take (x.length - 0) = x.cps.toList := by
      rw [List.drop_zero, Nat.sub_zero]
      exact List.take_of_length_le (by rw [Array.length_toList]; exact Nat.le_refl _)
    rw [e]
  · rw [hp]
theorem slice_mid {p q r : PySem.Str} {l u : Option Int} (hl : clip l 0 (p ++ q ++ r).length = p.length) (hu : clip u (p ++ q ++ r).length (p ++ q ++ r).length = ((p.length + q.length : Nat) : Int)) :
    PySem.Txt.slice (p ++ q ++ r) l u = q := by
  have hlen : (p ++ q ++ r).length = p.length + q.length + r.length := by rw [PySem.Str.length_append, PySem.Str.length_append]
  rw [slice_at (a := p.length) (b := p.length + q.length) (by omega) (by omega) hl hu]
  have e : (p ++ q ++ r).cps.toList = p.cps.toList ++ (q.cps.toList ++ r.cps.toList) := by
    rw [KT.app_list, KT.app_list, List.append_assoc]
  have lp : p.cps.toList.length = p.length := Array.length_toList
  have lq : q.cps.toList.length = q.length := Array.length_toList
  rw [e, ← lp, List.drop_left, Nat.add_sub_cancel_left, ← lq, List.take_left]
theorem app_empty (a : PySem.Str) : a ++ PySem.Str.empty = a := by
  have e : (a ++ PySem.Str.empty).cps = a.cps := by
    rw [PySem.Str.cps_append]
    simp [PySem.Str.empty]
  exact congrArg PySem.Str.mk e
theorem app_assoc (a b c : PySem.Str) : a ++ b ++ c = a ++ (b ++ c) := by
  have e : (a ++ b ++ c).cps = (a ++ (b ++ c)).cps := by
    simp only [PySem.Str.cps_append, Array.append_assoc]
  exact congrArg PySem.Str.mk e
theorem empty_len : PySem.Str.empty.length = 0 := rfl
/-- the first k signs -/
theorem slice_to {p r : PySem.Str} {k : Int} (hk : k = p.length) : PySem.Txt.slice (p ++ r) none (some k) = p := by
  have h := slice_mid (p := PySem.Str.empty) (q := p) (r := r) (l := none) (u := some k)
  rw [KT.empty_app] at h
  refine h rfl ?_
  rw [PySem.Str.length_append, hk, empty_len, clip]
  have : ¬ ((p.length : Int) < 0) := by omega
  rw [if_neg this]; omega
/-- all but the last ones -/
theorem slice_toNeg {p r : PySem.Str} {k : Int} (hk : k = -(r.length : Int)) (hr : 0 < r.length) : PySem.Txt.slice (p ++ r) none (some k) = p := by
  have h := slice_mid (p := PySem.Str.empty) (q := p) (r := r) (l := none) (u := some k)
  rw [KT.empty_app] at h
  refine h rfl ?_
  rw [PySem.Str.length_append, hk, empty_len, clip]
  rw [if_pos (by omega)]; omega
theorem slice_from {p r : PySem.Str} {k : Int} (hk : k = p.length) : PySem.Txt.slice (p ++ r) (some k) none = r := by
  have h := slice_mid (p := p) (q := r) (r := PySem.Str.empty) (l := some k) (u := none)
  rw [app_empty] at h
  refine h ?_ ?_
  · rw [PySem.Str.length_append, hk, clip, if_neg (by omega)]; omega
  · rw [PySem.Str.length_append]; rfl
theorem slice_fromNeg {p r : PySem.Str} {k : Int} (hk : k = -(r.length : Int)) (hr : 0 < r.length) : PySem.Txt.slice (p ++ r) (some k) none = r := by
  have h := slice_mid (p := p) (q := r) (r := PySem.Str.empty) (l := some k) (u := none)
  rw [app_empty] at h
  refine h ?_ ?_
  · rw [PySem.Str.length_append, hk, clip, if_pos (by omega)]; omega
  · rw [PySem.Str.length_append]; rfl
theorem slice_inner {p q r : PySem.Str} {k j : Int} (hk : k = p.length) (hj : j = -(r.length : Int)) (hr : 0 < r.length) : PySem.Txt.slice (p ++ q ++ r) (some k) (some j) = q := by
  refine slice_mid ?_ ?_
  · rw [PySem.Str.length_append, PySem.Str.length_append, hk, clip, if_neg (by omega)]; omega
  · rw [PySem.Str.length_append, PySem.Str.length_append, hj, clip, if_pos (by omega)]; omega
end

section
/-- a comprehension without a test, by an invariant over the turn's number, the list so far and the ledger -/
theorem comp_inv {prog : Program} {w : World} {A : Around} {h₀ : Heap} {L : Addr} {m : Str → Option Value} {env : Env} {elt : Expr} {x : Str} {scope : Scope} {cl : List (Str × Addr)} {s : Shared}
    {S : List (Addr × Obj) → Prop} {P : Nat → Value → Prop} {Fin : List Value → List (Addr × Obj) → Prop} {n : Nat} {news : List (Addr × Obj)}
    (R : Nat → List Value → List (Addr × Obj) → Prop) (h0 : R 0 [] news)
    (turn : ∀ i v I oI C oC D m₂ ys nx h tk (E' : Value → Shared → Prop), i < n → P i v → R i ys nx → LCg.NsObj oC m₂ → m₂ x = some v → Fr h₀ L h m →
      News h₀ L h ((I, oI) :: (C, oC) :: (D, LCg.lst ys) :: nx) → LCg.Off3 I C D nx → ((@Ne Nat I C) ∧ (@Ne Nat I D) ∧ (@Ne Nat C D)) →
      wpAny (model prog w) A (eval elt (compEnvC scope cl C env)) (LCg.CompEnd h₀ L m { s with heap := h, toks := tk } I oI C oC D (LCg.lst ys) S (fun y nx' => R (i + 1) (ys ++ [y]) nx')) E' { s with heap := h, toks := tk })
    (fin : ∀ ys nx, R n ys nx → Fin ys nx) : LCg.CompRest prog w A h₀ L m env elt x scope cl s S P Fin n 0 [] news := by
  have key : ∀ (j i : Nat) (ys : List Value) (nx : List (Addr × Obj)), i + j = n → R i ys nx → LCg.CompRest prog w A h₀ L m env elt x scope cl s S P Fin j i ys nx := by
    intro j
    induction j with
    | zero => intro i ys nx hi hr; exact LCg.CompRest.zero (fin ys nx (by rw [show n = i by omega]; exact hr))
    | succ j ih =>
      intro i ys nx hi hr
      refine LCg.CompRest.succ ?_
      intro v I oI C oC D m₂ h tk E' hv hC hx F N off ne
      refine wpAny_mono (turn i v I oI C oC D m₂ ys nx h tk E' (by omega) hv hr hC hx F N off ne) (fun y s₂ hq => ?_) fun _ _ e => e
      obtain ⟨h', tk', nw, e, F', N', off', hS, hr'⟩ := hq
      exact ⟨h', tk', nw, e, F', N', off', hS, ih (i + 1) _ nw (by omega) hr'⟩
  exact key n 0 [] news (by omega) h0

/-- what a turn that leaves the ledger hands on -/
def ElK (news : List (Addr × Obj)) (R : Value → Prop) (y : Value) (nx : List (Addr × Obj)) : Prop := nx = news ∧ R y
theorem ElK.intro {news : List (Addr × Obj)} {R : Value → Prop} {y : Value} (h : R y) : ElK news R y news := ⟨rfl, h⟩
/-- the same where the ledger stays as it is -/
theorem comp_keep {prog : Program} {w : World} {A : Around} {h₀ : Heap} {L : Addr} {m : Str → Option Value} {env : Env} {elt : Expr} {x : Str} {scope : Scope} {cl : List (Str × Addr)} {s : Shared}
    {S : List (Addr × Obj) → Prop} {P : Nat → Value → Prop} {Fin : List Value → List (Addr × Obj) → Prop} {n : Nat} {news : List (Addr × Obj)}
    (R : Nat → List Value → Prop) (h0 : R 0 [])
    (turn : ∀ i v I oI C oC D m₂ ys h tk (E' : Value → Shared → Prop), i < n → P i v → R i ys → LCg.NsObj oC m₂ → m₂ x = some v → Fr h₀ L h m →
      News h₀ L h ((I, oI) :: (C, oC) :: (D, LCg.lst ys) :: news) → LCg.Off3 I C D news → ((@Ne Nat I C) ∧ (@Ne Nat I D) ∧ (@Ne Nat C D)) →
      wpAny (model prog w) A (eval elt (compEnvC scope cl C env)) (LCg.CompEnd h₀ L m { s with heap := h, toks := tk } I oI C oC D (LCg.lst ys) S (ElK news fun y => R (i + 1) (ys ++ [y]))) E' { s with heap := h, toks := tk })
    (fin : ∀ ys, R n ys → Fin ys news) : LCg.CompRest prog w A h₀ L m env elt x scope cl s S P Fin n 0 [] news := by
  refine comp_inv (fun i ys nx => nx = news ∧ R i ys) ⟨rfl, h0⟩ ?_ ?_
  · rintro i v I oI C oC D m₂ ys nx h tk E' hi hv ⟨rfl, hr⟩ hC hx F N off ne
    refine wpAny_mono (turn i v I oI C oC D m₂ ys h tk E' hi hv hr hC hx F N off ne) (fun y s₂ hq => ?_) fun _ _ e => e
    obtain ⟨h', tk', nw, e, F', N', off', hS, hr'⟩ := hq
    exact ⟨h', tk', nw, e, F', N', off', hS, hr'⟩
  · rintro ys nx ⟨rfl, hr⟩
    exact fin ys hr

theorem ElK.done {h₀ : Heap} {L I C D : Addr} {m : Str → Option Value} {s₁ : Shared} {oI oC oD : Obj} {S : List (Addr × Obj) → Prop} {news : List (Addr × Obj)} {R : Value → Prop} {y : Value} {h' : Heap} {tk : Nat} {all : List (Addr × Obj)}
    (F : Fr h₀ L h' m) (N : News h₀ L h' all) (sub : ∀ p ∈ (I, oI) :: (C, oC) :: (D, oD) :: news, p ∈ all) (off : LCg.Off3 I C D news) (hS : S news) (r : R y) :
    LCg.CompEnd h₀ L m s₁ I oI C oC D oD S (ElK news R) y { s₁ with heap := h', toks := tk } := LCg.CompEnd.intro F N news sub off hS (.intro r)

/-- what a turn hands on that makes objects of its own: they are set behind the others -/
def ElG (news : List (Addr × Obj)) (R : Value → List (Addr × Obj) → Prop) (y : Value) (nx : List (Addr × Obj)) : Prop := ∃ own, nx = news ++ own ∧ R y own
theorem comp_grow {prog : Program} {w : World} {A : Around} {h₀ : Heap} {L : Addr} {m : Str → Option Value} {env : Env} {elt : Expr} {x : Str} {scope : Scope} {cl : List (Str × Addr)} {s : Shared}
    {S : List (Addr × Obj) → Prop} {P : Nat → Value → Prop} {Fin : List Value → List (Addr × Obj) → Prop} {n : Nat} {news : List (Addr × Obj)}
    (R : Nat → List Value → List (Addr × Obj) → Prop) (h0 : R 0 [] [])
    (turn : ∀ i v I oI C oC D m₂ ys own h tk (E' : Value → Shared → Prop), i < n → P i v → R i ys own → LCg.NsObj oC m₂ → m₂ x = some v → Fr h₀ L h m →
      News h₀ L h ((I, oI) :: (C, oC) :: (D, LCg.lst ys) :: (news ++ own)) → LCg.Off3 I C D (news ++ own) → ((@Ne Nat I C) ∧ (@Ne Nat I D) ∧ (@Ne Nat C D)) →
      wpAny (model prog w) A (eval elt (compEnvC scope cl C env)) (LCg.CompEnd h₀ L m { s with heap := h, toks := tk } I oI C oC D (LCg.lst ys) S (ElG news fun y own' => R (i + 1) (ys ++ [y]) own')) E' { s with heap := h, toks := tk })
    (fin : ∀ ys own, R n ys own → Fin ys (news ++ own)) : LCg.CompRest prog w A h₀ L m env elt x scope cl s S P Fin n 0 [] news := by
  refine comp_inv (fun i ys nx => ∃ own, nx = news ++ own ∧ R i ys own) ⟨[], by simp, h0⟩ ?_ ?_
  · rintro i v I oI C oC D m₂ ys nx h tk E' hi hv ⟨own, rfl, hr⟩ hC hx F N off ne
    exact turn i v I oI C oC D m₂ ys own h tk E' hi hv hr hC hx F N off ne
  · rintro ys nx ⟨own, rfl, hr⟩
    exact fin ys own hr
theorem off3_grow {I C D x d : Addr} {ox od : Obj} {news own : List (Addr × Obj)} (off : LCg.Off3 I C D (news ++ own)) (h : @LT.lt Nat _ I d ∧ @LT.lt Nat _ C d ∧ @LT.lt Nat _ D d ∧ @LT.lt Nat _ d x) :
    LCg.Off3 I C D (news ++ (x, ox) :: (d, od) :: own) := by
  have o := off.mem
  refine LCg.Off3.of fun p hp => ?_
  rcases List.mem_append.mp hp with hp | hp
  · exact o p (List.mem_append_left _ hp)
  · rcases List.mem_cons.mp hp with rfl | hp
    · exact ⟨Nat.ne_of_gt (by omega), Nat.ne_of_gt (by omega), Nat.ne_of_gt (by omega)⟩
    · rcases List.mem_cons.mp hp with rfl | hp
      · exact ⟨Nat.ne_of_gt (by omega), Nat.ne_of_gt (by omega), Nat.ne_of_gt (by omega)⟩
      · exact o p (List.mem_append_right _ hp)
/-- a turn's end that has made one object and its dict -/
theorem ElG.made {h₀ : Heap} {L I C D x d : Addr} {m : Str → Option Value} {s₁ : Shared} {oI oC oD ox od : Obj} {S : List (Addr × Obj) → Prop} {news own : List (Addr × Obj)} {R : Value → List (Addr × Obj) → Prop} {y : Value} {h' : Heap} {tk : Nat} {all : List (Addr × Obj)}
    (F : Fr h₀ L h' m) (N : News h₀ L h' all) (sub : ∀ p ∈ (I, oI) :: (C, oC) :: (D, oD) :: (news ++ (x, ox) :: (d, od) :: own), p ∈ all) (off : LCg.Off3 I C D (news ++ own))
    (lt : @LT.lt Nat _ I d ∧ @LT.lt Nat _ C d ∧ @LT.lt Nat _ D d ∧ @LT.lt Nat _ d x) (hS : S (news ++ (x, ox) :: (d, od) :: own)) (r : R y ((x, ox) :: (d, od) :: own)) :
    LCg.CompEnd h₀ L m s₁ I oI C oC D oD S (ElG news R) y { s₁ with heap := h', toks := tk } :=
  LCg.CompEnd.intro F N _ sub (off3_grow off lt) hS ⟨_, rfl, r⟩

/-- what a field's name may be here: a short text, a small number, None -/
def NmOk (v : Value) : Prop := (∃ s t, v = .str s t ∧ s.length ≤ 100) ∨ (∃ i t, v = .int i t ∧ 0 ≤ i ∧ i < 1000) ∨ v = .none
/-- its text -/
def nmTxt : Value → PySem.Str
  | .str s _ => s
  | .int i _ => PySem.Str.ofString (toString i)
  | _ => PySem.Str.ofString "None"
def NmsOk (vs : List Value) : Prop := ∀ v ∈ vs, NmOk v
theorem NmsOk.snoc {vs : List Value} {v : Value} (h : NmsOk vs) (hv : NmOk v) : NmsOk (vs ++ [v]) := by
  intro x hx
  rcases List.mem_append.mp hx with h1 | h1
  · exact h x h1
  · rw [List.mem_singleton.mp h1]; exact hv

/-- one field: an object of class C with the one attribute name -/
def FieldIs (C : Addr) (news : List (Addr × Obj)) (y v : Value) : Prop :=
  ∃ a d h t, y = .ref a ∧ (a, instObj C d) ∈ news ∧ (d, dictOf [⟨h, .str (PySem.Str.ofString "name") t, v⟩] 1) ∈ news
inductive FieldsAt (C : Addr) (news : List (Addr × Obj)) : List Value → List Value → Prop
  | nil : FieldsAt C news [] []
  | cons {y v ys vs} : FieldIs C news y v → FieldsAt C news ys vs → FieldsAt C news (y :: ys) (v :: vs)
theorem FieldIs.mono {C : Addr} {a b : List (Addr × Obj)} {y v : Value} (h : FieldIs C a y v) (hs : ∀ p ∈ a, p ∈ b) : FieldIs C b y v :=
  let ⟨x, d, hh, t, e, h1, h2⟩ := h; ⟨x, d, hh, t, e, hs _ h1, hs _ h2⟩
theorem FieldsAt.mono {C : Addr} {a b : List (Addr × Obj)} {ys vs : List Value} (h : FieldsAt C a ys vs) (hs : ∀ p ∈ a, p ∈ b) : FieldsAt C b ys vs := by
  induction h with
  | nil => exact .nil
  | cons h1 _ ih => exact .cons (h1.mono hs) ih
theorem FieldsAt.snoc {C : Addr} {news : List (Addr × Obj)} {ys vs : List Value} {y v : Value} (h : FieldsAt C news ys vs) (hv : FieldIs C news y v) : FieldsAt C news (ys ++ [y]) (vs ++ [v]) := by
  induction h with
  | nil => exact .cons hv .nil
  | cons h1 _ ih => exact .cons h1 ih
theorem FieldsAt.length {C : Addr} {news : List (Addr × Obj)} {ys vs : List Value} (h : FieldsAt C news ys vs) : ys.length = vs.length := by
  induction h with
  | nil => rfl
  | cons _ _ ih => simp [ih]
theorem FieldsAt.get {C : Addr} {news : List (Addr × Obj)} {ys vs : List Value} (h : FieldsAt C news ys vs) : ∀ {i : Nat} {y : Value}, ys[i]? = some y → ∃ v, vs[i]? = some v ∧ FieldIs C news y v := by
  induction h with
  | nil => intro i y hy; simp at hy
  | cons h1 _ ih =>
    intro i y hy
    cases i with
    | zero => simp only [List.getElem?_cons_zero, Option.some.injEq] at hy; subst hy; exact ⟨_, rfl, h1⟩
    | succ i => exact ih (by simpa using hy)
theorem FieldsAt.tail {C : Addr} {news : List (Addr × Obj)} {ys vs : List Value} (h : FieldsAt C news ys vs) : FieldsAt C news ys.tail vs.tail := by
  cases h with
  | nil => exact .nil
  | cons _ h => exact h
/-- the names of the law: their kinds -/
theorem nm_chr (n : Nat) (t : Tok) : NmOk (.str ⟨#[n]⟩ t) := .inl ⟨_, _, rfl, by show (1 : Nat) ≤ 100; omega⟩
theorem nm_int {i : Int} (t : Tok) (h0 : 0 ≤ i) (h1 : i < 1000) : NmOk (.int i t) := .inr (.inl ⟨_, _, rfl, h0, h1⟩)
theorem nm_none : NmOk .none := .inr (.inr rfl)
theorem nm_str {s : PySem.Str} (t : Tok) (h : s.length ≤ 100) : NmOk (.str s t) := .inl ⟨_, _, rfl, h⟩
theorem FieldIs.made {C x d : Addr} {hs : Int} {t : Tok} {v : Value} {own : List (Addr × Obj)} : FieldIs C ((x, instObj C d) :: (d, dictOf [⟨hs, .str (PySem.Str.ofString "name") t, v⟩] 1) :: own) (.ref x) v :=
  ⟨x, d, hs, t, rfl, .head _, .tail _ (.head _)⟩
theorem fields_step {C x d : Addr} {hs : Int} {t : Tok} {v : Value} {own : List (Addr × Obj)} {ys vs : List Value} {i : Nat} (h : FieldsAt C own ys (vs.take i)) (hv : vs.toArray[i]? = some v) :
    FieldsAt C ((x, instObj C d) :: (d, dictOf [⟨hs, .str (PySem.Str.ofString "name") t, v⟩] 1) :: own) (ys ++ [.ref x]) (vs.take (i + 1)) := by
  have e : vs.take (i + 1) = vs.take i ++ [v] := by rw [List.take_add_one, (by simpa using hv : vs[i]? = some v)]; rfl
  rw [e]
  exact (h.mono fun p hp => .tail _ (.tail _ hp)).snoc .made
/-- the end of a turn of [_FIELD_BASE(name) for name in names] -/
theorem fields_end {K : Addr} {h₀ : Heap} {L I C D x d : Addr} {m : Str → Option Value} {s₁ : Shared} {oI oC oD : Obj} {S : List (Addr × Obj) → Prop} {news own : List (Addr × Obj)} {hs : Int} {t : Tok} {v : Value} {ys vs : List Value} {i : Nat} {h' : Heap} {tk : Nat}
    (F : Fr h₀ L h' m) (N : News h₀ L h' ((x, instObj K d) :: (d, dictOf [⟨hs, .str (PySem.Str.ofString "name") t, v⟩] 1) :: (I, oI) :: (C, oC) :: (D, oD) :: (news ++ own)))
    (off : LCg.Off3 I C D (news ++ own)) (lt : @LT.lt Nat _ I d ∧ @LT.lt Nat _ C d ∧ @LT.lt Nat _ D d ∧ @LT.lt Nat _ d x) (hf : FieldsAt K own ys (vs.take i)) (hv : vs.toArray[i]? = some v)
    (hS : ∀ own', S (news ++ own')) :
    LCg.CompEnd h₀ L m s₁ I oI C oC D oD S (ElG news fun y own' => FieldsAt K own' (ys ++ [y]) (vs.take (i + 1))) (.ref x) { s₁ with heap := h', toks := tk } :=
  ElG.made F N (by
    intro p hp
    simp only [List.mem_cons, List.mem_append] at hp ⊢
    rcases hp with h | h | h | h | h | h | h <;> simp only [h, true_or, or_true]) off lt (hS _) (fields_step (hs := hs) (t := t) hf hv)
theorem comp_fields {prog : Program} {w : World} {A : Around} {h₀ : Heap} {L : Addr} {m : Str → Option Value} {env : Env} {elt : Expr} {x : Str} {scope : Scope} {cl : List (Str × Addr)} {s : Shared}
    {S : List (Addr × Obj) → Prop} {Fin : List Value → List (Addr × Obj) → Prop} {news : List (Addr × Obj)} {vs : List Value} (K : Addr)
    (turn : ∀ i v I oI C oC D m₂ ys own h tk (E' : Value → Shared → Prop), vs.toArray[i]? = some v → FieldsAt K own ys (vs.take i) → LCg.NsObj oC m₂ → m₂ x = some v → Fr h₀ L h m →
      News h₀ L h ((I, oI) :: (C, oC) :: (D, LCg.lst ys) :: (news ++ own)) → LCg.Off3 I C D (news ++ own) → ((@Ne Nat I C) ∧ (@Ne Nat I D) ∧ (@Ne Nat C D)) →
      wpAny (model prog w) A (eval elt (compEnvC scope cl C env)) (LCg.CompEnd h₀ L m { s with heap := h, toks := tk } I oI C oC D (LCg.lst ys) S (ElG news fun y own' => FieldsAt K own' (ys ++ [y]) (vs.take (i + 1)))) E' { s with heap := h, toks := tk })
    (fin : ∀ ys own, FieldsAt K own ys vs → Fin ys (news ++ own)) : LCg.CompRest prog w A h₀ L m env elt x scope cl s S (fun i v => vs.toArray[i]? = some v) Fin vs.toArray.size 0 [] news :=
  comp_grow (fun i ys own => FieldsAt K own ys (vs.take i)) .nil (fun i v I oI C oC D m₂ ys own h tk E' _ hv hr hC hx F N off ne => turn i v I oI C oC D m₂ ys own h tk E' hv hr hC hx F N off ne)
    fun ys own h => fin ys own (by simpa using h)

/-- no object here is an iterator -/
def NoIt (l : List (Addr × Obj)) : Prop := ∀ p ∈ l, p.2.cls ≠ .type "list_iterator" ∧ p.2.cls ≠ .type "tuple_iterator" ∧ p.2.cls ≠ .type "range_iterator"
theorem NoIt.nil : NoIt [] := fun _ h => nomatch h
theorem NoIt.cons {a : Addr} {o : Obj} {l : List (Addr × Obj)} (h : o.cls ≠ .type "list_iterator" ∧ o.cls ≠ .type "tuple_iterator" ∧ o.cls ≠ .type "range_iterator") (hl : NoIt l) : NoIt ((a, o) :: l) := fun p hp => by
  rcases List.mem_cons.mp hp with rfl | hp
  · exact h
  · exact hl p hp
theorem NoIt.append {a b : List (Addr × Obj)} (ha : NoIt a) (hb : NoIt b) : NoIt (a ++ b) := fun p hp => (List.mem_append.mp hp).elim (ha p) (hb p)

/-- each object lies elsewhere than I, or is no iterator -/
def OffIt (I : Addr) (l : List (Addr × Obj)) : Prop := ∀ p ∈ l, p.1 ≠ I ∨ (p.2.cls ≠ .type "list_iterator" ∧ p.2.cls ≠ .type "tuple_iterator" ∧ p.2.cls ≠ .type "range_iterator")
theorem NoIt.off {l : List (Addr × Obj)} (h : NoIt l) {I : Addr} : OffIt I l := fun p hp => .inr (h p hp)
theorem OffIt.of {l : List (Addr × Obj)} {I : Addr} (h : ∀ p ∈ l, p.1 ≠ I) : OffIt I l := fun p hp => .inl (h p hp)
def TurnEnd (h₀ : Heap) (L I : Addr) (oI : Obj) (J : (Str → Option Value) → List (Addr × Obj) → Prop) (s₁ s₂ : Shared) : Prop :=
  ∃ h' tk m' nx all, s₂ = { s₁ with heap := h', toks := tk } ∧ Fr h₀ L h' m' ∧ News h₀ L h' all ∧ (I, oI) ∈ all ∧ (∀ p ∈ nx, p ∈ all) ∧ OffIt I nx ∧ J m' nx
def TurnPost (h₀ : Heap) (L I : Addr) (oI : Obj) (J : (Str → Option Value) → List (Addr × Obj) → Prop) (s₁ : Shared) (Q : Flow → Shared → Prop) (f : Flow) (s₂ : Shared) : Prop :=
  match f with
  | .ret v => Q (.ret v) s₂
  | .brk => Q .next s₂
  | _ => TurnEnd h₀ L I oI J s₁ s₂

section
variable {prog : Program} {w : World} {A : Around} {E : Value → Shared → Prop} {s : Shared} {env : Env} {h₀ : Heap} {x : Str} {body : List Stmt} {Q : Flow → Shared → Prop}
/-- a for loop by an invariant over the turn's number, the frame and the ledger, which may grow -/
theorem loop_any {I : Addr} {fp : List Addr} {n : Nat} {P : Nat → Value → Prop} {St : Nat → Heap → Prop} {m₀ : Str → Option Value} {news Src : List (Addr × Obj)} (J : Nat → (Str → Option Value) → List (Addr × Obj) → Prop)
    (W : Walks prog w A I fp [I] n P St) (hLf : env.locals ∉ fp) (hI : h₀.get? I = none) (hnw : ∀ p ∈ news, p.1 ≠ I)
    (hIo : ∀ i h, St i h → ∃ o, h.get? I = some o ∧ (o.cls = .type "list_iterator" ∨ o.cls = .type "tuple_iterator" ∨ o.cls = .type "range_iterator"))
    (hfp : ∀ b ∈ fp, b = I ∨ h₀.get? b ≠ none ∨ ∃ o, (b, o) ∈ Src) (hst : St 0 s.heap) (F : Fr h₀ env.locals s.heap m₀) (N : News h₀ env.locals s.heap news) (hj : J 0 m₀ news) (hsrc : ∀ i m nx, J i m nx → ∀ p ∈ Src, p ∈ nx)
    (turn : ∀ i v m₁ nx h tk I oI, i < n → P i v → J i m₁ nx → (∀ p ∈ nx, p.1 ≠ I) → Fr h₀ env.locals h (fun y => if y = x then some v else m₁ y) → News h₀ env.locals h ((I, oI) :: nx) →
      wpAny (model prog w) A (execs body env) (TurnPost h₀ env.locals I oI (J (i + 1)) { s with heap := h, toks := tk } Q) E { s with heap := h, toks := tk })
    (done : ∀ m₁ nx h tk, J n m₁ nx → Fr h₀ env.locals h m₁ → News h₀ env.locals h nx → Q .next { s with heap := h, toks := tk }) :
    LoopAtV prog w A h₀ env x body Q E (.ref I) s := by
  refine ⟨I, fp, [I], n, P, St, m₀, news, J, rfl, W, hLf, fun b hb => by rw [List.mem_singleton.mp hb]; exact hI, fun p hp hb => hnw p hp (List.mem_singleton.mp hb), hst, F, N, hj, ?_, ?_⟩
  · rintro i v m₁ nx s₁ own ⟨hh', tk', rfl⟩ hin hP hJ hoff hown hget hall hst₁ F₁ N₁
    obtain ⟨oI, hoI, hcl⟩ := hIo _ _ hst₁
    have hII : (I, oI) ∈ own := hall I (W.sub I (List.mem_singleton.mpr rfl)) hI oI hoI
    have N₂ : News h₀ env.locals hh' ((I, oI) :: nx) := fun p hp => by
      rcases List.mem_cons.mp hp with rfl | hp
      · exact N₁ _ (List.mem_append_left _ hII)
      · exact N₁ _ (List.mem_append_right _ hp)
    refine wpAny_mono (turn i v m₁ nx hh' tk' I oI hin hP hJ (fun p hp e => hoff p hp (List.mem_singleton.mpr e)) F₁ N₂) (fun f s₂ p => ?_) fun _ _ e => e
    have fin : TurnEnd h₀ env.locals I oI (J (i + 1)) { s with heap := hh', toks := tk' } s₂ → LoopStepU h₀ env.locals [I] own (J (i + 1)) { s with heap := hh', toks := tk' } .next s₂ := by
      rintro ⟨h', tk, m', nx', all, e, F', N', hIa, hsub, hno, hJ'⟩
      refine ⟨rfl, h', tk, m', nx', e, F', fun p hp => ?_, fun p hp hb => ?_, hJ'⟩
      · rcases List.mem_append.mp hp with hp | hp
        · rcases hfp p.1 (hown p hp) with h1 | h1 | ⟨o, h1⟩
          · have h2 := hget p hp
            rw [h1, hoI] at h2
            have h3 : p = (I, oI) := Prod.ext h1 (Option.some.inj h2).symm
            rw [h3]; exact N' _ hIa
          · exact absurd (N₁ p (List.mem_append_left _ hp)).2.2 h1
          · have h2 := (N₁ _ (List.mem_append_right own (hsrc _ _ _ hJ _ h1))).1
            rw [hget p hp] at h2
            have h3 : p = (p.1, o) := Prod.ext rfl (Option.some.inj h2)
            rw [h3]; exact N' _ (hsub _ (hsrc _ _ _ hJ' _ h1))
        · exact N' p (hsub p hp)
      · have h1 := List.mem_singleton.mp hb
        have h2 := (N' p (hsub p hp)).1
        rw [h1, (N' _ hIa).1] at h2
        rcases hno p hp with h3 | h3
        · exact h3 h1
        rw [← Option.some.inj h2] at h3
        rcases hcl with hc | hc | hc
        · exact h3.1 hc
        · exact h3.2.1 hc
        · exact h3.2.2 hc
    cases f with
    | ret v => exact .ret p
    | brk => exact .brk p
    | next => exact .next (fin p)
    | cont => exact .cont (fin p)
  · rintro h' tk m' nx' F' N' _ hJ
    exact done m' nx' h' tk hJ F' N'
end

/-- the state of a loop: its ledger, its names, what holds of it -/
def LoopSt {σ : Type} (x : Str) (Led : σ → List (Addr × Obj)) (ps : σ → List (Str × Value)) (stored : List Str) (m₀ : Str → Option Value) (P : σ → Prop) (m : Str → Option Value) (nx : List (Addr × Obj)) : Prop :=
  ∃ c : σ, nx = Led c ∧ (∀ p ∈ ps c, m p.1 = some p.2) ∧ (∀ z, z ≠ x → (∀ p ∈ ps c, z ≠ p.1) → stored.contains z = false → m z = m₀ z) ∧ P c
theorem TurnEnd.intro {σ : Type} {x : Str} {Led : σ → List (Addr × Obj)} {ps : σ → List (Str × Value)} {stored : List Str} {m₀ : Str → Option Value} {P : σ → Prop} {h₀ : Heap} {L I : Addr} {oI : Obj} {s₁ : Shared} {h' : Heap} {tk : Nat} {m' : Str → Option Value} {all : List (Addr × Obj)}
    (c : σ) (F : Fr h₀ L h' m') (N : News h₀ L h' all) (hI : (I, oI) ∈ all) (sub : ∀ p ∈ Led c, p ∈ all) (no : OffIt I (Led c)) (hk : ∀ p ∈ ps c, m' p.1 = some p.2) (hr : ∀ z, z ≠ x → (∀ p ∈ ps c, z ≠ p.1) → stored.contains z = false → m' z = m₀ z) (hp : P c) :
    TurnEnd h₀ L I oI (LoopSt x Led ps stored m₀ P) s₁ { s₁ with heap := h', toks := tk } := ⟨h', tk, m', Led c, all, rfl, F, N, hI, sub, no, c, rfl, hk, hr, hp⟩

section
variable {prog : Program} {w : World} {A : Around} {E : Value → Shared → Prop} {s : Shared} {env : Env} {h₀ : Heap} {x : Str} {body : List Stmt} {Q : Flow → Shared → Prop}
theorem iter_tupS {σ : Type} {ax : Addr} {ep : Nat} {vs : List Value} {m₀ : Str → Option Value} (Led : σ → List (Addr × Obj)) (ps : σ → List (Str × Value)) (stored : List Str) (P : Nat → σ → Prop) (c₀ : σ)
    (hh : A.handled = none) (F : Fr h₀ env.locals s.heap m₀) (N : News h₀ env.locals s.heap (Led c₀)) (hm : ∀ c, (ax, ({ cls := .type "tuple", data := .seq vs.toArray ep } : Obj)) ∈ Led c)
    (hk : ∀ p ∈ ps c₀, m₀ p.1 = some p.2) (hp : P 0 c₀)
    (turn : ∀ (c : σ) i v (u : Str → Option Value) h tk I oI, vs.toArray[i]? = some v → P i c → (∀ p ∈ Led c, p.1 ≠ I) → Fr h₀ env.locals h (fun y => if y = x then some v else kstB (fun z => if stored.contains z then u z else m₀ z) (ps c) y) → News h₀ env.locals h ((I, oI) :: Led c) →
      wpAny (model prog w) A (execs body env) (TurnPost h₀ env.locals I oI (LoopSt x Led ps stored m₀ (P (i + 1))) { s with heap := h, toks := tk } Q) E { s with heap := h, toks := tk })
    (done : ∀ (c : σ) (u : Str → Option Value) h tk, P vs.length c → Fr h₀ env.locals h (fun y => if y = x then u y else kstB (fun z => if stored.contains z then u z else m₀ z) (ps c) y) → News h₀ env.locals h (Led c) → Q .next { s with heap := h, toks := tk }) :
    wpAny (model prog w) A (pyIter (.ref ax)) (fun it s₂ => LoopAtV prog w A h₀ env x body Q E it s₂) E s := by
  have hax := N _ (hm c₀)
  have hl : IsTup s.heap ax vs.toArray := ⟨_, hax.1, rfl, ep, rfl⟩
  have hne : ax ≠ s.heap.objs.size := Nat.ne_of_lt (Heap.lt_size hax.1)
  refine wpAny_pyIter_tuple hl ?_
  refine loop_any (Src := [(ax, ({ cls := .type "tuple", data := .seq vs.toArray ep } : Obj))]) (m₀ := m₀) (news := Led c₀) (fun i m nx => LoopSt x Led ps stored m₀ (P i) m nx) (Walks.tuple hh s.heap.objs.size ax hne vs.toArray) ?_ (next_is_new F) (fun p hp => Nat.ne_of_lt (Heap.lt_size (N p hp).1)) ?_ ?_ ⟨⟨_, Heap.get?_push_size _ rfl, rfl, rfl⟩, ?_⟩ (F.push _) (fun p hp => ⟨Heap.get?_push_of_some _ (N p hp).1, (N p hp).2⟩) ⟨c₀, rfl, hk, fun _ _ _ _ => rfl, hp⟩ ?_ ?_ ?_
  · intro hmm
    rcases List.mem_cons.mp hmm with e | hmm
    · exact absurd F.ns.lt (e ▸ Nat.lt_irrefl _)
    · exact hax.2.1 (List.mem_singleton.mp hmm).symm
  · intro i h st
    obtain ⟨o, e, hc, _⟩ := st.1
    exact ⟨o, e, .inr (.inl hc)⟩
  · intro b hb
    rcases List.mem_cons.mp hb with e | hb
    · exact .inl e
    · rw [List.mem_singleton.mp hb]; exact .inr (.inr ⟨_, .head _⟩)
  · obtain ⟨o, e, r⟩ := hl
    exact ⟨o, Heap.get?_push_of_some _ e, r⟩
  · rintro i m nx ⟨c, rfl, _⟩ p hp
    rw [List.mem_singleton.mp hp]; exact hm c
  · rintro i v m₁ nx h tk I oI hi hP ⟨c, rfl, h1, h2, hp'⟩ off F₁ N₁
    exact turn c i v m₁ h tk I oI hP hp' off (kst_fr h1 h2 F₁) N₁
  · rintro m₁ nx h tk ⟨c, rfl, h1, h2, hp'⟩ F₁ N₁
    rw [List.size_toArray] at hp'
    exact done c m₁ h tk hp' (kst_frOut h1 h2 F₁) N₁

theorem iter_listS {σ : Type} {ax : Addr} {ep : Nat} {vs : List Value} {m₀ : Str → Option Value} (Led : σ → List (Addr × Obj)) (ps : σ → List (Str × Value)) (stored : List Str) (P : Nat → σ → Prop) (c₀ : σ)
    (hh : A.handled = none) (F : Fr h₀ env.locals s.heap m₀) (N : News h₀ env.locals s.heap (Led c₀)) (hm : ∀ c, (ax, ({ cls := .type "list", data := .seq vs.toArray ep } : Obj)) ∈ Led c)
    (hk : ∀ p ∈ ps c₀, m₀ p.1 = some p.2) (hp : P 0 c₀)
    (turn : ∀ (c : σ) i v (u : Str → Option Value) h tk I oI, vs.toArray[i]? = some v → P i c → (∀ p ∈ Led c, p.1 ≠ I) → Fr h₀ env.locals h (fun y => if y = x then some v else kstB (fun z => if stored.contains z then u z else m₀ z) (ps c) y) → News h₀ env.locals h ((I, oI) :: Led c) →
      wpAny (model prog w) A (execs body env) (TurnPost h₀ env.locals I oI (LoopSt x Led ps stored m₀ (P (i + 1))) { s with heap := h, toks := tk } Q) E { s with heap := h, toks := tk })
    (done : ∀ (c : σ) (u : Str → Option Value) h tk, P vs.length c → Fr h₀ env.locals h (fun y => if y = x then u y else kstB (fun z => if stored.contains z then u z else m₀ z) (ps c) y) → News h₀ env.locals h (Led c) → Q .next { s with heap := h, toks := tk }) :
    wpAny (model prog w) A (pyIter (.ref ax)) (fun it s₂ => LoopAtV prog w A h₀ env x body Q E it s₂) E s := by
  have hax := N _ (hm c₀)
  have hl : s.heap.IsList ax vs.toArray := ⟨_, hax.1, rfl, ep, rfl⟩
  have hne : ax ≠ s.heap.objs.size := Nat.ne_of_lt (Heap.lt_size hax.1)
  refine wpAny_pyIter_list hl ?_
  refine loop_any (Src := [(ax, ({ cls := .type "list", data := .seq vs.toArray ep } : Obj))]) (m₀ := m₀) (news := Led c₀) (fun i m nx => LoopSt x Led ps stored m₀ (P i) m nx) (Walks.list hh s.heap.objs.size ax hne vs.toArray) ?_ (next_is_new F) (fun p hp => Nat.ne_of_lt (Heap.lt_size (N p hp).1)) ?_ ?_ ⟨⟨_, Heap.get?_push_size _ rfl, rfl, rfl⟩, ?_⟩ (F.push _) (fun p hp => ⟨Heap.get?_push_of_some _ (N p hp).1, (N p hp).2⟩) ⟨c₀, rfl, hk, fun _ _ _ _ => rfl, hp⟩ ?_ ?_ ?_
  · intro hmm
    rcases List.mem_cons.mp hmm with e | hmm
    · exact absurd F.ns.lt (e ▸ Nat.lt_irrefl _)
    · exact hax.2.1 (List.mem_singleton.mp hmm).symm
  · intro i h st
    obtain ⟨o, e, hc, _⟩ := st.1
    exact ⟨o, e, .inl hc⟩
  · intro b hb
    rcases List.mem_cons.mp hb with e | hb
    · exact .inl e
    · rw [List.mem_singleton.mp hb]; exact .inr (.inr ⟨_, .head _⟩)
  · exact hl.at fun o e => Heap.get?_push_of_some _ e
  · rintro i m nx ⟨c, rfl, _⟩ p hp
    rw [List.mem_singleton.mp hp]; exact hm c
  · rintro i v m₁ nx h tk I oI hi hP ⟨c, rfl, h1, h2, hp'⟩ off F₁ N₁
    exact turn c i v m₁ h tk I oI hP hp' off (kst_fr h1 h2 F₁) N₁
  · rintro m₁ nx h tk ⟨c, rfl, h1, h2, hp'⟩ F₁ N₁
    rw [List.size_toArray] at hp'
    exact done c m₁ h tk hp' (kst_frOut h1 h2 F₁) N₁
end

/-- the ledger holds the tuple that a comprehension walks -/
def TupIn (ax : Addr) (its : Array Value) (k : Nat) (nw : List (Addr × Obj)) : Prop := (ax, ({ cls := .type "tuple", data := .seq its k } : Obj)) ∈ nw
section
variable {prog : Program} {w : World} {A : Around} {E : Value → Shared → Prop} {s : Shared} {h₀ : Heap} {L : Addr} {m : Str → Option Value} {env : Env}
def SrcTup (prog : Program) (w : World) (A : Around) (h₀ : Heap) (L : Addr) (m : Str → Option Value) (env : Env) (elt : Expr) (x : Str) (scope : Scope) (cl : List (Str × Addr)) (Fin : Shared → List Value → List (Addr × Obj) → Prop) (xv : Value) (s₁ : Shared) : Prop :=
  ∃ ax its k news, xv = .ref ax ∧ A.handled = none ∧ Fr h₀ L s₁.heap m ∧ News h₀ L s₁.heap news ∧ TupIn ax its k news ∧ its.size ≤ sizeLine ∧
    ∀ g, LCg.CompRest prog w A h₀ L m env elt x scope cl { s₁ with heap := g } (TupIn ax its k) (fun i v => its[i]? = some v) (Fin { s₁ with heap := g }) its.size 0 [] news
theorem tup_st {ax I : Addr} {its : Array Value} {k : Nat} : ∀ i (h h' : Heap) (o : Obj) (nw : List (Addr × Obj)), (h.IsTupleIter I ax i ∧ h.IsTuple ax its) → h.get? I = some o → h'.get? I = some o → (∀ b o, h₀.get? b = some o → h'.get? b = some o) → News h₀ L h' nw → TupIn ax its k nw → (h'.IsTupleIter I ax i ∧ h'.IsTuple ax its) :=
  fun i h h' o nw st e e' _ N S => ⟨by obtain ⟨o', q, r⟩ := st.1; rw [e] at q; cases q; exact ⟨o, e', r⟩, ⟨_, (N _ S).1, rfl, k, rfl⟩⟩
theorem ListComp_tup {elt iter : Expr} {x : Str} {px : Pos} {scope : Scope} {cl : List (Str × Addr)} {pos : Pos} {Q : Value → Shared → Prop} (F₀ : Fr h₀ L s.heap m)
    (hclos : closureFor scope env = pure cl) (hcell : ∀ y ∈ scope.names, y.2 ≠ .cell) (hkind : scope.kind = .function)
    (hnames : ∀ y ∈ scope.names, y.2 = .local → scope.names.lookup y.1 = some .local) (hx : scope.names.lookup x = some .local)
    (h : wpAny (model prog w) A (eval iter env) (SrcTup prog w A h₀ L m env elt x scope cl (fun s₂ => LCg.FinE h₀ L m s₂ Q)) E s)
    (hs : ∀ x, foldedSetIterable iter env x = pure x := by intro _; rfl) :
    wpAny (model prog w) A (eval (.ListComp elt [⟨.Name x px, iter, [], 0⟩] scope pos) env) Q E s := by
  rw [eval_ListComp]
  refine wpAny_comprehension_free (use := none) rfl hs hclos hkind hnames (wpAny_mono h (fun xv s₁ h₁ => ?_) fun _ _ e => e)
  obtain ⟨ax, its, k, news, rfl, hh, F, N, S, hsz, R⟩ := h₁
  have hl : s₁.heap.IsTuple ax its := ⟨_, (N _ S).1, rfl, k, rfl⟩
  have hlt : ax < s₁.heap.objs.size := Heap.lt_size (N _ S).1
  refine wpAny_pyIter_tuple hl ?_
  have up : ∀ b o, s₁.heap.get? b = some o → (s₁.heap.push { cls := .type "tuple_iterator", data := .fields #[.ref ax, .int 0 0] }).get? b = some o := fun b o e => Heap.get?_push_of_some _ e
  refine LCg.block_U (Walks.tuple hh s₁.heap.objs.size ax (Nat.ne_of_lt hlt) its) hsz (fun i h st => by obtain ⟨o, e, _⟩ := st.1; exact ⟨o, e⟩) tup_st hcell hkind hx ⟨⟨_, Heap.get?_push_size _ rfl, rfl, rfl⟩, hl.at fun o e => Heap.get?_push_of_some _ e⟩ (fun b hb => ?_)
    (F.keeps up) (N.grown up) (Nat.ne_of_lt F.ns.lt) (next_is_new F) (fun p hp => Nat.ne_of_lt (Heap.lt_size (N p hp).1)) S (R _) ?_
  · show b < (s₁.heap.push _).objs.size
    rw [Heap.size_push]
    rcases List.mem_cons.mp hb with rfl | hb
    · exact Nat.lt_succ_self _
    · rw [List.mem_singleton.mp hb]; exact Nat.lt_succ_of_lt hlt
  · intro D C h tk m' ys news' F' N' o1 hn hC₀ hD₀ hCL hDL hCD offC fin
    refine ⟨m', hn, fun h'' hs'' => fin D h'' tk (F'.change hs'' hCL hC₀) (fun p hp => ?_) o1⟩
    refine ⟨hs''.extBut _ _ ?_ (N' p hp).1, (N' p hp).2⟩
    rcases List.mem_cons.mp hp with rfl | hp
    · exact Ne.symm hCD
    · exact offC p hp
end

/-- an object that is the list, or the tuple, of these values -/
def SeqObj (o : Obj) (ys : List Value) : Prop := ∃ k, o = { cls := .type "list", data := .seq ys.toArray k } ∨ o = { cls := .type "tuple", data := .seq ys.toArray k }
def SIn (ax : Addr) (oax : Obj) (S : List (Addr × Obj) → Prop) : Prop := ∀ nw, (ax, oax) ∈ nw → S nw
theorem SIn.use {ax : Addr} {oax : Obj} {S : List (Addr × Obj) → Prop} (h : SIn ax oax S) {nw : List (Addr × Obj)} (hm : (ax, oax) ∈ nw) : S nw := h nw hm
/-- a list | tuple in the ledger as the source of a comprehension: one rule for both -/
theorem ListComp_seq {prog : Program} {w : World} {A : Around} {E : Value → Shared → Prop} {s : Shared} {h₀ : Heap} {L : Addr} {m : Str → Option Value} {env : Env} {elt iter : Expr} {x : Str} {px : Pos} {scope : Scope} {cl : List (Str × Addr)} {pos : Pos} {Q : Value → Shared → Prop}
    {ax : Addr} {oax : Obj} {ys : List Value} {news : List (Addr × Obj)} (hh : A.handled = none) (F : Fr h₀ L s.heap m) (hq : SeqObj oax ys) (hi : ∀ Q' : Value → Shared → Prop, Q' (.ref ax) s → wpAny (model prog w) A (eval iter env) Q' E s) (N : News h₀ L s.heap news) (hm : (ax, oax) ∈ news) (hsz : ys.length ≤ sizeLine)
    (hclos : closureFor scope env = pure cl) (hcell : ∀ y ∈ scope.names, y.2 ≠ .cell) (hkind : scope.kind = .function)
    (hnames : ∀ y ∈ scope.names, y.2 = .local → scope.names.lookup y.1 = some .local) (hx : scope.names.lookup x = some .local)
    (h : ∀ (g : Heap) (S : List (Addr × Obj) → Prop), SIn ax oax S → LCg.CompRest prog w A h₀ L m env elt x scope cl { s with heap := g } S (fun i v => ys.toArray[i]? = some v) (LCg.FinE h₀ L m { s with heap := g } Q) ys.toArray.size 0 [] news)
    (hs : ∀ x, foldedSetIterable iter env x = pure x := by intro _; rfl) :
    wpAny (model prog w) A (eval (.ListComp elt [⟨.Name x px, iter, [], 0⟩] scope pos) env) Q E s := by
  obtain ⟨k, rfl | rfl⟩ := hq
  · exact LCg.ListComp_U F hclos hcell hkind hnames hx (hi _ (LCg.CompSrc.ledger hh F N hm (by rw [List.size_toArray]; exact hsz) fun g => h g _ fun nw hw => .inr ⟨_, hw, rfl, _, rfl⟩)) hs
  · exact ListComp_tup F hclos hcell hkind hnames hx (hi _ ⟨ax, _, k, news, rfl, hh, F, N, hm, by rw [List.size_toArray]; exact hsz, fun g => h g _ fun nw hw => hw⟩) hs
theorem truthy_seq {prog : Program} {w : World} {A : Around} {E : Value → Shared → Prop} {s : Shared} {h₀ : Heap} {L : Addr} {ax : Addr} {oax : Obj} {ys : List Value} {news : List (Addr × Obj)} {Q : Bool → Shared → Prop} (N : News h₀ L s.heap news) (hm : (ax, oax) ∈ news) (hq : SeqObj oax ys) (hsz : ys.length ≤ 1000)
    (h : Q (!ys.isEmpty) { s with toks := s.toks + 1 + 1 }) : wpAny (model prog w) A (truthy (.ref ax)) Q E s := by
  have hf : ((ys.toArray.size : Nat) : Int) < 2 ^ 63 := by rw [List.size_toArray]; omega
  obtain ⟨k, rfl | rfl⟩ := hq
  · have := wpAny_truthy_list (prog := prog) (w := w) (A := A) (E := E) (Q := Q) (News.isList N hm) hf
    exact this (by simpa using h)
  · have := truthy_tuple (prog := prog) (w := w) (A := A) (E := E) (Q := Q) (News.isTup N hm) hf
    exact this (by simpa using h)

/-- one piece of the text, and all of them -/
def piece (word t : PySem.Str) : PySem.Str := word ++ PySem.Str.ofString "." ++ t
def tstr (word : PySem.Str) (ts : List PySem.Str) : PySem.Str :=
  if ts = [] then PySem.Str.ofString "()" else PySem.Str.ofString "(" ++ PySem.Txt.join (PySem.Str.ofString ",") (ts.map (piece word)) ++ PySem.Str.ofString ",)"

theorem truthy_seq0 {prog : Program} {w : World} {A : Around} {E : Value → Shared → Prop} {s : Shared} {h₀ : Heap} {L : Addr} {ax : Addr} {oax : Obj} {news : List (Addr × Obj)} {Q : Bool → Shared → Prop} (N : News h₀ L s.heap news) (hm : (ax, oax) ∈ news) (hq : SeqObj oax [])
    (h : Q false { s with toks := s.toks + 1 + 1 }) : wpAny (model prog w) A (truthy (.ref ax)) Q E s := truthy_seq N hm hq (by simp) h
theorem truthy_seq1 {prog : Program} {w : World} {A : Around} {E : Value → Shared → Prop} {s : Shared} {h₀ : Heap} {L : Addr} {ax : Addr} {oax : Obj} {y : Value} {ys : List Value} {news : List (Addr × Obj)} {Q : Bool → Shared → Prop} (N : News h₀ L s.heap news) (hm : (ax, oax) ∈ news) (hq : SeqObj oax (y :: ys)) (hsz : (y :: ys).length ≤ 1000)
    (h : Q true { s with toks := s.toks + 1 + 1 }) : wpAny (model prog w) A (truthy (.ref ax)) Q E s := truthy_seq N hm hq hsz h

theorem strs_snoc {y : PySem.Str} {t : Tok} : ∀ {vs : List Value} {ys : List PySem.Str}, StrsAre vs ys → StrsAre (vs ++ [.str y t]) (ys ++ [y])
  | _, _, .nil => .cons y t .nil
  | _, _, .cons z u r => .cons z u (strs_snoc r)
/-- the pieces' comprehension: [f'{obj_name}.{f.name}' for f in fields] -/
theorem comp_ts {prog : Program} {w : World} {A : Around} {h₀ : Heap} {L : Addr} {m : Str → Option Value} {env : Env} {elt : Expr} {x : Str} {scope : Scope} {cl : List (Str × Addr)} {s : Shared}
    {S : List (Addr × Obj) → Prop} {Fin : List Value → List (Addr × Obj) → Prop} {news news₀ : List (Addr × Obj)} {ys vs : List Value} {K : Addr} {word : PySem.Str} (hf : FieldsAt K news₀ ys vs) (hn : NmsOk vs) (hw₀ : word.length ≤ 16)
    (turn : ∀ v₂ a d hs t I oI C oC D m₂ zs h tk (E' : Value → Shared → Prop), (a, instObj K d) ∈ news₀ → (d, dictOf [⟨hs, .str (PySem.Str.ofString "name") t, v₂⟩] 1) ∈ news₀ → NmOk v₂ → LCg.NsObj oC m₂ → m₂ x = some (.ref a) → Fr h₀ L h m →
      News h₀ L h ((I, oI) :: (C, oC) :: (D, LCg.lst zs) :: news) → LCg.Off3 I C D news → ((@Ne Nat I C) ∧ (@Ne Nat I D) ∧ (@Ne Nat C D)) →
      wpAny (model prog w) A (eval elt (compEnvC scope cl C env)) (LCg.CompEnd h₀ L m { s with heap := h, toks := tk } I oI C oC D (LCg.lst zs) S (ElK news fun y => ∃ t, y = .str (piece word (nmTxt v₂)) t)) E' { s with heap := h, toks := tk })
    (fin : ∀ zs, StrsAre zs (vs.map fun v => piece word (nmTxt v)) → Fin zs news) : LCg.CompRest prog w A h₀ L m env elt x scope cl s S (fun i v => ys.toArray[i]? = some v) Fin ys.toArray.size 0 [] news := by
  refine comp_keep (fun i zs => StrsAre zs ((vs.take i).map fun v => piece word (nmTxt v))) .nil ?_ ?_
  · intro i v I oI C oC D m₂ zs h tk E' _ hv hr hC hx F N off ne
    obtain ⟨v₂, hv₂, a, d, hs, t, rfl, m1, m2⟩ := hf.get (i := i) (by simpa using hv)
    refine wpAny_mono (turn v₂ a d hs t I oI C oC D m₂ zs h tk E' m1 m2 (hn _ (List.mem_of_getElem? hv₂)) hC hx F N off ne) (fun y s₂ hq => ?_) fun _ _ e => e
    obtain ⟨h', tk', nw, e, F', N', off', hS, hnw, t', hy⟩ := hq
    refine ⟨h', tk', nw, e, F', N', off', hS, hnw, ?_⟩
    have e2 : vs.take (i + 1) = vs.take i ++ [v₂] := by rw [List.take_add_one, hv₂]; rfl
    rw [e2, hy, List.map_append]
    exact strs_snoc hr
  · intro zs hz
    refine fin zs ?_
    have : ys.toArray.size = vs.length := by rw [List.size_toArray]; exact hf.length
    rwa [this, List.take_length] at hz

theorem piece_end {word r x : PySem.Str} {tk : Tok} (e : r = piece word x) : ∃ t, Value.str r tk = .str (piece word x) t := ⟨tk, by rw [e]⟩
theorem piece_is {word x : PySem.Str} : PySem.Str.empty ++ word ++ PySem.Str.ofString "." ++ x = piece word x := by rw [KT.empty_app]; rfl

theorem nmTxt_len {v : Value} (h : NmOk v) : (nmTxt v).length ≤ 100 := by
  rcases h with ⟨s, t, rfl, h⟩ | ⟨i, t, rfl, h0, h1⟩ | rfl
  · exact h
  · exact Nat.le_trans (KT.len_num h0 (by omega)) (by decide)
  · decide
theorem piece_len {word x : PySem.Str} (hw : word.length ≤ 16) (hx : x.length ≤ 100) : (piece word x).length ≤ 117 := by
  unfold piece
  rw [PySem.Str.length_append, PySem.Str.length_append]
  have : (PySem.Str.ofString ".").length = 1 := by decide
  omega
theorem sum_le {α : Type} (f : α → Nat) (b : Nat) : ∀ l : List α, (∀ a ∈ l, f a ≤ b) → (l.map f).sum ≤ b * l.length
  | [], _ => by simp
  | a :: r, h => by
    have h1 := h a (.head _)
    have h2 := sum_le f b r fun x hx => h x (.tail _ hx)
    simp only [List.map_cons, List.sum_cons, List.length_cons, Nat.mul_add, Nat.mul_one]
    omega
theorem pieces_sum {word : PySem.Str} {vs : List Value} (hw : word.length ≤ 16) (hn : NmsOk vs) : ((vs.map fun v => piece word (nmTxt v)).map (·.length)).sum ≤ 117 * vs.length := by
  rw [List.map_map]
  exact sum_le _ 117 vs fun v hv => piece_len hw (nmTxt_len (hn v hv))
theorem join_ts {prog : Program} {w : World} {A : Around} {E : Value → Shared → Prop} {s : Shared} {h₀ : Heap} {L D : Addr} {nw : List (Addr × Obj)} {zs vs : List Value} {word : PySem.Str} {t : Tok} {Q : Value → Shared → Prop}
    (hz : StrsAre zs (vs.map fun v => piece word (nmTxt v))) (N : News h₀ L s.heap nw) (hm : (D, LCg.lst zs) ∈ nw) (hn : NmsOk vs) (hl : vs.length ≤ 63) (hw : word.length ≤ 16)
    (h : ∀ t' k, (PySem.Txt.join (PySem.Str.ofString ",") (vs.map fun v => piece word (nmTxt v))).length ≤ 8000 → Q (.str (PySem.Txt.join (PySem.Str.ofString ",") (vs.map fun v => piece word (nmTxt v))) t') { s with toks := k }) :
    wpAny (model prog w) A (call (.builtin "str.join") [.str (PySem.Str.ofString ",") t, .ref D]) Q E s := by
  have hs := pieces_sum hw hn
  have h1 : (PySem.Str.ofString ",").length = 1 := by decide
  refine join_listC (News.isList N hm) (ys := vs.map fun v => piece word (nmTxt v)) (by simpa using hz) (by decide) ?_ fun t' k => h t' k ?_
  · rw [List.length_map]; omega
  · show (Builtin.Str.glued _ _).length ≤ _
    rw [StrLaws.glued_eq_join]
    refine Nat.le_trans (StrLaws.join_length_le _ _) ?_
    rw [List.length_map, h1]; omega
theorem tstr_nil {word : PySem.Str} {vs : List Value} (h : vs.length = 0) : PySem.Str.ofString "()" = tstr word (vs.map nmTxt) := by
  rw [List.length_eq_zero_iff.mp h]; rfl
theorem tstr_cons {word : PySem.Str} {vs : List Value} (h : 0 < vs.length) :
    PySem.Str.empty ++ PySem.Str.ofString "(" ++ PySem.Txt.join (PySem.Str.ofString ",") (vs.map fun v => piece word (nmTxt v)) ++ PySem.Str.ofString ",)" = tstr word (vs.map nmTxt) := by
  cases vs with
  | nil => exact absurd h (by simp)
  | cons a r =>
    rw [KT.empty_app, tstr, if_neg (by simp), List.map_map]; rfl

/-- the pieces, each with its comma -/
def pieceC (word t : PySem.Str) : PySem.Str := piece word t ++ PySem.Str.ofString ","
def cat (word : PySem.Str) : List PySem.Str → PySem.Str
  | [] => PySem.Str.empty
  | t :: r => pieceC word t ++ cat word r
theorem cat_append (word : PySem.Str) : ∀ a b : List PySem.Str, cat word (a ++ b) = cat word a ++ cat word b
  | [], b => (KT.empty_app _).symm
  | t :: r, b => by
    show pieceC word t ++ cat word (r ++ b) = pieceC word t ++ cat word r ++ cat word b
    rw [cat_append word r b, app_assoc]
theorem cat_one (word t : PySem.Str) : cat word [t] = pieceC word t := app_empty _
theorem join_cat (word : PySem.Str) : ∀ (t : PySem.Str) (r : List PySem.Str), PySem.Str.join (PySem.Str.ofString ",") ((t :: r).map (piece word)) ++ PySem.Str.ofString "," = cat word (t :: r)
  | t, [] => by
    show piece word t ++ PySem.Str.ofString "," = pieceC word t ++ PySem.Str.empty
    rw [app_empty]; rfl
  | t, u :: r => by
    show piece word t ++ PySem.Str.ofString "," ++ PySem.Str.join (PySem.Str.ofString ",") ((u :: r).map (piece word)) ++ PySem.Str.ofString "," = pieceC word t ++ cat word (u :: r)
    rw [app_assoc, join_cat word u r]; rfl
theorem tstr_cat (word : PySem.Str) (ts : List PySem.Str) : tstr word ts = PySem.Str.ofString "(" ++ cat word ts ++ PySem.Str.ofString ")" := by
  cases ts with
  | nil => rfl
  | cons t r =>
    rw [tstr, if_neg (by simp), ← join_cat]
    have e : PySem.Str.ofString ",)" = PySem.Str.ofString "," ++ PySem.Str.ofString ")" := by decide +kernel
    show _ ++ Builtin.Str.glued _ _ ++ _ = _
    rw [StrLaws.glued_eq_join, e, ← app_assoc, ← app_assoc]
theorem pieceC_len {word x : PySem.Str} (hw : word.length ≤ 16) (hx : x.length ≤ 100) : (pieceC word x).length ≤ 118 := by
  have := piece_len hw hx
  unfold pieceC
  rw [PySem.Str.length_append]
  have : (PySem.Str.ofString ",").length = 1 := by decide
  omega
theorem cat_len {word : PySem.Str} (hw : word.length ≤ 16) : ∀ {vs : List Value}, NmsOk vs → (cat word (vs.map nmTxt)).length ≤ 118 * vs.length
  | [], _ => by simp [cat, empty_len]
  | v :: r, h => by
    show (pieceC word (nmTxt v) ++ cat word (r.map nmTxt)).length ≤ _
    rw [PySem.Str.length_append]
    have h1 := pieceC_len hw (nmTxt_len (h v (.head _)))
    have h2 := cat_len hw (vs := r) fun x hx => h x (.tail _ hx)
    simp only [List.length_cons, Nat.mul_add, Nat.mul_one]
    omega
theorem tstr_len {word : PySem.Str} {vs : List Value} (hw : word.length ≤ 16) (hn : NmsOk vs) (hl : vs.length ≤ 63) : (tstr word (vs.map nmTxt)).length ≤ 8000 := by
  have := cat_len hw hn
  rw [tstr_cat, PySem.Str.length_append, PySem.Str.length_append]
  have h1 : (PySem.Str.ofString "(").length = 1 := by decide
  have h2 : (PySem.Str.ofString ")").length = 1 := by decide
  omega
theorem tstr_first {word : PySem.Str} {ts : List PySem.Str} : PySem.Txt.slice (tstr word ts) none (some 1) = PySem.Str.ofString "(" := by
  rw [tstr_cat, app_assoc]; exact slice_to (by decide)
theorem tstr_last {word : PySem.Str} {ts : List PySem.Str} : PySem.Txt.slice (tstr word ts) (some (-1)) none = PySem.Str.ofString ")" := by
  rw [tstr_cat]; exact slice_fromNeg (by decide) (by decide)
theorem tstr_inner {word : PySem.Str} {ts : List PySem.Str} : PySem.Txt.slice (tstr word ts) (some 1) (some (-1)) = cat word ts := by
  rw [tstr_cat]; exact slice_inner (by decide) (by decide) (by decide)
theorem ne_same {prog : Program} {w : World} {A : Around} {E : Value → Shared → Prop} {s : Shared} {a b : PySem.Str} {t u : Tok} {Q : Value → Shared → Prop} (e : a = b) (h : Q (.bool false) s) : wpAny (model prog w) A (compareOp .NotEq (.str a t) (.str b u)) Q E s :=
  ne_str (by subst e; simpa using h)
theorem eq_same {prog : Program} {w : World} {A : Around} {E : Value → Shared → Prop} {s : Shared} {a b : PySem.Str} {t u : Tok} {Q : Value → Shared → Prop} (e : a = b) (h : Q (.bool true) s) : wpAny (model prog w) A (compareOp .Eq (.str a t) (.str b u)) Q E s :=
  eq_str (by subst e; simpa using h)

section
variable {prog : Program} {w : World} {A : Around} {E : Value → Shared → Prop} {s : Shared} {env : Env} {h₀ : Heap} {body : List Stmt} {Q : Flow → Shared → Prop}
/-- the loop of _law_agrees -/
theorem loop_la {ax : Addr} {ep : Nat} {vs : List Value} {word : PySem.Str} {m₀ : Str → Option Value} {news : List (Addr × Obj)} {t₀ : Tok}
    (hh : A.handled = none) (F : Fr h₀ env.locals s.heap m₀) (N : News h₀ env.locals s.heap news) (hm : (ax, ({ cls := .type "list", data := .seq vs.reverse.toArray ep } : Obj)) ∈ news) (hn : NmsOk vs) (hl : vs.length ≤ 63) (hw : word.length ≤ 16) (hk : m₀ (PySem.Str.ofString "left") = some (.str (cat word (vs.map nmTxt)) t₀))
    (turn : ∀ v (l' : List PySem.Str) (tl : Tok) (u : Str → Option Value) h tk I oI, NmOk v → (cat word l' ++ (piece word (nmTxt v) ++ PySem.Str.ofString ",")).length ≤ 7918 → (piece word (nmTxt v) ++ PySem.Str.ofString ",").length ≤ 7918 → OffIt I news →
      Fr h₀ env.locals h (fun y => if y = PySem.Str.ofString "name" then some v else kstB (fun z => if [PySem.Str.ofString "piece"].contains z then u z else m₀ z) [(PySem.Str.ofString "left", .str (cat word l' ++ (piece word (nmTxt v) ++ PySem.Str.ofString ",")) tl)] y) → News h₀ env.locals h ((I, oI) :: news) →
      wpAny (model prog w) A (execs body env) (TurnPost h₀ env.locals I oI (LoopSt (PySem.Str.ofString "name") (fun _ => news) (fun c : PySem.Str × Tok => [(PySem.Str.ofString "left", .str c.1 c.2)]) [PySem.Str.ofString "piece"] m₀ (fun c => c.1 = cat word l')) { s with heap := h, toks := tk } Q) E { s with heap := h, toks := tk })
    (done : ∀ (tl : Tok) (u : Str → Option Value) h tk, Fr h₀ env.locals h (fun y => if y = PySem.Str.ofString "name" then u y else kstB (fun z => if [PySem.Str.ofString "piece"].contains z then u z else m₀ z) [(PySem.Str.ofString "left", .str PySem.Str.empty tl)] y) → News h₀ env.locals h news → Q .next { s with heap := h, toks := tk }) :
    wpAny (model prog w) A (pyIter (.ref ax)) (fun it s₂ => LoopAtV prog w A h₀ env (PySem.Str.ofString "name") body Q E it s₂) E s := by
  refine iter_listS (ep := ep) (vs := vs.reverse) (fun _ => news) (fun c : PySem.Str × Tok => [(PySem.Str.ofString "left", .str c.1 c.2)]) [PySem.Str.ofString "piece"] (fun i c => c.1 = cat word ((vs.take (vs.length - i)).map nmTxt)) (cat word (vs.map nmTxt), t₀) hh F N (fun _ => hm) ?_ ?_ ?_ ?_
  · intro p hp
    rw [List.mem_singleton.mp hp]; exact hk
  · show cat word (vs.map nmTxt) = cat word ((vs.take (vs.length - 0)).map nmTxt)
    rw [Nat.sub_zero, List.take_length]
  · rintro ⟨left, tl⟩ i v u h tk I oI hv hp off F₁ N₁
    have hv' : vs.reverse[i]? = some v := by simpa using hv
    have hi : i < vs.length := by
      have := (List.getElem?_eq_some_iff.mp hv').1
      simpa using this
    rw [List.getElem?_reverse hi] at hv'
    have e1 : vs.take (vs.length - i) = vs.take (vs.length - (i + 1)) ++ [v] := by
      have e2 : vs.length - i = (vs.length - (i + 1)) + 1 := by omega
      rw [e2, List.take_add_one]
      have e3 : vs[vs.length - (i + 1)]? = some v := by
        rw [show vs.length - (i + 1) = vs.length - 1 - i by omega]; exact hv'
      rw [e3]; rfl
    have hp' : left = cat word ((vs.take (vs.length - (i + 1))).map nmTxt) ++ (piece word (nmTxt v) ++ PySem.Str.ofString ",") := by
      have hp2 : left = cat word ((vs.take (vs.length - i)).map nmTxt) := hp
      rw [hp2, e1, List.map_append, cat_append]
      show _ ++ cat word [nmTxt v] = _
      rw [cat_one]; rfl
    subst hp'
    have hok : NmOk v := hn v (List.mem_of_getElem? hv')
    have hlen : (cat word ((vs.take (vs.length - (i + 1))).map nmTxt)).length ≤ 7800 := by
      have h1 := cat_len hw (vs := vs.take (vs.length - (i + 1))) fun x hx => hn x (List.mem_of_mem_take hx)
      rw [List.length_take] at h1
      have h2 : min (vs.length - (i + 1)) vs.length ≤ 62 := by omega
      omega
    have hp3 : (piece word (nmTxt v) ++ PySem.Str.ofString ",").length ≤ 118 := pieceC_len hw (nmTxt_len hok)
    exact turn v _ tl u h tk I oI hok (by rw [PySem.Str.length_append]; omega) (by omega) (.of off) F₁ N₁
  · rintro ⟨left, tl⟩ u h tk hp F₁ N₁
    have hp' : left = PySem.Str.empty := by
      have hp2 : left = cat word ((vs.take (vs.length - vs.reverse.length)).map nmTxt) := hp
      rw [hp2, List.length_reverse, Nat.sub_self]; rfl
    subst hp'
    exact done tl u h tk F₁ N₁
end

theorem len_ok {x : PySem.Str} (h : x.length ≤ 7918) : ¬ (x.length : Int) ≥ 2 ^ 63 := by omega
theorem left_end {word p : PySem.Str} {l' : List PySem.Str} : PySem.Txt.slice (cat word l' ++ p) none (some (((cat word l' ++ p).length : Int) - (p.length : Int))) = cat word l' :=
  slice_to (by rw [PySem.Str.length_append]; omega)

theorem la_end {word p : PySem.Str} {l' : List PySem.Str} {news all : List (Addr × Obj)} {m₀ m' : Str → Option Value} {h₀ : Heap} {L I : Addr} {oI : Obj} {s₁ : Shared} {h' : Heap} {tk : Nat} {tl : Tok}
    (F : Fr h₀ L h' m') (N : News h₀ L h' all) (hI : (I, oI) ∈ all) (sub : ∀ p ∈ news, p ∈ all) (no : OffIt I news)
    (hk : m' (PySem.Str.ofString "left") = some (.str (PySem.Txt.slice (cat word l' ++ p) none (some (((cat word l' ++ p).length : Int) - (p.length : Int)))) tl))
    (hr : ∀ z, z ≠ PySem.Str.ofString "name" → z ≠ PySem.Str.ofString "left" → z ≠ PySem.Str.ofString "piece" → m' z = m₀ z) :
    TurnEnd h₀ L I oI (LoopSt (PySem.Str.ofString "name") (fun _ => news) (fun c : PySem.Str × Tok => [(PySem.Str.ofString "left", .str c.1 c.2)]) [PySem.Str.ofString "piece"] m₀ (fun c => c.1 = cat word l')) s₁ { s₁ with heap := h', toks := tk } :=
  TurnEnd.intro (_, tl) F N hI sub no (fun q hq => by rw [List.mem_singleton.mp hq]; exact hk) (fun z h1 h2 h3 => hr z h1 (h2 _ (.head _)) (fun e => by subst e; simp at h3)) left_end

/-- a loop over a tuple of words that leaves frame and ledger as they are -/
theorem loop_words {prog : Program} {w : World} {A : Around} {E : Value → Shared → Prop} {s : Shared} {env : Env} {h₀ : Heap} {x : Str} {body : List Stmt} {Q : Flow → Shared → Prop} {ax : Addr} {ep : Nat} {vs : List Value} {m₀ : Str → Option Value} {news : List (Addr × Obj)}
    (hh : A.handled = none) (F : Fr h₀ env.locals s.heap m₀) (N : News h₀ env.locals s.heap news) (hm : (ax, ({ cls := .type "tuple", data := .seq vs.toArray ep } : Obj)) ∈ news) (hvs : ∀ v ∈ vs, ∃ word t, v = .str word t ∧ word.length ≤ 16)
    (turn : ∀ word tw h tk I oI, word.length ≤ 16 → OffIt I news → Fr h₀ env.locals h (fun y => if y = x then some (.str word tw) else m₀ y) → News h₀ env.locals h ((I, oI) :: news) →
      wpAny (model prog w) A (execs body env) (TurnPost h₀ env.locals I oI (LoopSt x (fun _ : Unit => news) (fun _ => []) [] m₀ (fun _ => True)) { s with heap := h, toks := tk } Q) E { s with heap := h, toks := tk })
    (done : ∀ (u : Str → Option Value) h tk, Fr h₀ env.locals h (fun y => if y = x then u y else m₀ y) → News h₀ env.locals h news → Q .next { s with heap := h, toks := tk }) :
    wpAny (model prog w) A (pyIter (.ref ax)) (fun it s₂ => LoopAtV prog w A h₀ env x body Q E it s₂) E s := by
  refine iter_tupS (ep := ep) (vs := vs) (fun _ : Unit => news) (fun _ => []) [] (fun _ _ => True) () hh F N (fun _ => hm) (fun _ h => nomatch h) trivial ?_ ?_
  · rintro _ i v u h tk I oI hv _ off F₁ N₁
    obtain ⟨word, t, rfl, hw⟩ := hvs v (List.mem_of_getElem? (by simpa using hv))
    exact turn word t h tk I oI hw (.of off) F₁ N₁
  · intro _ u h tk _ F₁ N₁
    exact done u h tk F₁ N₁
theorem words_end {x : Str} {news all : List (Addr × Obj)} {m₀ m' : Str → Option Value} {h₀ : Heap} {L I : Addr} {oI : Obj} {s₁ : Shared} {h' : Heap} {tk : Nat}
    (F : Fr h₀ L h' m') (N : News h₀ L h' all) (hI : (I, oI) ∈ all) (sub : ∀ p ∈ news, p ∈ all) (no : OffIt I news) (hr : ∀ z, z ≠ x → m' z = m₀ z) :
    TurnEnd h₀ L I oI (LoopSt x (fun _ : Unit => news) (fun _ => []) [] m₀ (fun _ => True)) s₁ { s₁ with heap := h', toks := tk } :=
  TurnEnd.intro () F N hI sub no (fun _ h => nomatch h) (fun z h1 _ _ => hr z h1) trivial

theorem pick_drop1 (l : List Value) : kms_pick l (some 1) none = l.drop 1 := by
  unfold kms_pick kms_lo kms_hi
  cases l with
  | nil => rfl
  | cons a r => simp
theorem FieldsAt.drop1 {C : Addr} {news : List (Addr × Obj)} {ys vs : List Value} (h : FieldsAt C news ys vs) : FieldsAt C news (ys.drop 1) (vs.drop 1) := by
  cases h with
  | nil => exact .nil
  | cons _ h => exact h
theorem NmsOk.drop1 {vs : List Value} (h : NmsOk vs) : NmsOk (vs.drop 1) := fun v hv => h v (List.mem_of_mem_drop hv)
end

section
theorem split_ne (x y : PySem.Str) : PySem.Txt.split x y ≠ [] := by
  unfold PySem.Txt.split
  split
  · simp
  · split
    · simp
    · rw [StrLaws.partsBetween_eq]
      obtain ⟨p, q, e⟩ := StrLaws.partsFrom_ne x y.length 0 (PySem.Builtin.Str.occurrences x y 0 x.length (x.length + 1))
      rw [e]; simp
theorem free_head {c : Nat} : ∀ {a b u v : List Nat}, c ∉ a → c ∉ b → a ++ c :: u = b ++ c :: v → a = b ∧ u = v
  | [], [], _, _, _, _, h => ⟨rfl, (List.cons.inj h).2⟩
  | [], y :: b, _, _, _, hb, h => absurd (.head _) ((List.cons.inj h).1 ▸ hb)
  | x :: a, [], _, _, ha, _, h => absurd (.head _) ((List.cons.inj h).1 ▸ ha)
  | x :: a, y :: b, u, v, ha, hb, h => by
    have h1 := (List.cons.inj h).1
    have h2 := free_head (fun m => ha (.tail _ m)) (fun m => hb (.tail _ m)) (List.cons.inj h).2
    exact ⟨by rw [h1, h2.1], h2.2⟩
theorem str_ext {a b : PySem.Str} (h : a.cps.toList = b.cps.toList) : a = b := Str.ext' (Array.toList_inj.mp h)
theorem join_uniq {c : Nat} : ∀ {ps qs : List PySem.Str}, ps ≠ [] → qs ≠ [] → (∀ p ∈ ps, c ∉ p.cps.toList) → (∀ p ∈ qs, c ∉ p.cps.toList) → PySem.Str.join ⟨#[c]⟩ ps = PySem.Str.join ⟨#[c]⟩ qs → ps = qs
  | [], _, h, _, _, _, _ => absurd rfl h
  | _ :: _, [], _, h, _, _, _ => absurd rfl h
  | [p], [q], _, _, _, _, e => by rw [show p = q from e]
  | [p], q :: q' :: qs, _, _, hp, _, e => by
    refine absurd ?_ (hp p (.head _))
    have e' : p = q ++ ⟨#[c]⟩ ++ PySem.Str.join ⟨#[c]⟩ (q' :: qs) := e
    rw [e', KT.app_list, KT.app_list]
    simp
  | p :: p' :: ps, [q], _, _, _, hq, e => by
    refine absurd ?_ (hq q (.head _))
    have e' : p ++ ⟨#[c]⟩ ++ PySem.Str.join ⟨#[c]⟩ (p' :: ps) = q := e
    rw [← e', KT.app_list, KT.app_list]
    simp
  | p :: p' :: ps, q :: q' :: qs, _, _, hp, hq, e => by
    have e' : p ++ ⟨#[c]⟩ ++ PySem.Str.join ⟨#[c]⟩ (p' :: ps) = q ++ ⟨#[c]⟩ ++ PySem.Str.join ⟨#[c]⟩ (q' :: qs) := e
    have e2 := congrArg (fun s : PySem.Str => s.cps.toList) e'
    simp only [KT.app_list, List.append_assoc] at e2
    have e3 := free_head (hp p (.head _)) (hq q (.head _)) (by simpa using e2)
    rw [str_ext e3.1, join_uniq (c := c) (by simp) (by simp) (fun x hx => hp x (.tail _ hx)) (fun x hx => hq x (.tail _ hx)) (str_ext e3.2)]
theorem split_is {x : PySem.Str} {c : Nat} {ps : List PySem.Str} (hne : ps ≠ []) (hf : ∀ p ∈ ps, c ∉ p.cps.toList) (e : PySem.Str.join ⟨#[c]⟩ ps = x) : PySem.Txt.split x ⟨#[c]⟩ = ps :=
  join_uniq (split_ne _ _) hne (StrLaws.split_free x c) hf ((StrLaws.join_split x ⟨#[c]⟩).trans e.symm)
theorem comma_is : PySem.Str.ofString "," = ⟨#[44]⟩ := by decide +kernel
theorem join_pieces (word : PySem.Str) : ∀ l : List PySem.Str, PySem.Str.join (PySem.Str.ofString ",") (l.map (piece word) ++ [PySem.Str.empty]) = cat word l
  | [] => rfl
  | [t] => by
    show piece word t ++ PySem.Str.ofString "," ++ PySem.Str.empty = pieceC word t ++ PySem.Str.empty
    rfl
  | t :: u :: r => by
    show piece word t ++ PySem.Str.ofString "," ++ PySem.Str.join (PySem.Str.ofString ",") ((u :: r).map (piece word) ++ [PySem.Str.empty]) = pieceC word t ++ cat word (u :: r)
    rw [join_pieces word (u :: r)]; rfl
theorem split_cat {word : PySem.Str} {l : List PySem.Str} (hf : ∀ t ∈ l, 44 ∉ (piece word t).cps.toList) : PySem.Txt.split (cat word l) (PySem.Str.ofString ",") = l.map (piece word) ++ [PySem.Str.empty] := by
  rw [comma_is]
  refine split_is (by simp) ?_ (by rw [← comma_is]; exact join_pieces word l)
  intro p hp
  rcases List.mem_append.mp hp with hp | hp
  · obtain ⟨t, ht, rfl⟩ := List.mem_map.mp hp
    exact hf t ht
  · rw [List.mem_singleton.mp hp]; simp [PySem.Str.empty]
end

section
/-- each object of own lies above each of news -/
def Above (news own : List (Addr × Obj)) : Prop := ∀ p ∈ own, ∀ q ∈ news, @LT.lt Nat _ q.1 p.1
theorem Above.nil {news : List (Addr × Obj)} : Above news [] := fun _ h => nomatch h
theorem above_off {news own : List (Addr × Obj)} {a : Addr} {o : Obj} (h : Above news own) (hm : (a, o) ∈ news) : ∀ p ∈ own, p.1 ≠ a := fun p hp => Nat.ne_of_gt (h p hp _ hm)
theorem Above.two {news own : List (Addr × Obj)} {x d : Addr} {ox od : Obj} (h : Above news own) (hd : ∀ q ∈ news, @LT.lt Nat _ q.1 d) (hx : @LT.lt Nat _ d x) : Above news ((x, ox) :: (d, od) :: own) := fun p hp q hq => by
  rcases List.mem_cons.mp hp with rfl | hp
  · exact Nat.lt_trans (hd q hq) hx
  rcases List.mem_cons.mp hp with rfl | hp
  · exact hd q hq
  · exact h p hp q hq
theorem fields_endB {K : Addr} {h₀ : Heap} {L I C D x d : Addr} {m : Str → Option Value} {s₁ : Shared} {oI oC oD : Obj} {S : List (Addr × Obj) → Prop} {news own : List (Addr × Obj)} {hs : Int} {t : Tok} {v : Value} {ys vs : List Value} {i : Nat} {h' : Heap} {tk : Nat}
    (F : Fr h₀ L h' m) (N : News h₀ L h' ((x, instObj K d) :: (d, dictOf [⟨hs, .str (PySem.Str.ofString "name") t, v⟩] 1) :: (I, oI) :: (C, oC) :: (D, oD) :: (news ++ own)))
    (off : LCg.Off3 I C D (news ++ own)) (lt : @LT.lt Nat _ I d ∧ @LT.lt Nat _ C d ∧ @LT.lt Nat _ D d ∧ @LT.lt Nat _ d x) (hb : ∀ q ∈ news, @LT.lt Nat _ q.1 d) (ha : Above news own) (hf : FieldsAt K own ys (vs.take i)) (hv : vs.toArray[i]? = some v)
    (hS : ∀ own', S (news ++ own')) :
    LCg.CompEnd h₀ L m s₁ I oI C oC D oD S (ElG news fun y own' => FieldsAt K own' (ys ++ [y]) (vs.take (i + 1)) ∧ Above news own') (.ref x) { s₁ with heap := h', toks := tk } :=
  ElG.made F N (by
    intro p hp
    simp only [List.mem_cons, List.mem_append] at hp ⊢
    rcases hp with h | h | h | h | h | h | h <;> simp only [h, true_or, or_true]) off lt (hS _) ⟨fields_step (hs := hs) (t := t) hf hv, ha.two hb lt.2.2.2⟩
theorem comp_fieldsB {prog : Program} {w : World} {A : Around} {h₀ : Heap} {L : Addr} {m : Str → Option Value} {env : Env} {elt : Expr} {x : Str} {scope : Scope} {cl : List (Str × Addr)} {s : Shared}
    {S : List (Addr × Obj) → Prop} {Fin : List Value → List (Addr × Obj) → Prop} {news : List (Addr × Obj)} {vs : List Value} (K : Addr)
    (turn : ∀ i v I oI C oC D m₂ ys own h tk (E' : Value → Shared → Prop), vs.toArray[i]? = some v → FieldsAt K own ys (vs.take i) → Above news own → LCg.NsObj oC m₂ → m₂ x = some v → Fr h₀ L h m →
      News h₀ L h ((I, oI) :: (C, oC) :: (D, LCg.lst ys) :: (news ++ own)) → LCg.Off3 I C D (news ++ own) → ((@Ne Nat I C) ∧ (@Ne Nat I D) ∧ (@Ne Nat C D)) →
      wpAny (model prog w) A (eval elt (compEnvC scope cl C env)) (LCg.CompEnd h₀ L m { s with heap := h, toks := tk } I oI C oC D (LCg.lst ys) S (ElG news fun y own' => FieldsAt K own' (ys ++ [y]) (vs.take (i + 1)) ∧ Above news own')) E' { s with heap := h, toks := tk })
    (fin : ∀ ys own, FieldsAt K own ys vs → Above news own → Fin ys (news ++ own)) : LCg.CompRest prog w A h₀ L m env elt x scope cl s S (fun i v => vs.toArray[i]? = some v) Fin vs.toArray.size 0 [] news :=
  comp_grow (fun i ys own => FieldsAt K own ys (vs.take i) ∧ Above news own) ⟨.nil, .nil⟩ (fun i v I oI C oC D m₂ ys own h tk E' _ hv hr hC hx F N off ne => turn i v I oI C oC D m₂ ys own h tk E' hv hr.1 hr.2 hC hx F N off ne)
    fun ys own h => fin ys own (by simpa using h.1) h.2
theorem valueAt_stored (kvs : List (PySem.Str × Value)) (k k' : PySem.Str) (v : Value) : valueAt (stored kvs k v) k' = if k = k' then some v else valueAt kvs k' := by
  unfold stored
  split
  · rename_i h
    unfold valueAt
    induction kvs with
    | nil => simp at h
    | cons p r ih =>
      rw [List.map_cons]
      by_cases hp : p.1 = k
      · by_cases hk : k = k'
        · simp [hp, hk]
        · rw [if_pos hp, if_neg hk]
          have h1 : ¬ k = k' := hk
          have h2 : ¬ p.1 = k' := fun e => hk (hp.symm.trans e)
          rw [List.find?_cons_of_neg (by simpa using h2), List.find?_cons_of_neg (by simpa using h2)]
          by_cases hr : (r.any fun kv => kv.1 = k) = true
          · have := ih hr
            rw [if_neg hk] at this
            exact this
          · congr 1
            have : r.map (fun kv => if kv.1 = k then (kv.1, v) else kv) = r := by
              have h3 : ∀ kv ∈ r, ¬ kv.1 = k := fun kv hm e => hr (List.any_eq_true.mpr ⟨kv, hm, by simpa using e⟩)
              clear ih h hr
              induction r with
              | nil => rfl
              | cons q r ih =>
                rw [List.map_cons, if_neg (h3 q (.head _)), ih fun kv hm => h3 kv (.tail _ hm)]
            rw [this]
      · have hr : (r.any fun kv => kv.1 = k) = true := by
          rw [List.any_cons] at h
          simpa [hp] using h
        rw [if_neg hp]
        by_cases h2 : p.1 = k'
        · have hk : ¬ k = k' := fun e => hp (h2.trans e.symm)
          rw [List.find?_cons_of_pos (by simpa using h2), if_neg hk, List.find?_cons_of_pos (by simpa using h2)]
        · rw [List.find?_cons_of_neg (by simpa using h2), List.find?_cons_of_neg (by simpa using h2)]
          exact ih hr
  · rename_i h
    have hn : valueAt kvs k = none := by
      have := valueAt_isSome_eq_any kvs k
      cases hv : valueAt kvs k with
      | none => rfl
      | some x => rw [hv] at this; exact absurd this.symm h
    unfold valueAt at hn ⊢
    rw [List.find?_append]
    by_cases hk : k = k'
    · subst hk
      have : (kvs.find? fun kv => kv.1 = k) = none := by simpa using hn
      rw [this, if_pos rfl]; simp
    · rw [if_neg hk]
      cases hf : kvs.find? (fun kv => kv.1 = k') with
      | none => simp [hk]
      | some x => simp
/-- the worth under a name -/
def worth (k : List (PySem.Str × Value)) (t : PySem.Str) : Value := (valueAt k t).getD .none
theorem worth_at {k : List (PySem.Str × Value)} {t : PySem.Str} (h : (valueAt k t).isSome = true) : valueAt k t = some (worth k t) := by
  unfold worth
  cases hv : valueAt k t with
  | none => rw [hv] at h; cases h
  | some v => rfl
/-- no comma, no full stop -/
def Tidy (t : PySem.Str) : Prop := 44 ∉ t.cps.toList ∧ 46 ∉ t.cps.toList
theorem dot_is : PySem.Str.ofString "." = ⟨#[46]⟩ := by decide +kernel
theorem piece_free {word t : PySem.Str} (hw : Tidy word) (ht : Tidy t) : 44 ∉ (piece word t).cps.toList := by
  unfold piece
  rw [KT.app_list, KT.app_list, dot_is]
  simp only [List.mem_append]
  rintro ((h | h) | h)
  · exact hw.1 h
  · simp at h
  · exact ht.1 h
theorem split_piece {word t : PySem.Str} (hw : Tidy word) (ht : Tidy t) : PySem.Txt.split (piece word t) (PySem.Str.ofString ".") = [word, t] := by
  unfold piece
  rw [dot_is]
  refine split_is (by simp) ?_ rfl
  intro p hp
  simp only [List.mem_cons, List.not_mem_nil, or_false] at hp
  rcases hp with rfl | rfl
  · exact hw.2
  · exact ht.2
theorem split_tstr {word : PySem.Str} {ts : List PySem.Str} (hw : Tidy word) (ht : ∀ t ∈ ts, Tidy t) : PySem.Txt.split (PySem.Txt.slice (tstr word ts) (some 1) (some (-1))) (PySem.Str.ofString ",") = ts.map (piece word) ++ [PySem.Str.empty] := by
  rw [tstr_inner]; exact split_cat fun t h => piece_free hw (ht t h)
/-- two tuples of the very same items -/
theorem ne_tup {prog : Program} {w : World} {A : Around} {E : Value → Shared → Prop} {s : Shared} {h₀ : Heap} {L a b : Addr} {news : List (Addr × Obj)} {ys : List Value} {k j : Nat} {Q : Value → Shared → Prop}
    (N : News h₀ L s.heap news) (ha : (a, ({ cls := .type "tuple", data := .seq ys.toArray k } : Obj)) ∈ news) (hb : (b, ({ cls := .type "tuple", data := .seq ys.toArray j } : Obj)) ∈ news) (hu : A.units < cLine)
    (h : Q (.bool false) s) : wpAny (model prog w) A (compareOp .NotEq (.ref a) (.ref b)) Q E s := by
  have h1 : s.heap.IsTuple a ys.toArray := ⟨_, (N _ ha).1, rfl, k, rfl⟩
  have h2 : s.heap.IsTuple b ys.toArray := ⟨_, (N _ hb).1, rfl, j, rfl⟩
  refine SeqAt.RcNeAt.tuples (e := fun _ => true) h1 h2 hu (fun j _ _ => SeqAt.EqAt.same _) prog w E Q ?_
  have e : (((List.range (min ys.toArray.size ys.toArray.size)).all fun _ => true) && ys.toArray.size == ys.toArray.size) = true := by simp
  rw [e]; exact h

theorem strs_split {p : List PySem.Str} {q : PySem.Str} : ∀ {zs : List Value}, StrsAre zs (p ++ [q]) → ∃ zs' t, zs = zs' ++ [.str q t] ∧ StrsAre zs' p := by
  induction p with
  | nil =>
    intro zs h
    cases h with
    | cons y t r => cases r; exact ⟨[], t, rfl, .nil⟩
  | cons a r ih =>
    intro zs h
    cases h with
    | cons y t r' =>
      obtain ⟨zs', t', e, h'⟩ := ih r'
      exact ⟨.str a t :: zs', t', by rw [e]; rfl, .cons a t h'⟩
theorem strs_len {zs : List Value} {l : List PySem.Str} (h : StrsAre zs l) : zs.length = l.length := by
  induction h with
  | nil => rfl
  | cons _ _ _ ih => simp [ih]
theorem strs_get {zs : List Value} {l : List PySem.Str} (h : StrsAre zs l) : ∀ {i : Nat} {v : Value}, zs[i]? = some v → ∃ x t, l[i]? = some x ∧ v = .str x t := by
  induction h with
  | nil => intro i v hv; simp at hv
  | cons y t r ih =>
    intro i v hv
    cases i with
    | zero => simp only [List.getElem?_cons_zero, Option.some.injEq] at hv; exact ⟨y, t, rfl, hv.symm⟩
    | succ i => exact ih (by simpa using hv)
theorem empty_is : PySem.Str.empty = PySem.Str.ofString "" := by decide +kernel
section
variable {prog : Program} {w : World} {A : Around} {E : Value → Shared → Prop} {s : Shared} {h₀ : Heap} {L D : Addr} {m : Str → Option Value} {news : List (Addr × Obj)} {word : PySem.Str} {ts : List PySem.Str} {Q : Value → Shared → Prop}
theorem split_ps {t u : Tok} (F : Fr h₀ L s.heap m) (N : News h₀ L s.heap news) (hw : Tidy word) (ht : ∀ t ∈ ts, Tidy t) (hsz : (PySem.Txt.slice (tstr word ts) (some 1) (some (-1))).length ≤ 8000)
    (h : ∀ D zs t' h' k, StrsAre zs (ts.map (piece word)) → Fr h₀ L h' m → News h₀ L h' ((D, listOf (zs ++ [Value.str (PySem.Str.ofString "") t']).toArray 0) :: news) → (∀ p ∈ news, p.1 < D) → Q (.ref D) { s with heap := h', toks := k }) :
    wpAny (model prog w) A (call (.builtin "str.split") [.str (PySem.Txt.slice (tstr word ts) (some 1) (some (-1))) t, .str (PySem.Str.ofString ",") u]) Q E s := by
  refine KSpl.split1 F N (by decide) (fun D l h' k e a F' N' l1 => ?_) (by rw [PySem.sizeLine_eq]; omega)
  rw [split_tstr hw ht] at e
  rw [e] at a
  obtain ⟨zs', t', e', h''⟩ := strs_split a
  rw [e', empty_is] at N'
  exact h D zs' t' h' k h'' F' N' l1
theorem split_dot {x : PySem.Str} {t u : Tok} (F : Fr h₀ L s.heap m) (N : News h₀ L s.heap news) (hw : Tidy word) (ht : Tidy x) (hsz : (piece word x).length ≤ 200)
    (h : ∀ D t1 t2 h' k, Fr h₀ L h' m → News h₀ L h' ((D, listOf #[Value.str word t1, Value.str x t2] 0) :: news) → (∀ p ∈ news, p.1 < D) → Q (.ref D) { s with heap := h', toks := k }) :
    wpAny (model prog w) A (call (.builtin "str.split") [.str (piece word x) t, .str (PySem.Str.ofString ".") u]) Q E s := by
  refine KSpl.split1 F N (by decide) (fun D l h' k e a F' N' l1 => ?_) (by rw [PySem.sizeLine_eq]; omega)
  rw [split_piece hw ht] at e
  rw [e] at a
  generalize hz : strValues l = zs at a N'
  cases a with
  | cons y t1 r => cases r with
    | cons y' t2 r' => cases r'; exact h D t1 t2 h' k F' N' l1
end
section
variable {prog : Program} {w : World} {A : Around} {E : Value → Shared → Prop} {s : Shared} {h₀ : Heap} {L D : Addr} {m : Str → Option Value} {news news' : List (Addr × Obj)} {n : Nat} {vs : List Value} {Q : Value → Shared → Prop}
theorem len_L (N : News h₀ L s.heap news) (hm : (D, listOf vs.toArray n) ∈ news) (hz : vs.length ≤ 1000) (h : Q (.int (vs.length : Int) (s.toks + 1)) { s with toks := s.toks + 1 + 1 }) : wpAny (model prog w) A (call (.builtin "len") [.ref D]) Q E s :=
  kst_len N hm rfl (by omega) h
theorem append_L {x : Value} (F : Fr h₀ L s.heap m) (N : News h₀ L s.heap news) (U : Upd D (listOf vs.toArray n) (listOf (vs ++ [x]).toArray (n + 1)) news news') (hz : vs.length ≤ sizeLine)
    (h : ∀ h', Fr h₀ L h' m → News h₀ L h' news' → Q .none { s with heap := h' }) : wpAny (model prog w) A (call (.builtin "list.append") [.ref D, x]) Q E s :=
  append_K F N (its := vs.toArray) (by rw [List.push_toArray]; exact U) h (by rw [List.size_toArray]; exact hz)
end
end

section
/-- what the law's reader is handed: the table of tables, one of its words, names that the word's table has -/
structure LrH (prog : Program) (w : World) (news : List (Addr × Obj)) (hA wA : Addr) (oH oW : Obj) (kH kW : List (PySem.Str × Value)) (word : PySem.Str) (ts : List PySem.Str) : Prop where
  mH : (hA, oH) ∈ news
  dH : oH.IsDictOf (PySem.strKind prog w) kH
  lH : (hA == sysModules) = false
  vH : valueAt kH word = some (.ref wA)
  mW : (wA, oW) ∈ news
  dW : oW.IsDictOf (PySem.strKind prog w) kW
  lW : (wA == sysModules) = false
  tw : Tidy word
  sw : word.length ≤ 16
  tt : ∀ t ∈ ts, Tidy t ∧ t.length ≤ 100 ∧ (valueAt kW t).isSome = true
  st : ts.length ≤ 63
variable {prog : Program} {w : World} {A : Around} {E : Value → Shared → Prop} {s : Shared} {h₀ : Heap} {L D : Addr} {m : Str → Option Value} {news all : List (Addr × Obj)} {hA wA : Addr} {oH oW : Obj} {kH kW : List (PySem.Str × Value)} {word : PySem.Str} {ts : List PySem.Str}
theorem LrH.hasW (H : LrH prog w news hA wA oH oW kH kW word ts) : (valueAt kH word).isSome = true := by rw [H.vH]; rfl
theorem LrH.piece_le (H : LrH prog w news hA wA oH oW kH kW word ts) {t : PySem.Str} (h : t ∈ ts) : (piece word t).length ≤ 200 := Nat.le_trans (piece_len H.sw (H.tt t h).2.1) (by decide)
theorem catS_len {word : PySem.Str} (hw : word.length ≤ 16) : ∀ {ts : List PySem.Str}, (∀ t ∈ ts, t.length ≤ 100) → (cat word ts).length ≤ 118 * ts.length
  | [], _ => by simp [cat, empty_len]
  | v :: r, h => by
    show (pieceC word v ++ cat word r).length ≤ _
    rw [PySem.Str.length_append]
    have h1 := pieceC_len hw (h v (.head _))
    have h2 := catS_len hw (ts := r) fun x hx => h x (.tail _ hx)
    simp only [List.length_cons, Nat.mul_add, Nat.mul_one]
    omega
theorem LrH.len (H : LrH prog w news hA wA oH oW kH kW word ts) : (tstr word ts).length ≤ 8000 := by
  have := catS_len H.sw fun t h => (H.tt t h).2.1
  have := H.st
  rw [tstr_cat, PySem.Str.length_append, PySem.Str.length_append]
  have h1 : (PySem.Str.ofString "(").length = 1 := by decide
  have h2 : (PySem.Str.ofString ")").length = 1 := by decide
  omega
theorem LrH.inner (H : LrH prog w news hA wA oH oW kH kW word ts) : (PySem.Txt.slice (tstr word ts) (some 1) (some (-1))).length ≤ 8000 := by
  rw [tstr_inner]
  have := catS_len H.sw fun t h => (H.tt t h).2.1
  have := H.st
  omega
section
variable {env : Env} {body : List Stmt} {Q : Flow → Shared → Prop}
abbrev LedR (rA ax : Addr) (zs : List Value) (ep : Nat) (news : List (Addr × Obj)) (c : List Value × Nat) : List (Addr × Obj) := (rA, listOf c.1.toArray c.2) :: (ax, listOf zs.toArray ep) :: news
theorem loop_lr {rA ax : Addr} {ep : Nat} {zs : List Value} {m₀ : Str → Option Value} {all : List (Addr × Obj)} (H : LrH prog w news hA wA oH oW kH kW word ts)
    (hh : A.handled = none) (F : Fr h₀ env.locals s.heap m₀) (N : News h₀ env.locals s.heap all) (m1 : (rA, listOf (List.toArray []) 0) ∈ all) (m2 : (ax, listOf zs.toArray ep) ∈ all) (hs : ∀ p ∈ news, p ∈ all) (hz : StrsAre zs (ts.map (piece word)))
    (hne : @Ne Nat ax rA) (hnn : ∀ p ∈ news, p.1 ≠ rA)
    (turn : ∀ t (xs : List Value) (k : Nat) tk (u : Str → Option Value) h tkk I oI, t ∈ ts → Tidy t → (piece word t).length ≤ 200 → (valueAt kW t).isSome = true → xs.length ≤ 63 → OffIt I (LedR rA ax zs ep news (xs ++ [worth kW t], k + 1)) → (@Ne Nat I rA) → (@Ne Nat ax rA) → (∀ p ∈ news, p.1 ≠ rA) →
      Fr h₀ env.locals h (fun y => if y = PySem.Str.ofString "piece" then some (.str (piece word t) tk) else kstB (fun z => if [PySem.Str.ofString "parts"].contains z then u z else m₀ z) [] y) → News h₀ env.locals h ((I, oI) :: (rA, listOf xs.toArray k) :: (ax, listOf zs.toArray ep) :: news) →
      wpAny (model prog w) A (execs body env) (TurnPost h₀ env.locals I oI (LoopSt (PySem.Str.ofString "piece") (LedR rA ax zs ep news) (fun _ : List Value × Nat => []) [PySem.Str.ofString "parts"] m₀ (fun c => c.1 = xs ++ [worth kW t])) { s with heap := h, toks := tkk } Q) E { s with heap := h, toks := tkk })
    (done : ∀ k (u : Str → Option Value) h tk, Fr h₀ env.locals h (fun y => if y = PySem.Str.ofString "piece" then u y else kstB (fun z => if [PySem.Str.ofString "parts"].contains z then u z else m₀ z) [] y) → News h₀ env.locals h ((rA, listOf (ts.map (worth kW)).toArray k) :: (ax, listOf zs.toArray ep) :: news) → Q .next { s with heap := h, toks := tk }) :
    wpAny (model prog w) A (pyIter (.ref ax)) (fun it s₂ => LoopAtV prog w A h₀ env (PySem.Str.ofString "piece") body Q E it s₂) E s := by
  have hzl : zs.length = ts.length := by rw [strs_len hz, List.length_map]
  refine iter_listS (ep := ep) (vs := zs) (LedR rA ax zs ep news) (fun _ : List Value × Nat => []) [PySem.Str.ofString "parts"] (fun i c => c.1 = (ts.take i).map (worth kW)) ([], 0) hh F (fun p hp => ?_) (fun c => .tail _ (.head _)) (fun _ h => nomatch h) rfl ?_ ?_
  · rcases List.mem_cons.mp hp with rfl | hp
    · exact N _ m1
    rcases List.mem_cons.mp hp with rfl | hp
    · exact N _ m2
    · exact N _ (hs _ hp)
  · rintro ⟨xs, k⟩ i v u h tk I oI hv hp off F₁ N₁
    have hv' : zs[i]? = some v := by simpa using hv
    obtain ⟨x, t, hx, rfl⟩ := strs_get hz hv'
    rw [List.getElem?_map] at hx
    cases hti : ts[i]? with
    | none => rw [hti] at hx; cases hx
    | some ti =>
      rw [hti] at hx
      have hx' : piece word ti = x := by simpa using hx
      subst hx'
      have hp' : xs = (ts.take i).map (worth kW) := hp
      have hm := List.mem_of_getElem? hti
      have e : (ts.take (i + 1)).map (worth kW) = xs ++ [worth kW ti] := by
        rw [List.take_add_one, hti, hp', List.map_append]; rfl
      have hH := H.tt ti hm
      have hi : i < ts.length := (List.getElem?_eq_some_iff.mp hti).1
      have hst := H.st
      have h3 := turn ti xs k t u h tk I oI hm hH.1 (H.piece_le hm) hH.2.2 (by rw [hp', List.length_map, List.length_take]; omega) (.of fun p hp => by
        rcases List.mem_cons.mp hp with rfl | hp
        · exact off (rA, listOf xs.toArray k) (.head _)
        · exact off _ (.tail _ hp)) (fun e => off _ (.head _) e.symm) hne hnn F₁ N₁
      rw [← e] at h3
      exact h3
  · rintro ⟨xs, k⟩ u h tk hp F₁ N₁
    have hp' : xs = ts.map (worth kW) := by
      have hp2 : xs = (ts.take zs.length).map (worth kW) := hp
      rw [hp2, hzl, List.take_length]
    subst hp'
    exact done k u h tk F₁ N₁
theorem lr_end {rA ax I : Addr} {oI : Obj} {ep k : Nat} {zs xs : List Value} {m₀ m' : Str → Option Value} {s₁ : Shared} {h' : Heap} {tk : Nat}
    (F : Fr h₀ L h' m') (N : News h₀ L h' all) (hI : (I, oI) ∈ all) (m1 : (rA, listOf xs.toArray k) ∈ all) (m2 : (ax, listOf zs.toArray ep) ∈ all) (sub : ∀ p ∈ news, p ∈ all) (no : OffIt I (LedR rA ax zs ep news (xs, k)))
    (hr : ∀ z, z ≠ PySem.Str.ofString "piece" → z ≠ PySem.Str.ofString "parts" → m' z = m₀ z) :
    TurnEnd h₀ L I oI (LoopSt (PySem.Str.ofString "piece") (LedR rA ax zs ep news) (fun _ : List Value × Nat => []) [PySem.Str.ofString "parts"] m₀ (fun c => c.1 = xs)) s₁ { s₁ with heap := h', toks := tk } :=
  TurnEnd.intro (xs, k) F N hI (fun p hp => by
    rcases List.mem_cons.mp hp with rfl | hp
    · exact m1
    rcases List.mem_cons.mp hp with rfl | hp
    · exact m2
    · exact sub _ hp) no (fun _ h => nomatch h) (fun z h1 h2 h3 => hr z h1 (fun e => by subst e; simp at h3)) rfl
end
theorem pick_init {l : List Value} {x : Value} : kms_pick (l ++ [x]) none (some (-1)) = l := by
  unfold kms_pick kms_lo kms_hi
  simp
theorem item_last {value slice : PySem.Expr} {l : List Value} {x : Value} {ep : Nat} {u : Tok} {Q : Value → Shared → Prop}
    (N : News h₀ L s.heap all) (hm : (D, listOf (l ++ [x]).toArray ep) ∈ all) (hz : l.length ≤ 1000) (h : Q x s)
    (hss : subscripted slice false (.ref D) (.int (-1) u) = operate [.ref D, .int (-1) u] (getItem (.ref D) (.int (-1) u))) : wpAny (model prog w) A (subscriptTail value slice (.ref D) (.int (-1) u)) Q E s := by
  have hl := News.isList N hm
  refine tail_any hl.typeIs slot_list_getitem.lookup (wpAny_getItem_list_neg hl (by decide) ?_ (by decide) ?_ h) hss
  · simp; omega
  · have e : (-1 + (((l ++ [x]).toArray.size : Nat) : Int)).toNat = l.length := by simp; omega
    rw [e]; simp
theorem LrH.tidy (H : LrH prog w news hA wA oH oW kH kW word ts) : ∀ t ∈ ts, Tidy t := fun t h => (H.tt t h).1
theorem str_room {x : PySem.Str} (h : x.length ≤ 8000) : x.length ≤ sizeLine := Nat.le_trans h (by decide)
theorem ne_one {a b : Addr} {zs : List Value} {t u : Tok} {j k : Nat} {Q : Value → Shared → Prop} (N : News h₀ L s.heap all) (ha : (a, listOf (zs ++ [Value.str (PySem.Str.ofString "") t]).toArray j) ∈ all) (hb : (b, listOf #[Value.str (PySem.Str.ofString "") u] k) ∈ all)
    (h1 : ((zs ++ [Value.str (PySem.Str.ofString "") t]).length : Int) = 1) (hu : A.units + 64 < cLine) (h : Q (.bool false) s) : wpAny (model prog w) A (compareOp .NotEq (.ref a) (.ref b)) Q E s := by
  have e : zs = [] := by
    cases zs with
    | nil => rfl
    | cons x r => simp at h1; omega
  subst e
  have r1 : Reads s.heap (.ref a) (.list [.str (PySem.Str.ofString "")]) _ := reads_list_at (News.get N ha) rfl rfl (ReadsAll.cons (Reads.str _ _) ReadsAll.nil)
  have r2 : Reads s.heap (.ref b) (.list [.str (PySem.Str.ofString "")]) _ := reads_list_at (News.get N hb) rfl rfl (ReadsAll.cons (Reads.str _ _) ReadsAll.nil)
  have e : (!PyData.eqv (.list [.str (PySem.Str.ofString "")]) (.list [.str (PySem.Str.ofString "")])) = false := by decide +kernel
  exact ne_dataH r1 r2 (by decide +kernel) (by decide +kernel) hu (by rw [e]; exact h)
theorem zs_len {zs : List Value} (hz : StrsAre zs (ts.map (piece word))) (H : LrH prog w news hA wA oH oW kH kW word ts) : zs.length ≤ 63 := by
  rw [strs_len hz, List.length_map]; exact H.st
theorem zs_len1 {zs : List Value} {v : Value} (hz : StrsAre zs (ts.map (piece word))) (H : LrH prog w news hA wA oH oW kH kW word ts) : (zs ++ [v]).length ≤ 1000 := by
  rw [List.length_append]; have := zs_len hz H; simp; omega
theorem LrH.mH' (H : LrH prog w news hA wA oH oW kH kW word ts) (hs : ∀ p ∈ news, p ∈ all) : (hA, oH) ∈ all := hs _ H.mH
theorem LrH.mW' (H : LrH prog w news hA wA oH oW kH kW word ts) (hs : ∀ p ∈ news, p ∈ all) : (wA, oW) ∈ all := hs _ H.mW
theorem lt_news (H : LrH prog w news hA wA oH oW kH kW word ts) (h : ∀ p ∈ all, p.1 < D) (hs : ∀ p ∈ news, p ∈ all) : ∀ p ∈ news, p.1 < D := fun p hp => h p (hs p hp)
end

section
def nm7 : List PySem.Str := [PySem.Str.ofString "a", PySem.Str.ofString "b", PySem.Str.ofString "ab", PySem.Str.ofString "_", PySem.Str.ofString "_a", PySem.Str.ofString "a1", PySem.Str.ofString "b_"]
def nm (j : Nat) : PySem.Str := nm7.getD j PySem.Str.empty
theorem nm_inj : ∀ i < 7, ∀ j < 7, nm i = nm j → i = j := by decide +kernel
theorem nm_tidy : ∀ j < 7, Tidy (nm j) := by unfold Tidy; decide +kernel
theorem nm_len : ∀ j < 7, (nm j).length ≤ 100 := by decide +kernel
def idx : Value → Nat
  | .int i _ => i.toNat
  | _ => 0
def JsOk (js : List Value) : Prop := ∀ v ∈ js, ∃ j t, v = .int j t ∧ 0 ≤ j ∧ j < 7
theorem JsOk.idx {js : List Value} (h : JsOk js) {v : Value} (hv : v ∈ js) : idx v < 7 := by
  obtain ⟨j, t, rfl, h0, h1⟩ := h v hv
  show j.toNat < 7
  omega
section
variable {prog : Program} {w : World} {A : Around} {E : Value → Shared → Prop} {s : Shared} {h₀ : Heap} {L D : Addr} {m : Str → Option Value} {news all : List (Addr × Obj)} {Q : Value → Shared → Prop}
theorem names_item {value slice : PySem.Expr} {t0 t1 t2 t3 t4 t5 t6 u : Tok} {k : Int} {ep : Nat}
    (N : News h₀ L s.heap news) (hm : (D, listOf #[Value.str (PySem.Str.ofString "a") t0, Value.str (PySem.Str.ofString "b") t1, Value.str (PySem.Str.ofString "ab") t2, Value.str (PySem.Str.ofString "_") t3, Value.str (PySem.Str.ofString "_a") t4, Value.str (PySem.Str.ofString "a1") t5, Value.str (PySem.Str.ofString "b_") t6] ep) ∈ news)
    (h0 : 0 ≤ k) (h1 : k < 7) (h : ∀ t, Q (.str (nm k.toNat) t) s)
    (hs : subscripted slice false (.ref D) (.int k u) = operate [.ref D, .int k u] (getItem (.ref D) (.int k u))) :
    wpAny (model prog w) A (subscriptTail value slice (.ref D) (.int k u)) Q E s := by
  have hl := News.isList N hm
  have e : k = 0 ∨ k = 1 ∨ k = 2 ∨ k = 3 ∨ k = 4 ∨ k = 5 ∨ k = 6 := by omega
  rcases e with rfl | rfl | rfl | rfl | rfl | rfl | rfl
  · exact tail_any hl.typeIs slot_list_getitem.lookup (wpAny_getItem_list hl (by decide) (by decide) rfl (h t0)) hs
  · exact tail_any hl.typeIs slot_list_getitem.lookup (wpAny_getItem_list hl (by decide) (by decide) rfl (h t1)) hs
  · exact tail_any hl.typeIs slot_list_getitem.lookup (wpAny_getItem_list hl (by decide) (by decide) rfl (h t2)) hs
  · exact tail_any hl.typeIs slot_list_getitem.lookup (wpAny_getItem_list hl (by decide) (by decide) rfl (h t3)) hs
  · exact tail_any hl.typeIs slot_list_getitem.lookup (wpAny_getItem_list hl (by decide) (by decide) rfl (h t4)) hs
  · exact tail_any hl.typeIs slot_list_getitem.lookup (wpAny_getItem_list hl (by decide) (by decide) rfl (h t5)) hs
  · exact tail_any hl.typeIs slot_list_getitem.lookup (wpAny_getItem_list hl (by decide) (by decide) rfl (h t6)) hs
end
/-- one list of the second table: its place, its items, its epoch -/
structure Ls where
  a : Addr
  vs : List Value
  k : Nat
def ledL (ls : List Ls) : List (Addr × Obj) := ls.map fun r => (r.a, listOf r.vs.toArray r.k)
def bag (own : List (Addr × Obj)) (ls : List Ls) : List (Addr × Obj) := own ++ ledL ls
theorem ledL_mem {ls : List Ls} {r : Ls} (h : r ∈ ls) : (r.a, listOf r.vs.toArray r.k) ∈ ledL ls := List.mem_map.mpr ⟨r, h, rfl⟩
theorem upd_app {D : Addr} {o o' : Obj} {l l' : List (Addr × Obj)} : ∀ {pre : List (Addr × Obj)}, (∀ p ∈ pre, p.1 ≠ D) → Upd D o o' l l' → Upd D o o' (pre ++ l) (pre ++ l')
  | [], _, U => U
  | p :: pre, h, U => Upd.tail (h p (.head _)) (upd_app (fun q hq => h q (.tail _ hq)) U)
theorem upd_ledL {vs' : List Value} {k' : Nat} : ∀ {rs : List Ls} {j : Nat} {r : Ls}, rs[j]? = some r → (rs.map (·.a)).Nodup →
    Upd r.a (listOf r.vs.toArray r.k) (listOf vs'.toArray k') (ledL rs) (ledL (rs.set j { r with vs := vs', k := k' }))
  | [], _, _, h, _ => by simp at h
  | q :: rs, 0, r, h, nd => by
    simp only [List.getElem?_cons_zero, Option.some.injEq] at h
    subst h
    rw [List.map_cons, List.nodup_cons] at nd
    refine Upd.head fun p hp e => ?_
    obtain ⟨r', hr', rfl⟩ := List.mem_map.mp hp
    exact nd.1 (List.mem_map.mpr ⟨r', hr', e⟩)
  | q :: rs, j + 1, r, h, nd => by
    have h' : rs[j]? = some r := by simpa using h
    rw [List.map_cons, List.nodup_cons] at nd
    exact Upd.tail (fun e => nd.1 (List.mem_map.mpr ⟨r, List.mem_of_getElem? h', e.symm⟩)) (upd_ledL h' nd.2)
/-- the state of the two building loops -/
structure St2 where
  oS : Obj
  oO : Obj
  kS : List (PySem.Str × Value)
  kO : List (PySem.Str × Value)
  ls : List Ls
structure Inv2 (prog : Program) (w : World) (sA oA : Addr) (fx own : List (Addr × Obj)) (n b : Nat) (c : St2) : Prop where
  dS : c.oS.IsDictOf (PySem.strKind prog w) c.kS
  dO : c.oO.IsDictOf (PySem.strKind prog w) c.kO
  lS : c.kS.length ≤ b
  lO : c.kO.length ≤ b
  hS : ∀ j < n, (valueAt c.kS (nm j)).isSome = true
  hO : ∀ j < n, ∃ r, c.ls[j]? = some r ∧ valueAt c.kO (nm j) = some (.ref r.a)
  ln : c.ls.length = n
  lv : ∀ r ∈ c.ls, r.vs.length ≤ b
  nd : (c.ls.map (·.a)).Nodup
  ap : ∀ r ∈ c.ls, sA ≠ r.a ∧ oA ≠ r.a ∧ ∀ p ∈ fx ++ own, p.1 ≠ r.a
  os : ∀ p ∈ own, p.1 ≠ sA
  oo : ∀ p ∈ own, p.1 ≠ oA
abbrev Led2 (sA oA : Addr) (fx own : List (Addr × Obj)) (c : St2) : List (Addr × Obj) := (oA, c.oO) :: (sA, c.oS) :: (fx ++ bag own c.ls)
section
variable {prog : Program} {w : World} {sA oA : Addr} {fx own : List (Addr × Obj)} {n b : Nat} {c : St2}
theorem Inv2.bS (h : Inv2 prog w sA oA fx own n b c) : ∀ p ∈ bag own c.ls, p.1 ≠ sA := fun p hp => by
  rcases List.mem_append.mp hp with hp | hp
  · exact h.os p hp
  · obtain ⟨r, hr, rfl⟩ := List.mem_map.mp hp
    exact (h.ap r hr).1.symm
theorem Inv2.bO (h : Inv2 prog w sA oA fx own n b c) : ∀ p ∈ bag own c.ls, p.1 ≠ oA := fun p hp => by
  rcases List.mem_append.mp hp with hp | hp
  · exact h.oo p hp
  · obtain ⟨r, hr, rfl⟩ := List.mem_map.mp hp
    exact (h.ap r hr).2.1.symm
theorem Inv2.start {oS oO : Obj} (dS : oS.IsDictOf (PySem.strKind prog w) []) (dO : oO.IsDictOf (PySem.strKind prog w) []) (os : ∀ p ∈ own, p.1 ≠ sA) (oo : ∀ p ∈ own, p.1 ≠ oA) : Inv2 prog w sA oA fx own 0 0 ⟨oS, oO, [], [], []⟩ where
  dS := dS
  dO := dO
  lS := Nat.le_refl _
  lO := Nat.le_refl _
  hS := fun j h => absurd h (Nat.not_lt_zero j)
  hO := fun j h => absurd h (Nat.not_lt_zero j)
  ln := rfl
  lv := fun _ h => nomatch h
  nd := .nil
  ap := fun _ h => nomatch h
  os := os
  oo := oo
theorem stored_some {k : List (PySem.Str × Value)} {x y : PySem.Str} {v : Value} (h : (valueAt k y).isSome = true) : (valueAt (stored k x v) y).isSome = true := by
  rw [valueAt_stored]
  split
  · rfl
  · exact h
/-- one name more -/
theorem Inv2.more {oS' oO' : Obj} {v : Value} {l : Addr} {j : Nat} (h : Inv2 prog w sA oA fx own j j c) (hj : j < 7) (dS : oS'.IsDictOf (PySem.strKind prog w) (stored c.kS (nm j) v)) (dO : oO'.IsDictOf (PySem.strKind prog w) (stored c.kO (nm j) (.ref l)))
    (n1 : @Ne Nat sA l) (n2 : @Ne Nat oA l) (n3 : ∀ p ∈ fx, p.1 ≠ l) (n4 : ∀ p ∈ bag own c.ls, p.1 ≠ l) :
    Inv2 prog w sA oA fx own (j + 1) (j + 1) ⟨oS', oO', stored c.kS (nm j) v, stored c.kO (nm j) (.ref l), c.ls ++ [⟨l, [], 0⟩]⟩ where
  dS := dS
  dO := dO
  lS := Nat.le_trans (stored_length_le _ _ _) (Nat.succ_le_succ h.lS)
  lO := Nat.le_trans (stored_length_le _ _ _) (Nat.succ_le_succ h.lO)
  hS := fun i hi => by
    show (valueAt (stored c.kS (nm j) v) (nm i)).isSome = true
    by_cases e : i = j
    · subst e; rw [valueAt_stored, if_pos rfl]; rfl
    · exact stored_some (h.hS i (by omega))
  hO := fun i hi => by
    show ∃ r, (c.ls ++ [(⟨l, [], 0⟩ : Ls)])[i]? = some r ∧ valueAt (stored c.kO (nm j) (.ref l)) (nm i) = some (.ref r.a)
    by_cases e : i = j
    · subst e
      refine ⟨⟨l, [], 0⟩, ?_, ?_⟩
      · rw [List.getElem?_append_right (by rw [h.ln]; exact Nat.le_refl _), h.ln, Nat.sub_self]; rfl
      · rw [valueAt_stored, if_pos rfl]
    · obtain ⟨r, hr, hv⟩ := h.hO i (by omega)
      refine ⟨r, ?_, ?_⟩
      · rw [List.getElem?_append_left (by rw [h.ln]; omega)]; exact hr
      · rw [valueAt_stored, if_neg fun e' => e (nm_inj i (by omega) j hj e'.symm)]; exact hv
  ln := by show (c.ls ++ [_]).length = j + 1; rw [List.length_append, h.ln]; rfl
  lv := fun r hr => by
    rcases List.mem_append.mp hr with hr | hr
    · exact Nat.le_succ_of_le (h.lv r hr)
    · rw [List.mem_singleton.mp hr]; exact Nat.zero_le _
  nd := by
    show ((c.ls ++ [(⟨l, [], 0⟩ : Ls)]).map (fun r : Ls => r.a)).Nodup
    rw [List.map_append, List.nodup_append]
    refine ⟨h.nd, by simp, ?_⟩
    intro a ha b hb
    obtain ⟨r, hr, rfl⟩ := List.mem_map.mp ha
    simp at hb; subst hb
    exact n4 (r.a, listOf r.vs.toArray r.k) (List.mem_append_right _ (ledL_mem hr))
  ap := fun r hr => by
    rcases List.mem_append.mp hr with hr | hr
    · exact h.ap r hr
    · rw [List.mem_singleton.mp hr]
      refine ⟨n1, n2, fun p hp => ?_⟩
      rcases List.mem_append.mp hp with hp | hp
      · exact n3 p hp
      · exact n4 p (List.mem_append_left _ hp)
  os := h.os
  oo := h.oo
/-- one number more -/
theorem Inv2.next {oS' : Obj} {v x : Value} {r : Ls} {i j : Nat} (h : Inv2 prog w sA oA fx own n b c) (hr : c.ls[j]? = some r) (dS : oS'.IsDictOf (PySem.strKind prog w) (stored c.kS (nm i) v)) :
    Inv2 prog w sA oA fx own n (b + 1) ⟨oS', c.oO, stored c.kS (nm i) v, c.kO, c.ls.set j { r with vs := r.vs ++ [x], k := r.k + 1 }⟩ := by
  have hm := List.mem_of_getElem? hr
  have hadr : (c.ls.set j { r with vs := r.vs ++ [x], k := r.k + 1 }).map (fun r : Ls => r.a) = c.ls.map (fun r : Ls => r.a) := by
    rw [List.map_set]
    refine List.ext_getElem? fun q => ?_
    rw [List.getElem?_set]
    split
    · rename_i e; subst e
      rw [List.getElem?_map, hr]
      split
      · rfl
      · rename_i hq; exact absurd (by simpa using (List.getElem?_eq_some_iff.mp hr).1) hq
    · rfl
  have hin : ∀ q ∈ c.ls.set j { r with vs := r.vs ++ [x], k := r.k + 1 }, ∃ q' ∈ c.ls, q.a = q'.a := fun q hq => by
    rcases List.mem_or_eq_of_mem_set hq with hq | rfl
    · exact ⟨q, hq, rfl⟩
    · exact ⟨r, hm, rfl⟩
  refine ⟨dS, h.dO, Nat.le_trans (stored_length_le _ _ _) (Nat.succ_le_succ h.lS), Nat.le_succ_of_le h.lO, fun q hq => stored_some (h.hS q hq), fun q hq => ?_, ?_, fun q hq => ?_, ?_, fun q hq => ?_, h.os, h.oo⟩
  · obtain ⟨r', hr', hv⟩ := h.hO q hq
    by_cases e : q = j
    · subst e
      rw [hr] at hr'; cases hr'
      refine ⟨{ r with vs := r.vs ++ [x], k := r.k + 1 }, ?_, hv⟩
      rw [List.getElem?_set, if_pos rfl, if_pos (List.getElem?_eq_some_iff.mp hr).1]
    · refine ⟨r', ?_, hv⟩
      rw [List.getElem?_set, if_neg fun e' => e e'.symm]; exact hr'
  · show (c.ls.set j _).length = n
    rw [List.length_set]; exact h.ln
  · rcases List.mem_or_eq_of_mem_set hq with hq | rfl
    · exact Nat.le_succ_of_le (h.lv q hq)
    · show (r.vs ++ [x]).length ≤ b + 1
      rw [List.length_append]; exact Nat.succ_le_succ (h.lv r hm)
  · show ((c.ls.set j _).map (fun r : Ls => r.a)).Nodup
    rw [hadr]; exact h.nd
  · obtain ⟨q', hq', e⟩ := hin q hq
    rw [e]; exact h.ap q' hq'
end
end

section
section
variable {prog : Program} {w : World} {A : Around} {E : Value → Shared → Prop} {s : Shared} {env : Env} {h₀ : Heap} {x : Str} {body : List Stmt} {Q : Flow → Shared → Prop}
/-- a for loop over a list of the caller's -/
theorem iter_baseS {σ : Type} {ax : Addr} {vs : List Value} {m₀ : Str → Option Value} (Led : σ → List (Addr × Obj)) (ps : σ → List (Str × Value)) (stored : List Str) (P : Nat → σ → Prop) (c₀ : σ)
    (hh : A.handled = none) (hb : h₀.IsList ax vs.toArray) (F : Fr h₀ env.locals s.heap m₀) (N : News h₀ env.locals s.heap (Led c₀))
    (hk : ∀ p ∈ ps c₀, m₀ p.1 = some p.2) (hp : P 0 c₀)
    (turn : ∀ (c : σ) i v (u : Str → Option Value) h tk I oI, vs.toArray[i]? = some v → P i c → (∀ p ∈ Led c, p.1 ≠ I) → Fr h₀ env.locals h (fun y => if y = x then some v else kstB (fun z => if stored.contains z then u z else m₀ z) (ps c) y) → News h₀ env.locals h ((I, oI) :: Led c) →
      wpAny (model prog w) A (execs body env) (TurnPost h₀ env.locals I oI (LoopSt x Led ps stored m₀ (P (i + 1))) { s with heap := h, toks := tk } Q) E { s with heap := h, toks := tk })
    (done : ∀ (c : σ) (u : Str → Option Value) h tk, P vs.length c → Fr h₀ env.locals h (fun y => if y = x then u y else kstB (fun z => if stored.contains z then u z else m₀ z) (ps c) y) → News h₀ env.locals h (Led c) → Q .next { s with heap := h, toks := tk }) :
    wpAny (model prog w) A (pyIter (.ref ax)) (fun it s₂ => LoopAtV prog w A h₀ env x body Q E it s₂) E s := by
  have hl : s.heap.IsList ax vs.toArray := hb.at fun o e => F.keep _ _ e
  obtain ⟨oax, hax, _⟩ := id hb
  have hax' := F.keep _ _ hax
  have hne : ax ≠ s.heap.objs.size := Nat.ne_of_lt (Heap.lt_size hax')
  refine wpAny_pyIter_list hl ?_
  refine loop_any (Src := []) (m₀ := m₀) (news := Led c₀) (fun i m nx => LoopSt x Led ps stored m₀ (P i) m nx) (Walks.list hh s.heap.objs.size ax hne vs.toArray) ?_ (next_is_new F) (fun p hp => Nat.ne_of_lt (Heap.lt_size (N p hp).1)) ?_ ?_ ⟨⟨_, Heap.get?_push_size _ rfl, rfl, rfl⟩, ?_⟩ (F.push _) (fun p hp => ⟨Heap.get?_push_of_some _ (N p hp).1, (N p hp).2⟩) ⟨c₀, rfl, hk, fun _ _ _ _ => rfl, hp⟩ (fun _ _ _ _ _ h => nomatch h) ?_ ?_
  · intro hmm
    rcases List.mem_cons.mp hmm with e | hmm
    · exact absurd F.ns.lt (e ▸ Nat.lt_irrefl _)
    · exact absurd (Heap.lt_size hax) (by
        have e := List.mem_singleton.mp hmm
        have := F.above
        rw [← e]; exact Nat.not_lt_of_le this)
  · intro i h st
    obtain ⟨o, e, hc, _⟩ := st.1
    exact ⟨o, e, .inl hc⟩
  · intro b hb'
    rcases List.mem_cons.mp hb' with e | hb'
    · exact .inl e
    · rw [List.mem_singleton.mp hb']; exact .inr (.inl (by rw [hax]; exact fun h => nomatch h))
  · exact hl.at fun o e => Heap.get?_push_of_some _ e
  · rintro i v m₁ nx h tk I oI hi hP ⟨c, rfl, h1, h2, hp'⟩ off F₁ N₁
    exact turn c i v m₁ h tk I oI hP hp' off (kst_fr h1 h2 F₁) N₁
  · rintro m₁ nx h tk ⟨c, rfl, h1, h2, hp'⟩ F₁ N₁
    rw [List.size_toArray] at hp'
    exact done c m₁ h tk hp' (kst_frOut h1 h2 F₁) N₁
end

section
variable {prog : Program} {w : World} {A : Around} {E : Value → Shared → Prop} {s : Shared} {env : Env} {h₀ : Heap} {body : List Stmt} {Q : Flow → Shared → Prop} {sA oA : Addr} {fx own : List (Addr × Obj)} {m₀ : Str → Option Value}
theorem off2 {c : St2} {I : Addr} (off : ∀ p ∈ Led2 sA oA fx own c, p.1 ≠ I) : @Ne Nat I sA ∧ @Ne Nat I oA ∧ OffIt I (fx ++ own) ∧ ∀ r ∈ c.ls, @Ne Nat I r.a := by
  refine ⟨fun e => off (sA, c.oS) (.tail _ (.head _)) e.symm, fun e => off (oA, c.oO) (.head _) e.symm, .of fun p hp => off p (.tail _ (.tail _ ?_)), fun r hr e => off (r.a, listOf r.vs.toArray r.k) (.tail _ (.tail _ ?_)) e.symm⟩
  · rcases List.mem_append.mp hp with hp | hp
    · exact List.mem_append_left _ hp
    · exact List.mem_append_right _ (List.mem_append_left _ hp)
  · exact List.mem_append_right _ (List.mem_append_right _ (ledL_mem hr))
/-- for name in names -/
theorem loop_nm {nA : Addr} {ep : Nat} {t0 t1 t2 t3 t4 t5 t6 : Tok} {oS oO : Obj}
    (hh : A.handled = none) (F : Fr h₀ env.locals s.heap m₀) (N : News h₀ env.locals s.heap ((oA, oO) :: (sA, oS) :: (fx ++ own)))
    (hm : (nA, listOf #[Value.str (PySem.Str.ofString "a") t0, Value.str (PySem.Str.ofString "b") t1, Value.str (PySem.Str.ofString "ab") t2, Value.str (PySem.Str.ofString "_") t3, Value.str (PySem.Str.ofString "_a") t4, Value.str (PySem.Str.ofString "a1") t5, Value.str (PySem.Str.ofString "b_") t6] ep) ∈ fx)
    (dS : oS.IsDictOf (PySem.strKind prog w) []) (dO : oO.IsDictOf (PySem.strKind prog w) []) (os : ∀ p ∈ own, p.1 ≠ sA) (oo : ∀ p ∈ own, p.1 ≠ oA)
    (turn : ∀ (c : St2) (j : Nat) tk (u : Str → Option Value) h tkk I oI, j < 7 → Inv2 prog w sA oA fx own j j c → @Ne Nat I sA → @Ne Nat I oA → OffIt I (fx ++ own) → (∀ r ∈ c.ls, @Ne Nat I r.a) → (∀ p ∈ bag own c.ls, p.1 ≠ sA) → (∀ p ∈ bag own c.ls, p.1 ≠ oA) →
      Fr h₀ env.locals h (fun y => if y = PySem.Str.ofString "name" then some (.str (nm j) tk) else kstB (fun z => if ([] : List Str).contains z then u z else m₀ z) [] y) → News h₀ env.locals h ((I, oI) :: (oA, c.oO) :: (sA, c.oS) :: (fx ++ bag own c.ls)) →
      wpAny (model prog w) A (execs body env) (TurnPost h₀ env.locals I oI (LoopSt (PySem.Str.ofString "name") (Led2 sA oA fx own) (fun _ => []) [] m₀ (Inv2 prog w sA oA fx own (j + 1) (j + 1))) { s with heap := h, toks := tkk } Q) E { s with heap := h, toks := tkk })
    (done : ∀ (c : St2) (u : Str → Option Value) h tk, Inv2 prog w sA oA fx own 7 7 c → (∀ p ∈ bag own c.ls, p.1 ≠ sA) → (∀ p ∈ bag own c.ls, p.1 ≠ oA) → Fr h₀ env.locals h (fun y => if y = PySem.Str.ofString "name" then u y else kstB (fun z => if ([] : List Str).contains z then u z else m₀ z) [] y) → News h₀ env.locals h ((oA, c.oO) :: (sA, c.oS) :: (fx ++ bag own c.ls)) → Q .next { s with heap := h, toks := tk }) :
    wpAny (model prog w) A (pyIter (.ref nA)) (fun it s₂ => LoopAtV prog w A h₀ env (PySem.Str.ofString "name") body Q E it s₂) E s := by
  refine iter_listS (ep := ep) (vs := [Value.str (PySem.Str.ofString "a") t0, Value.str (PySem.Str.ofString "b") t1, Value.str (PySem.Str.ofString "ab") t2, Value.str (PySem.Str.ofString "_") t3, Value.str (PySem.Str.ofString "_a") t4, Value.str (PySem.Str.ofString "a1") t5, Value.str (PySem.Str.ofString "b_") t6]) (Led2 sA oA fx own) (fun _ => []) [] (fun i c => Inv2 prog w sA oA fx own i i c) ⟨oS, oO, [], [], []⟩ hh F (fun p hp => N p ?_) (fun c => .tail _ (.tail _ (List.mem_append_left _ hm))) (fun _ h => nomatch h) (Inv2.start dS dO os oo) ?_ ?_
  · simpa [Led2, bag, ledL] using hp
  · rintro c i v u h tk I oI hv hp off F₁ N₁
    obtain ⟨a1, a2, a3, a4⟩ := off2 off
    have hi : i < 7 := by
      have := (Array.getElem?_eq_some_iff.mp hv).1
      simpa using this
    have hv' : ∃ t, v = .str (nm i) t := by
      have e : i = 0 ∨ i = 1 ∨ i = 2 ∨ i = 3 ∨ i = 4 ∨ i = 5 ∨ i = 6 := by omega
      rcases e with rfl | rfl | rfl | rfl | rfl | rfl | rfl <;> exact ⟨_, (Option.some.inj hv).symm⟩
    obtain ⟨t, rfl⟩ := hv'
    exact turn c i t u h tk I oI hi hp a1 a2 a3 a4 hp.bS hp.bO F₁ N₁
  · rintro c u h tk hp F₁ N₁
    exact done c u h tk hp (Inv2.bS hp) (Inv2.bO hp) F₁ N₁
/-- for x in script -/
theorem loop_x {xA : Addr} {vs : List Value} {ns : List Int} {c₀ : St2}
    (hh : A.handled = none) (hb : h₀.IsList xA vs.toArray) (hi : IntsAre vs ns) (F : Fr h₀ env.locals s.heap m₀) (N : News h₀ env.locals s.heap ((oA, c₀.oO) :: (sA, c₀.oS) :: (fx ++ bag own c₀.ls))) (hl : vs.length ≤ 63)
    (H : Inv2 prog w sA oA fx own 7 7 c₀)
    (turn : ∀ (c : St2) (b : Nat) n tk (u : Str → Option Value) h tkk I oI, b ≤ 70 → Inv2 prog w sA oA fx own 7 b c → @Ne Nat I sA → @Ne Nat I oA → OffIt I (fx ++ own) → (∀ r ∈ c.ls, @Ne Nat I r.a) → (∀ p ∈ bag own c.ls, p.1 ≠ sA) → (∀ p ∈ bag own c.ls, p.1 ≠ oA) →
      Fr h₀ env.locals h (fun y => if y = PySem.Str.ofString "x" then some (.int n tk) else kstB (fun z => if ([] : List Str).contains z then u z else m₀ z) [] y) → News h₀ env.locals h ((I, oI) :: (oA, c.oO) :: (sA, c.oS) :: (fx ++ bag own c.ls)) →
      wpAny (model prog w) A (execs body env) (TurnPost h₀ env.locals I oI (LoopSt (PySem.Str.ofString "x") (Led2 sA oA fx own) (fun _ => []) [] m₀ (Inv2 prog w sA oA fx own 7 (b + 1))) { s with heap := h, toks := tkk } Q) E { s with heap := h, toks := tkk })
    (done : ∀ (c : St2) (b : Nat) (u : Str → Option Value) h tk, Inv2 prog w sA oA fx own 7 b c → (∀ p ∈ bag own c.ls, p.1 ≠ sA) → (∀ p ∈ bag own c.ls, p.1 ≠ oA) → Fr h₀ env.locals h (fun y => if y = PySem.Str.ofString "x" then u y else kstB (fun z => if ([] : List Str).contains z then u z else m₀ z) [] y) → News h₀ env.locals h ((oA, c.oO) :: (sA, c.oS) :: (fx ++ bag own c.ls)) → Q .next { s with heap := h, toks := tk }) :
    wpAny (model prog w) A (pyIter (.ref xA)) (fun it s₂ => LoopAtV prog w A h₀ env (PySem.Str.ofString "x") body Q E it s₂) E s := by
  refine iter_baseS (vs := vs) (Led2 sA oA fx own) (fun _ => []) [] (fun i c => Inv2 prog w sA oA fx own 7 (7 + i) c) c₀ hh hb F N (fun _ h => nomatch h) H ?_ ?_
  · rintro c i v u h tk I oI hv hp off F₁ N₁
    obtain ⟨a1, a2, a3, a4⟩ := off2 off
    have hv2 : vs[i]? = some v := by simpa using hv
    have hi' : i < vs.length := (List.getElem?_eq_some_iff.mp hv2).1
    have hn : ∃ n t, v = .int n t := by
      have hlen := hi.length
      obtain ⟨t, ht⟩ := hi.get i (ns[i]'(by omega)) (by simp)
      exact ⟨_, t, (Option.some.inj (hv2.symm.trans ht))⟩
    obtain ⟨n, t, rfl⟩ := hn
    exact turn c (7 + i) n t u h tk I oI (by omega) hp a1 a2 a3 a4 hp.bS hp.bO F₁ N₁
  · rintro c u h tk hp F₁ N₁
    exact done c _ u h tk hp (Inv2.bS hp) (Inv2.bO hp) F₁ N₁
end
section
variable {prog : Program} {w : World} {A : Around} {E : Value → Shared → Prop} {s : Shared} {h₀ : Heap} {L : Addr} {m m' m₀ : Str → Option Value} {sA oA I : Addr} {oI : Obj} {fx own all : List (Addr × Obj)} {n b : Nat} {c : St2}
/-- the end of a turn -/
theorem end2 {x : Str} {h' : Heap} {s₁ : Shared} {tk : Nat} (c' : St2) (F : Fr h₀ L h' m') (N : News h₀ L h' all) (hI : (I, oI) ∈ all) (mO : (oA, c'.oO) ∈ all) (mS : (sA, c'.oS) ∈ all) (mf : ∀ p ∈ fx, p ∈ all) (mb : ∀ p ∈ bag own c'.ls, p ∈ all)
    (nS : @Ne Nat I sA) (nO : @Ne Nat I oA) (no : OffIt I (fx ++ own)) (hr : ∀ z, z ≠ x → m' z = m₀ z) (hi : Inv2 prog w sA oA fx own n b c') :
    TurnEnd h₀ L I oI (LoopSt x (Led2 sA oA fx own) (fun _ => []) [] m₀ (Inv2 prog w sA oA fx own n b)) s₁ { s₁ with heap := h', toks := tk } := by
  refine TurnEnd.intro c' F N hI ?_ ?_ (fun _ h => nomatch h) (fun z h1 _ _ => hr z h1) hi
  · intro p hp
    rcases List.mem_cons.mp hp with rfl | hp
    · exact mO
    rcases List.mem_cons.mp hp with rfl | hp
    · exact mS
    rcases List.mem_append.mp hp with hp | hp
    · exact mf p hp
    · exact mb p hp
  · intro p hp
    rcases List.mem_cons.mp hp with rfl | hp
    · exact .inl fun e => nO e.symm
    rcases List.mem_cons.mp hp with rfl | hp
    · exact .inl fun e => nS e.symm
    rcases List.mem_append.mp hp with hp | hp
    · exact no p (List.mem_append_left _ hp)
    rcases List.mem_append.mp hp with hp | hp
    · exact no p (List.mem_append_right _ hp)
    · obtain ⟨r, hr, rfl⟩ := List.mem_map.mp hp
      exact .inr ⟨by simp, by simp, by simp⟩
theorem bag_more {ls : List Ls} {l : Addr} (mb : ∀ p ∈ bag own ls, p ∈ all) (ml : (l, listOf (List.toArray []) 0) ∈ all) : ∀ p ∈ bag own (ls ++ [⟨l, [], 0⟩]), p ∈ all := fun p hp => by
  rcases List.mem_append.mp hp with hp | hp
  · exact mb p (List.mem_append_left _ hp)
  unfold ledL at hp
  rw [List.map_append] at hp
  rcases List.mem_append.mp hp with hp | hp
  · exact mb p (List.mem_append_right _ hp)
  · rw [List.mem_singleton.mp hp]; exact ml
/-- a list of the second table grows -/
theorem app2 {x : Value} {oS' : Obj} {r : Ls} {j : Nat} {Q : Value → Shared → Prop} (hi : Inv2 prog w sA oA fx own n b c) (hr : c.ls[j]? = some r) (hI9 : ∀ r ∈ c.ls, @Ne Nat I r.a) (F : Fr h₀ L s.heap m) (N : News h₀ L s.heap all) (mI : (I, oI) ∈ all) (mO : (oA, c.oO) ∈ all) (mS : (sA, oS') ∈ all)
    (mf : ∀ p ∈ fx, p ∈ all) (mb : ∀ p ∈ bag own c.ls, p ∈ all) (hz : b ≤ 70)
    (h : ∀ h', Fr h₀ L h' m → News h₀ L h' ((I, oI) :: (oA, c.oO) :: (sA, oS') :: (fx ++ bag own (c.ls.set j { r with vs := r.vs ++ [x], k := r.k + 1 }))) → Q .none { s with heap := h' }) :
    wpAny (model prog w) A (call (.builtin "list.append") [.ref r.a, x]) Q E s := by
  have hm := List.mem_of_getElem? hr
  have a := hi.ap r hm
  have N' : News h₀ L s.heap ((I, oI) :: (oA, c.oO) :: (sA, oS') :: (fx ++ bag own c.ls)) := fun p hp => by
    rcases List.mem_cons.mp hp with rfl | hp
    · exact N _ mI
    rcases List.mem_cons.mp hp with rfl | hp
    · exact N _ mO
    rcases List.mem_cons.mp hp with rfl | hp
    · exact N _ mS
    rcases List.mem_append.mp hp with hp | hp
    · exact N _ (mf p hp)
    · exact N _ (mb p hp)
  refine append_L (vs := r.vs) (n := r.k) F N' (Upd.tail (hI9 r hm) (Upd.tail a.2.1 (Upd.tail a.1 ?_))) (by have := hi.lv r hm; rw [PySem.sizeLine_eq]; omega) h
  refine upd_app (fun p hp => a.2.2 p (List.mem_append_left _ hp)) (upd_app (fun p hp => a.2.2 p (List.mem_append_right _ hp)) (upd_ledL hr hi.nd))
/-- the second table's list under a name -/
theorem other_item {value slice : PySem.Expr} {j : Nat} {u : Tok} {Q : Value → Shared → Prop} (hi : Inv2 prog w sA oA fx own n b c) (hj : j < n) (N : News h₀ L s.heap all) (mO : (oA, c.oO) ∈ all)
    (h : ∀ r tk, c.ls[j]? = some r → (r.a, listOf r.vs.toArray r.k) ∈ bag own c.ls → Q (.ref r.a) { s with toks := tk })
    (hs : subscripted slice false (.ref oA) (.str (nm j) u) = operate [.ref oA, .str (nm j) u] (getItem (.ref oA) (.str (nm j) u))) :
    wpAny (model prog w) A (subscriptTail value slice (.ref oA) (.str (nm j) u)) Q E s := by
  obtain ⟨r, hr, hv⟩ := hi.hO j hj
  refine kdt_tail (knd := PySem.strKind _ _) N mO hi.dO ?_ hs
  exact kdt_getItem (knd := PySem.strKind _ _) N mO hi.dO (strKind_is _ _ _ _) hv (h r _ hr (List.mem_append_right _ (ledL_mem (List.mem_of_getElem? hr))))
theorem Inv2.zS (hi : Inv2 prog w sA oA fx own n b c) (hb : b ≤ 70) : c.kS.length ≤ sizeLine := by
  have := hi.lS; rw [PySem.sizeLine_eq]; omega
theorem Inv2.zO (hi : Inv2 prog w sA oA fx own n b c) (hb : b ≤ 70) : c.kO.length ≤ sizeLine := by
  have := hi.lO; rw [PySem.sizeLine_eq]; omega
end
theorem fmod7 (k : Int) : (Int.fmod k 7).toNat < 7 := by
  have h0 := fmod_lo k (n := 7) (by decide)
  have h1 := fmod_hi k (n := 7) (by decide)
  omega
theorem here_self {t1 t2 : Tok} {a b : Addr} : valueAt (strPairs [(Value.str (PySem.Str.ofString "self") t1, Value.ref a), (Value.str (PySem.Str.ofString "other") t2, Value.ref b)]) (PySem.Str.ofString "self") = some (.ref a) := by rfl
theorem here_other {t1 t2 : Tok} {a b : Addr} : valueAt (strPairs [(Value.str (PySem.Str.ofString "self") t1, Value.ref a), (Value.str (PySem.Str.ofString "other") t2, Value.ref b)]) (PySem.Str.ofString "other") = some (.ref b) := by rfl
theorem base_int {vs : List Value} {ns : List Int} {i : Nat} {v : Value} (hi : IntsAre vs ns) (hv : vs.toArray[i]? = some v) : ∃ n t, v = .int n t := by
  have hv2 : vs[i]? = some v := by simpa using hv
  have hi' : i < vs.length := (List.getElem?_eq_some_iff.mp hv2).1
  have hlen := hi.length
  obtain ⟨t, ht⟩ := hi.get i (ns[i]'(by omega)) (by simp)
  exact ⟨_, t, (Option.some.inj (hv2.symm.trans ht))⟩
theorem JsOk.snoc {js : List Value} {v : Value} (h : JsOk js) (hv : ∃ j t, v = .int j t ∧ 0 ≤ j ∧ j < 7) : JsOk (js ++ [v]) := fun x hx => by
  rcases List.mem_append.mp hx with h1 | h1
  · exact h x h1
  · rw [List.mem_singleton.mp h1]; exact hv
theorem JsOk.nil : JsOk [] := fun _ h => nomatch h
theorem JsOk.rev {js : List Value} (h : JsOk js) : JsOk js.reverse := fun v hv => h v (List.mem_reverse.mp hv)
theorem JsOk.take1 {js : List Value} (h : JsOk js) : JsOk (js.take 1) := fun v hv => h v (List.mem_of_mem_take hv)
theorem JsOk.drop1 {js : List Value} (h : JsOk js) : JsOk (js.drop 1) := fun v hv => h v (List.mem_of_mem_drop hv)
theorem pick_take1 (l : List Value) : kms_pick l none (some 1) = l.take 1 := by
  unfold kms_pick kms_lo kms_hi
  cases l with
  | nil => rfl
  | cons a r =>
    have : ((r.length : Int) + 1 ≥ 1) := by omega
    simp
section
variable {prog : Program} {w : World} {A : Around} {E : Value → Shared → Prop} {s : Shared} {env : Env} {h₀ : Heap} {body : List Stmt} {Q : Flow → Shared → Prop} {pre post : List (Addr × Obj)} {m₀ : Str → Option Value} {wc : Addr} {ow : Obj}
abbrev LedP (wc : Addr) (pre post : List (Addr × Obj)) (o : Obj) : List (Addr × Obj) := pre ++ (wc, o) :: post
/-- for part in (..) -/
theorem loop_parts {tA : Addr} {ep : Nat} {vs : List Value} {x₀ : Option Value}
    (hh : A.handled = none) (F : Fr h₀ env.locals s.heap m₀) (N : News h₀ env.locals s.heap (pre ++ (wc, ow) :: post)) (hm : (tA, ({ cls := .type "tuple", data := .seq vs.toArray ep } : Obj)) ∈ pre) (hw : ow.data = .cell x₀)
    (hvs : ∀ v ∈ vs, ∃ p js k, v = .ref p ∧ (p, listOf js.toArray k) ∈ pre ∧ JsOk js ∧ js.length ≤ 63)
    (turn : ∀ p js k ow x (u : Str → Option Value) h tk I oI, (p, listOf js.toArray k) ∈ pre → JsOk js → js.length ≤ 63 → ow.data = .cell x → OffIt I (pre ++ post) → @Ne Nat I wc →
      Fr h₀ env.locals h (fun y => if y = PySem.Str.ofString "part" then some (.ref p) else kstB (fun z => if [PySem.Str.ofString "due"].contains z then u z else m₀ z) [] y) → News h₀ env.locals h ((I, oI) :: (pre ++ (wc, ow) :: post)) →
      wpAny (model prog w) A (execs body env) (TurnPost h₀ env.locals I oI (LoopSt (PySem.Str.ofString "part") (LedP wc pre post) (fun _ => []) [PySem.Str.ofString "due"] m₀ (fun o => ∃ x, o.data = .cell x)) { s with heap := h, toks := tk } Q) E { s with heap := h, toks := tk })
    (done : ∀ (ow : Obj) (u : Str → Option Value) h tk, Fr h₀ env.locals h (fun y => if y = PySem.Str.ofString "part" then u y else kstB (fun z => if [PySem.Str.ofString "due"].contains z then u z else m₀ z) [] y) → News h₀ env.locals h (pre ++ (wc, ow) :: post) → Q .next { s with heap := h, toks := tk }) :
    wpAny (model prog w) A (pyIter (.ref tA)) (fun it s₂ => LoopAtV prog w A h₀ env (PySem.Str.ofString "part") body Q E it s₂) E s := by
  refine iter_tupS (ep := ep) (vs := vs) (LedP wc pre post) (fun _ => []) [PySem.Str.ofString "due"] (fun _ o => ∃ x, o.data = .cell x) ow hh F N (fun _ => List.mem_append_left _ hm) (fun _ h => nomatch h) ⟨_, hw⟩ ?_ ?_
  · rintro o i v u h tk I oI hv ⟨x, hx⟩ off F₁ N₁
    obtain ⟨p, js, k, rfl, h1, h2, h3⟩ := hvs v (List.mem_of_getElem? (by simpa using hv))
    refine turn p js k o x u h tk I oI h1 h2 h3 hx (.of fun q hq => off q ?_) (fun e => off (wc, o) (List.mem_append_right _ (.head _)) e.symm) F₁ N₁
    rcases List.mem_append.mp hq with hq | hq
    · exact List.mem_append_left _ hq
    · exact List.mem_append_right _ (.tail _ hq)
  · rintro o u h tk _ F₁ N₁
    exact done o u h tk F₁ N₁
theorem parts_end {L I : Addr} {oI : Obj} {all : List (Addr × Obj)} {m' : Str → Option Value} {h' : Heap} {s₁ : Shared} {tk : Nat} {x : Option Value} (F : Fr h₀ L h' m') (N : News h₀ L h' all) (hI : (I, oI) ∈ all) (mp : ∀ p ∈ pre, p ∈ all) (mw : (wc, ow) ∈ all) (mq : ∀ p ∈ post, p ∈ all)
    (no : OffIt I (pre ++ post)) (nw : @Ne Nat I wc) (hw : ow.data = .cell x) (hr : ∀ z, z ≠ PySem.Str.ofString "part" → z ≠ PySem.Str.ofString "due" → m' z = m₀ z) :
    TurnEnd h₀ L I oI (LoopSt (PySem.Str.ofString "part") (LedP wc pre post) (fun _ => []) [PySem.Str.ofString "due"] m₀ (fun o => ∃ x, o.data = .cell x)) s₁ { s₁ with heap := h', toks := tk } := by
  refine TurnEnd.intro ow F N hI ?_ ?_ (fun _ h => nomatch h) (fun z h1 _ h3 => hr z h1 (fun e => by subst e; simp at h3)) ⟨x, hw⟩
  · intro p hp
    rcases List.mem_append.mp hp with hp | hp
    · exact mp p hp
    rcases List.mem_cons.mp hp with rfl | hp
    · exact mw
    · exact mq p hp
  · intro p hp
    rcases List.mem_append.mp hp with hp | hp
    · exact no p (List.mem_append_left _ hp)
    rcases List.mem_cons.mp hp with rfl | hp
    · exact .inl fun e => nw e.symm
    · exact no p (List.mem_append_right _ hp)
end
end

section
section
variable {prog : Program} {w : World} {A : Around} {E : Value → Shared → Prop} {s : Shared} {env : Env} {h₀ : Heap} {target : Expr} {body : List Stmt} {Q : Flow → Shared → Prop} {pre post : List (Addr × Obj)} {m₀ : Str → Option Value} {wc tA : Addr} {ow : Obj} {tup : Obj}
def W2End (h₀ : Heap) (L I : Addr) (oI : Obj) (wc tA : Addr) (tup : Obj) (pre post : List (Addr × Obj)) (m₀ : Str → Option Value) (s₁ s₂ : Shared) : Prop :=
  ∃ h' tk m' all ow x, s₂ = { s₁ with heap := h', toks := tk } ∧ Fr h₀ L h' m' ∧ News h₀ L h' all ∧ (I, oI) ∈ all ∧ (wc, ow) ∈ all ∧ (tA, tup) ∈ all ∧ (∀ p ∈ pre, p ∈ all) ∧ (∀ p ∈ post, p ∈ all) ∧ ow.data = .cell x ∧ ∀ z, z ≠ PySem.Str.ofString "due" → m' z = m₀ z
def W2Post (h₀ : Heap) (L I : Addr) (oI : Obj) (wc tA : Addr) (tup : Obj) (pre post : List (Addr × Obj)) (m₀ : Str → Option Value) (s₁ : Shared) (Q : Flow → Shared → Prop) (f : Flow) (s₂ : Shared) : Prop :=
  match f with
  | .ret v => Q (.ret v) s₂
  | .brk => Q .next s₂
  | _ => W2End h₀ L I oI wc tA tup pre post m₀ s₁ s₂
theorem W2End.intro {L I : Addr} {oI : Obj} {s₁ : Shared} {h' : Heap} {tk : Nat} {m' : Str → Option Value} {all : List (Addr × Obj)} {x : Option Value}
    (F : Fr h₀ L h' m') (N : News h₀ L h' all) (hI : (I, oI) ∈ all) (hw : (wc, ow) ∈ all) (ht : (tA, tup) ∈ all) (h1 : ∀ p ∈ pre, p ∈ all) (h2 : ∀ p ∈ post, p ∈ all) (hd : ow.data = .cell x) (hr : ∀ z, z ≠ PySem.Str.ofString "due" → m' z = m₀ z) :
    W2End h₀ L I oI wc tA tup pre post m₀ s₁ { s₁ with heap := h', toks := tk } := ⟨h', tk, m', all, ow, x, rfl, F, N, hI, hw, ht, h1, h2, hd, hr⟩
theorem due_fr {L : Addr} {h : Heap} {m : Str → Option Value} (F : Fr h₀ L h m) (hm : ∀ z, z ≠ PySem.Str.ofString "due" → m z = m₀ z) : Fr h₀ L h (fun y => if y = PySem.Str.ofString "due" then m (PySem.Str.ofString "due") else m₀ y) := by
  have e : m = fun y => if y = PySem.Str.ofString "due" then m (PySem.Str.ofString "due") else m₀ y := by
    funext y
    by_cases h : y = PySem.Str.ofString "due"
    · rw [if_pos h, h]
    · rw [if_neg h, hm y h]
  rw [← e]; exact F
/-- for word in ('self', 'other'): the name is a cell -/
theorem loop_w2 {vs : List Value} {n : Nat} {x₀ : Option Value} (hh : A.handled = none) (F : Fr h₀ env.locals s.heap m₀) (N : News h₀ env.locals s.heap ((tA, tup) :: (pre ++ (wc, ow) :: post))) (hc : tup.cls = .type "tuple") (hd : tup.data = .seq vs.toArray n) (hw : ow.data = .cell x₀)
    (hvs : ∀ v ∈ vs, ∃ t, v = .str (PySem.Str.ofString "self") t ∨ v = .str (PySem.Str.ofString "other") t)
    (turn : ∀ v t (ow : Obj) x u h tk I oI, (v = .str (PySem.Str.ofString "self") t ∨ v = .str (PySem.Str.ofString "other") t) → ow.data = .cell x → oI.cls = .type "tuple_iterator" → (∀ p ∈ (tA, tup) :: (pre ++ (wc, ow) :: post), p.1 < I) →
      Fr h₀ env.locals h (fun y => if y = PySem.Str.ofString "due" then u else m₀ y) → News h₀ env.locals h ((I, oI) :: (tA, tup) :: (pre ++ (wc, ow) :: post)) →
      wpAny (model prog w) A (assign target env v) (fun _ s₂ => wpAny (model prog w) A (execs body env) (W2Post h₀ env.locals I oI wc tA tup pre post m₀ { s with heap := h, toks := tk } Q) E s₂) E { s with heap := h, toks := tk })
    (done : ∀ (ow : Obj) x u h tk, ow.data = .cell x → Fr h₀ env.locals h (fun y => if y = PySem.Str.ofString "due" then u else m₀ y) → News h₀ env.locals h ((tA, tup) :: (pre ++ (wc, ow) :: post)) → Q .next { s with heap := h, toks := tk }) :
    wpAny (model prog w) A (pyIter (.ref tA)) (fun it s₂ => TurnsAt prog w A h₀ env target body Q E it s₂) E s := by
  refine iter_tupTurns (lo := tup) (vs := vs) hh F N (.head _) hc hd fun I hI => ?_
  have key : ∀ (r : List Value) (m : Str → Option Value) (ow' : Obj) (x : Option Value), (∀ v ∈ r, v ∈ vs) → (∀ z, z ≠ PySem.Str.ofString "due" → m z = m₀ z) → ow'.data = .cell x →
      ItemsRest prog w A E h₀ env target body Q s [(I, "tuple_iterator")] [(tA, tup)] (r.map .val) m ((tA, tup) :: (pre ++ (wc, ow') :: post)) := by
    intro r
    induction r with
    | nil =>
      intro m ow' x _ hm hx
      exact ItemsRest.zero fun h tk F' N' => done ow' x _ h tk hx (due_fr F' hm) N'
    | cons v r ih =>
      intro m ow' x hr hm hx
      refine ItemsRest.val (fun h tk F' => AllObj.cons fun o hc' => AllObj.nil fun N' => ?_)
      obtain ⟨t, ht⟩ := hvs v (hr v (.head _))
      have hlt : ∀ p ∈ (tA, tup) :: (pre ++ (wc, ow') :: post), p.1 < I := fun p hp => by
        rcases List.mem_cons.mp hp with rfl | hp
        · exact hI (tA, tup) (.head _)
        rcases List.mem_append.mp hp with hp | hp
        · exact hI p (.tail _ (List.mem_append_left _ hp))
        rcases List.mem_cons.mp hp with rfl | hp
        · exact hI (wc, ow) (.tail _ (List.mem_append_right _ (.head _)))
        · exact hI p (.tail _ (List.mem_append_right _ (.tail _ hp)))
      refine wpAny_mono (turn v t ow' x _ h tk I o ht hx hc' hlt (due_fr F' hm) N') (fun _ s₂ h₂ => wpAny_mono h₂ (fun f s₃ p => ?_) fun _ _ e => e) fun _ _ e => e
      have fin : W2End h₀ env.locals I o wc tA tup pre post m₀ { s with heap := h, toks := tk } s₃ → UnrEndW h₀ env.locals { s with heap := h, toks := tk } [(I, o)] (fun m' n' => SubL [(tA, tup)] n' ∧ ItemsRest prog w A E h₀ env target body Q s [(I, "tuple_iterator")] [(tA, tup)] (r.map .val) m' n') s₃ := by
        rintro ⟨h', tk', m', all, ow2, x2, e, F2, N2, q1, q2, q3, q4, q5, q6, q7⟩
        refine ⟨h', tk', m', (tA, tup) :: (pre ++ (wc, ow2) :: post), e, F2, fun p hp => ?_, fun p hp q hq => ?_, ⟨.head _, trivial⟩, ih m' ow2 x2 (fun v hv => hr v (.tail _ hv)) q7 q6⟩
        · rcases List.mem_cons.mp hp with rfl | hp
          · exact N2 _ q1
          rcases List.mem_cons.mp hp with rfl | hp
          · exact N2 _ q3
          rcases List.mem_append.mp hp with hp | hp
          · exact N2 _ (q4 p hp)
          rcases List.mem_cons.mp hp with rfl | hp
          · exact N2 _ q2
          · exact N2 _ (q5 p hp)
        · rw [List.mem_singleton.mp hq]
          refine Nat.ne_of_lt ?_
          show p.1 < I
          rcases List.mem_cons.mp hp with rfl | hp
          · exact hI (tA, tup) (.head _)
          rcases List.mem_append.mp hp with hp | hp
          · exact hI p (.tail _ (List.mem_append_left _ hp))
          rcases List.mem_cons.mp hp with rfl | hp
          · exact hI (wc, ow) (.tail _ (List.mem_append_right _ (.head _)))
          · exact hI p (.tail _ (List.mem_append_right _ (.tail _ hp)))
      cases f with
      | ret v => exact p
      | brk => exact p
      | next => exact fin p
      | cont => exact fin p
  exact key vs m₀ ow x₀ (fun _ h => h) (fun _ _ => rfl) hw
end
/-- the worths' table under a word -/
def kOf (c : St2) (word : PySem.Str) : List (PySem.Str × Value) := if word = PySem.Str.ofString "self" then c.kS else c.kO
theorem kOf_self {c : St2} : kOf c (PySem.Str.ofString "self") = c.kS := if_pos rfl
theorem kOf_other {c : St2} : kOf c (PySem.Str.ofString "other") = c.kO := if_neg (by decide +kernel)
def dueOf (c : St2) (word : PySem.Str) (v : Value) : Value := worth (kOf c word) (nm (idx v))
theorem bag_off {prog : Program} {w : World} {sA oA a : Addr} {o : Obj} {fx own : List (Addr × Obj)} {n b : Nat} {c : St2} (h : Inv2 prog w sA oA fx own n b c) (hm : (a, o) ∈ fx) (ho : ∀ p ∈ own, p.1 ≠ a) : ∀ p ∈ bag own c.ls, p.1 ≠ a := fun p hp => by
  rcases List.mem_append.mp hp with hp | hp
  · exact ho p hp
  · obtain ⟨r, hr, rfl⟩ := List.mem_map.mp hp
    exact fun e => (h.ap r hr).2.2 (a, o) (List.mem_append_left _ hm) e.symm
section
variable {prog : Program} {w : World} {A : Around} {E : Value → Shared → Prop} {s : Shared} {h₀ : Heap} {L D : Addr} {m : Str → Option Value} {news all : List (Addr × Obj)} {Q : Value → Shared → Prop} {sA oA : Addr} {fx own : List (Addr × Obj)} {n b : Nat} {c : St2}
/-- a comprehension over ints below 7, by a function -/
theorem comp_map {env : Env} {elt : Expr} {x : Str} {scope : Scope} {cl : List (Str × Addr)}
    {S : List (Addr × Obj) → Prop} {Fin : List Value → List (Addr × Obj) → Prop} {js : List Value} (f : Value → Value) (hj : JsOk js)
    (turn : ∀ j t I oI C oC D m₂ ys h tk (E' : Value → Shared → Prop), 0 ≤ j → j < 7 → LCg.NsObj oC m₂ → m₂ x = some (.int j t) → Fr h₀ L h m →
      News h₀ L h ((I, oI) :: (C, oC) :: (D, LCg.lst ys) :: news) → LCg.Off3 I C D news → ((@Ne Nat I C) ∧ (@Ne Nat I D) ∧ (@Ne Nat C D)) →
      wpAny (model prog w) A (eval elt (compEnvC scope cl C env)) (LCg.CompEnd h₀ L m { s with heap := h, toks := tk } I oI C oC D (LCg.lst ys) S (ElK news fun y => y = f (.int j t))) E' { s with heap := h, toks := tk })
    (fin : Fin (js.map f) news) : LCg.CompRest prog w A h₀ L m env elt x scope cl s S (fun i v => js.toArray[i]? = some v) Fin js.toArray.size 0 [] news := by
  refine comp_keep (fun i ys => ys = (js.take i).map f) rfl (fun i v I oI C oC D m₂ ys h tk E' hi hv hr hC hx F N off ne => ?_) (fun ys hr => ?_)
  · have hv' : js[i]? = some v := by simpa using hv
    obtain ⟨j, t, rfl, h0, h1⟩ := hj v (List.mem_of_getElem? hv')
    refine wpAny_mono (turn j t I oI C oC D m₂ ys h tk E' h0 h1 hC hx F N off ne) (fun y s₂ hq => ?_) fun _ _ e => e
    obtain ⟨h', tk', nw, e, F', N', off', hS, hnw, hy⟩ := hq
    refine ⟨h', tk', nw, e, F', N', off', hS, hnw, ?_⟩
    show ys ++ [y] = (js.take (i + 1)).map f
    have hr' : ys = (js.take i).map f := hr
    rw [List.take_add_one, hv', hr', hy, List.map_append]; rfl
  · have hr' : ys = (js.take js.toArray.size).map f := hr
    rw [List.size_toArray, List.take_length] at hr'
    subst hr'; exact fin
/-- here[word][names[j]] -/
theorem due_item {value slice : PySem.Expr} {j : Int} {u : Tok} (hi : Inv2 prog w sA oA fx own 7 b c) (h0 : 0 ≤ j) (h1 : j < 7) (N : News h₀ L s.heap all) (mS : (sA, c.oS) ∈ all)
    (h : ∀ tk, Q (worth (kOf c (PySem.Str.ofString "self")) (nm j.toNat)) { s with toks := tk })
    (hs : subscripted slice false (.ref sA) (.str (nm j.toNat) u) = operate [.ref sA, .str (nm j.toNat) u] (getItem (.ref sA) (.str (nm j.toNat) u))) :
    wpAny (model prog w) A (subscriptTail value slice (.ref sA) (.str (nm j.toNat) u)) Q E s := by
  refine kdt_tail (knd := PySem.strKind _ _) N mS hi.dS ?_ hs
  refine kdt_getItem (knd := PySem.strKind _ _) N mS hi.dS (strKind_is _ _ _ _) (worth_at (hi.hS j.toNat (by omega))) ?_
  have := h (s.toks + 1)
  rw [kOf_self] at this
  exact this
theorem due_item2 {value slice : PySem.Expr} {j : Int} {u : Tok} (hi : Inv2 prog w sA oA fx own 7 b c) (h0 : 0 ≤ j) (h1 : j < 7) (N : News h₀ L s.heap all) (mO : (oA, c.oO) ∈ all)
    (h : ∀ tk, Q (worth (kOf c (PySem.Str.ofString "other")) (nm j.toNat)) { s with toks := tk })
    (hs : subscripted slice false (.ref oA) (.str (nm j.toNat) u) = operate [.ref oA, .str (nm j.toNat) u] (getItem (.ref oA) (.str (nm j.toNat) u))) :
    wpAny (model prog w) A (subscriptTail value slice (.ref oA) (.str (nm j.toNat) u)) Q E s := by
  obtain ⟨r, hr, hv⟩ := hi.hO j.toNat (by omega)
  refine kdt_tail (knd := PySem.strKind _ _) N mO hi.dO ?_ hs
  refine kdt_getItem (knd := PySem.strKind _ _) N mO hi.dO (strKind_is _ _ _ _) (worth_at (by rw [hv]; rfl)) ?_
  have := h (s.toks + 1)
  rw [kOf_other] at this
  exact this
/-- pool[j] -/
theorem pool_item {value slice : PySem.Expr} {K pA : Addr} {ys vs : List Value} {ep : Nat} {j : Int} {u : Tok} (hf : FieldsAt K own ys vs) (hl : vs.length = 7) (h0 : 0 ≤ j) (h1 : j < 7) (N : News h₀ L s.heap all) (mP : (pA, listOf ys.toArray ep) ∈ all)
    (h : Q (ys.getD j.toNat .none) s)
    (hs : subscripted slice false (.ref pA) (.int j u) = operate [.ref pA, .int j u] (getItem (.ref pA) (.int j u))) :
    wpAny (model prog w) A (subscriptTail value slice (.ref pA) (.int j u)) Q E s := by
  have hyl : ys.length = 7 := by rw [hf.length, hl]
  have hL := News.isList N mP
  refine tail_any hL.typeIs slot_list_getitem.lookup (wpAny_getItem_list hL h0 (by omega) (x := ys.getD j.toNat .none) ?_ h) hs
  show ys.toArray[j.toNat]? = some (ys.getD j.toNat .none)
  rw [List.getD_eq_getElem?_getD]
  have : j.toNat < ys.length := by omega
  simp [this]
end
theorem pool_fields {K : Addr} {own all : List (Addr × Obj)} {ys vs : List Value} (hf : FieldsAt K own ys vs) (hl : vs.length = 7) (hs : ∀ p ∈ own, p ∈ all) : ∀ {js : List Value}, JsOk js → FieldsAt K all (js.map fun v => ys.getD (idx v) .none) (js.map fun v => vs.getD (idx v) .none)
  | [], _ => .nil
  | v :: js, hj => by
    have hi := hj.idx (.head _)
    refine .cons ?_ (pool_fields hf hl hs fun x hx => hj x (.tail _ hx))
    have hyl : idx v < ys.length := by rw [hf.length, hl]; exact hi
    have e : ys[idx v]? = some (ys.getD (idx v) .none) := by rw [List.getD_eq_getElem?_getD]; simp [hyl]
    obtain ⟨x, hx, hf'⟩ := hf.get e
    have e2 : vs.getD (idx v) .none = x := by rw [List.getD_eq_getElem?_getD, hx]; rfl
    show FieldIs K all (ys.getD (idx v) .none) (vs.getD (idx v) .none)
    rw [e2]
    exact hf'.mono hs
section
variable {t0 t1 t2 t3 t4 t5 t6 : Tok}
abbrev vs7 (t0 t1 t2 t3 t4 t5 t6 : Tok) : List Value := [Value.str (PySem.Str.ofString "a") t0, Value.str (PySem.Str.ofString "b") t1, Value.str (PySem.Str.ofString "ab") t2, Value.str (PySem.Str.ofString "_") t3, Value.str (PySem.Str.ofString "_a") t4, Value.str (PySem.Str.ofString "a1") t5, Value.str (PySem.Str.ofString "b_") t6]
theorem vs7_at (i : Nat) (hi : i < 7) : ∃ t, (vs7 t0 t1 t2 t3 t4 t5 t6).getD i .none = .str (nm i) t := by
  have e : i = 0 ∨ i = 1 ∨ i = 2 ∨ i = 3 ∨ i = 4 ∨ i = 5 ∨ i = 6 := by omega
  rcases e with rfl | rfl | rfl | rfl | rfl | rfl | rfl <;> exact ⟨_, rfl⟩
theorem pool_names {js : List Value} (hj : JsOk js) : (js.map fun v => (vs7 t0 t1 t2 t3 t4 t5 t6).getD (idx v) .none).map nmTxt = js.map fun v => nm (idx v) := by
  rw [List.map_map]
  refine List.map_congr_left fun v hv => ?_
  obtain ⟨t, ht⟩ := vs7_at (t0 := t0) (t1 := t1) (t2 := t2) (t3 := t3) (t4 := t4) (t5 := t5) (t6 := t6) (idx v) (hj.idx hv)
  show nmTxt ((vs7 t0 t1 t2 t3 t4 t5 t6).getD (idx v) .none) = _
  rw [ht]; rfl
theorem pool_nms {js : List Value} (hj : JsOk js) : NmsOk (js.map fun v => (vs7 t0 t1 t2 t3 t4 t5 t6).getD (idx v) .none) := fun x hx => by
  obtain ⟨v, hv, rfl⟩ := List.mem_map.mp hx
  obtain ⟨t, ht⟩ := vs7_at (t0 := t0) (t1 := t1) (t2 := t2) (t3 := t3) (t4 := t4) (t5 := t5) (t6 := t6) (idx v) (hj.idx hv)
  rw [ht]
  exact nm_str t (nm_len _ (hj.idx hv))
end
section
variable {prog : Program} {w : World} {sA oA hA : Addr} {oH : Obj} {fx own all : List (Addr × Obj)} {b : Nat} {c : St2} {js : List Value} {t1 t2 : Tok}
theorem lrh_self (hi : Inv2 prog w sA oA fx own 7 b c) (hj : JsOk js) (hl : js.length ≤ 63) (mH : (hA, oH) ∈ all) (dH : oH.IsDictOf (PySem.strKind prog w) (strPairs [(Value.str (PySem.Str.ofString "self") t1, Value.ref sA), (Value.str (PySem.Str.ofString "other") t2, Value.ref oA)]))
    (lH : (hA == sysModules) = false) (mS : (sA, c.oS) ∈ all) (lS : (sA == sysModules) = false) :
    LrH prog w all hA sA oH c.oS (strPairs [(Value.str (PySem.Str.ofString "self") t1, Value.ref sA), (Value.str (PySem.Str.ofString "other") t2, Value.ref oA)]) c.kS (PySem.Str.ofString "self") (js.map fun v => nm (idx v)) where
  mH := mH
  dH := dH
  lH := lH
  vH := here_self
  mW := mS
  dW := hi.dS
  lW := lS
  tw := by unfold Tidy; decide +kernel
  sw := by decide +kernel
  tt := fun t ht => by
    obtain ⟨v, hv, rfl⟩ := List.mem_map.mp ht
    exact ⟨nm_tidy _ (hj.idx hv), nm_len _ (hj.idx hv), hi.hS _ (hj.idx hv)⟩
  st := by rw [List.length_map]; exact hl
theorem lrh_other (hi : Inv2 prog w sA oA fx own 7 b c) (hj : JsOk js) (hl : js.length ≤ 63) (mH : (hA, oH) ∈ all) (dH : oH.IsDictOf (PySem.strKind prog w) (strPairs [(Value.str (PySem.Str.ofString "self") t1, Value.ref sA), (Value.str (PySem.Str.ofString "other") t2, Value.ref oA)]))
    (lH : (hA == sysModules) = false) (mO : (oA, c.oO) ∈ all) (lO : (oA == sysModules) = false) :
    LrH prog w all hA oA oH c.oO (strPairs [(Value.str (PySem.Str.ofString "self") t1, Value.ref sA), (Value.str (PySem.Str.ofString "other") t2, Value.ref oA)]) c.kO (PySem.Str.ofString "other") (js.map fun v => nm (idx v)) where
  mH := mH
  dH := dH
  lH := lH
  vH := here_other
  mW := mO
  dW := hi.dO
  lW := lO
  tw := by unfold Tidy; decide +kernel
  sw := by decide +kernel
  tt := fun t ht => by
    obtain ⟨v, hv, rfl⟩ := List.mem_map.mp ht
    obtain ⟨r, _, e⟩ := hi.hO _ (hj.idx hv)
    exact ⟨nm_tidy _ (hj.idx hv), nm_len _ (hj.idx hv), by rw [e]; rfl⟩
  st := by rw [List.length_map]; exact hl
theorem due_self : (js.map fun v => nm (idx v)).map (worth c.kS) = js.map (dueOf c (PySem.Str.ofString "self")) := by
  rw [List.map_map]
  refine List.map_congr_left fun v _ => ?_
  unfold dueOf; rw [kOf_self]; rfl
theorem due_other : (js.map fun v => nm (idx v)).map (worth c.kO) = js.map (dueOf c (PySem.Str.ofString "other")) := by
  rw [List.map_map]
  refine List.map_congr_left fun v _ => ?_
  unfold dueOf; rw [kOf_other]; rfl
end
theorem ne_tup2 {prog : Program} {w : World} {A : Around} {E : Value → Shared → Prop} {s : Shared} {h₀ : Heap} {L a b : Addr} {news : List (Addr × Obj)} {ys zs : List Value} {k j : Nat} {Q : Value → Shared → Prop}
    (N : News h₀ L s.heap news) (ha : (a, ({ cls := .type "tuple", data := .seq ys.toArray k } : Obj)) ∈ news) (hb : (b, ({ cls := .type "tuple", data := .seq zs.toArray j } : Obj)) ∈ news) (e : ys = zs) (hu : A.units < cLine)
    (h : Q (.bool false) s) : wpAny (model prog w) A (compareOp .NotEq (.ref a) (.ref b)) Q E s := by
  subst e; exact ne_tup N ha hb hu h
theorem mem_sub {x : Addr × Obj} {l all : List (Addr × Obj)} (h : x ∈ l) (hs : ∀ p ∈ l, p ∈ all) : x ∈ all := hs x h
theorem own_sub {prog : Program} {w : World} {sA oA : Addr} {fx own all : List (Addr × Obj)} {n b : Nat} {c : St2} (hi : Inv2 prog w sA oA fx own n b c) (h : ∀ p ∈ bag own c.ls, p ∈ all) : ∀ p ∈ own, p ∈ all := fun p hp => h p (List.mem_append_left _ hp)
section
variable {prog : Program} {w : World} {A : Around} {s : Shared} {h₀ : Heap} {L D : Addr} {m : Str → Option Value} {news own : List (Addr × Obj)} {sA oA : Addr} {fx : List (Addr × Obj)} {n b : Nat} {c : St2}
theorem comp_due {env : Env} {elt : Expr} {x : Str} {scope : Scope} {cl : List (Str × Addr)}
    {S : List (Addr × Obj) → Prop} {Fin : List Value → List (Addr × Obj) → Prop} {js : List Value} {o : Obj} {word : PySem.Str} {tw : Tok} (hi : Inv2 prog w sA oA fx own n b c) (hd : o.data = .cell (some (.str word tw))) (hj : JsOk js)
    (turn : ∀ j t I oI C oC D m₂ ys h tk (E' : Value → Shared → Prop), 0 ≤ j → j < 7 → LCg.NsObj oC m₂ → m₂ x = some (.int j t) → Fr h₀ L h m →
      News h₀ L h ((I, oI) :: (C, oC) :: (D, LCg.lst ys) :: news) → LCg.Off3 I C D news → ((@Ne Nat I C) ∧ (@Ne Nat I D) ∧ (@Ne Nat C D)) →
      wpAny (model prog w) A (eval elt (compEnvC scope cl C env)) (LCg.CompEnd h₀ L m { s with heap := h, toks := tk } I oI C oC D (LCg.lst ys) S (ElK news fun y => y = dueOf c word (.int j t))) E' { s with heap := h, toks := tk })
    (fin : Fin (js.map (dueOf c word)) news) : LCg.CompRest prog w A h₀ L m env elt x scope cl s S (fun i v => js.toArray[i]? = some v) Fin js.toArray.size 0 [] news := comp_map (dueOf c word) hj turn fin
theorem comp_pool {env : Env} {elt : Expr} {x : Str} {scope : Scope} {cl : List (Str × Addr)}
    {S : List (Addr × Obj) → Prop} {Fin : List Value → List (Addr × Obj) → Prop} {js yl vs : List Value} {K : Addr} (hf : FieldsAt K own yl vs) (hj : JsOk js)
    (turn : ∀ j t I oI C oC D m₂ ys h tk (E' : Value → Shared → Prop), 0 ≤ j → j < 7 → LCg.NsObj oC m₂ → m₂ x = some (.int j t) → Fr h₀ L h m →
      News h₀ L h ((I, oI) :: (C, oC) :: (D, LCg.lst ys) :: news) → LCg.Off3 I C D news → ((@Ne Nat I C) ∧ (@Ne Nat I D) ∧ (@Ne Nat C D)) →
      wpAny (model prog w) A (eval elt (compEnvC scope cl C env)) (LCg.CompEnd h₀ L m { s with heap := h, toks := tk } I oI C oC D (LCg.lst ys) S (ElK news fun y => y = yl.getD (idx (.int j t)) .none)) E' { s with heap := h, toks := tk })
    (fin : Fin (js.map fun v => yl.getD (idx v) .none) news) : LCg.CompRest prog w A h₀ L m env elt x scope cl s S (fun i v => js.toArray[i]? = some v) Fin js.toArray.size 0 [] news := comp_map (fun v => yl.getD (idx v) .none) hj turn fin
end
theorem Inv2.nextN {prog : Program} {w : World} {sA oA I L : Addr} {oI oo : Obj} {h₀ h' : Heap} {fx own : List (Addr × Obj)} {n b : Nat} {c : St2} {oS' : Obj} {v x : Value} {r : Ls} {i j : Nat} (h : Inv2 prog w sA oA fx own n b c) (hr : c.ls[j]? = some r) (dS : oS'.IsDictOf (PySem.strKind prog w) (stored c.kS (nm i) v))
    (_N : News h₀ L h' ((I, oI) :: (oA, oo) :: (sA, oS') :: (fx ++ bag own (c.ls.set j { r with vs := r.vs ++ [x], k := r.k + 1 })))) :
    Inv2 prog w sA oA fx own n (b + 1) ⟨oS', c.oO, stored c.kS (nm i) v, c.kO, c.ls.set j { r with vs := r.vs ++ [x], k := r.k + 1 }⟩ := h.next hr dS
end

section
set_option maxRecDepth 100000 in
set_option maxHeartbeats 8000000 in
open_top hd for PySem.Challenge.rw_io0052_02
end

section
local macro_rules | `(tactic| k_mem) => `(tactic| first | exact List.Mem.head _ | assumption | (refine List.Mem.tail _ ?_; k_mem))

local macro_rules | `(tactic| walk_at "truthy ref") => `(tactic| (k_here; k_dflt (first | refine truthy_seq0 (by k_asm) (by k_mem) (by assumption) ?_ | refine truthy_seq1 (by k_asm) (by k_mem) (by assumption) (by omega) ?_)))
local macro_rules | `(tactic| walk_at "eval ListComp") => `(tactic| (k_here; k_dflt (refine ListComp_seq (by rfl) (by k_asm) (by assumption) (fun Q' hQ' => by (first | (refine' nameX_L ?F ?v ?_ ?a ?b; (case F => k_asm); (case a => rfl); (case b => rfl); (case v => rfl); assumption))) (by k_asm) (by k_mem) (by (rw [PySem.sizeLine_eq]; omega)) (by with_unfolding_all rfl) (by decide) (by rfl) (by decide) (by rfl) (fun g' S' hS' => ?_))))

local macro_rules | `(tactic| walk_at "CompRest") => `(tactic| (k_here; k_dflt ((refine' comp_ts (by assumption) (by assumption) (by assumption) (fun v' a' d' hs' t' I' oI' C' oC' D' m' zs' h' tk' E' m1' m2' hn' hC' hx' F' N' off' ne' => ?_) (fun zs' hz' => ?_)); (all_goals (try (rcases hn' with ⟨s', t', hv', hs'⟩ | ⟨i', t', hv', h0', h1'⟩ | hv' <;> subst hv'))); kcf_last)))
local macro_rules | `(tactic| walk_at "CompEnd") => `(tactic| (k_here; k_dflt ((refine ElK.done (by assumption) (by assumption) (by kcf_all) (by assumption) (SIn.use (by assumption) (by k_mem)) (piece_end ?_)); exact piece_is)))
local macro_rules | `(tactic| walk_at "call builtin:str.join") => `(tactic| (k_here; k_dflt (refine join_ts (by assumption) (by k_asm) (by k_mem) (by assumption) (by assumption) (by assumption) ?_); intro _ _ hjl'))

set_option maxRecDepth 100000 in
set_option maxHeartbeats 8000000 in
theorem ts_call {w : World} {mean : ExcName → Option Value} {mg mb : Str → Option Value} {cn : Str} {cs : Scope} {L a : Addr} {ccd : Value} {cl : List (Str × Addr)} {base h₀ : Heap} {m : Str → Option Value} {news : List (Addr × Obj)} {s : Shared} {Q E : Value → Shared → Prop}
    {word : Str} {tw : Tok} {ax : Addr} {oax : Obj} {ys vs : List Value}
    (B : Below callerA base [] h₀) (F : Fr h₀ L s.heap m) (X : (hd.heap_39 w.params).In h₀) (N : News h₀ L s.heap news) (T : Top hd.view_39 (looseW hd.view_39 []) mean mg mb h₀) (hk : cs.kind = .function)
    (hm : (ax, oax) ∈ news) (hq : SeqObj oax ys) (hf : FieldsAt 38 news ys vs) (hn : NmsOk vs) (hl : vs.length ≤ 63) (hw : word.length ≤ 16)
    (hret : CbRet h₀ L m news s Q fun t => .str (tstr word (vs.map nmTxt)) t) :
    wpAny (model Challenge.rw_io0052_02.row.prog w) (callerA.deeper (envX cn cs L a ccd cl)) (call (.ref 47) [.str word tw, .ref ax]) Q E s := by
  have hyl := hf.length
  cases ys
  all_goals w_strict (
    revert X; k_fill; intro X
    refine wpAny_call ?_
    k_dflt (refine' code_defC ?k1 ?k2 ?k3 ?k4 ?k5 ?kA ?kF ?kK ?k6 ?k7 ?k8 ?k9 ?kB ?kD ?_ ?c2 ?c3 ?c4; (case kA => exact rfl); (case kF => exact rfl); (case kK => assumption); (case k1 => k_asm); (case k2 => k_asm); (case k3 => k_asm); (case k4 => k_asm); (case k5 => k_asm); (case k6 => k_is); (case k7 => k_is); (case k8 => k_room); (case k9 => exact BindsTo.of_eq rfl); (case kB => exact rfl); (case kD => decide +kernel); (case c2 => exact rfl); (case c3 => exact rfl); (case c4 => exact rfl); k_whole; intro g' L' h' tk' cells' FG' F' N' Y' B' X' T' l1; k_cells Y'; (try simp only [List.cons_append, List.nil_append] at N'); (try dsimp only); (try k_lift B'); (try k_fold))
    k_steps
    all_goals (refine cb_retS hret ?_ (by k_asm) (by first | k_asm | (refine cb_drop (by assumption) ?_; kcf_all)))
    all_goals (simp only [List.length_nil, List.length_cons] at hyl)
    all_goals (first | exact tstr_nil (by omega) | exact tstr_cons (by omega)))
theorem ts_call2 {w : World} {mean : ExcName → Option Value} {mg mb : Str → Option Value} {cn : Str} {cs : Scope} {L a : Addr} {ccd : Value} {cl : List (Str × Addr)} {base h₀ : Heap} {m : Str → Option Value} {news : List (Addr × Obj)} {s : Shared} {Q E : Value → Shared → Prop}
    {word : Str} {tw : Tok} {ax : Addr} {oax : Obj} {ys vs : List Value} {ts : List PySem.Str}
    (B : Below callerA base [] h₀) (F : Fr h₀ L s.heap m) (X : (hd.heap_39 w.params).In h₀) (N : News h₀ L s.heap news) (T : Top hd.view_39 (looseW hd.view_39 []) mean mg mb h₀) (hk : cs.kind = .function)
    (hm : (ax, oax) ∈ news) (hq : SeqObj oax ys) (hf : FieldsAt 38 news ys vs) (hn : NmsOk vs) (hl : vs.length ≤ 63) (hw : word.length ≤ 16) (e : vs.map nmTxt = ts)
    (hret : CbRet h₀ L m news s Q fun t => .str (tstr word ts) t) :
    wpAny (model Challenge.rw_io0052_02.row.prog w) (callerA.deeper (envX cn cs L a ccd cl)) (call (.ref 47) [.str word tw, .ref ax]) Q E s := by
  subst e
  exact ts_call B F X N T hk hm hq hf hn hl hw hret
end

section
local macro_rules | `(tactic| k_mem) => `(tactic| first | exact List.Mem.head _ | assumption | (refine List.Mem.tail _ ?_; k_mem))
local macro_rules | `(tactic| k_all) => `(tactic| assumption)
local macro_rules | `(tactic| walk_at "compareOp NotEq str str") => `(tactic| (k_here; k_dflt (refine ne_same (by first | exact tstr_first | exact tstr_last) ?_)))
local macro_rules | `(tactic| walk_at "compareOp Eq str str") => `(tactic| (k_here; k_dflt (refine eq_same (by rfl) ?_)))
local macro_rules | `(tactic| walk_at "exec For") => `(tactic| (k_here; (rename Fr _ _ _ _ => lF'); (with_unfolding_all refine' For_invVF lF' ?k1 ?k2 ?_; (case k1 => exact rfl); (case k2 => exact rfl); k_whole)))
local macro_rules | `(tactic| walk_at "call builtin:str.split") => `(tactic| (k_here; k_dflt (refine split_ps (by k_asm) (by k_asm) (LrH.tw (by assumption)) (LrH.tidy (by assumption)) (LrH.inner (by assumption)) ?_); intro D' zs' t' h' k' hz' F' N' l1; (try k_lt l1)))
local macro_rules | `(tactic| walk_at "call builtin:str.split") => `(tactic| (k_here; (try dsimp only [List.cons_append, List.nil_append]); (with_reducible show wpAny _ _ (call _ [Value.str (piece _ _) _, _]) _ _ _); k_dflt (refine split_dot (by k_asm) (by k_asm) (LrH.tw (by assumption)) (by assumption) (by assumption) ?_); intro D' t1' t2' h' k' F' N' l1; (try k_lt l1)))
local macro_rules | `(tactic| walk_at "call builtin:len") => `(tactic| (k_here; (try dsimp only [List.cons_append, List.nil_append]); (with_reducible show wpAny _ _ (call (Value.builtin "len") [Value.ref _]) _ _ _); k_dflt (refine len_L (by k_asm) (by k_mem) (zs_len1 (by assumption) (by assumption)) ?_)))
local macro_rules | `(tactic| walk_at "compareOp NotEq ref ref") => `(tactic| (k_here; k_dflt (refine ne_one (by k_asm) (by k_mem) (by k_mem) (by assumption) (by ke_room) ?_)))
local macro_rules | `(tactic| walk_at "subscriptTail Name UnaryOp ref int") => `(tactic| (k_here; k_dflt (refine item_last (by k_asm) (by k_mem) (by have := zs_len (by assumption) (by assumption); omega) ?_ (by with_unfolding_all rfl))))
local macro_rules | `(tactic| walk_at "subscriptTail Name Slice ref ref") => `(tactic| (k_here; k_dflt (refine' kms_slice_lit ?F ?N ?l ?p ?q ?e ?_ ?s ?t ?z; (case F => k_asm); (case N => k_asm); (case l => exact News.isList (by k_asm) (by k_mem)); (case p => kmk_part); (case q => kmk_part); (case e => exact pick_init); (case s => with_unfolding_all rfl); (case t => kmk_pure); (case z => (rw [PySem.sizeLine_eq, List.size_toArray, List.length_append]; have := zs_len (by assumption) (by assumption); simp; omega))); intro D' h' F' N' l1; (try k_lt l1); (try k_sweep)))
local macro_rules | `(tactic| walk_at "pyIter ref") => `(tactic| (k_here; k_dflt ((refine loop_lr (by assumption) (by rfl) (by k_asm) (by k_asm) (by k_mem) (by k_mem) (by kcf_all) (by assumption) (by omega) (by k_all) (fun t' xs' k' tk' u' h' tkk' I' oI' ht' htd' hpl' hvt' hxl' off' neI' neA' nnr' F' N' => ?_) (fun k' u' h' tk' F' N' => ?_)); kcf_last)))
local macro_rules | `(tactic| walk_at "TurnPost") => `(tactic| (dsimp only [TurnPost]))
local macro_rules | `(tactic| walk_at "TurnEnd") => `(tactic| (k_here; k_dflt (refine lr_end (by assumption) (by assumption) (by k_mem) (by k_mem) (by k_mem) (by kcf_all) (by assumption) (by intro z h1 h2; simp [h1, h2, kstB]))))
local macro_rules | `(tactic| walk_at "compareOp NotIn str ref") => `(tactic| (k_here; k_dflt (first
  | refine kdg_notin (knd := PySem.strKind _ _) (by k_asm) (LrH.mH' (by assumption) (by kcf_all)) (LrH.dH (by assumption)) (LrH.lH (by assumption)) (strKind_is _ _ _ _) true (LrH.hasW (by assumption)) ?_
  | refine kdg_notin (knd := PySem.strKind _ _) (by k_asm) (LrH.mW' (by assumption) (by kcf_all)) (LrH.dW (by assumption)) (LrH.lW (by assumption)) (strKind_is _ _ _ _) true (by assumption) ?_); (try dsimp only [Bool.not_true, Bool.not_false])))
local macro_rules | `(tactic| walk_at "subscriptTail") => `(tactic| (k_here; (with_reducible show wpAny _ _ (subscriptTail _ _ (Value.ref _) (Value.str _ _)) _ _ _); k_dflt (first
  | refine kda_item (knd := PySem.strKind _ _) (by k_asm) (LrH.mH' (by assumption) (by kcf_all)) (LrH.dH (by assumption)) (strKind_is _ _ _ _) (LrH.vH (by assumption)) ?_
  | (refine kdt_tail (knd := PySem.strKind _ _) (by k_asm) (LrH.mW' (by assumption) (by kcf_all)) (LrH.dW (by assumption)) ?_ (by with_unfolding_all rfl); refine kdt_getItem (knd := PySem.strKind _ _) (by k_asm) (LrH.mW' (by assumption) (by kcf_all)) (LrH.dW (by assumption)) (strKind_is _ _ _ _) (worth_at (by assumption)) ?_))))
local macro_rules | `(tactic| walk_at "call builtin:list.append") => `(tactic| (k_here; (try dsimp only [List.cons_append, List.nil_append]); (with_reducible show wpAny _ _ (call (Value.builtin _) [Value.ref _, _]) _ _ _); k_dflt (refine' append_L ?k1 ?k2 ?k3 ?k4 ?_; (case k1 => k_asm); (case k2 => k_asm); (case k3 => k_upd); (case k4 => (rw [PySem.sizeLine_eq]; omega)); k_whole); intro h' F' N'; (try k_sweep)))
local macro_rules | `(tactic| walk_at "call type:tuple") => `(tactic| (k_here; k_dflt (refine' kde_tupleOf ?k1 ?k2 ?k3 ?k4 ?k5 ?_; (case k1 => k_asm); (case k2 => k_asm); (case k3 => exact News.isList (by k_asm) (by k_mem)); (case k5 => rfl); (case k4 => (rw [List.size_toArray, List.length_map]; omega))); intro D' h' F' N' l1; (try k_lt l1); (try k_sweep)))
set_option maxRecDepth 100000 in
set_option maxHeartbeats 8000000 in
theorem lr_call {w : World} {mean : ExcName → Option Value} {mg mb : Str → Option Value} {cn : Str} {cs : Scope} {L a : Addr} {ccd : Value} {cl : List (Str × Addr)} {base h₀ : Heap} {m : Str → Option Value} {news : List (Addr × Obj)} {s : Shared} {Q E : Value → Shared → Prop}
    {tt : Tok} {hA wA : Addr} {oH oW : Obj} {kH kW : List (PySem.Str × Value)} {word : PySem.Str} {ts : List PySem.Str}
    (B : Below callerA base [] h₀) (F : Fr h₀ L s.heap m) (X : (hd.heap_39 w.params).In h₀) (N : News h₀ L s.heap news) (T : Top hd.view_39 (looseW hd.view_39 []) mean mg mb h₀) (hk : cs.kind = .function)
    (H : LrH Challenge.rw_io0052_02.row.prog w news hA wA oH oW kH kW word ts)
    (hret : ∀ D k h' tk', Fr h₀ L h' m → News h₀ L h' ((D, ({ cls := .type "tuple", data := .seq (ts.map (worth kW)).toArray k } : Obj)) :: news) → Q (.ref D) { s with heap := h', toks := tk' }) :
    wpAny (model Challenge.rw_io0052_02.row.prog w) (callerA.deeper (envX cn cs L a ccd cl)) (call (.ref 54) [.str (tstr word ts) tt, .ref hA]) Q E s := by
  have hsw := H.sw
  have hst := H.st
  have htl := H.len
  w_strict (
    revert X; k_fill; intro X
    refine wpAny_call ?_
    k_dflt (refine' code_def ?k1 ?k2 ?k3 ?k4 ?k5 ?kA ?kF ?kK ?k6 ?k7 ?k8 ?k9 ?kB ?_ ?c2 ?c3 ?c4 ?c5; (case kA => exact rfl); (case kF => exact rfl); (case kK => assumption); (case k1 => k_asm); (case k2 => k_asm); (case k3 => k_asm); (case k4 => k_asm); (case k5 => k_asm); (case k6 => k_is); (case k7 => k_is); (case k8 => k_room); (case k9 => exact BindsTo.of_eq rfl); (case c5 => decide); (case kB => exact locs rfl); (case c2 => exact rfl); (case c3 => exact rfl); (case c4 => exact rfl); k_whole; intro g' L' h' FG' F' N' B' X' T'; (try dsimp only); (try k_lift B'); (try k_fold))
    k_steps
    all_goals (first | (exfalso; omega) | exact hret _ _ _ _ (by k_asm) (by first | k_asm | (refine cb_drop (by assumption) ?_; kcf_all))))
end

section
local macro_rules | `(tactic| k_all) => `(tactic| first | exact above_off (by assumption) (by k_mem) | fail "no")
local macro_rules | `(tactic| walk_at "exec Assign cons ListComp") => `(tactic| (k_here; k_dflt (refine LCg.Assign_ListComp_U (F₀ := by k_asm) (by rfl) (by with_unfolding_all rfl) (by with_unfolding_all rfl) (by decide) (by rfl) (by decide) (by rfl) (by rfl) (by rfl) ?_)))
local macro_rules | `(tactic| walk_at "CompSrc") => `(tactic| (k_here; k_dflt (
  (refine LCg.CompSrc.ledger (by rfl) (by k_asm) (by k_asm) (by k_mem) (by first | exact Nat.le_of_ble_eq_true rfl | (rw [PySem.sizeLine_eq, List.size_toArray]; omega)) ?_; intro g');
  (refine' comp_fieldsB 38 (fun i' v' I' oI' C' oC' D' m' ys' own' h' tk' E' hv' hR' hAb' hC' hx' F' N' off' ne' => ?_) (fun ys' own' hR' hAb' => ?_));
  (all_goals (have hfl' := FieldsAt.length hR'));
  (all_goals (try simp only [List.cons_append, List.nil_append] at N'));
  kcf_last)))
local macro_rules | `(tactic| walk_at "CompEnd") => `(tactic| (k_here; (show LCg.CompEnd _ _ _ _ _ _ _ _ _ _ _ (ElG _ _) _ _); k_dflt (refine fields_endB (by assumption) (by assumption) (by assumption) (by (refine ⟨?_, ?_, ?_, ?_⟩ <;> omega)) (by ((repeat (refine List.forall_mem_cons.mpr ⟨by (dsimp only; omega), ?_⟩)); exact List.forall_mem_nil _)) (by assumption) (by assumption) (by assumption) (fun own' => by first | lcg_src | assumption))))
local macro_rules | `(tactic| walk_at "FinE") => `(tactic| ((unfold LCg.FinE); intro D' h' tk' F' N' o1'; (try simp only [List.nil_append, List.cons_append] at o1'); (try simp only [LCg.Off1, and_true] at o1'); (try simp only [List.nil_append, List.cons_append] at N'); (try dsimp only)))
local macro_rules | `(tactic| walk_at "exec For") => `(tactic| (k_here; ((rename Fr _ _ _ _ => lF'); (with_unfolding_all refine' For_invVF lF' ?k1 ?k2 ?_; (case k1 => exact rfl); (case k2 => exact rfl); k_whole))))
local macro_rules | `(tactic| walk_at "exec For Name Name cons nil") => `(tactic| (k_here; ((rename Fr _ _ _ _ => lF'); (with_unfolding_all refine' For_invVF lF' ?k1 ?k2 ?_; (case k1 => exact rfl); (case k2 => exact rfl); k_whole))))
local macro_rules | `(tactic| walk_at "exec For Name Tuple cons nil") => `(tactic| (k_here; ((rename Fr _ _ _ _ => lF'); (with_unfolding_all refine' For_invVF lF' ?k1 ?k2 ?_; (case k1 => exact rfl); (case k2 => exact rfl); k_whole))))
local macro_rules | `(tactic| k_mem) => `(tactic| first | exact List.Mem.head _ | assumption | exact mem_sub (by with_reducible assumption) (by kcf_all) | (refine List.Mem.tail _ ?_; k_mem))
local macro_rules | `(tactic| k_all) => `(tactic| assumption)
local macro_rules | `(tactic| walk_at "pyIter ref") => `(tactic| (k_here; (with_reducible rename News _ _ _ _ => N9); k_dflt ((refine loop_nm (fx := [_, _, _, _, _, _, _]) (by rfl) (by k_asm) N9 (by k_mem) (by assumption) (by assumption) (by k_all) (by k_all) (fun c' j' tk' u' h' tkk' I' oI' hj' hI' nS' nO' no' nr' bS' bO' F' N' => ?_) (fun c' u' h' tk' hI' bS' bO' F' N' => ?_)); (all_goals (try simp only [List.cons_append, List.nil_append] at N')); kcf_last)))
local macro_rules | `(tactic| walk_at "pyIter ref") => `(tactic| (k_here; (with_reducible rename News _ _ _ _ => N9); (with_reducible rename IntsAre _ _ => iL9); (try kcf_lens); k_dflt ((refine loop_x (fx := [_, _, _, _, _, _, _]) (by rfl) (by assumption) iL9 (by k_asm) N9 (by omega) (by assumption) (fun c' b' n' tk' u' h' tkk' I' oI' hb' hI' nS' nO' no' nr' bS' bO' F' N' => ?_) (fun c' b' u' h' tk' hI' bS' bO' F' N' => ?_)); (all_goals (try simp only [List.cons_append, List.nil_append] at N')); kcf_last)))
local macro_rules | `(tactic| walk_at "setItem ref str") => `(tactic| (k_here; k_dflt (refine' kda_set (knd := PySem.strKind _ _) ?F ?N ?U ?d (strKind_is _ _ _ _) ?z ?_; (case F => k_asm); (case N => k_asm); (case U => k_updF); (case d => first | exact Inv2.dS (by assumption) | exact Inv2.dO (by assumption)); (case z => first | exact Inv2.zS (by assumption) (by omega) | exact Inv2.zO (by assumption) (by omega))); intro h' o' F' N' hd'; (try dsimp only at N')))
local macro_rules | `(tactic| walk_at "setItem ref str ref") => `(tactic| (k_here; k_dflt (refine' kda_set (knd := PySem.strKind _ _) ?F ?N ?U ?d (strKind_is _ _ _ _) ?z ?_; (case F => k_asm); (case N => k_asm); (case U => k_updF); (case d => first | exact Inv2.dS (by assumption) | exact Inv2.dO (by assumption)); (case z => first | exact Inv2.zS (by assumption) (by omega) | exact Inv2.zO (by assumption) (by omega))); intro h' o' F' N' hd'; (try dsimp only at N')))
local macro_rules | `(tactic| walk_at "subscriptTail") => `(tactic| (k_here; (with_reducible show wpAny _ _ (subscriptTail _ _ (Value.ref _) (Value.int (Int.fmod _ 7) _)) _ _ _); k_dflt ((refine names_item (by k_asm) (by k_mem) (fmod_lo _ (by decide)) (fmod_hi _ (by decide)) ?_ (by with_unfolding_all rfl)); intro t')))
local macro_rules | `(tactic| walk_at "subscriptTail Name BinOp ref int") => `(tactic| (k_here; (with_reducible show wpAny _ _ (subscriptTail _ _ (Value.ref _) (Value.int (Int.fmod _ 7) _)) _ _ _); k_dflt ((refine names_item (by k_asm) (by k_mem) (fmod_lo _ (by decide)) (fmod_hi _ (by decide)) ?_ (by with_unfolding_all rfl)); intro t')))
local macro_rules | `(tactic| walk_at "subscriptTail") => `(tactic| (k_here; (with_reducible show wpAny _ _ (subscriptTail _ _ (Value.ref _) (Value.str (nm _) _)) _ _ _); k_dflt ((refine' other_item ?i ?j ?N ?m ?_ ?s); ((case i => assumption)); ((case j => exact fmod7 _)); ((case N => k_asm)); ((case m => k_mem)); ((case s => with_unfolding_all rfl)); intro r' tk' hr' hmr')))
local macro_rules | `(tactic| walk_at "subscriptTail Subscript Name Constant Subscript ref str") => `(tactic| (k_here; (with_reducible show wpAny _ _ (subscriptTail _ _ (Value.ref _) (Value.str (nm _) _)) _ _ _); k_dflt ((refine' other_item ?i ?j ?N ?m ?_ ?s); ((case i => assumption)); ((case j => exact fmod7 _)); ((case N => k_asm)); ((case m => k_mem)); ((case s => with_unfolding_all rfl)); intro r' tk' hr' hmr')))
local macro_rules | `(tactic| walk_at "call builtin:list.append") => `(tactic| (k_here; (try dsimp only [List.cons_append, List.nil_append]); (with_reducible show wpAny _ _ (call (Value.builtin _) [Value.ref (Ls.a _), _]) _ _ _); k_dflt (refine app2 (by assumption) (by assumption) (by assumption) (by k_asm) (by k_asm) (by k_mem) (by k_mem) (by k_mem) (by kcf_all) (by kcf_all) (by omega) ?_); intro h' F' N'; (try simp only [List.cons_append, List.nil_append] at N')))
local macro_rules | `(tactic| walk_at "TurnPost") => `(tactic| (dsimp only [TurnPost]))
local macro_rules | `(tactic| walk_at "TurnEnd") => `(tactic| (k_here; k_dflt ((refine' end2 _ ?F ?N ?I ?mO ?mS ?mf ?mb ?nS ?nO ?no ?hr ?hi); ((case hi => exact Inv2.nextN (by assumption) (by assumption) (by assumption) (by assumption))); (((case F => assumption); (case N => assumption); (case I => k_mem); (case mO => k_mem); (case mS => k_mem))); (((case mf => kcf_all); (case mb => kcf_all))); (((case nS => assumption); (case nO => assumption); (case no => assumption); (case hr => (intro z h1; simp [kstB, h1])))))))
local macro_rules | `(tactic| walk_at "TurnEnd") => `(tactic| (k_here; k_dflt ((refine' end2 _ ?F ?N ?I ?mO ?mS ?mf ?mb ?nS ?nO ?no ?hr ?hi); ((case hi => exact Inv2.more (by assumption) (by assumption) (by assumption) (by assumption) (by omega) (by omega) (by k_all) (by k_all))); (((case F => assumption); (case N => assumption); (case I => k_mem); (case mO => k_mem); (case mS => k_mem))); (((case mf => kcf_all); (case mb => exact bag_more (by kcf_all) (by k_mem)))); (((case nS => assumption); (case nO => assumption); (case no => assumption); (case hr => (intro z h1; simp [kstB, h1])))))))
local macro_rules | `(tactic| walk_at "subscriptTail") => `(tactic| (k_here; (with_reducible show wpAny _ _ (subscriptTail _ _ (Value.ref _) (Value.str (PySem.Str.ofString _) _)) _ _ _); k_dflt (first | refine kda_item (knd := PySem.strKind _ _) (by k_asm) (by k_mem) (by assumption) (strKind_is _ _ _ _) here_self ?_ | refine kda_item (knd := PySem.strKind _ _) (by k_asm) (by k_mem) (by assumption) (strKind_is _ _ _ _) here_other ?_)))
local macro_rules | `(tactic| walk_at "subscriptTail Name Constant ref str") => `(tactic| (k_here; (with_reducible show wpAny _ _ (subscriptTail _ _ (Value.ref _) (Value.str (PySem.Str.ofString _) _)) _ _ _); k_dflt (first | refine kda_item (knd := PySem.strKind _ _) (by k_asm) (by k_mem) (by assumption) (strKind_is _ _ _ _) here_self ?_ | refine kda_item (knd := PySem.strKind _ _) (by k_asm) (by k_mem) (by assumption) (strKind_is _ _ _ _) here_other ?_)))
local macro_rules | `(tactic| walk_at "CompSrc") => `(tactic| (k_here; (with_reducible rename IntsAre _ _ => iL9); (try kcf_lens); k_dflt (
  (refine LCg.CompSrc.base (by rfl) (by k_asm) (by k_asm) (by assumption) (by (rw [PySem.sizeLine_eq, List.size_toArray]; omega)) ?_; intro g');
  (refine' comp_keep (fun i ys => ys.length = i ∧ JsOk ys) ⟨rfl, fun _ h => nomatch h⟩ (fun i' v' I' oI' C' oC' D' m' ys' h' tk' E' hlt' hv' hR' hC' hx' F' N' off' ne' => ?_) (fun ys' hR' => ?_));
  (all_goals (obtain ⟨hyl', hjs'⟩ := hR'));
  (all_goals (try simp only [List.size_toArray] at hyl'));
  (all_goals (try (obtain ⟨n', t', hv'⟩ := base_int iL9 hv'; subst hv')));
  (all_goals (try (simp only [LCg.Off3, and_true] at off')));
  kcf_last)))
local macro_rules | `(tactic| walk_at "CompEnd") => `(tactic| (k_here; (with_reducible rename JsOk _ => hjs'); k_dflt ((refine' ElK.done (by assumption) (by assumption) (by kcf_all) (by first | assumption | (simp only [LCg.Off3, and_true]; assumption)) (by first | lcg_src | assumption) ?_); (refine ⟨by (rw [List.length_append, List.length_singleton]; omega), JsOk.snoc hjs' ⟨_, _, rfl, fmod_lo _ (by decide), fmod_hi _ (by decide)⟩⟩))))
local macro_rules | `(tactic| walk_at "subscriptTail Name Slice ref ref") => `(tactic| (k_here; (with_reducible rename JsOk _ => hjs'); k_dflt (refine' kms_slice_lit ?F ?N ?l ?p ?q ?e ?_ ?s ?t ?z; (case F => k_asm); (case N => k_asm); (case l => exact News.isList (by k_asm) (by k_mem)); (case p => kmk_part); (case q => kmk_part); (case e => first | exact pick_drop1 _ | exact pick_take1 _); (case s => with_unfolding_all rfl); (case t => kmk_pure); (case z => (rw [PySem.sizeLine_eq, List.size_toArray]; omega))); intro D' h' F' N' l1; (try k_lt l1); (try k_sweep)))
local macro_rules | `(tactic| walk_at "subscriptTail Name Slice ref ref") => `(tactic| (k_here; (with_reducible show wpAny _ _ (subscriptTail _ (PySem.Expr.Slice none none (some _) _) (Value.ref _) (Value.ref _)) _ _ _); k_dflt (refine' krv_lit ?F ?N ?l ?k ?e ?_ ?s ?t ?z; (case F => k_asm); (case N => k_asm); (case l => exact News.isList (by k_asm) (by k_mem)); (case k => exact IsPart.int _ _); (case e => rfl); (case s => with_unfolding_all rfl); (case t => kmk_pure); (case z => (rw [PySem.sizeLine_eq, List.size_toArray]; omega))); intro D' h' F' N' l1; (try k_lt l1); (try k_sweep)))
local macro_rules | `(tactic| walk_at "pyIter ref") => `(tactic| (k_here; (with_reducible rename News _ _ _ _ => N9); (with_reducible rename IntsAre _ _ => iL9); (try kcf_lens); k_dflt ((refine loop_parts (pre := [_, _, _, _, _, _, _, _, _, _]) (by rfl) (by k_asm) N9 (by k_mem) (by assumption) (by (intro v hv; (simp only [List.mem_cons, List.not_mem_nil, or_false] at hv); (rcases hv with rfl | rfl | rfl | rfl); (all_goals exact ⟨_, _, _, rfl, by k_mem, by first | assumption | exact JsOk.rev (by assumption) | exact JsOk.take1 (by assumption) | exact JsOk.drop1 (by assumption), by first | omega | ((simp only [List.length_reverse, List.length_take, List.length_drop]); omega)⟩))) (fun p' js' k' ow' x' u' h' tk' I' oI' hm' hjs' hl' hx' off' nw' F' N' => ?_) (fun ow' u' h' tk' F' N' => ?_)); (all_goals (try simp only [List.cons_append, List.nil_append] at N')); kcf_last)))
local macro_rules | `(tactic| walk_at "newTuple") => `(tactic| (k_here; k_dflt (refine' kup_newTuple ?F ?N ?_ ?z; (case F => k_asm); (case N => k_asm); (case z => kmk_size)); intro D' h' F' N' l1; (try k_lt l1); (try k_sweep)))
local macro_rules | `(tactic| k_all) => `(tactic| first | ((with_reducible show ∀ p, p ∈ bag _ _ → _); exact bag_off (by assumption) (by k_mem) (by k_all)) | fail "no")
local macro_rules | `(tactic| walk_at "pyIter ref") => `(tactic| (k_here; (with_reducible show wpAny _ _ (pyIter (Value.ref _)) (fun it s₂ => TurnsAt _ _ _ _ _ _ _ _ _ it s₂) _ _); (with_reducible rename News _ _ _ _ => N9); k_dflt ((refine loop_w2 (pre := [_, _, _, _, _, _, _, _, _, _, _]) (by rfl) (by k_asm) N9 (by rfl) (by rfl) (by assumption) (by (intro v hv; (simp only [List.mem_cons, List.not_mem_nil, or_false] at hv); (rcases hv with rfl | rfl); (exact ⟨_, Or.inl rfl⟩); (exact ⟨_, Or.inr rfl⟩))) (fun v' t' ow' x' u' h' tk' I' oI' hv' hx' hc' hlt' F' N' => ?_) (fun ow' x' u' h' tk' hx' F' N' => ?_)); (all_goals (try simp only [List.cons_append, List.nil_append] at N')); (all_goals (try (simp only [List.cons_append, List.nil_append] at hlt'; k_lt hlt'))); (all_goals (try (rcases hv' with hv' | hv' <;> subst hv'))); kcf_last)))
local macro_rules | `(tactic| walk_at "W2Post") => `(tactic| (dsimp only [W2Post]))
local macro_rules | `(tactic| walk_at "W2End") => `(tactic| (k_here; k_dflt (refine W2End.intro (by assumption) (by assumption) (by k_mem) (by k_mem) (by k_mem) (by kcf_all) (by kcf_all) (by assumption) (by intro z h1; simp [h1]))))
local macro_rules | `(tactic| walk_at "CompSrc") => `(tactic| (k_here; (with_reducible show LCg.CompSrc _ _ _ _ _ _ _ (PySem.Expr.Subscript (PySem.Expr.Name _ _) _ _) _ _ _ _ _ _); k_dflt (
  (refine LCg.CompSrc.ledger (by rfl) (by k_asm) (by k_asm) (by k_mem) (by (rw [PySem.sizeLine_eq, List.size_toArray]; omega)) ?_; intro g');
  (refine' comp_pool (by assumption) (by assumption) (fun j' t' I' oI' C' oC' D' m' ys' h' tk' E' h0' h1' hC' hx' F' N' off' ne' => ?_) ?_);
  kcf_last)))
local macro_rules | `(tactic| walk_at "CompSrc") => `(tactic| (k_here; (with_reducible show LCg.CompSrc _ _ _ _ _ _ _ (PySem.Expr.Subscript (PySem.Expr.Subscript _ _ _) _ _) _ _ _ _ _ _); k_dflt (
  (refine LCg.CompSrc.ledger (by rfl) (by k_asm) (by k_asm) (by k_mem) (by (rw [PySem.sizeLine_eq, List.size_toArray]; omega)) ?_; intro g');
  (refine' comp_due (by assumption) (by assumption) (by assumption) (fun j' t' I' oI' C' oC' D' m' ys' h' tk' E' h0' h1' hC' hx' F' N' off' ne' => ?_) ?_);
  kcf_last)))
local macro_rules | `(tactic| walk_at "CompEnd") => `(tactic| (k_here; (with_reducible show LCg.CompEnd _ _ _ _ _ _ _ _ _ _ _ (ElK _ (fun y => y = _)) _ _); k_dflt ((refine' ElK.done (by assumption) (by assumption) (by kcf_all) (by assumption) (by first | lcg_src | assumption) ?_); rfl)))
local macro_rules | `(tactic| walk_at "subscriptTail Name Name ref int") => `(tactic| (k_here; (with_reducible show wpAny _ _ (subscriptTail (PySem.Expr.Name (PySem.Str.ofString "names") _) _ _ _) _ _ _); k_dflt ((refine names_item (by k_asm) (by k_mem) (by assumption) (by assumption) ?_ (by with_unfolding_all rfl)); intro t')))
local macro_rules | `(tactic| walk_at "subscriptTail Name Name ref int") => `(tactic| (k_here; (with_reducible show wpAny _ _ (subscriptTail (PySem.Expr.Name (PySem.Str.ofString "pool") _) _ _ _) _ _ _); k_dflt (refine pool_item (by assumption) (by rfl) (by assumption) (by assumption) (by k_asm) (by k_mem) ?_ (by with_unfolding_all rfl))))
local macro_rules | `(tactic| walk_at "subscriptTail Name Name ref str") => `(tactic| (k_here; k_dflt (first | refine kda_item (knd := PySem.strKind _ _) (by k_asm) (by k_mem) (by assumption) (strKind_is _ _ _ _) here_self ?_ | refine kda_item (knd := PySem.strKind _ _) (by k_asm) (by k_mem) (by assumption) (strKind_is _ _ _ _) here_other ?_)))
local macro_rules | `(tactic| walk_at "subscriptTail Subscript Name Name Subscript ref str") => `(tactic| (k_here; k_dflt ((first | refine due_item (by assumption) (by assumption) (by assumption) (by k_asm) (by k_mem) ?_ (by with_unfolding_all rfl) | refine due_item2 (by assumption) (by assumption) (by assumption) (by k_asm) (by k_mem) ?_ (by with_unfolding_all rfl)); intro tk')))
local macro_rules | `(tactic| walk_at "call type:tuple") => `(tactic| (k_here; k_dflt (refine' kde_tupleOf ?k1 ?k2 ?k3 ?k4 ?k5 ?_; (case k1 => k_asm); (case k2 => k_asm); (case k3 => exact News.isList (by k_asm) (by k_mem)); (case k5 => rfl); (case k4 => (rw [List.size_toArray, List.length_map]; omega))); intro D' h' F' N' l1; (try k_lt l1); (try k_sweep)))
local macro_rules | `(tactic| walk_at "call ref") => `(tactic| (k_here; (with_reducible show wpAny _ _ (call (.ref 47) _) _ _ _); k_dflt ((refine' ts_call2 (by k_asm) (by k_asm) (by k_asm) (by k_asm) (by k_asm) (by rfl) ?hm ?hq ?hf ?hn ?hl ?hw ?e ?_); (case hm => k_mem); (case hq => exact ⟨_, Or.inl rfl⟩); ((case hf => exact pool_fields (by assumption) (by rfl) (own_sub (by assumption) (by kcf_all)) (by assumption))); ((case hn => exact pool_nms (by assumption))); ((case hl => (rw [List.length_map]; omega))); ((case hw => decide)); ((case e => exact pool_names (by assumption))); intro _ _ _ _ _; (try dsimp only); (try k_fold))))
local macro_rules | `(tactic| walk_at "call ref") => `(tactic| (k_here; (with_reducible show wpAny _ _ (call (.ref 54) _) _ _ _); k_dflt ((refine' lr_call (by k_asm) (by k_asm) (by k_asm) (by k_asm) (by k_asm) (by rfl) ?H ?_); ((case H => first | exact lrh_self (by assumption) (by assumption) (by omega) (by k_mem) (by assumption) (by assumption) (by k_mem) (by assumption) | exact lrh_other (by assumption) (by assumption) (by omega) (by k_mem) (by assumption) (by assumption) (by k_mem) (by assumption))); intro _ _ _ _ _ _; (try dsimp only); (try k_fold))))
local macro_rules | `(tactic| walk_at "compareOp NotEq ref ref") => `(tactic| (k_here; k_dflt (refine ne_tup2 (by k_asm) (by k_mem) (by k_mem) (by first | exact due_self | exact due_other) (Nat.lt_of_le_of_lt (Nat.le_add_right _ 64) (by ke_room)) ?_)))
local macro_rules | `(tactic| walk_at "TurnEnd") => `(tactic| (k_here; k_dflt (refine parts_end (by assumption) (by assumption) (by k_mem) (by kcf_all) (by k_mem) (by kcf_all) (by assumption) (by assumption) (by assumption) (by intro z h1 h2; simp [h1, h2, kstB]))))
set_option maxRecDepth 100000 in
set_option maxHeartbeats 40000000 in
theorem walked : PySem.Challenge.rw_io0052_02.Holds := by
  refine hd ?_
  w_strict (k_go0; (all_goals try k_fold); k_steps)
end

end Mine

theorem PySem.Challenge.cw_io0052_02_holds : PySem.Challenge.rw_io0052_02.Holds := by
  exact Mine.walked
