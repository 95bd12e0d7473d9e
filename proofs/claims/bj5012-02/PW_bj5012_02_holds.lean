import PyProof.Rows.All
import Wide.All
import OpenK.AllK
import Wide.FinOn
import Lean
import PySem.Challenge.RW_bj5012_02
open PySem PySem.W PyProof.Rows
set_option Elab.async false
namespace Mine
set_option maxRecDepth 100000 in
set_option maxHeartbeats 8000000 in
open_top hd for PySem.Challenge.rw_bj5012_02
end Mine

open PySem PySem.W PyProof.Rows PySem.Calls
set_option Elab.async false
set_option maxRecDepth 100000
namespace Mine
theorem freshM0 : True ∧ True := by
  w_top off
  try (walk1; fail)
  exact ⟨trivial, trivial⟩
end Mine
namespace Mine
open PySem.Builtin.Int (intBits)
noncomputable abbrev VW := Mine.hd.view_39
noncomputable abbrev LS := looseW Mine.hd.view_39 [Str.ofString "filter_points", Str.ofString "_law_more"]

structure Pt where
  a : Addr
  d : Addr
  x : Int
  y : Int
  tx : Nat
  ty : Nat
  kx : Nat
  ky : Nat
  hx : intBits x ≤ 2000000
  hy : intBits y ≤ 2000000

structure Nd where
  a : Addr
  d : Addr
  p : Pt
  i : Value
  k0 : Nat
  k1 : Nat
  k2 : Nat
  k3 : Nat
  k4 : Nat
  k5 : Nat
  k6 : Nat
  k7 : Nat
  k8 : Nat
  k9 : Nat
  tz : Nat

abbrev ptEs (P : Params) (p : Pt) : List DictEntry :=
  [⟨PyData.keyHash P (Str.ofString "x"), .str (Str.ofString "x") p.kx, .int p.x p.tx⟩,
   ⟨PyData.keyHash P (Str.ofString "y"), .str (Str.ofString "y") p.ky, .int p.y p.ty⟩]
abbrev ptObj (P : Params) (p : Pt) : Obj := dictOf (ptEs P p) 2

/-- a node's dict -/
abbrev ndEs (P : Params) (n : Nd) (pv nx : Value) : List DictEntry :=
  [⟨PyData.keyHash P (Str.ofString "i"), .str (Str.ofString "i") n.k0, n.i⟩,
   ⟨PyData.keyHash P (Str.ofString "point"), .str (Str.ofString "point") n.k1, .ref n.p.a⟩,
   ⟨PyData.keyHash P (Str.ofString "x"), .str (Str.ofString "x") n.k2, .int n.p.x n.p.tx⟩,
   ⟨PyData.keyHash P (Str.ofString "y"), .str (Str.ofString "y") n.k3, .int n.p.y n.p.ty⟩,
   ⟨PyData.keyHash P (Str.ofString "prev"), .str (Str.ofString "prev") n.k4, pv⟩,
   ⟨PyData.keyHash P (Str.ofString "next"), .str (Str.ofString "next") n.k5, nx⟩,
   ⟨PyData.keyHash P (Str.ofString "z"), .str (Str.ofString "z") n.k6, .int 0 n.tz⟩,
   ⟨PyData.keyHash P (Str.ofString "prev_z"), .str (Str.ofString "prev_z") n.k7, .none⟩,
   ⟨PyData.keyHash P (Str.ofString "next_z"), .str (Str.ofString "next_z") n.k8, .none⟩,
   ⟨PyData.keyHash P (Str.ofString "steiner"), .str (Str.ofString "steiner") n.k9, .bool false⟩]
abbrev ndObj (P : Params) (n : Nd) (pv nx : Value) : Obj := dictOf (ndEs P n pv nx) 10

def Spec (w : World) (f : Addr) (vals : List Value) (news : List (Addr × Obj)) (D U : Nat) (Post : Value → List (Addr × Obj) → Prop) : Prop :=
  ∀ (mean : ExcName → Option Value) (mg mb : Str → Option Value) (dp un : Nat) (gd : Option (List Code)) (cn : Str) (cs : Scope) (a : Addr) (ccd : Value) (cl : List (Str × Addr)) (outer : List Env) (A₀ : Around) (base h₀ : Heap) (L : Addr) (m : Str → Option Value) (s : Shared) (Q E : Value → Shared → Prop),
    Below A₀ base outer h₀ → Fr h₀ L s.heap m → (Mine.hd.heap_39 w.params).In h₀ → News h₀ L s.heap news → Top VW LS mean mg mb h₀ → cs.kind = .function →
    dp + D < recursionLimit → un + U < cLine →
    (∀ r news' h' tk', Fr h₀ L h' m → News h₀ L h' news' → Post r news' → Q r { s with heap := h', toks := tk' }) →
    wpAny (model PySem.Challenge.rw_bj5012_02.row.prog w) (ktrTop dp un gd cn cs L a ccd cl outer) (call (.ref f) vals) Q E s

theorem use_spec {w : World} {f : Addr} {vals : List Value} {news : List (Addr × Obj)} {D U : Nat} {Post : Value → List (Addr × Obj) → Prop}
    {mean : ExcName → Option Value} {mg mb : Str → Option Value} {dp un : Nat} {gd : Option (List Code)} {cn : Str} {cs : Scope} {a : Addr} {ccd : Value} {cl : List (Str × Addr)} {outer : List Env} {A₀ : Around} {base h₀ : Heap} {L : Addr} {m : Str → Option Value} {s : Shared} {Q E : Value → Shared → Prop}
    (B : Below A₀ base outer h₀) (F : Fr h₀ L s.heap m) (X : (Mine.hd.heap_39 w.params).In h₀) (N : News h₀ L s.heap news) (T : Top VW LS mean mg mb h₀) (hk : cs.kind = .function) (S : Spec w f vals news D U Post)
    (hd : dp + D < recursionLimit) (hu : un + U < cLine)
    (ret : ∀ r news' h' tk', Fr h₀ L h' m → News h₀ L h' news' → Post r news' → Q r { s with heap := h', toks := tk' }) :
    wpAny (model PySem.Challenge.rw_bj5012_02.row.prog w) (ktrTop dp un gd cn cs L a ccd cl outer) (call (.ref f) vals) Q E s := S _ _ _ _ _ _ _ _ _ _ _ _ _ _ _ _ _ _ _ _ B F X N T hk hd hu ret

/-- a node stands in the ledger -/
def NodeIn (w : World) (news : List (Addr × Obj)) (p : Nd) : Prop :=
  (p.a, instObj 59 p.d) ∈ news ∧ ∃ pv nx : Value, (p.d, ndObj w.params p pv nx) ∈ news

/-- a point stands in the ledger -/
def PtIn (w : World) (news : List (Addr × Obj)) (p : Pt) : Prop := (p.a, instObj 31 p.d) ∈ news ∧ (p.d, ptObj w.params p) ∈ news

theorem mem_of {q : Addr × Obj} {l : List (Addr × Obj)} (h : q ∈ l) : List.Mem q l := h
/-- a goal laid by -/
def Stop (p : Prop) : Prop := p
theorem Stop.intro {p : Prop} (h : Stop p) : p := h
theorem Stop.out {p : Prop} (h : p) : Stop p := h

theorem int_post {a b : Int} {t : Tok} (h : a = b) : ∃ t', Value.int a t = Value.int b t' := ⟨t, h ▸ rfl⟩
structure CutB (c : Bool) (h₀ : Heap) (L : Addr) (m : Str → Option Value) (news : List (Addr × Obj)) (s : Shared) (k : Bool) (s' : Shared) : Prop where
  out : k = c
  here : ∃ (h : Heap) (tk : Nat), s' = { s with heap := h, toks := tk } ∧ Fr h₀ L h m ∧ News h₀ L h news
/-- a test walked apart: its two ways meet -/
theorem cut_if {M : Model} {A : Around} {E : Value → Shared → Prop} {s : Shared} {env : Env} {h₀ : Heap} {L : Addr} {m : Str → Option Value} {news : List (Addr × Obj)} {Q : Flow → Shared → Prop} {test : PySem.Expr} {body orelse : List Stmt} {pos : Pos}
    (c : Bool) (_F : Fr h₀ L s.heap m) (_N : News h₀ L s.heap news) (ht : wpAny M A (isTrue test env (eval test env)) (CutB c h₀ L m news s) E s)
    (hy : c = true → ∀ h tk, Fr h₀ L h m → News h₀ L h news → wpAny M A (execs body env) Q E { s with heap := h, toks := tk })
    (hn : c = false → ∀ h tk, Fr h₀ L h m → News h₀ L h news → wpAny M A (execs orelse env) Q E { s with heap := h, toks := tk }) :
    wpAny M A (exec (.If test body orelse pos) env) Q E s := by
  refine wpAny_If (wpAny_mono ht (fun k s₂ hk => ?_) fun _ _ h => h)
  obtain ⟨rfl, h, tk, rfl, F, N⟩ := hk
  cases k with
  | true => exact hy rfl h tk F N
  | false => exact hn rfl h tk F N

/-! the plain functions -/
section
variable {α : Type} (x y : α → Int)
def areaG (p q r : α) : Int := (y q - y p) * (x r - x q) - (x q - x p) * (y r - y q)
def eqG (p q : α) : Bool := (x p == x q) && (y p == y q)
def signZ (n : Int) : Int := if n < 0 then -1 else if 0 < n then 1 else 0
def pitZ (ax ay bx by' cx cy px py : Int) : Bool :=
  decide ((ax - px) * (cy - py) ≤ (cx - px) * (ay - py)) && (decide ((bx - px) * (ay - py) ≤ (ax - px) * (by' - py)) && decide ((cx - px) * (by' - py) ≤ (bx - px) * (cy - py)))
def mxZ (a b : Int) : Int := if b > a then b else a
def mnZ (a b : Int) : Int := if b < a then b else a
def onG (p q r : α) : Bool :=
  (decide (x q ≤ mxZ (x p) (x r)) && decide (mnZ (x p) (x r) ≤ x q)) && (decide (y q ≤ mxZ (y p) (y r)) && decide (mnZ (y p) (y r) ≤ y q))
def interG (p1 q1 p2 q2 : α) : Bool :=
  let o1 := signZ (areaG x y p1 q1 p2)
  let o2 := signZ (areaG x y p1 q1 q2)
  let o3 := signZ (areaG x y p2 q2 p1)
  let o4 := signZ (areaG x y p2 q2 q1)
  if o1 ≠ o2 ∧ o3 ≠ o4 then true
  else if o1 = 0 ∧ onG x y p1 p2 q1 = true then true
  else if o2 = 0 ∧ onG x y p1 q2 q1 = true then true
  else if o3 = 0 ∧ onG x y p2 p1 q2 = true then true
  else if o4 = 0 ∧ onG x y p2 q1 q2 = true then true
  else false
def locG (a ap an b : α) : Bool :=
  if areaG x y ap a an < 0 then decide (0 ≤ areaG x y a b an) && decide (0 ≤ areaG x y a ap b)
  else decide (areaG x y a b ap < 0) || decide (areaG x y a an b < 0)
def mx3 (a b c : Int) : Int := if b > a then (if c > b then c else b) else (if c > a then c else a)
def mn3 (a b c : Int) : Int := if b < a then (if c < b then c else b) else (if c < a then c else a)
def boxG (a b c p : α) : Bool :=
  (decide (mn3 (x a) (x b) (x c) ≤ x p) && decide (x p ≤ mx3 (x a) (x b) (x c))) &&
  (decide (mn3 (y a) (y b) (y c) ≤ y p) && decide (y p ≤ mx3 (y a) (y b) (y c)))
def blockG (a b c pp p pn : α) : Bool :=
  boxG x y a b c p && (pitZ (x a) (y a) (x b) (y b) (x c) (y c) (x p) (y p) && decide (0 ≤ areaG x y pp p pn))
end

section
variable {prog : Program} {w : World} {A : Around} {E : Value → Shared → Prop} {s : Shared} {h₀ : Heap} {L : Addr} {m : Str → Option Value} {news : List (Addr × Obj)}
theorem max3_N {a b c : Int} {t u v : Tok} {Q : Value → Shared → Prop} (hh : A.handled = none) (F : Fr h₀ L s.heap m) (N : News h₀ L s.heap news)
    (h : ∀ h' tk t', Fr h₀ L h' m → News h₀ L h' news → Q (.int (mx3 a b c) t') { s with heap := h', toks := tk }) :
    wpAny (model prog w) A (call (.builtin "max") [.int a t, .int b u, .int c v]) Q E s :=
  max_three_ints hh fun h' tk hk => by
    have := fun t' => h h' tk t' (F.grownK hk) (N.grown hk)
    unfold mx3 at this
    by_cases c1 : b > a
    · simp only [if_pos c1] at this ⊢
      by_cases c2 : c > b
      · simp only [if_pos c2] at this ⊢; exact this _
      · simp only [if_neg c2] at this ⊢; exact this _
    · simp only [if_neg c1] at this ⊢
      by_cases c2 : c > a
      · simp only [if_pos c2] at this ⊢; exact this _
      · simp only [if_neg c2] at this ⊢; exact this _
theorem min3_N {a b c : Int} {t u v : Tok} {Q : Value → Shared → Prop} (hh : A.handled = none) (F : Fr h₀ L s.heap m) (N : News h₀ L s.heap news)
    (h : ∀ h' tk t', Fr h₀ L h' m → News h₀ L h' news → Q (.int (mn3 a b c) t') { s with heap := h', toks := tk }) :
    wpAny (model prog w) A (call (.builtin "min") [.int a t, .int b u, .int c v]) Q E s :=
  min_three_ints hh fun h' tk hk => by
    have := fun t' => h h' tk t' (F.grownK hk) (N.grown hk)
    unfold mn3 at this
    by_cases c1 : b < a
    · simp only [if_pos c1] at this ⊢
      by_cases c2 : c < b
      · simp only [if_pos c2] at this ⊢; exact this _
      · simp only [if_neg c2] at this ⊢; exact this _
    · simp only [if_neg c1] at this ⊢
      by_cases c2 : c < a
      · simp only [if_pos c2] at this ⊢; exact this _
      · simp only [if_neg c2] at this ⊢; exact this _
end

/-! while, by what holds of one name or two -/
def WEnd1 (h₀ : Heap) (L : Addr) (s : Shared) (x : Str) (st : List Str) (m : Str → Option Value) (J : Nat → Value → List (Addr × Obj) → Prop) (n : Nat) (s₃ : Shared) : Prop :=
  ∃ h' tk m₂ news₂ v n', s₃ = { s with heap := h', toks := tk } ∧ Fr h₀ L h' m₂ ∧ News h₀ L h' news₂ ∧ n' < n ∧ m₂ x = some v ∧ J n' v news₂ ∧ ∀ y, y ≠ x → st.contains y = false → m₂ y = m y
def WPost1 (h₀ : Heap) (L : Addr) (s : Shared) (x : Str) (st : List Str) (m : Str → Option Value) (J : Nat → Value → List (Addr × Obj) → Prop) (Q : Flow → Shared → Prop) (n : Nat) (f : Flow) (s₃ : Shared) : Prop :=
  match f with
  | .ret v => Q (.ret v) s₃
  | .brk => Q .next s₃
  | _ => WEnd1 h₀ L s x st m J n s₃
def WEnd2 (h₀ : Heap) (L : Addr) (s : Shared) (x z : Str) (st : List Str) (m : Str → Option Value) (J : Nat → Value → Value → List (Addr × Obj) → Prop) (n : Nat) (s₃ : Shared) : Prop :=
  ∃ h' tk m₂ news₂ v v₂ n', s₃ = { s with heap := h', toks := tk } ∧ Fr h₀ L h' m₂ ∧ News h₀ L h' news₂ ∧ n' < n ∧ m₂ x = some v ∧ m₂ z = some v₂ ∧ J n' v v₂ news₂ ∧ ∀ y, y ≠ x → y ≠ z → st.contains y = false → m₂ y = m y
def WPost2 (h₀ : Heap) (L : Addr) (s : Shared) (x z : Str) (st : List Str) (m : Str → Option Value) (J : Nat → Value → Value → List (Addr × Obj) → Prop) (Q : Flow → Shared → Prop) (n : Nat) (f : Flow) (s₃ : Shared) : Prop :=
  match f with
  | .ret v => Q (.ret v) s₃
  | .brk => Q .next s₃
  | _ => WEnd2 h₀ L s x z st m J n s₃
section
variable {prog : Program} {w : World} {A : Around} {E : Value → Shared → Prop} {Q : Flow → Shared → Prop} {s : Shared} {env : Env} {h₀ : Heap} {L : Addr}
theorem While1 {test : PySem.Expr} {body : List Stmt} {pos : Pos} {m : Str → Option Value} {news : List (Addr × Obj)} {v₀ : Value} {n₀ : Nat} (x : Str) (st : List Str) (J : Nat → Value → List (Addr × Obj) → Prop)
    (F : Fr h₀ L s.heap m) (N : News h₀ L s.heap news) (hx : m x = some v₀) (hJ : J n₀ v₀ news)
    (turn : ∀ n v (u : Str → Option Value) news₁ h₁ tk₁, J n v news₁ → Fr h₀ L h₁ (fun y => if y = x then some v else if st.contains y then u y else m y) → News h₀ L h₁ news₁ →
      wpAny (model prog w) A (isTrue test env (eval test env)) (fun b s₂ =>
        if b = true then wpAny (model prog w) A (execs body env) (WPost1 h₀ L s x st m J Q n) E s₂ else Q .next s₂) E { s with heap := h₁, toks := tk₁ })
    (hE : PassesOwn (model prog w) A env E := by passes_own) :
    wpAny (model prog w) A (exec (.While test body [] pos) env) Q E s := by
  refine While_inv2 (fun n m₁ nx => ∃ v, m₁ x = some v ∧ J n v nx ∧ ∀ y, y ≠ x → st.contains y = false → m₁ y = m y) F N ⟨v₀, hx, hJ, fun _ _ _ => rfl⟩ ?_ hE
  rintro n m₁ nx h tk F₁ N₁ ⟨v, hv, hJ₁, hm⟩
  have e : (fun y => if y = x then some v else if st.contains y then m₁ y else m y) = m₁ := by
    funext y
    by_cases h1 : y = x
    · subst h1; simp [hv]
    · simp only [if_neg h1]
      cases h9 : st.contains y with
      | true => simp
      | false => simp only [Bool.false_eq_true, if_false]; exact (hm y h1 h9).symm
  refine wpAny_mono (turn n v m₁ nx h tk hJ₁ (by rw [e]; exact F₁) N₁) (fun b s₂ p => ?_) fun _ _ x => x
  cases b with
  | false => simpa using p
  | true =>
    simp only [if_true] at p ⊢
    refine wpAny_mono p (fun f s₃ q => ?_) fun _ _ x => x
    cases f with
    | ret v => exact q
    | brk => exact q
    | next =>
      obtain ⟨h', tk', m', news', v', n', rfl, F', N', hn, hv', hJ', hm'⟩ := q
      exact ⟨h', tk', m', news', n', rfl, F', N', hn, v', hv', hJ', hm'⟩
    | cont =>
      obtain ⟨h', tk', m', news', v', n', rfl, F', N', hn, hv', hJ', hm'⟩ := q
      exact ⟨h', tk', m', news', n', rfl, F', N', hn, v', hv', hJ', hm'⟩
theorem While2 {test : PySem.Expr} {body : List Stmt} {pos : Pos} {m : Str → Option Value} {news : List (Addr × Obj)} {v₀ w₀ : Value} {n₀ : Nat} (x z : Str) (st : List Str) (J : Nat → Value → Value → List (Addr × Obj) → Prop)
    (F : Fr h₀ L s.heap m) (N : News h₀ L s.heap news) (hx : m x = some v₀) (hz : m z = some w₀) (hJ : J n₀ v₀ w₀ news)
    (turn : ∀ n v v₂ (u : Str → Option Value) news₁ h₁ tk₁, J n v v₂ news₁ → Fr h₀ L h₁ (fun y => if y = x then some v else if y = z then some v₂ else if st.contains y then u y else m y) → News h₀ L h₁ news₁ →
      wpAny (model prog w) A (isTrue test env (eval test env)) (fun b s₂ =>
        if b = true then wpAny (model prog w) A (execs body env) (WPost2 h₀ L s x z st m J Q n) E s₂ else Q .next s₂) E { s with heap := h₁, toks := tk₁ })
    (hE : PassesOwn (model prog w) A env E := by passes_own) :
    wpAny (model prog w) A (exec (.While test body [] pos) env) Q E s := by
  refine While_inv2 (fun n m₁ nx => ∃ v v₂, m₁ x = some v ∧ m₁ z = some v₂ ∧ J n v v₂ nx ∧ ∀ y, y ≠ x → y ≠ z → st.contains y = false → m₁ y = m y) F N ⟨v₀, w₀, hx, hz, hJ, fun _ _ _ _ => rfl⟩ ?_ hE
  rintro n m₁ nx h tk F₁ N₁ ⟨v, v₂, hv, hv₂, hJ₁, hm⟩
  have e : (fun y => if y = x then some v else if y = z then some v₂ else if st.contains y then m₁ y else m y) = m₁ := by
    funext y
    by_cases h1 : y = x
    · subst h1; simp [hv]
    · simp only [if_neg h1]
      by_cases h2 : y = z
      · subst h2; simp [hv₂]
      · simp only [if_neg h2]
        cases h9 : st.contains y with
        | true => simp
        | false => simp only [Bool.false_eq_true, if_false]; exact (hm y h1 h2 h9).symm
  refine wpAny_mono (turn n v v₂ m₁ nx h tk hJ₁ (by rw [e]; exact F₁) N₁) (fun b s₂ p => ?_) fun _ _ x => x
  cases b with
  | false => simpa using p
  | true =>
    simp only [if_true] at p ⊢
    refine wpAny_mono p (fun f s₃ q => ?_) fun _ _ x => x
    cases f with
    | ret v => exact q
    | brk => exact q
    | next =>
      obtain ⟨h', tk', m', news', v', v₂', n', rfl, F', N', hn, hv', hw', hJ', hm'⟩ := q
      exact ⟨h', tk', m', news', n', rfl, F', N', hn, v', v₂', hv', hw', hJ', hm'⟩
    | cont =>
      obtain ⟨h', tk', m', news', v', v₂', n', rfl, F', N', hn, hv', hw', hJ', hm'⟩ := q
      exact ⟨h', tk', m', news', n', rfl, F', N', hn, v', v₂', hv', hw', hJ', hm'⟩
end

theorem area_nd {nd : Nat → Nd} {i j l : Nat} : areaG (fun n : Nd => n.p.x) (fun n => n.p.y) (nd i) (nd j) (nd l) = areaG (fun i => (nd i).p.x) (fun i => (nd i).p.y) i j l := rfl
theorem eq_nd {nd : Nat → Nd} {i j : Nat} : eqG (fun n : Nd => n.p.x) (fun n => n.p.y) (nd i) (nd j) = eqG (fun i => (nd i).p.x) (fun i => (nd i).p.y) i j := rfl
theorem inter_nd {nd : Nat → Nd} {i j l o : Nat} : interG (fun n : Nd => n.p.x) (fun n => n.p.y) (nd i) (nd j) (nd l) (nd o) = interG (fun i => (nd i).p.x) (fun i => (nd i).p.y) i j l o := rfl
theorem bool_dec {p : Prop} {i j : Decidable p} : Value.bool (@decide p i) = Value.bool (@decide p j) := by
  have : i = j := Subsingleton.elim i j
  rw [this]
/-- signed_area's loop -/
def saLoop : Pt → List Pt → Int → Int
  | _, [], s => s
  | q, p :: r, s => saLoop p r (s + (p.x - q.x) * (p.y + q.y))
def saZ (l : Pt) (pts : List Pt) : Int := saLoop l pts 0
def refsOf (pts : List Pt) : List Value := pts.map fun p => .ref p.a

structure PS where
  pv : Nat → Nat
  nx : Nat → Nat

/-- the nodes of a state stand in the ledger -/
def RIn (w : World) (news : List (Addr × Obj)) (nd : Nat → Nd) (k : Nat) (σ : PS) : Prop :=
  ∀ i, i < k → ((nd i).a, instObj 59 (nd i).d) ∈ news ∧ ((nd i).d, ndObj w.params (nd i) (.ref (nd (σ.pv i)).a) (.ref (nd (σ.nx i)).a)) ∈ news ∧ σ.pv i < k ∧ σ.nx i < k
theorem RIn.node {w : World} {news : List (Addr × Obj)} {nd : Nat → Nd} {k : Nat} {σ : PS} (R : RIn w news nd k σ) {i : Nat} (h : i < k) : NodeIn w news (nd i) :=
  ⟨(R i h).1, _, _, (R i h).2.1⟩
theorem NodeIn.mono {w : World} {news news' : List (Addr × Obj)} {n : Nd} (h : NodeIn w news n) (s : ∀ q ∈ news, q ∈ news') : NodeIn w news' n :=
  ⟨s _ h.1, h.2.choose, h.2.choose_spec.choose, s _ h.2.choose_spec.choose_spec⟩
/-- no two nodes share an address -/
def NdInj (nd : Nat → Nd) (k : Nat) : Prop := ∀ i j, i < k → j < k → ((nd i).a = (nd j).a → i = j) ∧ ((nd i).d = (nd j).d → i = j)

def PS.setPv (σ : PS) (j v : Nat) : PS := ⟨fun i => if i = j then v else σ.pv i, σ.nx⟩
def PS.setNx (σ : PS) (j v : Nat) : PS := ⟨σ.pv, fun i => if i = j then v else σ.nx i⟩
/-- remove_node -/
def PS.rm (σ : PS) (p : Nat) : PS :=
  let τ := σ.setPv (σ.nx p) (σ.pv p)
  τ.setNx (τ.pv p) (τ.nx p)
/-- one more node, behind the node j -/
def PS.ext (σ : PS) (k j : Nat) : PS := ⟨fun i => if i = k then j else σ.pv i, fun i => if i = k then σ.nx j else σ.nx i⟩
def PS.ins (σ : PS) (k j : Nat) : PS := ((σ.ext k j).setPv (σ.nx j) k).setNx j k
def ext (nd : Nat → Nd) (k : Nat) (n : Nd) : Nat → Nd := fun i => if i = k then n else nd i
/-- what is no dict of these nodes stays -/
def FrmA (nd : Nat → Nd) (k : Nat) (news news' : List (Addr × Obj)) : Prop := ∀ q ∈ news, (∀ i, i < k → q.1 ≠ (nd i).d) → q ∈ news'
/-- what is no node's dict stays -/
def Frm (news news' : List (Addr × Obj)) : Prop := ∀ q ∈ news, (∀ es, q.2 ≠ dictOf es 10) → q ∈ news'
theorem Frm.refl {news : List (Addr × Obj)} : Frm news news := fun _ h _ => h
theorem Frm.trans {a b c : List (Addr × Obj)} (h : Frm a b) (k : Frm b c) : Frm a c := fun q hq hn => k q (h q hq hn) hn
theorem news_ne {h₀ h : Heap} {L : Addr} {news : List (Addr × Obj)} (N : News h₀ L h news) {a b : Addr} {o o' : Obj} (ha : (a, o) ∈ news) (hb : (b, o') ∈ news) (hne : o ≠ o') : a ≠ b := fun e => by
  subst e
  have h1 := (N _ ha).1
  have h2 := (N _ hb).1
  rw [h1] at h2
  exact hne (Option.some.inj h2)
theorem dict_ne {es es' : List DictEntry} {n n' : Nat} (h : n ≠ n') : dictOf es n ≠ dictOf es' n' := fun e => by
  injection e with _ _ h3 _
  injection h3 with _ h4
  exact h h4
theorem inst_ne {C d : Addr} {es : List DictEntry} {n : Nat} : instObj C d ≠ dictOf es n := fun e => by
  injection e with h1 _ _ _
  cases h1
section
variable {w : World} {h₀ h : Heap} {L : Addr} {news news' : List (Addr × Obj)} {nd : Nat → Nd} {k : Nat} {σ : PS}
theorem RIn.off (R : RIn w news nd k σ) {D : Addr} (hD : ∀ i, i < k → (nd i).a ≠ D ∧ (nd i).d ≠ D) (hk : ∀ q ∈ news, q.1 ≠ D → q ∈ news') : RIn w news' nd k σ := fun i hi =>
  ⟨hk _ (R i hi).1 (hD i hi).1, hk _ (R i hi).2.1 (hD i hi).2, (R i hi).2.2.1, (R i hi).2.2.2⟩
theorem ext_old {n : Nd} {i : Nat} (h : i < k) : ext nd k n i = nd i := if_neg (Nat.ne_of_lt h)
theorem ext_new {n : Nd} : ext nd k n k = n := if_pos rfl
theorem NdInj.ext {n : Nd} (I : NdInj nd k) (h : ∀ i, i < k → (nd i).a < n.a ∧ (nd i).d < n.d) : NdInj (Mine.ext nd k n) (k + 1) := by
  intro i j hi hj
  rcases Nat.lt_succ_iff_lt_or_eq.mp hi with hi | rfl
  · rcases Nat.lt_succ_iff_lt_or_eq.mp hj with hj | rfl
    · rw [ext_old hi, ext_old hj]; exact I i j hi hj
    · rw [ext_old hi, ext_new]; exact ⟨fun e => absurd e (Nat.ne_of_lt (h i hi).1), fun e => absurd e (Nat.ne_of_lt (h i hi).2)⟩
  · rcases Nat.lt_succ_iff_lt_or_eq.mp hj with hj | rfl
    · rw [ext_old hj, ext_new]; exact ⟨fun e => absurd e.symm (Nat.ne_of_lt (h j hj).1), fun e => absurd e.symm (Nat.ne_of_lt (h j hj).2)⟩
    · exact ⟨fun _ => rfl, fun _ => rfl⟩
theorem RIn.ext {n : Nd} {j : Nat} (R : RIn w news nd k σ) (hj : j < k) (h1 : (n.a, instObj 59 n.d) ∈ news) (h2 : (n.d, ndObj w.params n (.ref (nd j).a) (.ref (nd (σ.nx j)).a)) ∈ news) : RIn w news (Mine.ext nd k n) (k + 1) (σ.ext k j) := by
  intro i hi
  rcases Nat.lt_succ_iff_lt_or_eq.mp hi with hi | rfl
  · obtain ⟨r1, r2, r3, r4⟩ := R i hi
    have e1 : (σ.ext k j).pv i = σ.pv i := if_neg (Nat.ne_of_lt hi)
    have e2 : (σ.ext k j).nx i = σ.nx i := if_neg (Nat.ne_of_lt hi)
    rw [e1, e2, ext_old hi, ext_old r3, ext_old r4]
    exact ⟨r1, r2, Nat.lt_succ_of_lt r3, Nat.lt_succ_of_lt r4⟩
  · obtain ⟨r1, r2, r3, r4⟩ := R j hj
    have e1 : (σ.ext i j).pv i = j := if_pos rfl
    have e2 : (σ.ext i j).nx i = σ.nx j := if_pos rfl
    rw [e1, e2, ext_new, ext_old hj, ext_old r4]
    exact ⟨h1, h2, Nat.lt_succ_of_lt hj, Nat.lt_succ_of_lt r4⟩
theorem RIn.setPv (R : RIn w news nd k σ) (I : NdInj nd k) (N : News h₀ L h news) {j v : Nat} (hj : j < k) (hv : v < k)
    (hd : ((nd j).d, ndObj w.params (nd j) (.ref (nd v).a) (.ref (nd (σ.nx j)).a)) ∈ news') (hk : ∀ q ∈ news, q.1 ≠ (nd j).d → q ∈ news') : RIn w news' nd k (σ.setPv j v) := by
  intro i hi
  obtain ⟨h1, h2, h3, h4⟩ := R i hi
  refine ⟨hk _ h1 (news_ne N h1 (R j hj).2.1 inst_ne), ?_, ?_, h4⟩
  · by_cases e : i = j
    · subst e
      have e9 : (σ.setPv i v).pv i = v := if_pos rfl
      rw [e9]; exact hd
    · have e9 : (σ.setPv j v).pv i = σ.pv i := if_neg e
      rw [e9]
      exact hk _ h2 (fun q => e ((I i j hi hj).2 q))
  · by_cases e : i = j
    · have e9 : (σ.setPv j v).pv i = v := if_pos e
      rw [e9]; exact hv
    · have e9 : (σ.setPv j v).pv i = σ.pv i := if_neg e
      rw [e9]; exact h3
theorem RIn.setNx (R : RIn w news nd k σ) (I : NdInj nd k) (N : News h₀ L h news) {j v : Nat} (hj : j < k) (hv : v < k)
    (hd : ((nd j).d, ndObj w.params (nd j) (.ref (nd (σ.pv j)).a) (.ref (nd v).a)) ∈ news') (hk : ∀ q ∈ news, q.1 ≠ (nd j).d → q ∈ news') : RIn w news' nd k (σ.setNx j v) := by
  intro i hi
  obtain ⟨h1, h2, h3, h4⟩ := R i hi
  refine ⟨hk _ h1 (news_ne N h1 (R j hj).2.1 inst_ne), ?_, h3, ?_⟩
  · by_cases e : i = j
    · subst e
      have e9 : (σ.setNx i v).nx i = v := if_pos rfl
      rw [e9]; exact hd
    · have e9 : (σ.setNx j v).nx i = σ.nx i := if_neg e
      rw [e9]
      exact hk _ h2 (fun q => e ((I i j hi hj).2 q))
  · by_cases e : i = j
    · have e9 : (σ.setNx j v).nx i = v := if_pos e
      rw [e9]; exact hv
    · have e9 : (σ.setNx j v).nx i = σ.nx i := if_neg e
      rw [e9]; exact h4
theorem RIn.frm (R : RIn w news nd k σ) (N : News h₀ L h news) {j : Nat} (hj : j < k) (hk : ∀ q ∈ news, q.1 ≠ (nd j).d → q ∈ news') : Frm news news' := fun q hq hn =>
  hk q hq (news_ne N (show (q.1, q.2) ∈ news from hq) (R j hj).2.1 (hn _))
end
section
variable {prog : Program} {w : World} {A : Around} {E : Value → Shared → Prop} {s : Shared} {K : Frag} {x C dx L : Addr} {h₀ : Heap} {m : Str → Option Value} {news : List (Addr × Obj)} {es es' : List DictEntry} {n n' : Nat} {name : Str} {v : Value}
/-- a store into an object of the ledger, whatever else stands in it -/
theorem set_sym {Q : Unit → Shared → Prop} (F : Fr h₀ L s.heap m) (X₀ : K.In h₀) (N : News h₀ L s.heap news) (hx : (x, instObj C dx) ∈ news) (hd : (dx, dictOf es n) ∈ news)
    (hs : findIn K (.ref C) "__setattr__" = some (some (.builtin "object.__setattr__"))) (hp : plainOver K C = true) (ht : takerIn K C name = some none) (hh : hasDictIn K C = true) (hl : (getL name es).isSome = true)
    (e : ∀ t, (putL name (PyData.keyHash w.params name) (.str name t) v es, putN name es n) = (es', n')) (hz : es'.length ≤ 1000)
    (h : ∀ h' news', Fr h₀ L h' m → News h₀ L h' news' → (dx, dictOf es' n') ∈ news' → (∀ q ∈ news, q.1 ≠ dx → q ∈ news') → Q () { s with heap := h', toks := s.toks + 2 }) :
    wpAny (model prog w) A (setAttr (.ref x) name v) Q E s := by
  have N₁ : News h₀ L s.heap ((dx, dictOf es n) :: news.filter (fun q => decide (q.1 ≠ dx))) := fun q hq => by
    rcases List.mem_cons.mp hq with rfl | hq
    · exact N _ hd
    · exact N _ (List.mem_filter.mp hq).1
  refine set_dict F X₀ N₁ (InstAt.of_news N hx hd) rfl hs hp ht hh hl (e _) (Upd.head (fun q hq => ?_)) hz (fun h' F' N' => h h' _ F' N' (.head _) fun q hq hne => .tail _ (List.mem_filter.mpr ⟨hq, by simpa using hne⟩))
  have := (List.mem_filter.mp hq).2
  simpa using this
end

section
variable {M : Model} {A : Around} {E : Value → Shared → Prop} {s : Shared} {h₀ : Heap} {L : Addr} {news : List (Addr × Obj)} {Q : Value → Shared → Prop}
theorem isSame_inst {x y C C' d d' : Addr} {R : Bool → Shared → Prop} (N : News h₀ L s.heap news) (hx : (x, instObj C d) ∈ news) (hy : (y, instObj C' d') ∈ news)
    (h : R (decide (x = y)) s) : wpAny M A (isSame (.ref x) (.ref y)) R E s := by
  by_cases e : x = y
  · rw [decide_eq_true e] at h; subst e; exact wpAny_isSame_ref_self h
  · rw [decide_eq_false e] at h; exact wpAny_isSame_ref_other e (N _ hx).1 (N _ hy).1 (by intro q; cases q) h
theorem is_nd {nd : Nat → Nd} {k i j : Nat} (N : News h₀ L s.heap news) (I : NdInj nd k) (hi : i < k) (hj : j < k) (hx : ((nd i).a, instObj 59 (nd i).d) ∈ news) (hy : ((nd j).a, instObj 59 (nd j).d) ∈ news)
    (h : Q (.bool (decide (i = j))) s) : wpAny M A (compareOp .Is (.ref (nd i).a) (.ref (nd j).a)) Q E s := by
  have e : decide ((nd i).a = (nd j).a) = decide (i = j) := decide_eq_decide.mpr ⟨(I i j hi hj).1, fun q => by rw [q]⟩
  show wpAny M A (do return .bool (← isSame (.ref (nd i).a) (.ref (nd j).a))) Q E s
  exact wpAny_bind (isSame_inst N hx hy (wpAny_pure (by rw [e]; exact h)))
theorem isNot_nd {nd : Nat → Nd} {k i j : Nat} (N : News h₀ L s.heap news) (I : NdInj nd k) (hi : i < k) (hj : j < k) (hx : ((nd i).a, instObj 59 (nd i).d) ∈ news) (hy : ((nd j).a, instObj 59 (nd j).d) ∈ news)
    (h : Q (.bool (!decide (i = j))) s) : wpAny M A (compareOp .IsNot (.ref (nd i).a) (.ref (nd j).a)) Q E s := by
  have e : decide ((nd i).a = (nd j).a) = decide (i = j) := decide_eq_decide.mpr ⟨(I i j hi hj).1, fun q => by rw [q]⟩
  show wpAny M A (do return .bool (!(← isSame (.ref (nd i).a) (.ref (nd j).a)))) Q E s
  exact wpAny_bind (isSame_inst N hx hy (wpAny_pure (by rw [e]; exact h)))
end

abbrev T3 := Addr × Addr × Addr
abbrev tupOf (vs : List Value) : Obj := { cls := .type "tuple", data := .seq vs.toArray }
/-- triangles told: tuples of three points -/
inductive TrsAre (news : List (Addr × Obj)) : List Value → List T3 → Prop
  | nil : TrsAre news [] []
  | cons {a : Addr} {t : T3} {vs : List Value} {ts : List T3} : (a, tupOf [.ref t.1, .ref t.2.1, .ref t.2.2]) ∈ news → TrsAre news vs ts → TrsAre news (.ref a :: vs) (t :: ts)
theorem TrsAre.length {news : List (Addr × Obj)} {vs : List Value} {ts : List T3} (h : TrsAre news vs ts) : vs.length = ts.length := by
  induction h with
  | nil => rfl
  | cons _ _ ih => simp [ih]
theorem TrsAre.mono {news news' : List (Addr × Obj)} {vs : List Value} {ts : List T3} (h : TrsAre news vs ts) (s : ∀ a us, (a, tupOf us) ∈ news → (a, tupOf us) ∈ news') : TrsAre news' vs ts := by
  induction h with
  | nil => exact .nil
  | cons hm _ ih => exact .cons (s _ _ hm) ih
theorem TrsAre.get {news : List (Addr × Obj)} {vs : List Value} {ts : List T3} (h : TrsAre news vs ts) {i : Nat} (hi : i < ts.length) : ∃ a t, vs[i]? = some (.ref a) ∧ ts[i]? = some t ∧ (a, tupOf [.ref t.1, .ref t.2.1, .ref t.2.2]) ∈ news := by
  induction h generalizing i with
  | nil => exact absurd hi (Nat.not_lt_zero _)
  | cons hm _ ih =>
    cases i with
    | zero => exact ⟨_, _, rfl, rfl, hm⟩
    | succ i =>
      obtain ⟨a, t, h1, h2, h3⟩ := ih (Nat.lt_of_succ_lt_succ hi)
      exact ⟨a, t, by simpa using h1, by simpa using h2, h3⟩
theorem TrsAre.snoc {news : List (Addr × Obj)} {vs : List Value} {ts : List T3} {a : Addr} {t : T3} (h : TrsAre news vs ts) (hm : (a, tupOf [.ref t.1, .ref t.2.1, .ref t.2.2]) ∈ news) : TrsAre news (vs ++ [.ref a]) (ts ++ [t]) := by
  induction h with
  | nil => exact .cons hm .nil
  | cons hm' _ ih => exact .cons hm' ih
theorem tup_ne_list {us : List Value} {its : Array Value} {n : Nat} : tupOf us ≠ listOf its n := fun e => by
  injection e with h1 _ _ _
  injection h1 with h2
  exact absurd h2 (by decide)
theorem tup_ne_dict {us : List Value} {es : List DictEntry} {n : Nat} : tupOf us ≠ dictOf es n := fun e => by
  injection e with _ _ h3 _
  cases h3
theorem list_ne_dict {its : Array Value} {k : Nat} {es : List DictEntry} {n : Nat} : listOf its k ≠ dictOf es n := fun e => by
  injection e with _ _ h3 _
  cases h3
theorem inst_ne_list {C d : Addr} {its : Array Value} {k : Nat} : instObj C d ≠ listOf its k := fun e => by
  injection e with h1 _ _ _
  cases h1
def TrIn (news : List (Addr × Obj)) (tr : Addr) (ts : List T3) : Prop := ∃ vs ep, (tr, listOf vs.toArray ep) ∈ news ∧ TrsAre news vs ts
/-- what is no node's dict and not the list of triangles stays -/
def FrmT (tr : Addr) (news news' : List (Addr × Obj)) : Prop := ∀ q ∈ news, (∀ es, q.2 ≠ dictOf es 10) → q.1 ≠ tr → q ∈ news'
theorem FrmT.refl {tr : Addr} {news : List (Addr × Obj)} : FrmT tr news news := fun _ h _ _ => h
theorem FrmT.trans {tr : Addr} {a b c : List (Addr × Obj)} (h : FrmT tr a b) (k : FrmT tr b c) : FrmT tr a c := fun q hq hn ht => k q (h q hq hn ht) hn ht
theorem Frm.toT {tr : Addr} {a b : List (Addr × Obj)} (h : Frm a b) : FrmT tr a b := fun q hq hn _ => h q hq hn
theorem TrIn.frm {tr : Addr} {ts : List T3} {a b : List (Addr × Obj)} (h : TrIn a tr ts) (k : Frm a b) : TrIn b tr ts := by
  obtain ⟨vs, ep, h1, h2⟩ := h
  exact ⟨vs, ep, k _ h1 (fun es => list_ne_dict), h2.mono fun _ _ hm => k _ hm fun es => tup_ne_dict⟩
def adr (nd : Nat → Nd) (t : Nat × Nat × Nat) : T3 := ((nd t.1).p.a, (nd t.2.1).p.a, (nd t.2.2).p.a)
section
variable {M : Model} {A : Around} {E : Value → Shared → Prop} {s : Shared} {L : Addr} {h₀ : Heap} {m : Str → Option Value} {news : List (Addr × Obj)} {prog : Program} {w : World}
/-- an append to a list of the ledger, whatever else stands in it -/
theorem append_sym {D : Addr} {vs : List Value} {n : Nat} {x : Value} {Q : Value → Shared → Prop} (F : Fr h₀ L s.heap m) (N : News h₀ L s.heap news) (hd : (D, listOf vs.toArray n) ∈ news)
    (h : ∀ h' news', Fr h₀ L h' m → News h₀ L h' news' → (D, listOf (vs ++ [x]).toArray (n + 1)) ∈ news' → (∀ q ∈ news, q.1 ≠ D → q ∈ news') → Q .none { s with heap := h' }) (hsz : vs.length ≤ 1000000) : wpAny (model prog w) A (call (.builtin "list.append") [.ref D, x]) Q E s := by
  have N₁ : News h₀ L s.heap ((D, listOf vs.toArray n) :: news.filter (fun q => decide (q.1 ≠ D))) := fun q hq => by
    rcases List.mem_cons.mp hq with rfl | hq
    · exact N _ hd
    · exact N _ (List.mem_filter.mp hq).1
  refine append_K F N₁ (Upd.head (fun q hq => ?_)) (fun h' F' N' => h h' _ F' N' ?_ fun q hq hne => .tail _ (List.mem_filter.mpr ⟨hq, by simpa using hne⟩)) (by show vs.toArray.size ≤ sizeLine; rw [List.size_toArray]; exact Nat.le_trans hsz (by decide))
  · have := (List.mem_filter.mp hq).2
    simpa using this
  · rw [show (vs ++ [x]).toArray = vs.toArray.push x by simp]
    exact .head _
theorem RIn.offList {nd : Nat → Nd} {k : Nat} {σ : PS} {h : Heap} {news' : List (Addr × Obj)} {D : Addr} {its : Array Value} {n : Nat} (R : RIn w news nd k σ) (N : News h₀ L h news) (hd : (D, listOf its n) ∈ news) (hk : ∀ q ∈ news, q.1 ≠ D → q ∈ news') : RIn w news' nd k σ := fun i hi => by
  obtain ⟨h1, h2, h3, h4⟩ := R i hi
  exact ⟨hk _ h1 (news_ne N h1 hd inst_ne_list), hk _ h2 (news_ne N h2 hd fun e => list_ne_dict e.symm), h3, h4⟩
theorem TrsAre.offList {hh : Heap} {news' : List (Addr × Obj)} {D : Addr} {its : Array Value} {n : Nat} {vs : List Value} {ts : List T3} (h : TrsAre news vs ts) (N : News h₀ L hh news) (hd : (D, listOf its n) ∈ news) (hk : ∀ q ∈ news, q.1 ≠ D → q ∈ news') : TrsAre news' vs ts :=
  h.mono fun _ _ hm => hk _ hm (news_ne N hm hd tup_ne_list)
end
theorem RIn.mono {w : World} {news news' : List (Addr × Obj)} {nd : Nat → Nd} {k : Nat} {σ : PS} (R : RIn w news nd k σ) (s : ∀ q ∈ news, q ∈ news') : RIn w news' nd k σ := fun i hi =>
  ⟨s _ (R i hi).1, s _ (R i hi).2.1, (R i hi).2.2.1, (R i hi).2.2.2⟩

section
variable (x y : Nat → Int)
def cureT (σ : PS) (p : Nat) : Bool :=
  !eqG x y (σ.pv p) (σ.nx (σ.nx p)) && (interG x y (σ.pv p) p (σ.nx p) (σ.nx (σ.nx p)) &&
    (locG x y (σ.pv p) (σ.pv (σ.pv p)) (σ.nx (σ.pv p)) (σ.nx (σ.nx p)) && locG x y (σ.nx (σ.nx p)) (σ.pv (σ.nx (σ.nx p))) (σ.nx (σ.nx (σ.nx p))) (σ.pv p)))
def rm2 (σ : PS) (p : Nat) : PS := (σ.rm p).rm ((σ.rm p).nx p)
end
section
variable (x y : Nat → Int)
def filterF : Nat → PS → Nat → Nat → Option (PS × Nat)
  | 0, _, _, _ => none
  | n + 1, σ, p, e =>
    if (eqG x y p (σ.nx p) || decide (areaG x y (σ.pv p) p (σ.nx p) = 0)) = true then
      (if (σ.rm p).pv p = (σ.rm p).nx ((σ.rm p).pv p) then some (σ.rm p, (σ.rm p).pv p) else filterF n (σ.rm p) ((σ.rm p).pv p) ((σ.rm p).pv p))
    else if σ.nx p = e then some (σ, e) else filterF n σ (σ.nx p) e
end
section
variable (x y : Nat → Int) (f : Nat)
def cureFin (σ : PS) (p : Nat) (ts : List (Nat × Nat × Nat)) : Option (PS × Nat × List (Nat × Nat × Nat)) :=
  match filterF x y f σ p p with
  | none => none
  | some (τ, r) => some (τ, r, ts)
def cureF : Nat → PS → Nat → Nat → List (Nat × Nat × Nat) → Option (PS × Nat × List (Nat × Nat × Nat))
  | 0, _, _, _, _ => none
  | n + 1, σ, p, st, ts =>
    if cureT x y σ p = true then
      (if (rm2 σ p).nx (σ.nx (σ.nx p)) = σ.nx (σ.nx p) then cureFin x y f (rm2 σ p) ((rm2 σ p).nx (σ.nx (σ.nx p))) (ts ++ [(σ.pv p, p, σ.nx (σ.nx p))])
       else cureF n (rm2 σ p) ((rm2 σ p).nx (σ.nx (σ.nx p))) (σ.nx (σ.nx p)) (ts ++ [(σ.pv p, p, σ.nx (σ.nx p))]))
    else if σ.nx p = st then cureFin x y f σ (σ.nx p) ts else cureF n σ (σ.nx p) st ts
end
section
variable (x y : Nat → Int) (σ : PS)
def isEarLoop (a b c : Nat) : Nat → Nat → Option Bool
  | 0, _ => none
  | n + 1, p => if p = a then some true else if blockG x y a b c (σ.pv p) p (σ.nx p) then some false else isEarLoop a b c n (σ.nx p)
def isEarF (n : Nat) (e : Nat) : Option Bool :=
  if 0 ≤ areaG x y (σ.pv e) e (σ.nx e) then some false else isEarLoop x y σ (σ.pv e) e (σ.nx e) n (σ.nx (σ.nx e))
end
section
variable (x y : Nat → Int) (f : Nat)
/-- earcut_linked, but for what it does where no ear is found -/
def linkG (last : PS → Nat → List (Nat × Nat × Nat) → Option (List (Nat × Nat × Nat))) : Nat → PS → Nat → Nat → List (Nat × Nat × Nat) → Option (List (Nat × Nat × Nat))
  | 0, _, _, _, _ => none
  | n + 1, σ, e, st, ts =>
    if σ.pv e = σ.nx e then some ts
    else match isEarF x y σ f e with
      | none => none
      | some true => linkG last n (σ.rm e) ((σ.rm e).nx (σ.nx e)) ((σ.rm e).nx (σ.nx e)) (ts ++ [(σ.pv e, e, σ.nx e)])
      | some false => if σ.nx e = st then last σ (σ.nx e) ts else linkG last n σ (σ.nx e) st ts
def link2 (n : Nat) (σ : PS) (e : Nat) (ts : List (Nat × Nat × Nat)) : Option (List (Nat × Nat × Nat)) := linkG x y f (fun _ _ ts => some ts) n σ e e ts
def last1 (n : Nat) (σ : PS) (p : Nat) (ts : List (Nat × Nat × Nat)) : Option (List (Nat × Nat × Nat)) :=
  match filterF x y f σ p p with
  | none => none
  | some (τ, r) => match cureF x y f f τ r r ts with
    | none => none
    | some (τ', r', ts') => link2 x y f n τ' r' ts'
def link1 (n : Nat) (σ : PS) (e : Nat) (ts : List (Nat × Nat × Nat)) : Option (List (Nat × Nat × Nat)) := linkG x y f (last1 x y f n) n σ e e ts
def last0 (n : Nat) (σ : PS) (p : Nat) (ts : List (Nat × Nat × Nat)) : Option (List (Nat × Nat × Nat)) :=
  match filterF x y f σ p p with
  | none => none
  | some (τ, r) => link1 x y f n τ r ts
def link0 (n : Nat) (σ : PS) (e : Nat) (ts : List (Nat × Nat × Nat)) : Option (List (Nat × Nat × Nat)) := linkG x y f (last0 x y f n) n σ e e ts
end
/-- n nodes in a ring -/
def ringPS (n : Nat) : PS := ⟨fun i => if i = 0 then n - 1 else i - 1, fun i => if i + 1 = n then 0 else i + 1⟩
/-- what linked_list leaves: the state, the node handed back -/
def startPS (x y : Nat → Int) (m : Nat) : PS × Nat :=
  if eqG x y (m - 1) ((ringPS m).nx (m - 1)) = true then ((ringPS m).rm (m - 1), ((ringPS m).rm (m - 1)).nx (m - 1)) else (ringPS m, m - 1)
theorem ring_ins {n i : Nat} (hn : 0 < n) (hi : i < n + 1) : ((ringPS n).ins n (n - 1)).pv i = (ringPS (n + 1)).pv i ∧ ((ringPS n).ins n (n - 1)).nx i = (ringPS (n + 1)).nx i := by
  have e0 : (ringPS n).nx (n - 1) = 0 := if_pos (by omega)
  constructor
  · show (if i = (ringPS n).nx (n - 1) then n else if i = n then n - 1 else (ringPS n).pv i) = _
    rw [e0]
    show _ = if i = 0 then n + 1 - 1 else i - 1
    by_cases h : i = 0
    · rw [if_pos h, if_pos h]; omega
    · rw [if_neg h, if_neg h]
      by_cases h2 : i = n
      · rw [if_pos h2, h2]
      · rw [if_neg h2]; exact if_neg h
  · show (if i = n - 1 then n else if i = n then (ringPS n).nx (n - 1) else (ringPS n).nx i) = if i + 1 = n + 1 then 0 else i + 1
    rw [e0]
    by_cases h : i = n - 1
    · rw [if_pos h, if_neg (by omega)]; omega
    · rw [if_neg h]
      by_cases h2 : i = n
      · rw [if_pos h2, if_pos (by omega)]
      · rw [if_neg h2, if_neg (by omega)]
        exact if_neg (by omega)
theorem RIn.congr {w : World} {news : List (Addr × Obj)} {nd : Nat → Nd} {k : Nat} {σ τ : PS} (R : RIn w news nd k σ) (h : ∀ i, i < k → σ.pv i = τ.pv i ∧ σ.nx i = τ.nx i) : RIn w news nd k τ := fun i hi => by
  rw [← (h i hi).1, ← (h i hi).2]; exact R i hi
def SpecK (w : World) (f : Addr) (vals : List Value) (kw : List (Str × Value)) (news : List (Addr × Obj)) (D U : Nat) (Post : Value → List (Addr × Obj) → Prop) : Prop :=
  ∀ (mean : ExcName → Option Value) (mg mb : Str → Option Value) (dp un : Nat) (gd : Option (List Code)) (cn : Str) (cs : Scope) (a : Addr) (ccd : Value) (cl : List (Str × Addr)) (outer : List Env) (A₀ : Around) (base h₀ : Heap) (L : Addr) (m : Str → Option Value) (s : Shared) (Q E : Value → Shared → Prop),
    Below A₀ base outer h₀ → Fr h₀ L s.heap m → (Mine.hd.heap_39 w.params).In h₀ → News h₀ L s.heap news → Top VW LS mean mg mb h₀ → cs.kind = .function →
    dp + D < recursionLimit → un + U < cLine →
    (∀ r news' h' tk', Fr h₀ L h' m → News h₀ L h' news' → Post r news' → Q r { s with heap := h', toks := tk' }) →
    wpAny (model PySem.Challenge.rw_bj5012_02.row.prog w) (ktrTop dp un gd cn cs L a ccd cl outer) (call (.ref f) vals kw) Q E s
theorem use_specK {w : World} {f : Addr} {vals : List Value} {kw : List (Str × Value)} {news : List (Addr × Obj)} {D U : Nat} {Post : Value → List (Addr × Obj) → Prop}
    {mean : ExcName → Option Value} {mg mb : Str → Option Value} {dp un : Nat} {gd : Option (List Code)} {cn : Str} {cs : Scope} {a : Addr} {ccd : Value} {cl : List (Str × Addr)} {outer : List Env} {A₀ : Around} {base h₀ : Heap} {L : Addr} {m : Str → Option Value} {s : Shared} {Q E : Value → Shared → Prop}
    (B : Below A₀ base outer h₀) (F : Fr h₀ L s.heap m) (X : (Mine.hd.heap_39 w.params).In h₀) (N : News h₀ L s.heap news) (T : Top VW LS mean mg mb h₀) (hk : cs.kind = .function) (S : SpecK w f vals kw news D U Post)
    (hd : dp + D < recursionLimit) (hu : un + U < cLine)
    (ret : ∀ r news' h' tk', Fr h₀ L h' m → News h₀ L h' news' → Post r news' → Q r { s with heap := h', toks := tk' }) :
    wpAny (model PySem.Challenge.rw_bj5012_02.row.prog w) (ktrTop dp un gd cn cs L a ccd cl outer) (call (.ref f) vals kw) Q E s := S _ _ _ _ _ _ _ _ _ _ _ _ _ _ _ _ _ _ _ _ B F X N T hk hd hu ret
def LLJ (w : World) (news : List (Addr × Obj)) (order : List Pt) (i : Nat) (a b : Value) (nx : List (Addr × Obj)) : Prop :=
  (∀ q ∈ news, q ∈ nx) ∧ (∃ c t, b = .int c t) ∧ ((i = 0 ∧ a = .none) ∨ ∃ nd : Nat → Nd, 0 < i ∧ a = .ref (nd (i - 1)).a ∧ RIn w nx nd i (ringPS i) ∧ NdInj nd i ∧ (∀ j, j < i → order[j]? = some (nd j).p) ∧ ∀ q ∈ news, ∀ j, j < i → q.1 ≠ (nd j).d)
theorem RIn.filter {w : World} {news : List (Addr × Obj)} {nd : Nat → Nd} {k : Nat} {σ : PS} {I : Addr} (R : RIn w news nd k σ) (h : ∀ i, i < k → (nd i).a ≠ I ∧ (nd i).d ≠ I) : RIn w (news.filter fun q => decide (q.1 ≠ I)) nd k σ := fun i hi =>
  ⟨List.mem_filter.mpr ⟨(R i hi).1, by simpa using (h i hi).1⟩, List.mem_filter.mpr ⟨(R i hi).2.1, by simpa using (h i hi).2⟩, (R i hi).2.2.1, (R i hi).2.2.2⟩
/-- the first node -/
theorem LLJ.one {w : World} {news Λ l9 : List (Addr × Obj)} {order : List Pt} {n : Nd} {I : Addr} {oI : Obj} {c : Int} {t : Tok} (hs : ∀ q ∈ news, q ∈ Λ) (hI : ∀ q ∈ news, q.1 ≠ I) (hoI : (I, oI) ∈ Λ) (ho : order[0]? = some n.p)
    (h1 : (n.a, instObj 59 n.d) ∈ l9) (h2 : (n.d, ndObj w.params n (.ref n.a) (.ref n.a)) ∈ l9) (hk : ∀ q ∈ Λ, q ∈ l9) (hf : ∀ q ∈ Λ, q.1 < n.d ∧ q.1 < n.a) : LLJ w news order (0 + 1) (.ref n.a) (.int c t) (l9.filter fun q => decide (q.1 ≠ I)) := by
  have R : RIn w l9 (fun _ => n) 1 (ringPS 1) := fun i hi => by
    obtain rfl : i = 0 := by omega
    exact ⟨h1, h2, by decide, by decide⟩
  refine ⟨fun q hq => List.mem_filter.mpr ⟨hk _ (hs q hq), by simpa using hI q hq⟩, ⟨_, _, rfl⟩, .inr ⟨fun _ => n, by omega, rfl, R.filter fun _ _ => ⟨?_, ?_⟩, fun i j hi hj => ?_, fun j hj => ?_, fun q hq j _ => Nat.ne_of_lt (hf _ (hs q hq)).1⟩⟩
  · exact (Nat.ne_of_lt (hf _ hoI).2).symm
  · exact (Nat.ne_of_lt (hf _ hoI).1).symm
  · exact ⟨fun _ => by omega, fun _ => by omega⟩
  · obtain rfl : j = 0 := by omega
    exact ho
/-- one more node -/
theorem LLJ.more {w : World} {news Λ l9 : List (Addr × Obj)} {order : List Pt} {nd : Nat → Nd} {i : Nat} {n : Nd} {I : Addr} {oI : Obj} {c : Int} {t : Tok} (hi : 0 < i) (hs : ∀ q ∈ news, q ∈ Λ) (hI : ∀ q ∈ news, q.1 ≠ I) (hoI : (I, oI) ∈ Λ) (ho : ∀ j, j < i → order[j]? = some (nd j).p) (ho' : order[i]? = some n.p)
    (hnI : ∀ j, j < i → (nd j).a ≠ I ∧ (nd j).d ≠ I) (hn : ∀ q ∈ news, ∀ j, j < i → q.1 ≠ (nd j).d)
    (R : RIn w l9 (Mine.ext nd i n) (i + 1) ((ringPS i).ins i (i - 1))) (J : NdInj (Mine.ext nd i n) (i + 1)) (hk : FrmA nd i Λ l9) (hf : ∀ q ∈ Λ, q.1 < n.d ∧ q.1 < n.a) : LLJ w news order (i + 1) (.ref n.a) (.int c t) (l9.filter fun q => decide (q.1 ≠ I)) := by
  refine ⟨fun q hq => List.mem_filter.mpr ⟨hk _ (hs q hq) (hn q hq), by simpa using hI q hq⟩, ⟨_, _, rfl⟩, .inr ⟨Mine.ext nd i n, by omega, ?_, (R.congr fun j hj => ring_ins hi hj).filter fun j hj => ?_, J, fun j hj => ?_, fun q hq j hj => ?_⟩⟩
  · show _ = Value.ref (Mine.ext nd i n i).a
    rw [ext_new]
  · rcases Nat.lt_succ_iff_lt_or_eq.mp hj with hj | rfl
    · rw [ext_old hj]; exact hnI j hj
    · rw [ext_new]; exact ⟨(Nat.ne_of_lt (hf _ hoI).2).symm, (Nat.ne_of_lt (hf _ hoI).1).symm⟩
  · rcases Nat.lt_succ_iff_lt_or_eq.mp hj with hj | rfl
    · rw [ext_old hj]; exact ho j hj
    · rw [ext_new]; exact ho'
  · rcases Nat.lt_succ_iff_lt_or_eq.mp hj with hj | rfl
    · rw [ext_old hj]; exact hn q hq j hj
    · rw [ext_new]; exact Nat.ne_of_lt (hf _ (hs q hq)).1
/-- no node's dict -/
def no10 (o : Obj) : Bool := match o.data with | .dict _ n => n != 10 | _ => true
theorem no10_ne {o : Obj} (h : no10 o = true) : ∀ es, o ≠ dictOf es 10 := fun es e => by
  rw [e] at h
  exact absurd (show (10 != 10) = true from h) (by decide)
def No10 (news : List (Addr × Obj)) : Prop := ∀ q ∈ news, no10 q.2 = true
/-- the i-th of a list, the first beyond its end -/
def atO (order : List Pt) (i : Nat) : Option Pt := match order[i]? with | some p => some p | none => order[0]?
def XO (order : List Pt) (i : Nat) : Int := match atO order i with | some p => p.x | none => 0
def YO (order : List Pt) (i : Nat) : Int := match atO order i with | some p => p.y | none => 0
def AO (order : List Pt) (i : Nat) : Addr := match atO order i with | some p => p.a | none => 0
def adrO (order : List Pt) (t : Nat × Nat × Nat) : T3 := (AO order t.1, AO order t.2.1, AO order t.2.2)
/-- earcut on the points in the order of the nodes -/
def earcutN (f : Nat) (order : List Pt) : Option (List (Nat × Nat × Nat)) :=
  if (startPS (XO order) (YO order) order.length).1.nx (startPS (XO order) (YO order) order.length).2 = (startPS (XO order) (YO order) order.length).1.pv (startPS (XO order) (YO order) order.length).2 then some []
  else link0 (XO order) (YO order) f f (startPS (XO order) (YO order) order.length).1 (startPS (XO order) (YO order) order.length).2 []
theorem startPS_congr {x y x' y' : Nat → Int} {m : Nat} (hm : 0 < m) (h : ∀ i, i < m → x i = x' i ∧ y i = y' i) : startPS x y m = startPS x' y' m := by
  have e0 : (ringPS m).nx (m - 1) = 0 := if_pos (by omega)
  unfold startPS eqG
  rw [e0, (h (m - 1) (by omega)).1, (h (m - 1) (by omega)).2, (h 0 hm).1, (h 0 hm).2]
theorem ll_norm {w : World} {news' : List (Addr × Obj)} {order : List Pt} {nd : Nat → Nd} (hm : 0 < order.length)
    (h2 : (startPS (fun i => (nd i).p.x) (fun i => (nd i).p.y) order.length).2 < order.length)
    (R : RIn w news' nd order.length (startPS (fun i => (nd i).p.x) (fun i => (nd i).p.y) order.length).1) (I : NdInj nd order.length) (ho : ∀ i, i < order.length → order[i]? = some (nd i).p) :
    ∃ nd' : Nat → Nd, (fun i => (nd' i).p.x) = XO order ∧ (fun i => (nd' i).p.y) = YO order ∧ (∀ i, (nd' i).p.a = AO order i) ∧
      nd' (startPS (XO order) (YO order) order.length).2 = nd (startPS (fun i => (nd i).p.x) (fun i => (nd i).p.y) order.length).2 ∧ (startPS (XO order) (YO order) order.length).2 < order.length ∧
      RIn w news' nd' order.length (startPS (XO order) (YO order) order.length).1 ∧ NdInj nd' order.length := by
  have hat : ∀ i, atO order i = some (if i < order.length then nd i else nd 0).p := fun i => by
    unfold atO
    by_cases hi : i < order.length
    · rw [ho i hi, if_pos hi]
    · rw [List.getElem?_eq_none (by omega), if_neg hi]; exact ho 0 hm
  have eS : startPS (XO order) (YO order) order.length = startPS (fun i => (nd i).p.x) (fun i => (nd i).p.y) order.length := startPS_congr hm fun i hi => by
    unfold XO YO; rw [hat i, if_pos hi]; exact ⟨rfl, rfl⟩
  refine ⟨fun i => if i < order.length then nd i else nd 0, ?_, ?_, ?_, ?_, ?_, ?_, ?_⟩
  · funext i; unfold XO; rw [hat i]
  · funext i; unfold YO; rw [hat i]
  · intro i; unfold AO; rw [hat i]
  · rw [eS]; exact if_pos h2
  · rw [eS]; exact h2
  · rw [eS]
    intro i hi
    obtain ⟨r1, r2, r3, r4⟩ := R i hi
    dsimp only
    rw [if_pos hi, if_pos r3, if_pos r4]
    exact ⟨r1, r2, r3, r4⟩
  · intro i j hi hj
    dsimp only
    rw [if_pos hi, if_pos hj]
    exact I i j hi hj
def orderOf (last : Pt) (pts : List Pt) : List Pt := if saZ last pts < 0 then pts else pts.reverse
/-- rows: tuples of two ints -/
def RowsAre (news : List (Addr × Obj)) (vs : List Value) (rs : List (Int × Int)) : Prop :=
  vs.length = rs.length ∧ ∀ (i : Nat) (r : Int × Int), rs[i]? = some r → ∃ (a : Addr) (tx ty : Tok), vs[i]? = some (Value.ref a) ∧ (a, tupOf [.int r.1 tx, .int r.2 ty]) ∈ news
def twTerm (rs : List (Int × Int)) (k : Nat) : Int := match rs[k]?, rs[(k + 1) % rs.length]? with
  | some r, some q => r.1 * q.2 - q.1 * r.2
  | _, _ => 0
def twSum (rs : List (Int × Int)) : Nat → Int
  | 0 => 0
  | k + 1 => twSum rs k + twTerm rs k
def twZ (rs : List (Int × Int)) : Int := twSum rs rs.length
end Mine

open PySem PySem.W PyProof.Rows PySem.Calls
set_option Elab.async false
set_option maxRecDepth 100000
namespace Mine
theorem freshML : True ∧ True := by
  w_top off
  try (walk1; fail)
  exact ⟨trivial, trivial⟩
end Mine
namespace Mine
/-! for, by what holds of two names -/
def LEnd2 (h₀ : Heap) (L : Addr) (s : Shared) (I : Addr) (Λ lo : List (Addr × Obj)) (x z1 z2 : Str) (st : List Str) (m : Str → Option Value) (J : Value → Value → List (Addr × Obj) → Prop) (s₃ : Shared) : Prop :=
  ∃ h' tk m' news' a b, s₃ = { s with heap := h', toks := tk } ∧ Fr h₀ L h' m' ∧ News h₀ L h' news' ∧ (∀ q ∈ Λ, q.1 = I → q ∈ news') ∧ (∀ q ∈ lo, q ∈ news') ∧ m' z1 = some a ∧ m' z2 = some b ∧ J a b (news'.filter fun q => decide (q.1 ≠ I)) ∧ ∀ y, y ≠ x → y ≠ z1 → y ≠ z2 → st.contains y = false → m' y = m y
def LPost2 (h₀ : Heap) (L : Addr) (s : Shared) (I : Addr) (Λ lo : List (Addr × Obj)) (x z1 z2 : Str) (st : List Str) (m : Str → Option Value) (J : Value → Value → List (Addr × Obj) → Prop) (Q : Flow → Shared → Prop) (f : Flow) (s₃ : Shared) : Prop :=
  match f with
  | .ret v => Q (.ret v) s₃
  | .brk => Q .next s₃
  | _ => LEnd2 h₀ L s I Λ lo x z1 z2 st m J s₃
section
variable {prog : Program} {w : World} {A : Around} {E : Value → Shared → Prop} {s : Shared} {env : Env} {h₀ : Heap} {x : Str} {body : List Stmt} {Q : Flow → Shared → Prop}
theorem loop2 {I : Addr} {fp : List Addr} {n : Nat} {P : Nat → Value → Prop} {St : Nat → Heap → Prop} {m₀ : Str → Option Value} {news lo : List (Addr × Obj)} {a₀ b₀ : Value} (z1 z2 : Str) (st : List Str) (J : Nat → Value → Value → List (Addr × Obj) → Prop)
    (W : Walks prog w A I fp [I] n P St) (hIf : I ∈ fp) (hSt : ∀ i h, St i h → ∃ o, h.get? I = some o) (hfp : ∀ b ∈ fp, b = I ∨ ∃ q ∈ lo, q.1 = b) (hI0 : h₀.get? I = none) (hIL : env.locals ≠ I) (hnw : ∀ p ∈ news, p.1 ≠ I) (hlo : ∀ q ∈ lo, q ∈ news) (hst : St 0 s.heap)
    (F : Fr h₀ env.locals s.heap m₀) (N : News h₀ env.locals s.heap news) (h1 : m₀ z1 = some a₀) (h2 : m₀ z2 = some b₀) (hJ : J 0 a₀ b₀ news)
    (turn : ∀ i v a b (u : Str → Option Value) nx Λ h tk oI, i < n → P i v → J i a b nx → (∀ q ∈ nx, q ∈ Λ) → (∀ q ∈ lo, q ∈ nx) → (∀ q ∈ nx, q.1 ≠ I) → (I, oI) ∈ Λ → Fr h₀ env.locals h (fun y => if y = x then some v else if y = z1 then some a else if y = z2 then some b else if st.contains y then u y else m₀ y) → News h₀ env.locals h Λ →
      wpAny (model prog w) A (execs body env) (LPost2 h₀ env.locals { s with heap := h, toks := tk } I Λ lo x z1 z2 st m₀ (J (i + 1)) Q) E { s with heap := h, toks := tk })
    (done : ∀ a b (u : Str → Option Value) nx h tk, J n a b nx → Fr h₀ env.locals h (fun y => if y = x then u y else if y = z1 then some a else if y = z2 then some b else if st.contains y then u y else m₀ y) → News h₀ env.locals h nx → (∀ q ∈ lo, q ∈ nx) → Q .next { s with heap := h, toks := tk })
    (hx1 : z1 ≠ x) (hx2 : z2 ≠ x) : LoopAtV prog w A h₀ env x body Q E (.ref I) s := by
  let J' : Nat → (Str → Option Value) → List (Addr × Obj) → Prop := fun i m₁ nx => (∀ q ∈ lo, q ∈ nx) ∧ ∃ a b, m₁ z1 = some a ∧ m₁ z2 = some b ∧ J i a b nx ∧ ∀ y, y ≠ x → y ≠ z1 → y ≠ z2 → st.contains y = false → m₁ y = m₀ y
  refine ⟨I, fp, [I], n, P, St, m₀, news, J', rfl, W, ?_, ?_, ?_, hst, F, N, ⟨hlo, a₀, b₀, h1, h2, hJ, fun _ _ _ _ _ => rfl⟩, ?_, ?_⟩
  · intro hm
    rcases hfp _ hm with e | ⟨q, hq, e⟩
    · exact hIL e
    · exact (N _ (hlo _ hq)).2.1 e
  · intro b hb
    rw [List.mem_singleton.mp hb]
    exact hI0
  · intro p hp hI
    exact hnw p hp (List.mem_singleton.mp hI)
  · rintro i v m₁ news₁ s₁ own ⟨hh', tk', rfl⟩ hin hP ⟨hl₁, a, b, e1, e2, hJ₁, hm⟩ hoff hown hget hall hst' F₁ N₁
    have e : (fun y => if y = x then some v else m₁ y) = fun y => if y = x then some v else if y = z1 then some a else if y = z2 then some b else if st.contains y then m₁ y else m₀ y := by
      funext y
      by_cases q0 : y = x
      · simp [q0]
      · simp only [if_neg q0]
        by_cases q1 : y = z1
        · subst q1; simp [e1]
        · simp only [if_neg q1]
          by_cases q2 : y = z2
          · subst q2; simp [e2]
          · simp only [if_neg q2]
            cases q3 : st.contains y with
            | true => simp
            | false => simp only [Bool.false_eq_true, if_false]; exact hm y q0 q1 q2 q3
    rw [e] at F₁
    obtain ⟨oI, hoI⟩ := hSt _ _ hst'
    refine wpAny_mono (turn i v a b m₁ news₁ (own ++ news₁) hh' tk' oI hin hP hJ₁ (fun q hq => List.mem_append_right _ hq) hl₁ (fun q hq hI => hoff q hq (List.mem_singleton.mpr hI)) (List.mem_append_left _ (hall I hIf hI0 oI hoI)) F₁ N₁) (fun f s₂ p => ?_) fun _ _ e => e
    have fin : LEnd2 h₀ env.locals { s with heap := hh', toks := tk' } I (own ++ news₁) lo x z1 z2 st m₀ (J (i + 1)) s₂ → LoopStepU h₀ env.locals [I] own (J' (i + 1)) { s with heap := hh', toks := tk' } .next s₂ := by
      rintro ⟨h', tk, m', news', a', b', e, F', N', hI', hlo', g1, g2, gJ, gm⟩
      refine ⟨rfl, h', tk, m', news'.filter (fun q => decide (q.1 ≠ I)), e, F', fun p hp => ?_, fun p hp hq => ?_, ⟨fun q hq => ?_, a', b', g1, g2, gJ, gm⟩⟩
      · rcases List.mem_append.mp hp with h | h
        · rcases hfp _ (hown p h) with h3 | ⟨q, hq, h3⟩
          · exact N' p (hI' p (List.mem_append_left _ h) h3)
          · have z1 := hget p h
            have z2 := (N₁ q (List.mem_append_right _ (hl₁ q hq))).1
            rw [h3] at z2
            have : p = q := Prod.ext h3.symm (Option.some.inj (z1.symm.trans z2))
            rw [this]
            exact N' q (hlo' q hq)
        · exact N' p (List.mem_filter.mp h).1
      · have := (List.mem_filter.mp hp).2
        simp only [ne_eq, decide_not, Bool.not_eq_true', decide_eq_false_iff_not] at this
        exact this (List.mem_singleton.mp hq)
      · refine List.mem_filter.mpr ⟨hlo' q hq, ?_⟩
        have := hoff q (hl₁ q hq)
        simp only [List.mem_singleton] at this
        simpa using this
    cases f with
    | ret v => exact .ret p
    | brk => exact .brk p
    | next => exact .next (fin p)
    | cont => exact .cont (fin p)
  · rintro h' tk m' news' F' N' _ ⟨hl₁, a, b, e1, e2, hJ₁, hm⟩
    refine done a b m' news' h' tk hJ₁ ?_ N' hl₁
    have e : (fun y => if y = x then m' y else if y = z1 then some a else if y = z2 then some b else if st.contains y then m' y else m₀ y) = m' := by
      funext y
      by_cases q0 : y = x
      · simp [q0]
      · simp only [if_neg q0]
        by_cases q1 : y = z1
        · subst q1; simp [e1]
        · simp only [if_neg q1]
          by_cases q2 : y = z2
          · subst q2; simp [e2]
          · simp only [if_neg q2]
            cases q3 : st.contains y with
            | true => simp
            | false => simp only [Bool.false_eq_true, if_false]; exact (hm y q0 q1 q2 q3).symm
    rw [e]; exact F'

/-- over a list of the ledger -/
theorem iterL2 {l : Addr} {vs : List Value} {nn : Nat} {m₀ : Str → Option Value} {news : List (Addr × Obj)} {a₀ b₀ : Value} (z1 z2 : Str) (st : List Str) (J : Nat → Value → Value → List (Addr × Obj) → Prop)
    (hh : A.handled = none) (hl : (l, listOf vs.toArray nn) ∈ news) (F : Fr h₀ env.locals s.heap m₀) (N : News h₀ env.locals s.heap news) (h1 : m₀ z1 = some a₀) (h2 : m₀ z2 = some b₀) (hJ : J 0 a₀ b₀ news)
    (turn : ∀ I i v a b (u : Str → Option Value) nx Λ h tk oI, vs[i]? = some v → J i a b nx → (∀ q ∈ nx, q ∈ Λ) → (l, listOf vs.toArray nn) ∈ nx → (∀ q ∈ nx, q.1 ≠ I) → (I, oI) ∈ Λ → Fr h₀ env.locals h (fun y => if y = x then some v else if y = z1 then some a else if y = z2 then some b else if st.contains y then u y else m₀ y) → News h₀ env.locals h Λ →
      wpAny (model prog w) A (execs body env) (LPost2 h₀ env.locals { s with heap := h, toks := tk } I Λ [(l, listOf vs.toArray nn)] x z1 z2 st m₀ (J (i + 1)) Q) E { s with heap := h, toks := tk })
    (done : ∀ a b (u : Str → Option Value) nx h tk, J vs.length a b nx → Fr h₀ env.locals h (fun y => if y = x then u y else if y = z1 then some a else if y = z2 then some b else if st.contains y then u y else m₀ y) → News h₀ env.locals h nx → (l, listOf vs.toArray nn) ∈ nx → Q .next { s with heap := h, toks := tk })
    (hx1 : z1 ≠ x) (hx2 : z2 ≠ x) :
    wpAny (model prog w) A (pyIter (.ref l)) (fun it s₂ => LoopAtV prog w A h₀ env x body Q E it s₂) E s := by
  have hol : s.heap.get? l = some (listOf vs.toArray nn) := (N _ hl).1
  have hls : s.heap.IsList l vs.toArray := ⟨_, hol, rfl, nn, rfl⟩
  have hne : l ≠ s.heap.objs.size := Nat.ne_of_lt (Heap.lt_size hol)
  refine wpAny_pyIter_list hls ?_
  have W := Walks.list (prog := prog) (w := w) hh s.heap.objs.size l hne vs.toArray
  have hlen : vs.toArray.size = vs.length := by simp
  rw [hlen] at W
  refine loop2 (lo := [(l, listOf vs.toArray nn)]) z1 z2 st J W (.head _) (fun i h st => by obtain ⟨o, e, _⟩ := st.1; exact ⟨o, e⟩) ?_ (next_is_new F) (Nat.ne_of_lt F.ns.lt) (fun p hp => Nat.ne_of_lt (Heap.lt_size (N p hp).1)) (fun q hq => by rw [List.mem_singleton.mp hq]; exact hl)
    ⟨⟨_, Heap.get?_push_size _ rfl, rfl, rfl⟩, hls.at fun o e => Heap.get?_push_of_some _ e⟩ (F.push _) (fun p hp => ⟨Heap.get?_push_of_some _ (N p hp).1, (N p hp).2⟩) h1 h2 hJ ?_ ?_ hx1 hx2
  · intro b hb
    rcases List.mem_cons.mp hb with e | hb
    · exact .inl e
    · exact .inr ⟨_, .head _, (List.mem_singleton.mp hb).symm⟩
  · intro i v a b u nx Λ h tk oI hin hP hJ' hs hl' hI hoI F' N'
    exact turn _ i v a b u nx Λ h tk oI (by simpa using hP) hJ' hs (hl' _ (.head _)) hI hoI F' N'
  · intro a b u nx h tk hJ' F' N' hl'
    exact done a b u nx h tk hJ' F' N' (hl' _ (.head _))

/-- over a list of the ledger, from its end: the iterator is made -/
theorem iterR2 {I l : Addr} {vs : List Value} {nn : Nat} {m₀ : Str → Option Value} {news : List (Addr × Obj)} {a₀ b₀ : Value} (z1 z2 : Str) (st : List Str) (J : Nat → Value → Value → List (Addr × Obj) → Prop)
    (hh : A.handled = none) (hl : (l, listOf vs.toArray nn) ∈ news) (F : Fr h₀ env.locals s.heap m₀) (N : News h₀ env.locals s.heap ((I, revObj l ((vs.length : Int) - 1)) :: news)) (hnw : ∀ p ∈ news, p.1 ≠ I) (h1 : m₀ z1 = some a₀) (h2 : m₀ z2 = some b₀) (hJ : J 0 a₀ b₀ news)
    (turn : ∀ i v a b (u : Str → Option Value) nx Λ h tk oI, i < vs.length → vs.reverse[i]? = some v → J i a b nx → (∀ q ∈ nx, q ∈ Λ) → (l, listOf vs.toArray nn) ∈ nx → (∀ q ∈ nx, q.1 ≠ I) → (I, oI) ∈ Λ → Fr h₀ env.locals h (fun y => if y = x then some v else if y = z1 then some a else if y = z2 then some b else if st.contains y then u y else m₀ y) → News h₀ env.locals h Λ →
      wpAny (model prog w) A (execs body env) (LPost2 h₀ env.locals { s with heap := h, toks := tk } I Λ [(l, listOf vs.toArray nn)] x z1 z2 st m₀ (J (i + 1)) Q) E { s with heap := h, toks := tk })
    (done : ∀ a b (u : Str → Option Value) nx h tk, J vs.length a b nx → Fr h₀ env.locals h (fun y => if y = x then u y else if y = z1 then some a else if y = z2 then some b else if st.contains y then u y else m₀ y) → News h₀ env.locals h nx → (l, listOf vs.toArray nn) ∈ nx → Q .next { s with heap := h, toks := tk })
    (hx1 : z1 ≠ x) (hx2 : z2 ≠ x) :
    wpAny (model prog w) A (pyIter (.ref I)) (fun it s₂ => LoopAtV prog w A h₀ env x body Q E it s₂) E s := by
  have hol : s.heap.get? l = some (listOf vs.toArray nn) := (N _ (.tail _ hl)).1
  have hls : s.heap.IsList l vs.toArray := ⟨_, hol, rfl, nn, rfl⟩
  have hIx := N _ (List.mem_cons_self ..)
  have hne : l ≠ I := hnw _ hl
  have hit : s.heap.IsRevIter I l ((vs.length : Int) - 1) := ⟨_, hIx.1, rfl, rfl⟩
  refine wpAny_pyIter_revIter hit ?_
  have W := Walks.listRev (prog := prog) (w := w) hh I l hne vs.toArray
  have hlen : vs.toArray.size = vs.length := by simp
  rw [hlen] at W
  refine loop2 (lo := [(l, listOf vs.toArray nn)]) z1 z2 st J W (.head _) (fun i h st => by obtain ⟨o, e, _⟩ := st.2.1; exact ⟨o, e⟩) ?_ hIx.2.2 (fun e => hIx.2.1 e.symm) hnw (fun q hq => by rw [List.mem_singleton.mp hq]; exact hl)
    ⟨Nat.zero_le _, ?_, hls⟩ F (fun p hp => N p (List.mem_cons_of_mem _ hp)) h1 h2 hJ ?_ ?_ hx1 hx2
  · intro b hb
    rcases List.mem_cons.mp hb with e | hb
    · exact .inl e
    · exact .inr ⟨_, .head _, (List.mem_singleton.mp hb).symm⟩
  · have e : (vs.length : Int) - 1 - ((0 : Nat) : Int) = (vs.length : Int) - 1 := by omega
    rw [e]; exact hit
  · intro i v a b u nx Λ h tk oI hin hP hJ' hs hl' hI hoI F' N'
    refine turn i v a b u nx Λ h tk oI hin ?_ hJ' hs (hl' _ (.head _)) hI hoI F' N'
    rw [List.getElem?_reverse hin]
    simpa using hP
  · intro a b u nx h tk hJ' F' N' hl'
    exact done a b u nx h tk hJ' F' N' (hl' _ (.head _))

/-- over a range -/
theorem iterN2 {r : Addr} {a₁ b₁ : Int} {t₀ u₀ v₀ : Tok} {n : Nat} {m₀ : Str → Option Value} {news : List (Addr × Obj)} {a₀ b₀ : Value} (z1 z2 : Str) (st : List Str) (J : Nat → Value → Value → List (Addr × Obj) → Prop)
    (hh : A.handled = none) (hr : IsRange s.heap r a₁ b₁ 1 t₀ u₀ v₀) (hsmall : Builtin.Range.small a₁ b₁ 1 = true) (hn : Builtin.Range.rangeSize a₁ b₁ 1 = (n : Int)) (F : Fr h₀ env.locals s.heap m₀) (N : News h₀ env.locals s.heap news) (h1 : m₀ z1 = some a₀) (h2 : m₀ z2 = some b₀) (hJ : J 0 a₀ b₀ news)
    (turn : ∀ I i t a b (u : Str → Option Value) nx Λ h tk oI, i < n → J i a b nx → (∀ q ∈ nx, q ∈ Λ) → (∀ q ∈ nx, q.1 ≠ I) → (I, oI) ∈ Λ → Fr h₀ env.locals h (fun y => if y = x then some (.int (a₁ + (i : Int)) t) else if y = z1 then some a else if y = z2 then some b else if st.contains y then u y else m₀ y) → News h₀ env.locals h Λ →
      wpAny (model prog w) A (execs body env) (LPost2 h₀ env.locals { s with heap := h, toks := tk } I Λ [] x z1 z2 st m₀ (J (i + 1)) Q) E { s with heap := h, toks := tk })
    (done : ∀ a b (u : Str → Option Value) nx h tk, J n a b nx → Fr h₀ env.locals h (fun y => if y = x then u y else if y = z1 then some a else if y = z2 then some b else if st.contains y then u y else m₀ y) → News h₀ env.locals h nx → Q .next { s with heap := h, toks := tk })
    (hx1 : z1 ≠ x) (hx2 : z2 ≠ x) :
    wpAny (model prog w) A (pyIter (.ref r)) (fun it s₂ => LoopAtV prog w A h₀ env x body Q E it s₂) E s := by
  refine wpAny_pyIter_range hr hsmall ?_
  have W : Walks prog w A s.heap.objs.size [s.heap.objs.size] [s.heap.objs.size] n (fun i v => i < n ∧ ∃ t, v = .int (a₁ + i * 1) t)
      (fun i h => IsRangeIter h s.heap.objs.size (a₁ + (i : Nat) * 1) ((n : Int) - (i : Nat)) 1) := (Walks.range hh _ a₁ 1 n).bound
  refine loop2 (lo := []) z1 z2 st J W (.head _) (fun i h st => ⟨_, st⟩) (fun b hb => .inl (List.mem_singleton.mp hb)) (next_is_new F) (Nat.ne_of_lt F.ns.lt) (fun p hp => Nat.ne_of_lt (Heap.lt_size (N p hp).1)) (fun q hq => nomatch hq)
    (by show IsRangeIter _ _ _ _ _; rw [hn]; simpa using Heap.get?_push_size _ rfl) (F.push _) (fun p hp => ⟨Heap.get?_push_of_some _ (N p hp).1, (N p hp).2⟩) h1 h2 hJ ?_ ?_ hx1 hx2
  · rintro i v a b u nx Λ h tk oI hin ⟨_, t, rfl⟩ hJ' hs hl' hI hoI F' N'
    rw [Int.mul_one] at F'
    exact turn _ i t a b u nx Λ h tk oI hin hJ' hs hI hoI F' N'
  · intro a b u nx h tk hJ' F' N' hl'
    exact done a b u nx h tk hJ' F' N'
end
theorem range_size (n : Nat) : Builtin.Range.rangeSize 0 (n : Int) 1 = (n : Int) := by
  unfold Builtin.Range.rangeSize
  rw [if_pos (by decide)]
  by_cases h : (0 : Int) < n
  · rw [if_pos h, Int.ediv_one]; omega
  · rw [if_neg h]; omega
theorem range_small {n : Nat} (h : n ≤ 1000000) : Builtin.Range.small 0 (n : Int) 1 = true := by
  unfold Builtin.Range.small
  rw [range_size]
  simp [Builtin.Range.rangeFitsLong]
  omega
theorem refs_get {pts : List Pt} {i : Nat} {v : Value} (h : (refsOf pts)[i]? = some v) : ∃ p, pts[i]? = some p ∧ v = .ref p.a ∧ p ∈ pts ∧ pts.drop i = p :: pts.drop (i + 1) := by
  unfold refsOf at h
  rw [List.getElem?_map] at h
  cases e : pts[i]? with
  | none => rw [e] at h; cases h
  | some p =>
    rw [e] at h
    cases h
    have hi : i < pts.length := by
      rcases Nat.lt_or_ge i pts.length with q | q
      · exact q
      · rw [List.getElem?_eq_none q] at e; cases e
    have e2 : pts[i] = p := by
      have := List.getElem?_eq_getElem hi
      rw [this] at e; exact Option.some.inj e
    exact ⟨p, rfl, rfl, List.mem_of_getElem? e, by rw [← e2]; exact List.drop_eq_getElem_cons hi⟩
section
variable {prog : Program} {w : World} {A : Around} {E : Value → Shared → Prop} {s : Shared} {h₀ : Heap} {L : Addr} {news : List (Addr × Obj)}
theorem islist_of {l : Addr} {vs : List Value} {n : Nat} (N : News h₀ L s.heap news) (hl : (l, listOf vs.toArray n) ∈ news) : s.heap.IsList l vs.toArray := ⟨_, (N _ hl).1, rfl, n, rfl⟩
theorem len_mine {l : Addr} {vs : List Value} {n k : Nat} {Q : Value → Shared → Prop} (N : News h₀ L s.heap news) (hl : (l, listOf vs.toArray n) ∈ news) (hk : vs.length = k) (hb : k ≤ 1000000)
    (h : Q (.int (k : Int) (s.toks + 1)) { s with toks := s.toks + 1 + 1 }) : wpAny (model prog w) A (call (.builtin "len") [.ref l]) Q E s := by
  subst hk
  have e : (vs.toArray.size : Int) = (vs.length : Int) := by simp
  exact call_len_list (islist_of N hl) (by rw [e]; omega) (by rw [e]; exact h)
theorem item_mine {value slice : PySem.Expr} {l : Addr} {vs : List Value} {n : Nat} {k : Int} {u : Tok} {x : Value} {Q : Value → Shared → Prop} (N : News h₀ L s.heap news) (hl : (l, listOf vs.toArray n) ∈ news)
    (h0 : 0 ≤ k) (hfit : k < 2 ^ 63) (hx : vs[k.toNat]? = some x) (h : Q x s)
    (hs : subscripted slice false (.ref l) (.int k u) = operate [.ref l, .int k u] (getItem (.ref l) (.int k u)) := by with_unfolding_all rfl) (hg : ∀ r, letTemporaryGo value (.ref l) r = pure () := by intro _; with_unfolding_all rfl) :
    wpAny (model prog w) A (subscriptTail value slice (.ref l) (.int k u)) Q E s :=
  item_list (islist_of N hl) h0 hfit (by simpa using hx) h hs hg
theorem item_last {value slice : PySem.Expr} {l : Addr} {vs : List Value} {n : Nat} {u : Tok} {x : Value} {Q : Value → Shared → Prop} (N : News h₀ L s.heap news) (hl : (l, listOf vs.toArray n) ∈ news)
    (hx : vs.getLast? = some x) (h : Q x s)
    (hs : subscripted slice false (.ref l) (.int (-1) u) = operate [.ref l, .int (-1) u] (getItem (.ref l) (.int (-1) u)) := by with_unfolding_all rfl) (hg : ∀ r, letTemporaryGo value (.ref l) r = pure () := by intro _; with_unfolding_all rfl) :
    wpAny (model prog w) A (subscriptTail value slice (.ref l) (.int (-1) u)) Q E s := by
  have hne : vs ≠ [] := fun e => by rw [e] at hx; cases hx
  have hpos : 0 < vs.length := List.length_pos_iff.mpr hne
  refine subscriptTail_builtin (islist_of N hl).typeIs slot_list_getitem.lookup (wpAny_getItem_list_neg (islist_of N hl) (by decide) ?_ (by decide) ?_ h) hs hg
  · simp; omega
  · have e : ((-1 : Int) + (vs.toArray.size : Int)).toNat = vs.length - 1 := by simp; omega
    rw [e]
    rw [List.getLast?_eq_getElem?] at hx
    simpa using hx
end
end Mine

open PySem PySem.W PyProof.Rows PySem.Calls
set_option Elab.async false
set_option maxRecDepth 100000
namespace Mine
theorem freshM1 : True ∧ True := by
  w_top off
  try (walk1; fail)
  exact ⟨trivial, trivial⟩
end Mine
namespace Mine
open PySem.Builtin.Int (intBits)
section
local macro_rules | `(tactic| bits_by_make) => `(tactic| first | exact Pt.hx _ | exact Pt.hy _)

set_option maxHeartbeats 4000000 in
theorem area_spec (w : World) (news : List (Addr × Obj)) (p q r : Nd) (hp : NodeIn w news p) (hq : NodeIn w news q) (hr : NodeIn w news r) :
  Spec w 91 [.ref p.a, .ref q.a, .ref r.a] news 1 8 (fun v news' => news = news' ∧ ∃ t, v = .int (areaG (·.p.x) (·.p.y) p q r) t) := by
  obtain ⟨hp, pp, pn, hp'⟩ := hp; obtain ⟨hq, qp, qn, hq'⟩ := hq; obtain ⟨hr, rp, rn, hr'⟩ := hr
  unfold Spec
  intro mean mg mb dp un gd cn cs aA ccd cl outer A₀ base h₀ L m s Q E B F X N T hk hd hu hret
  have kf9 : (PySem.Challenge.rw_bj5012_02 = PySem.Challenge.rw_bj5012_02 ∧ ∀ p, Mine.hd.heap_39 p = Mine.hd.heap_39 p) := (by k_fill; exact ⟨rfl, fun _ => rfl⟩)
  clear kf9
  refine wpAny_call ?_
  k_dflt ktr_enter
  k_steps
  exact hret _ _ _ _ (by k_asm) (by k_asm) ⟨rfl, _, rfl⟩

theorem dec0 : Float64.decode 0 = .fin false 0 (-1074) := by kernel_rfl
theorem cmp0 {n : Int} : Float64.cmpInt 0 n = some (compare 0 (n * 2 ^ 1074)) := by
  unfold Float64.cmpInt
  rw [dec0]
  rfl
theorem cmp_gt {n : Int} : (Float64.cmpInt 0 n == some Ordering.gt) = decide (n < 0) := by
  rw [cmp0]
  have hp : (0 : Int) < 2 ^ 1074 := Int.pow_pos (by decide)
  generalize (2 : Int) ^ 1074 = k at hp
  have h : 0 < n * k ↔ 0 < n := ⟨fun q => by
    rcases Int.lt_or_le 0 n with z | z
    · exact z
    · exact absurd q (Int.not_lt.mpr (Int.mul_nonpos_of_nonpos_of_nonneg z (Int.le_of_lt hp))), fun q => Int.mul_pos q hp⟩
  have h' : n * k < 0 ↔ n < 0 := ⟨fun q => by
    rcases Int.lt_or_le n 0 with z | z
    · exact z
    · exact absurd q (Int.not_lt.mpr (Int.mul_nonneg z (Int.le_of_lt hp))), fun q => Int.mul_neg_of_neg_of_pos q hp⟩
  show (some (compareOfLessAndEq 0 (n * k)) == some Ordering.gt) = decide (n < 0)
  unfold compareOfLessAndEq
  by_cases h1 : n < 0
  · have : n * k < 0 := h'.mpr h1
    rw [if_neg (by omega), if_neg (by omega), decide_eq_true h1]; rfl
  · have : ¬ n * k < 0 := fun q => h1 (h'.mp q)
    rw [decide_eq_false h1]
    by_cases h2 : 0 < n * k
    · rw [if_pos h2]; rfl
    · rw [if_neg h2, if_pos (by omega)]; rfl
theorem cmp_lt {n : Int} : (Float64.cmpInt 0 n == some Ordering.lt) = decide (0 < n) := by
  rw [cmp0]
  have hp : (0 : Int) < 2 ^ 1074 := Int.pow_pos (by decide)
  generalize (2 : Int) ^ 1074 = k at hp
  have h : 0 < n * k ↔ 0 < n := ⟨fun q => by
    rcases Int.lt_or_le 0 n with z | z
    · exact z
    · exact absurd q (Int.not_lt.mpr (Int.mul_nonpos_of_nonpos_of_nonneg z (Int.le_of_lt hp))), fun q => Int.mul_pos q hp⟩
  show (some (compareOfLessAndEq 0 (n * k)) == some Ordering.lt) = decide (0 < n)
  unfold compareOfLessAndEq
  by_cases h1 : 0 < n
  · have : 0 < n * k := h.mpr h1
    rw [if_pos this, decide_eq_true h1]; rfl
  · have : ¬ 0 < n * k := fun q => h1 (h.mp q)
    rw [decide_eq_false h1, if_neg this]
    by_cases h2 : 0 = n * k
    · rw [if_pos h2]; rfl
    · rw [if_neg h2]; rfl

set_option maxHeartbeats 4000000 in
theorem sign_spec (w : World) (news : List (Addr × Obj)) (n : Int) (t : Tok) :
  Spec w 98 [.int n t] news 1 8 (fun v news' => news = news' ∧ ∃ t, v = .int (signZ n) t) := by
  unfold Spec
  intro mean mg mb dp un gd cn cs aA ccd cl outer A₀ base h₀ L m s Q E B F X N T hk hd hu hret
  have kf9 : (PySem.Challenge.rw_bj5012_02 = PySem.Challenge.rw_bj5012_02 ∧ ∀ p, Mine.hd.heap_39 p = Mine.hd.heap_39 p) := (by k_fill; exact ⟨rfl, fun _ => rfl⟩)
  clear kf9
  refine wpAny_call ?_
  k_dflt ktr_enter
  k_steps
  all_goals (refine hret _ _ _ _ (by k_asm) (by k_asm) ⟨rfl, int_post ?_⟩; (simp only [cmp_gt, cmp_lt, decide_eq_true_eq, decide_eq_false_iff_not] at *); unfold signZ; simp only [*, if_true, if_false])

set_option maxHeartbeats 4000000 in
theorem pit_spec (w : World) (news : List (Addr × Obj)) (a b c p : Pt) (t1 t2 t3 t4 t5 t6 t7 t8 : Tok) :
  Spec w 155 [.int a.x t1, .int a.y t2, .int b.x t3, .int b.y t4, .int c.x t5, .int c.y t6, .int p.x t7, .int p.y t8] news 1 8 (fun v news' => news = news' ∧ v = .bool (pitZ a.x a.y b.x b.y c.x c.y p.x p.y)) := by
  unfold Spec
  intro mean mg mb dp un gd cn cs aA ccd cl outer A₀ base h₀ L m s Q E B F X N T hk hd hu hret
  have kf9 : (PySem.Challenge.rw_bj5012_02 = PySem.Challenge.rw_bj5012_02 ∧ ∀ p, Mine.hd.heap_39 p = Mine.hd.heap_39 p) := (by k_fill; exact ⟨rfl, fun _ => rfl⟩)
  clear kf9
  refine wpAny_call ?_
  k_dflt ktr_enter
  k_steps
  all_goals (refine hret _ _ _ _ (by k_asm) (by k_asm) ⟨rfl, ?_⟩; unfold pitZ; simp only [*, decide_true, decide_false, Bool.true_and, Bool.false_and])

set_option maxHeartbeats 4000000 in
theorem on_spec (w : World) (news : List (Addr × Obj)) (p q r : Nd) (hp : NodeIn w news p) (hq : NodeIn w news q) (hr : NodeIn w news r) :
  Spec w 105 [.ref p.a, .ref q.a, .ref r.a] news 1 8 (fun v news' => news = news' ∧ v = .bool (onG (·.p.x) (·.p.y) p q r)) := by
  obtain ⟨hp, pp, pn, hp'⟩ := hp; obtain ⟨hq, qp, qn, hq'⟩ := hq; obtain ⟨hr, rp, rn, hr'⟩ := hr
  unfold Spec
  intro mean mg mb dp un gd cn cs aA ccd cl outer A₀ base h₀ L m s Q E B F X N T hk hd hu hret
  have kf9 : (PySem.Challenge.rw_bj5012_02 = PySem.Challenge.rw_bj5012_02 ∧ ∀ p, Mine.hd.heap_39 p = Mine.hd.heap_39 p) := (by k_fill; exact ⟨rfl, fun _ => rfl⟩)
  clear kf9
  refine wpAny_call ?_
  k_dflt ktr_enter
  k_steps
  all_goals (refine hret _ _ _ _ (by k_asm) (by k_asm) ⟨rfl, ?_⟩; unfold onG mxZ mnZ; simp only [*, decide_true, decide_false, Bool.true_and, Bool.false_and, Bool.and_false])

section
local macro_rules | `(tactic| walk_at "eval Call") => `(tactic| first | ((with_reducible show wpAny _ _ (eval (Expr.Call (Expr.Name _ _) _ (_ :: _) _) _) _ _ _); k_dflt (refine wpAny_Call_Name_kw ?_)) | k_dflt (refine Call_ ?_))
local macro_rules | `(tactic| walk_at "call ref") => `(tactic| (k_here; k_dflt (first | (refine' use_spec ?k1 ?k2 ?k3 ?k4 ?k5 ?kK (area_spec _ _ _ _ _ ?a0 ?a1 ?a2) ?kd ?ku ?_; (case k1 => k_asm); (case k2 => k_asm); (case k3 => k_asm); (case k4 => k_asm); (case k5 => k_asm); (case kK => first | exact rfl | assumption); (case a0 => first | assumption | exact ⟨by k_mem, _, _, by k_mem⟩ | (apply RIn.node <;> assumption)); (case a1 => first | assumption | exact ⟨by k_mem, _, _, by k_mem⟩ | (apply RIn.node <;> assumption)); (case a2 => first | assumption | exact ⟨by k_mem, _, _, by k_mem⟩ | (apply RIn.node <;> assumption)); (case kd => (try dsimp only [ktrTop]); omega); (case ku => (try dsimp only [ktrTop]); omega)) | (refine' use_spec ?k1 ?k2 ?k3 ?k4 ?k5 ?kK (sign_spec _ _ _ _ ) ?kd ?ku ?_; (case k1 => k_asm); (case k2 => k_asm); (case k3 => k_asm); (case k4 => k_asm); (case k5 => k_asm); (case kK => first | exact rfl | assumption); (case kd => (try dsimp only [ktrTop]); omega); (case ku => (try dsimp only [ktrTop]); omega)) | (refine' use_spec ?k1 ?k2 ?k3 ?k4 ?k5 ?kK (on_spec _ _ _ _ _ ?a0 ?a1 ?a2) ?kd ?ku ?_; (case k1 => k_asm); (case k2 => k_asm); (case k3 => k_asm); (case k4 => k_asm); (case k5 => k_asm); (case kK => first | exact rfl | assumption); (case a0 => first | assumption | exact ⟨by k_mem, _, _, by k_mem⟩ | (apply RIn.node <;> assumption)); (case a1 => first | assumption | exact ⟨by k_mem, _, _, by k_mem⟩ | (apply RIn.node <;> assumption)); (case a2 => first | assumption | exact ⟨by k_mem, _, _, by k_mem⟩ | (apply RIn.node <;> assumption)); (case kd => (try dsimp only [ktrTop]); omega); (case ku => (try dsimp only [ktrTop]); omega))); intro r9 l9 h9 tk9 F9 N9 P9; obtain ⟨e9, P9⟩ := P9; subst e9; (first | subst P9 | (obtain ⟨t9, e9⟩ := P9; subst e9)); (try dsimp only); (try k_fold)))
local macro_rules | `(tactic| walk_at "exec If") => `(tactic| (k_here; refine Stop.intro ?_))
set_option maxHeartbeats 4000000 in
theorem inter_spec (w : World) (news : List (Addr × Obj)) (p q r u : Nd) (hp : NodeIn w news p) (hq : NodeIn w news q) (hr : NodeIn w news r) (hu : NodeIn w news u) :
  Spec w 112 [.ref p.a, .ref q.a, .ref r.a, .ref u.a] news 3 18 (fun v news' => news = news' ∧ v = .bool (interG (·.p.x) (·.p.y) p q r u)) := by
  unfold Spec
  intro mean mg mb dp un gd cn cs aA ccd cl outer A₀ base h₀ L m s Q E B F X N T hk hd hu hret
  have kf9 : (PySem.Challenge.rw_bj5012_02 = PySem.Challenge.rw_bj5012_02 ∧ ∀ p, Mine.hd.heap_39 p = Mine.hd.heap_39 p) := (by k_fill; exact ⟨rfl, fun _ => rfl⟩)
  clear kf9
  refine wpAny_call ?_
  k_dflt ktr_enter
  k_steps
  have er : ∀ b : Bool, interG (·.p.x) (·.p.y) p q r u = b → ∀ h' tk', Fr h₀ L h' m → News h₀ L h' news → Q (.bool b) { s with heap := h', toks := tk' } := fun b e h' tk' F N => hret _ _ _ _ F N ⟨rfl, by rw [e]⟩
  clear hret
  unfold interG at er
  dsimp only at er
  generalize e1 : signZ (areaG (fun n : Nd => n.p.x) (fun n => n.p.y) p q r) = o1 at *
  generalize e2 : signZ (areaG (fun n : Nd => n.p.x) (fun n => n.p.y) p q u) = o2 at *
  generalize e3 : signZ (areaG (fun n : Nd => n.p.x) (fun n => n.p.y) r u p) = o3 at *
  generalize e4 : signZ (areaG (fun n : Nd => n.p.x) (fun n => n.p.y) r u q) = o4 at *
  refine Stop.out (cut_if (decide (o1 ≠ o2 ∧ o3 ≠ o4)) (by assumption) (by assumption) ?_ (fun c1 ha ta Fa Na => ?_) (fun c1 ha ta Fa Na => ?_))
  · k_steps
    all_goals ((refine CutB.mk ?_ ⟨_, _, rfl, by k_asm, by k_asm⟩); simp [*])
  · k_steps
    simp only [decide_eq_true_eq] at c1
    exact er _ (by rw [if_pos c1]) _ _ (by k_asm) (by k_asm)
  k_steps
  simp only [decide_eq_false_iff_not] at c1
  rw [if_neg c1] at er
  refine Stop.out (cut_if (decide (o1 = 0 ∧ onG (·.p.x) (·.p.y) p r q = true)) (by assumption) (by assumption) ?_ (fun c2 ha ta Fa Na => ?_) (fun c2 ha ta Fa Na => ?_))
  · k_steps
    all_goals ((refine CutB.mk ?_ ⟨_, _, rfl, by k_asm, by k_asm⟩); simp [*])
  · k_steps
    simp only [decide_eq_true_eq] at c2
    exact er _ (by rw [if_pos c2]) _ _ (by k_asm) (by k_asm)
  k_steps
  simp only [decide_eq_false_iff_not] at c2
  rw [if_neg c2] at er
  refine Stop.out (cut_if (decide (o2 = 0 ∧ onG (·.p.x) (·.p.y) p u q = true)) (by assumption) (by assumption) ?_ (fun c3 ha ta Fa Na => ?_) (fun c3 ha ta Fa Na => ?_))
  · k_steps
    all_goals ((refine CutB.mk ?_ ⟨_, _, rfl, by k_asm, by k_asm⟩); simp [*])
  · k_steps
    simp only [decide_eq_true_eq] at c3
    exact er _ (by rw [if_pos c3]) _ _ (by k_asm) (by k_asm)
  k_steps
  simp only [decide_eq_false_iff_not] at c3
  rw [if_neg c3] at er
  refine Stop.out (cut_if (decide (o3 = 0 ∧ onG (·.p.x) (·.p.y) r p u = true)) (by assumption) (by assumption) ?_ (fun c4 ha ta Fa Na => ?_) (fun c4 ha ta Fa Na => ?_))
  · k_steps
    all_goals ((refine CutB.mk ?_ ⟨_, _, rfl, by k_asm, by k_asm⟩); simp [*])
  · k_steps
    simp only [decide_eq_true_eq] at c4
    exact er _ (by rw [if_pos c4]) _ _ (by k_asm) (by k_asm)
  k_steps
  simp only [decide_eq_false_iff_not] at c4
  rw [if_neg c4] at er
  refine Stop.out (cut_if (decide (o4 = 0 ∧ onG (·.p.x) (·.p.y) r q u = true)) (by assumption) (by assumption) ?_ (fun c5 ha ta Fa Na => ?_) (fun c5 ha ta Fa Na => ?_))
  · k_steps
    all_goals ((refine CutB.mk ?_ ⟨_, _, rfl, by k_asm, by k_asm⟩); simp [*])
  · k_steps
    simp only [decide_eq_true_eq] at c5
    exact er _ (by rw [if_pos c5]) _ _ (by k_asm) (by k_asm)
  k_steps
  simp only [decide_eq_false_iff_not] at c5
  rw [if_neg c5] at er
  exact er _ rfl _ _ (by k_asm) (by k_asm)
end
end
end Mine

open PySem PySem.W PyProof.Rows PySem.Calls
set_option Elab.async false
set_option maxRecDepth 100000
namespace Mine
theorem freshM2 : True ∧ True := by
  w_top off
  try (walk1; fail)
  exact ⟨trivial, trivial⟩
end Mine
namespace Mine
open PySem.Builtin.Int (intBits)
section
local macro_rules | `(tactic| bits_by_make) => `(tactic| first | exact Pt.hx _ | exact Pt.hy _)
section
local macro_rules | `(tactic| walk_at "eval Call") => `(tactic| first | ((with_reducible show wpAny _ _ (eval (Expr.Call (Expr.Name _ _) _ (_ :: _) _) _) _ _ _); k_dflt (refine wpAny_Call_Name_kw ?_)) | k_dflt (refine Call_ ?_))
local macro_rules | `(tactic| walk_at "call ref") => `(tactic| (k_here; k_dflt (first | (refine' use_spec ?k1 ?k2 ?k3 ?k4 ?k5 ?kK (area_spec _ _ _ _ _ ?a0 ?a1 ?a2) ?kd ?ku ?_; (case k1 => k_asm); (case k2 => k_asm); (case k3 => k_asm); (case k4 => k_asm); (case k5 => k_asm); (case kK => first | exact rfl | assumption); (case a0 => first | assumption | exact ⟨by k_mem, _, _, by k_mem⟩ | (apply RIn.node <;> assumption)); (case a1 => first | assumption | exact ⟨by k_mem, _, _, by k_mem⟩ | (apply RIn.node <;> assumption)); (case a2 => first | assumption | exact ⟨by k_mem, _, _, by k_mem⟩ | (apply RIn.node <;> assumption)); (case kd => (try dsimp only [ktrTop]); omega); (case ku => (try dsimp only [ktrTop]); omega))); intro r9 l9 h9 tk9 F9 N9 P9; obtain ⟨e9, P9⟩ := P9; subst e9; (first | subst P9 | (obtain ⟨t9, e9⟩ := P9; subst e9)); (try dsimp only); (try k_fold)))
set_option maxHeartbeats 4000000 in
theorem loc_spec (w : World) (news : List (Addr × Obj)) (nd : Nat → Nd) (k : Nat) (σ : PS) (R : RIn w news nd k σ) (a b : Nat) (ha : a < k) (hb : b < k) :
  Spec w 169 [.ref (nd a).a, .ref (nd b).a] news 3 18 (fun v news' => news = news' ∧ v = .bool (locG (fun i => (nd i).p.x) (fun i => (nd i).p.y) a (σ.pv a) (σ.nx a) b)) := by
  obtain ⟨h1, h2, h3, h4⟩ := R a ha
  have nb := R.node hb
  have na := R.node ha
  have np := R.node h3
  have nn := R.node h4
  unfold Spec
  intro mean mg mb dp un gd cn cs aA ccd cl outer A₀ base h₀ L m s Q E B F X N T hk hd hu hret
  have kf9 : (PySem.Challenge.rw_bj5012_02 = PySem.Challenge.rw_bj5012_02 ∧ ∀ p, Mine.hd.heap_39 p = Mine.hd.heap_39 p) := (by k_fill; exact ⟨rfl, fun _ => rfl⟩)
  clear kf9
  refine wpAny_call ?_
  k_dflt ktr_enter
  k_steps
  all_goals (refine hret _ _ _ _ (by k_asm) (by k_asm) ⟨rfl, ?_⟩; unfold locG; simp only [area_nd] at *; simp only [*, if_true, if_false, decide_true, decide_false, Bool.true_and, Bool.false_and, Bool.true_or, Bool.false_or]; try exact bool_dec)
end
section
local macro_rules | `(tactic| walk_at "eval Call") => `(tactic| first | ((with_reducible show wpAny _ _ (eval (Expr.Call (Expr.Name _ _) _ (_ :: _) _) _) _ _ _); k_dflt (refine wpAny_Call_Name_kw ?_)) | k_dflt (refine Call_ ?_))
local macro_rules | `(tactic| walk_at "call ref") => `(tactic| (k_here; k_dflt (first | (refine' use_spec ?k1 ?k2 ?k3 ?k4 ?k5 ?kK (area_spec _ _ _ _ _ ?a0 ?a1 ?a2) ?kd ?ku ?_; (case k1 => k_asm); (case k2 => k_asm); (case k3 => k_asm); (case k4 => k_asm); (case k5 => k_asm); (case kK => first | exact rfl | assumption); (case a0 => first | assumption | exact ⟨by k_mem, _, _, by k_mem⟩ | (apply RIn.node <;> assumption)); (case a1 => first | assumption | exact ⟨by k_mem, _, _, by k_mem⟩ | (apply RIn.node <;> assumption)); (case a2 => first | assumption | exact ⟨by k_mem, _, _, by k_mem⟩ | (apply RIn.node <;> assumption)); (case kd => (try dsimp only [ktrTop]); omega); (case ku => (try dsimp only [ktrTop]); omega)) | (refine' use_spec ?k1 ?k2 ?k3 ?k4 ?k5 ?kK (pit_spec _ _ _ _ _ _ _ _ _ _ _ _ _ _ ) ?kd ?ku ?_; (case k1 => k_asm); (case k2 => k_asm); (case k3 => k_asm); (case k4 => k_asm); (case k5 => k_asm); (case kK => first | exact rfl | assumption); (case kd => (try dsimp only [ktrTop]); omega); (case ku => (try dsimp only [ktrTop]); omega))); intro r9 l9 h9 tk9 F9 N9 P9; obtain ⟨e9, P9⟩ := P9; subst e9; (first | subst P9 | (obtain ⟨t9, e9⟩ := P9; subst e9)); (try dsimp only); (try k_fold)))
local macro_rules | `(tactic| walk_at "exec While") => `(tactic| (k_here; refine Stop.intro ?_))
local macro_rules | `(tactic| walk_at "exec While Compare") => `(tactic| (k_here; refine Stop.intro ?_))
local macro_rules | `(tactic| walk_at "exec While Constant") => `(tactic| (k_here; refine Stop.intro ?_))
local macro_rules | `(tactic| walk_at "exec While Compare cons nil") => `(tactic| (k_here; refine Stop.intro ?_))
local macro_rules | `(tactic| walk_at "exec While BoolOp") => `(tactic| (k_here; refine Stop.intro ?_))
local macro_rules | `(tactic| walk_at "call builtin:max") => `(tactic| (k_here; (with_reducible show wpAny _ _ (call (Value.builtin _) [Value.int _ _, Value.int _ _, Value.int _ _]) _ _ _); k_dflt (refine' max3_N ?k1 ?k2 ?k3 ?_; (case k1 => exact rfl); (case k2 => k_asm); (case k3 => k_asm)); intro h9 tk9 t9 F9 N9; (try k_fold)))
local macro_rules | `(tactic| walk_at "call builtin:min") => `(tactic| (k_here; (with_reducible show wpAny _ _ (call (Value.builtin _) [Value.int _ _, Value.int _ _, Value.int _ _]) _ _ _); k_dflt (refine' min3_N ?k1 ?k2 ?k3 ?_; (case k1 => exact rfl); (case k2 => k_asm); (case k3 => k_asm)); intro h9 tk9 t9 F9 N9; (try k_fold)))
local macro_rules | `(tactic| walk_at "compareOp Is ref ref") => `(tactic| (k_here; k_dflt (refine' is_nd ?k1 ?k2 ?k3 ?k4 ?k5 ?k6 ?_; (case k1 => k_asm); (case k2 => k_asm); (case k3 => k_asm); (case k4 => k_asm); (case k5 => k_mem); (case k6 => k_mem))))
local macro_rules | `(tactic| walk_at "compareOp IsNot ref ref") => `(tactic| (k_here; k_dflt (refine' isNot_nd ?k1 ?k2 ?k3 ?k4 ?k5 ?k6 ?_; (case k1 => k_asm); (case k2 => k_asm); (case k3 => k_asm); (case k4 => k_asm); (case k5 => k_mem); (case k6 => k_mem))))
local macro_rules | `(tactic| walk_at "WPost1") => `(tactic| (dsimp only [WPost1]))
local macro_rules | `(tactic| walk_at "WPost2") => `(tactic| (dsimp only [WPost2]))
set_option maxHeartbeats 4000000 in
theorem ear_spec (w : World) (news : List (Addr × Obj)) (nd : Nat → Nd) (k : Nat) (σ : PS) (R : RIn w news nd k σ) (I : NdInj nd k) (n e : Nat) (he : e < k) (r : Bool) (hr : isEarF (fun i => (nd i).p.x) (fun i => (nd i).p.y) σ n e = some r) :
  Spec w 148 [.ref (nd e).a] news 3 18 (fun v news' => news = news' ∧ v = .bool r) := by
  obtain ⟨h1, h2, h3, h4⟩ := R e he
  obtain ⟨p1, p2, p3, p4⟩ := R _ h3
  obtain ⟨n1, n2, n3, n4⟩ := R _ h4
  have nb := R.node he
  have na := R.node h3
  have nc := R.node h4
  unfold Spec
  intro mean mg mb dp un gd cn cs aA ccd cl outer A₀ base h₀ L m s Q E B F X N T hk hd hu hret
  have kf9 : (PySem.Challenge.rw_bj5012_02 = PySem.Challenge.rw_bj5012_02 ∧ ∀ p, Mine.hd.heap_39 p = Mine.hd.heap_39 p) := (by k_fill; exact ⟨rfl, fun _ => rfl⟩)
  clear kf9
  refine wpAny_call ?_
  k_dflt ktr_enter
  k_steps
  · exact hret _ _ _ _ (by k_asm) (by k_asm) ⟨rfl, by
      have e1 : 0 ≤ areaG (fun i => (nd i).p.x) (fun i => (nd i).p.y) (σ.pv e) e (σ.nx e) := by assumption
      unfold isEarF at hr
      rw [if_pos e1] at hr
      cases hr; rfl⟩
  have e1 : ¬ 0 ≤ areaG (fun i => (nd i).p.x) (fun i => (nd i).p.y) (σ.pv e) e (σ.nx e) := by assumption
  unfold isEarF at hr
  rw [if_neg e1] at hr
  refine Stop.out ?_
  rename Fr _ _ _ _ => lF
  rename News _ _ _ _ => lN
  with_unfolding_all refine While1 (Str.ofString "p") [] (fun n v nx => nx = news ∧ ∃ i, i < k ∧ v = .ref (nd i).a ∧ isEarLoop (fun i => (nd i).p.x) (fun i => (nd i).p.y) σ (σ.pv e) e (σ.nx e) n i = some r) lF lN (by rfl) ⟨rfl, _, n4, rfl, hr⟩ ?_
  rintro j v u nx hh tt ⟨rfl, i, hi, rfl, hl⟩ Fa Na
  clear lF lN
  obtain ⟨q1, q2, q3, q4⟩ := R i hi
  have mi := R.node hi
  have mp := R.node q3
  have mn := R.node q4
  cases j with
  | zero => cases hl
  | succ j =>
  have l1 : i = σ.pv e → r = true := fun q => by
    unfold isEarLoop at hl; rw [if_pos q] at hl; exact (Option.some.inj hl).symm
  have l2 : ¬ i = σ.pv e → blockG (fun i => (nd i).p.x) (fun i => (nd i).p.y) (σ.pv e) e (σ.nx e) (σ.pv i) i (σ.nx i) = true → r = false := fun q q' => by
    unfold isEarLoop at hl; rw [if_neg q, if_pos q'] at hl; exact (Option.some.inj hl).symm
  have l3 : ¬ i = σ.pv e → blockG (fun i => (nd i).p.x) (fun i => (nd i).p.y) (σ.pv e) e (σ.nx e) (σ.pv i) i (σ.nx i) = false → isEarLoop (fun i => (nd i).p.x) (fun i => (nd i).p.y) σ (σ.pv e) e (σ.nx e) j (σ.nx i) = some r := fun q q' => by
    unfold isEarLoop at hl; rw [if_neg q, if_neg (by rw [q']; exact Bool.false_ne_true)] at hl; exact hl
  clear hl
  k_steps
  all_goals simp only [area_nd] at *
  · exact hret _ _ _ _ (by k_asm) (by k_asm) ⟨rfl, by rw [l1 (by assumption)]⟩
  · exact hret _ _ _ _ (by k_asm) (by k_asm) ⟨rfl, by rw [l2 (by assumption) (by unfold blockG boxG; simp only [*, decide_true, Bool.true_and])]⟩
  all_goals
    refine ⟨_, _, _, _, _, j, rfl, by k_asm, by k_asm, by omega, rfl, ⟨rfl, σ.nx i, by assumption, rfl, l3 (by assumption) (by unfold blockG boxG; simp only [*, decide_true, decide_false, Bool.true_and, Bool.false_and, Bool.and_false])⟩, fun y h1 h2 => ?_⟩
    simp [h1]
end
end
end Mine

open PySem PySem.W PyProof.Rows PySem.Calls
set_option Elab.async false
set_option maxRecDepth 100000
namespace Mine
theorem freshM3 : True ∧ True := by
  w_top off
  try (walk1; fail)
  exact ⟨trivial, trivial⟩
end Mine
namespace Mine
open PySem.Builtin.Int (intBits)
section
local macro_rules | `(tactic| bits_by_make) => `(tactic| first | exact Pt.hx _ | exact Pt.hy _)
set_option maxHeartbeats 4000000 in
theorem eq_spec (w : World) (news : List (Addr × Obj)) (p q : Nd) (hp : NodeIn w news p) (hq : NodeIn w news q) :
  Spec w 56 [.ref p.a, .ref q.a] news 1 8 (fun v news' => news = news' ∧ v = .bool (eqG (·.p.x) (·.p.y) p q)) := by
  obtain ⟨hp, pp, pn, hp'⟩ := hp; obtain ⟨hq, qp, qn, hq'⟩ := hq
  unfold Spec
  intro mean mg mb dp un gd cn cs aA ccd cl outer A₀ base h₀ L m s Q E B F X N T hk hd hu hret
  have kf9 : (PySem.Challenge.rw_bj5012_02 = PySem.Challenge.rw_bj5012_02 ∧ ∀ p, Mine.hd.heap_39 p = Mine.hd.heap_39 p) := (by k_fill; exact ⟨rfl, fun _ => rfl⟩)
  clear kf9
  refine wpAny_call ?_
  k_dflt ktr_enter
  k_steps
  all_goals (refine hret _ _ _ _ (by k_asm) (by k_asm) ⟨rfl, ?_⟩; unfold eqG; dsimp only; first | (have e9 : (p.p.x == q.p.x) = true := beq_iff_eq.mpr (by assumption); rw [e9]; rfl) | (have e9 : (p.p.x == q.p.x) = false := beq_eq_false_iff_ne.mpr (by assumption); rw [e9]; rfl))

section
local macro_rules | `(tactic| walk_at "eval Call") => `(tactic| first | ((with_reducible show wpAny _ _ (eval (Expr.Call (Expr.Name _ _) _ (_ :: _) _) _) _ _ _); k_dflt (refine wpAny_Call_Name_kw ?_)) | k_dflt (refine Call_ ?_))
local macro_rules | `(tactic| walk_at "setAttr ref") => `(tactic| (k_here; refine Stop.intro ?_))
theorem put_prev (P : Params) (n : Nd) (pv nx v : Value) (t : Tok) : (putL (Str.ofString "prev") (PyData.keyHash P (Str.ofString "prev")) (.str (Str.ofString "prev") t) v (ndEs P n pv nx), putN (Str.ofString "prev") (ndEs P n pv nx) 10) = (ndEs P n v nx, 10) := by rfl
theorem put_next (P : Params) (n : Nd) (pv nx v : Value) (t : Tok) : (putL (Str.ofString "next") (PyData.keyHash P (Str.ofString "next")) (.str (Str.ofString "next") t) v (ndEs P n pv nx), putN (Str.ofString "next") (ndEs P n pv nx) 10) = (ndEs P n pv v, 10) := by rfl
set_option maxHeartbeats 4000000 in
theorem rm_spec (w : World) (news : List (Addr × Obj)) (nd : Nat → Nd) (k : Nat) (σ : PS) (R : RIn w news nd k σ) (I : NdInj nd k) (p : Nat) (hp : p < k) :
  Spec w 126 [.ref (nd p).a] news 1 8 (fun v news' => v = .none ∧ RIn w news' nd k (σ.rm p) ∧ Frm news news') := by
  obtain ⟨h1, h2, h3, h4⟩ := R p hp
  obtain ⟨p1, p2, p3, p4⟩ := R _ h3
  obtain ⟨n1, n2, n3, n4⟩ := R _ h4
  unfold Spec
  intro mean mg mb dp un gd cn cs aA ccd cl outer A₀ base h₀ L m s Q E B F X N T hk hd hu hret
  have kf9 : (PySem.Challenge.rw_bj5012_02 = PySem.Challenge.rw_bj5012_02 ∧ ∀ p, Mine.hd.heap_39 p = Mine.hd.heap_39 p) := (by k_fill; exact ⟨rfl, fun _ => rfl⟩)
  clear kf9
  refine wpAny_call ?_
  k_dflt ktr_enter
  k_steps
  refine Stop.out ?_
  rename Fr _ _ _ _ => lF
  rename News _ _ _ _ => lN
  refine set_sym lF (by assumption) lN n1 n2 (by k_is) (by k_is) (by k_is) (by k_is) rfl (fun t => put_prev _ _ _ _ _ _) (by show 10 ≤ 1000; decide) (fun h' news1 F1 N1 a1 a2 => ?_)
  have R1 := R.setPv I lN h4 h3 a1 a2
  have M1 := R.frm lN h4 a2
  clear lF lN
  generalize hτ : σ.setPv (σ.nx p) (σ.pv p) = τ at R1
  have e1 : τ.nx = σ.nx := by rw [← hτ]; rfl
  obtain ⟨h1, h2, h3, h4⟩ := R1 p hp
  obtain ⟨p1, p2, p3, p4⟩ := R1 _ h3
  dsimp only
  k_steps
  refine Stop.out ?_
  rename Fr _ _ _ _ => lF
  rename News _ _ _ _ => lN
  refine set_sym lF (by assumption) lN p1 p2 (by k_is) (by k_is) (by k_is) (by k_is) rfl (fun t => put_next _ _ _ _ _ _) (by show 10 ≤ 1000; decide) (fun h' news2 F2 N2 b1 b2 => ?_)
  have R2 := R1.setNx I lN h3 h4 b1 b2
  have M2 := R1.frm lN h3 b2
  obtain ⟨h1, h2, h3, h4⟩ := R2 p hp
  clear lF lN
  dsimp only
  k_steps
  exact hret _ _ _ _ (by k_asm) (by k_asm) ⟨rfl, by rw [PS.rm]; simp only [hτ]; exact R2, M1.trans M2⟩
end

section
local macro_rules | `(tactic| walk_at "eval Call") => `(tactic| first | ((with_reducible show wpAny _ _ (eval (Expr.Call (Expr.Name _ _) _ (_ :: _) _) _) _ _ _); k_dflt (refine wpAny_Call_Name_kw ?_)) | k_dflt (refine Call_ ?_))
local macro_rules | `(tactic| walk_at "call ref") => `(tactic| (k_here; refine Stop.intro ?_))
local macro_rules | `(tactic| walk_at "call ref") => `(tactic| (k_here; k_dflt (first | (refine' use_spec ?k1 ?k2 ?k3 ?k4 ?k5 ?kK (area_spec _ _ _ _ _ ?a0 ?a1 ?a2) ?kd ?ku ?_; (case k1 => k_asm); (case k2 => k_asm); (case k3 => k_asm); (case k4 => k_asm); (case k5 => k_asm); (case kK => first | exact rfl | assumption); (case a0 => first | assumption | exact ⟨by k_mem, _, _, by k_mem⟩ | (apply RIn.node <;> assumption)); (case a1 => first | assumption | exact ⟨by k_mem, _, _, by k_mem⟩ | (apply RIn.node <;> assumption)); (case a2 => first | assumption | exact ⟨by k_mem, _, _, by k_mem⟩ | (apply RIn.node <;> assumption)); (case kd => (try dsimp only [ktrTop]); omega); (case ku => (try dsimp only [ktrTop]); omega)) | (refine' use_spec ?k1 ?k2 ?k3 ?k4 ?k5 ?kK (eq_spec _ _ _ _ ?a0 ?a1) ?kd ?ku ?_; (case k1 => k_asm); (case k2 => k_asm); (case k3 => k_asm); (case k4 => k_asm); (case k5 => k_asm); (case kK => first | exact rfl | assumption); (case a0 => first | assumption | exact ⟨by k_mem, _, _, by k_mem⟩ | (apply RIn.node <;> assumption)); (case a1 => first | assumption | exact ⟨by k_mem, _, _, by k_mem⟩ | (apply RIn.node <;> assumption)); (case kd => (try dsimp only [ktrTop]); omega); (case ku => (try dsimp only [ktrTop]); omega))); intro r9 l9 h9 tk9 F9 N9 P9; obtain ⟨e9, P9⟩ := P9; subst e9; (first | subst P9 | (obtain ⟨t9, e9⟩ := P9; subst e9)); (try dsimp only); (try k_fold)))
local macro_rules | `(tactic| walk_at "compareOp Eq ref") => `(tactic| (k_here; (with_reducible show wpAny _ _ (compareOp CmpOp.Eq (Value.ref _) (Value.ref _)) _ _ _); (refine cmp_ofEq ?_); k_dflt (refine' cmp_K ?k1 ?k2 ?k3 ?k4 ?k5 ?k6 ?k7 ?k8 ?_; (case k1 => ktr_units); (case k2 => k_asm); (case k3 => k_asm); (case k4 => k_inst); (case k5 => k_typeOf); (case k6 => k_is); (case k7 => k_is); (case k8 => k_is); k_whole)))
local macro_rules | `(tactic| walk_at "CmpBack") => `(tactic| (dsimp only [PySem.W.CmpBack]))
local macro_rules | `(tactic| walk_at "exec If BoolOp") => `(tactic| (k_here; refine Stop.intro ?_))
local macro_rules | `(tactic| walk_at "exec While") => `(tactic| (k_here; refine Stop.intro ?_))
local macro_rules | `(tactic| walk_at "exec While Compare") => `(tactic| (k_here; refine Stop.intro ?_))
local macro_rules | `(tactic| walk_at "exec While Constant") => `(tactic| (k_here; refine Stop.intro ?_))
local macro_rules | `(tactic| walk_at "exec While Compare cons nil") => `(tactic| (k_here; refine Stop.intro ?_))
local macro_rules | `(tactic| walk_at "exec While BoolOp") => `(tactic| (k_here; refine Stop.intro ?_))
local macro_rules | `(tactic| walk_at "compareOp Is ref ref") => `(tactic| (k_here; k_dflt (refine' is_nd ?k1 ?k2 ?k3 ?k4 ?k5 ?k6 ?_; (case k1 => k_asm); (case k2 => k_asm); (case k3 => k_asm); (case k4 => k_asm); (case k5 => k_mem); (case k6 => k_mem))))
local macro_rules | `(tactic| walk_at "compareOp IsNot ref ref") => `(tactic| (k_here; k_dflt (refine' isNot_nd ?k1 ?k2 ?k3 ?k4 ?k5 ?k6 ?_; (case k1 => k_asm); (case k2 => k_asm); (case k3 => k_asm); (case k4 => k_asm); (case k5 => k_mem); (case k6 => k_mem))))
local macro_rules | `(tactic| walk_at "WPost1") => `(tactic| (dsimp only [WPost1]))
local macro_rules | `(tactic| walk_at "WPost2") => `(tactic| (dsimp only [WPost2]))
set_option maxHeartbeats 4000000 in
theorem fp_spec (w : World) (news : List (Addr × Obj)) (nd : Nat → Nd) (k : Nat) (σ : PS) (R : RIn w news nd k σ) (I : NdInj nd k) (n p : Nat) (hp : p < k) (τ : PS) (r : Nat) (hr : filterF (fun i => (nd i).p.x) (fun i => (nd i).p.y) n σ p p = some (τ, r)) :
  Spec w 134 [.ref (nd p).a] news 3 18 (fun v news' => v = .ref (nd r).a ∧ r < k ∧ RIn w news' nd k τ ∧ Frm news news') := by
  unfold Spec
  intro mean mg mb dp un gd cn cs aA ccd cl outer A₀ base h₀ L m s Q E B F X N T hk hd hu hret
  have kf9 : (PySem.Challenge.rw_bj5012_02 = PySem.Challenge.rw_bj5012_02 ∧ ∀ p, Mine.hd.heap_39 p = Mine.hd.heap_39 p) := (by k_fill; exact ⟨rfl, fun _ => rfl⟩)
  clear kf9
  refine wpAny_call ?_
  k_dflt (refine' code_def ?k1 ?k2 ?k3 ?k4 ?k5 ?kA ?kF ?kK ?k6 ?k7 ?k8 ?k9 ?kB ?_ ?c2 ?c3 ?c4 ?c5; (case kA => exact rfl); (case kF => exact rfl); (case kK => first | exact rfl | assumption); (case k1 => k_asm); (case k2 => k_asm); (case k3 => k_asm); (case k4 => k_asm); (case k5 => k_asm); (case k6 => k_is); (case k7 => k_is); (case k8 => ktr_room); (case k9 => first | exact BindsTo.of_eq rfl | exact binds_K (by k_in) rfl (by k_is) rfl rfl rfl); (case c5 => decide); (case kB => exact locs rfl); (case c2 => exact rfl); (case c3 => exact rfl); (case c4 => exact rfl); k_whole; intro g' L' h' FG' F' N' B' X' T'; (try dsimp only); (try k_fold))
  k_steps
  refine Stop.out ?_
  rename Fr _ _ _ _ => lF
  rename News _ _ _ _ => lN
  with_unfolding_all refine While2 (Str.ofString "p") (Str.ofString "end") [Str.ofString "again"] (fun n v v₂ nx => ∃ σ₁ i e, v = .ref (nd i).a ∧ v₂ = .ref (nd e).a ∧ i < k ∧ e < k ∧ RIn w nx nd k σ₁ ∧ Frm news nx ∧ filterF (fun i => (nd i).p.x) (fun i => (nd i).p.y) n σ₁ i e = some (τ, r)) lF lN (by rfl) (by rfl) ⟨σ, p, p, rfl, rfl, hp, hp, R, Frm.refl, hr⟩ ?_
  rintro j v v₂ u nx hh tt ⟨σ₁, i, e, rfl, rfl, hi, he, R₁, M₁, hl⟩ Fa Na
  clear lF lN hr
  obtain ⟨q1, q2, q3, q4⟩ := R₁ i hi
  obtain ⟨n1, n2, n3, n4⟩ := R₁ _ q4
  have e1 := (R₁ e he).1
  have mi := R₁.node hi
  have mp := R₁.node q3
  have mn := R₁.node q4
  cases j with
  | zero => cases hl
  | succ j =>
  unfold filterF at hl
  k_steps
  refine Stop.out (cut_if (eqG (fun i => (nd i).p.x) (fun i => (nd i).p.y) i (σ₁.nx i) || decide (areaG (fun i => (nd i).p.x) (fun i => (nd i).p.y) (σ₁.pv i) i (σ₁.nx i) = 0)) (by assumption) (by assumption) ?_ (fun c1 ha ta Fb Nb => ?_) (fun c1 ha ta Fb Nb => ?_))
  · k_steps
    all_goals ((refine CutB.mk ?_ ⟨_, _, rfl, by k_asm, by k_asm⟩); simp only [area_nd, eq_nd] at *; simp [*])
  · rw [if_pos c1] at hl
    k_steps
    (refine Stop.out ?_; k_dflt (refine' use_spec ?k1 ?k2 ?k3 ?k4 ?k5 ?kK (rm_spec _ _ _ _ _ (by assumption) I _ (by assumption)) ?kd ?ku ?_; (case k1 => k_asm); (case k2 => k_asm); (case k3 => k_asm); (case k4 => k_asm); (case k5 => k_asm); (case kK => first | exact rfl | assumption); (case kd => (try dsimp only [ktrTop]); first | omega | exact Nat.le_of_ble_eq_true rfl); (case ku => (try dsimp only [ktrTop]); first | omega | exact Nat.le_of_ble_eq_true rfl)))
    intro r9 l9 h9 tk9 F9 N9 P9
    obtain ⟨rfl, R₂, M₂⟩ := P9
    generalize σ₁.rm i = σ₂ at *
    obtain ⟨a1, a2, a3, a4⟩ := R₂ i hi
    obtain ⟨b1, b2, b3, b4⟩ := R₂ _ a3
    have b5 := (R₂ _ b4).1
    try dsimp only
    try k_fold
    k_steps
    · rw [if_pos (by assumption)] at hl
      cases hl
      exact hret _ _ _ _ (by k_asm) (by k_asm) ⟨rfl, a3, R₂, M₁.trans M₂⟩
    · rw [if_neg (by assumption)] at hl
      refine ⟨_, _, _, _, _, _, j, rfl, by k_asm, by k_asm, by omega, rfl, rfl, ⟨σ₂, _, _, rfl, rfl, a3, a3, R₂, M₁.trans M₂, hl⟩, fun y h1 h2 h3 => ?_⟩
      simp only [List.contains_cons, List.contains_nil, Bool.or_false, beq_eq_false_iff_ne, ne_eq] at h3
      simp [h1, h2, h3]
  · rw [if_neg (by rw [c1]; exact Bool.false_ne_true)] at hl
    k_steps
    · rw [if_pos (by assumption)] at hl
      cases hl
      exact hret _ _ _ _ (by k_asm) (by k_asm) ⟨rfl, he, R₁, M₁⟩
    · rw [if_neg (by assumption)] at hl
      refine ⟨_, _, _, _, _, _, j, rfl, by k_asm, by k_asm, by omega, rfl, rfl, ⟨σ₁, _, _, rfl, rfl, q4, he, R₁, M₁, hl⟩, fun y h1 h2 h3 => ?_⟩
      simp only [List.contains_cons, List.contains_nil, Bool.or_false, beq_eq_false_iff_ne, ne_eq] at h3
      simp [h1, h2, h3]
end
end
end Mine

open PySem PySem.W PyProof.Rows PySem.Calls
set_option Elab.async false
set_option maxRecDepth 100000
namespace Mine
theorem freshM4 : True ∧ True := by
  w_top off
  try (walk1; fail)
  exact ⟨trivial, trivial⟩
end Mine
namespace Mine
open PySem.Builtin.Int (intBits)
section
local macro_rules | `(tactic| bits_by_make) => `(tactic| first | exact Pt.hx _ | exact Pt.hy _)
section
local macro_rules | `(tactic| walk_at "eval Call") => `(tactic| first | ((with_reducible show wpAny _ _ (eval (Expr.Call (Expr.Name _ _) _ (_ :: _) _) _) _ _ _); k_dflt (refine wpAny_Call_Name_kw ?_)) | k_dflt (refine Call_ ?_))
local macro_rules | `(tactic| walk_at "call ref") => `(tactic| (k_here; refine Stop.intro ?_))
local macro_rules | `(tactic| walk_at "call ref") => `(tactic| (k_here; k_dflt (first | (refine' use_spec ?k1 ?k2 ?k3 ?k4 ?k5 ?kK (area_spec _ _ _ _ _ ?a0 ?a1 ?a2) ?kd ?ku ?_; (case k1 => k_asm); (case k2 => k_asm); (case k3 => k_asm); (case k4 => k_asm); (case k5 => k_asm); (case kK => first | exact rfl | assumption); (case a0 => first | assumption | exact ⟨by k_mem, _, _, by k_mem⟩ | (apply RIn.node <;> assumption)); (case a1 => first | assumption | exact ⟨by k_mem, _, _, by k_mem⟩ | (apply RIn.node <;> assumption)); (case a2 => first | assumption | exact ⟨by k_mem, _, _, by k_mem⟩ | (apply RIn.node <;> assumption)); (case kd => (try dsimp only [ktrTop]); omega); (case ku => (try dsimp only [ktrTop]); omega)) | (refine' use_spec ?k1 ?k2 ?k3 ?k4 ?k5 ?kK (eq_spec _ _ _ _ ?a0 ?a1) ?kd ?ku ?_; (case k1 => k_asm); (case k2 => k_asm); (case k3 => k_asm); (case k4 => k_asm); (case k5 => k_asm); (case kK => first | exact rfl | assumption); (case a0 => first | assumption | exact ⟨by k_mem, _, _, by k_mem⟩ | (apply RIn.node <;> assumption)); (case a1 => first | assumption | exact ⟨by k_mem, _, _, by k_mem⟩ | (apply RIn.node <;> assumption)); (case kd => (try dsimp only [ktrTop]); omega); (case ku => (try dsimp only [ktrTop]); omega)) | (refine' use_spec ?k1 ?k2 ?k3 ?k4 ?k5 ?kK (inter_spec _ _ _ _ _ _ ?a0 ?a1 ?a2 ?a3) ?kd ?ku ?_; (case k1 => k_asm); (case k2 => k_asm); (case k3 => k_asm); (case k4 => k_asm); (case k5 => k_asm); (case kK => first | exact rfl | assumption); (case a0 => first | assumption | exact ⟨by k_mem, _, _, by k_mem⟩ | (apply RIn.node <;> assumption)); (case a1 => first | assumption | exact ⟨by k_mem, _, _, by k_mem⟩ | (apply RIn.node <;> assumption)); (case a2 => first | assumption | exact ⟨by k_mem, _, _, by k_mem⟩ | (apply RIn.node <;> assumption)); (case a3 => first | assumption | exact ⟨by k_mem, _, _, by k_mem⟩ | (apply RIn.node <;> assumption)); (case kd => (try dsimp only [ktrTop]); omega); (case ku => (try dsimp only [ktrTop]); omega)) | (refine' use_spec ?k1 ?k2 ?k3 ?k4 ?k5 ?kK (loc_spec _ _ _ _ _ ?a0 _ _ ?a1 ?a2) ?kd ?ku ?_; (case k1 => k_asm); (case k2 => k_asm); (case k3 => k_asm); (case k4 => k_asm); (case k5 => k_asm); (case kK => first | exact rfl | assumption); (case a0 => assumption); (case a1 => assumption); (case a2 => assumption); (case kd => (try dsimp only [ktrTop]); omega); (case ku => (try dsimp only [ktrTop]); omega))); intro r9 l9 h9 tk9 F9 N9 P9; obtain ⟨e9, P9⟩ := P9; subst e9; (first | subst P9 | (obtain ⟨t9, e9⟩ := P9; subst e9)); (try dsimp only); (try k_fold)))
local macro_rules | `(tactic| walk_at "compareOp Eq ref") => `(tactic| (k_here; (with_reducible show wpAny _ _ (compareOp CmpOp.Eq (Value.ref _) (Value.ref _)) _ _ _); (refine cmp_ofEq ?_); k_dflt (refine' cmp_K ?k1 ?k2 ?k3 ?k4 ?k5 ?k6 ?k7 ?k8 ?_; (case k1 => ktr_units); (case k2 => k_asm); (case k3 => k_asm); (case k4 => k_inst); (case k5 => k_typeOf); (case k6 => k_is); (case k7 => k_is); (case k8 => k_is); k_whole)))
local macro_rules | `(tactic| walk_at "CmpBack") => `(tactic| (dsimp only [PySem.W.CmpBack]))
local macro_rules | `(tactic| walk_at "exec If BoolOp") => `(tactic| (k_here; refine Stop.intro ?_))
local macro_rules | `(tactic| walk_at "exec While") => `(tactic| (k_here; refine Stop.intro ?_))
local macro_rules | `(tactic| walk_at "exec While Compare") => `(tactic| (k_here; refine Stop.intro ?_))
local macro_rules | `(tactic| walk_at "exec While Constant") => `(tactic| (k_here; refine Stop.intro ?_))
local macro_rules | `(tactic| walk_at "exec While Compare cons nil") => `(tactic| (k_here; refine Stop.intro ?_))
local macro_rules | `(tactic| walk_at "exec While BoolOp") => `(tactic| (k_here; refine Stop.intro ?_))
local macro_rules | `(tactic| walk_at "call builtin:list.append") => `(tactic| (k_here; refine Stop.intro ?_))
local macro_rules | `(tactic| walk_at "compareOp Is ref ref") => `(tactic| (k_here; k_dflt (refine' is_nd ?k1 ?k2 ?k3 ?k4 ?k5 ?k6 ?_; (case k1 => k_asm); (case k2 => k_asm); (case k3 => k_asm); (case k4 => k_asm); (case k5 => k_mem); (case k6 => k_mem))))
local macro_rules | `(tactic| walk_at "compareOp IsNot ref ref") => `(tactic| (k_here; k_dflt (refine' isNot_nd ?k1 ?k2 ?k3 ?k4 ?k5 ?k6 ?_; (case k1 => k_asm); (case k2 => k_asm); (case k3 => k_asm); (case k4 => k_asm); (case k5 => k_mem); (case k6 => k_mem))))
local macro_rules | `(tactic| walk_at "WPost1") => `(tactic| (dsimp only [WPost1]))
local macro_rules | `(tactic| walk_at "WPost2") => `(tactic| (dsimp only [WPost2]))
set_option maxHeartbeats 4000000 in
theorem cure_spec (w : World) (news : List (Addr × Obj)) (nd : Nat → Nd) (k : Nat) (σ : PS) (R : RIn w news nd k σ) (I : NdInj nd k) (f n p : Nat) (hp : p < k) (tr : Addr) (ts : List (Nat × Nat × Nat)) (hT : TrIn news tr (ts.map (adr nd))) (hz : ts.length + n ≤ 1000000)
  (τ : PS) (r : Nat) (us : List (Nat × Nat × Nat)) (hr : cureF (fun i => (nd i).p.x) (fun i => (nd i).p.y) f n σ p p ts = some (τ, r, us)) :
  Spec w 162 [.ref (nd p).a, .ref tr] news 6 40 (fun v news' => v = .ref (nd r).a ∧ r < k ∧ RIn w news' nd k τ ∧ TrIn news' tr (us.map (adr nd)) ∧ us.length ≤ ts.length + n ∧ FrmT tr news news') := by
  unfold Spec
  intro mean mg mb dp un gd cn cs aA ccd cl outer A₀ base h₀ L m s Q E B F X N T hk hd hu hret
  have kf9 : (PySem.Challenge.rw_bj5012_02 = PySem.Challenge.rw_bj5012_02 ∧ ∀ p, Mine.hd.heap_39 p = Mine.hd.heap_39 p) := (by k_fill; exact ⟨rfl, fun _ => rfl⟩)
  clear kf9
  refine wpAny_call ?_
  k_dflt ktr_enter
  k_steps
  refine Stop.out ?_
  rename Fr _ _ _ _ => lF
  rename News _ _ _ _ => lN
  with_unfolding_all refine While2 (Str.ofString "p") (Str.ofString "start") [Str.ofString "a", Str.ofString "b"] (fun n' v v₂ nx => ∃ σ₁ i e ts', v = .ref (nd i).a ∧ v₂ = .ref (nd e).a ∧ i < k ∧ e < k ∧ RIn w nx nd k σ₁ ∧ TrIn nx tr (ts'.map (adr nd)) ∧ ts'.length + n' ≤ ts.length + n ∧ FrmT tr news nx ∧ cureF (fun i => (nd i).p.x) (fun i => (nd i).p.y) f n' σ₁ i e ts' = some (τ, r, us)) lF lN (by rfl) (by rfl) ⟨σ, p, p, ts, rfl, rfl, hp, hp, R, hT, Nat.le_refl _, FrmT.refl, hr⟩ ?_
  rintro j v v₂ u nx hh tt ⟨σ₁, i, e, ts', rfl, rfl, hi, he, R₁, T₁, z₁, M₁, hl⟩ Fa Na
  clear lF lN hr
  obtain ⟨q1, q2, q3, q4⟩ := R₁ i hi
  obtain ⟨n1, n2, n3, n4⟩ := R₁ _ q4
  obtain ⟨m1, m2, m3, m4⟩ := R₁ _ q3
  obtain ⟨b1, b2, b3, b4⟩ := R₁ _ n4
  obtain ⟨vs, ep, t1, t2⟩ := T₁
  have e1 := (R₁ e he).1
  have mi := R₁.node hi
  have mp := R₁.node q3
  have mn := R₁.node q4
  have mb := R₁.node n4
  cases j with
  | zero => cases hl
  | succ j =>
  unfold cureF at hl
  k_steps
  refine Stop.out (cut_if (cureT (fun i => (nd i).p.x) (fun i => (nd i).p.y) σ₁ i) (by assumption) (by assumption) ?_ (fun c1 ha ta Fb Nb => ?_) (fun c1 ha ta Fb Nb => ?_))
  · k_steps
    all_goals ((refine CutB.mk ?_ ⟨_, _, rfl, by k_asm, by k_asm⟩); simp only [eq_nd, inter_nd] at *; unfold cureT; simp [*])
  · rw [if_pos c1] at hl
    k_steps
    refine Stop.out ?_
    rename Fr _ _ _ _ => lF
    rename News _ _ _ _ => lN
    refine append_sym lF lN (.tail _ t1) (fun h8 l8 F8 N8 a1 a2 => ?_) (by rw [t2.length, List.length_map]; omega)
    have R₂ := (R₁.mono (fun q hq => List.Mem.tail _ hq)).offList lN (.tail _ t1) a2
    have T₂ : TrIn l8 tr ((ts' ++ [(σ₁.pv i, i, σ₁.nx (σ₁.nx i))]).map (adr nd)) := ⟨_, _, a1, by
      rw [List.map_append]
      exact ((t2.mono (fun _ _ hm => List.Mem.tail _ hm)).offList lN (.tail _ t1) a2).snoc (t := adr nd (σ₁.pv i, i, σ₁.nx (σ₁.nx i))) (a2 _ (.head _) (news_ne lN (.head _) (.tail _ t1) tup_ne_list))⟩
    have M₂ : FrmT tr news l8 := M₁.trans fun q hq hn ht => a2 q (.tail _ hq) ht
    clear lF lN R₁ M₁
    try dsimp only
    try k_fold
    k_steps
    (refine Stop.out ?_; k_dflt (refine' use_spec ?k1 ?k2 ?k3 ?k4 ?k5 ?kK (rm_spec _ _ _ _ _ (by assumption) I _ (by assumption)) ?kd ?ku ?_; (case k1 => k_asm); (case k2 => k_asm); (case k3 => k_asm); (case k4 => k_asm); (case k5 => k_asm); (case kK => first | exact rfl | assumption); (case kd => (try dsimp only [ktrTop]); first | omega | exact Nat.le_of_ble_eq_true rfl); (case ku => (try dsimp only [ktrTop]); first | omega | exact Nat.le_of_ble_eq_true rfl)))
    intro r9 l9 h9 tk9 F9 N9 P9
    obtain ⟨rfl, R₃, M₃⟩ := P9
    have T₃ := T₂.frm M₃
    obtain ⟨a1, a2, a3, a4⟩ := R₃ i hi
    try dsimp only
    try k_fold
    k_steps
    (refine Stop.out ?_; k_dflt (refine' use_spec ?k1 ?k2 ?k3 ?k4 ?k5 ?kK (rm_spec _ _ _ _ _ (by assumption) I _ (by assumption)) ?kd ?ku ?_; (case k1 => k_asm); (case k2 => k_asm); (case k3 => k_asm); (case k4 => k_asm); (case k5 => k_asm); (case kK => first | exact rfl | assumption); (case kd => (try dsimp only [ktrTop]); first | omega | exact Nat.le_of_ble_eq_true rfl); (case ku => (try dsimp only [ktrTop]); first | omega | exact Nat.le_of_ble_eq_true rfl)))
    clear R₂ T₂
    intro r9 l10 h9 tk9 F9 N9 P9
    obtain ⟨rfl, R₄, M₄⟩ := P9
    have T₄ := T₃.frm M₄
    change RIn w l10 nd k (rm2 σ₁ i) at R₄
    have M₅ : FrmT tr news l10 := (M₂.trans M₃.toT).trans M₄.toT
    clear R₃ T₃ M₂ M₃ M₄
    generalize hb : σ₁.nx (σ₁.nx i) = b at *
    have n4' : b < k := hb ▸ n4
    generalize rm2 σ₁ i = σ₂ at *
    obtain ⟨a1, a2, a3, a4⟩ := R₄ _ n4'
    have a5 := (R₄ _ a4).1
    try dsimp only
    try k_fold
    k_steps
    · rw [if_pos (by assumption)] at hl
      unfold cureFin at hl
      split at hl
      · cases hl
      · rename_i ex
        cases hl
        (refine Stop.out ?_; k_dflt (refine' use_spec ?k1 ?k2 ?k3 ?k4 ?k5 ?kK (fp_spec _ _ _ _ _ (by assumption) I _ _ (by assumption) _ _ ex) ?kd ?ku ?_; (case k1 => k_asm); (case k2 => k_asm); (case k3 => k_asm); (case k4 => k_asm); (case k5 => k_asm); (case kK => first | exact rfl | assumption); (case kd => (try dsimp only [ktrTop]); first | omega | exact Nat.le_of_ble_eq_true rfl); (case ku => (try dsimp only [ktrTop]); first | omega | exact Nat.le_of_ble_eq_true rfl)))
        intro r9 l11 h9 tk9 F9 N9 P9
        obtain ⟨rfl, hr9, R₅, M₆⟩ := P9
        try dsimp only
        try k_fold
        k_steps
        exact hret _ _ _ _ (by k_asm) (by k_asm) ⟨rfl, hr9, R₅, T₄.frm M₆, by rw [List.length_append, List.length_singleton]; omega, M₅.trans M₆.toT⟩
    · rw [if_neg (by assumption)] at hl
      refine ⟨_, _, _, _, _, _, j, rfl, by k_asm, by k_asm, by omega, rfl, rfl, ⟨σ₂, _, _, _, rfl, rfl, a4, n4', R₄, T₄, by rw [List.length_append, List.length_singleton]; omega, M₅, hl⟩, fun y h1 h2 h3 => ?_⟩
      simp only [List.contains_cons, List.contains_nil, Bool.or_false, Bool.or_eq_false_iff, beq_eq_false_iff_ne, ne_eq] at h3
      simp [h1, h2, h3]
  · rw [if_neg (by rw [c1]; exact Bool.false_ne_true)] at hl
    k_steps
    · rw [if_pos (by assumption)] at hl
      unfold cureFin at hl
      split at hl
      · cases hl
      · rename_i ex
        cases hl
        (refine Stop.out ?_; k_dflt (refine' use_spec ?k1 ?k2 ?k3 ?k4 ?k5 ?kK (fp_spec _ _ _ _ _ (by assumption) I _ _ (by assumption) _ _ ex) ?kd ?ku ?_; (case k1 => k_asm); (case k2 => k_asm); (case k3 => k_asm); (case k4 => k_asm); (case k5 => k_asm); (case kK => first | exact rfl | assumption); (case kd => (try dsimp only [ktrTop]); first | omega | exact Nat.le_of_ble_eq_true rfl); (case ku => (try dsimp only [ktrTop]); first | omega | exact Nat.le_of_ble_eq_true rfl)))
        intro r9 l11 h9 tk9 F9 N9 P9
        obtain ⟨rfl, hr9, R₅, M₆⟩ := P9
        try dsimp only
        try k_fold
        k_steps
        exact hret _ _ _ _ (by k_asm) (by k_asm) ⟨rfl, hr9, R₅, TrIn.frm ⟨vs, ep, t1, t2⟩ M₆, by omega, M₁.trans M₆.toT⟩
    · rw [if_neg (by assumption)] at hl
      refine ⟨_, _, _, _, _, _, j, rfl, by k_asm, by k_asm, by omega, rfl, rfl, ⟨σ₁, _, _, _, rfl, rfl, q4, he, R₁, ⟨vs, ep, t1, t2⟩, by omega, M₁, hl⟩, fun y h1 h2 h3 => ?_⟩
      simp only [List.contains_cons, List.contains_nil, Bool.or_false, Bool.or_eq_false_iff, beq_eq_false_iff_ne, ne_eq] at h3
      simp [h1, h2, h3]
end
end
end Mine

open PySem PySem.W PyProof.Rows PySem.Calls
set_option Elab.async false
set_option maxRecDepth 100000
namespace Mine
theorem freshM5 : True ∧ True := by
  w_top off
  try (walk1; fail)
  exact ⟨trivial, trivial⟩
end Mine
namespace Mine
open PySem.Builtin.Int (intBits)
section
local macro_rules | `(tactic| bits_by_make) => `(tactic| first | exact Pt.hx _ | exact Pt.hy _)
section
local macro_rules | `(tactic| walk_at "eval Call") => `(tactic| first | ((with_reducible show wpAny _ _ (eval (Expr.Call (Expr.Name _ _) _ (_ :: _) _) _) _ _ _); k_dflt (refine wpAny_Call_Name_kw ?_)) | k_dflt (refine Call_ ?_))
local macro_rules | `(tactic| walk_at "call ref") => `(tactic| (k_here; refine Stop.intro ?_))
local macro_rules | `(tactic| walk_at "exec While") => `(tactic| (k_here; refine Stop.intro ?_))
local macro_rules | `(tactic| walk_at "exec While Compare") => `(tactic| (k_here; refine Stop.intro ?_))
local macro_rules | `(tactic| walk_at "exec While Constant") => `(tactic| (k_here; refine Stop.intro ?_))
local macro_rules | `(tactic| walk_at "exec While Compare cons nil") => `(tactic| (k_here; refine Stop.intro ?_))
local macro_rules | `(tactic| walk_at "exec While BoolOp") => `(tactic| (k_here; refine Stop.intro ?_))
local macro_rules | `(tactic| walk_at "call builtin:list.append") => `(tactic| (k_here; refine Stop.intro ?_))
local macro_rules | `(tactic| walk_at "compareOp Is ref ref") => `(tactic| (k_here; k_dflt (refine' is_nd ?k1 ?k2 ?k3 ?k4 ?k5 ?k6 ?_; (case k1 => k_asm); (case k2 => k_asm); (case k3 => k_asm); (case k4 => k_asm); (case k5 => k_mem); (case k6 => k_mem))))
local macro_rules | `(tactic| walk_at "compareOp IsNot ref ref") => `(tactic| (k_here; k_dflt (refine' isNot_nd ?k1 ?k2 ?k3 ?k4 ?k5 ?k6 ?_; (case k1 => k_asm); (case k2 => k_asm); (case k3 => k_asm); (case k4 => k_asm); (case k5 => k_mem); (case k6 => k_mem))))
local macro_rules | `(tactic| walk_at "WPost1") => `(tactic| (dsimp only [WPost1]))
local macro_rules | `(tactic| walk_at "WPost2") => `(tactic| (dsimp only [WPost2]))
set_option maxHeartbeats 4000000 in
theorem link2_spec (w : World) (news : List (Addr × Obj)) (nd : Nat → Nd) (k : Nat) (σ : PS) (R : RIn w news nd k σ) (I : NdInj nd k) (f p : Nat) (hp : p < k) (tr : Addr) (ts us : List (Nat × Nat × Nat)) (hT : TrIn news tr (ts.map (adr nd))) (hz : ts.length + 1 * f ≤ 1000000)
  (v1 v2 v3 : Value) (tp : Tok) (hr : link2 (fun i => (nd i).p.x) (fun i => (nd i).p.y) f f σ p ts = some us) :
  Spec w 141 [.ref (nd p).a, .ref tr, v1, v2, v3, .int 2 tp] news 8 60 (fun v news' => v = .none ∧ TrIn news' tr (us.map (adr nd)) ∧ FrmT tr news news') := by
  unfold link2 at hr
  generalize hn : f = nn at hr
  have hz' : ts.length + nn + 0 * f ≤ 1000000 := by omega
  replace hr : linkG (fun i => (nd i).p.x) (fun i => (nd i).p.y) f (fun _ _ ts => some ts) nn σ p p ts = some us := by subst hn; exact hr
  unfold Spec
  intro mean mg mb dp un gd cn cs aA ccd cl outer A₀ base h₀ L m s Q E B F X N T hk hd hu hret
  have kf9 : (PySem.Challenge.rw_bj5012_02 = PySem.Challenge.rw_bj5012_02 ∧ ∀ p, Mine.hd.heap_39 p = Mine.hd.heap_39 p) := (by k_fill; exact ⟨rfl, fun _ => rfl⟩)
  clear kf9
  refine wpAny_call ?_
  k_dflt ktr_enter
  k_steps
  refine Stop.out ?_
  rename Fr _ _ _ _ => lF
  rename News _ _ _ _ => lN
  with_unfolding_all refine While2 (Str.ofString "ear") (Str.ofString "stop") [Str.ofString "prev", Str.ofString "next", Str.ofString "_is_ear"] (fun n' v v₂ nx => ∃ σ₁ i e ts', v = .ref (nd i).a ∧ v₂ = .ref (nd e).a ∧ i < k ∧ e < k ∧ RIn w nx nd k σ₁ ∧ TrIn nx tr (ts'.map (adr nd)) ∧ ts'.length + n' ≤ ts.length + nn ∧ FrmT tr news nx ∧ linkG (fun i => (nd i).p.x) (fun i => (nd i).p.y) f (fun _ _ ts => some ts) n' σ₁ i e ts' = some us) lF lN (by rfl) (by rfl) ⟨σ, p, p, ts, rfl, rfl, hp, hp, R, hT, Nat.le_refl _, FrmT.refl, hr⟩ ?_
  rintro j v v₂ u nx hh tt ⟨σ₁, i, e, ts', rfl, rfl, hi, he, R₁, T₁, z₁, M₁, hl⟩ Fa Na
  clear lF lN hr
  obtain ⟨q1, q2, q3, q4⟩ := R₁ i hi
  obtain ⟨n1, n2, n3, n4⟩ := R₁ _ q4
  obtain ⟨m1, m2, m3, m4⟩ := R₁ _ q3
  have e1 := (R₁ e he).1
  have T₁' := T₁
  obtain ⟨vs, ep, t1, t2⟩ := T₁'
  cases j with
  | zero => cases hl
  | succ j =>
  unfold linkG at hl
  by_cases c0 : σ₁.pv i = σ₁.nx i
  · rw [if_pos c0] at hl
    cases hl
    k_steps
    exact hret _ _ _ _ (by k_asm) (by k_asm) ⟨rfl, T₁, M₁⟩
  rw [if_neg c0] at hl
  cases hb : isEarF (fun i => (nd i).p.x) (fun i => (nd i).p.y) σ₁ f i with
  | none => rw [hb] at hl; cases hl
  | some b =>
  rw [hb] at hl
  k_steps
  (refine Stop.out ?_; k_dflt (refine' use_spec ?k1 ?k2 ?k3 ?k4 ?k5 ?kK (ear_spec _ _ _ _ _ (by assumption) I f _ (by assumption) _ hb) ?kd ?ku ?_; (case k1 => k_asm); (case k2 => k_asm); (case k3 => k_asm); (case k4 => k_asm); (case k5 => k_asm); (case kK => first | exact rfl | assumption); (case kd => (try dsimp only [ktrTop]); first | omega | exact Nat.le_of_ble_eq_true rfl); (case ku => (try dsimp only [ktrTop]); first | omega | exact Nat.le_of_ble_eq_true rfl)))
  intro r9 l9 h9 tk9 F9 N9 P9
  obtain ⟨e9, e8⟩ := P9
  subst e9
  subst e8
  try dsimp only
  try k_fold
  cases b with
  | true =>
    dsimp only at hl
    k_steps
    refine Stop.out ?_
    rename Fr _ _ _ _ => lF
    rename News _ _ _ _ => lN
    refine append_sym lF lN (.tail _ t1) (fun h8 l8 F8 N8 a1 a2 => ?_) (by rw [t2.length, List.length_map]; omega)
    have R₂ := (R₁.mono (fun q hq => List.Mem.tail _ hq)).offList lN (.tail _ t1) a2
    have T₂ : TrIn l8 tr ((ts' ++ [(σ₁.pv i, i, σ₁.nx i)]).map (adr nd)) := ⟨_, _, a1, by
      rw [List.map_append]
      exact ((t2.mono (fun _ _ hm => List.Mem.tail _ hm)).offList lN (.tail _ t1) a2).snoc (t := adr nd (σ₁.pv i, i, σ₁.nx i)) (a2 _ (.head _) (news_ne lN (.head _) (.tail _ t1) tup_ne_list))⟩
    have M₂ : FrmT tr news l8 := M₁.trans fun q hq hn ht => a2 q (.tail _ hq) ht
    clear lF lN R₁ T₁ M₁
    try dsimp only
    try k_fold
    k_steps
    (refine Stop.out ?_; k_dflt (refine' use_spec ?k1 ?k2 ?k3 ?k4 ?k5 ?kK (rm_spec _ _ _ _ _ (by assumption) I _ (by assumption)) ?kd ?ku ?_; (case k1 => k_asm); (case k2 => k_asm); (case k3 => k_asm); (case k4 => k_asm); (case k5 => k_asm); (case kK => first | exact rfl | assumption); (case kd => (try dsimp only [ktrTop]); first | omega | exact Nat.le_of_ble_eq_true rfl); (case ku => (try dsimp only [ktrTop]); first | omega | exact Nat.le_of_ble_eq_true rfl)))
    intro r9 l9 h9 tk9 F9 N9 P9
    obtain ⟨rfl, R₃, M₃⟩ := P9
    have T₃ := T₂.frm M₃
    have M₄ : FrmT tr news l9 := M₂.trans M₃.toT
    clear R₂ T₂ M₂
    generalize σ₁.rm i = σ₂ at *
    generalize hb9 : σ₁.nx i = b at *
    obtain ⟨a1, a2, a3, a4⟩ := R₃ b (hb9 ▸ q4)
    have a5 := (R₃ _ a4).1
    try dsimp only
    try k_fold
    k_steps
    refine ⟨_, _, _, _, _, _, j, rfl, by k_asm, by k_asm, by omega, rfl, rfl, ⟨σ₂, _, _, _, rfl, rfl, a4, a4, R₃, T₃, by rw [List.length_append, List.length_singleton]; omega, M₄, hl⟩, fun y h1 h2 h3 => ?_⟩
    simp only [List.contains_cons, List.contains_nil, Bool.or_false, Bool.or_eq_false_iff, beq_eq_false_iff_ne, ne_eq] at h3
    simp [h1, h2, h3]
  | false =>
    dsimp only at hl
    by_cases c1 : σ₁.nx i = e
    · rw [if_pos c1] at hl
      cases hl
      k_steps
      all_goals exact hret _ _ _ _ (by k_asm) (by k_asm) ⟨rfl, T₁, M₁⟩
    · rw [if_neg c1] at hl
      k_steps
      refine ⟨_, _, _, _, _, _, j, rfl, by k_asm, by k_asm, by omega, rfl, rfl, ⟨σ₁, _, _, _, rfl, rfl, q4, he, R₁, T₁, by omega, M₁, hl⟩, fun y h1 h2 h3 => ?_⟩
      simp only [List.contains_cons, List.contains_nil, Bool.or_false, Bool.or_eq_false_iff, beq_eq_false_iff_ne, ne_eq] at h3
      simp [h1, h2, h3]

set_option maxHeartbeats 4000000 in
theorem link1_spec (w : World) (news : List (Addr × Obj)) (nd : Nat → Nd) (k : Nat) (σ : PS) (R : RIn w news nd k σ) (I : NdInj nd k) (f p : Nat) (hp : p < k) (tr : Addr) (ts us : List (Nat × Nat × Nat)) (hT : TrIn news tr (ts.map (adr nd))) (hz : ts.length + 3 * f ≤ 1000000)
  (v1 v2 v3 : Value) (tp : Tok) (hr : link1 (fun i => (nd i).p.x) (fun i => (nd i).p.y) f f σ p ts = some us) :
  Spec w 141 [.ref (nd p).a, .ref tr, v1, v2, v3, .int 1 tp] news 10 80 (fun v news' => v = .none ∧ TrIn news' tr (us.map (adr nd)) ∧ FrmT tr news news') := by
  unfold link1 at hr
  generalize hn : f = nn at hr
  have hz' : ts.length + nn + 2 * f ≤ 1000000 := by omega
  replace hr : linkG (fun i => (nd i).p.x) (fun i => (nd i).p.y) f (last1 (fun i => (nd i).p.x) (fun i => (nd i).p.y) f f) nn σ p p ts = some us := by subst hn; exact hr
  unfold Spec
  intro mean mg mb dp un gd cn cs aA ccd cl outer A₀ base h₀ L m s Q E B F X N T hk hd hu hret
  have kf9 : (PySem.Challenge.rw_bj5012_02 = PySem.Challenge.rw_bj5012_02 ∧ ∀ p, Mine.hd.heap_39 p = Mine.hd.heap_39 p) := (by k_fill; exact ⟨rfl, fun _ => rfl⟩)
  clear kf9
  refine wpAny_call ?_
  k_dflt ktr_enter
  k_steps
  refine Stop.out ?_
  rename Fr _ _ _ _ => lF
  rename News _ _ _ _ => lN
  with_unfolding_all refine While2 (Str.ofString "ear") (Str.ofString "stop") [Str.ofString "prev", Str.ofString "next", Str.ofString "_is_ear"] (fun n' v v₂ nx => ∃ σ₁ i e ts', v = .ref (nd i).a ∧ v₂ = .ref (nd e).a ∧ i < k ∧ e < k ∧ RIn w nx nd k σ₁ ∧ TrIn nx tr (ts'.map (adr nd)) ∧ ts'.length + n' ≤ ts.length + nn ∧ FrmT tr news nx ∧ linkG (fun i => (nd i).p.x) (fun i => (nd i).p.y) f (last1 (fun i => (nd i).p.x) (fun i => (nd i).p.y) f f) n' σ₁ i e ts' = some us) lF lN (by rfl) (by rfl) ⟨σ, p, p, ts, rfl, rfl, hp, hp, R, hT, Nat.le_refl _, FrmT.refl, hr⟩ ?_
  rintro j v v₂ u nx hh tt ⟨σ₁, i, e, ts', rfl, rfl, hi, he, R₁, T₁, z₁, M₁, hl⟩ Fa Na
  clear lF lN hr
  obtain ⟨q1, q2, q3, q4⟩ := R₁ i hi
  obtain ⟨n1, n2, n3, n4⟩ := R₁ _ q4
  obtain ⟨m1, m2, m3, m4⟩ := R₁ _ q3
  have e1 := (R₁ e he).1
  have T₁' := T₁
  obtain ⟨vs, ep, t1, t2⟩ := T₁'
  cases j with
  | zero => cases hl
  | succ j =>
  unfold linkG at hl
  by_cases c0 : σ₁.pv i = σ₁.nx i
  · rw [if_pos c0] at hl
    cases hl
    k_steps
    exact hret _ _ _ _ (by k_asm) (by k_asm) ⟨rfl, T₁, M₁⟩
  rw [if_neg c0] at hl
  cases hb : isEarF (fun i => (nd i).p.x) (fun i => (nd i).p.y) σ₁ f i with
  | none => rw [hb] at hl; cases hl
  | some b =>
  rw [hb] at hl
  k_steps
  (refine Stop.out ?_; k_dflt (refine' use_spec ?k1 ?k2 ?k3 ?k4 ?k5 ?kK (ear_spec _ _ _ _ _ (by assumption) I f _ (by assumption) _ hb) ?kd ?ku ?_; (case k1 => k_asm); (case k2 => k_asm); (case k3 => k_asm); (case k4 => k_asm); (case k5 => k_asm); (case kK => first | exact rfl | assumption); (case kd => (try dsimp only [ktrTop]); first | omega | exact Nat.le_of_ble_eq_true rfl); (case ku => (try dsimp only [ktrTop]); first | omega | exact Nat.le_of_ble_eq_true rfl)))
  intro r9 l9 h9 tk9 F9 N9 P9
  obtain ⟨e9, e8⟩ := P9
  subst e9
  subst e8
  try dsimp only
  try k_fold
  cases b with
  | true =>
    dsimp only at hl
    k_steps
    refine Stop.out ?_
    rename Fr _ _ _ _ => lF
    rename News _ _ _ _ => lN
    refine append_sym lF lN (.tail _ t1) (fun h8 l8 F8 N8 a1 a2 => ?_) (by rw [t2.length, List.length_map]; omega)
    have R₂ := (R₁.mono (fun q hq => List.Mem.tail _ hq)).offList lN (.tail _ t1) a2
    have T₂ : TrIn l8 tr ((ts' ++ [(σ₁.pv i, i, σ₁.nx i)]).map (adr nd)) := ⟨_, _, a1, by
      rw [List.map_append]
      exact ((t2.mono (fun _ _ hm => List.Mem.tail _ hm)).offList lN (.tail _ t1) a2).snoc (t := adr nd (σ₁.pv i, i, σ₁.nx i)) (a2 _ (.head _) (news_ne lN (.head _) (.tail _ t1) tup_ne_list))⟩
    have M₂ : FrmT tr news l8 := M₁.trans fun q hq hn ht => a2 q (.tail _ hq) ht
    clear lF lN R₁ T₁ M₁
    try dsimp only
    try k_fold
    k_steps
    (refine Stop.out ?_; k_dflt (refine' use_spec ?k1 ?k2 ?k3 ?k4 ?k5 ?kK (rm_spec _ _ _ _ _ (by assumption) I _ (by assumption)) ?kd ?ku ?_; (case k1 => k_asm); (case k2 => k_asm); (case k3 => k_asm); (case k4 => k_asm); (case k5 => k_asm); (case kK => first | exact rfl | assumption); (case kd => (try dsimp only [ktrTop]); first | omega | exact Nat.le_of_ble_eq_true rfl); (case ku => (try dsimp only [ktrTop]); first | omega | exact Nat.le_of_ble_eq_true rfl)))
    intro r9 l9 h9 tk9 F9 N9 P9
    obtain ⟨rfl, R₃, M₃⟩ := P9
    have T₃ := T₂.frm M₃
    have M₄ : FrmT tr news l9 := M₂.trans M₃.toT
    clear R₂ T₂ M₂
    generalize σ₁.rm i = σ₂ at *
    generalize hb9 : σ₁.nx i = b at *
    obtain ⟨a1, a2, a3, a4⟩ := R₃ b (hb9 ▸ q4)
    have a5 := (R₃ _ a4).1
    try dsimp only
    try k_fold
    k_steps
    refine ⟨_, _, _, _, _, _, j, rfl, by k_asm, by k_asm, by omega, rfl, rfl, ⟨σ₂, _, _, _, rfl, rfl, a4, a4, R₃, T₃, by rw [List.length_append, List.length_singleton]; omega, M₄, hl⟩, fun y h1 h2 h3 => ?_⟩
    simp only [List.contains_cons, List.contains_nil, Bool.or_false, Bool.or_eq_false_iff, beq_eq_false_iff_ne, ne_eq] at h3
    simp [h1, h2, h3]
  | false =>
    dsimp only at hl
    by_cases c1 : σ₁.nx i = e
    · rw [if_pos c1] at hl
      unfold last1 at hl
      split at hl
      · cases hl
      rename_i ex
      split at hl
      · cases hl
      rename_i ey
      k_steps
      (refine Stop.out ?_; k_dflt (refine' use_spec ?k1 ?k2 ?k3 ?k4 ?k5 ?kK (fp_spec _ _ _ _ _ (by assumption) I _ _ (by assumption) _ _ ex) ?kd ?ku ?_; (case k1 => k_asm); (case k2 => k_asm); (case k3 => k_asm); (case k4 => k_asm); (case k5 => k_asm); (case kK => first | exact rfl | assumption); (case kd => (try dsimp only [ktrTop]); first | omega | exact Nat.le_of_ble_eq_true rfl); (case ku => (try dsimp only [ktrTop]); first | omega | exact Nat.le_of_ble_eq_true rfl)))
      intro r9 l9 h9 tk9 F9 N9 P9
      obtain ⟨rfl, hr9, R₅, M₆⟩ := P9
      have T₂ := T₁.frm M₆
      have M₂ : FrmT tr news l9 := M₁.trans M₆.toT
      try dsimp only
      try k_fold
      k_steps
      (refine Stop.out ?_; k_dflt (refine' use_spec ?k1 ?k2 ?k3 ?k4 ?k5 ?kK (cure_spec _ _ _ _ _ R₅ I f f _ hr9 tr _ T₂ (by omega) _ _ _ ey) ?kd ?ku ?_; (case k1 => k_asm); (case k2 => k_asm); (case k3 => k_asm); (case k4 => k_asm); (case k5 => k_asm); (case kK => first | exact rfl | assumption); (case kd => (try dsimp only [ktrTop]); first | omega | exact Nat.le_of_ble_eq_true rfl); (case ku => (try dsimp only [ktrTop]); first | omega | exact Nat.le_of_ble_eq_true rfl)))
      intro r9 l10 h9 tk9 F9 N9 P9
      obtain ⟨rfl, hr10, R₆, T₃, z₃, M₇⟩ := P9
      have M₃ : FrmT tr news l10 := M₂.trans M₇
      try dsimp only
      try k_fold
      k_steps
      (refine Stop.out ?_; k_dflt (refine' use_spec ?k1 ?k2 ?k3 ?k4 ?k5 ?kK (link2_spec _ _ _ _ _ R₆ I f _ hr10 tr _ _ T₃ (by omega) _ _ _ _ hl) ?kd ?ku ?_; (case k1 => k_asm); (case k2 => k_asm); (case k3 => k_asm); (case k4 => k_asm); (case k5 => k_asm); (case kK => first | exact rfl | assumption); (case kd => (try dsimp only [ktrTop]); first | omega | exact Nat.le_of_ble_eq_true rfl); (case ku => (try dsimp only [ktrTop]); first | omega | exact Nat.le_of_ble_eq_true rfl)))
      intro r9 l11 h9 tk9 F9 N9 P9
      obtain ⟨rfl, T₄, M₈⟩ := P9
      try dsimp only
      try k_fold
      k_steps
      all_goals exact hret _ _ _ _ (by k_asm) (by k_asm) ⟨rfl, T₄, M₃.trans M₈⟩
    · rw [if_neg c1] at hl
      k_steps
      refine ⟨_, _, _, _, _, _, j, rfl, by k_asm, by k_asm, by omega, rfl, rfl, ⟨σ₁, _, _, _, rfl, rfl, q4, he, R₁, T₁, by omega, M₁, hl⟩, fun y h1 h2 h3 => ?_⟩
      simp only [List.contains_cons, List.contains_nil, Bool.or_false, Bool.or_eq_false_iff, beq_eq_false_iff_ne, ne_eq] at h3
      simp [h1, h2, h3]

set_option maxHeartbeats 4000000 in
theorem link0_spec (w : World) (news : List (Addr × Obj)) (nd : Nat → Nd) (k : Nat) (σ : PS) (R : RIn w news nd k σ) (I : NdInj nd k) (f p : Nat) (hp : p < k) (tr : Addr) (ts us : List (Nat × Nat × Nat)) (hT : TrIn news tr (ts.map (adr nd))) (hz : ts.length + 4 * f ≤ 1000000)
  (v1 v2 v3 : Value) (tp : Tok) (hr : link0 (fun i => (nd i).p.x) (fun i => (nd i).p.y) f f σ p ts = some us) :
  Spec w 141 [.ref (nd p).a, .ref tr, v1, v2, v3, .int 0 tp] news 12 100 (fun v news' => v = .none ∧ TrIn news' tr (us.map (adr nd)) ∧ FrmT tr news news') := by
  unfold link0 at hr
  generalize hn : f = nn at hr
  have hz' : ts.length + nn + 3 * f ≤ 1000000 := by omega
  replace hr : linkG (fun i => (nd i).p.x) (fun i => (nd i).p.y) f (last0 (fun i => (nd i).p.x) (fun i => (nd i).p.y) f f) nn σ p p ts = some us := by subst hn; exact hr
  unfold Spec
  intro mean mg mb dp un gd cn cs aA ccd cl outer A₀ base h₀ L m s Q E B F X N T hk hd hu hret
  have kf9 : (PySem.Challenge.rw_bj5012_02 = PySem.Challenge.rw_bj5012_02 ∧ ∀ p, Mine.hd.heap_39 p = Mine.hd.heap_39 p) := (by k_fill; exact ⟨rfl, fun _ => rfl⟩)
  clear kf9
  refine wpAny_call ?_
  k_dflt ktr_enter
  k_steps
  refine Stop.out ?_
  rename Fr _ _ _ _ => lF
  rename News _ _ _ _ => lN
  with_unfolding_all refine While2 (Str.ofString "ear") (Str.ofString "stop") [Str.ofString "prev", Str.ofString "next", Str.ofString "_is_ear"] (fun n' v v₂ nx => ∃ σ₁ i e ts', v = .ref (nd i).a ∧ v₂ = .ref (nd e).a ∧ i < k ∧ e < k ∧ RIn w nx nd k σ₁ ∧ TrIn nx tr (ts'.map (adr nd)) ∧ ts'.length + n' ≤ ts.length + nn ∧ FrmT tr news nx ∧ linkG (fun i => (nd i).p.x) (fun i => (nd i).p.y) f (last0 (fun i => (nd i).p.x) (fun i => (nd i).p.y) f f) n' σ₁ i e ts' = some us) lF lN (by rfl) (by rfl) ⟨σ, p, p, ts, rfl, rfl, hp, hp, R, hT, Nat.le_refl _, FrmT.refl, hr⟩ ?_
  rintro j v v₂ u nx hh tt ⟨σ₁, i, e, ts', rfl, rfl, hi, he, R₁, T₁, z₁, M₁, hl⟩ Fa Na
  clear lF lN hr
  obtain ⟨q1, q2, q3, q4⟩ := R₁ i hi
  obtain ⟨n1, n2, n3, n4⟩ := R₁ _ q4
  obtain ⟨m1, m2, m3, m4⟩ := R₁ _ q3
  have e1 := (R₁ e he).1
  have T₁' := T₁
  obtain ⟨vs, ep, t1, t2⟩ := T₁'
  cases j with
  | zero => cases hl
  | succ j =>
  unfold linkG at hl
  by_cases c0 : σ₁.pv i = σ₁.nx i
  · rw [if_pos c0] at hl
    cases hl
    k_steps
    exact hret _ _ _ _ (by k_asm) (by k_asm) ⟨rfl, T₁, M₁⟩
  rw [if_neg c0] at hl
  cases hb : isEarF (fun i => (nd i).p.x) (fun i => (nd i).p.y) σ₁ f i with
  | none => rw [hb] at hl; cases hl
  | some b =>
  rw [hb] at hl
  k_steps
  (refine Stop.out ?_; k_dflt (refine' use_spec ?k1 ?k2 ?k3 ?k4 ?k5 ?kK (ear_spec _ _ _ _ _ (by assumption) I f _ (by assumption) _ hb) ?kd ?ku ?_; (case k1 => k_asm); (case k2 => k_asm); (case k3 => k_asm); (case k4 => k_asm); (case k5 => k_asm); (case kK => first | exact rfl | assumption); (case kd => (try dsimp only [ktrTop]); first | omega | exact Nat.le_of_ble_eq_true rfl); (case ku => (try dsimp only [ktrTop]); first | omega | exact Nat.le_of_ble_eq_true rfl)))
  intro r9 l9 h9 tk9 F9 N9 P9
  obtain ⟨e9, e8⟩ := P9
  subst e9
  subst e8
  try dsimp only
  try k_fold
  cases b with
  | true =>
    dsimp only at hl
    k_steps
    refine Stop.out ?_
    rename Fr _ _ _ _ => lF
    rename News _ _ _ _ => lN
    refine append_sym lF lN (.tail _ t1) (fun h8 l8 F8 N8 a1 a2 => ?_) (by rw [t2.length, List.length_map]; omega)
    have R₂ := (R₁.mono (fun q hq => List.Mem.tail _ hq)).offList lN (.tail _ t1) a2
    have T₂ : TrIn l8 tr ((ts' ++ [(σ₁.pv i, i, σ₁.nx i)]).map (adr nd)) := ⟨_, _, a1, by
      rw [List.map_append]
      exact ((t2.mono (fun _ _ hm => List.Mem.tail _ hm)).offList lN (.tail _ t1) a2).snoc (t := adr nd (σ₁.pv i, i, σ₁.nx i)) (a2 _ (.head _) (news_ne lN (.head _) (.tail _ t1) tup_ne_list))⟩
    have M₂ : FrmT tr news l8 := M₁.trans fun q hq hn ht => a2 q (.tail _ hq) ht
    clear lF lN R₁ T₁ M₁
    try dsimp only
    try k_fold
    k_steps
    (refine Stop.out ?_; k_dflt (refine' use_spec ?k1 ?k2 ?k3 ?k4 ?k5 ?kK (rm_spec _ _ _ _ _ (by assumption) I _ (by assumption)) ?kd ?ku ?_; (case k1 => k_asm); (case k2 => k_asm); (case k3 => k_asm); (case k4 => k_asm); (case k5 => k_asm); (case kK => first | exact rfl | assumption); (case kd => (try dsimp only [ktrTop]); first | omega | exact Nat.le_of_ble_eq_true rfl); (case ku => (try dsimp only [ktrTop]); first | omega | exact Nat.le_of_ble_eq_true rfl)))
    intro r9 l9 h9 tk9 F9 N9 P9
    obtain ⟨rfl, R₃, M₃⟩ := P9
    have T₃ := T₂.frm M₃
    have M₄ : FrmT tr news l9 := M₂.trans M₃.toT
    clear R₂ T₂ M₂
    generalize σ₁.rm i = σ₂ at *
    generalize hb9 : σ₁.nx i = b at *
    obtain ⟨a1, a2, a3, a4⟩ := R₃ b (hb9 ▸ q4)
    have a5 := (R₃ _ a4).1
    try dsimp only
    try k_fold
    k_steps
    refine ⟨_, _, _, _, _, _, j, rfl, by k_asm, by k_asm, by omega, rfl, rfl, ⟨σ₂, _, _, _, rfl, rfl, a4, a4, R₃, T₃, by rw [List.length_append, List.length_singleton]; omega, M₄, hl⟩, fun y h1 h2 h3 => ?_⟩
    simp only [List.contains_cons, List.contains_nil, Bool.or_false, Bool.or_eq_false_iff, beq_eq_false_iff_ne, ne_eq] at h3
    simp [h1, h2, h3]
  | false =>
    dsimp only at hl
    by_cases c1 : σ₁.nx i = e
    · rw [if_pos c1] at hl
      unfold last0 at hl
      split at hl
      · cases hl
      rename_i ex
      k_steps
      (refine Stop.out ?_; k_dflt (refine' use_spec ?k1 ?k2 ?k3 ?k4 ?k5 ?kK (fp_spec _ _ _ _ _ (by assumption) I _ _ (by assumption) _ _ ex) ?kd ?ku ?_; (case k1 => k_asm); (case k2 => k_asm); (case k3 => k_asm); (case k4 => k_asm); (case k5 => k_asm); (case kK => first | exact rfl | assumption); (case kd => (try dsimp only [ktrTop]); first | omega | exact Nat.le_of_ble_eq_true rfl); (case ku => (try dsimp only [ktrTop]); first | omega | exact Nat.le_of_ble_eq_true rfl)))
      intro r9 l9 h9 tk9 F9 N9 P9
      obtain ⟨rfl, hr9, R₅, M₆⟩ := P9
      have T₂ := T₁.frm M₆
      have M₂ : FrmT tr news l9 := M₁.trans M₆.toT
      try dsimp only
      try k_fold
      k_steps
      (refine Stop.out ?_; k_dflt (refine' use_spec ?k1 ?k2 ?k3 ?k4 ?k5 ?kK (link1_spec _ _ _ _ _ R₅ I f _ hr9 tr _ _ T₂ (by omega) _ _ _ _ hl) ?kd ?ku ?_; (case k1 => k_asm); (case k2 => k_asm); (case k3 => k_asm); (case k4 => k_asm); (case k5 => k_asm); (case kK => first | exact rfl | assumption); (case kd => (try dsimp only [ktrTop]); first | omega | exact Nat.le_of_ble_eq_true rfl); (case ku => (try dsimp only [ktrTop]); first | omega | exact Nat.le_of_ble_eq_true rfl)))
      intro r9 l11 h9 tk9 F9 N9 P9
      obtain ⟨rfl, T₄, M₈⟩ := P9
      try dsimp only
      try k_fold
      k_steps
      all_goals exact hret _ _ _ _ (by k_asm) (by k_asm) ⟨rfl, T₄, M₂.trans M₈⟩
    · rw [if_neg c1] at hl
      k_steps
      refine ⟨_, _, _, _, _, _, j, rfl, by k_asm, by k_asm, by omega, rfl, rfl, ⟨σ₁, _, _, _, rfl, rfl, q4, he, R₁, T₁, by omega, M₁, hl⟩, fun y h1 h2 h3 => ?_⟩
      simp only [List.contains_cons, List.contains_nil, Bool.or_false, Bool.or_eq_false_iff, beq_eq_false_iff_ne, ne_eq] at h3
      simp [h1, h2, h3]

end
end
end Mine

open PySem PySem.W PyProof.Rows PySem.Calls
set_option Elab.async false
set_option maxRecDepth 100000
namespace Mine
theorem freshM6 : True ∧ True := by
  w_top off
  try (walk1; fail)
  exact ⟨trivial, trivial⟩
end Mine
namespace Mine
open PySem.Builtin.Int (intBits)
section
local macro_rules | `(tactic| bits_by_make) => `(tactic| first | exact Pt.hx _ | exact Pt.hy _)
local macro_rules | `(tactic| k_mem) => `(tactic| (refine mem_of ?_; ktr_member))
set_option maxHeartbeats 4000000 in
theorem node_spec (w : World) (news : List (Addr × Obj)) (p : Pt) (hp : PtIn w news p) (i : Int) (ti : Tok) :
  Spec w 59 [.int i ti, .ref p.a] news 4 30 (fun v news' => ∃ n : Nd, v = .ref n.a ∧ n.p = p ∧ (n.a, instObj 59 n.d) ∈ news' ∧ (n.d, ndObj w.params n .none .none) ∈ news' ∧ (∀ q ∈ news, q ∈ news') ∧ ∀ q ∈ news, q.1 < n.d ∧ q.1 < n.a) := by
  obtain ⟨p1, p2⟩ := hp
  unfold Spec
  intro mean mg mb dp un gd cn cs aA ccd cl outer A₀ base h₀ L m s Q E B F X N T hk hd hu hret
  have kf9 : (PySem.Challenge.rw_bj5012_02 = PySem.Challenge.rw_bj5012_02 ∧ ∀ p, Mine.hd.heap_39 p = Mine.hd.heap_39 p) := (by k_fill; exact ⟨rfl, fun _ => rfl⟩)
  clear kf9
  (k_dflt (refine' call_cls ?k1 ?k2 ?k3 ?k4 ?k5 ?k6 ?_; (case k1 => k_asm); (case k2 => k_asm); (case k3 => k_asm); (case k4 => k_is); (case k5 => k_is); (case k6 => k_is); k_whole; intro x' d' h' F' N' l1 l2; (try k_lt l1); (try k_lt2 l2); (try k_sweep); (refine' code_def ?k1 ?k2 ?k3 ?k4 ?k5 ?kA ?kF ?kK ?k6 ?k7 ?k8 ?k9 ?kB ?_ ?c2 ?c3 ?c4 ?c5; (case kA => exact rfl); (case kF => exact rfl); (case kK => first | exact rfl | assumption); (case k1 => k_asm); (case k2 => k_asm); (case k3 => k_asm); (case k4 => k_asm); (case k5 => k_asm); (case k6 => k_is); (case k7 => k_is); (case k8 => ktr_room); (case k9 => first | exact BindsTo.of_eq rfl | exact binds_K (by k_in) rfl (by k_is) rfl rfl rfl); (case c5 => decide); (case kB => exact locs rfl); (case c2 => exact rfl); (case c3 => exact rfl); (case c4 => exact rfl); k_whole; intro g' L' h' FG' F' N' B' X' T'; (try dsimp only); (try k_fold))))
  k_steps
  rename Fr _ _ _ _ => lF
  rename News _ _ _ _ => lN
  rename ∀ p ∈ news, p.1 < _ => hlt
  rename _ < _ => hlt2
  obtain ⟨n, hn, lN', e1, e2⟩ : ∃ n : Nd, n.p = p ∧ News _ _ _ ((n.a, instObj 59 n.d) :: (n.d, ndObj w.params n .none .none) :: news) ∧ n.a = x' ∧ n.d = d' := ⟨⟨_, _, p, _, _, _, _, _, _, _, _, _, _, _, _⟩, rfl, lN, rfl, rfl⟩
  subst e1
  subst e2
  exact hret _ _ _ _ lF lN' ⟨n, rfl, hn, .head _, .tail _ (.head _), fun q hq => .tail _ (.tail _ hq), fun q hq => ⟨hlt q hq, Nat.lt_trans (hlt q hq) hlt2⟩⟩
section
local macro_rules | `(tactic| walk_at "eval Call") => `(tactic| first | ((with_reducible show wpAny _ _ (eval (Expr.Call (Expr.Name _ _) _ (_ :: _) _) _) _ _ _); k_dflt (refine wpAny_Call_Name_kw ?_)) | k_dflt (refine Call_ ?_))
local macro_rules | `(tactic| walk_at "call ref") => `(tactic| (k_here; refine Stop.intro ?_))
local macro_rules | `(tactic| walk_at "setAttr ref") => `(tactic| (k_here; refine Stop.intro ?_))
set_option maxHeartbeats 4000000 in
theorem ins0_spec (w : World) (news : List (Addr × Obj)) (p : Pt) (hp : PtIn w news p) (i : Int) (ti : Tok) :
  Spec w 119 [.int i ti, .ref p.a, .none] news 8 50 (fun v news' => ∃ n : Nd, v = .ref n.a ∧ n.p = p ∧ (n.a, instObj 59 n.d) ∈ news' ∧ (n.d, ndObj w.params n (.ref n.a) (.ref n.a)) ∈ news' ∧ (∀ q ∈ news, q ∈ news') ∧ ∀ q ∈ news, q.1 < n.d ∧ q.1 < n.a) := by
  unfold Spec
  intro mean mg mb dp un gd cn cs aA ccd cl outer A₀ base h₀ L m s Q E B F X N T hk hd hu hret
  have kf9 : (PySem.Challenge.rw_bj5012_02 = PySem.Challenge.rw_bj5012_02 ∧ ∀ p, Mine.hd.heap_39 p = Mine.hd.heap_39 p) := (by k_fill; exact ⟨rfl, fun _ => rfl⟩)
  clear kf9
  refine wpAny_call ?_
  k_dflt ktr_enter
  k_steps
  (refine Stop.out ?_; k_dflt (refine' use_spec ?k1 ?k2 ?k3 ?k4 ?k5 ?kK (node_spec _ _ _ (by assumption) _ _) ?kd ?ku ?_; (case k1 => k_asm); (case k2 => k_asm); (case k3 => k_asm); (case k4 => k_asm); (case k5 => k_asm); (case kK => first | exact rfl | assumption); (case kd => (try dsimp only [ktrTop]); first | omega | exact Nat.le_of_ble_eq_true rfl); (case ku => (try dsimp only [ktrTop]); first | omega | exact Nat.le_of_ble_eq_true rfl)))
  intro r9 l9 h9 tk9 F9 N9 P9
  obtain ⟨n, rfl, hn, m1, m2, hk9, hf9⟩ := P9
  have hne : n.a ≠ n.d := news_ne N9 m1 m2 inst_ne
  try dsimp only
  try k_fold
  k_steps
  refine Stop.out ?_
  rename Fr _ _ _ _ => lF
  rename News _ _ _ _ => lN
  refine set_sym lF (by assumption) lN m1 m2 (by k_is) (by k_is) (by k_is) (by k_is) rfl (fun t => put_prev _ _ _ _ _ _) (by show 10 ≤ 1000; decide) (fun h8 l8 F8 N8 a1 a2 => ?_)
  have m3 := a2 _ m1 hne
  clear lF lN
  try dsimp only
  try k_fold
  k_steps
  refine Stop.out ?_
  rename Fr _ _ _ _ => lF
  rename News _ _ _ _ => lN
  refine set_sym lF (by assumption) lN m3 a1 (by k_is) (by k_is) (by k_is) (by k_is) rfl (fun t => put_next _ _ _ _ _ _) (by show 10 ≤ 1000; decide) (fun h7 l7 F7 N7 b1 b2 => ?_)
  clear lF lN
  try dsimp only
  try k_fold
  k_steps
  exact hret _ _ _ _ (by k_asm) (by k_asm) ⟨n, rfl, hn, b2 _ m3 hne, b1, fun q hq => b2 _ (a2 _ (hk9 q hq) (Nat.ne_of_lt (hf9 q hq).1)) (Nat.ne_of_lt (hf9 q hq).1), hf9⟩

set_option maxHeartbeats 4000000 in
theorem ins1_spec (w : World) (news : List (Addr × Obj)) (nd : Nat → Nd) (k : Nat) (σ : PS) (R : RIn w news nd k σ) (I : NdInj nd k) (j : Nat) (hj : j < k) (p : Pt) (hp : PtIn w news p) (i : Int) (ti : Tok) :
  Spec w 119 [.int i ti, .ref p.a, .ref (nd j).a] news 8 50 (fun v news' => ∃ n : Nd, v = .ref n.a ∧ n.p = p ∧ RIn w news' (ext nd k n) (k + 1) (σ.ins k j) ∧ NdInj (ext nd k n) (k + 1) ∧ FrmA nd k news news' ∧ ∀ q ∈ news, q.1 < n.d ∧ q.1 < n.a) := by
  obtain ⟨q1, q2, q3, q4⟩ := R j hj
  unfold Spec
  intro mean mg mb dp un gd cn cs aA ccd cl outer A₀ base h₀ L m s Q E B F X N T hk hd hu hret
  have kf9 : (PySem.Challenge.rw_bj5012_02 = PySem.Challenge.rw_bj5012_02 ∧ ∀ p, Mine.hd.heap_39 p = Mine.hd.heap_39 p) := (by k_fill; exact ⟨rfl, fun _ => rfl⟩)
  clear kf9
  refine wpAny_call ?_
  k_dflt ktr_enter
  k_steps
  (refine Stop.out ?_; k_dflt (refine' use_spec ?k1 ?k2 ?k3 ?k4 ?k5 ?kK (node_spec _ _ _ (by assumption) _ _) ?kd ?ku ?_; (case k1 => k_asm); (case k2 => k_asm); (case k3 => k_asm); (case k4 => k_asm); (case k5 => k_asm); (case kK => first | exact rfl | assumption); (case kd => (try dsimp only [ktrTop]); first | omega | exact Nat.le_of_ble_eq_true rfl); (case ku => (try dsimp only [ktrTop]); first | omega | exact Nat.le_of_ble_eq_true rfl)))
  intro r9 l9 h9 tk9 F9 N9 P9
  obtain ⟨n, rfl, hn, m1, m2, hk9, hf9⟩ := P9
  have hne : n.a ≠ n.d := news_ne N9 m1 m2 inst_ne
  have hlt : ∀ i, i < k → (nd i).a < n.a ∧ (nd i).d < n.d := fun i hi => ⟨(hf9 _ (R i hi).1).2, (hf9 _ (R i hi).2.1).1⟩
  have hD : ∀ i, i < k → (nd i).a ≠ n.d ∧ (nd i).d ≠ n.d := fun i hi => ⟨Nat.ne_of_lt (hf9 _ (R i hi).1).1, Nat.ne_of_lt (hf9 _ (R i hi).2.1).1⟩
  have R9 := R.mono hk9
  obtain ⟨r1, r2, r3, r4⟩ := R9 j hj
  try dsimp only
  try k_fold
  k_steps
  refine Stop.out ?_
  rename Fr _ _ _ _ => lF
  rename News _ _ _ _ => lN
  refine set_sym lF (by assumption) lN m1 m2 (by k_is) (by k_is) (by k_is) (by k_is) rfl (fun t => put_next _ _ _ _ _ _) (by show 10 ≤ 1000; decide) (fun h8 l8 F8 N8 a1 a2 => ?_)
  have m3 := a2 _ m1 hne
  have R8 := R9.off hD a2
  obtain ⟨r1, r2, r3, r4⟩ := R8 j hj
  clear lF lN
  try dsimp only
  try k_fold
  k_steps
  refine Stop.out ?_
  rename Fr _ _ _ _ => lF
  rename News _ _ _ _ => lN
  refine set_sym lF (by assumption) lN m3 a1 (by k_is) (by k_is) (by k_is) (by k_is) rfl (fun t => put_prev _ _ _ _ _ _) (by show 10 ≤ 1000; decide) (fun h7 l7 F7 N7 b1 b2 => ?_)
  have m4 := b2 _ m3 hne
  have R7 := R8.off hD b2
  have X7 := R7.ext hj m4 b1
  have I7 := I.ext hlt
  obtain ⟨r1, r2, r3, r4⟩ := R7 j hj
  obtain ⟨s1, s2, s3, s4⟩ := R7 _ r4
  clear lF lN
  try dsimp only
  try k_fold
  k_steps
  refine Stop.out ?_
  rename Fr _ _ _ _ => lF
  rename News _ _ _ _ => lN
  refine set_sym lF (by assumption) lN s1 s2 (by k_is) (by k_is) (by k_is) (by k_is) rfl (fun t => put_prev _ _ _ _ _ _) (by show 10 ≤ 1000; decide) (fun h6 l6 F6 N6 c1 c2 => ?_)
  have eb : (σ.ext k j).nx (σ.nx j) = σ.nx (σ.nx j) := if_neg (Nat.ne_of_lt r4)
  have X6 := X7.setPv I7 lN (j := σ.nx j) (v := k) (Nat.lt_succ_of_lt r4) (Nat.lt_succ_self k) (by rw [eb, ext_old r4, ext_new, ext_old s4]; exact c1) (by rw [ext_old r4]; exact c2)
  obtain ⟨t1, t2, t3, t4⟩ := X6 j (Nat.lt_succ_of_lt hj)
  rw [ext_old hj] at t1 t2
  clear lF lN
  try dsimp only
  try k_fold
  k_steps
  refine Stop.out ?_
  rename Fr _ _ _ _ => lF
  rename News _ _ _ _ => lN
  refine set_sym lF (by assumption) lN t1 t2 (by k_is) (by k_is) (by k_is) (by k_is) rfl (fun t => put_next _ _ _ _ _ _) (by show 10 ≤ 1000; decide) (fun h5 l5 F5 N5 d1 d2 => ?_)
  have X5 := X6.setNx I7 lN (j := j) (v := k) (Nat.lt_succ_of_lt hj) (Nat.lt_succ_self k) (by rw [ext_old hj, ext_new]; exact d1) (by rw [ext_old hj]; exact d2)
  clear lF lN
  try dsimp only
  try k_fold
  k_steps
  refine hret _ _ _ _ (by k_asm) (by k_asm) ⟨n, rfl, hn, X5, I7, fun q hq hne' => ?_, hf9⟩
  have hq9 := (hf9 q hq).1
  exact d2 _ (c2 _ (b2 _ (a2 _ (hk9 q hq) (Nat.ne_of_lt hq9)) (Nat.ne_of_lt hq9)) (hne' _ r4)) (hne' _ hj)
end
end
end Mine

open PySem PySem.W PyProof.Rows PySem.Calls
set_option Elab.async false
set_option maxRecDepth 100000
namespace Mine
theorem freshM7 : True ∧ True := by
  w_top off
  try (walk1; fail)
  exact ⟨trivial, trivial⟩
end Mine
namespace Mine
open PySem.Builtin.Int (intBits)
section
local macro_rules | `(tactic| bits_by_make) => `(tactic| first | exact Pt.hx _ | exact Pt.hy _)
local macro_rules | `(tactic| k_mem) => `(tactic| (refine mem_of ?_; ktr_member))
section
local macro_rules | `(tactic| walk_at "eval Call") => `(tactic| first | ((with_reducible show wpAny _ _ (eval (Expr.Call (Expr.Name _ _) _ (_ :: _) _) _) _ _ _); k_dflt (refine wpAny_Call_Name_kw ?_)) | k_dflt (refine Call_ ?_))
local macro_rules | `(tactic| walk_at "call ref") => `(tactic| (k_here; refine Stop.intro ?_))
local macro_rules | `(tactic| walk_at "exec For") => `(tactic| (k_here; refine Stop.intro ?_))
local macro_rules | `(tactic| walk_at "exec For Name Name cons nil") => `(tactic| (k_here; refine Stop.intro ?_))
local macro_rules | `(tactic| walk_at "exec For Name Call cons nil") => `(tactic| (k_here; refine Stop.intro ?_))
local macro_rules | `(tactic| walk_at "exec For Name Name") => `(tactic| (k_here; refine Stop.intro ?_))
local macro_rules | `(tactic| walk_at "exec For Name Call") => `(tactic| (k_here; refine Stop.intro ?_))
local macro_rules | `(tactic| walk_at "exec For Name") => `(tactic| (k_here; refine Stop.intro ?_))
local macro_rules | `(tactic| walk_at "call builtin:len") => `(tactic| (k_here; refine Stop.intro ?_))
local macro_rules | `(tactic| walk_at "subscriptTail") => `(tactic| (k_here; refine Stop.intro ?_))
local macro_rules | `(tactic| walk_at "subscriptTail Name") => `(tactic| (k_here; refine Stop.intro ?_))
local macro_rules | `(tactic| walk_at "subscriptTail Name Constant") => `(tactic| (k_here; refine Stop.intro ?_))
local macro_rules | `(tactic| walk_at "subscriptTail Name Constant ref int") => `(tactic| (k_here; refine Stop.intro ?_))
local macro_rules | `(tactic| walk_at "subscriptTail Name UnaryOp ref int") => `(tactic| (k_here; refine Stop.intro ?_))
local macro_rules | `(tactic| walk_at "subscriptTail Name UnaryOp") => `(tactic| (k_here; refine Stop.intro ?_))
local macro_rules | `(tactic| walk_at "pyIter ref") => `(tactic| (k_here; refine Stop.intro ?_))
local macro_rules | `(tactic| walk_at "LPost2") => `(tactic| (dsimp only [LPost2]))
set_option maxHeartbeats 4000000 in
theorem sa_spec (w : World) (news : List (Addr × Obj)) (pl ep : Nat) (pts : List Pt) (last : Pt) (hl : (pl, listOf (refsOf pts).toArray ep) ∈ news) (hp : ∀ p ∈ pts, PtIn w news p) (hlast : pts.getLast? = some last) (hlen : pts.length ≤ 100) :
  Spec w 84 [.ref pl] news 3 30 (fun v news' => news = news' ∧ ∃ t, v = .int (saZ last pts) t) := by
  unfold Spec
  intro mean mg mb dp un gd cn cs aA ccd cl outer A₀ base h₀ L m s Q E B F X N T hk hd hu hret
  have kf9 : (PySem.Challenge.rw_bj5012_02 = PySem.Challenge.rw_bj5012_02 ∧ ∀ p, Mine.hd.heap_39 p = Mine.hd.heap_39 p) := (by k_fill; exact ⟨rfl, fun _ => rfl⟩)
  clear kf9
  refine wpAny_call ?_
  k_dflt ktr_enter
  k_steps
  refine Stop.out ?_
  rename News _ _ _ _ => lN
  refine len_mine (k := pts.length) lN hl (by simp [refsOf]) (by omega) ?_
  try dsimp only
  try k_fold
  k_steps
  refine Stop.out ?_
  rename News _ _ _ _ => lN
  refine item_last (x := .ref last.a) lN hl (by simp [refsOf, hlast]) ?_
  try dsimp only
  try k_fold
  k_steps
  · (refine Stop.out ?_; (rename Fr _ _ _ _ => lF); (with_unfolding_all refine' For_invVF lF ?k1 ?k2 ?_; (case k1 => exact rfl); (case k2 => exact rfl)))
    k_steps
    refine Stop.out ?_
    try clear lN
    rename Fr _ _ _ _ => lF
    rename News _ _ _ _ => lN
    have hm : last ∈ pts := List.mem_of_getLast? hlast
    with_unfolding_all refine iterL2 (Str.ofString "s") (Str.ofString "prev") [] (fun i a b nx => (∀ q ∈ news, q ∈ nx) ∧ ∃ acc t pv, a = .int acc t ∧ b = .ref pv.a ∧ PtIn w news pv ∧ saLoop last pts 0 = saLoop pv (pts.drop i) acc) (by rfl) hl lF lN (by rfl) (by rfl) ⟨fun _ h => h, 0, _, last, rfl, rfl, hp _ hm, rfl⟩ ?_ ?_ (by decide) (by decide)
    · rintro I i v a b u nx Λ hh tt oI hv ⟨hs, acc, t, pv, rfl, rfl, ⟨v1, v2⟩, hl'⟩ hΛ _ hI _ Fa Na
      obtain ⟨p, e1, rfl, e3, e4⟩ := refs_get hv
      obtain ⟨p1, p2⟩ := hp p e3
      have x1 := hΛ _ (hs _ v1)
      have x2 := hΛ _ (hs _ v2)
      have x3 := hΛ _ (hs _ p1)
      have x4 := hΛ _ (hs _ p2)
      clear lF lN
      k_steps
      rename Fr _ _ _ _ => lF
      rename News _ _ _ _ => lN
      refine ⟨_, _, _, _, _, _, rfl, lF, lN, fun q hq _ => hq, fun q hq => by rw [List.mem_singleton.mp hq]; exact hΛ _ (by assumption), rfl, rfl, ⟨fun q hq => List.mem_filter.mpr ⟨hΛ _ (hs q hq), by simpa using hI _ (hs q hq)⟩, _, _, p, rfl, rfl, ⟨p1, p2⟩, ?_⟩, fun y h0 h1 h2 h3 => ?_⟩
      · rw [hl', e4]; rfl
      · simp [h0, h1, h2]
    · rintro a b u nx hh tt ⟨hs, acc, t, pv, rfl, rfl, _, hl'⟩ Fa Na _
      clear lF lN
      try dsimp only
      try k_fold
      k_steps
      rename Fr _ _ _ _ => lF
      rename News _ _ _ _ => lN
      have el : (refsOf pts).length = pts.length := by simp [refsOf]
      refine hret _ _ _ _ lF (fun q hq => lN q (hs q hq)) ⟨rfl, int_post ?_⟩
      unfold saZ
      rw [hl', el, List.drop_length]
      rfl
  · exfalso
    have : pts = [] := by
      apply List.eq_nil_of_length_eq_zero; omega
    rw [this] at hlast; cases hlast
end
end
end Mine

open PySem PySem.W PyProof.Rows PySem.Calls
set_option Elab.async false
set_option maxRecDepth 100000
namespace Mine
theorem freshM8 : True ∧ True := by
  w_top off
  try (walk1; fail)
  exact ⟨trivial, trivial⟩
end Mine
namespace Mine
open PySem.Builtin.Int (intBits)
section
local macro_rules | `(tactic| bits_by_make) => `(tactic| first | exact Pt.hx _ | exact Pt.hy _)
local macro_rules | `(tactic| k_mem) => `(tactic| (refine mem_of ?_; ktr_member))
section
local macro_rules | `(tactic| walk_at "eval Call") => `(tactic| first | ((with_reducible show wpAny _ _ (eval (Expr.Call (Expr.Name _ _) _ (_ :: _) _) _) _ _ _); k_dflt (refine wpAny_Call_Name_kw ?_)) | k_dflt (refine Call_ ?_))
local macro_rules | `(tactic| walk_at "call ref") => `(tactic| (k_here; refine Stop.intro ?_))
local macro_rules | `(tactic| walk_at "exec For") => `(tactic| (k_here; refine Stop.intro ?_))
local macro_rules | `(tactic| walk_at "exec For Name Name cons nil") => `(tactic| (k_here; refine Stop.intro ?_))
local macro_rules | `(tactic| walk_at "exec For Name Call cons nil") => `(tactic| (k_here; refine Stop.intro ?_))
local macro_rules | `(tactic| walk_at "exec For Name Name") => `(tactic| (k_here; refine Stop.intro ?_))
local macro_rules | `(tactic| walk_at "exec For Name Call") => `(tactic| (k_here; refine Stop.intro ?_))
local macro_rules | `(tactic| walk_at "exec For Name") => `(tactic| (k_here; refine Stop.intro ?_))
local macro_rules | `(tactic| walk_at "pyIter ref") => `(tactic| (k_here; refine Stop.intro ?_))
local macro_rules | `(tactic| walk_at "call builtin:len") => `(tactic| (k_here; refine Stop.intro ?_))
local macro_rules | `(tactic| walk_at "call type:reversed") => `(tactic| (k_here; refine Stop.intro ?_))
local macro_rules | `(tactic| walk_at "exec If BoolOp") => `(tactic| (k_here; refine Stop.intro ?_))
local macro_rules | `(tactic| walk_at "call ref") => `(tactic| (k_here; k_dflt (first | (refine' use_spec ?k1 ?k2 ?k3 ?k4 ?k5 ?kK (area_spec _ _ _ _ _ ?a0 ?a1 ?a2) ?kd ?ku ?_; (case k1 => k_asm); (case k2 => k_asm); (case k3 => k_asm); (case k4 => k_asm); (case k5 => k_asm); (case kK => first | exact rfl | assumption); (case a0 => first | assumption | exact ⟨by k_mem, _, _, by k_mem⟩ | (apply RIn.node <;> assumption)); (case a1 => first | assumption | exact ⟨by k_mem, _, _, by k_mem⟩ | (apply RIn.node <;> assumption)); (case a2 => first | assumption | exact ⟨by k_mem, _, _, by k_mem⟩ | (apply RIn.node <;> assumption)); (case kd => (try dsimp only [ktrTop]); omega); (case ku => (try dsimp only [ktrTop]); omega)) | (refine' use_spec ?k1 ?k2 ?k3 ?k4 ?k5 ?kK (eq_spec _ _ _ _ ?a0 ?a1) ?kd ?ku ?_; (case k1 => k_asm); (case k2 => k_asm); (case k3 => k_asm); (case k4 => k_asm); (case k5 => k_asm); (case kK => first | exact rfl | assumption); (case a0 => first | assumption | exact ⟨by k_mem, _, _, by k_mem⟩ | (apply RIn.node <;> assumption)); (case a1 => first | assumption | exact ⟨by k_mem, _, _, by k_mem⟩ | (apply RIn.node <;> assumption)); (case kd => (try dsimp only [ktrTop]); omega); (case ku => (try dsimp only [ktrTop]); omega))); intro r9 l9 h9 tk9 F9 N9 P9; obtain ⟨e9, P9⟩ := P9; subst e9; (first | subst P9 | (obtain ⟨t9, e9⟩ := P9; subst e9)); (try dsimp only); (try k_fold)))
local macro_rules | `(tactic| walk_at "compareOp Eq ref") => `(tactic| (k_here; (with_reducible show wpAny _ _ (compareOp CmpOp.Eq (Value.ref _) (Value.ref _)) _ _ _); (refine cmp_ofEq ?_); k_dflt (refine' cmp_K ?k1 ?k2 ?k3 ?k4 ?k5 ?k6 ?k7 ?k8 ?_; (case k1 => ktr_units); (case k2 => k_asm); (case k3 => k_asm); (case k4 => k_inst); (case k5 => k_typeOf); (case k6 => k_is); (case k7 => k_is); (case k8 => k_is); k_whole)))
local macro_rules | `(tactic| walk_at "CmpBack") => `(tactic| (dsimp only [PySem.W.CmpBack]))
local macro_rules | `(tactic| walk_at "LPost2") => `(tactic| (dsimp only [LPost2]))
set_option maxHeartbeats 4000000 in
theorem ll_spec (w : World) (news : List (Addr × Obj)) (pl ep : Nat) (pts : List Pt) (last : Pt) (hl : (pl, listOf (refsOf pts).toArray ep) ∈ news) (hp : ∀ p ∈ pts, PtIn w news p) (hlast : pts.getLast? = some last) (hlen : pts.length ≤ 100) (hnd : No10 news) (t0 : Tok) :
  SpecK w 77 [.ref pl, .int 0 t0] [(Str.ofString "ccw", .bool true)] news 12 80 (fun v news' => ∃ (nd : Nat → Nd) (order : List Pt), order = (if saZ last pts < 0 then pts else pts.reverse) ∧
    v = .ref (nd (startPS (fun i => (nd i).p.x) (fun i => (nd i).p.y) order.length).2).a ∧ (startPS (fun i => (nd i).p.x) (fun i => (nd i).p.y) order.length).2 < order.length ∧
    RIn w news' nd order.length (startPS (fun i => (nd i).p.x) (fun i => (nd i).p.y) order.length).1 ∧ NdInj nd order.length ∧ (∀ i, i < order.length → order[i]? = some (nd i).p) ∧ ∀ q ∈ news, q ∈ news') := by
  have hm1 : 0 < (refsOf pts).length := by
    rcases Nat.eq_zero_or_pos (refsOf pts).length with e | e
    · have : pts = [] := List.eq_nil_of_length_eq_zero (by simpa [refsOf] using e)
      rw [this] at hlast; cases hlast
    · exact e
  unfold SpecK
  intro mean mg mb dp un gd cn cs aA ccd cl outer A₀ base h₀ L m s Q E B F X N T hk hd hu hret
  have kf9 : (PySem.Challenge.rw_bj5012_02 = PySem.Challenge.rw_bj5012_02 ∧ ∀ p, Mine.hd.heap_39 p = Mine.hd.heap_39 p) := (by k_fill; exact ⟨rfl, fun _ => rfl⟩)
  clear kf9
  refine wpAny_call ?_
  k_dflt (refine' code_def ?k1 ?k2 ?k3 ?k4 ?k5 ?kA ?kF ?kK ?k6 ?k7 ?k8 ?k9 ?kB ?_ ?c2 ?c3 ?c4 ?c5; (case kA => exact rfl); (case kF => exact rfl); (case kK => first | exact rfl | assumption); (case k1 => k_asm); (case k2 => k_asm); (case k3 => k_asm); (case k4 => k_asm); (case k5 => k_asm); (case k6 => k_is); (case k7 => k_is); (case k8 => ktr_room); (case k9 => first | exact BindsTo.of_eq rfl | exact binds_K (by k_in) rfl (by k_is) rfl rfl rfl); (case c5 => decide); (case kB => exact locs rfl); (case c2 => exact rfl); (case c3 => exact rfl); (case c4 => exact rfl); k_whole; intro g' L' h' FG' F' N' B' X' T'; (try dsimp only); (try k_fold))
  k_steps
  (refine Stop.out ?_; k_dflt (refine' use_spec ?k1 ?k2 ?k3 ?k4 ?k5 ?kK (sa_spec _ _ _ _ _ _ hl hp hlast hlen) ?kd ?ku ?_; (case k1 => k_asm); (case k2 => k_asm); (case k3 => k_asm); (case k4 => k_asm); (case k5 => k_asm); (case kK => first | exact rfl | assumption); (case kd => (try dsimp only [ktrTop]); first | omega | exact Nat.le_of_ble_eq_true rfl); (case ku => (try dsimp only [ktrTop]); first | omega | exact Nat.le_of_ble_eq_true rfl)))
  intro r9 l9 h9 tk9 F9 N9 P9
  obtain ⟨e9, t9, rfl⟩ := P9
  subst e9
  try dsimp only
  try k_fold
  k_steps
  · have hneg : saZ last pts < 0 := by simpa using (by assumption : (true == decide (saZ last pts < 0)) = true)
    rw [if_pos hneg] at hret
    (refine Stop.out ?_; (rename Fr _ _ _ _ => lF); (with_unfolding_all refine' For_invVF lF ?k1 ?k2 ?_; (case k1 => exact rfl); (case k2 => exact rfl)))
    k_steps
    refine Stop.out ?_
    rename Fr _ _ _ _ => lF
    rename News _ _ _ _ => lN
    with_unfolding_all refine iterL2 (Str.ofString "last") (Str.ofString "start") [] (LLJ w news pts) (by rfl) hl lF lN (by rfl) (by rfl) ⟨fun _ h => h, ⟨_, _, rfl⟩, .inl ⟨rfl, rfl⟩⟩ ?_ ?_ (by decide) (by decide)
    · rintro I i v a b u nx Λ hh tt oI hv ⟨hs, ⟨c, t, rfl⟩, hc⟩ hΛ _ hI hoI Fa Na
      have hm9 : ∃ p, pts[i]? = some p ∧ v = .ref p.a ∧ p ∈ pts := by
        obtain ⟨p, e1, e2, e3, _⟩ := refs_get hv
        exact ⟨p, e1, e2, e3⟩
      obtain ⟨p, e1, rfl, e3⟩ := hm9
      obtain ⟨p1, p2⟩ := hp p e3
      have hs' : ∀ q ∈ news, q ∈ Λ := fun q hq => hΛ _ (hs q hq)
      have hI' : ∀ q ∈ news, q.1 ≠ I := fun q hq => hI _ (hs q hq)
      have x3 := hs' _ p1
      have x4 := hs' _ p2
      clear lF lN
      rcases hc with ⟨rfl, rfl⟩ | ⟨nd, hi0, rfl, R₁, I₁, ho₁, hn₁⟩
      · k_steps
        (refine Stop.out ?_; k_dflt (refine' use_spec ?k1 ?k2 ?k3 ?k4 ?k5 ?kK (ins0_spec _ _ _ ⟨by assumption, by assumption⟩ _ _) ?kd ?ku ?_; (case k1 => k_asm); (case k2 => k_asm); (case k3 => k_asm); (case k4 => k_asm); (case k5 => k_asm); (case kK => first | exact rfl | assumption); (case kd => (try dsimp only [ktrTop]); first | omega | exact Nat.le_of_ble_eq_true rfl); (case ku => (try dsimp only [ktrTop]); first | omega | exact Nat.le_of_ble_eq_true rfl)))
        intro r9 l9 h9 tk9 F9 N9 P9
        obtain ⟨n, rfl, hn, m1, m2, hk9, hf9⟩ := P9
        subst hn
        try dsimp only
        try k_fold
        k_steps
        rename Fr _ _ _ _ => lF
        rename News _ _ _ _ => lN
        refine ⟨_, _, _, _, _, _, rfl, lF, lN, fun q hq _ => hk9 q hq, fun q hq => by rw [List.mem_singleton.mp hq]; exact hk9 _ (hΛ _ (by assumption)), rfl, rfl, LLJ.one hs' hI' hoI e1 m1 m2 hk9 hf9, fun y h0 h1 h2 h3 => ?_⟩
        simp [h0, h1, h2]
      · have RΛ := R₁.mono hΛ
        k_steps
        (refine Stop.out ?_; k_dflt (refine' use_spec ?k1 ?k2 ?k3 ?k4 ?k5 ?kK (ins1_spec _ _ _ _ _ RΛ I₁ _ (by omega) _ ⟨by assumption, by assumption⟩ _ _) ?kd ?ku ?_; (case k1 => k_asm); (case k2 => k_asm); (case k3 => k_asm); (case k4 => k_asm); (case k5 => k_asm); (case kK => first | exact rfl | assumption); (case kd => (try dsimp only [ktrTop]); first | omega | exact Nat.le_of_ble_eq_true rfl); (case ku => (try dsimp only [ktrTop]); first | omega | exact Nat.le_of_ble_eq_true rfl)))
        intro r9 l9 h9 tk9 F9 N9 P9
        obtain ⟨n, rfl, hn, X5, I7, hk9, hf9⟩ := P9
        subst hn
        try dsimp only
        try k_fold
        k_steps
        rename Fr _ _ _ _ => lF
        rename News _ _ _ _ => lN
        refine ⟨_, _, _, _, _, _, rfl, lF, lN, fun q hq hqI => hk9 q hq fun j hj => ?_, fun q hq => by rw [List.mem_singleton.mp hq]; exact hk9 _ (hΛ _ (by assumption)) (hn₁ _ hl), rfl, rfl, LLJ.more hi0 hs' hI' hoI ho₁ e1 (fun j hj => ⟨hI _ (R₁ j hj).1, hI _ (R₁ j hj).2.1⟩) hn₁ X5 I7 hk9 hf9, fun y h0 h1 h2 h3 => ?_⟩
        · rw [hqI]; exact (hI _ (R₁ j hj).2.1).symm
        · simp [h0, h1, h2]
    · rintro a b u nx hh tt ⟨hs, ⟨c, t, rfl⟩, hc⟩ Fa Na _
      clear lF lN
      rcases hc with ⟨e0, _⟩ | ⟨nd, hi0, rfl, R₁, I₁, ho₁, hn₁⟩
      · exfalso
        rw [e0] at hm1
        omega
      have hrl : (refsOf pts).length = (pts).length := by simp [refsOf]
      rw [hrl] at R₁ I₁ ho₁ hn₁ hi0 Fa
      generalize hO : pts = order at *
      generalize hM : order.length = m9 at *
      obtain ⟨q1, q2, q3, q4⟩ := R₁ (m9 - 1) (by omega)
      obtain ⟨n1, n2, n3, n4⟩ := R₁ _ q4
      have hpos : m9 - 1 < m9 := by omega
      try dsimp only
      try k_fold
      k_steps
      refine Stop.out (cut_if (eqG (fun i => (nd i).p.x) (fun i => (nd i).p.y) (m9 - 1) ((ringPS m9).nx (m9 - 1))) (by assumption) (by assumption) ?_ (fun c1 ha ta Fb Nb => ?_) (fun c1 ha ta Fb Nb => ?_))
      · k_steps
        all_goals ((refine CutB.mk ?_ ⟨_, _, rfl, by k_asm, by k_asm⟩); simp only [eq_nd] at *; simp [*])
      · k_steps
        (refine Stop.out ?_; k_dflt (refine' use_spec ?k1 ?k2 ?k3 ?k4 ?k5 ?kK (rm_spec _ _ _ _ _ R₁ I₁ _ hpos) ?kd ?ku ?_; (case k1 => k_asm); (case k2 => k_asm); (case k3 => k_asm); (case k4 => k_asm); (case k5 => k_asm); (case kK => first | exact rfl | assumption); (case kd => (try dsimp only [ktrTop]); first | omega | exact Nat.le_of_ble_eq_true rfl); (case ku => (try dsimp only [ktrTop]); first | omega | exact Nat.le_of_ble_eq_true rfl)))
        intro r9 l9 h9 tk9 F9 N9 P9
        obtain ⟨rfl, R₂, M₂⟩ := P9
        have R₃ := R₂
        generalize (ringPS m9).rm (m9 - 1) = σ₂ at R₂
        try dsimp only
        try k_fold
        obtain ⟨a1, a2, a3, a4⟩ := R₃ (m9 - 1) hpos
        k_steps
        refine hret _ _ _ _ (by k_asm) (by k_asm) ⟨nd, order, rfl, ?_⟩
        rw [hM]
        unfold startPS
        rw [if_pos c1]
        exact ⟨rfl, a4, R₃, I₁, ho₁, fun q hq => M₂ q (hs q hq) (no10_ne (hnd q hq))⟩
      · k_steps
        refine hret _ _ _ _ (by k_asm) (by k_asm) ⟨nd, order, rfl, ?_⟩
        rw [hM]
        unfold startPS
        rw [if_neg (by rw [c1]; exact Bool.false_ne_true)]
        exact ⟨rfl, hpos, R₁, I₁, ho₁, hs⟩
  · have hneg : ¬ saZ last pts < 0 := by simpa using (by assumption : (true == decide (saZ last pts < 0)) = false)
    rw [if_neg hneg] at hret
    refine Stop.out ?_
    rename News _ _ _ _ => lN
    refine len_mine (k := pts.length) lN hl (by simp [refsOf]) (by omega) ?_
    try dsimp only
    try k_fold
    k_steps
    (refine Stop.out ?_; (rename Fr _ _ _ _ => lF); (with_unfolding_all refine' For_invVF lF ?k1 ?k2 ?_; (case k1 => exact rfl); (case k2 => exact rfl)))
    k_steps
    refine Stop.out ?_
    rename Fr _ _ _ _ => lF
    rename News _ _ _ _ => lN
    refine krv_reversed lF lN (islist_of lN hl) (fun I h8 F8 N8 l8 => ?_)
    try dsimp only
    try k_fold
    k_steps
    refine Stop.out ?_
    clear lF lN
    rename Fr _ _ _ _ => lF
    rename News _ _ _ _ => lN
    with_unfolding_all refine iterR2 (Str.ofString "last") (Str.ofString "end") [] (LLJ w news pts.reverse) (by rfl) hl lF lN (fun q hq => Nat.ne_of_lt (l8 q hq)) (by rfl) (by rfl) ⟨fun _ h => h, ⟨_, _, rfl⟩, .inl ⟨rfl, rfl⟩⟩ ?_ ?_ (by decide) (by decide)
    · rintro i v a b u nx Λ hh tt oI hlt hv ⟨hs, ⟨c, t, rfl⟩, hc⟩ hΛ _ hI hoI Fa Na
      have hm9 : ∃ p, pts.reverse[i]? = some p ∧ v = .ref p.a ∧ p ∈ pts := by
        have hv' : (refsOf pts.reverse)[i]? = some v := by unfold refsOf at hv ⊢; rw [List.map_reverse]; exact hv
        obtain ⟨p, e1, e2, e3, _⟩ := refs_get hv'
        exact ⟨p, e1, e2, List.mem_reverse.mp e3⟩
      obtain ⟨p, e1, rfl, e3⟩ := hm9
      obtain ⟨p1, p2⟩ := hp p e3
      have hs' : ∀ q ∈ news, q ∈ Λ := fun q hq => hΛ _ (hs q hq)
      have hI' : ∀ q ∈ news, q.1 ≠ I := fun q hq => hI _ (hs q hq)
      have x3 := hs' _ p1
      have x4 := hs' _ p2
      clear lF lN
      rcases hc with ⟨rfl, rfl⟩ | ⟨nd, hi0, rfl, R₁, I₁, ho₁, hn₁⟩
      · k_steps
        (refine Stop.out ?_; k_dflt (refine' use_spec ?k1 ?k2 ?k3 ?k4 ?k5 ?kK (ins0_spec _ _ _ ⟨by assumption, by assumption⟩ _ _) ?kd ?ku ?_; (case k1 => k_asm); (case k2 => k_asm); (case k3 => k_asm); (case k4 => k_asm); (case k5 => k_asm); (case kK => first | exact rfl | assumption); (case kd => (try dsimp only [ktrTop]); first | omega | exact Nat.le_of_ble_eq_true rfl); (case ku => (try dsimp only [ktrTop]); first | omega | exact Nat.le_of_ble_eq_true rfl)))
        intro r9 l9 h9 tk9 F9 N9 P9
        obtain ⟨n, rfl, hn, m1, m2, hk9, hf9⟩ := P9
        subst hn
        try dsimp only
        try k_fold
        k_steps
        rename Fr _ _ _ _ => lF
        rename News _ _ _ _ => lN
        refine ⟨_, _, _, _, _, _, rfl, lF, lN, fun q hq _ => hk9 q hq, fun q hq => by rw [List.mem_singleton.mp hq]; exact hk9 _ (hΛ _ (by assumption)), rfl, rfl, LLJ.one hs' hI' hoI e1 m1 m2 hk9 hf9, fun y h0 h1 h2 h3 => ?_⟩
        simp [h0, h1, h2]
      · have RΛ := R₁.mono hΛ
        k_steps
        (refine Stop.out ?_; k_dflt (refine' use_spec ?k1 ?k2 ?k3 ?k4 ?k5 ?kK (ins1_spec _ _ _ _ _ RΛ I₁ _ (by omega) _ ⟨by assumption, by assumption⟩ _ _) ?kd ?ku ?_; (case k1 => k_asm); (case k2 => k_asm); (case k3 => k_asm); (case k4 => k_asm); (case k5 => k_asm); (case kK => first | exact rfl | assumption); (case kd => (try dsimp only [ktrTop]); first | omega | exact Nat.le_of_ble_eq_true rfl); (case ku => (try dsimp only [ktrTop]); first | omega | exact Nat.le_of_ble_eq_true rfl)))
        intro r9 l9 h9 tk9 F9 N9 P9
        obtain ⟨n, rfl, hn, X5, I7, hk9, hf9⟩ := P9
        subst hn
        try dsimp only
        try k_fold
        k_steps
        rename Fr _ _ _ _ => lF
        rename News _ _ _ _ => lN
        refine ⟨_, _, _, _, _, _, rfl, lF, lN, fun q hq hqI => hk9 q hq fun j hj => ?_, fun q hq => by rw [List.mem_singleton.mp hq]; exact hk9 _ (hΛ _ (by assumption)) (hn₁ _ hl), rfl, rfl, LLJ.more hi0 hs' hI' hoI ho₁ e1 (fun j hj => ⟨hI _ (R₁ j hj).1, hI _ (R₁ j hj).2.1⟩) hn₁ X5 I7 hk9 hf9, fun y h0 h1 h2 h3 => ?_⟩
        · rw [hqI]; exact (hI _ (R₁ j hj).2.1).symm
        · simp [h0, h1, h2]
    · rintro a b u nx hh tt ⟨hs, ⟨c, t, rfl⟩, hc⟩ Fa Na _
      clear lF lN
      rcases hc with ⟨e0, _⟩ | ⟨nd, hi0, rfl, R₁, I₁, ho₁, hn₁⟩
      · exfalso
        rw [e0] at hm1
        omega
      have hrl : (refsOf pts).length = (pts.reverse).length := by simp [refsOf]
      rw [hrl] at R₁ I₁ ho₁ hn₁ hi0 Fa
      generalize hO : pts.reverse = order at *
      generalize hM : order.length = m9 at *
      obtain ⟨q1, q2, q3, q4⟩ := R₁ (m9 - 1) (by omega)
      obtain ⟨n1, n2, n3, n4⟩ := R₁ _ q4
      have hpos : m9 - 1 < m9 := by omega
      try dsimp only
      try k_fold
      k_steps
      refine Stop.out (cut_if (eqG (fun i => (nd i).p.x) (fun i => (nd i).p.y) (m9 - 1) ((ringPS m9).nx (m9 - 1))) (by assumption) (by assumption) ?_ (fun c1 ha ta Fb Nb => ?_) (fun c1 ha ta Fb Nb => ?_))
      · k_steps
        all_goals ((refine CutB.mk ?_ ⟨_, _, rfl, by k_asm, by k_asm⟩); simp only [eq_nd] at *; simp [*])
      · k_steps
        (refine Stop.out ?_; k_dflt (refine' use_spec ?k1 ?k2 ?k3 ?k4 ?k5 ?kK (rm_spec _ _ _ _ _ R₁ I₁ _ hpos) ?kd ?ku ?_; (case k1 => k_asm); (case k2 => k_asm); (case k3 => k_asm); (case k4 => k_asm); (case k5 => k_asm); (case kK => first | exact rfl | assumption); (case kd => (try dsimp only [ktrTop]); first | omega | exact Nat.le_of_ble_eq_true rfl); (case ku => (try dsimp only [ktrTop]); first | omega | exact Nat.le_of_ble_eq_true rfl)))
        intro r9 l9 h9 tk9 F9 N9 P9
        obtain ⟨rfl, R₂, M₂⟩ := P9
        have R₃ := R₂
        generalize (ringPS m9).rm (m9 - 1) = σ₂ at R₂
        try dsimp only
        try k_fold
        obtain ⟨a1, a2, a3, a4⟩ := R₃ (m9 - 1) hpos
        k_steps
        refine hret _ _ _ _ (by k_asm) (by k_asm) ⟨nd, order, rfl, ?_⟩
        rw [hM]
        unfold startPS
        rw [if_pos c1]
        exact ⟨rfl, a4, R₃, I₁, ho₁, fun q hq => M₂ q (hs q hq) (no10_ne (hnd q hq))⟩
      · k_steps
        refine hret _ _ _ _ (by k_asm) (by k_asm) ⟨nd, order, rfl, ?_⟩
        rw [hM]
        unfold startPS
        rw [if_neg (by rw [c1]; exact Bool.false_ne_true)]
        exact ⟨rfl, hpos, R₁, I₁, ho₁, hs⟩
end
end
end Mine

open PySem PySem.W PyProof.Rows PySem.Calls
set_option Elab.async false
set_option maxRecDepth 100000
namespace Mine
theorem freshM9 : True ∧ True := by
  w_top off
  try (walk1; fail)
  exact ⟨trivial, trivial⟩
end Mine
namespace Mine
open PySem.Builtin.Int (intBits)
section
local macro_rules | `(tactic| bits_by_make) => `(tactic| first | exact Pt.hx _ | exact Pt.hy _)
local macro_rules | `(tactic| k_mem) => `(tactic| (refine mem_of ?_; ktr_member))
theorem cons_R {w : World} {h₀ h : Heap} {L tr : Addr} {l9 : List (Addr × Obj)} {nd : Nat → Nd} {k : Nat} {σ : PS} (_N : News h₀ L h ((tr, listOf #[] 0) :: l9)) (R : RIn w l9 nd k σ) : RIn w ((tr, listOf #[] 0) :: l9) nd k σ := R.mono fun _ hq => .tail _ hq
theorem cons_T {h₀ h : Heap} {L tr : Addr} {l9 : List (Addr × Obj)} {nd : Nat → Nd} (_N : News h₀ L h ((tr, listOf #[] 0) :: l9)) : TrIn ((tr, listOf #[] 0) :: l9) tr (([] : List (Nat × Nat × Nat)).map (adr nd)) := ⟨[], 0, .head _, .nil⟩
theorem TrIn.only {news : List (Addr × Obj)} {tr : Addr} {ts : List T3} (h : TrIn news tr ts) : TrIn (news.filter fun q => no10 q.2) tr ts := by
  obtain ⟨vs, ep, h1, h2⟩ := h
  exact ⟨vs, ep, List.mem_filter.mpr ⟨h1, rfl⟩, h2.mono fun _ _ hm => List.mem_filter.mpr ⟨hm, rfl⟩⟩
theorem no10_filter {news : List (Addr × Obj)} : No10 (news.filter fun q => no10 q.2) := fun _ hq => (List.mem_filter.mp hq).2
section
local macro_rules | `(tactic| walk_at "eval Call") => `(tactic| first | ((with_reducible show wpAny _ _ (eval (Expr.Call (Expr.Name _ _) _ (_ :: _) _) _) _ _ _); k_dflt (refine wpAny_Call_Name_kw ?_)) | k_dflt (refine Call_ ?_))
local macro_rules | `(tactic| walk_at "call ref") => `(tactic| (k_here; refine Stop.intro ?_))
local macro_rules | `(tactic| walk_at "compareOp Is ref ref") => `(tactic| (k_here; k_dflt (refine' is_nd ?k1 ?k2 ?k3 ?k4 ?k5 ?k6 ?_; (case k1 => k_asm); (case k2 => k_asm); (case k3 => k_asm); (case k4 => k_asm); (case k5 => k_mem); (case k6 => k_mem))))
local macro_rules | `(tactic| walk_at "compareOp IsNot ref ref") => `(tactic| (k_here; k_dflt (refine' isNot_nd ?k1 ?k2 ?k3 ?k4 ?k5 ?k6 ?_; (case k1 => k_asm); (case k2 => k_asm); (case k3 => k_asm); (case k4 => k_asm); (case k5 => k_mem); (case k6 => k_mem))))
set_option maxHeartbeats 4000000 in
theorem ec_spec (w : World) (news : List (Addr × Obj)) (pl ep : Nat) (pts : List Pt) (last : Pt) (hl : (pl, listOf (refsOf pts).toArray ep) ∈ news) (hp : ∀ p ∈ pts, PtIn w news p) (hlast : pts.getLast? = some last) (hlen : pts.length ≤ 100) (hnd : No10 news) (hv : Value)
  (f : Nat) (hf : f ≤ 100000) (us : List (Nat × Nat × Nat)) (hr : earcutN f (orderOf last pts) = some us) :
  Spec w 70 [.ref pl, hv] news 30 250 (fun v news' => ∃ tr, v = .ref tr ∧ TrIn news' tr (us.map (adrO (orderOf last pts))) ∧ No10 news' ∧ (∀ q ∈ news, q ∈ news') ∧ ∀ q ∈ news, q.1 ≠ tr) := by
  have hm0 : 0 < (orderOf last pts).length := by
    have : 0 < pts.length := by
      rcases Nat.eq_zero_or_pos pts.length with e | e
      · have : pts = [] := List.eq_nil_of_length_eq_zero e
        rw [this] at hlast; cases hlast
      · exact e
    unfold orderOf
    split <;> simpa using this
  unfold Spec
  intro mean mg mb dp un gd cn cs aA ccd cl outer A₀ base h₀ L m s Q E B F X N T hk hd hu hret
  have kf9 : (PySem.Challenge.rw_bj5012_02 = PySem.Challenge.rw_bj5012_02 ∧ ∀ p, Mine.hd.heap_39 p = Mine.hd.heap_39 p) := (by k_fill; exact ⟨rfl, fun _ => rfl⟩)
  clear kf9
  refine wpAny_call ?_
  k_dflt ktr_enter
  k_steps
  (refine Stop.out ?_; k_dflt (refine' use_specK ?k1 ?k2 ?k3 ?k4 ?k5 ?kK (ll_spec _ _ _ _ _ _ hl hp hlast hlen hnd _) ?kd ?ku ?_; (case k1 => k_asm); (case k2 => k_asm); (case k3 => k_asm); (case k4 => k_asm); (case k5 => k_asm); (case kK => first | exact rfl | assumption); (case kd => (try dsimp only [ktrTop]); first | omega | exact Nat.le_of_ble_eq_true rfl); (case ku => (try dsimp only [ktrTop]); first | omega | exact Nat.le_of_ble_eq_true rfl)))
  intro r9 l9 h9 tk9 F9 N9 P9
  obtain ⟨nd₀, order, hO, rfl, he₀, R₀, I₀, ho₀, hk₀⟩ := P9
  change order = orderOf last pts at hO
  subst hO
  obtain ⟨nd, hX, hY, hA, hE, he, R₁, I₂⟩ := ll_norm hm0 he₀ R₀ I₀ ho₀
  rw [← hE]
  clear R₀ I₀ ho₀ he₀ hE
  unfold earcutN at hr
  generalize (startPS (XO (orderOf last pts)) (YO (orderOf last pts)) (orderOf last pts).length).1 = σ at *
  generalize (startPS (XO (orderOf last pts)) (YO (orderOf last pts)) (orderOf last pts).length).2 = e at *
  obtain ⟨q1, q2, q3, q4⟩ := R₁ e he
  have q5 := (R₁ _ q3).1
  have q6 := (R₁ _ q4).1
  try dsimp only
  try k_fold
  by_cases c0 : σ.nx e = σ.pv e
  · rw [if_pos c0] at hr
    cases hr
    k_steps
    rename Fr _ _ _ _ => lF
    rename News _ _ _ _ => lN
    rename ∀ p ∈ l9, p.1 < _ => hlt
    exact hret _ _ _ _ lF (fun q hq => lN q (List.mem_filter.mp hq).1) ⟨_, rfl, (cons_T (nd := nd) lN).only, no10_filter, fun q hq => List.mem_filter.mpr ⟨.tail _ (hk₀ q hq), hnd q hq⟩, fun q hq => Nat.ne_of_lt (hlt q (hk₀ q hq))⟩
  · rw [if_neg c0] at hr
    rw [← hX, ← hY] at hr
    k_steps
    rename Fr _ _ _ _ => lF
    rename News _ _ _ _ => lN
    rename ∀ p ∈ l9, p.1 < _ => hlt
    have R₂ := cons_R lN R₁
    have T₂ := cons_T (nd := nd) lN
    have hz : ([] : List (Nat × Nat × Nat)).length + 4 * f ≤ 1000000 := by rw [List.length_nil]; omega
    (refine Stop.out ?_; k_dflt (refine' use_spec ?k1 ?k2 ?k3 ?k4 ?k5 ?kK (link0_spec _ _ _ _ _ R₂ I₂ f _ he _ [] us T₂ hz _ _ _ _ hr) ?kd ?ku ?_; (case k1 => k_asm); (case k2 => k_asm); (case k3 => k_asm); (case k4 => k_asm); (case k5 => k_asm); (case kK => first | exact rfl | assumption); (case kd => (try dsimp only [ktrTop]); first | omega | exact Nat.le_of_ble_eq_true rfl); (case ku => (try dsimp only [ktrTop]); first | omega | exact Nat.le_of_ble_eq_true rfl)))
    intro r9 l11 h9 tk9 F9 N9 P9
    obtain ⟨rfl, T₄, M₈⟩ := P9
    clear lF lN
    try dsimp only
    try k_fold
    k_steps
    rename Fr _ _ _ _ => lF
    rename News _ _ _ _ => lN
    rw [show us.map (adr nd) = us.map (adrO (orderOf last pts)) from List.map_congr_left fun t _ => by unfold adr adrO; rw [hA, hA, hA]] at T₄
    exact hret _ _ _ _ lF (fun q hq => lN q (List.mem_filter.mp hq).1) ⟨_, rfl, T₄.only, no10_filter, fun q hq => List.mem_filter.mpr ⟨M₈ q (.tail _ (hk₀ q hq)) (no10_ne (hnd q hq)) (Nat.ne_of_lt (hlt q (hk₀ q hq))), hnd q hq⟩, fun q hq => Nat.ne_of_lt (hlt q (hk₀ q hq))⟩
end
end
end Mine

open PySem PySem.W PyProof.Rows PySem.Calls
set_option Elab.async false
set_option maxRecDepth 100000
namespace Mine
theorem freshMA : True ∧ True := by
  w_top off
  try (walk1; fail)
  exact ⟨trivial, trivial⟩
end Mine
namespace Mine
open PySem.Builtin.Int (intBits)
section
local macro_rules | `(tactic| bits_by_make) => `(tactic| first | exact Pt.hx _ | exact Pt.hy _)
local macro_rules | `(tactic| k_mem) => `(tactic| (refine mem_of ?_; ktr_member))
set_option maxHeartbeats 4000000 in
theorem point_spec (w : World) (news : List (Addr × Obj)) (x y : Int) (tx ty : Tok) (hx : intBits x ≤ 2000000) (hy : intBits y ≤ 2000000) :
  Spec w 31 [.int x tx, .int y ty] news 4 30 (fun v news' => ∃ p : Pt, v = .ref p.a ∧ p.x = x ∧ p.y = y ∧ PtIn w news' p ∧ (∀ q ∈ news, q ∈ news') ∧ (∀ q ∈ news, q.1 < p.d ∧ q.1 < p.a) ∧ ∀ q ∈ news', q ∈ news ∨ q = (p.a, instObj 31 p.d) ∨ q = (p.d, ptObj w.params p)) := by
  unfold Spec
  intro mean mg mb dp un gd cn cs aA ccd cl outer A₀ base h₀ L m s Q E B F X N T hk hd hu hret
  have kf9 : (PySem.Challenge.rw_bj5012_02 = PySem.Challenge.rw_bj5012_02 ∧ ∀ p, Mine.hd.heap_39 p = Mine.hd.heap_39 p) := (by k_fill; exact ⟨rfl, fun _ => rfl⟩)
  clear kf9
  (k_dflt (refine' call_cls ?k1 ?k2 ?k3 ?k4 ?k5 ?k6 ?_; (case k1 => k_asm); (case k2 => k_asm); (case k3 => k_asm); (case k4 => k_is); (case k5 => k_is); (case k6 => k_is); k_whole; intro x' d' h' F' N' l1 l2; (try k_lt l1); (try k_lt2 l2); (try k_sweep); (refine' code_def ?k1 ?k2 ?k3 ?k4 ?k5 ?kA ?kF ?kK ?k6 ?k7 ?k8 ?k9 ?kB ?_ ?c2 ?c3 ?c4 ?c5; (case kA => exact rfl); (case kF => exact rfl); (case kK => first | exact rfl | assumption); (case k1 => k_asm); (case k2 => k_asm); (case k3 => k_asm); (case k4 => k_asm); (case k5 => k_asm); (case k6 => k_is); (case k7 => k_is); (case k8 => ktr_room); (case k9 => first | exact BindsTo.of_eq rfl | exact binds_K (by k_in) rfl (by k_is) rfl rfl rfl); (case c5 => decide); (case kB => exact locs rfl); (case c2 => exact rfl); (case c3 => exact rfl); (case c4 => exact rfl); k_whole; intro g' L' h' FG' F' N' B' X' T'; (try dsimp only); (try k_fold))))
  k_steps
  rename Fr _ _ _ _ => lF
  rename News _ _ _ _ => lN
  rename ∀ p ∈ news, p.1 < _ => hlt
  rename _ < _ => hlt2
  obtain ⟨p, e3, e4, lN', e1, e2⟩ : ∃ p : Pt, p.x = x ∧ p.y = y ∧ News _ _ _ ((p.a, instObj 31 p.d) :: (p.d, ptObj w.params p) :: news) ∧ p.a = x' ∧ p.d = d' := ⟨⟨_, _, x, y, _, _, _, _, hx, hy⟩, rfl, rfl, lN, rfl, rfl⟩
  subst e1
  subst e2
  refine hret _ _ _ _ lF lN' ⟨p, rfl, e3, e4, ⟨.head _, .tail _ (.head _)⟩, fun q hq => .tail _ (.tail _ hq), fun q hq => ⟨hlt q hq, Nat.lt_trans (hlt q hq) hlt2⟩, fun q hq => ?_⟩
  rcases List.mem_cons.mp hq with e | hq
  · exact .inr (.inl e)
  · rcases List.mem_cons.mp hq with e | hq
    · exact .inr (.inr e)
    · exact .inl hq

section
local macro_rules | `(tactic| walk_at "eval Call") => `(tactic| first | ((with_reducible show wpAny _ _ (eval (Expr.Call (Expr.Name _ _) _ (_ :: _) _) _) _ _ _); k_dflt (refine wpAny_Call_Name_kw ?_)) | k_dflt (refine Call_ ?_))
local macro_rules | `(tactic| walk_at "call ref") => `(tactic| (k_here; refine Stop.intro ?_))
local macro_rules | `(tactic| walk_at "exec For") => `(tactic| (k_here; refine Stop.intro ?_))
local macro_rules | `(tactic| walk_at "exec For Name Name cons nil") => `(tactic| (k_here; refine Stop.intro ?_))
local macro_rules | `(tactic| walk_at "exec For Name Call cons nil") => `(tactic| (k_here; refine Stop.intro ?_))
local macro_rules | `(tactic| walk_at "exec For Name Name") => `(tactic| (k_here; refine Stop.intro ?_))
local macro_rules | `(tactic| walk_at "exec For Name Call") => `(tactic| (k_here; refine Stop.intro ?_))
local macro_rules | `(tactic| walk_at "exec For Name") => `(tactic| (k_here; refine Stop.intro ?_))
local macro_rules | `(tactic| walk_at "pyIter ref") => `(tactic| (k_here; refine Stop.intro ?_))
local macro_rules | `(tactic| walk_at "call builtin:len") => `(tactic| (k_here; k_dflt (refine' len_mine ?k1 ?k2 ?k3 ?k4 ?_; (case k1 => k_asm); (case k2 => k_mem); (case k3 => assumption); (case k4 => omega)); (try dsimp only); (try k_fold)))
local macro_rules | `(tactic| walk_at "subscriptTail") => `(tactic| (k_here; (with_reducible show wpAny _ _ (subscriptTail _ _ (Value.ref _) (Value.int _ _)) _ _ _); (with_unfolding_all refine' item_mine ?k1 ?k2 ?k3 ?k4 ?k5 ?_; (case k1 => k_asm); (case k2 => k_mem); (case k5 => assumption); (case k3 => first | omega | assumption); (case k4 => first | omega | assumption)); (try dsimp only); (try k_fold)))
local macro_rules | `(tactic| walk_at "subscriptTail Name") => `(tactic| (k_here; (with_reducible show wpAny _ _ (subscriptTail _ _ (Value.ref _) (Value.int _ _)) _ _ _); (with_unfolding_all refine' item_mine ?k1 ?k2 ?k3 ?k4 ?k5 ?_; (case k1 => k_asm); (case k2 => k_mem); (case k5 => assumption); (case k3 => first | omega | assumption); (case k4 => first | omega | assumption)); (try dsimp only); (try k_fold)))
local macro_rules | `(tactic| walk_at "subscriptTail Name Name") => `(tactic| (k_here; (with_reducible show wpAny _ _ (subscriptTail _ _ (Value.ref _) (Value.int _ _)) _ _ _); (with_unfolding_all refine' item_mine ?k1 ?k2 ?k3 ?k4 ?k5 ?_; (case k1 => k_asm); (case k2 => k_mem); (case k5 => assumption); (case k3 => first | omega | assumption); (case k4 => first | omega | assumption)); (try dsimp only); (try k_fold)))
local macro_rules | `(tactic| walk_at "subscriptTail Name Constant") => `(tactic| (k_here; (with_reducible show wpAny _ _ (subscriptTail _ _ (Value.ref _) (Value.int _ _)) _ _ _); (with_unfolding_all refine' item_mine ?k1 ?k2 ?k3 ?k4 ?k5 ?_; (case k1 => k_asm); (case k2 => k_mem); (case k5 => assumption); (case k3 => first | omega | assumption); (case k4 => first | omega | assumption)); (try dsimp only); (try k_fold)))
local macro_rules | `(tactic| walk_at "LPost2") => `(tactic| (dsimp only [LPost2]))
set_option maxHeartbeats 4000000 in
theorem same_spec (w : World) (news : List (Addr × Obj)) (t1 t2 : Addr) (ts : List T3) (h1 : TrIn news t1 ts) (h2 : TrIn news t2 ts) (hz : ts.length ≤ 1000) :
  Spec w 177 [.ref t1, .ref t2] news 3 30 (fun v news' => news = news' ∧ v = .bool true) := by
  obtain ⟨vs1, ep1, a1, b1⟩ := h1
  obtain ⟨vs2, ep2, a2, b2⟩ := h2
  unfold Spec
  intro mean mg mb dp un gd cn cs aA ccd cl outer A₀ base h₀ L m s Q E B F X N T hk hd hu hret
  have kf9 : (PySem.Challenge.rw_bj5012_02 = PySem.Challenge.rw_bj5012_02 ∧ ∀ p, Mine.hd.heap_39 p = Mine.hd.heap_39 p) := (by k_fill; exact ⟨rfl, fun _ => rfl⟩)
  clear kf9
  refine wpAny_call ?_
  k_dflt ktr_enter
  have c1 := b1.length
  have c2 := b2.length
  k_steps
  · exact absurd rfl (by assumption : ((ts.length : Nat) : Int) ≠ (ts.length : Int))
  (refine Stop.out ?_; (rename Fr _ _ _ _ => lF); (with_unfolding_all refine' For_invVF lF ?k1 ?k2 ?_; (case k1 => exact rfl); (case k2 => exact rfl)))
  k_steps
  refine Stop.out ?_
  rename IsRange _ _ _ _ _ _ _ _ => rg
  rename Fr _ _ _ _ => lF
  rename News _ _ _ _ => lN
  with_unfolding_all refine iterN2 (n := ts.length) (Str.ofString "one") (Str.ofString "two") [] (fun _ a b nx => a = .ref t1 ∧ b = .ref t2 ∧ ∀ q ∈ news, q ∈ nx) (by rfl) rg (range_small (by omega)) (range_size _) lF lN (by rfl) (by rfl) ⟨rfl, rfl, fun _ h => h⟩ ?_ ?_ (by decide) (by decide)
  · rintro I i t a b u nx Λ hh tt oI hi ⟨rfl, rfl, hs⟩ hΛ hI hoI Fa Na
    have hs' : ∀ q ∈ news, q ∈ Λ := fun q hq => hΛ _ (hs q hq)
    have ei : (0 + (i : Int)).toNat = i := by omega
    obtain ⟨x1, y1, g1, g2, g3⟩ := b1.get hi
    obtain ⟨x2, y2, g4, g5, g6⟩ := b2.get hi
    have : y1 = y2 := Option.some.inj (g2.symm.trans g5)
    subst this
    have f1 : vs1[(0 + (i : Int)).toNat]? = some (.ref x1) := by rw [ei]; exact g1
    have f2 : vs2[(0 + (i : Int)).toNat]? = some (.ref x2) := by rw [ei]; exact g4
    have m1 := hs' _ a1
    have m2 := hs' _ a2
    have m3 := hs' _ g3
    have m4 := hs' _ g6
    clear lF lN
    k_steps
    rename Fr _ _ _ _ => lF
    rename News _ _ _ _ => lN
    refine ⟨_, _, _, _, _, _, rfl, lF, lN, fun q hq _ => hq, (fun q hq => nomatch hq), rfl, rfl, ⟨rfl, rfl, fun q hq => List.mem_filter.mpr ⟨hs' q hq, by simpa using hI _ (hs q hq)⟩⟩, fun y h0 h1 h2 h3 => ?_⟩
    simp [h0, h1, h2]
  · rintro a b u nx hh tt ⟨rfl, rfl, hs⟩ Fa Na
    clear lF lN
    have m1 := hs _ a1
    have m2 := hs _ a2
    try dsimp only
    try k_fold
    k_steps
    rename Fr _ _ _ _ => lF
    rename News _ _ _ _ => lN
    exact hret _ _ _ _ lF (fun q hq => lN q (hs q hq)) ⟨rfl, by simp⟩
end
end
end Mine

open PySem PySem.W PyProof.Rows PySem.Calls
set_option Elab.async false
set_option maxRecDepth 100000
namespace Mine
theorem freshMB : True ∧ True := by
  w_top off
  try (walk1; fail)
  exact ⟨trivial, trivial⟩
end Mine
namespace Mine
open PySem.Builtin.Int (intBits)
section
local macro_rules | `(tactic| bits_by_make) => `(tactic| first | exact Pt.hx _ | exact Pt.hy _ | with_reducible assumption)
local macro_rules | `(tactic| k_mem) => `(tactic| (refine mem_of ?_; ktr_member))
section
local macro_rules | `(tactic| walk_at "eval Call") => `(tactic| first | ((with_reducible show wpAny _ _ (eval (Expr.Call (Expr.Name _ _) _ (_ :: _) _) _) _ _ _); k_dflt (refine wpAny_Call_Name_kw ?_)) | k_dflt (refine Call_ ?_))
local macro_rules | `(tactic| walk_at "call ref") => `(tactic| (k_here; refine Stop.intro ?_))
local macro_rules | `(tactic| walk_at "exec For") => `(tactic| (k_here; refine Stop.intro ?_))
local macro_rules | `(tactic| walk_at "exec For Name Name cons nil") => `(tactic| (k_here; refine Stop.intro ?_))
local macro_rules | `(tactic| walk_at "exec For Name Call cons nil") => `(tactic| (k_here; refine Stop.intro ?_))
local macro_rules | `(tactic| walk_at "exec For Name Name") => `(tactic| (k_here; refine Stop.intro ?_))
local macro_rules | `(tactic| walk_at "exec For Name Call") => `(tactic| (k_here; refine Stop.intro ?_))
local macro_rules | `(tactic| walk_at "exec For Name") => `(tactic| (k_here; refine Stop.intro ?_))
local macro_rules | `(tactic| walk_at "pyIter ref") => `(tactic| (k_here; refine Stop.intro ?_))
local macro_rules | `(tactic| walk_at "call builtin:len") => `(tactic| (k_here; k_dflt (refine' len_mine ?k1 ?k2 ?k3 ?k4 ?_; (case k1 => k_asm); (case k2 => k_mem); (case k3 => assumption); (case k4 => omega)); (try dsimp only); (try k_fold)))
local macro_rules | `(tactic| walk_at "subscriptTail") => `(tactic| (k_here; (with_reducible show wpAny _ _ (subscriptTail _ _ (Value.ref _) (Value.int _ _)) _ _ _); (with_unfolding_all refine' item_mine ?k1 ?k2 ?k3 ?k4 ?k5 ?_; (case k1 => k_asm); (case k2 => k_mem); (case k5 => assumption); (case k3 => first | omega | assumption); (case k4 => first | omega | assumption)); (try dsimp only); (try k_fold)))
local macro_rules | `(tactic| walk_at "subscriptTail Name") => `(tactic| (k_here; (with_reducible show wpAny _ _ (subscriptTail _ _ (Value.ref _) (Value.int _ _)) _ _ _); (with_unfolding_all refine' item_mine ?k1 ?k2 ?k3 ?k4 ?k5 ?_; (case k1 => k_asm); (case k2 => k_mem); (case k5 => assumption); (case k3 => first | omega | assumption); (case k4 => first | omega | assumption)); (try dsimp only); (try k_fold)))
local macro_rules | `(tactic| walk_at "subscriptTail Name Name") => `(tactic| (k_here; (with_reducible show wpAny _ _ (subscriptTail _ _ (Value.ref _) (Value.int _ _)) _ _ _); (with_unfolding_all refine' item_mine ?k1 ?k2 ?k3 ?k4 ?k5 ?_; (case k1 => k_asm); (case k2 => k_mem); (case k5 => assumption); (case k3 => first | omega | assumption); (case k4 => first | omega | assumption)); (try dsimp only); (try k_fold)))
local macro_rules | `(tactic| walk_at "subscriptTail Name Constant") => `(tactic| (k_here; (with_reducible show wpAny _ _ (subscriptTail _ _ (Value.ref _) (Value.int _ _)) _ _ _); (with_unfolding_all refine' item_mine ?k1 ?k2 ?k3 ?k4 ?k5 ?_; (case k1 => k_asm); (case k2 => k_mem); (case k5 => assumption); (case k3 => first | omega | assumption); (case k4 => first | omega | assumption)); (try dsimp only); (try k_fold)))
local macro_rules | `(tactic| walk_at "LPost2") => `(tactic| (dsimp only [LPost2]))
set_option maxHeartbeats 4000000 in
theorem tw_spec (w : World) (news : List (Addr × Obj)) (lw ep : Nat) (vs : List Value) (rs : List (Int × Int)) (hl : (lw, listOf vs.toArray ep) ∈ news) (hr : RowsAre news vs rs) (hz : rs.length ≤ 1000) (hb : ∀ r ∈ rs, intBits r.1 ≤ 2000000 ∧ intBits r.2 ≤ 2000000) :
  Spec w 196 [.ref lw] news 3 30 (fun v news' => news = news' ∧ ∃ t, v = .int (twZ rs) t) := by
  obtain ⟨c1, hg⟩ := hr
  unfold Spec
  intro mean mg mb dp un gd cn cs aA ccd cl outer A₀ base h₀ L m s Q E B F X N T hk hd hu hret
  have kf9 : (PySem.Challenge.rw_bj5012_02 = PySem.Challenge.rw_bj5012_02 ∧ ∀ p, Mine.hd.heap_39 p = Mine.hd.heap_39 p) := (by k_fill; exact ⟨rfl, fun _ => rfl⟩)
  clear kf9
  refine wpAny_call ?_
  k_dflt ktr_enter
  k_steps
  (refine Stop.out ?_; (rename Fr _ _ _ _ => lF); (with_unfolding_all refine' For_invVF lF ?k1 ?k2 ?_; (case k1 => exact rfl); (case k2 => exact rfl)))
  k_steps
  refine Stop.out ?_
  rename IsRange _ _ _ _ _ _ _ _ => rg
  rename Fr _ _ _ _ => lF
  rename News _ _ _ _ => lN
  with_unfolding_all refine iterN2 (n := rs.length) (Str.ofString "total") (Str.ofString "rows") [Str.ofString "one", Str.ofString "two"] (fun i a b nx => (∃ t, a = .int (twSum rs i) t) ∧ b = .ref lw ∧ ∀ q ∈ news, q ∈ nx) (by rfl) rg (range_small (by omega)) (range_size _) lF lN (by rfl) (by rfl) ⟨⟨_, rfl⟩, rfl, fun _ h => h⟩ ?_ ?_ (by decide) (by decide)
  · rintro I i t a b u nx Λ hh tt oI hi ⟨⟨ta, rfl⟩, rfl, hs⟩ hΛ hI hoI Fa Na
    have hs' : ∀ q ∈ news, q ∈ Λ := fun q hq => hΛ _ (hs q hq)
    have ei : (0 + (i : Int)).toNat = i := by omega
    have hi2 : (i + 1) % rs.length < rs.length := Nat.mod_lt _ (by omega)
    obtain ⟨x1, tx1, ty1, g1, g3⟩ := hg i _ (List.getElem?_eq_getElem hi)
    obtain ⟨x2, tx2, ty2, g4, g6⟩ := hg _ _ (List.getElem?_eq_getElem hi2)
    obtain ⟨bb1, bb2⟩ := hb _ (List.getElem_mem hi)
    obtain ⟨bb3, bb4⟩ := hb _ (List.getElem_mem hi2)
    have eT : twSum rs (i + 1) = twSum rs i + (rs[i].1 * (rs[(i + 1) % rs.length]).2 - (rs[(i + 1) % rs.length]).1 * rs[i].2) := by
      show twSum rs i + twTerm rs i = _
      unfold twTerm
      rw [List.getElem?_eq_getElem hi, List.getElem?_eq_getElem hi2]
    have f1 : vs[(0 + (i : Int)).toNat]? = some (.ref x1) := by rw [ei]; exact g1
    have em : (0 + (i : Int) + 1).fmod (rs.length : Int) = (((i + 1) % rs.length : Nat) : Int) := by
      rw [Int.fmod_eq_emod_of_nonneg _ (by omega), Int.zero_add, show ((i : Int) + 1) = ((i + 1 : Nat) : Int) from by omega, ← Int.natCast_emod]
    have f2 : vs[((0 + (i : Int) + 1).fmod (rs.length : Int)).toNat]? = some (.ref x2) := by rw [em]; exact g4
    have f3 : 0 ≤ (0 + (i : Int) + 1).fmod (rs.length : Int) := by rw [em]; omega
    have f4 : (0 + (i : Int) + 1).fmod (rs.length : Int) < 2 ^ 63 := by rw [em]; omega
    have m1 := hs' _ hl
    have m3 := hs' _ g3
    have m4 := hs' _ g6
    generalize rs[i] = r1 at *
    generalize rs[(i + 1) % rs.length] = r2 at *
    clear lF lN
    k_steps
    rename Fr _ _ _ _ => lF
    rename News _ _ _ _ => lN
    refine ⟨_, _, _, _, _, _, rfl, lF, lN, fun q hq _ => hq, (fun q hq => nomatch hq), rfl, rfl, ⟨int_post ?_, rfl, fun q hq => List.mem_filter.mpr ⟨hs' q hq, by simpa using hI _ (hs q hq)⟩⟩, fun y h0 h1 h2 h3 => ?_⟩
    · rw [eT, Int.add_sub_assoc]
    · simp only [List.contains_cons, List.contains_nil, Bool.or_false, Bool.or_eq_false_iff, beq_eq_false_iff_ne, ne_eq] at h3
      simp [h0, h1, h2, h3]
  · rintro a b u nx hh tt ⟨⟨ta, rfl⟩, rfl, hs⟩ Fa Na
    clear lF lN
    try dsimp only
    try k_fold
    k_steps
    rename Fr _ _ _ _ => lF
    rename News _ _ _ _ => lN
    exact hret _ _ _ _ lF (fun q hq => lN q (hs q hq)) ⟨rfl, _, rfl⟩
end
end
end Mine

open PySem PySem.W PyProof.Rows PySem.Calls
set_option Elab.async false
set_option maxRecDepth 100000
namespace Mine
theorem freshMK : True ∧ True := by
  w_top off
  try (walk1; fail)
  exact ⟨trivial, trivial⟩
end Mine
namespace Mine
section
variable {prog : Program} {w : World} {A : Around} {E : Value → Shared → Prop} {s : Shared} {h₀ : Heap} {L : Addr} {m : Str → Option Value} {env : Env}
/-- a list comprehension over a tuple of the ledger -/
def SrcT (prog : Program) (w : World) (A : Around) (h₀ : Heap) (L : Addr) (m : Str → Option Value) (env : Env) (elt : PySem.Expr) (x : Str) (scope : Scope) (cl : List (Str × Addr)) (Fin : Shared → List Value → List (Addr × Obj) → Prop) (xv : Value) (s₁ : Shared) : Prop :=
  ∃ ax vs news, xv = .ref ax ∧ A.handled = none ∧ Fr h₀ L s₁.heap m ∧ News h₀ L s₁.heap news ∧ (ax, tupOf vs) ∈ news ∧ vs.length ≤ sizeLine ∧
    ∀ s₂ : Shared, (∃ h, s₂ = { s₁ with heap := h }) → LCg.CompRest prog w A h₀ L m env elt x scope cl s₂ (fun nx => (ax, tupOf vs) ∈ nx) (fun i v => vs[i]? = some v) (Fin s₂) vs.length 0 [] news
theorem tup_is {h : Heap} {news : List (Addr × Obj)} {ax : Addr} {vs : List Value} (N : News h₀ L h news) (hm : (ax, tupOf vs) ∈ news) : h.IsTuple ax vs.toArray := ⟨_, (N _ hm).1, rfl, _, rfl⟩
theorem comp_tup {elt iter : PySem.Expr} {x : Str} {px : Pos} {scope : Scope} {cl : List (Str × Addr)} {pos : Pos} {Q : Value → Shared → Prop} (F₀ : Fr h₀ L s.heap m)
    (hclos : closureFor scope env = pure cl) (hcell : ∀ y ∈ scope.names, y.2 ≠ .cell) (hkind : scope.kind = .function)
    (hnames : ∀ y ∈ scope.names, y.2 = .local → scope.names.lookup y.1 = some .local) (hx : scope.names.lookup x = some .local)
    (h : wpAny (model prog w) A (eval iter env) (SrcT prog w A h₀ L m env elt x scope cl (fun s₂ => LCg.FinE h₀ L m s₂ Q)) E s)
    (hs : ∀ x, foldedSetIterable iter env x = pure x := by intro _; rfl) :
    wpAny (model prog w) A (eval (.ListComp elt [⟨.Name x px, iter, [], 0⟩] scope pos) env) Q E s := by
  rw [eval_ListComp]
  refine wpAny_comprehension_free (use := none) rfl hs hclos hkind hnames (wpAny_mono h (fun xv s₁ h₁ => ?_) fun _ _ e => e)
  obtain ⟨ax, vs, news, rfl, hh, F, N, S, hsz, R⟩ := h₁
  have hl := tup_is N S
  have hlt : ax < s₁.heap.objs.size := Heap.lt_size (N _ S).1
  refine wpAny_pyIter_tuple hl ?_
  have up : ∀ b o, s₁.heap.get? b = some o → (s₁.heap.push { cls := .type "tuple_iterator", data := .fields #[.ref ax, .int 0 0] }).get? b = some o := fun b o e => Heap.get?_push_of_some _ e
  have W := Walks.tuple (prog := prog) (w := w) (A := A) hh s₁.heap.objs.size ax (Nat.ne_of_lt hlt) vs.toArray
  have hlen : vs.toArray.size = vs.length := by simp
  have hP : (fun (i : Nat) (v : Value) => vs.toArray[i]? = some v) = (fun (i : Nat) (v : Value) => vs[i]? = some v) := by funext i v; simp
  rw [hlen, hP] at W
  refine LCg.block_U (S := fun nx => (ax, tupOf vs) ∈ nx) W hsz (fun i h st => by obtain ⟨o, e, _⟩ := st.1; exact ⟨o, e⟩)
    (fun i h h' o nw st e e' k N S => ⟨by obtain ⟨o', q, r⟩ := st.1; rw [e] at q; cases q; exact ⟨o, e', r⟩, tup_is N S⟩) hcell hkind hx ⟨⟨_, Heap.get?_push_size _ rfl, rfl, rfl⟩, hl.push _⟩ (fun b hb => ?_)
    (F.keeps up) (N.grown up) (Nat.ne_of_lt F.ns.lt) (next_is_new F) (fun p hp => Nat.ne_of_lt (Heap.lt_size (N p hp).1)) S (R _ ⟨_, rfl⟩) ?_
  · show b < (s₁.heap.push _).objs.size
    rw [Heap.size_push]
    rcases List.mem_cons.mp hb with rfl | hb
    · exact Nat.lt_succ_self _
    · rw [List.mem_singleton.mp hb]; exact Nat.lt_succ_of_lt hlt
  · intro D C h tk m' ys news' F' N' o1 hn hC₀ hD₀ hCL hDL hCD offC fin
    refine ⟨m', hn, fun h'' hs'' => fin D h'' tk (F'.change hs'' hCL hC₀) (fun p hp => ?_) o1⟩
    refine ⟨hs''.extBut _ _ ?_ (N' p hp).1, (N' p hp).2⟩
    rcases List.mem_cons.mp hp with rfl | hp
    · exact Ne.symm hCD
    · exact offC p hp
/-- the turns of a comprehension, by an invariant -/
theorem comp_inv {elt : PySem.Expr} {x : Str} {scope : Scope} {cl : List (Str × Addr)} {S : List (Addr × Obj) → Prop} {P : Nat → Value → Prop} {Fin : List Value → List (Addr × Obj) → Prop} (Inv : Nat → List Value → List (Addr × Obj) → Prop) (n : Nat) {news : List (Addr × Obj)}
    (h0 : Inv 0 [] news)
    (turn : ∀ i ys nx v I oI C oC D m₂ h tk (E' : Value → Shared → Prop), i < n → Inv i ys nx → P i v → LCg.NsObj oC m₂ → m₂ x = some v → Fr h₀ L h m → News h₀ L h ((I, oI) :: (C, oC) :: (D, LCg.lst ys) :: nx) → LCg.Off3 I C D nx → ((@Ne Nat I C) ∧ (@Ne Nat I D) ∧ (@Ne Nat C D)) →
      wpAny (model prog w) A (eval elt (compEnvC scope cl C env)) (LCg.CompEnd h₀ L m { s with heap := h, toks := tk } I oI C oC D (LCg.lst ys) S (fun y news' => Inv (i + 1) (ys ++ [y]) news')) E' { s with heap := h, toks := tk })
    (fin : ∀ ys nx, Inv n ys nx → Fin ys nx) : LCg.CompRest prog w A h₀ L m env elt x scope cl s S P Fin n 0 [] news := by
  have main : ∀ k i ys nx, i + k = n → Inv i ys nx → LCg.CompRest prog w A h₀ L m env elt x scope cl s S P Fin k i ys nx := by
    intro k
    induction k with
    | zero => intro i ys nx e hI; exact fin _ _ (by rw [← e]; exact hI)
    | succ k ih =>
      intro i ys nx e hI
      refine LCg.CompRest.succ fun v I oI C oC D m₂ h tk E' hP hC hx F N off ne => wpAny_mono (turn i ys nx v I oI C oC D m₂ h tk E' (by omega) hI hP hC hx F N off ne) (fun y s₂ hq => ?_) fun _ _ e => e
      obtain ⟨h', tk', news', rfl, F', N', off', hS, r⟩ := hq
      exact ⟨h', tk', news', rfl, F', N', off', hS, ih (i + 1) _ _ (by omega) r⟩
  exact main n 0 [] news (by omega) h0
/-- the end of a turn: all of the ledger but the block's own -/
theorem comp_end {I C D : Addr} {oI oC oD : Obj} {S : List (Addr × Obj) → Prop} {rest : Value → List (Addr × Obj) → Prop} {y : Value} {h' : Heap} {tk : Nat} {all : List (Addr × Obj)} {s₁ : Shared}
    (F : Fr h₀ L h' m) (N : News h₀ L h' all) (hI : (I, oI) ∈ all) (hC : (C, oC) ∈ all) (hD : (D, oD) ∈ all)
    (r : ∀ nx, (∀ q ∈ all, q.1 ≠ I → q.1 ≠ C → q.1 ≠ D → q ∈ nx) → (∀ q ∈ nx, q ∈ all ∧ q.1 ≠ I ∧ q.1 ≠ C ∧ q.1 ≠ D) → S nx ∧ rest y nx) : LCg.CompEnd h₀ L m s₁ I oI C oC D oD S rest y { s₁ with heap := h', toks := tk } := by
  have r := r (all.filter fun q => decide (q.1 ≠ I ∧ q.1 ≠ C ∧ q.1 ≠ D)) (fun q hq a b c => List.mem_filter.mpr ⟨hq, by simp [a, b, c]⟩) (fun q hq => ⟨(List.mem_filter.mp hq).1, by simpa using (List.mem_filter.mp hq).2⟩)
  refine LCg.CompEnd.intro F N _ (fun p hp => ?_) (LCg.Off3.of fun p hp => ?_) r.1 r.2
  · rcases List.mem_cons.mp hp with rfl | hp
    · exact hI
    · rcases List.mem_cons.mp hp with rfl | hp
      · exact hC
      · rcases List.mem_cons.mp hp with rfl | hp
        · exact hD
        · exact (List.mem_filter.mp hp).1
  · have := (List.mem_filter.mp hp).2
    simpa using this
def PAt (news : List (Addr × Obj)) (a : Addr) : Prop := ∃ d, (a, instObj 31 d) ∈ news
theorem PAt.mono {news news' : List (Addr × Obj)} {a : Addr} (h : PAt news a) (k : ∀ q ∈ news, q ∈ news') : PAt news' a := h.imp fun _ e => k _ e
theorem is_pat {M : Model} {news : List (Addr × Obj)} {x y : Addr} {Q : Value → Shared → Prop} (N : News h₀ L s.heap news) (hx : PAt news x) (hy : PAt news y) (h : Q (.bool (decide (x = y))) s) : wpAny M A (compareOp .Is (.ref x) (.ref y)) Q E s := by
  obtain ⟨d, hx⟩ := hx
  obtain ⟨d', hy⟩ := hy
  show wpAny M A (do return .bool (← isSame (.ref x) (.ref y))) Q E s
  exact wpAny_bind (isSame_inst N hx hy (wpAny_pure h))
end
end Mine

open PySem PySem.W PyProof.Rows PySem.Calls
set_option Elab.async false
set_option maxRecDepth 100000
namespace Mine
theorem freshMC : True ∧ True := by
  w_top off
  try (walk1; fail)
  exact ⟨trivial, trivial⟩
end Mine
namespace Mine
def swapA (o n a : Addr) : Addr := if a = o then n else a
def swapT (o n : Addr) (t : T3) : T3 := (swapA o n t.1, swapA o n t.2.1, swapA o n t.2.2)
def SwJ (news : List (Addr × Obj)) (tr o n : Addr) (ts : List T3) (lX L' : Addr) (oA oB : Obj) (i : Nat) (a b : Value) (nx : List (Addr × Obj)) : Prop :=
  a = .ref lX ∧ b = .ref tr ∧ (∀ q ∈ news, q ∈ nx) ∧ (L' + 1 + 1, oA) ∈ nx ∧ (L' + 1, oB) ∈ nx ∧ ∃ vs2, (lX, listOf vs2.toArray i) ∈ nx ∧ TrsAre nx vs2 ((ts.take i).map (swapT o n)) ∧ vs2.length = i
section
local macro_rules | `(tactic| k_mem) => `(tactic| (refine mem_of ?_; ktr_member))
section
local macro_rules | `(tactic| walk_at "eval Call") => `(tactic| first | ((with_reducible show wpAny _ _ (eval (Expr.Call (Expr.Name _ _) _ (_ :: _) _) _) _ _ _); k_dflt (refine wpAny_Call_Name_kw ?_)) | k_dflt (refine Call_ ?_))
local macro_rules | `(tactic| walk_at "call ref") => `(tactic| (k_here; refine Stop.intro ?_))
local macro_rules | `(tactic| walk_at "exec For") => `(tactic| (k_here; refine Stop.intro ?_))
local macro_rules | `(tactic| walk_at "exec For Name Name cons nil") => `(tactic| (k_here; refine Stop.intro ?_))
local macro_rules | `(tactic| walk_at "exec For Name Call cons nil") => `(tactic| (k_here; refine Stop.intro ?_))
local macro_rules | `(tactic| walk_at "exec For Name Name") => `(tactic| (k_here; refine Stop.intro ?_))
local macro_rules | `(tactic| walk_at "exec For Name Call") => `(tactic| (k_here; refine Stop.intro ?_))
local macro_rules | `(tactic| walk_at "exec For Name") => `(tactic| (k_here; refine Stop.intro ?_))
local macro_rules | `(tactic| walk_at "pyIter ref") => `(tactic| (k_here; refine Stop.intro ?_))
local macro_rules | `(tactic| walk_at "eval ListComp") => `(tactic| (k_here; refine Stop.intro ?_))
local macro_rules | `(tactic| walk_at "exec Assign cons ListComp") => `(tactic| (k_here; refine Stop.intro ?_))
local macro_rules | `(tactic| walk_at "CompSrc") => `(tactic| (refine Stop.intro ?_))
local macro_rules | `(tactic| walk_at "CompEnd") => `(tactic| (refine Stop.intro ?_))
local macro_rules | `(tactic| walk_at "compareOp Is") => `(tactic| (k_here; refine Stop.intro ?_))
local macro_rules | `(tactic| walk_at "LPost2") => `(tactic| (dsimp only [LPost2]))
set_option maxHeartbeats 4000000 in
theorem sw_spec (w : World) (news : List (Addr × Obj)) (tr o n : Addr) (ts : List T3) (hl : TrIn news tr ts) (hc : ∀ t ∈ ts, PAt news t.1 ∧ PAt news t.2.1 ∧ PAt news t.2.2) (ho : PAt news o) (hn : PAt news n) (hz : ts.length ≤ 1000) :
  Spec w 182 [.ref tr, .ref o, .ref n] news 3 30 (fun v news' => ∃ a, v = .ref a ∧ TrIn news' a (ts.map (swapT o n)) ∧ (∀ q ∈ news, q.1 < a) ∧ ∀ q ∈ news, q ∈ news') := by
  obtain ⟨vs, ep, a1, b1⟩ := hl
  unfold Spec
  intro mean mg mb dp un gd cn cs aA ccd cl outer A₀ base h₀ L m s Q E B F X N T hk hd hu hret
  have kf9 : (PySem.Challenge.rw_bj5012_02 = PySem.Challenge.rw_bj5012_02 ∧ ∀ p, Mine.hd.heap_39 p = Mine.hd.heap_39 p) := (by k_fill; exact ⟨rfl, fun _ => rfl⟩)
  clear kf9
  refine wpAny_call ?_
  k_dflt (refine' code_defC ?k1 ?k2 ?k3 ?k4 ?k5 ?kA ?kF ?kK ?k6 ?k7 ?k8 ?k9 ?kB ?kD ?_ ?c2 ?c3 ?c4; (case kA => exact rfl); (case kF => exact rfl); (case kK => first | exact rfl | assumption); (case k1 => k_asm); (case k2 => k_asm); (case k3 => k_asm); (case k4 => k_asm); (case k5 => k_asm); (case k6 => k_is); (case k7 => k_is); (case k8 => ktr_room); (case k9 => first | exact BindsTo.of_eq rfl | exact binds_K (by k_in) rfl (by k_is) rfl rfl rfl); (case kB => exact rfl); (case kD => decide +kernel); (case c2 => exact rfl); (case c3 => exact rfl); (case c4 => exact rfl); k_whole; intro g' L' h' tk' cells' FG' F' N' Y' B' X' T' l1; (try k_lt l1); k_cells Y'; (try simp only [List.cons_append, List.nil_append] at N'); (try dsimp only); (try k_fold))
  k_steps
  (refine Stop.out ?_; (rename Fr _ _ _ _ => lF); (with_unfolding_all refine' For_invVF lF ?k1 ?k2 ?_; (case k1 => exact rfl); (case k2 => exact rfl)))
  k_steps
  refine Stop.out ?_
  rename Fr _ _ _ _ => lF
  rename News _ _ _ _ => lN
  rename_i oA oB dA dB lX hX lC hY
  replace dA : oA.data = .cell (some (.ref n)) := dA
  replace dB : oB.data = .cell (some (.ref o)) := dB
  with_unfolding_all refine iterL2 (Str.ofString "swapped") (Str.ofString "triangles") [] (SwJ news tr o n ts lX L' oA oB) (by rfl) (.tail _ (.tail _ (.tail _ a1))) lF lN (by rfl) (by rfl) ⟨rfl, rfl, fun q hq => .tail _ (.tail _ (.tail _ hq)), .tail _ (.head _), .tail _ (.tail _ (.head _)), [], .head _, .nil, rfl⟩ ?_ ?_ (by decide) (by decide)
  · rintro I i v a b u nx Λ hh tt oI hv ⟨rfl, rfl, hs, c1, c2, vs2, g1, g2, g3⟩ hΛ _ hI hoI Fa Na
    have hi : i < ts.length := by
      rw [← b1.length]; exact (List.getElem?_eq_some_iff.mp hv).1
    obtain ⟨x1, y1, f1, f2, f3⟩ := b1.get hi
    cases hv.symm.trans f1
    have m0 := hΛ _ (hs _ a1)
    have m1 := hΛ _ (hs _ f3)
    have m2 := hΛ _ c1
    have m3 := hΛ _ c2
    have m4 := hΛ _ g1
    have ntl : ∀ a us, (a, tupOf us) ∈ Λ → a ≠ lX := fun a us hm => news_ne Na hm m4 tup_ne_list
    clear lF lN
    k_steps
    refine Stop.out ?_
    rename Fr _ _ _ _ => lF
    rename News _ _ _ _ => lN
    refine comp_tup lF (by with_unfolding_all rfl) (by decide) (by rfl) (by decide) (by rfl) ?_
    k_steps
    refine ⟨x1, [y1.1, y1.2.1, y1.2.2].map Value.ref, _, rfl, by rfl, lF, lN, m1, (by simp [sizeLine_eq]), ?_⟩
    rintro s₂ ⟨g, rfl⟩
    refine comp_inv (fun i ys nx => (∀ q ∈ Λ, q ∈ nx) ∧ ys = ([y1.1, y1.2.1, y1.2.2].take i).map fun c => .ref (swapA o n c)) 3 ⟨fun _ h => h, rfl⟩ ?_ ?_
    · rintro j ys nx v I' oI' C' oC' D' m' h' tk' E' hj ⟨k1, rfl⟩ hv' hC' hx' F' N' off' ne'
      rw [List.getElem?_map] at hv'
      cases hcj : [y1.1, y1.2.1, y1.2.2][j]? with
      | none => rw [hcj] at hv'; cases hv'
      | some c =>
      rw [hcj] at hv'
      cases hv'
      clear lF lN m0 m2 m3 m4
      have m2 := k1 _ (hΛ _ c1)
      have m3 := k1 _ (hΛ _ c2)
      have hcp : PAt news c := by
        have := hc y1 (List.mem_of_getElem? f2)
        have hm := List.mem_of_getElem? hcj
        simp only [List.mem_cons, List.not_mem_nil, or_false] at hm
        rcases hm with rfl | rfl | rfl
        · exact this.1
        · exact this.2.1
        · exact this.2.2
      have kk : ∀ q ∈ news, q ∈ nx := fun q hq => k1 _ (hΛ _ (hs _ hq))
      have et : ([y1.1, y1.2.1, y1.2.2].take (j + 1)).map (fun c => Value.ref (swapA o n c)) = ([y1.1, y1.2.1, y1.2.2].take j).map (fun c => Value.ref (swapA o n c)) ++ [.ref (swapA o n c)] := by
        rw [List.take_add_one, hcj, List.map_append]; rfl
      k_steps
      refine Stop.out ?_
      rename News _ _ _ _ => lN
      refine is_pat lN (hcp.mono fun q hq => .tail _ (.tail _ (.tail _ (kk q hq)))) (ho.mono fun q hq => .tail _ (.tail _ (.tail _ (kk q hq)))) ?_
      have zz : ∀ nx' : List (Addr × Obj), (∀ q ∈ (I', oI') :: (C', oC') :: (D', LCg.lst (([y1.1, y1.2.1, y1.2.2].take j).map fun c => Value.ref (swapA o n c))) :: nx, q.1 ≠ I' → q.1 ≠ C' → q.1 ≠ D' → q ∈ nx') → ∀ q ∈ Λ, q ∈ nx' := fun nx' z q hq =>
        z q (.tail _ (.tail _ (.tail _ (k1 q hq)))) (off'.mem q (k1 q hq)).1 (off'.mem q (k1 q hq)).2.1 (off'.mem q (k1 q hq)).2.2
      by_cases hco : c = o
      · rw [decide_eq_true hco]
        k_steps
        refine Stop.out ?_
        refine comp_end F' lN (.head _) (.tail _ (.head _)) (.tail _ (.tail _ (.head _))) fun nx' z _ => ⟨zz _ z _ m1, zz _ z, ?_⟩
        rw [et, swapA, if_pos hco]
      · rw [decide_eq_false hco]
        k_steps
        refine Stop.out ?_
        refine comp_end F' lN (.head _) (.tail _ (.head _)) (.tail _ (.tail _ (.head _))) fun nx' z _ => ⟨zz _ z _ m1, zz _ z, ?_⟩
        rw [et, swapA, if_neg hco]
    · rintro ys nx ⟨k1, rfl⟩
      k_steps
      rename Fr _ _ _ _ => lF
      rename News _ _ _ _ => lN
      rename_i D1 tk1 oD D2 h2 lD
      have q4 := k1 _ m4
      have hlD : ∀ q ∈ nx, q.1 < D2 := fun q hq => tb_ltOf lD.2 q hq
      have hlX : ∀ q ∈ news, q.1 < lX := fun q hq => tb_ltOf lC.2.2 q hq
      refine append_sym lF lN (.tail _ (.tail _ q4)) (fun h8 l8 F8 N8 b1' b2' => ?_) (by omega)
      have kn : ∀ q ∈ Λ, q.1 ≠ lX → q ∈ l8 := fun q hq hne => b2' _ (.tail _ (.tail _ (k1 q hq))) hne
      clear lF lN
      try dsimp only
      try k_fold
      k_steps
      rename Fr _ _ _ _ => lF
      rename News _ _ _ _ => lN
      have ne1 : lX ≠ I := hI _ g1
      refine ⟨_, _, _, _, _, _, rfl, lF, lN, fun q hq e => kn q hq (by rw [e]; exact Ne.symm ne1), fun q hq => ?_, rfl, rfl, ⟨rfl, rfl, fun q hq => ?_, ?_, ?_, vs2 ++ [.ref D2], ?_, ?_, by simp [g3]⟩, fun y h0 h1 h2 h3 => by simp [h0, h1, h2]⟩
      · rw [List.mem_singleton.mp hq]
        exact kn _ m0 (Nat.ne_of_lt (hlX _ a1))
      · exact List.mem_filter.mpr ⟨kn q (hΛ _ (hs q hq)) (Nat.ne_of_lt (hlX _ hq)), by simpa using hI _ (hs q hq)⟩
      · exact List.mem_filter.mpr ⟨kn _ (hΛ _ c1) (Nat.ne_of_lt lC.1), by simpa using hI _ c1⟩
      · exact List.mem_filter.mpr ⟨kn _ (hΛ _ c2) (Nat.ne_of_lt lC.2.1), by simpa using hI _ c2⟩
      · exact List.mem_filter.mpr ⟨b1', by simpa using ne1⟩
      · rw [List.take_add_one, f2, List.map_append]
        refine TrsAre.snoc (t := swapT o n y1) (g2.mono fun a us hm => List.mem_filter.mpr ⟨kn _ (hΛ _ hm) (ntl _ _ (hΛ _ hm)), by simpa using hI _ hm⟩) ?_
        exact List.mem_filter.mpr ⟨b2' _ (.head _) (Nat.ne_of_gt (hlD _ q4)), by simpa using Nat.ne_of_gt (hlD _ (k1 _ hoI))⟩
  · rintro a b u nx hh tt ⟨rfl, rfl, hs, c1, c2, vs2, g1, g2, g3⟩ Fa Na _
    have ev : vs.length = ts.length := b1.length
    clear lF lN
    try dsimp only
    try k_fold
    k_steps
    rename Fr _ _ _ _ => lF
    rename News _ _ _ _ => lN
    refine hret _ _ _ _ lF (lN) ⟨_, rfl, ⟨vs2, _, g1, ?_⟩, fun q hq => tb_ltOf lC.2.2 q hq, hs⟩
    rw [ev, List.take_length] at g2
    exact g2
end
end
end Mine

open PySem PySem.W PyProof.Rows PySem.Calls
set_option Elab.async false
set_option maxRecDepth 100000
namespace Mine
theorem freshMD : True ∧ True := by
  w_top off
  try (walk1; fail)
  exact ⟨trivial, trivial⟩
end Mine
namespace Mine
open PySem.Builtin.Int (intBits)
abbrev rfs (l : List Addr) : List Value := l.map Value.ref
/-- a list cut corner by corner -/
def halvedF : Nat → List Addr → Nat → List T3
  | 0, _, _ => []
  | f + 1, l, k => if 2 < l.length then (l.getD ((k + l.length - 1) % l.length) 0, l.getD k 0, l.getD ((k + 1) % l.length) 0) :: halvedF f (l.eraseIdx k) ((k + 1) % (l.length - 1)) else []
theorem rfs_get {l : List Addr} {i : Nat} (h : i < l.length) : (rfs l)[i]? = some (.ref (l.getD i 0)) := by
  unfold rfs
  rw [List.getElem?_map, List.getElem?_eq_getElem h, List.getD_eq_getElem?_getD, List.getElem?_eq_getElem h]
  rfl
theorem kl_cut_mk (y : Value) (q : List Value) : ∀ p : List Value, kl_cut (p ++ y :: q) p.length = some (p, y, q)
  | [] => rfl
  | x :: p => by
    show (match kl_cut (p ++ y :: q) p.length with | some (p', y', q') => some (x :: p', y', q') | none => none) = _
    rw [kl_cut_mk y q p]
section
variable {prog : Program} {w : World} {A : Around} {E : Value → Shared → Prop} {s : Shared} {h₀ : Heap} {L : Addr} {m : Str → Option Value} {news : List (Addr × Obj)}
/-- a pop out of a list of references of the ledger -/
theorem pop_sym {D : Addr} {l : List Addr} {n k : Nat} {u : Tok} {Q : Value → Shared → Prop} (F : Fr h₀ L s.heap m) (N : News h₀ L s.heap news) (hd : (D, listOf (rfs l).toArray n) ∈ news) (hk : k < l.length) (hz : l.length ≤ 1000)
    (h : ∀ h' news', Fr h₀ L h' m → News h₀ L h' news' → (D, listOf (rfs (l.eraseIdx k)).toArray (n + 1)) ∈ news' → (∀ q ∈ news, q.1 ≠ D → q ∈ news') → Q (.ref (l.getD k 0)) { s with heap := h' }) : wpAny (model prog w) A (call (.builtin "list.pop") [.ref D, .int (k : Int) u]) Q E s := by
  have N₁ : News h₀ L s.heap ((D, listOf (rfs l).toArray n) :: news.filter (fun q => decide (q.1 ≠ D))) := fun q hq => by
    rcases List.mem_cons.mp hq with rfl | hq
    · exact N _ hd
    · exact N _ (List.mem_filter.mp hq).1
  have es : rfs l = rfs (l.take k) ++ .ref (l.getD k 0) :: rfs (l.drop (k + 1)) := by
    have e : l = l.take k ++ l.getD k 0 :: l.drop (k + 1) := by
      rw [List.getD_eq_getElem?_getD, List.getElem?_eq_getElem hk, Option.getD_some, ← List.drop_eq_getElem_cons hk, List.take_append_drop]
    conv => lhs; rw [e]
    simp [rfs]
  have el : (rfs (l.take k)).length = k := by simp [rfs]; omega
  have ee : rfs (l.eraseIdx k) = rfs (l.take k) ++ rfs (l.drop (k + 1)) := by rw [List.eraseIdx_eq_take_drop_succ]; simp [rfs]
  have hsz : (rfs l).toArray.size = l.length := by simp [rfs]
  refine kl_popAt (p := rfs (l.take k)) (q := rfs (l.drop (k + 1))) (k := k) F N₁ ?_ ?_ ?_ (Upd.head (fun q hq => ?_)) (by simp only [rfs, List.length_map]; exact Nat.le_trans hz (by simp [sizeLine_eq])) (fun h' F' N' => h h' _ F' N' (by rw [ee]; exact .head _) fun q hq hne => .tail _ (List.mem_filter.mpr ⟨hq, by simpa using hne⟩))
  · unfold Builtin.List.listFitsIndex
    simp
    omega
  · rw [hsz]
    unfold seqIndex?
    simp only [show ¬ ((k : Int) < 0) by omega, if_false]
    rw [if_pos (by simp; omega)]
    simp
  · show kl_cut (rfs l) k = _
    rw [es]
    have := kl_cut_mk (.ref (l.getD k 0)) (rfs (l.drop (k + 1))) (rfs (l.take k))
    rw [el] at this
    exact this
  · have := (List.mem_filter.mp hq).2
    simpa using this
/-- the one before, the last one before the first -/
theorem item_prev {value slice : PySem.Expr} {l : Addr} {vs : List Value} {n k : Nat} {u : Tok} {x : Value} {Q : Value → Shared → Prop} (N : News h₀ L s.heap news) (hl : (l, listOf vs.toArray n) ∈ news)
    (hk : k < vs.length) (hz : vs.length ≤ 1000) (hx : vs[(k + vs.length - 1) % vs.length]? = some x) (h : Q x s)
    (hs : ∀ j : Int, subscripted slice false (.ref l) (.int j u) = operate [.ref l, .int j u] (getItem (.ref l) (.int j u)) := by intro _; with_unfolding_all rfl) (hg : ∀ r, letTemporaryGo value (.ref l) r = pure () := by intro _; with_unfolding_all rfl) :
    wpAny (model prog w) A (subscriptTail value slice (.ref l) (.int ((k : Int) - 1) u)) Q E s := by
  rcases Nat.eq_zero_or_pos k with rfl | hp
  · refine item_last N hl (x := x) ?_ h (hs _) hg
    rw [List.getLast?_eq_getElem?, ← hx]
    congr 1
    rw [Nat.zero_add, Nat.mod_eq_of_lt (by omega)]
  · refine item_mine N hl (by omega) (by omega) (x := x) ?_ h (hs _) hg
    rw [← hx]
    congr 1
    rw [show k + vs.length - 1 = k - 1 + vs.length by omega, Nat.add_mod_right, Nat.mod_eq_of_lt (by omega)]
    omega
end
theorem halved_at {l : List Addr} {k : Nat} (h : 2 < l.length) : (k + 1) % (l.length - 1) < (l.eraseIdx k).length := by
  have : (l.eraseIdx k).length ≥ l.length - 1 := by
    rw [List.length_eraseIdx]; split <;> omega
  have := Nat.mod_lt (k + 1) (show l.length - 1 > 0 by omega)
  omega
def HvJ (news : List (Addr × Obj)) (lr ld : Addr) (tot : List T3) (n : Nat) (v v₂ : Value) (nx : List (Addr × Obj)) : Prop :=
  ∃ (l : List Addr) (k : Nat) (done : List T3) (ep : Nat), (∃ t, v = .int (k : Int) t) ∧ v₂ = .ref lr ∧ k < l.length ∧ l.length ≤ n + 2 ∧ done.length + n ≤ 900 ∧ (lr, listOf (rfs l).toArray ep) ∈ nx ∧ TrIn nx ld done ∧ done ++ halvedF n l k = tot ∧ ∀ q ∈ news, q ∈ nx
section
local macro_rules | `(tactic| k_mem) => `(tactic| (refine mem_of ?_; ktr_member))
section
local macro_rules | `(tactic| walk_at "eval Call") => `(tactic| first | ((with_reducible show wpAny _ _ (eval (Expr.Call (Expr.Name _ _) _ (_ :: _) _) _) _ _ _); k_dflt (refine wpAny_Call_Name_kw ?_)) | k_dflt (refine Call_ ?_))
local macro_rules | `(tactic| walk_at "call ref") => `(tactic| (k_here; refine Stop.intro ?_))
local macro_rules | `(tactic| walk_at "exec While") => `(tactic| (k_here; refine Stop.intro ?_))
local macro_rules | `(tactic| walk_at "exec While Compare") => `(tactic| (k_here; refine Stop.intro ?_))
local macro_rules | `(tactic| walk_at "exec While Constant") => `(tactic| (k_here; refine Stop.intro ?_))
local macro_rules | `(tactic| walk_at "exec While Compare cons nil") => `(tactic| (k_here; refine Stop.intro ?_))
local macro_rules | `(tactic| walk_at "exec While BoolOp") => `(tactic| (k_here; refine Stop.intro ?_))
local macro_rules | `(tactic| walk_at "call builtin:list.append") => `(tactic| (k_here; refine Stop.intro ?_))
local macro_rules | `(tactic| walk_at "subscriptTail") => `(tactic| (k_here; refine Stop.intro ?_))
local macro_rules | `(tactic| walk_at "subscriptTail Name") => `(tactic| (k_here; refine Stop.intro ?_))
local macro_rules | `(tactic| walk_at "subscriptTail Name Constant") => `(tactic| (k_here; refine Stop.intro ?_))
local macro_rules | `(tactic| walk_at "subscriptTail Name Constant ref int") => `(tactic| (k_here; refine Stop.intro ?_))
local macro_rules | `(tactic| walk_at "subscriptTail Name UnaryOp ref int") => `(tactic| (k_here; refine Stop.intro ?_))
local macro_rules | `(tactic| walk_at "subscriptTail Name UnaryOp") => `(tactic| (k_here; refine Stop.intro ?_))
local macro_rules | `(tactic| walk_at "call builtin:len") => `(tactic| (k_here; k_dflt (refine' len_mine ?k1 ?k2 ?k3 ?k4 ?_; (case k1 => k_asm); (case k2 => k_mem); (case k3 => assumption); (case k4 => omega)); (try dsimp only); (try k_fold)))
local macro_rules | `(tactic| walk_at "subscriptTail") => `(tactic| (k_here; (with_reducible show wpAny _ _ (subscriptTail _ _ (Value.ref _) (Value.int _ _)) _ _ _); (with_unfolding_all refine' item_mine ?k1 ?k2 ?k3 ?k4 ?k5 ?_; (case k1 => k_asm); (case k2 => k_mem); (case k5 => assumption); (case k3 => first | omega | assumption); (case k4 => first | omega | assumption)); (try dsimp only); (try k_fold)))
local macro_rules | `(tactic| walk_at "subscriptTail Name") => `(tactic| (k_here; (with_reducible show wpAny _ _ (subscriptTail _ _ (Value.ref _) (Value.int _ _)) _ _ _); (with_unfolding_all refine' item_mine ?k1 ?k2 ?k3 ?k4 ?k5 ?_; (case k1 => k_asm); (case k2 => k_mem); (case k5 => assumption); (case k3 => first | omega | assumption); (case k4 => first | omega | assumption)); (try dsimp only); (try k_fold)))
local macro_rules | `(tactic| walk_at "subscriptTail Name Name") => `(tactic| (k_here; (with_reducible show wpAny _ _ (subscriptTail _ _ (Value.ref _) (Value.int _ _)) _ _ _); (with_unfolding_all refine' item_mine ?k1 ?k2 ?k3 ?k4 ?k5 ?_; (case k1 => k_asm); (case k2 => k_mem); (case k5 => assumption); (case k3 => first | omega | assumption); (case k4 => first | omega | assumption)); (try dsimp only); (try k_fold)))
local macro_rules | `(tactic| walk_at "subscriptTail Name Constant") => `(tactic| (k_here; (with_reducible show wpAny _ _ (subscriptTail _ _ (Value.ref _) (Value.int _ _)) _ _ _); (with_unfolding_all refine' item_mine ?k1 ?k2 ?k3 ?k4 ?k5 ?_; (case k1 => k_asm); (case k2 => k_mem); (case k5 => assumption); (case k3 => first | omega | assumption); (case k4 => first | omega | assumption)); (try dsimp only); (try k_fold)))
local macro_rules | `(tactic| walk_at "WPost1") => `(tactic| (dsimp only [WPost1]))
local macro_rules | `(tactic| walk_at "WPost2") => `(tactic| (dsimp only [WPost2]))
local macro_rules | `(tactic| walk_at "call builtin:list.pop") => `(tactic| (k_here; refine Stop.intro ?_))
local macro_rules | `(tactic| walk_at "call type:list") => `(tactic| (k_here; refine Stop.intro ?_))
set_option maxHeartbeats 4000000 in
theorem hv_spec (w : World) (news : List (Addr × Obj)) (lr ep : Nat) (l : List Addr) (hl : (lr, listOf (rfs l).toArray ep) ∈ news) (h0 : 0 < l.length) (hz : l.length ≤ 400) :
  Spec w 189 [.ref lr] news 3 30 (fun v news' => ∃ a, v = .ref a ∧ TrIn news' a (halvedF l.length l (l.length - 1)) ∧ (∀ q ∈ news, q.1 < a) ∧ ∀ q ∈ news, q ∈ news') := by
  unfold Spec
  intro mean mg mb dp un gd cn cs aA ccd cl outer A₀ base h₀ L m s Q E B F X N T hk hd hu hret
  have kf9 : (PySem.Challenge.rw_bj5012_02 = PySem.Challenge.rw_bj5012_02 ∧ ∀ p, Mine.hd.heap_39 p = Mine.hd.heap_39 p) := (by k_fill; exact ⟨rfl, fun _ => rfl⟩)
  clear kf9
  refine wpAny_call ?_
  k_dflt ktr_enter
  have hlen : (rfs l).length = l.length := by simp [rfs]
  k_steps
  refine Stop.out ?_
  rename Fr _ _ _ _ => lF
  rename News _ _ _ _ => lN
  refine kup_listOf (zs := rfs l) lF lN hl (by simp) (fun D1 c1 h1 F1 N1 lD => ?_) (by simp only [rfs, List.length_map]; exact Nat.le_trans hz (by simp [sizeLine_eq]))
  try dsimp only
  try k_fold
  k_steps
  refine Stop.out ?_
  rename Fr _ _ _ _ => lF
  rename News _ _ _ _ => lN
  rename_i lX hX lC hY
  with_unfolding_all refine While2 (Str.ofString "at") (Str.ofString "rest") [] (HvJ news D1 lX (halvedF l.length l (l.length - 1))) lF lN (by rfl) (by rfl) ⟨l, l.length - 1, [], _, int_post ?_, rfl, by omega, by omega, by simp only [List.length_nil]; omega, .tail _ (.head _), ⟨[], _, .head _, .nil⟩, rfl, fun q hq => .tail _ (.tail _ hq)⟩ ?_
  · omega
  rintro j v v₂ u nx hh tt ⟨l', k, done, ep', ⟨t, rfl⟩, rfl, hk, hn, hd9, m1, hT, etot, hs⟩ Fa Na
  have hlen' : (rfs l').length = l'.length := by simp [rfs]
  have m2 := hT
  obtain ⟨vs2, ep2, q1, q2⟩ := m2
  clear lF lN
  by_cases c2 : 2 < l'.length
  · cases j with
    | zero => omega
    | succ j =>
    have hm1 := Nat.mod_lt (k + l'.length - 1) (show l'.length > 0 by omega)
    have hm2 := Nat.mod_lt (k + 1) (show l'.length > 0 by omega)
    have x1 := rfs_get hm1
    have x2 := rfs_get hk
    have x3 := rfs_get hm2
    have f1 : (rfs l')[((k : Int)).toNat]? = some (.ref (l'.getD k 0)) := by rw [Int.toNat_natCast]; exact x2
    have em : ((k : Int) + 1).fmod (l'.length : Int) = (((k + 1) % l'.length : Nat) : Int) := by
      rw [Int.fmod_eq_emod_of_nonneg _ (by omega), show ((k : Int) + 1) = ((k + 1 : Nat) : Int) from by omega, ← Int.natCast_emod]
    have f2 : (rfs l')[(((k : Int) + 1).fmod (l'.length : Int)).toNat]? = some (.ref (l'.getD ((k + 1) % l'.length) 0)) := by rw [em, Int.toNat_natCast]; exact x3
    have f3 : 0 ≤ ((k : Int) + 1).fmod (l'.length : Int) := by rw [em]; omega
    have f4 : ((k : Int) + 1).fmod (l'.length : Int) < 2 ^ 63 := by rw [em]; omega
    k_steps
    refine Stop.out ?_
    rename News _ _ _ _ => lN
    with_unfolding_all refine item_prev lN m1 (by omega) (by omega) (by rw [hlen']; exact x1) ?_
    try dsimp only
    try k_fold
    k_steps
    refine Stop.out ?_
    rename Fr _ _ _ _ => lF
    rename News _ _ _ _ => lN
    rename_i D2 h2 lD2
    have hD2 := lD2
    have ntl : ∀ a us, (a, tupOf us) ∈ nx → a ≠ lX := fun a us hm => news_ne lN (.tail _ hm) (.tail _ q1) tup_ne_list
    have ntd : ∀ a us, (a, tupOf us) ∈ nx → a ≠ D1 := fun a us hm => news_ne lN (.tail _ hm) (.tail _ m1) tup_ne_list
    refine append_sym lF lN (.tail _ q1) (fun h8 l8 F8 N8 b1' b2' => ?_) (by rw [q2.length]; omega)
    have hnd : D1 ≠ lX := Nat.ne_of_lt lC.1
    have m1' := b2' _ (.tail _ m1) hnd
    clear lF lN
    try dsimp only
    try k_fold
    k_steps
    refine Stop.out ?_
    rename Fr _ _ _ _ => lF
    rename News _ _ _ _ => lN
    refine pop_sym lF lN m1' hk (by omega) (fun h9 l9 F9 N9 b3' b4' => ?_)
    try dsimp only
    try k_fold
    have hlen2 : (rfs (l'.eraseIdx k)).length = l'.length - 1 := by rw [rfs, List.length_map, List.length_eraseIdx, if_pos hk]
    k_steps
    rename Fr _ _ _ _ => lF
    rename News _ _ _ _ => lN
    have kn : ∀ q ∈ nx, q.1 ≠ D1 → q.1 ≠ lX → q ∈ l9 := fun q hq n1 n2 => b4' _ (b2' _ (.tail _ hq) n2) n1
    refine ⟨_, _, _, _, _, _, j, rfl, lF, lN, by omega, rfl, rfl, ⟨l'.eraseIdx k, (k + 1) % (l'.length - 1), done ++ [(l'.getD ((k + l'.length - 1) % l'.length) 0, l'.getD k 0, l'.getD ((k + 1) % l'.length) 0)], _, int_post ?_, rfl, halved_at c2, ?_, ?_, b3', ⟨vs2 ++ [.ref D2], _, b4' _ b1' (Ne.symm hnd), ?_⟩, ?_, fun q hq => ?_⟩, fun y h1 h2 h3 => ?_⟩
    · rw [Int.fmod_eq_emod_of_nonneg _ (by omega), show ((k : Int) + 1) = ((k + 1 : Nat) : Int) from by omega, ← Int.natCast_emod]
    · rw [List.length_eraseIdx, if_pos hk]; omega
    · rw [List.length_append, List.length_singleton]; omega
    · refine TrsAre.snoc (q2.mono fun a us hm => kn _ hm (ntd _ _ hm) (ntl _ _ hm)) (b4' _ (b2' _ (.head _) (Nat.ne_of_gt (hD2 _ q1))) (Nat.ne_of_gt (hD2 _ m1)))
    · rw [← etot, List.append_assoc]
      conv => rhs; unfold halvedF
      rw [if_pos c2]; rfl
    · exact kn q (hs q hq) (Nat.ne_of_lt (lD q hq)) (Nat.ne_of_lt (tb_ltOf lC.2 q hq))
    · simp [h1, h2]
  · k_steps
    rename Fr _ _ _ _ => lF
    rename News _ _ _ _ => lN
    have et : halvedF j l' k = [] := by
      cases j with
      | zero => rfl
      | succ j => unfold halvedF; rw [if_neg c2]
    rw [et, List.append_nil] at etot
    subst etot
    exact hret _ _ _ _ lF lN ⟨lX, rfl, hT, fun q hq => tb_ltOf lC.2 q hq, hs⟩
end
end
end Mine

open PySem PySem.W PyProof.Rows PySem.Calls
set_option Elab.async false
set_option maxRecDepth 100000
namespace Mine
theorem freshMR : True ∧ True := by
  w_top off
  try (walk1; fail)
  exact ⟨trivial, trivial⟩
end Mine
namespace Mine
/-! list(reversed(..)) -/
theorem nolen_lri : typeLookup (.type "list_reverseiterator") "__len__" = pure none := by rw [typeLookup_type, builtinLookup_eq_fast]; kernel_rfl
theorem hint_lri : typeLookup (.type "list_reverseiterator") "__length_hint__" = pure (some (.builtin "list_reverseiterator.__length_hint__")) := by rw [typeLookup_type, builtinLookup_eq_fast]; kernel_rfl
section
variable {prog : Program} {w : World} {A : Around} {s : Shared}
variable {I : Addr} {fp wr : List Addr} {n : Nat} {P : Nat → Value → Prop} {St : Nat → Heap → Prop}
theorem lri_hint {E : Value → Shared → Prop} {Q : Bool → Shared → Prop} (hT : s.TypeIs (.ref I) "list_reverseiterator") (h : Q false s) : wpAny (model prog w) A (Builtin.List.listLengthHint (.ref I)) Q E s := by
  unfold Builtin.List.listLengthHint
  refine wpAny_bind (wpAny_specialOf hT nolen_lri ?_)
  show wpAny _ A (specialOf (Value.ref I) (Str.ofString "__length_hint__") >>= _) _ _ _
  refine wpAny_bind (wpAny_specialOf hT hint_lri ?_)
  generalize hid : ("list_reverseiterator.__length_hint__" : String) = id0
  wp_delta
  rw [show splitId id0 = some ("list_reverseiterator", "__length_hint__") from by subst hid; decide +kernel]
  subst hid
  refine wpAny_bind (wpAny_isInstance (b := true) hT (by rw [isSubtype_type]; kernel_rfl) ?_)
  exact wpAny_pure h
theorem rev_extend {R : Result → Shared → Prop} (W : Walks prog w A.in1 I fp wr n P St) (hT : ∀ i (s : Shared), St i s.heap → s.TypeIs (.ref I) "list_reverseiterator") (S : Addr) (res : Value) (c₀ : Nat) (hst : St 0 s.heap) (hSf : S ∉ fp) (hI : I ∈ fp)
    (hS : s.heap.get? S = some { cls := .type "list", data := .seq #[] c₀ })
    (hR : ∀ s' acc' c', Moved (S :: wr) (fun a b => b = a) s s' → s'.heap.get? S = some { cls := .type "list", dict := none, data := .seq acc' c', slots := #[] } → ItemsOf P acc' n → R (.ok (.ret res)) s') (hn : n ≤ sizeLine) :
    wpAny (model prog w) A.in1 (Builtin.List.listExtendWith (.ref S) (.ref I) res)
      (fun fin s' => match fin with | .done f => R (.ok f) s' | .again c' => c'.quiet = true ∧ codeAny (model prog w) A c' R s') (fun e s' => R (.error e) s') s := by
  have hSI : S ≠ I := fun e => hSf (e ▸ hI)
  unfold Builtin.List.listExtendWith
  refine wpAny_bind (wpAny_typeOf (hT 0 _ hst) ?_)
  have h1 : Builtin.List.listSameRef (.ref S) (.ref I) = false := by simp [Builtin.List.listSameRef, hSI]
  have h2 : (Value.type "list_reverseiterator" == Value.type "list") = false := by decide
  have h3 : (Value.type "list_reverseiterator" == Value.type "tuple") = false := by decide
  simp only [h1, h2, h3, Bool.or_false, Bool.false_eq_true, if_false]
  refine wpAny_bind (W.self 0 _ _ _ hst ?_)
  refine wpAny_bind (wpAny_holding (lri_hint (hT 0 _ hst) ?_))
  rw [if_neg (by decide)]
  exact wpAny_pure ⟨plainId_quiet PySem.F.plain_extend_loop _, codeAny_extend_loopS W.toS hn _ hSf _ n 0 _ _ _ rfl (Nat.zero_le _) hst hS (ItemsOf.nil P) fun s' acc' c' hm hS' hacc => hR s' acc' c' hm hS' hacc⟩
theorem rev_init {R : Result → Shared → Prop} (W : Walks prog w A.in1 I fp wr n P St) (hT : ∀ i (s : Shared), St i s.heap → s.TypeIs (.ref I) "list_reverseiterator") (S : Addr) (hst : St 0 s.heap) (hSf : S ∉ fp) (hI : I ∈ fp)
    (hS : s.heap.get? S = some { cls := .type "list", data := .seq #[] })
    (hR : ∀ s' acc' c', Moved (S :: wr) (fun a b => b = a) s s' → s'.heap.get? S = some { cls := .type "list", dict := none, data := .seq acc' c', slots := #[] } → ItemsOf P acc' n → R (.ok (.ret .none)) s') (hn : n ≤ sizeLine) :
    wpAny (model prog w) A.in1 (Builtin.«list.__init__» ⟨[.ref S, .ref I], []⟩)
      (fun fin s' => match fin with | .done f => R (.ok f) s' | .again c' => c'.quiet = true ∧ codeAny (model prog w) A c' R s') (fun e s' => R (.error e) s') s := by
  show wpAny _ A.in1 (do let old ← Builtin.List.listItems (.ref S); Builtin.List.listUpdate (.ref S) (fun _ => #[]); letGo old.toList.reverse; Builtin.List.listExtendWith (.ref S) (.ref I) .none) _ _ s
  refine wpAny_bind ?_
  unfold Builtin.List.listItems
  refine wpAny_bind (wpAny_seqItems hS rfl (wpAny_pure ?_))
  show wpAny _ _ (updateSeq S (fun _ => #[]) >>= fun _ => letGo (#[] : Array Value).toList.reverse >>= fun _ => Builtin.List.listExtendWith (.ref S) (.ref I) .none) _ _ s
  refine wpAny_bind (wpAny_updateSeq hS rfl ?_)
  have hS₂ := Heap.get?_update_self (Obj.mapSeq (fun _ => (#[] : Array Value))) hS rfl
  have oth : ∀ b o, b ≠ S → s.heap.get? b = some o → (s.heap.update S (Obj.mapSeq (fun _ => (#[] : Array Value)))).get? b = some o :=
    fun b o hb e => (Heap.get?_update_other _ _ (Ne.symm hb)).trans e
  refine wpAny_bind (wpAny_letGo ?_)
  refine rev_extend W hT S .none _ (W.frame 0 _ _ hst fun b hb o e => oth b o (fun h => hSf (h ▸ hb)) e) hSf hI hS₂ (fun s' acc' c' hm hS' hacc => ?_) hn
  exact hR s' acc' c' ⟨fun b o hb e => hm.heap b o hb (oth b o (fun h => hb (h ▸ List.mem_cons_self)) e), hm.gens, hm.drawn, hm.os, hm.toks⟩ hS' hacc
end
section
variable {prog : Program} {w : World} {A : Around} {E : Value → Shared → Prop} {s : Shared} {h₀ : Heap} {L : Addr} {m : Str → Option Value} {news : List (Addr × Obj)}
theorem list_rev {I l : Addr} {vs : List Value} {nn : Nat} {Q : Value → Shared → Prop} (hh : A.handled = none) (F : Fr h₀ L s.heap m) (N : News h₀ L s.heap ((I, revObj l ((vs.length : Int) - 1)) :: news)) (hnw : ∀ p ∈ news, p.1 ≠ I) (hl : (l, listOf vs.toArray nn) ∈ news) (hz : vs.length ≤ 1000)
    (h : ∀ D c h' tk, Fr h₀ L h' m → News h₀ L h' ((D, listOf vs.reverse.toArray c) :: news) → (∀ q ∈ news, q.1 < D) → Q (.ref D) { s with heap := h', toks := tk }) :
    wpAny (model prog w) A (call (.type "list") [.ref I]) Q E s := by
  have hIx := N _ (List.mem_cons_self ..)
  have hne : l ≠ I := hnw _ hl
  have hol := (N _ (.tail _ hl)).1
  have hls : s.heap.IsList l vs.toArray := ⟨_, hol, rfl, nn, rfl⟩
  have hlen : vs.toArray.size = vs.length := by simp
  have hit : s.heap.IsRevIter I l ((vs.toArray.size : Int) - 1 - ((0 : Nat) : Int)) := ⟨_, hIx.1, rfl, by rw [hlen, show ((vs.length : Int) - 1 - ((0 : Nat) : Int)) = (vs.length : Int) - 1 by omega]; rfl⟩
  have W := Walks.listRev (prog := prog) (w := w) (A := A.in1.in1) hh I l hne vs.toArray
  have hSI : s.heap.objs.size ∉ [I, l] := by
    intro hm
    rcases List.mem_cons.mp hm with e | hm
    · exact Nat.lt_irrefl _ (e ▸ Heap.lt_size hIx.1)
    · exact Nat.lt_irrefl _ (List.mem_singleton.mp hm ▸ Heap.lt_size hol)
  refine callType_codes (Q₁ := fun obj s₁ => obj = .ref s.heap.objs.size ∧ s₁ = { s with heap := s.heap.push { cls := .type "list", data := .seq #[] } }) PySem.F.called_list (PySem.F.typeCall_list_1 _) PySem.F.entry_list_init
    (code_list_new _ ⟨rfl, rfl⟩) fun obj s₁ h₁ => ?_
  obtain ⟨rfl, rfl⟩ := h₁
  have hS : (s.heap.push { cls := .type "list", data := .seq #[] }).get? s.heap.objs.size = some { cls := .type "list", data := .seq #[] } := Heap.get?_push_size _ rfl
  have up : ∀ b o, s.heap.get? b = some o → (s.heap.push { cls := .type "list", data := .seq #[] }).get? b = some o := fun b o e => Heap.get?_push_of_some _ e
  refine ⟨⟨_, hS, rfl⟩, PySem.F.args_list_init_2 _ _, rev_init W (fun i s st => st.2.1.typeIs) _ ⟨Nat.zero_le _, hit.at fun o e => up _ _ e, hls.at fun o e => up _ _ e⟩ hSI (by simp) hS (fun s' acc' c' hm hS' hacc => ?_) (by rw [hlen]; exact Nat.le_trans hz (by simp [sizeLine_eq]))⟩
  have hk : ∀ b o, b ∉ [I] → s.heap.get? b = some o → s'.heap.get? b = some o := fun b o hb e => hm.heap b o (fun h => by
    rcases List.mem_cons.mp h with e' | h
    · exact Nat.lt_irrefl _ (e' ▸ Heap.lt_size e)
    · exact hb h) (up b o e)
  have ea : acc'.toList = vs.reverse := by
    apply List.ext_getElem?
    intro j
    have hsz : acc'.size = vs.length := hacc.1.trans hlen
    by_cases hj : j < vs.length
    · have e1 : acc'[j]? = some acc'[j] := Array.getElem?_eq_getElem (by omega)
      have e2 := hacc.2 j _ e1
      rw [List.getElem?_reverse hj, Array.getElem?_toList, e1, ← e2]
      simp
    · rw [List.getElem?_eq_none (by simp; omega), List.getElem?_eq_none (by simp; omega)]
  refine ⟨rfl, ?_⟩
  rw [Moved.eq_with hm]
  have hF : Fr h₀ L s'.heap m := LCg.fr_but F hk (Ne.symm hIx.2.1) hIx.2.2
  refine h s.heap.objs.size c' s'.heap s'.toks hF (fun q hq => ?_) (fun q hq => Heap.lt_size (N q (.tail _ hq)).1)
  rcases List.mem_cons.mp hq with rfl | hq
  · refine ⟨?_, Nat.ne_of_gt F.ns.lt, none_at_size F⟩
    rw [← ea]
    simpa using hS'
  · exact LCg.news_but (fun p hp => N p (.tail _ hp)) hk hnw q hq
end
end Mine

open PySem PySem.W PyProof.Rows PySem.Calls
set_option Elab.async false
set_option maxRecDepth 100000
namespace Mine
/-! the same on lists: the head is the node at hand -/
section
variable {α : Type} (x y : α → Int)
def earL (a b c : α) : α → List α → Bool
  | _, [] => true
  | _, [_] => true
  | pp, p :: q :: r => !blockG x y a b c pp p q && earL a b c p (q :: r)
def isEarL : List α → Bool
  | e :: c :: r => !decide (0 ≤ areaG x y (r.getLastD c) e c) && earL x y (r.getLastD c) e c c r
  | _ => false
def degL (p : α) (r : List α) : Bool := eqG x y p (r.headD p) || decide (areaG x y (r.getLastD p) p (r.headD p) = 0)
def rotR : List α → List α
  | [] => []
  | a :: r => r.getLastD a :: (a :: r).dropLast
def filterL : Nat → List α → Nat → List α
  | 0, l, _ => l
  | _ + 1, [], _ => []
  | n + 1, p :: r, d =>
    if degL x y p r = true then (match r with
      | [] => [p]
      | [z] => [z]
      | z :: z' :: r' => filterL n (rotR (z :: z' :: r')) (r'.length + 1))
    else match d with
      | 0 => r ++ [p]
      | d + 1 => filterL n (r ++ [p]) d
def cureTL : List α → Bool
  | p :: q :: b :: c :: r => !eqG x y (r.getLastD c) b && (interG x y (r.getLastD c) p q b && (locG x y (r.getLastD c) ((c :: r).dropLast.getLastD b) p b && locG x y b q c (r.getLastD c)))
  | _ => false
def cureL (f : Nat) : Nat → List α → Nat → List (α × α × α) → List α × List (α × α × α)
  | 0, l, _, ts => (l, ts)
  | n + 1, l, d, ts =>
    if cureTL x y l = true then (match l with
      | p :: _ :: b :: r => cureL f n (r ++ [b]) (r.length - 1) (ts ++ [(r.getLastD b, p, b)])
      | _ => (l, ts))
    else match d with
      | 0 => (filterL x y f (l.drop 1 ++ l.take 1) (l.length - 1), ts)
      | d + 1 => cureL f n (l.drop 1 ++ l.take 1) d ts
def linkL (last : List α → List (α × α × α) → List (α × α × α)) : Nat → List α → Nat → List (α × α × α) → List (α × α × α)
  | 0, _, _, ts => ts
  | n + 1, l, d, ts => match l with
    | e :: c :: b :: r =>
      if isEarL x y (e :: c :: b :: r) = true then linkL last n (b :: r ++ [c]) (r.length + 1) (ts ++ [(r.getLastD b, e, c)])
      else (match d with
        | 0 => last (c :: b :: r ++ [e]) ts
        | d + 1 => linkL last n (c :: b :: r ++ [e]) d ts)
    | _ => ts
def last1L (f n : Nat) (l : List α) (ts : List (α × α × α)) : List (α × α × α) :=
  linkL x y (fun _ ts => ts) n (cureL x y f f (filterL x y f l (l.length - 1)) ((filterL x y f l (l.length - 1)).length - 1) ts).1 ((cureL x y f f (filterL x y f l (l.length - 1)) ((filterL x y f l (l.length - 1)).length - 1) ts).1.length - 1)
    (cureL x y f f (filterL x y f l (l.length - 1)) ((filterL x y f l (l.length - 1)).length - 1) ts).2
def last0L (f n : Nat) (l : List α) (ts : List (α × α × α)) : List (α × α × α) :=
  linkL x y (last1L x y f n) n (filterL x y f l (l.length - 1)) ((filterL x y f l (l.length - 1)).length - 1) ts
def ringT (f : Nat) (l : List α) : List (α × α × α) := linkL x y (last0L x y f f) f l (l.length - 1) []
end
/-- one behind the other -/
def Lk (σ : PS) : List Nat → Prop
  | a :: b :: r => (σ.nx a = b ∧ σ.pv b = a) ∧ Lk σ (b :: r)
  | _ => True
theorem Lk.app {σ : PS} : ∀ {l : List Nat} {m : Nat} {r : List Nat}, Lk σ (l ++ m :: r) ↔ Lk σ (l ++ [m]) ∧ Lk σ (m :: r)
  | [], _, _ => by simp [Lk]
  | [a], m, r => by simp [Lk]
  | a :: b :: l, m, r => by
    have := Lk.app (σ := σ) (l := b :: l) (m := m) (r := r)
    simp only [List.cons_append, Lk] at this ⊢
    rw [this]; simp only [and_assoc]
def Ring (σ : PS) : List Nat → Prop
  | [] => False
  | e :: r => (e :: r).Nodup ∧ Lk σ (e :: r ++ [e])
theorem Ring.nx {σ : PS} {p : Nat} {r : List Nat} (h : Ring σ (p :: r)) : σ.nx p = r.headD p := by
  cases r with
  | nil => exact h.2.1.1
  | cons a r => exact h.2.1.1
theorem Ring.rot {σ : PS} {p : Nat} {r : List Nat} (h : Ring σ (p :: r)) : Ring σ (r ++ [p]) := by
  cases r with
  | nil => exact h
  | cons a r =>
    obtain ⟨h1, h2⟩ := h
    refine ⟨?_, ?_⟩
    · have := (List.perm_append_comm (l₁ := [p]) (l₂ := a :: r)).nodup_iff.mp h1
      exact this
    · have e1 : Lk σ (a :: r ++ [p]) := h2.2
      show Lk σ (a :: r ++ [p] ++ [a])
      rw [List.append_assoc]
      exact Lk.app.mpr ⟨e1, ⟨h2.1, trivial⟩⟩
theorem Ring.unrot {σ : PS} {z : Nat} {r : List Nat} (h : Ring σ (r ++ [z])) : Ring σ (z :: r) := by
  cases r with
  | nil => exact h
  | cons a r =>
    obtain ⟨h1, h2⟩ := h
    refine ⟨(List.perm_append_comm (l₁ := [z]) (l₂ := a :: r)).nodup_iff.mpr h1, ?_⟩
    have h2' : Lk σ ((a :: r) ++ z :: [a]) := by
      have : a :: r ++ [z] ++ [a] = (a :: r) ++ z :: [a] := by simp
      rw [← this]; exact h2
    obtain ⟨e1, e2⟩ := Lk.app.mp h2'
    exact ⟨e2.1, e1⟩
theorem Ring.pv {σ : PS} {p : Nat} {r : List Nat} (h : Ring σ (p :: r)) : σ.pv p = r.getLastD p := by
  rcases List.eq_nil_or_concat r with rfl | ⟨r', z, rfl⟩
  · exact h.2.1.2
  · rw [List.concat_eq_append] at h ⊢
    have h2 : Lk σ ((p :: r') ++ z :: [p]) := by
      have : p :: (r' ++ [z]) ++ [p] = (p :: r') ++ z :: [p] := by simp
      rw [← this]; exact h.2
    have := (Lk.app.mp h2).2.1.2
    rw [this]; simp
/-- the links but for those of a node taken out -/
theorem Lk.rm {σ : PS} {p : Nat} : ∀ {l : List Nat}, Lk σ l → (∀ a, l.head? = some a → True) → (∀ a ∈ l.dropLast, a ≠ σ.pv p) → (∀ a ∈ l.tail, a ≠ σ.nx p) → σ.nx p ≠ p → Lk (σ.rm p) l := by
  intro l
  induction l with
  | nil => intro _ _ _ _ _; trivial
  | cons a l ih =>
    cases l with
    | nil => intro _ _ _ _ _; trivial
    | cons b l =>
      intro h _ h1 h2 hp
      refine ⟨⟨?_, ?_⟩, ih h.2 (fun _ _ => trivial) (fun c hc => h1 c (by simp only [List.dropLast_cons_cons]; exact .tail _ hc)) (fun c hc => h2 c (by simp only [List.tail_cons] at hc ⊢; exact .tail _ hc)) hp⟩
      · have ha : a ≠ σ.pv p := h1 a (by simp only [List.dropLast_cons_cons]; exact .head _)
        have hpv : (σ.setPv (σ.nx p) (σ.pv p)).pv p = σ.pv p := if_neg (Ne.symm hp)
        show (if a = (σ.setPv (σ.nx p) (σ.pv p)).pv p then _ else σ.nx a) = b
        rw [hpv, if_neg ha]; exact h.1.1
      · have hb : b ≠ σ.nx p := h2 b (.head _)
        show (if b = σ.nx p then _ else σ.pv b) = a
        rw [if_neg hb]; exact h.1.2
theorem PS.rm_nx {σ : PS} {p : Nat} (hp : σ.nx p ≠ p) (i : Nat) : (σ.rm p).nx i = if i = σ.pv p then σ.nx p else σ.nx i := by
  have hpv : (σ.setPv (σ.nx p) (σ.pv p)).pv p = σ.pv p := if_neg (Ne.symm hp)
  show (if i = (σ.setPv (σ.nx p) (σ.pv p)).pv p then σ.nx p else σ.nx i) = _
  rw [hpv]
theorem PS.rm_pv {σ : PS} {p : Nat} (i : Nat) : (σ.rm p).pv i = if i = σ.nx p then σ.pv p else σ.pv i := rfl
theorem Ring.rm {σ : PS} {p a : Nat} {r : List Nat} (h : Ring σ (p :: a :: r)) : Ring (σ.rm p) (a :: r) := by
  have hnx : σ.nx p = a := h.nx
  have hpv : σ.pv p = r.getLastD a := by rw [h.pv, List.getLastD_cons]
  obtain ⟨h1, h2⟩ := h
  have hpa : p ≠ a := fun e => (List.nodup_cons.mp h1).1 (e ▸ .head _)
  have hnd := (List.nodup_cons.mp h1).2
  have hne : σ.nx p ≠ p := by rw [hnx]; exact Ne.symm hpa
  have hl : Lk σ (a :: r) := by
    have e : p :: a :: r ++ [p] = p :: (a :: r ++ [p]) := rfl
    have h3 : Lk σ (a :: r ++ [p]) := h2.2
    rcases List.eq_nil_or_concat r with rfl | ⟨r', z, rfl⟩
    · trivial
    · rw [List.concat_eq_append] at h3 ⊢
      have : a :: (r' ++ [z]) ++ [p] = (a :: r') ++ z :: [p] := by simp
      rw [this] at h3
      exact (Lk.app.mp h3).1
  have hr : Lk (σ.rm p) (a :: r) := by
    refine hl.rm (fun _ _ => trivial) (fun c hc => ?_) (fun c hc => ?_) hne
    · rw [hpv]
      rcases List.eq_nil_or_concat r with rfl | ⟨r', z, rfl⟩
      · cases hc
      · rw [List.concat_eq_append] at hc hnd ⊢
        have e1 : (a :: (r' ++ [z])).dropLast = a :: r' := by
          show ((a :: r') ++ [z]).dropLast = _
          rw [List.dropLast_concat]
        rw [e1] at hc
        have e2 : (r' ++ [z]).getLastD a = z := by simp
        rw [e2]
        rintro rfl
        have : (a :: r' ++ [c]).Nodup := hnd
        exact (List.nodup_append.mp this).2.2 c hc c (.head _) rfl
    · rw [hnx]
      rintro rfl
      exact (List.nodup_cons.mp hnd).1 hc
  have ez : (σ.rm p).nx (r.getLastD a) = a := by rw [PS.rm_nx hne, hpv, if_pos rfl, hnx]
  have ea : (σ.rm p).pv a = r.getLastD a := by rw [PS.rm_pv, hnx, if_pos rfl, hpv]
  refine ⟨hnd, ?_⟩
  rcases List.eq_nil_or_concat r with rfl | ⟨r', z, rfl⟩
  · exact ⟨⟨ez, ea⟩, trivial⟩
  · rw [List.concat_eq_append] at hr ez ea ⊢
    have e2 : (r' ++ [z]).getLastD a = z := by simp
    rw [e2] at ez ea
    have : a :: (r' ++ [z]) ++ [a] = (a :: r') ++ z :: [a] := by simp
    rw [this]
    exact Lk.app.mpr ⟨hr, ⟨ez, ea⟩, trivial⟩
theorem Ring.rm1 {σ : PS} {p : Nat} (h : Ring σ [p]) : Ring (σ.rm p) [p] ∧ (σ.rm p).pv p = p ∧ (σ.rm p).nx p = p := by
  have hnx : σ.nx p = p := h.nx
  have hpv : σ.pv p = p := h.pv
  have e2 : (σ.rm p).pv p = p := by rw [PS.rm_pv, hnx, if_pos rfl, hpv]
  have e1 : (σ.rm p).nx p = p := by
    have ht : (σ.setPv (σ.nx p) (σ.pv p)).pv p = p := by
      show (if p = σ.nx p then σ.pv p else σ.pv p) = p
      rw [hnx, if_pos rfl, hpv]
    show (if p = (σ.setPv (σ.nx p) (σ.pv p)).pv p then σ.nx p else σ.nx p) = p
    rw [ht, if_pos rfl, hnx]
  exact ⟨⟨h.1, ⟨e1, e2⟩, trivial⟩, e2, e1⟩
theorem Ring.rotR {σ : PS} {a : Nat} {r : List Nat} (h : Ring σ (a :: r)) : Ring σ (rotR (a :: r)) := by
  show Ring σ (r.getLastD a :: (a :: r).dropLast)
  refine Ring.unrot ?_
  have e : (a :: r).dropLast ++ [r.getLastD a] = a :: r := by
    have := List.dropLast_concat_getLast (l := a :: r) (by simp)
    rw [List.getLast_eq_getLastD] at this
    exact this
  rw [e]; exact h
theorem Ring.nodup {σ : PS} {l : List Nat} (h : Ring σ l) : l.Nodup := by
  cases l with
  | nil => exact h.elim
  | cons p r => exact h.1
theorem sq_step (k : Nat) : (k + 1 + 1) * (k + 1 + 1) = (k + 1) * (k + 1) + (2 * k + 3) := by
  simp only [Nat.mul_add, Nat.add_mul]; omega
theorem degL_eq {x y : Nat → Int} {σ : PS} {p : Nat} {r : List Nat} (h : Ring σ (p :: r)) : (eqG x y p (σ.nx p) || decide (areaG x y (σ.pv p) p (σ.nx p) = 0)) = degL x y p r := by
  rw [h.nx, h.pv]; rfl
theorem filter_sim (x y : Nat → Int) : ∀ (n : Nat) (σ : PS) (p : Nat) (r : List Nat) (d e : Nat), Ring σ (p :: r) → (r ++ [p])[d]? = some e → (r.length + 1) * (r.length + 1) + d < n →
    ∃ τ q s, filterF x y n σ p e = some (τ, q) ∧ filterL x y n (p :: r) d = q :: s ∧ Ring τ (q :: s) ∧ s.length ≤ r.length := by
  intro n
  induction n with
  | zero => intro σ p r d e _ _ h; exact absurd h (Nat.not_lt_zero _)
  | succ n ih =>
    intro σ p r d e R he hm
    unfold filterF filterL
    rw [degL_eq R]
    cases hd : degL x y p r with
    | true =>
      simp only [if_true]
      match r, R, he, hm with
      | [], R, he, hm =>
        obtain ⟨R1, e1, e2⟩ := R.rm1
        rw [e1, e2, if_pos rfl]
        exact ⟨_, _, _, rfl, rfl, R1, Nat.le_refl _⟩
      | [z], R, he, hm =>
        have R1 := R.rm
        have hnx : σ.nx p = z := R.nx
        have hpv : σ.pv p = z := R.pv
        have hpz : p ≠ z := fun e => (List.nodup_cons.mp R.nodup).1 (e ▸ .head _)
        have e1 : (σ.rm p).pv p = z := by rw [PS.rm_pv, hnx, if_neg hpz, hpv]
        have e2 : (σ.rm p).nx z = z := R1.nx
        rw [e1, e2, if_pos rfl]
        exact ⟨_, _, _, rfl, rfl, R1, Nat.zero_le _⟩
      | z :: z' :: r', R, he, hm =>
        have R1 := R.rm
        have R2 := R1.rotR
        have hnx : σ.nx p = z := R.nx
        have hpv : σ.pv p = (z' :: r').getLastD z := by rw [R.pv, List.getLastD_cons]
        have hpz : p ≠ z := fun e => (List.nodup_cons.mp R.nodup).1 (e ▸ .head _)
        have e1 : (σ.rm p).pv p = (z' :: r').getLastD z := by rw [PS.rm_pv, hnx, if_neg hpz, hpv]
        have e2 : (σ.rm p).nx ((z' :: r').getLastD z) = z := R2.nx
        have hne : (z' :: r').getLastD z ≠ z := by
          intro e
          rw [List.getLastD_cons] at e
          have : r'.getLastD z' ∈ z' :: r' := by
            have := List.getLast_mem (l := z' :: r') (by simp)
            rw [List.getLast_eq_getLastD] at this
            exact this
          rw [e] at this
          exact (List.nodup_cons.mp R1.nodup).1 this
        rw [e1, e2, if_neg hne]
        have hlen : (z :: z' :: r').dropLast.length = r'.length + 1 := by simp
        obtain ⟨τ, q, s, g1, g2, g3, g4⟩ := ih (σ.rm p) ((z' :: r').getLastD z) (z :: z' :: r').dropLast (r'.length + 1) ((z' :: r').getLastD z) R2 (by rw [List.getElem?_append_right (by rw [hlen]; exact Nat.le_refl _), hlen]; simp) (by
          rw [hlen]
          have := sq_step (r'.length + 1)
          simp only [List.length_cons] at hm
          omega)
        refine ⟨τ, q, s, g1, g2, g3, ?_⟩
        rw [hlen] at g4
        simp only [List.length_cons]; omega
    | false =>
      simp only [Bool.false_eq_true, if_false]
      cases d with
      | zero =>
        have hnx : σ.nx p = e := by
          rw [R.nx]
          cases r with
          | nil => simpa using he
          | cons a r => simpa using he
        rw [if_pos hnx]
        cases r with
        | nil =>
          have : p = e := by simpa using he
          subst this
          exact ⟨_, _, _, rfl, rfl, R, Nat.le_refl _⟩
        | cons a r =>
          have : a = e := by simpa using he
          subst this
          exact ⟨_, _, _, rfl, rfl, R.rot, by simp⟩
      | succ d =>
        cases r with
        | nil => simp at he
        | cons a r =>
          have hnx : σ.nx p = a := R.nx
          have he' : (r ++ [p])[d]? = some e := by simpa using he
          have hae : σ.nx p ≠ e := by
            rw [hnx]
            intro e'
            have := R.rot.nodup
            exact (List.nodup_cons.mp this).1 (e' ▸ List.mem_of_getElem? he')
          rw [if_neg hae, hnx]
          have hd1 : d < (r ++ [p]).length := (List.getElem?_eq_some_iff.mp he').1
          obtain ⟨τ, q, s, g1, g2, g3, g4⟩ := ih σ a (r ++ [p]) d e R.rot (by rw [List.getElem?_append_left hd1]; exact he') (by
            have hl : (r ++ [p]).length = r.length + 1 := by simp
            rw [hl]; simp only [List.length_cons] at hm; omega)
          exact ⟨τ, q, s, g1, g2, g3, by simpa using g4⟩
theorem getLastD_snoc {α : Type} (l : List α) (a b : α) : (l ++ [a]).getLastD b = a := by simp
theorem getLastD_mem {α : Type} (a : α) (l : List α) : l.getLastD a ∈ a :: l := by
  have := List.getLast_mem (l := a :: l) (by simp)
  rw [List.getLast_eq_getLastD] at this
  exact this
theorem earLoop_sim (x y : Nat → Int) (σ : PS) (b c z : Nat) : ∀ (v : List Nat) (pp p n a : Nat), Lk σ (pp :: p :: v ++ [z]) → a = v.getLastD p → (p :: v).Nodup → v.length < n → isEarLoop x y σ a b c n p = some (earL x y a b c pp (p :: v)) := by
  intro v
  induction v with
  | nil =>
    intro pp p n a _ ha _ hn
    obtain ⟨n, rfl⟩ : ∃ k, n = k + 1 := ⟨n - 1, by simp at hn; omega⟩
    have : p = a := ha.symm
    unfold isEarLoop
    rw [if_pos this]
    rfl
  | cons q v ih =>
    intro pp p n a hk ha hd hn
    obtain ⟨n, rfl⟩ : ∃ k, n = k + 1 := ⟨n - 1, by simp at hn; omega⟩
    rw [List.getLastD_cons] at ha
    have hne : p ≠ a := by
      intro e
      exact (List.nodup_cons.mp hd).1 (e ▸ ha ▸ getLastD_mem q v)
    have h1 : σ.pv p = pp := hk.1.2
    have h2 : σ.nx p = q := hk.2.1.1
    unfold isEarLoop
    rw [if_neg hne, h1, h2]
    show _ = some (!blockG x y a b c pp p q && earL x y a b c p (q :: v))
    cases hb : blockG x y a b c pp p q with
    | true => simp
    | false =>
      rw [if_neg (by simp), ih p q n a hk.2 ha (List.nodup_cons.mp hd).2 (by simp only [List.length_cons] at hn; omega)]
      simp
theorem ear_sim (x y : Nat → Int) {σ : PS} {e c b : Nat} {r : List Nat} (R : Ring σ (e :: c :: b :: r)) {f : Nat} (hf : r.length + 1 < f) : isEarF x y σ f e = some (isEarL x y (e :: c :: b :: r)) := by
  have h1 : σ.nx e = c := R.nx
  have h2 : σ.pv e = (b :: r).getLastD c := by rw [R.pv, List.getLastD_cons]
  have h3 : σ.nx c = b := R.rot.nx
  unfold isEarF
  rw [h1, h2, h3]
  show _ = some (!decide (0 ≤ areaG x y ((b :: r).getLastD c) e c) && earL x y ((b :: r).getLastD c) e c c (b :: r))
  by_cases ha : 0 ≤ areaG x y ((b :: r).getLastD c) e c
  · rw [if_pos ha, decide_eq_true ha]; rfl
  · rw [if_neg ha, decide_eq_false ha]
    rw [earLoop_sim x y σ e c e r c b f _ R.2.2 (by rw [List.getLastD_cons]) (List.nodup_cons.mp (List.nodup_cons.mp R.1).2).2 (by omega)]
    simp
theorem locG_two {α : Type} (x y : α → Int) (p q : α) : locG x y q p p p = false := by
  have h1 : areaG x y p q p = 0 := by
    unfold areaG
    rw [show x q - x p = -(x p - x q) by omega, show y q - y p = -(y p - y q) by omega, Int.neg_mul, Int.neg_mul, Int.mul_comm (y p - y q)]
    omega
  have h2 : areaG x y q p p = 0 := by
    unfold areaG
    rw [Int.sub_self, Int.sub_self, Int.mul_zero, Int.mul_zero]; rfl
  unfold locG
  rw [h1, h2]; rfl
theorem cureT_eq (x y : Nat → Int) {σ : PS} {p : Nat} {r : List Nat} (R : Ring σ (p :: r)) : cureT x y σ p = cureTL x y (p :: r) := by
  match r, R with
  | [], R =>
    have h1 : σ.nx p = p := R.nx
    have h2 : σ.pv p = p := R.pv
    unfold cureT
    rw [h1, h2, h1]
    simp [eqG, cureTL]
  | [q], R =>
    have h1 : σ.nx p = q := R.nx
    have h2 : σ.pv p = q := R.pv
    have h3 : σ.nx q = p := R.rot.nx
    have h4 : σ.pv q = p := R.rot.pv
    unfold cureT
    rw [h1, h2, h3, h4, locG_two]
    simp [cureTL]
  | [q, b], R =>
    have h1 : σ.nx p = q := R.nx
    have h2 : σ.pv p = b := R.pv
    have h3 : σ.nx q = b := R.rot.nx
    unfold cureT
    rw [h1, h2, h3]
    simp [eqG, cureTL]
  | q :: b :: c :: r, R =>
    have h1 : σ.nx p = q := R.nx
    have h2 : σ.pv p = r.getLastD c := by rw [R.pv, List.getLastD_cons, List.getLastD_cons, List.getLastD_cons]
    have h3 : σ.nx q = b := R.rot.nx
    have R2 : Ring σ (b :: (c :: r ++ [p] ++ [q])) := R.rot.rot
    have h4 : σ.nx b = c := R2.nx
    have h5 : σ.pv b = q := by rw [R2.pv]; exact getLastD_snoc _ _ _
    have R3 := R.rotR
    have e3 : rotR (p :: q :: b :: c :: r) = r.getLastD c :: (p :: q :: b :: (c :: r).dropLast) := by
      show (q :: b :: c :: r).getLastD p :: (p :: q :: b :: c :: r).dropLast = _
      rw [List.getLastD_cons, List.getLastD_cons, List.getLastD_cons]
      simp
    rw [e3] at R3
    have h6 : σ.nx (r.getLastD c) = p := R3.nx
    have h7 : σ.pv (r.getLastD c) = (c :: r).dropLast.getLastD b := by rw [R3.pv, List.getLastD_cons, List.getLastD_cons, List.getLastD_cons]
    unfold cureT
    rw [h1, h2, h3, h4, h5, h6, h7]
    rfl
theorem cureTL_form {α : Type} {x y : α → Int} {l : List α} (h : cureTL x y l = true) : ∃ p q b c r, l = p :: q :: b :: c :: r := by
  unfold cureTL at h
  split at h
  · exact ⟨_, _, _, _, _, rfl⟩
  · cases h
theorem filter_sim' (x y : Nat → Int) {n : Nat} {σ : PS} {p : Nat} {r : List Nat} (R : Ring σ (p :: r)) (hl : r.length ≤ 9) (hn : 200 < n) :
    ∃ τ q s, filterF x y n σ p p = some (τ, q) ∧ filterL x y n (p :: r) r.length = q :: s ∧ Ring τ (q :: s) ∧ s.length ≤ r.length := by
  refine filter_sim x y n σ p r r.length p R (by simp) ?_
  have : (r.length + 1) * (r.length + 1) ≤ 10 * 10 := Nat.mul_le_mul (by omega) (by omega)
  omega
theorem cure_sim (x y : Nat → Int) (f : Nat) (hf : 200 < f) : ∀ (n : Nat) (σ : PS) (p : Nat) (r : List Nat) (d e : Nat) (ts : List (Nat × Nat × Nat)), Ring σ (p :: r) → (r ++ [p])[d]? = some e → r.length ≤ 9 → (r.length + 1) * (r.length + 1) + d < n →
    ∃ τ q s ts', cureF x y f n σ p e ts = some (τ, q, ts') ∧ cureL x y f n (p :: r) d ts = (q :: s, ts') ∧ Ring τ (q :: s) ∧ s.length ≤ r.length ∧ ts'.length + s.length ≤ ts.length + r.length := by
  intro n
  induction n with
  | zero => intro σ p r d e ts _ _ _ h; exact absurd h (Nat.not_lt_zero _)
  | succ n ih =>
    intro σ p r d e ts R he h9 hm
    unfold cureF cureL
    rw [cureT_eq x y R]
    cases hc : cureTL x y (p :: r) with
    | true =>
      obtain ⟨p', q, b, c, r', e0⟩ := cureTL_form hc
      injection e0 with e1 e2
      subst e1
      subst e2
      simp only [if_true]
      have h1 : σ.nx p = q := R.nx
      have h2 : σ.pv p = (c :: r').getLastD b := by rw [R.pv, List.getLastD_cons, List.getLastD_cons]
      have h3 : σ.nx q = b := R.rot.nx
      have R1 : Ring (σ.rm p) (q :: b :: c :: r') := R.rm
      have hpq : p ≠ q := fun e => (List.nodup_cons.mp R.nodup).1 (e ▸ .head _)
      have hpa : p ≠ σ.pv p := by
        rw [h2, List.getLastD_cons]
        intro e
        exact (List.nodup_cons.mp R.nodup).1 (.tail _ (.tail _ (e ▸ getLastD_mem c r')))
      have h4 : (σ.rm p).nx p = q := by rw [PS.rm_nx (by rw [h1]; exact Ne.symm hpq), if_neg hpa, h1]
      have e2 : rm2 σ p = (σ.rm p).rm q := by unfold rm2; rw [h4]
      have R2 : Ring ((σ.rm p).rm q) (b :: c :: r') := R1.rm
      have h5 : ((σ.rm p).rm q).nx b = c := R2.nx
      have hbc : c ≠ b := fun e => (List.nodup_cons.mp R2.nodup).1 (e ▸ .head _)
      rw [e2, h1, h3, h5, if_neg hbc, h2]
      have R3 : Ring ((σ.rm p).rm q) (c :: (r' ++ [b])) := R2.rot
      have hl : (r' ++ [b]).length = r'.length + 1 := by simp
      obtain ⟨τ, q', s, ts', g1, g2, g3, g4, g5⟩ := ih ((σ.rm p).rm q) c (r' ++ [b]) r'.length b (ts ++ [((c :: r').getLastD b, p, b)]) R3 (by rw [List.getElem?_append_left (by rw [hl]; omega)]; simp) (by rw [hl]; simp only [List.length_cons] at h9; omega) (by
        rw [hl]
        simp only [List.length_cons] at hm
        have := sq_step (r'.length + 1)
        have := sq_step (r'.length + 1 + 1)
        omega)
      refine ⟨τ, q', s, ts', g1, g2, g3, ?_, ?_⟩
      · rw [hl] at g4; simp only [List.length_cons]; omega
      · rw [hl, List.length_append, List.length_singleton] at g5; simp only [List.length_cons]; omega
    | false =>
      simp only [Bool.false_eq_true, if_false]
      have hdt : (p :: r).drop 1 ++ (p :: r).take 1 = r ++ [p] := rfl
      rw [hdt]
      cases d with
      | zero =>
        have hnx : σ.nx p = e := by
          rw [R.nx]
          cases r with
          | nil => simpa using he
          | cons a r => simpa using he
        rw [if_pos hnx]
        obtain ⟨s, es, hs⟩ : ∃ s, r ++ [p] = e :: s ∧ s.length = r.length := by
          cases r with
          | nil => exact ⟨[], by simpa using he, rfl⟩
          | cons a r => exact ⟨r ++ [p], by have : a = e := by simpa using he
                                            rw [this]; rfl, by simp⟩
        have R1 := R.rot
        rw [es] at R1
        obtain ⟨τ, q, s', g1, g2, g3, g4⟩ := filter_sim' x y R1 (by omega) hf
        refine ⟨τ, q, s', ts, ?_, ?_, g3, by omega, by omega⟩
        · unfold cureFin; rw [hnx, g1]
        · dsimp only
          rw [es]
          have : (p :: r).length - 1 = s.length := by simp [hs]
          rw [this, g2]
      | succ d =>
        cases r with
        | nil => simp at he
        | cons a r =>
          have hnx : σ.nx p = a := R.nx
          have he' : (r ++ [p])[d]? = some e := by simpa using he
          have hae : σ.nx p ≠ e := by
            rw [hnx]
            intro e'
            have := R.rot.nodup
            exact (List.nodup_cons.mp this).1 (e' ▸ List.mem_of_getElem? he')
          rw [if_neg hae, hnx]
          have hd1 : d < (r ++ [p]).length := (List.getElem?_eq_some_iff.mp he').1
          have hl : (r ++ [p]).length = r.length + 1 := by simp
          obtain ⟨τ, q, s, ts', g1, g2, g3, g4, g5⟩ := ih σ a (r ++ [p]) d e ts R.rot (by rw [List.getElem?_append_left hd1]; exact he') (by rw [hl]; simp only [List.length_cons] at h9; omega) (by
            rw [hl]; simp only [List.length_cons] at hm; omega)
          exact ⟨τ, q, s, ts', g1, g2, g3, by rw [hl] at g4; exact g4, by rw [hl] at g5; exact g5⟩
theorem linkL_cons {α : Type} (x y : α → Int) (lastL : List α → List (α × α × α) → List (α × α × α)) (n : Nat) (p c b : α) (r : List α) (d : Nat) (ts : List (α × α × α)) :
    linkL x y lastL (n + 1) (p :: c :: b :: r) d ts = if isEarL x y (p :: c :: b :: r) = true then linkL x y lastL n (b :: r ++ [c]) (r.length + 1) (ts ++ [(r.getLastD b, p, c)]) else (match d with
        | 0 => lastL (c :: b :: r ++ [p]) ts
        | d + 1 => linkL x y lastL n (c :: b :: r ++ [p]) d ts) := rfl
theorem link_sim (x y : Nat → Int) (f : Nat) (hf : 200 < f) (last : PS → Nat → List (Nat × Nat × Nat) → Option (List (Nat × Nat × Nat))) (lastL : List Nat → List (Nat × Nat × Nat) → List (Nat × Nat × Nat))
    (hlast : ∀ (σ : PS) (p : Nat) (r : List Nat) (ts : List (Nat × Nat × Nat)), Ring σ (p :: r) → r.length ≤ 9 → last σ p ts = some (lastL (p :: r) ts) ∧ (lastL (p :: r) ts).length ≤ ts.length + r.length) :
    ∀ (n : Nat) (σ : PS) (p : Nat) (r : List Nat) (d e : Nat) (ts : List (Nat × Nat × Nat)), Ring σ (p :: r) → (r ++ [p])[d]? = some e → r.length ≤ 9 → (r.length + 1) * (r.length + 1) + d < n →
    linkG x y f last n σ p e ts = some (linkL x y lastL n (p :: r) d ts) ∧ (linkL x y lastL n (p :: r) d ts).length ≤ ts.length + r.length := by
  intro n
  induction n with
  | zero => intro σ p r d e ts _ _ _ h; exact absurd h (Nat.not_lt_zero _)
  | succ n ih =>
    intro σ p r d e ts R he h9 hm
    unfold linkG
    match r, R, he, h9, hm with
    | [], R, he, h9, hm =>
      have h1 : σ.nx p = p := R.nx
      have h2 : σ.pv p = p := R.pv
      rw [h1, h2, if_pos rfl]
      exact ⟨rfl, by simp [linkL]⟩
    | [c], R, he, h9, hm =>
      have h1 : σ.nx p = c := R.nx
      have h2 : σ.pv p = c := R.pv
      rw [h1, h2, if_pos rfl]
      exact ⟨rfl, by simp [linkL]⟩
    | c :: b :: r, R, he, h9, hm =>
      have h1 : σ.nx p = c := R.nx
      have h2 : σ.pv p = r.getLastD b := by rw [R.pv, List.getLastD_cons, List.getLastD_cons]
      have hne : σ.pv p ≠ σ.nx p := by
        rw [h1, h2]
        intro e
        exact (List.nodup_cons.mp (List.nodup_cons.mp R.nodup).2).1 (e ▸ getLastD_mem b r)
      rw [if_neg hne, ear_sim x y R (by simp only [List.length_cons] at h9; omega)]
      have eL := linkL_cons x y lastL n p c b r d ts
      rw [eL]
      by_cases hb : isEarL x y (p :: c :: b :: r) = true
      · rw [if_pos hb, hb]
        dsimp only
        have R1 : Ring (σ.rm p) (c :: b :: r) := R.rm
        have h3 : (σ.rm p).nx c = b := R1.nx
        have R2 : Ring (σ.rm p) (b :: (r ++ [c])) := R1.rot
        rw [h1, h2, h3]
        have hl : (r ++ [c]).length = r.length + 1 := by simp
        obtain ⟨g1, g2⟩ := ih (σ.rm p) b (r ++ [c]) (r.length + 1) b (ts ++ [(r.getLastD b, p, c)]) R2 (by rw [List.getElem?_append_right (by rw [hl]; exact Nat.le_refl _), hl]; simp) (by rw [hl]; simp only [List.length_cons] at h9; omega) (by
          rw [hl]
          simp only [List.length_cons] at hm
          have := sq_step (r.length + 1)
          omega)
        refine ⟨g1, Nat.le_trans g2 ?_⟩
        rw [hl, List.length_append, List.length_singleton]; simp only [List.length_cons]; omega
      · rw [if_neg hb, show isEarL x y (p :: c :: b :: r) = false by simpa using hb]
        dsimp only
        have hl : (b :: r ++ [p]).length = r.length + 1 + 1 := by simp
        cases d with
        | zero =>
          have : c = e := by simpa using he
          subst this
          rw [if_pos h1, h1]
          obtain ⟨g1, g2⟩ := hlast σ c (b :: r ++ [p]) ts R.rot (by rw [hl]; simp only [List.length_cons] at h9; omega)
          exact ⟨g1, Nat.le_trans g2 (by rw [hl]; simp)⟩
        | succ d =>
          have he' : (b :: r ++ [p])[d]? = some e := by simpa using he
          have hae : σ.nx p ≠ e := by
            rw [h1]
            intro e'
            have := R.rot.nodup
            exact (List.nodup_cons.mp this).1 (e' ▸ List.mem_of_getElem? he')
          rw [if_neg hae, h1]
          have hd1 : d < (b :: r ++ [p]).length := (List.getElem?_eq_some_iff.mp he').1
          obtain ⟨g1, g2⟩ := ih σ c (b :: r ++ [p]) d e ts R.rot (by rw [List.getElem?_append_left hd1]; exact he') (by rw [hl]; simp only [List.length_cons] at h9; omega) (by
            rw [hl]; simp only [List.length_cons] at hm; omega)
          exact ⟨g1, Nat.le_trans g2 (by rw [hl]; simp)⟩
theorem sq_le {k n : Nat} (hk : k ≤ 9) (hn : 200 < n) : (k + 1) * (k + 1) + k < n := by
  have : (k + 1) * (k + 1) ≤ 10 * 10 := Nat.mul_le_mul (by omega) (by omega)
  omega
theorem link_sim' (x y : Nat → Int) (f : Nat) (hf : 200 < f) (last : PS → Nat → List (Nat × Nat × Nat) → Option (List (Nat × Nat × Nat))) (lastL : List Nat → List (Nat × Nat × Nat) → List (Nat × Nat × Nat))
    (hlast : ∀ (σ : PS) (p : Nat) (r : List Nat) (ts : List (Nat × Nat × Nat)), Ring σ (p :: r) → r.length ≤ 9 → last σ p ts = some (lastL (p :: r) ts) ∧ (lastL (p :: r) ts).length ≤ ts.length + r.length)
    {n : Nat} (hn : 200 < n) {σ : PS} {p : Nat} {r : List Nat} (R : Ring σ (p :: r)) (h9 : r.length ≤ 9) (ts : List (Nat × Nat × Nat)) :
    linkG x y f last n σ p p ts = some (linkL x y lastL n (p :: r) r.length ts) ∧ (linkL x y lastL n (p :: r) r.length ts).length ≤ ts.length + r.length :=
  link_sim x y f hf last lastL hlast n σ p r r.length p ts R (by simp) h9 (sq_le h9 hn)
theorem last1_sim (x y : Nat → Int) {f n : Nat} (hf : 200 < f) (hn : 200 < n) (σ : PS) (p : Nat) (r : List Nat) (ts : List (Nat × Nat × Nat)) (R : Ring σ (p :: r)) (h9 : r.length ≤ 9) :
    last1 x y f n σ p ts = some (last1L x y f n (p :: r) ts) ∧ (last1L x y f n (p :: r) ts).length ≤ ts.length + r.length := by
  obtain ⟨τ, q, s, g1, g2, g3, g4⟩ := filter_sim' x y (n := f) R h9 hf
  obtain ⟨τ', q', s', ts', k1, k2, k3, k4, k5⟩ := cure_sim x y f hf f τ q s s.length q ts g3 (by simp) (by omega) (sq_le (by omega) hf)
  obtain ⟨m1, m2⟩ := link_sim' x y f hf (fun _ _ ts => some ts) (fun _ ts => ts) (fun _ _ _ _ _ _ => ⟨rfl, Nat.le_add_right _ _⟩) hn k3 (by omega) ts'
  have e1 : filterL x y f (p :: r) ((p :: r).length - 1) = q :: s := g2
  have e2 : (q :: s).length - 1 = s.length := rfl
  have e3 : (q' :: s').length - 1 = s'.length := rfl
  unfold last1 last1L
  rw [e1, e2, k2, g1]
  dsimp only
  rw [e3, k1]
  refine ⟨m1, Nat.le_trans m2 (by omega)⟩
theorem last0_sim (x y : Nat → Int) {f n : Nat} (hf : 200 < f) (hn : 200 < n) (σ : PS) (p : Nat) (r : List Nat) (ts : List (Nat × Nat × Nat)) (R : Ring σ (p :: r)) (h9 : r.length ≤ 9) :
    last0 x y f n σ p ts = some (last0L x y f n (p :: r) ts) ∧ (last0L x y f n (p :: r) ts).length ≤ ts.length + r.length := by
  obtain ⟨τ, q, s, g1, g2, g3, g4⟩ := filter_sim' x y (n := f) R h9 hf
  obtain ⟨m1, m2⟩ := link_sim' x y f hf (last1 x y f n) (last1L x y f n) (fun σ p r ts R h => last1_sim x y hf hn σ p r ts R h) hn g3 (by omega) ts
  have e1 : filterL x y f (p :: r) ((p :: r).length - 1) = q :: s := g2
  have e2 : (q :: s).length - 1 = s.length := rfl
  unfold last0 last0L
  rw [e1, e2, g1]
  exact ⟨m1, Nat.le_trans m2 (by omega)⟩
theorem ring_sim (x y : Nat → Int) {f : Nat} (hf : 200 < f) {σ : PS} {p : Nat} {r : List Nat} (R : Ring σ (p :: r)) (h9 : r.length ≤ 9) :
    link0 x y f f σ p [] = some (ringT x y f (p :: r)) ∧ (ringT x y f (p :: r)).length ≤ r.length := by
  obtain ⟨m1, m2⟩ := link_sim' x y f hf (last0 x y f f) (last0L x y f f) (fun σ p r ts R h => last0_sim x y hf hf σ p r ts R h) hf R h9 []
  exact ⟨m1, by rw [List.length_nil, Nat.zero_add] at m2; exact m2⟩
end Mine

open PySem PySem.W PyProof.Rows PySem.Calls
set_option Elab.async false
set_option maxRecDepth 100000
namespace Mine
/-! the list program takes no heed of what the nodes are -/
section
variable {α β : Type} {x y : α → Int} {x' y' : β → Int} {φ : α → β} (hx : ∀ a, x' (φ a) = x a) (hy : ∀ a, y' (φ a) = y a)
include hx hy
theorem areaG_map (p q r : α) : areaG x' y' (φ p) (φ q) (φ r) = areaG x y p q r := by unfold areaG; simp only [hx, hy]
theorem eqG_map (p q : α) : eqG x' y' (φ p) (φ q) = eqG x y p q := by unfold eqG; simp only [hx, hy]
theorem onG_map (p q r : α) : onG x' y' (φ p) (φ q) (φ r) = onG x y p q r := by unfold onG; simp only [hx, hy]
theorem interG_map (p q r s : α) : interG x' y' (φ p) (φ q) (φ r) (φ s) = interG x y p q r s := by
  unfold interG; simp only [areaG_map hx hy, onG_map hx hy]
theorem locG_map (p q r s : α) : locG x' y' (φ p) (φ q) (φ r) (φ s) = locG x y p q r s := by
  unfold locG; simp only [areaG_map hx hy]
theorem blockG_map (a b c p q r : α) : blockG x' y' (φ a) (φ b) (φ c) (φ p) (φ q) (φ r) = blockG x y a b c p q r := by
  unfold blockG boxG; simp only [areaG_map hx hy, hx, hy]
omit hx hy in
theorem getLastD_map (a : α) (l : List α) : (l.map φ).getLastD (φ a) = φ (l.getLastD a) := by
  induction l generalizing a with
  | nil => rfl
  | cons b l ih => rw [List.map_cons, List.getLastD_cons, List.getLastD_cons, ih]
omit hx hy in
theorem headD_map (a : α) (l : List α) : (l.map φ).headD (φ a) = φ (l.headD a) := by cases l <;> rfl
theorem earL_map (a b c : α) : ∀ (l : List α) (pp : α), earL x' y' (φ a) (φ b) (φ c) (φ pp) (l.map φ) = earL x y a b c pp l
  | [], _ => rfl
  | [_], _ => rfl
  | p :: q :: r, pp => by
    show (!blockG x' y' (φ a) (φ b) (φ c) (φ pp) (φ p) (φ q) && earL x' y' (φ a) (φ b) (φ c) (φ p) ((q :: r).map φ)) = _
    rw [earL_map a b c (q :: r) p, blockG_map hx hy]; rfl
theorem isEarL_map (l : List α) : isEarL x' y' (l.map φ) = isEarL x y l := by
  match l with
  | [] => rfl
  | [_] => rfl
  | e :: c :: r =>
    show (!decide (0 ≤ areaG x' y' ((r.map φ).getLastD (φ c)) (φ e) (φ c)) && earL x' y' ((r.map φ).getLastD (φ c)) (φ e) (φ c) (φ c) (r.map φ)) = _
    rw [getLastD_map, areaG_map hx hy, earL_map hx hy]; rfl
theorem degL_map (p : α) (r : List α) : degL x' y' (φ p) (r.map φ) = degL x y p r := by
  unfold degL
  rw [headD_map, getLastD_map, eqG_map hx hy, areaG_map hx hy]
omit hx hy in
theorem rotR_map (l : List α) : rotR (l.map φ) = (rotR l).map φ := by
  cases l with
  | nil => rfl
  | cons a r =>
    show (r.map φ).getLastD (φ a) :: ((a :: r).map φ).dropLast = φ (r.getLastD a) :: ((a :: r).dropLast).map φ
    rw [getLastD_map, List.map_dropLast]
theorem filterL_map : ∀ (n : Nat) (l : List α) (d : Nat), filterL x' y' n (l.map φ) d = (filterL x y n l d).map φ := by
  intro n
  induction n with
  | zero => intro l d; rfl
  | succ n ih =>
    intro l d
    cases l with
    | nil => rfl
    | cons p r =>
      rw [List.map_cons]
      unfold filterL
      rw [degL_map hx hy]
      cases degL x y p r with
      | true =>
        simp only [if_true]
        match r with
        | [] => rfl
        | [z] => rfl
        | z :: z' :: r' =>
          show filterL x' y' n (rotR ((z :: z' :: r').map φ)) ((r'.map φ).length + 1) = _
          rw [rotR_map, ih, List.length_map]
      | false =>
        simp only [Bool.false_eq_true, if_false]
        have e : r.map φ ++ [φ p] = (r ++ [p]).map φ := by simp
        rw [e]
        cases d with
        | zero => rfl
        | succ d => exact ih _ _
theorem cureTL_map (l : List α) : cureTL x' y' (l.map φ) = cureTL x y l := by
  match l with
  | [] => rfl
  | [_] => rfl
  | [_, _] => rfl
  | [_, _, _] => rfl
  | p :: q :: b :: c :: r =>
    show (!eqG x' y' ((r.map φ).getLastD (φ c)) (φ b) && (interG x' y' ((r.map φ).getLastD (φ c)) (φ p) (φ q) (φ b) && (locG x' y' ((r.map φ).getLastD (φ c)) (((c :: r).map φ).dropLast.getLastD (φ b)) (φ p) (φ b) && locG x' y' (φ b) (φ q) (φ c) ((r.map φ).getLastD (φ c))))) = _
    rw [List.map_dropLast.symm, getLastD_map, getLastD_map, eqG_map hx hy, interG_map hx hy, locG_map hx hy, locG_map hx hy]; rfl
end
def m3 {α β : Type} (φ : α → β) (t : α × α × α) : β × β × β := (φ t.1, φ t.2.1, φ t.2.2)
section
variable {α β : Type} {x y : α → Int} {x' y' : β → Int} {φ : α → β} (hx : ∀ a, x' (φ a) = x a) (hy : ∀ a, y' (φ a) = y a)
include hx hy
theorem cureL_map (f : Nat) : ∀ (n : Nat) (l : List α) (d : Nat) (ts : List (α × α × α)), cureL x' y' f n (l.map φ) d (ts.map (m3 φ)) = ((cureL x y f n l d ts).1.map φ, (cureL x y f n l d ts).2.map (m3 φ)) := by
  intro n
  induction n with
  | zero => intro l d ts; rfl
  | succ n ih =>
    intro l d ts
    unfold cureL
    rw [cureTL_map hx hy]
    cases hc : cureTL x y l with
    | true =>
      obtain ⟨p, q, b, c, r, rfl⟩ := cureTL_form hc
      simp only [if_true]
      show cureL x' y' f n (((c :: r).map φ) ++ [φ b]) (((c :: r).map φ).length - 1) (ts.map (m3 φ) ++ [(((c :: r).map φ).getLastD (φ b), φ p, φ b)]) = _
      rw [getLastD_map, List.length_map]
      have e1 : (c :: r).map φ ++ [φ b] = ((c :: r) ++ [b]).map φ := by simp
      have e2 : ts.map (m3 φ) ++ [(φ ((c :: r).getLastD b), φ p, φ b)] = (ts ++ [((c :: r).getLastD b, p, b)]).map (m3 φ) := by simp [m3]
      rw [e1, e2, ih]
    | false =>
      simp only [Bool.false_eq_true, if_false]
      have e : (l.map φ).drop 1 ++ (l.map φ).take 1 = (l.drop 1 ++ l.take 1).map φ := by rw [List.map_append, List.map_drop, List.map_take]
      rw [e, List.length_map]
      cases d with
      | zero => dsimp only; rw [filterL_map hx hy]
      | succ d => exact ih _ _ _
theorem linkL_map {lastL : List α → List (α × α × α) → List (α × α × α)} {lastL' : List β → List (β × β × β) → List (β × β × β)} (hl : ∀ l ts, lastL' (l.map φ) (ts.map (m3 φ)) = (lastL l ts).map (m3 φ)) :
    ∀ (n : Nat) (l : List α) (d : Nat) (ts : List (α × α × α)), linkL x' y' lastL' n (l.map φ) d (ts.map (m3 φ)) = (linkL x y lastL n l d ts).map (m3 φ) := by
  intro n
  induction n with
  | zero => intro l d ts; rfl
  | succ n ih =>
    intro l d ts
    match l with
    | [] => rfl
    | [_] => rfl
    | [_, _] => rfl
    | p :: c :: b :: r =>
      show linkL x' y' lastL' (n + 1) (φ p :: φ c :: φ b :: r.map φ) d (ts.map (m3 φ)) = _
      rw [linkL_cons, linkL_cons]
      have e0 : isEarL x' y' (φ p :: φ c :: φ b :: r.map φ) = isEarL x y (p :: c :: b :: r) := isEarL_map hx hy (p :: c :: b :: r)
      rw [e0]
      by_cases hb : isEarL x y (p :: c :: b :: r) = true
      · rw [if_pos hb, if_pos hb, getLastD_map, List.length_map]
        have e1 : φ b :: r.map φ ++ [φ c] = (b :: r ++ [c]).map φ := by simp
        have e2 : ts.map (m3 φ) ++ [(φ (r.getLastD b), φ p, φ c)] = (ts ++ [(r.getLastD b, p, c)]).map (m3 φ) := by simp [m3]
        rw [e1, e2, ih]
      · rw [if_neg hb, if_neg hb]
        have e1 : φ c :: φ b :: r.map φ ++ [φ p] = (c :: b :: r ++ [p]).map φ := by simp
        rw [e1]
        cases d with
        | zero => exact hl _ _
        | succ d => exact ih _ _ _
theorem last1L_map (f n : Nat) (l : List α) (ts : List (α × α × α)) : last1L x' y' f n (l.map φ) (ts.map (m3 φ)) = (last1L x y f n l ts).map (m3 φ) := by
  unfold last1L
  simp only [filterL_map hx hy, cureL_map hx hy, List.length_map]
  exact linkL_map hx hy (fun _ _ => rfl) _ _ _ _
theorem last0L_map (f n : Nat) (l : List α) (ts : List (α × α × α)) : last0L x' y' f n (l.map φ) (ts.map (m3 φ)) = (last0L x y f n l ts).map (m3 φ) := by
  unfold last0L
  simp only [filterL_map hx hy, List.length_map]
  exact linkL_map hx hy (last1L_map hx hy f n) _ _ _ _
theorem ringT_map (f : Nat) (l : List α) : ringT x' y' f (l.map φ) = (ringT x y f l).map (m3 φ) := by
  unfold ringT
  rw [List.length_map]
  exact linkL_map hx hy (last0L_map hx hy f f) f l _ []
end
end Mine

open PySem PySem.W PyProof.Rows PySem.Calls
set_option Elab.async false
set_option maxRecDepth 100000
namespace Mine
/-! what linked_list leaves, as a list -/
theorem ring_lk {m : Nat} : ∀ (k i : Nat), i + (k + 1) = m → Lk (ringPS m) (List.range' i (k + 1) ++ [0]) := by
  intro k
  induction k with
  | zero =>
    intro i h
    have h1 : (ringPS m).nx i = 0 := if_pos (by omega)
    have h2 : (ringPS m).pv 0 = i := by show (if 0 = 0 then m - 1 else 0 - 1) = i; rw [if_pos rfl]; omega
    exact ⟨⟨h1, h2⟩, trivial⟩
  | succ k ih =>
    intro i h
    have h1 : (ringPS m).nx i = i + 1 := if_neg (by omega)
    have h2 : (ringPS m).pv (i + 1) = i := by show (if i + 1 = 0 then m - 1 else i + 1 - 1) = i; rw [if_neg (by omega)]; omega
    exact ⟨⟨h1, h2⟩, ih (i + 1) (by omega)⟩
theorem ring_range {m : Nat} : Ring (ringPS (m + 1)) (List.range (m + 1)) := by
  rw [List.range_eq_range']
  refine ⟨?_, ring_lk m 0 (by omega)⟩
  have := List.nodup_range (n := m + 1)
  rw [List.range_eq_range'] at this
  exact this
def startI (x y : Nat → Int) (m : Nat) : List Nat := if eqG x y (m - 1) 0 = true then List.range (m - 1) else (m - 1) :: List.range (m - 1)
theorem start_ring (x y : Nat → Int) (m : Nat) : ∃ p r, startI x y (m + 2) = p :: r ∧ (startPS x y (m + 2)).2 = p ∧ Ring (startPS x y (m + 2)).1 (p :: r) ∧ r.length ≤ m + 1 := by
  have R0 : Ring (ringPS (m + 2)) (List.range (m + 1) ++ [m + 1]) := by rw [← List.range_succ]; exact ring_range
  have R1 : Ring (ringPS (m + 2)) ((m + 1) :: List.range (m + 1)) := R0.unrot
  have e0 : (ringPS (m + 2)).nx (m + 1) = 0 := if_pos (by omega)
  have ep : (ringPS (m + 2)).pv (m + 1) = m := by show (if m + 1 = 0 then m + 2 - 1 else m + 1 - 1) = m; rw [if_neg (by omega)]; omega
  unfold startI startPS
  rw [show m + 2 - 1 = m + 1 by omega, e0]
  cases h : eqG x y (m + 1) 0 with
  | true =>
    simp only [if_true]
    have er : List.range (m + 1) = 0 :: (List.range m).map Nat.succ := List.range_succ_eq_map
    rw [er] at R1 ⊢
    refine ⟨_, _, rfl, ?_, R1.rm, by simp⟩
    rw [PS.rm_nx (by rw [e0]; omega), ep, if_neg (by omega), e0]
  | false =>
    simp only [Bool.false_eq_true, if_false]
    exact ⟨_, _, rfl, rfl, R1, by simp⟩
theorem earcutN_ring (order : List Pt) (h3 : 3 ≤ order.length) (h10 : order.length ≤ 10) :
    earcutN 1000 order = some (ringT (XO order) (YO order) 1000 (startI (XO order) (YO order) order.length)) ∧ (ringT (XO order) (YO order) 1000 (startI (XO order) (YO order) order.length)).length ≤ 9 := by
  obtain ⟨m, hm⟩ : ∃ m, order.length = m + 2 := ⟨order.length - 2, by omega⟩
  obtain ⟨p, r, e1, e2, R, hr⟩ := start_ring (XO order) (YO order) m
  obtain ⟨k1, k2⟩ := ring_sim (XO order) (YO order) (f := 1000) (by omega) R (by omega)
  unfold earcutN
  rw [hm, e1, e2]
  refine ⟨?_, by omega⟩
  by_cases hc : (startPS (XO order) (YO order) (m + 2)).1.nx p = (startPS (XO order) (YO order) (m + 2)).1.pv p
  · rw [if_pos hc, ← k1]
    unfold link0 linkG
    rw [if_pos hc.symm]
  · rw [if_neg hc]; exact k1
/-- the node's point -/
def labO (order : List Pt) (p0 : Pt) (i : Nat) : Pt := order.getD i p0
theorem atO_lab {order : List Pt} {p0 : Pt} (h : order[0]? = some p0) (i : Nat) : atO order i = some (labO order p0 i) := by
  unfold atO labO
  rw [List.getD_eq_getElem?_getD]
  cases e : order[i]? with
  | some p => rfl
  | none => exact h
theorem XO_lab {order : List Pt} {p0 : Pt} (h : order[0]? = some p0) (i : Nat) : (labO order p0 i).x = XO order i := by unfold XO; rw [atO_lab h]
theorem YO_lab {order : List Pt} {p0 : Pt} (h : order[0]? = some p0) (i : Nat) : (labO order p0 i).y = YO order i := by unfold YO; rw [atO_lab h]
theorem AO_lab {order : List Pt} {p0 : Pt} (h : order[0]? = some p0) (i : Nat) : AO order i = (labO order p0 i).a := by unfold AO; rw [atO_lab h]
def startL : List Pt → List Pt
  | [] => []
  | a :: r => if eqG Pt.x Pt.y (r.getLastD a) a = true then (a :: r).dropLast else r.getLastD a :: (a :: r).dropLast
theorem lab_range (order : List Pt) (p0 : Pt) : ∀ k, k ≤ order.length → (List.range k).map (labO order p0) = order.take k := by
  intro k hk
  apply List.ext_getElem?
  intro i
  by_cases hi : i < k
  · rw [List.getElem?_map, List.getElem?_range hi, List.getElem?_take_of_lt hi]
    have h2 : order[i]? = some order[i] := List.getElem?_eq_getElem (by omega)
    show some (labO order p0 i) = _
    unfold labO
    rw [List.getD_eq_getElem?_getD, h2]; rfl
  · rw [List.getElem?_eq_none (by simp; omega), List.getElem?_eq_none (by simp; omega)]
theorem lab_start {a : Pt} {r : List Pt} : (startI (XO (a :: r)) (YO (a :: r)) (a :: r).length).map (labO (a :: r) a) = startL (a :: r) := by
  have h0 : (a :: r)[0]? = some a := rfl
  have hl : labO (a :: r) a ((a :: r).length - 1) = r.getLastD a := by
    unfold labO
    rw [List.getD_eq_getElem?_getD, ← List.getLast?_eq_getElem?, List.getLast?_eq_some_getLast (by simp), Option.getD_some, List.getLast_eq_getLastD]
  have hz : labO (a :: r) a 0 = a := rfl
  have hd : (List.range ((a :: r).length - 1)).map (labO (a :: r) a) = (a :: r).dropLast := by
    rw [lab_range _ _ _ (by omega), List.dropLast_eq_take]
  have he : eqG (XO (a :: r)) (YO (a :: r)) ((a :: r).length - 1) 0 = eqG Pt.x Pt.y (r.getLastD a) a := by
    unfold eqG
    rw [← XO_lab h0, ← XO_lab h0, ← YO_lab h0, ← YO_lab h0, hl, hz]
  unfold startI
  show _ = if eqG Pt.x Pt.y (r.getLastD a) a = true then (a :: r).dropLast else r.getLastD a :: (a :: r).dropLast
  rw [he]
  cases eqG Pt.x Pt.y (r.getLastD a) a with
  | true => exact hd
  | false =>
    show labO (a :: r) a ((a :: r).length - 1) :: _ = _
    rw [hl, hd]; rfl
/-- the triangles, by address, of a ring of points -/
def triA (l : List Pt) : List T3 := (ringT Pt.x Pt.y 1000 l).map (m3 Pt.a)
theorem earcut_tri (order : List Pt) (h3 : 3 ≤ order.length) (h10 : order.length ≤ 10) : ∃ us, earcutN 1000 order = some us ∧ us.length ≤ 9 ∧ us.map (adrO order) = triA (startL order) := by
  obtain ⟨k1, k2⟩ := earcutN_ring order h3 h10
  refine ⟨_, k1, k2, ?_⟩
  cases order with
  | nil => simp at h3
  | cons a r =>
    have h0 : (a :: r)[0]? = some a := rfl
    unfold triA
    rw [← lab_start, ringT_map (fun i => XO_lab h0 i) (fun i => YO_lab h0 i), List.map_map]
    congr 1
    funext t
    show (AO (a :: r) t.1, AO (a :: r) t.2.1, AO (a :: r) t.2.2) = _
    rw [AO_lab h0, AO_lab h0, AO_lab h0]; rfl
end Mine

open PySem PySem.W PyProof.Rows PySem.Calls
set_option Elab.async false
set_option maxRecDepth 100000
namespace Mine
/-! how often a ring goes about -/
abbrev co (p : Pt) : Int × Int := (p.x, p.y)
def crs (a b : Int × Int) : Int := a.1 * b.2 - b.1 * a.2
def pathZ : List (Int × Int) → Int
  | a :: b :: r => crs a b + pathZ (b :: r)
  | _ => 0
theorem crs_anti (a b : Int × Int) : crs b a = - crs a b := by unfold crs; rw [Int.mul_comm b.1, Int.mul_comm a.1]; omega
theorem crs_self (a : Int × Int) : crs a a = 0 := by unfold crs; omega
theorem pathZ_snoc (a b : Int × Int) : ∀ l, pathZ (l ++ [a, b]) = pathZ (l ++ [a]) + crs a b
  | [] => by show crs a b + 0 = 0 + crs a b; omega
  | [c] => by show crs c a + (crs a b + 0) = crs c a + 0 + crs a b; omega
  | c :: d :: l => by
    have := pathZ_snoc a b (d :: l)
    show crs c d + pathZ (d :: l ++ [a, b]) = crs c d + pathZ (d :: l ++ [a]) + crs a b
    rw [this]; omega
theorem pathZ_rev : ∀ l, pathZ l.reverse = - pathZ l
  | [] => rfl
  | [a] => rfl
  | a :: b :: r => by
    have := pathZ_rev (b :: r)
    have e : (a :: b :: r).reverse = r.reverse ++ [b, a] := by simp
    have e2 : (b :: r).reverse = r.reverse ++ [b] := by simp
    rw [e, pathZ_snoc, ← e2, this, crs_anti]
    show _ = - (crs a b + pathZ (b :: r))
    omega
theorem sa_term (px py qx qy : Int) : (px - qx) * (py + qy) = px * py - qx * qy - (qx * py - px * qy) := by
  rw [Int.sub_mul, Int.mul_add, Int.mul_add]; omega
theorem saLoop_eq : ∀ (pts : List Pt) (q : Pt) (s : Int), saLoop q pts s = s + ((pts.getLastD q).x * (pts.getLastD q).y - q.x * q.y) - pathZ (co q :: pts.map co) := by
  intro pts
  induction pts with
  | nil => intro q s; show s = s + (q.x * q.y - q.x * q.y) - 0; omega
  | cons p r ih =>
    intro q s
    show saLoop p r (s + (p.x - q.x) * (p.y + q.y)) = _
    rw [ih, List.getLastD_cons, sa_term]
    show _ = s + ((r.getLastD p).x * (r.getLastD p).y - q.x * q.y) - (crs (co q) (co p) + pathZ (co p :: r.map co))
    unfold crs
    dsimp only
    omega
theorem sa_eq (a : Pt) (r : List Pt) : saZ (r.getLastD a) (a :: r) = - pathZ (co (r.getLastD a) :: (a :: r).map co) := by
  unfold saZ
  rw [saLoop_eq, List.getLastD_cons]
  omega
theorem twSum_eq (r0 : Int × Int) (t : List (Int × Int)) : ∀ k, k ≤ t.length → twSum (r0 :: t) k = pathZ (r0 :: t.take k) := by
  intro k
  induction k with
  | zero => intro _; rfl
  | succ k ih =>
    intro hk
    obtain ⟨u, h1⟩ : ∃ u, (r0 :: t)[k]? = some u := ⟨_, List.getElem?_eq_getElem (by simp; omega)⟩
    have h2 : (k + 1) % (r0 :: t).length = k + 1 := Nat.mod_eq_of_lt (by simp; omega)
    have h3 : (r0 :: t)[k + 1]? = some t[k] := by rw [List.getElem?_cons_succ]; exact List.getElem?_eq_getElem (by omega)
    show twSum (r0 :: t) k + twTerm (r0 :: t) k = _
    unfold twTerm
    rw [ih (by omega), h2, h1, h3]
    have e1 : r0 :: t.take k = (r0 :: t).take (k + 1) := rfl
    have e2 : r0 :: t.take (k + 1) = (r0 :: t).take k ++ [u, t[k]] := by
      show (r0 :: t).take (k + 1 + 1) = _
      rw [List.take_add_one, h3, List.take_add_one, h1]
      simp
    have e3 : (r0 :: t).take (k + 1) = (r0 :: t).take k ++ [u] := by
      rw [List.take_add_one, h1]; simp
    rw [e2, pathZ_snoc, ← e3, e1]; rfl
theorem tw_eq (r0 : Int × Int) (t : List (Int × Int)) : twZ (r0 :: t) = pathZ (t.getLastD r0 :: r0 :: t) := by
  show twSum (r0 :: t) t.length + twTerm (r0 :: t) t.length = crs (t.getLastD r0) r0 + pathZ (r0 :: t)
  rw [twSum_eq r0 t _ (Nat.le_refl _), List.take_length]
  have h1 : (r0 :: t)[t.length]? = some (t.getLastD r0) := by
    have := List.getLast?_eq_getElem? (l := r0 :: t)
    rw [List.getLast?_eq_some_getLast (by simp), List.getLast_eq_getLastD] at this
    exact this.symm
  have h2 : (t.length + 1) % (r0 :: t).length = 0 := Nat.mod_self _
  unfold twTerm
  rw [h1, h2]
  show _ + (_ * _ - _ * _) = _
  unfold crs
  omega
/-- the ring's turn -/
def turnZ (l : List (Int × Int)) : Int := match l with
  | [] => 0
  | a :: r => pathZ (r.getLastD a :: a :: r)
theorem map_last (a : Pt) (r : List Pt) : (r.map co).getLastD (co a) = co (r.getLastD a) := getLastD_map a r
theorem turn_tw (pts : List Pt) (rs : List (Int × Int)) (h : pts.map co = rs) (h0 : pts ≠ []) : twZ rs = turnZ (pts.map co) := by
  cases pts with
  | nil => exact absurd rfl h0
  | cons a r => rw [← h, List.map_cons, tw_eq]; rfl
theorem turn_sa (a : Pt) (r : List Pt) : saZ (r.getLastD a) (a :: r) = - turnZ ((a :: r).map co) := by
  rw [sa_eq, ← map_last]; rfl
theorem turn_snoc (a : Int × Int) (r : List (Int × Int)) : turnZ (a :: r) = pathZ (a :: r ++ [a]) := by
  show pathZ (r.getLastD a :: a :: r) = _
  rcases List.eq_nil_or_concat r with rfl | ⟨u, z, rfl⟩
  · rfl
  · rw [List.concat_eq_append, getLastD_snoc]
    have e : a :: (u ++ [z]) ++ [a] = (a :: u) ++ [z, a] := by simp
    rw [e, pathZ_snoc]
    show crs z a + pathZ (a :: (u ++ [z])) = pathZ (a :: u ++ [z]) + crs z a
    rw [List.cons_append]; omega
theorem turn_rot (a : Int × Int) (r : List (Int × Int)) : turnZ (r ++ [a]) = turnZ (a :: r) := by
  cases r with
  | nil => rfl
  | cons b r =>
    rw [turn_snoc]
    show pathZ ((r ++ [a]).getLastD b :: b :: (r ++ [a])) = _
    rw [getLastD_snoc]; rfl
theorem turn_rev (l : List (Int × Int)) : turnZ l.reverse = - turnZ l := by
  cases l with
  | nil => rfl
  | cons a r =>
    rw [turn_snoc, ← pathZ_rev]
    have e : (a :: r ++ [a]).reverse = a :: (r.reverse ++ [a]) := by simp
    rw [e, List.reverse_cons, turn_rot]
    show pathZ (r.reverse.getLastD a :: a :: r.reverse) = _
    have := turn_snoc a r.reverse
    exact this
theorem turn_closed (a : Int × Int) (r : List (Int × Int)) : turnZ (a :: r ++ [a]) = turnZ (a :: r) := by
  rw [turn_snoc a r]
  show pathZ ((r ++ [a]).getLastD a :: a :: (r ++ [a])) = _
  rw [getLastD_snoc]
  show crs a a + pathZ (a :: (r ++ [a])) = _
  rw [crs_self, List.cons_append]; omega
theorem order_eq {pts : List Pt} {last : Pt} (h : pts.getLast? = some last) : orderOf last pts = if 0 < turnZ (pts.map co) then pts else pts.reverse := by
  cases pts with
  | nil => cases h
  | cons a r =>
    rw [List.getLast?_eq_some_getLast (by simp), List.getLast_eq_getLastD] at h
    cases h
    unfold orderOf
    have e : (a :: r).getLastD a = r.getLastD a := List.getLastD_cons
    have := turn_sa a r
    first | rw [this] | (rw [e, this])
    by_cases c : 0 < turnZ ((a :: r).map co)
    · rw [if_pos c, if_pos (by omega)]
    · rw [if_neg c, if_neg (by omega)]
end Mine

open PySem PySem.W PyProof.Rows PySem.Calls
set_option Elab.async false
set_option maxRecDepth 100000
namespace Mine
/-! corners on a curve that bends one way -/
def cutL {α : Type} : Nat → List α → List (α × α × α)
  | n + 1, e :: c :: b :: r => (r.getLastD b, e, c) :: cutL n (b :: r ++ [c])
  | _, _ => []
theorem cutL_map {α β : Type} (φ : α → β) : ∀ (n : Nat) (l : List α), cutL n (l.map φ) = (cutL n l).map (m3 φ) := by
  intro n
  induction n with
  | zero => intro l; rfl
  | succ n ih =>
    intro l
    match l with
    | [] => rfl
    | [_] => rfl
    | [_, _] => rfl
    | e :: c :: b :: r =>
      show ((r.map φ).getLastD (φ b), φ e, φ c) :: cutL n (φ b :: r.map φ ++ [φ c]) = _
      have e1 : φ b :: r.map φ ++ [φ c] = (b :: r ++ [c]).map φ := by simp
      rw [getLastD_map, e1, ih]; rfl
theorem cutL_fuel {α : Type} : ∀ (n m : Nat) (l : List α), l.length ≤ n → l.length ≤ m → cutL n l = cutL m l := by
  intro n
  induction n with
  | zero => intro m l h1 _; have : l = [] := List.eq_nil_of_length_eq_zero (by omega); subst this; cases m <;> rfl
  | succ n ih =>
    intro m l h1 h2
    match l, h1, h2 with
    | [], _, _ => cases m <;> rfl
    | [_], _, _ => cases m <;> rfl
    | [_, _], _, _ => cases m <;> rfl
    | e :: c :: b :: r, h1, h2 =>
      obtain ⟨m, rfl⟩ : ∃ k, m = k + 1 := ⟨m - 1, by simp at h2; omega⟩
      show _ :: cutL n (b :: r ++ [c]) = _ :: cutL m (b :: r ++ [c])
      rw [ih m (b :: r ++ [c]) (by simp at h1 ⊢; omega) (by simp at h2 ⊢; omega)]
def cyc (a b c : Int) : Prop := (a < b ∧ b < c) ∨ (b < c ∧ c < a) ∨ (c < a ∧ a < b)
theorem cyc_rot {a b c : Int} (h : cyc a b c) : cyc b c a := by unfold cyc at *; omega
def CycInc {α : Type} (t : α → Int) (l : List α) : Prop := ∀ a b c, [a, b, c].Sublist l → cyc (t a) (t b) (t c)
theorem CycInc.sub {α : Type} {t : α → Int} {l l' : List α} (h : CycInc t l) (s : l'.Sublist l) : CycInc t l' := fun a b c hs => h a b c (hs.trans s)
theorem CycInc.rot {α : Type} {t : α → Int} {p : α} {r : List α} (h : CycInc t (p :: r)) : CycInc t (r ++ [p]) := by
  intro a b c hs
  obtain ⟨l1, l2, e, s1, s2⟩ := List.sublist_append_iff.mp hs
  have hl2 : l2 = [] ∨ l2 = [p] := by
    cases s2 with
    | cons _ s => exact .inl (List.sublist_nil.mp s)
    | cons_cons _ s => exact .inr (by rw [List.sublist_nil.mp s])
  rcases hl2 with rfl | rfl
  · rw [List.append_nil] at e
    rw [← e] at s1
    exact h a b c (s1.cons _)
  · have e2 : l1 ++ [p] = [a, b] ++ [c] := e.symm
    obtain ⟨rfl, e3⟩ := List.append_inj' e2 rfl
    cases e3
    exact cyc_rot (h p a b (s1.cons_cons _))
theorem sign_area {a e c : Int} (h : cyc e c a) : (e - a) * (c - e) * (a - c) < 0 := by
  rcases h with ⟨h1, h2⟩ | ⟨h1, h2⟩ | ⟨h1, h2⟩
  · have := Int.mul_pos (Int.mul_pos (show 0 < a - e by omega) (show 0 < c - e by omega)) (show 0 < a - c by omega)
    have e9 : (e - a) * (c - e) * (a - c) = - ((a - e) * (c - e) * (a - c)) := by grind
    omega
  · have := Int.mul_pos (Int.mul_pos (show 0 < e - a by omega) (show 0 < e - c by omega)) (show 0 < a - c by omega)
    have e9 : (e - a) * (c - e) * (a - c) = - ((e - a) * (e - c) * (a - c)) := by grind
    omega
  · have := Int.mul_pos (Int.mul_pos (show 0 < e - a by omega) (show 0 < c - e by omega)) (show 0 < c - a by omega)
    have e9 : (e - a) * (c - e) * (a - c) = - ((e - a) * (c - e) * (c - a)) := by grind
    omega
theorem sign_pit {c p a : Int} (h : cyc c p a) : (c - p) * (a - p) * (a - c) < 0 := by
  rcases h with ⟨h1, h2⟩ | ⟨h1, h2⟩ | ⟨h1, h2⟩
  · have := Int.mul_pos (Int.mul_pos (show 0 < p - c by omega) (show 0 < a - p by omega)) (show 0 < a - c by omega)
    have e9 : (c - p) * (a - p) * (a - c) = - ((p - c) * (a - p) * (a - c)) := by grind
    omega
  · have := Int.mul_pos (Int.mul_pos (show 0 < c - p by omega) (show 0 < a - p by omega)) (show 0 < c - a by omega)
    have e9 : (c - p) * (a - p) * (a - c) = - ((c - p) * (a - p) * (c - a)) := by grind
    omega
  · have := Int.mul_pos (Int.mul_pos (show 0 < p - c by omega) (show 0 < p - a by omega)) (show 0 < c - a by omega)
    have e9 : (c - p) * (a - p) * (a - c) = - ((p - c) * (p - a) * (c - a)) := by grind
    omega
section
variable {α : Type} {x y t : α → Int} {W : Int}
/-- on the curve -/
def OnC (x y t : α → Int) (W : Int) (l : List α) : Prop := ∀ a ∈ l, x a = t a + W * t a * t a ∧ y a = t a * t a
theorem OnC.sub {l l' : List α} (h : OnC x y t W l) (s : ∀ a ∈ l', a ∈ l) : OnC x y t W l' := fun a ha => h a (s a ha)
theorem earL_all {a b c : α} : ∀ (l : List α) (pp : α), (∀ p ∈ l.dropLast, ∀ pp q, blockG x y a b c pp p q = false) → earL x y a b c pp l = true
  | [], _, _ => rfl
  | [_], _, _ => rfl
  | p :: q :: r, pp, h => by
    show (!blockG x y a b c pp p q && earL x y a b c p (q :: r)) = true
    rw [h p (by simp) pp q, earL_all (q :: r) p (fun p' hp' => h p' (by simp only [List.dropLast_cons_cons]; exact .tail _ hp'))]
    rfl
theorem ear_curve {e c b : α} {r : List α} (hC : CycInc t (e :: c :: b :: r)) (hO : OnC x y t W (e :: c :: b :: r)) : isEarL x y (e :: c :: b :: r) = true := by
  have ea : (b :: r).getLastD c = r.getLastD b := List.getLastD_cons
  have hm := getLastD_mem b r
  have hA := hO (r.getLastD b) (.tail _ (.tail _ hm))
  have hE := hO e (.head _)
  have hCc := hO c (.tail _ (.head _))
  have h1 : areaG x y (r.getLastD b) e c < 0 := by
    have := sign_area (hC e c (r.getLastD b) (((List.singleton_sublist.mpr hm).cons_cons _).cons_cons _))
    unfold areaG
    rw [hA.1, hA.2, hE.1, hE.2, hCc.1, hCc.2]
    generalize t (r.getLastD b) = a' at *
    generalize t e = e' at *
    generalize t c = c' at *
    have e9 : (e' * e' - a' * a') * (c' + W * c' * c' - (e' + W * e' * e')) - (e' + W * e' * e' - (a' + W * a' * a')) * (c' * c' - e' * e') = (e' - a') * (c' - e') * (a' - c') := by grind
    omega
  show (!decide (0 ≤ areaG x y ((b :: r).getLastD c) e c) && earL x y ((b :: r).getLastD c) e c c (b :: r)) = true
  rw [ea, decide_eq_false (by omega), earL_all (b :: r) c]
  · rfl
  · intro p hp pp q
    have hs : [p, r.getLastD b].Sublist (b :: r) := by
      have e0 : (b :: r).dropLast ++ [r.getLastD b] = b :: r := by
        have := List.dropLast_concat_getLast (l := b :: r) (by simp)
        rw [List.getLast_eq_getLastD] at this
        exact this
      have h2 : ([p] ++ [r.getLastD b]).Sublist ((b :: r).dropLast ++ [r.getLastD b]) := (List.singleton_sublist.mpr hp).append (List.Sublist.refl _)
      rw [e0] at h2
      exact h2
    have hP := hO p (.tail _ (.tail _ ((List.dropLast_sublist _).subset hp)))
    have := sign_pit (hC c p (r.getLastD b) ((hs.cons_cons c).cons e))
    have h3 : ¬ ((x (r.getLastD b) - x p) * (y c - y p) ≤ (x c - x p) * (y (r.getLastD b) - y p)) := by
      rw [hA.1, hA.2, hP.1, hP.2, hCc.1, hCc.2]
      generalize t (r.getLastD b) = a' at *
      generalize t p = p' at *
      generalize t c = c' at *
      have e9 : (c' + W * c' * c' - (p' + W * p' * p')) * (a' * a' - p' * p') - (a' + W * a' * a' - (p' + W * p' * p')) * (c' * c' - p' * p') = (c' - p') * (a' - p') * (a' - c') := by grind
      omega
    unfold blockG pitZ
    rw [decide_eq_false h3, Bool.false_and, Bool.false_and, Bool.and_false]
theorem link_cut (lastL : List α → List (α × α × α) → List (α × α × α)) : ∀ (n : Nat) (l : List α) (d : Nat) (ts : List (α × α × α)), CycInc t l → OnC x y t W l → linkL x y lastL n l d ts = ts ++ cutL n l := by
  intro n
  induction n with
  | zero => intro l d ts _ _; show ts = ts ++ []; simp
  | succ n ih =>
    intro l d ts hC hO
    match l, hC, hO with
    | [], _, _ => show ts = ts ++ []; simp
    | [_], _, _ => show ts = ts ++ []; simp
    | [_, _], _, _ => show ts = ts ++ []; simp
    | e :: c :: b :: r, hC, hO =>
      rw [linkL_cons, if_pos (ear_curve hC hO)]
      have hC2 : CycInc t (c :: b :: r) := hC.sub (List.sublist_cons_self _ _)
      rw [ih _ _ _ hC2.rot (hO.sub fun a ha => by
        rcases List.mem_append.mp ha with ha | ha
        · exact .tail _ (.tail _ ha)
        · rw [List.mem_singleton.mp ha]; exact .tail _ (.head _))]
      show _ = ts ++ (_ :: cutL n (b :: r ++ [c]))
      simp
theorem ring_cut {f : Nat} {l : List α} (hC : CycInc t l) (hO : OnC x y t W l) : ringT x y f l = cutL f l := by
  unfold ringT
  rw [link_cut _ f l _ [] hC hO]; rfl
end
theorem halved_cut : ∀ (n : Nat) (l : List Addr) (k : Nat), k < l.length → halvedF n l k = cutL n (l.drop k ++ l.take k) := by
  intro n
  induction n with
  | zero => intro l k _; rfl
  | succ n ih =>
    intro l k hk
    have hR : (l.drop k ++ l.take k).length = l.length := by simp; omega
    have rget : ∀ i, i < l.length → (l.drop k ++ l.take k)[i]? = l[(k + i) % l.length]? := by
      intro i hi
      by_cases h : i < l.length - k
      · rw [List.getElem?_append_left (by simp; omega), List.getElem?_drop, Nat.mod_eq_of_lt (by omega)]
      · rw [List.getElem?_append_right (by simp; omega), List.length_drop, List.getElem?_take_of_lt (by omega)]
        have : (k + i) % l.length = i - (l.length - k) := by
          rw [Nat.mod_eq_sub_mod (by omega), Nat.mod_eq_of_lt (by omega)]; omega
        rw [this]
    unfold halvedF
    by_cases h2 : 2 < l.length
    · rw [if_pos h2]
      have hsp : l.drop k = l[k] :: l.drop (k + 1) := List.drop_eq_getElem_cons hk
      obtain ⟨c, b, r, hcb⟩ : ∃ c b r, l.drop (k + 1) ++ l.take k = c :: b :: r := by
        have hl : (l.drop (k + 1) ++ l.take k).length = l.length - 1 := by simp; omega
        match hh : l.drop (k + 1) ++ l.take k with
        | [] => rw [hh] at hl; simp at hl; omega
        | [_] => rw [hh] at hl; simp at hl; omega
        | c :: b :: r => exact ⟨c, b, r, rfl⟩
      have eR : l.drop k ++ l.take k = l[k] :: c :: b :: r := by rw [hsp, List.cons_append, hcb]
      rw [eR] at rget hR ⊢
      have g1 : l.getD ((k + 1) % l.length) 0 = c := by
        have := rget 1 (by omega)
        rw [List.getD_eq_getElem?_getD, ← this]; rfl
      have g0 : l.getD k 0 = l[k] := by rw [List.getD_eq_getElem?_getD, List.getElem?_eq_getElem hk]; rfl
      have g2 : l.getD ((k + l.length - 1) % l.length) 0 = r.getLastD b := by
        have := rget (l.length - 1) (by omega)
        rw [show k + l.length - 1 = k + (l.length - 1) by omega, List.getD_eq_getElem?_getD, ← this, ← hR, ← List.getLast?_eq_getElem?, List.getLast?_eq_some_getLast (by simp), List.getLast_eq_getLastD]
        rw [List.getLastD_cons, List.getLastD_cons]; rfl
      rw [g0, g1, g2]
      show _ = _ :: cutL n (b :: r ++ [c])
      have hE : l.eraseIdx k = l.take k ++ l.drop (k + 1) := List.eraseIdx_eq_take_drop_succ ..
      have hT : (l.take k).length = k := by simp; omega
      have hD : (l.drop (k + 1)).length = l.length - (k + 1) := by simp
      have hEl : (l.eraseIdx k).length = l.length - 1 := by rw [List.length_eraseIdx, if_pos hk]
      have key : (l.eraseIdx k).drop ((k + 1) % (l.length - 1)) ++ (l.eraseIdx k).take ((k + 1) % (l.length - 1)) = b :: r ++ [c] := by
        rw [hE]
        generalize l.take k = T at *
        match hDD : l.drop (k + 1) with
        | [] =>
          rw [hDD] at hcb hD
          have hk2 : k + 1 = l.length := by simp at hD; omega
          have : (k + 1) % (l.length - 1) = 1 := by rw [hk2, Nat.mod_eq_sub_mod (by omega), Nat.mod_eq_of_lt (by omega)]; omega
          rw [this, List.append_nil]
          rw [List.nil_append] at hcb
          rw [hcb]; rfl
        | [z] =>
          rw [hDD] at hcb hD
          have hk2 : k + 1 = l.length - 1 := by simp at hD; omega
          rw [hk2, Nat.mod_self]
          injection hcb with e1 e2
          have e2' : T = b :: r := e2
          rw [e1, e2']; simp
        | z :: z' :: D =>
          rw [hDD] at hcb hD
          have hk2 : (k + 1) % (l.length - 1) = k + 1 := Nat.mod_eq_of_lt (by simp at hD; omega)
          rw [hk2]
          injection hcb with e1 e2
          have e3 : T ++ z :: z' :: D = (T ++ [z]) ++ (z' :: D) := by simp
          have e4 : (T ++ [z]).length = k + 1 := by simp [hT]
          rw [e3, ← e4, List.drop_left, List.take_left, e1, ← List.append_assoc]
          have : z' :: D ++ T = b :: r := e2
          rw [this]
      rw [ih _ _ (halved_at h2), key]
    · rw [if_neg h2]
      match hh : l.drop k ++ l.take k with
      | [] => rfl
      | [_] => rfl
      | [_, _] => rfl
      | _ :: _ :: _ :: _ => rw [hh] at hR; simp at hR; omega
theorem cyc_range (n : Nat) : CycInc (fun i : Nat => (i : Int)) (List.range n) := by
  intro a b c hs
  have := List.Pairwise.sublist hs List.pairwise_lt_range
  simp at this
  exact .inl ⟨by show (a : Int) < b; omega, by show (b : Int) < c; omega⟩
theorem CycInc.unrot {α : Type} {t : α → Int} {z : α} {r : List α} (h : CycInc t (r ++ [z])) : CycInc t (z :: r) := by
  intro a b c hs
  cases hs with
  | cons _ s => exact h a b c (s.trans (List.sublist_append_left _ _))
  | cons_cons _ s => exact cyc_rot (cyc_rot (h b c z (s.append (List.Sublist.refl [z]))))
/-- the corners on the curve -/
def crow (W : Int) (k : Nat) : Int × Int := ((k : Int) + W * (k : Int) * (k : Int), (k : Int) * (k : Int))
theorem turn_curve (W : Int) (n : Nat) (h3 : 3 ≤ n) (h9 : n ≤ 9) : 0 < turnZ ((List.range n).map (crow W)) := by
  have : n = 3 ∨ n = 4 ∨ n = 5 ∨ n = 6 ∨ n = 7 ∨ n = 8 ∨ n = 9 := by omega
  rcases this with rfl | rfl | rfl | rfl | rfl | rfl | rfl <;>
  · simp [List.range_succ, turnZ, pathZ, crs, crow]
    omega
theorem tri_curve (L : List Pt) (p0 : Pt) (W : Int) (hc : L.map co = (List.range L.length).map (crow W)) (idx : List Nat) (hC : CycInc (fun i : Nat => (i : Int)) idx) (hlt : ∀ i ∈ idx, i < L.length) :
    triA (idx.map (labO L p0)) = cutL 1000 ((idx.map (labO L p0)).map (·.a)) := by
  have hO : OnC (fun i => (labO L p0 i).x) (fun i => (labO L p0 i).y) (fun i : Nat => (i : Int)) W idx := by
    intro i hi
    have hl := hlt i hi
    have e1 : (L.map co)[i]? = some (crow W i) := by rw [hc, List.getElem?_map, List.getElem?_range hl]; rfl
    have e2 : (L.map co)[i]? = some (co (labO L p0 i)) := by
      rw [List.getElem?_map, List.getElem?_eq_getElem hl]
      unfold labO
      rw [List.getD_eq_getElem?_getD, List.getElem?_eq_getElem hl]; rfl
    have e3 := Option.some.inj (e2.symm.trans e1)
    exact ⟨congrArg Prod.fst e3, congrArg Prod.snd e3⟩
  unfold triA
  rw [ringT_map (x := fun i => (labO L p0 i).x) (y := fun i => (labO L p0 i).y) (fun _ => rfl) (fun _ => rfl), ring_cut hC hO, ← cutL_map, ← cutL_map]
end Mine

open PySem PySem.W PyProof.Rows PySem.Calls
set_option Elab.async false
set_option maxRecDepth 100000
namespace Mine
open PySem.Builtin.Int (intBits)
/-- what earcut tells -/
def earT (pts : List Pt) : List T3 := match pts.getLast? with
  | none => []
  | some last => match earcutN 1000 (orderOf last pts) with
    | some us => us.map (adrO (orderOf last pts))
    | none => []
/-- the points of rows -/
def PtsOf (pts : List Pt) (rs : List (Int × Int)) : Prop := pts.map (fun p => (p.x, p.y)) = rs
def Apart (pts : List Pt) : Prop := (pts.map (·.a)).Nodup
theorem pure_total (order : List Pt) (h3 : 3 ≤ order.length) (h10 : order.length ≤ 10) : ∃ us, earcutN 1000 order = some us ∧ us.length ≤ 1000 := by
  obtain ⟨us, h1, h2, _⟩ := earcut_tri order h3 h10
  exact ⟨us, h1, by omega⟩
theorem earT_tri {pts : List Pt} (h3 : 3 ≤ pts.length) (h10 : pts.length ≤ 10) : earT pts = triA (startL (if 0 < turnZ (pts.map co) then pts else pts.reverse)) := by
  have hne : pts ≠ [] := fun e => by rw [e] at h3; exact absurd h3 (by decide)
  have e := List.getLast?_eq_some_getLast hne
  obtain ⟨us, h1, _, h2⟩ := earcut_tri (orderOf (pts.getLast hne) pts) (by unfold orderOf; split <;> (try rw [List.length_reverse]) <;> omega) (by unfold orderOf; split <;> (try rw [List.length_reverse]) <;> omega)
  unfold earT
  rw [e]
  dsimp only
  rw [h1]
  dsimp only
  rw [h2, order_eq e]
theorem pure_rev (pts : List Pt) (rs : List (Int × Int)) (hc : PtsOf pts rs) (h3 : 3 ≤ pts.length) (h10 : pts.length ≤ 10) (ht : twZ rs ≠ 0) : earT pts.reverse = earT pts := by
  have hne : pts ≠ [] := fun e => by rw [e] at h3; exact absurd h3 (by decide)
  rw [turn_tw pts rs hc hne] at ht
  rw [earT_tri h3 h10, earT_tri (by simpa using h3) (by simpa using h10), List.map_reverse, turn_rev, List.reverse_reverse]
  by_cases c : 0 < turnZ (pts.map co)
  · rw [if_pos c, if_neg (by omega)]
  · rw [if_neg c, if_pos (by omega)]
theorem eq_co {p q : Pt} : eqG Pt.x Pt.y p q = true ↔ co p = co q := by
  unfold eqG
  simp [Prod.ext_iff]
theorem startL_eq {a z : Pt} {r : List Pt} (h : co z = co a) : startL (a :: r ++ [z]) = a :: r := by
  show (if eqG Pt.x Pt.y ((r ++ [z]).getLastD a) a = true then (a :: r ++ [z]).dropLast else (r ++ [z]).getLastD a :: (a :: r ++ [z]).dropLast) = _
  rw [getLastD_snoc, if_pos (eq_co.mpr h), List.dropLast_concat]
theorem startL_ne {a z : Pt} {r : List Pt} (h : co z ≠ co a) : startL (a :: r ++ [z]) = z :: a :: r := by
  show (if eqG Pt.x Pt.y ((r ++ [z]).getLastD a) a = true then (a :: r ++ [z]).dropLast else (r ++ [z]).getLastD a :: (a :: r ++ [z]).dropLast) = _
  rw [getLastD_snoc, if_neg (fun e => h (eq_co.mp e)), List.dropLast_concat]
theorem pure_left (p q : Pt) (r : List Pt) (rs : List (Int × Int)) (hc : PtsOf (p :: r) rs) (_ha : Apart (p :: r)) (hq : q.x = p.x ∧ q.y = p.y) (h3 : 3 ≤ (p :: r).length) (h10 : (p :: r).length ≤ 9) (hn : rs[0]? ≠ rs[1]?) (_hl : rs[0]? ≠ rs.getLast?) (ht : 0 < twZ rs) :
  earT ((p :: r) ++ [q]) = earT (r ++ [p]) := by
  have hco : co q = co p := Prod.ext hq.1 hq.2
  rw [turn_tw (p :: r) rs hc (by simp)] at ht
  have l1 : ((p :: r) ++ [q]).length = (p :: r).length + 1 := by simp
  have l2 : (r ++ [p]).length = (p :: r).length := by simp
  rw [earT_tri (by omega) (by omega), earT_tri (by omega) (by omega)]
  have t1 : turnZ (((p :: r) ++ [q]).map co) = turnZ ((p :: r).map co) := by
    rw [List.map_append, List.map_cons, List.map_singleton, hco]; exact turn_closed _ _
  have t2 : turnZ ((r ++ [p]).map co) = turnZ ((p :: r).map co) := by
    rw [List.map_append, List.map_singleton, turn_rot]; rfl
  rw [t1, t2, if_pos ht, if_pos ht, startL_eq hco]
  cases r with
  | nil => simp at h3
  | cons b r =>
    have : co p ≠ co b := by
      intro e
      apply hn
      rw [← hc]
      show some (co p) = some (co b)
      rw [e]
    rw [startL_ne this]
theorem swap_tri (p q : Pt) (s : List Pt) (ha : ∀ u ∈ s, u.a ≠ p.a) (hco : co q = co p) : triA (q :: s) = (triA (p :: s)).map (swapT p.a q.a) := by
  let f : Nat → Pt := fun i => (p :: s).getD i p
  let g : Nat → Pt := fun i => (q :: s).getD i q
  have e1 : (List.range (p :: s).length).map f = p :: s := by
    have := lab_range (p :: s) p _ (Nat.le_refl _)
    rw [List.take_length] at this; exact this
  have e2 : (List.range (q :: s).length).map g = q :: s := by
    have := lab_range (q :: s) q _ (Nat.le_refl _)
    rw [List.take_length] at this; exact this
  have hfg : ∀ i, co (f i) = co (g i) ∧ (g i).a = swapA p.a q.a (f i).a := by
    intro i
    show co ((p :: s).getD i p) = co ((q :: s).getD i q) ∧ ((q :: s).getD i q).a = swapA p.a q.a ((p :: s).getD i p).a
    cases i with
    | zero => exact ⟨hco.symm, by show q.a = swapA p.a q.a p.a; unfold swapA; rw [if_pos rfl]⟩
    | succ i =>
      rw [List.getD_eq_getElem?_getD, List.getD_eq_getElem?_getD, List.getElem?_cons_succ, List.getElem?_cons_succ]
      cases e : s[i]? with
      | none => exact ⟨hco.symm, by show q.a = swapA p.a q.a p.a; unfold swapA; rw [if_pos rfl]⟩
      | some u =>
        refine ⟨rfl, ?_⟩
        show u.a = swapA p.a q.a u.a
        unfold swapA
        rw [if_neg (ha u (List.mem_of_getElem? e))]
  have hx : ∀ i, (g i).x = (f i).x := fun i => congrArg Prod.fst (hfg i).1.symm
  have hy : ∀ i, (g i).y = (f i).y := fun i => congrArg Prod.snd (hfg i).1.symm
  have k1 : ringT Pt.x Pt.y 1000 (p :: s) = (ringT (fun i => (f i).x) (fun i => (f i).y) 1000 (List.range (p :: s).length)).map (m3 f) := by
    rw [← ringT_map (x' := Pt.x) (y' := Pt.y) (φ := f) (fun _ => rfl) (fun _ => rfl), e1]
  have k2 : ringT Pt.x Pt.y 1000 (q :: s) = (ringT (fun i => (f i).x) (fun i => (f i).y) 1000 (List.range (p :: s).length)).map (m3 g) := by
    rw [← ringT_map (x' := Pt.x) (y' := Pt.y) (φ := g) hx hy]
    have : (p :: s).length = (q :: s).length := rfl
    rw [this, e2]
  unfold triA
  rw [k1, k2, List.map_map, List.map_map, List.map_map]
  congr 1
  funext t
  show ((g t.1).a, (g t.2.1).a, (g t.2.2).a) = (swapA p.a q.a (f t.1).a, swapA p.a q.a (f t.2.1).a, swapA p.a q.a (f t.2.2).a)
  rw [(hfg _).2, (hfg _).2, (hfg _).2]
theorem pure_right (p q : Pt) (r : List Pt) (rs : List (Int × Int)) (hc : PtsOf (p :: r) rs) (ha : Apart (p :: r)) (hq : q.x = p.x ∧ q.y = p.y) (h3 : 3 ≤ (p :: r).length) (h10 : (p :: r).length ≤ 9) (_hn : rs[0]? ≠ rs[1]?) (hl : rs[0]? ≠ rs.getLast?) (ht : twZ rs ≤ 0) :
  earT ((p :: r) ++ [q]) = (earT (p :: r)).map (swapT p.a q.a) := by
  have hco : co q = co p := Prod.ext hq.1 hq.2
  rw [turn_tw (p :: r) rs hc (by simp)] at ht
  have l1 : ((p :: r) ++ [q]).length = (p :: r).length + 1 := by simp
  rw [earT_tri (by omega) (by omega), earT_tri h3 (by omega)]
  have t1 : turnZ (((p :: r) ++ [q]).map co) = turnZ ((p :: r).map co) := by
    rw [List.map_append, List.map_cons, List.map_singleton, hco]; exact turn_closed _ _
  rw [t1, if_neg (by omega), if_neg (by omega)]
  have e1 : ((p :: r) ++ [q]).reverse = q :: r.reverse ++ [p] := by simp
  have e2 : (p :: r).reverse = r.reverse ++ [p] := by simp
  rw [e1, e2, startL_eq hco.symm]
  rcases List.eq_nil_or_concat r with rfl | ⟨u, z, rfl⟩
  · simp at h3
  · rw [List.concat_eq_append] at *
    have hzp : co p ≠ co z := by
      intro e
      apply hl
      rw [← hc]
      have : (p :: (u ++ [z])).map (fun p => (p.x, p.y)) = (p :: u).map co ++ [co z] := by simp
      rw [this, List.getLast?_concat]
      show some (co p) = some (co z)
      rw [e]
    have e3 : (u ++ [z]).reverse = z :: u.reverse := by simp
    rw [e3, startL_ne hzp]
    refine swap_tri p q (z :: u.reverse) (fun w hw => ?_) hco
    have hw' : w ∈ u ++ [z] := by rw [← List.mem_reverse, e3]; exact hw
    intro e
    have := (List.nodup_cons.mp (show ((p :: (u ++ [z])).map (·.a)).Nodup from ha)).1
    exact this (List.mem_map.mpr ⟨w, hw', e⟩)
def CurveOf (pts : List Pt) (W : Int) : Prop := pts.map (fun p => (p.x, p.y)) = (List.range pts.length).map (crow W)
def hv (pts : List Pt) : List T3 := halvedF pts.length (pts.map (·.a)) (pts.length - 1)
theorem hv_cut (u : List Pt) (z : Pt) (h9 : u.length ≤ 9) : hv (u ++ [z]) = cutL 1000 ((z :: u).map (·.a)) := by
  have e1 : (u ++ [z]).length = u.length + 1 := by simp
  have e2 : ((u ++ [z]).map (·.a)).drop u.length ++ ((u ++ [z]).map (·.a)).take u.length = (z :: u).map (·.a) := by
    have : u.length = (u.map (·.a)).length := by simp
    rw [List.map_append, this, List.drop_left, List.take_left]; rfl
  unfold hv
  rw [e1, Nat.add_sub_cancel, halved_cut _ _ _ (by simp), e2]
  exact cutL_fuel _ _ _ (by simp) (by simp; omega)
theorem lab_last (u : List Pt) (z p0 : Pt) : (u.length :: List.range u.length).map (labO (u ++ [z]) p0) = z :: u := by
  rw [List.map_cons, lab_range _ _ _ (by simp), List.take_left]
  have : labO (u ++ [z]) p0 u.length = z := by unfold labO; rw [List.getD_eq_getElem?_getD]; simp
  rw [this]
theorem core1 (u : List Pt) (z : Pt) (W : Int) (hc : CurveOf (u ++ [z]) W) (h9 : u.length ≤ 9) : triA (z :: u) = hv (u ++ [z]) := by
  have hC : CycInc (fun i : Nat => (i : Int)) (u.length :: List.range u.length) := by
    have := cyc_range (u.length + 1)
    rw [List.range_succ] at this
    exact this.unrot
  have := tri_curve (u ++ [z]) z W hc _ hC (fun i hi => by
    rw [List.length_append, List.length_singleton]
    rcases List.mem_cons.mp hi with rfl | hi
    · omega
    · have := List.mem_range.mp hi; omega)
  rw [lab_last] at this
  rw [this, hv_cut u z h9]
theorem core2 (p : Pt) (r : List Pt) (W : Int) (hc : CurveOf (p :: r) W) (h9 : r.length ≤ 9) : triA (p :: r) = hv (r ++ [p]) := by
  have := tri_curve (p :: r) p W hc _ (cyc_range (p :: r).length) (fun i hi => List.mem_range.mp hi)
  have e1 := lab_range (p :: r) p _ (Nat.le_refl _)
  rw [List.take_length] at e1
  rw [e1] at this
  rw [this, hv_cut r p h9]
theorem curve_turn {pts : List Pt} {W : Int} (hc : CurveOf pts W) (h3 : 3 ≤ pts.length) (h9 : pts.length ≤ 9) : 0 < turnZ (pts.map co) := by
  have : pts.map co = (List.range pts.length).map (crow W) := hc
  rw [this]; exact turn_curve W _ h3 h9
theorem curve_ne {a z : Pt} {r : List Pt} {W : Int} (hc : CurveOf (a :: r ++ [z]) W) : co z ≠ co a := by
  have e0 : ((a :: r ++ [z]).map co)[0]? = some (crow W 0) := by
    have : (a :: r ++ [z]).map co = (List.range (a :: r ++ [z]).length).map (crow W) := hc
    rw [this, List.getElem?_map, List.getElem?_range (by simp)]; rfl
  have e1 : ((a :: r ++ [z]).map co)[r.length + 1]? = some (crow W (r.length + 1)) := by
    have : (a :: r ++ [z]).map co = (List.range (a :: r ++ [z]).length).map (crow W) := hc
    rw [this, List.getElem?_map, List.getElem?_range (by simp)]; rfl
  have e2 : ((a :: r ++ [z]).map co)[0]? = some (co a) := rfl
  have e3 : ((a :: r ++ [z]).map co)[r.length + 1]? = some (co z) := by simp
  have h0 : a.y = ((0 : Nat) : Int) * ((0 : Nat) : Int) := congrArg Prod.snd (Option.some.inj (e2.symm.trans e0))
  have h1 : z.y = ((r.length + 1 : Nat) : Int) * ((r.length + 1 : Nat) : Int) := congrArg Prod.snd (Option.some.inj (e3.symm.trans e1))
  intro e
  have h2 : z.y = a.y := congrArg Prod.snd e
  have h4 : 0 < ((r.length + 1 : Nat) : Int) * ((r.length + 1 : Nat) : Int) := Int.mul_pos (by omega) (by omega)
  have h5 : a.y = 0 := h0
  omega
theorem snoc_form {α : Type} {l : List α} (h : 2 ≤ l.length) : ∃ a r z, l = a :: r ++ [z] := by
  rcases List.eq_nil_or_concat l with rfl | ⟨u, z, rfl⟩
  · simp at h
  · rw [List.concat_eq_append] at *
    cases u with
    | nil => simp at h
    | cons a r => exact ⟨a, r, z, rfl⟩
theorem pure_curve1 (pts : List Pt) (W : Int) (hc : CurveOf pts W) (h3 : 3 ≤ pts.length) (h9 : pts.length ≤ 9) : earT pts = hv pts := by
  rw [earT_tri h3 (by omega), if_pos (curve_turn hc h3 h9)]
  obtain ⟨a, r, z, rfl⟩ := snoc_form (l := pts) (by omega)
  rw [startL_ne (curve_ne hc)]
  exact core1 (a :: r) z W hc (by simp at h9 ⊢; omega)
theorem pure_curve2 (pts : List Pt) (W : Int) (hc : CurveOf pts W) (h3 : 3 ≤ pts.length) (h9 : pts.length ≤ 9) : earT pts.reverse = hv pts := by
  have hne : pts ≠ [] := fun e => by rw [e] at h3; exact absurd h3 (by decide)
  have ht := curve_turn hc h3 h9
  rw [pure_rev pts (pts.map co) rfl h3 (by omega) (by rw [turn_tw pts _ rfl hne]; omega)]
  exact pure_curve1 pts W hc h3 h9
theorem pure_curve3 (p q : Pt) (r : List Pt) (W : Int) (hc : CurveOf (p :: r) W) (hq : q.x = p.x ∧ q.y = p.y) (h3 : 3 ≤ (p :: r).length) (h9 : (p :: r).length ≤ 9) : earT ((p :: r) ++ [q]) = hv (r ++ [p]) := by
  have hco : co q = co p := Prod.ext hq.1 hq.2
  have l1 : ((p :: r) ++ [q]).length = (p :: r).length + 1 := by simp
  have t1 : turnZ (((p :: r) ++ [q]).map co) = turnZ ((p :: r).map co) := by
    rw [List.map_append, List.map_cons, List.map_singleton, hco]; exact turn_closed _ _
  rw [earT_tri (by omega) (by omega), t1, if_pos (curve_turn hc h3 h9), startL_eq hco]
  exact core2 p r W hc (by simp only [List.length_cons] at h9; omega)
theorem pure_curve4 (p q : Pt) (r : List Pt) (W : Int) (hc : CurveOf (r ++ [p]) W) (hq : q.x = p.x ∧ q.y = p.y) (h3 : 3 ≤ (r ++ [p]).length) (h9 : (r ++ [p]).length ≤ 9) : earT ((r ++ [p]).reverse ++ [q]) = hv (r ++ [q]) := by
  have hco : co q = co p := Prod.ext hq.1 hq.2
  have l1 : ((r ++ [p]).reverse ++ [q]).length = (r ++ [p]).length + 1 := by simp
  have er : (r ++ [p]).reverse = p :: r.reverse := by simp
  have t1 : turnZ (((r ++ [p]).reverse ++ [q]).map co) = - turnZ ((r ++ [p]).map co) := by
    rw [← turn_rev, ← List.map_reverse, er, List.map_append, List.map_cons, List.map_singleton, hco]; exact turn_closed _ _
  have hp := curve_turn hc h3 h9
  rw [earT_tri (by omega) (by omega), t1, if_neg (by omega)]
  have e2 : ((r ++ [p]).reverse ++ [q]).reverse = q :: r ++ [p] := by simp
  rw [e2, startL_eq hco.symm]
  have hc' : CurveOf (r ++ [q]) W := by
    have h1 : (r ++ [q]).map co = (r ++ [p]).map co := by rw [List.map_append, List.map_append, List.map_singleton, List.map_singleton, hco]
    have h2 : (r ++ [q]).length = (r ++ [p]).length := by simp
    show (r ++ [q]).map co = _
    rw [h1, h2]; exact hc
  exact core1 r q W hc' (by rw [List.length_append, List.length_singleton] at h9; omega)
end Mine

open PySem PySem.W PyProof.Rows PySem.Calls
set_option Elab.async false
set_option maxRecDepth 100000
namespace Mine
theorem freshMS : True ∧ True := by
  w_top off
  try (walk1; fail)
  exact ⟨trivial, trivial⟩
end Mine
namespace Mine
open PySem.Builtin.Int (intBits)
theorem orderOf_mem {last : Pt} {pts : List Pt} {p : Pt} : p ∈ orderOf last pts ↔ p ∈ pts := by
  unfold orderOf; split <;> simp
theorem orderOf_length {last : Pt} {pts : List Pt} : (orderOf last pts).length = pts.length := by
  unfold orderOf; split <;> simp
theorem AO_mem {order : List Pt} (h : 0 < order.length) (i : Nat) : ∃ p ∈ order, AO order i = p.a := by
  unfold AO atO
  cases e : order[i]? with
  | some p => exact ⟨p, List.mem_of_getElem? e, rfl⟩
  | none =>
    have e0 : order[0]? = some order[0] := List.getElem?_eq_getElem h
    rw [e0]
    exact ⟨_, List.getElem_mem h, rfl⟩
theorem earT_length {pts : List Pt} (h3 : 3 ≤ pts.length) (h10 : pts.length ≤ 10) : (earT pts).length ≤ 1000 := by
  unfold earT
  cases e : pts.getLast? with
  | none => simp
  | some last =>
    obtain ⟨us, h1, h2⟩ := pure_total (orderOf last pts) (by rw [orderOf_length]; omega) (by rw [orderOf_length]; omega)
    simp only [h1, List.length_map]; exact h2
theorem earT_mem {pts : List Pt} {t : T3} (h : t ∈ earT pts) : (∃ p ∈ pts, t.1 = p.a) ∧ (∃ p ∈ pts, t.2.1 = p.a) ∧ (∃ p ∈ pts, t.2.2 = p.a) := by
  unfold earT at h
  cases e : pts.getLast? with
  | none => rw [e] at h; cases h
  | some last =>
    have hm : last ∈ pts := List.mem_of_getLast? e
    have h0 : 0 < (orderOf last pts).length := by rw [orderOf_length]; exact List.length_pos_of_mem hm
    have key : ∀ i, ∃ p ∈ pts, AO (orderOf last pts) i = p.a := fun i => by
      obtain ⟨p, h1, h2⟩ := AO_mem h0 i
      exact ⟨p, orderOf_mem.mp h1, h2⟩
    rw [e] at h
    dsimp only at h
    cases e1 : earcutN 1000 (orderOf last pts) with
    | none => rw [e1] at h; cases h
    | some us =>
      rw [e1] at h
      obtain ⟨u, _, rfl⟩ := List.mem_map.mp h
      exact ⟨key _, key _, key _⟩
theorem ec2_spec (w : World) (news : List (Addr × Obj)) (pl ep : Nat) (pts : List Pt) (hl : (pl, listOf (refsOf pts).toArray ep) ∈ news) (hp : ∀ p ∈ pts, PtIn w news p) (h3 : 3 ≤ pts.length) (h10 : pts.length ≤ 10) (hnd : No10 news) (hv : Value) :
  Spec w 70 [.ref pl, hv] news 30 250 (fun v news' => ∃ tr, v = .ref tr ∧ TrIn news' tr (earT pts) ∧ No10 news' ∧ (∀ q ∈ news, q ∈ news')) := by
  have hne : pts ≠ [] := fun e => by rw [e] at h3; exact absurd h3 (by decide)
  have e := List.getLast?_eq_some_getLast hne
  obtain ⟨us, h1, _⟩ := pure_total (orderOf (pts.getLast hne) pts) (by rw [orderOf_length]; omega) (by rw [orderOf_length]; omega)
  have S := ec_spec w news pl ep pts _ hl hp e (by omega) hnd hv 1000 (by omega) us h1
  have eT : earT pts = us.map (adrO (orderOf (pts.getLast hne) pts)) := by unfold earT; rw [e]; dsimp only; rw [h1]
  rw [eT]
  intro mean mg mb dp un gd cn cs a ccd cl outer A₀ base h₀ L m s Q E B F X N T hk hd hu hret
  exact S mean mg mb dp un gd cn cs a ccd cl outer A₀ base h₀ L m s Q E B F X N T hk hd hu fun r news' h' tk' F' N' P => hret r news' h' tk' F' N' (by
    obtain ⟨tr, p1, p2, p3, p4, _⟩ := P
    exact ⟨tr, p1, p2, p3, p4⟩)
theorem no10_inst {C d : Addr} : no10 (instObj C d) = true := rfl
theorem no10_pt {P : Params} {p : Pt} : no10 (ptObj P p) = true := rfl
theorem no10_list {its : Array Value} {n : Nat} : no10 (listOf its n) = true := rfl
theorem no10_tup {us : List Value} : no10 (tupOf us) = true := rfl
/-- points made of the first rows -/
def MkJ (w : World) (news : List (Addr × Obj)) (rs : List (Int × Int)) (i : Nat) (ys : List Value) (nx : List (Addr × Obj)) : Prop :=
  ∃ pts, ys = refsOf pts ∧ PtsOf pts (rs.take i) ∧ Apart pts ∧ (∀ p ∈ pts, PtIn w nx p) ∧ (∀ q ∈ news, q ∈ nx) ∧ No10 nx
theorem PtIn.mono {w : World} {news nx : List (Addr × Obj)} {p : Pt} (h : PtIn w news p) (k : ∀ q ∈ news, q ∈ nx) : PtIn w nx p := ⟨k _ h.1, k _ h.2⟩
theorem eq_tup2 {prog : Program} {w : World} {A : Around} {E : Value → Shared → Prop} {s : Shared} {h₀ : Heap} {L : Addr} {news : List (Addr × Obj)} {a b : Addr} {x y x' y' : Int} {t u t' u' : Tok} {Q : Value → Shared → Prop} (N : News h₀ L s.heap news)
    (ha : (a, tupOf [.int x t, .int y u]) ∈ news) (hb : (b, tupOf [.int x' t', .int y' u']) ∈ news) (hu : A.units + 64 < cLine) (h : Q (.bool (decide ((x, y) = (x', y')))) s) : wpAny (model prog w) A (compareOp .Eq (.ref a) (.ref b)) Q E s := by
  refine eq_dataH (reads_tuple_at (N.get ha) rfl rfl (ReadsAll.cons (Reads.int _ _) (ReadsAll.cons (Reads.int _ _) ReadsAll.nil))) (reads_tuple_at (N.get hb) rfl rfl (ReadsAll.cons (Reads.int _ _) (ReadsAll.cons (Reads.int _ _) ReadsAll.nil))) (by rfl) (by rfl) hu ?_
  have e : decide ((x, y) = (x', y')) = (x == x' && y == y') := by by_cases h1 : x = x' <;> by_cases h2 : y = y' <;> simp [h1, h2]
  rw [e] at h
  simpa only [PyData.eqv, PyData.eqvAll, Bool.and_true] using h
/-- what stands in the ledger all along -/
structure RG (w : World) (news : List (Addr × Obj)) (lw ep : Nat) (vs : List Value) (D c : Nat) (pts : List Pt) (X : List (Addr × Obj)) : Prop where
  rows : (lw, listOf vs.toArray ep) ∈ X
  ring : (D, listOf (refsOf pts).toArray c) ∈ X
  pt : ∀ p ∈ pts, PtIn w X p
  old : ∀ q ∈ news, q ∈ X
  no : No10 X
theorem RG.mono {w : World} {news : List (Addr × Obj)} {lw ep : Nat} {vs : List Value} {D c : Nat} {pts : List Pt} {X Y : List (Addr × Obj)} (G : RG w news lw ep vs D c pts X) (k : ∀ q ∈ X, q ∈ Y) (n : No10 Y) : RG w news lw ep vs D c pts Y :=
  ⟨k _ G.rows, k _ G.ring, fun p hp => (G.pt p hp).mono k, fun q hq => k q (G.old q hq), n⟩
theorem no10_cons {a : Addr} {o : Obj} {X : List (Addr × Obj)} (h : no10 o = true) (n : No10 X) : No10 ((a, o) :: X) := fun q hq => by
  rcases List.mem_cons.mp hq with rfl | hq
  · exact h
  · exact n q hq
theorem RG.cons {w : World} {news : List (Addr × Obj)} {lw ep : Nat} {vs : List Value} {D c : Nat} {pts : List Pt} {X : List (Addr × Obj)} (a : Addr) (o : Obj) (G : RG w news lw ep vs D c pts X) (h : no10 o = true) : RG w news lw ep vs D c pts ((a, o) :: X) := G.mono (fun _ h => .tail _ h) (no10_cons h G.no)
theorem TrIn.mono {news news' : List (Addr × Obj)} {tr : Addr} {ts : List T3} (h : TrIn news tr ts) (k : ∀ q ∈ news, q ∈ news') : TrIn news' tr ts := by
  obtain ⟨vs, ep, h1, h2⟩ := h
  exact ⟨vs, ep, k _ h1, h2.mono fun _ _ hm => k _ hm⟩
theorem RowsAre.mono {news news' : List (Addr × Obj)} {vs : List Value} {rs : List (Int × Int)} (h : RowsAre news vs rs) (k : ∀ q ∈ news, q ∈ news') : RowsAre news' vs rs :=
  ⟨h.1, fun i r e => by obtain ⟨a, tx, ty, e1, e2⟩ := h.2 i r e; exact ⟨a, tx, ty, e1, k _ e2⟩⟩
theorem hereN {h₀ h : Heap} {L : Addr} {Y : List (Addr × Obj)} {q : Addr × Obj} (_N : News h₀ L h Y) (m : q ∈ Y) : q ∈ Y := m
theorem RG.ofN {w : World} {news : List (Addr × Obj)} {lw ep : Nat} {vs : List Value} {D c : Nat} {pts : List Pt} {X Y : List (Addr × Obj)} {h₀ h : Heap} {L : Addr} (_N : News h₀ L h Y) (G : RG w news lw ep vs D c pts X) (k : ∀ q ∈ X, q ∈ Y) (n : No10 Y) : RG w news lw ep vs D c pts Y := G.mono k n
theorem PtIn.ofN {w : World} {Y : List (Addr × Obj)} {p : Pt} {h₀ h : Heap} {L : Addr} (_N : News h₀ L h Y) (P : PtIn w Y p) : PtIn w Y p := P
theorem TrIn.ofN {Y : List (Addr × Obj)} {tr : Addr} {ts : List T3} {h₀ h : Heap} {L : Addr} (_N : News h₀ L h Y) (P : TrIn Y tr ts) : TrIn Y tr ts := P
theorem pt_ofN {w : World} {Y : List (Addr × Obj)} {ps : List Pt} {h₀ h : Heap} {L : Addr} (_N : News h₀ L h Y) (P : ∀ p ∈ ps, PtIn w Y p) : ∀ p ∈ ps, PtIn w Y p := P
theorem no_ofN {Y : List (Addr × Obj)} {h₀ h : Heap} {L : Addr} (_N : News h₀ L h Y) (P : No10 Y) : No10 Y := P
theorem turn_pt {w : World} {Y : List (Addr × Obj)} {pts r : List Pt} {p : Pt} (e : pts = p :: r) (h : ∀ q ∈ pts, PtIn w Y q) : ∀ q ∈ r ++ [p], PtIn w Y q := fun q hq => h q (by
  rw [e]
  rcases List.mem_append.mp hq with hq | hq
  · exact .tail _ hq
  · rw [List.mem_singleton.mp hq]; exact .head _)
theorem slice_tail {pts r : List Pt} {p : Pt} (e : pts = p :: r) : (slicePick (refsOf pts).toArray (some 1) none none).toList = refsOf r := by
  have := slicePick_from (refsOf pts).toArray 1 (by rw [e]; simp [refsOf])
  rw [show (some (1 : Int)) = some ((1 : Nat) : Int) from rfl, this, e]
  simp [refsOf]
theorem slice_head {pts r : List Pt} {p : Pt} (e : pts = p :: r) : (slicePick (refsOf pts).toArray none (some 1) none).toList = refsOf [p] := by
  have := slicePick_upto (refsOf pts).toArray 1 (by rw [e]; simp [refsOf])
  rw [show (some (1 : Int)) = some ((1 : Nat) : Int) from rfl, this, e]
  simp [refsOf]
theorem ear_at {w : World} {Y : List (Addr × Obj)} {pts : List Pt} (h : ∀ p ∈ pts, PtIn w Y p) : ∀ t ∈ earT pts, PAt Y t.1 ∧ PAt Y t.2.1 ∧ PAt Y t.2.2 := fun t ht => by
  obtain ⟨⟨p, a1, e1⟩, ⟨q, a2, e2⟩, ⟨r, a3, e3⟩⟩ := earT_mem ht
  rw [e1, e2, e3]
  exact ⟨⟨_, (h p a1).1⟩, ⟨_, (h q a2).1⟩, ⟨_, (h r a3).1⟩⟩
theorem snoc_pt {w : World} {Y : List (Addr × Obj)} {pts : List Pt} {q : Pt} (h : ∀ p ∈ pts, PtIn w Y p) (k : PtIn w Y q) : ∀ p ∈ pts ++ [q], PtIn w Y p := fun p hp => by
  rcases List.mem_append.mp hp with hp | hp
  · exact h p hp
  · rw [List.mem_singleton.mp hp]; exact k
section
local macro_rules | `(tactic| bits_by_make) => `(tactic| first | exact Pt.hx _ | exact Pt.hy _ | with_reducible assumption)
local macro_rules | `(tactic| k_mem) => `(tactic| (refine mem_of ?_; ktr_member))
section
local macro_rules | `(tactic| walk_at "eval Call") => `(tactic| first | ((with_reducible show wpAny _ _ (eval (Expr.Call (Expr.Name _ _) _ (_ :: _) _) _) _ _ _); k_dflt (refine wpAny_Call_Name_kw ?_)) | k_dflt (refine Call_ ?_))
local macro_rules | `(tactic| walk_at "call ref") => `(tactic| (k_here; refine Stop.intro ?_))
local macro_rules | `(tactic| walk_at "eval ListComp") => `(tactic| (k_here; refine Stop.intro ?_))
local macro_rules | `(tactic| walk_at "exec Assign cons ListComp") => `(tactic| (k_here; refine Stop.intro ?_))
local macro_rules | `(tactic| walk_at "CompSrc") => `(tactic| (refine Stop.intro ?_))
local macro_rules | `(tactic| walk_at "CompEnd") => `(tactic| (refine Stop.intro ?_))
local macro_rules | `(tactic| walk_at "call type:list") => `(tactic| (k_here; refine Stop.intro ?_))
local macro_rules | `(tactic| walk_at "subscriptTail Name UnaryOp ref int") => `(tactic| (k_here; refine Stop.intro ?_))
local macro_rules | `(tactic| walk_at "subscriptTail Name UnaryOp") => `(tactic| (k_here; refine Stop.intro ?_))
local macro_rules | `(tactic| walk_at "compareOp Eq ref ref") => `(tactic| (k_here; refine Stop.intro ?_))
local macro_rules | `(tactic| walk_at "call type:reversed") => `(tactic| (k_here; refine Stop.intro ?_))
local macro_rules | `(tactic| walk_at "binaryOp Add ref ref") => `(tactic| (k_here; refine Stop.intro ?_))
local macro_rules | `(tactic| walk_at "subscriptTail Name Slice") => `(tactic| (k_here; refine Stop.intro ?_))
local macro_rules | `(tactic| walk_at "subscriptTail Name Slice ref ref") => `(tactic| (k_here; refine Stop.intro ?_))
local macro_rules | `(tactic| walk_at "call builtin:len") => `(tactic| (k_here; k_dflt (refine' len_mine ?k1 ?k2 ?k3 ?k4 ?_; (case k1 => k_asm); (case k2 => k_mem); (case k3 => assumption); (case k4 => omega)); (try dsimp only); (try k_fold)))
local macro_rules | `(tactic| walk_at "subscriptTail") => `(tactic| (k_here; (with_reducible show wpAny _ _ (subscriptTail _ _ (Value.ref _) (Value.int _ _)) _ _ _); (with_unfolding_all refine' item_mine ?k1 ?k2 ?k3 ?k4 ?k5 ?_; (case k1 => k_asm); (case k2 => k_mem); (case k5 => assumption); (case k3 => first | omega | assumption); (case k4 => first | omega | assumption)); (try dsimp only); (try k_fold)))
local macro_rules | `(tactic| walk_at "subscriptTail Name") => `(tactic| (k_here; (with_reducible show wpAny _ _ (subscriptTail _ _ (Value.ref _) (Value.int _ _)) _ _ _); (with_unfolding_all refine' item_mine ?k1 ?k2 ?k3 ?k4 ?k5 ?_; (case k1 => k_asm); (case k2 => k_mem); (case k5 => assumption); (case k3 => first | omega | assumption); (case k4 => first | omega | assumption)); (try dsimp only); (try k_fold)))
local macro_rules | `(tactic| walk_at "subscriptTail Name Name") => `(tactic| (k_here; (with_reducible show wpAny _ _ (subscriptTail _ _ (Value.ref _) (Value.int _ _)) _ _ _); (with_unfolding_all refine' item_mine ?k1 ?k2 ?k3 ?k4 ?k5 ?_; (case k1 => k_asm); (case k2 => k_mem); (case k5 => assumption); (case k3 => first | omega | assumption); (case k4 => first | omega | assumption)); (try dsimp only); (try k_fold)))
local macro_rules | `(tactic| walk_at "subscriptTail Name Constant") => `(tactic| (k_here; (with_reducible show wpAny _ _ (subscriptTail _ _ (Value.ref _) (Value.int _ _)) _ _ _); (with_unfolding_all refine' item_mine ?k1 ?k2 ?k3 ?k4 ?k5 ?_; (case k1 => k_asm); (case k2 => k_mem); (case k5 => assumption); (case k3 => first | omega | assumption); (case k4 => first | omega | assumption)); (try dsimp only); (try k_fold)))
set_option maxHeartbeats 4000000 in
theorem ring_spec (w : World) (news : List (Addr × Obj)) (lw ep : Nat) (vs : List Value) (rs : List (Int × Int)) (hl : (lw, listOf vs.toArray ep) ∈ news) (hr : RowsAre news vs rs) (h3 : 3 ≤ rs.length) (h8 : rs.length ≤ 8) (hb : ∀ r ∈ rs, intBits r.1 ≤ 2000000 ∧ intBits r.2 ≤ 2000000) (hnd : No10 news) :
  Spec w 201 [.ref lw] news 40 400 (fun v news' => news = news' ∧ v = .bool true) := by
  unfold Spec
  intro mean mg mb dp un gd cn cs aA ccd cl outer A₀ base h₀ L m s Q E B F X N T hk hd hu hret
  have kf9 : (PySem.Challenge.rw_bj5012_02 = PySem.Challenge.rw_bj5012_02 ∧ ∀ p, Mine.hd.heap_39 p = Mine.hd.heap_39 p) := (by k_fill; exact ⟨rfl, fun _ => rfl⟩)
  clear kf9
  refine wpAny_call ?_
  k_dflt ktr_enter
  k_steps
  refine Stop.out ?_
  rename Fr _ _ _ _ => lF
  rename News _ _ _ _ => lN
  refine LCg.Assign_ListComp_U (F₀ := lF) (by rfl) (by with_unfolding_all rfl) (by rfl) (by decide) (by rfl) (by decide) (by rfl) (by rfl) (by rfl) ?_
  k_steps
  refine Stop.out ?_
  have ev : vs.toArray.size = rs.length := by simp [hr.1]
  refine LCg.CompSrc.ledger (by rfl) lF lN hl (by rw [ev]; exact Nat.le_trans h8 (by simp [sizeLine_eq])) fun g => ?_
  rw [ev]
  refine comp_inv (fun i ys nx => (lw, listOf vs.toArray ep) ∈ nx ∧ MkJ w news rs i ys nx) rs.length ⟨hl, [], rfl, rfl, List.nodup_nil, List.forall_mem_nil _, fun _ h => h, hnd⟩ ?_ ?_
  · rintro i ys nx v I oI C oC D m₂ h tk E' hi ⟨k0, pts, rfl, k1, k2, k3, k4, k5⟩ hv hC hx F9 N9 off ne
    obtain ⟨a, tx, ty, e1, e2⟩ := hr.2 i _ (List.getElem?_eq_getElem hi)
    obtain ⟨bb1, bb2⟩ := hb _ (List.getElem_mem hi)
    have e0 : vs.toArray[i]? = some (.ref a) := by simpa using e1
    cases hv.symm.trans e0
    have ntk : rs.take (i + 1) = rs.take i ++ [rs[i]] := by rw [List.take_add_one, List.getElem?_eq_getElem hi]; rfl
    generalize rs[i] = r1 at *
    have m1 := k4 _ e2
    clear lF lN
    k_steps
    (refine Stop.out ?_; k_dflt (refine' use_spec ?k1 ?k2 ?k3 ?k4 ?k5 ?kK (point_spec _ _ _ _ _ _ (by first | assumption | exact Pt.hx _ | omega) (by first | assumption | exact Pt.hy _ | omega)) ?kd ?ku ?_; (case k1 => k_asm); (case k2 => k_asm); (case k3 => k_asm); (case k4 => k_asm); (case k5 => k_asm); (case kK => first | exact rfl | assumption); (case kd => (try dsimp only [ktrTop]); first | omega | exact Nat.le_of_ble_eq_true rfl); (case ku => (try dsimp only [ktrTop]); first | omega | exact Nat.le_of_ble_eq_true rfl)))
    intro r9 l9 h9 tk9 F8 N8 P9
    obtain ⟨p, rfl, c1, c2, c3, c4, c5, c6⟩ := P9
    try dsimp only
    try k_fold
    k_steps
    refine Stop.out ?_
    refine comp_end F8 N8 (c4 _ (.head _)) (c4 _ (.tail _ (.head _))) (c4 _ (.tail _ (.tail _ (.head _)))) fun nx' z z2 => ?_
    have kk : ∀ q ∈ nx, q ∈ nx' := fun q hq => z q (c4 _ (.tail _ (.tail _ (.tail _ hq)))) (off.mem q hq).1 (off.mem q hq).2.1 (off.mem q hq).2.2
    have u1 := c5 _ (.head _)
    have u2 := c5 _ (.tail _ (.head _))
    have u3 := c5 _ (.tail _ (.tail _ (.head _)))
    refine ⟨.inr ⟨_, kk _ k0, rfl, _, rfl⟩, kk _ k0, pts ++ [p], by simp [refsOf], ?_, ?_, ?_, fun q hq => kk q (k4 q hq), ?_⟩
    · unfold PtsOf at k1 ⊢
      rw [ntk, List.map_append, k1]; simp [c1, c2]
    · unfold Apart at k2 ⊢
      rw [List.map_append, List.nodup_append]
      refine ⟨k2, by simp, ?_⟩
      intro b hb' b' hb2 e
      obtain ⟨q, hq, rfl⟩ := List.mem_map.mp hb'
      have := (c5 _ (.tail _ (.tail _ (.tail _ (k3 q hq).1)))).2
      simp only [List.map_cons, List.map_nil, List.mem_singleton] at hb2
      subst hb2
      exact Nat.lt_irrefl _ (e ▸ this)
    · intro q hq
      rcases List.mem_append.mp hq with hq | hq
      · exact (k3 q hq).mono kk
      · rw [List.mem_singleton.mp hq]
        exact ⟨z _ c3.1 (Nat.ne_of_gt u1.2) (Nat.ne_of_gt u2.2) (Nat.ne_of_gt u3.2), z _ c3.2 (Nat.ne_of_gt u1.1) (Nat.ne_of_gt u2.1) (Nat.ne_of_gt u3.1)⟩
    · intro q hq
      obtain ⟨w1, w2, w3, w4⟩ := z2 q hq
      rcases c6 q w1 with hq | rfl | rfl
      · rcases List.mem_cons.mp hq with rfl | hq
        · exact absurd rfl w2
        · rcases List.mem_cons.mp hq with rfl | hq
          · exact absurd rfl w3
          · rcases List.mem_cons.mp hq with rfl | hq
            · exact absurd rfl w4
            · exact k5 q hq
      · exact no10_inst
      · exact no10_pt
  · rintro ys nx ⟨k0, pts, rfl, k1, k2, k3, k4, k5⟩
    rw [List.take_length] at k1
    have hpl : pts.length = rs.length := by rw [← k1, List.length_map]
    have hz9 : (refsOf pts).toArray.toList.length ≤ sizeLine := by simp only [refsOf, List.length_map]; exact Nat.le_trans (show pts.length ≤ 8 by omega) (by simp [sizeLine_eq])
    have hz9' : (refsOf pts).toArray.size ≤ sizeLine := by rw [← Array.length_toList]; exact hz9
    have hC9 : 3 ≤ pts.length := by omega
    obtain ⟨p0, rr, epts⟩ : ∃ p r, pts = p :: r := by
      cases pts with
      | nil => simp at hC9
      | cons p r => exact ⟨p, r, rfl⟩
    have hD9 : pts.length ≤ 10 := by omega
    obtain ⟨r0, er0⟩ : ∃ r, rs[0]? = some r := ⟨_, List.getElem?_eq_getElem (by omega)⟩
    have rp0 : (p0.x, p0.y) = r0 := by
      rw [← k1, epts] at er0
      exact Option.some.inj er0
    obtain ⟨r1, er1⟩ : ∃ r, rs[1]? = some r := ⟨_, List.getElem?_eq_getElem (by omega)⟩
    obtain ⟨rl, erl⟩ : ∃ r, rs[rs.length - 1]? = some r := ⟨_, List.getElem?_eq_getElem (by omega)⟩
    obtain ⟨a0, tx0, ty0, f0', w0⟩ := hr.2 _ _ er0
    obtain ⟨a1, tx1, ty1, f1', w1⟩ := hr.2 _ _ er1
    obtain ⟨al, txl, tyl, fl', wl⟩ := hr.2 _ _ erl
    have f0 : vs[(0 : Int).toNat]? = some (.ref a0) := f0'
    have f1 : vs[(1 : Int).toNat]? = some (.ref a1) := f1'
    have fl : vs.getLast? = some (.ref al) := by rw [List.getLast?_eq_getElem?, hr.1]; exact fl'
    clear f0' f1' fl'
    obtain ⟨bb1, bb2⟩ := hb r0 (List.mem_of_getElem? er0)
    k_steps
    (rename Fr _ _ _ _ => lF); (rename News _ _ _ _ => lN)
    rename_i D0 h0 tk0 oD0
    have G0 : RG w news lw ep vs D0 _ pts ((D0, LCg.lst (refsOf pts)) :: nx) := ⟨.tail _ k0, .head _, fun p hp => (k3 p hp).mono fun _ h => .tail _ h, fun q hq => .tail _ (k4 q hq), no10_cons rfl k5⟩
    have hA := G0.rows
    have hB := hr.mono G0.old
    (refine Stop.out ?_; k_dflt (refine' use_spec ?k1 ?k2 ?k3 ?k4 ?k5 ?kK (tw_spec _ _ _ _ _ _ hA hB (by omega) hb) ?kd ?ku ?_; (case k1 => k_asm); (case k2 => k_asm); (case k3 => k_asm); (case k4 => k_asm); (case k5 => k_asm); (case kK => first | exact rfl | assumption); (case kd => (try dsimp only [ktrTop]); first | omega | exact Nat.le_of_ble_eq_true rfl); (case ku => (try dsimp only [ktrTop]); first | omega | exact Nat.le_of_ble_eq_true rfl)))
    intro r9 l9 h9 tk9 F9 N9 P9
    obtain ⟨rfl, tt, rfl⟩ := P9
    clear hA hB lF lN
    (try dsimp only); (try k_fold); k_steps
    refine Stop.out ?_
    (rename Fr _ _ _ _ => lF); (rename News _ _ _ _ => lN)
    refine kup_listOf (zs := refsOf pts) lF lN G0.ring (by simp) (fun D1 c1 h1 F1 N1 lD => ?_) hz9
    clear lF lN
    (try dsimp only); (try k_fold); k_steps
    (rename Fr _ _ _ _ => lF); (rename News _ _ _ _ => lN)
    rename_i lh hh lo
    have G1 := (G0.cons D1 (listOf (refsOf pts).toArray c1) rfl).cons lh (listOf #[] 0) rfl
    have hA : (D1, listOf (refsOf pts).toArray c1) ∈ ((lh, listOf #[] 0) :: (D1, listOf (refsOf pts).toArray c1) :: (D0, LCg.lst (refsOf pts)) :: nx) := .tail _ (.head _)
    have hB := G1.pt
    have hE9 := G1.no
    (refine Stop.out ?_; k_dflt (refine' use_spec ?k1 ?k2 ?k3 ?k4 ?k5 ?kK (ec2_spec _ _ _ _ _ hA hB hC9 hD9 hE9 _) ?kd ?ku ?_; (case k1 => k_asm); (case k2 => k_asm); (case k3 => k_asm); (case k4 => k_asm); (case k5 => k_asm); (case kK => first | exact rfl | assumption); (case kd => (try dsimp only [ktrTop]); first | omega | exact Nat.le_of_ble_eq_true rfl); (case ku => (try dsimp only [ktrTop]); first | omega | exact Nat.le_of_ble_eq_true rfl)))
    intro r9 l9 h9 tk9 F9 N9 P9
    obtain ⟨told, rfl, T1, no9, kp⟩ := P9
    have G2 := G1.mono kp no9
    clear hA hB hE9 G1 lo no9 kp G0 k0 k3 k4 k5
    (try dsimp only); (try k_fold); k_steps
    refine Stop.out ?_
    (rename Fr _ _ _ _ => lF); (rename News _ _ _ _ => lN)
    refine kup_listOf (zs := refsOf pts) lF lN G2.ring (by simp) (fun D2 c2 h1 F1 N1 lD => ?_) hz9
    clear lF lN
    (try dsimp only); (try k_fold); k_steps
    (rename Fr _ _ _ _ => lF); (rename News _ _ _ _ => lN)
    rename_i lh hh lo
    have G3 := (G2.cons D2 (listOf (refsOf pts).toArray c2) rfl).cons lh (listOf #[] 0) rfl
    have hA : (D2, listOf (refsOf pts).toArray c2) ∈ ((lh, listOf #[] 0) :: (D2, listOf (refsOf pts).toArray c2) :: l9) := .tail _ (.head _)
    have hB := G3.pt
    have hE9 := G3.no
    (refine Stop.out ?_; k_dflt (refine' use_spec ?k1 ?k2 ?k3 ?k4 ?k5 ?kK (ec2_spec _ _ _ _ _ hA hB hC9 hD9 hE9 _) ?kd ?ku ?_; (case k1 => k_asm); (case k2 => k_asm); (case k3 => k_asm); (case k4 => k_asm); (case k5 => k_asm); (case kK => first | exact rfl | assumption); (case kd => (try dsimp only [ktrTop]); first | omega | exact Nat.le_of_ble_eq_true rfl); (case ku => (try dsimp only [ktrTop]); first | omega | exact Nat.le_of_ble_eq_true rfl)))
    intro r9 l9 h9 tk9 F9 N9 P9
    obtain ⟨tr2, rfl, T2, no9, kp⟩ := P9
    have T1' := T1.mono fun q hq => kp q (.tail _ (.tail _ hq))
    have G4 := G3.mono kp no9
    clear hA hB hE9 G3 lo no9 kp G2 T1
    (try dsimp only); (try k_fold); k_steps
    have hA := T1'
    have hB := T2
    have hL9 : (earT pts).length ≤ 1000 := earT_length hC9 hD9
    (refine Stop.out ?_; k_dflt (refine' use_spec ?k1 ?k2 ?k3 ?k4 ?k5 ?kK (same_spec _ _ _ _ _ hA hB hL9) ?kd ?ku ?_; (case k1 => k_asm); (case k2 => k_asm); (case k3 => k_asm); (case k4 => k_asm); (case k5 => k_asm); (case kK => first | exact rfl | assumption); (case kd => (try dsimp only [ktrTop]); first | omega | exact Nat.le_of_ble_eq_true rfl); (case ku => (try dsimp only [ktrTop]); first | omega | exact Nat.le_of_ble_eq_true rfl)))
    intro r9 l9 h9 tk9 F9 N9 P9
    obtain ⟨rfl, rfl⟩ := P9
    clear hA hB T2 lF lN
    (try dsimp only); (try k_fold); k_steps
    · rename twZ rs ≠ 0 => tz
      refine Stop.out ?_
      (rename Fr _ _ _ _ => lF); (rename News _ _ _ _ => lN)
      refine krv_reversed lF lN (islist_of lN G4.ring) (fun D3 h8 F8 N8 l8 => ?_)
      clear lF lN
      (try dsimp only); (try k_fold); k_steps
      refine Stop.out ?_
      (rename Fr _ _ _ _ => lF); (rename News _ _ _ _ => lN)
      have ei : ((refsOf pts).length : Int) - 1 = ((refsOf pts).length : Int) - 1 := rfl
      refine list_rev (vs := refsOf pts) (by rfl) lF lN (fun q hq => Nat.ne_of_lt (l8 q hq)) G4.ring (by rw [refsOf, List.length_map]; omega) (fun D4 c4 h1 tk1 F1 N1 lD => ?_)
      have er : (refsOf pts).reverse = refsOf pts.reverse := by unfold refsOf; rw [List.map_reverse]
      rw [er] at N1
      clear lF lN ei
      (try dsimp only); (try k_fold); k_steps
      (rename Fr _ _ _ _ => lF); (rename News _ _ _ _ => lN)
      rename_i lh hh lo
      have hA : (D4, listOf (refsOf pts.reverse).toArray c4) ∈ ((lh, listOf #[] 0) :: (D4, listOf (refsOf pts.reverse).toArray c4) :: l9) := .tail _ (.head _)
      have hB : ∀ p ∈ pts.reverse, PtIn w ((lh, listOf #[] 0) :: (D4, listOf (refsOf pts.reverse).toArray c4) :: l9) p := fun p hp => (G4.pt p (List.mem_reverse.mp hp)).mono fun _ h => .tail _ (.tail _ h)
      have hE9 : No10 ((lh, listOf #[] 0) :: (D4, listOf (refsOf pts.reverse).toArray c4) :: l9) := no10_cons rfl (no10_cons rfl G4.no)
      have hC9' : 3 ≤ pts.reverse.length := by rw [List.length_reverse]; exact hC9
      have hD9' : pts.reverse.length ≤ 10 := by rw [List.length_reverse]; exact hD9
      (refine Stop.out ?_; k_dflt (refine' use_spec ?k1 ?k2 ?k3 ?k4 ?k5 ?kK (ec2_spec _ _ _ _ _ hA hB hC9' hD9' hE9 _) ?kd ?ku ?_; (case k1 => k_asm); (case k2 => k_asm); (case k3 => k_asm); (case k4 => k_asm); (case k5 => k_asm); (case kK => first | exact rfl | assumption); (case kd => (try dsimp only [ktrTop]); first | omega | exact Nat.le_of_ble_eq_true rfl); (case ku => (try dsimp only [ktrTop]); first | omega | exact Nat.le_of_ble_eq_true rfl)))
      intro r9 l9 h9 tk9 F9 N9 P9
      obtain ⟨tr3, rfl, T3, no9, kp⟩ := P9
      rw [pure_rev pts rs k1 hC9 hD9 tz] at T3
      have T1 := T1'.mono fun q hq => kp q (.tail _ (.tail _ hq))
      have G5 := G4.mono (fun q hq => kp q (.tail _ (.tail _ hq))) no9
      clear hA hB hE9 lo no9 kp G4 T1' hC9' hD9' er
      (try dsimp only); (try k_fold); k_steps
      have hA := T1
      have hB := T3
      (refine Stop.out ?_; k_dflt (refine' use_spec ?k1 ?k2 ?k3 ?k4 ?k5 ?kK (same_spec _ _ _ _ _ hA hB hL9) ?kd ?ku ?_; (case k1 => k_asm); (case k2 => k_asm); (case k3 => k_asm); (case k4 => k_asm); (case k5 => k_asm); (case kK => first | exact rfl | assumption); (case kd => (try dsimp only [ktrTop]); first | omega | exact Nat.le_of_ble_eq_true rfl); (case ku => (try dsimp only [ktrTop]); first | omega | exact Nat.le_of_ble_eq_true rfl)))
      intro r9 l9 h9 tk9 F9 N9 P9
      obtain ⟨rfl, rfl⟩ := P9
      clear hA hB T3 lF lN tz
      rename RG _ _ _ _ _ _ _ _ _ => GG
      have mrow := GG.rows
      have mring := GG.ring
      have ma0 := GG.old _ w0
      have ma1 := GG.old _ w1
      have mal := GG.old _ wl
      (try dsimp only); (try k_fold); k_steps
      refine Stop.out ?_
      (rename Fr _ _ _ _ => lF); (rename News _ _ _ _ => lN)
      refine eq_tup2 lN ma0 ma1 (by ktr_units) ?_
      by_cases c01 : (r0.1, r0.2) = (r1.1, r1.2)
      · rw [decide_eq_true c01]
        (try dsimp only); (try k_fold); k_steps
        (rename Fr _ _ _ _ => lF); (rename News _ _ _ _ => lN)
        exact hret _ _ _ _ lF (fun q hq => lN q (GG.old q hq)) ⟨rfl, rfl⟩
      rw [decide_eq_false c01]
      (try dsimp only); (try k_fold); k_steps
      refine Stop.out ?_
      (rename Fr _ _ _ _ => lF); (rename News _ _ _ _ => lN)
      with_unfolding_all refine item_last lN mrow fl ?_
      (try dsimp only); (try k_fold); k_steps
      refine Stop.out ?_
      (rename Fr _ _ _ _ => lF); (rename News _ _ _ _ => lN)
      refine eq_tup2 lN ma0 mal (by ktr_units) ?_
      by_cases c0l : (r0.1, r0.2) = (rl.1, rl.2)
      · rw [decide_eq_true c0l]
        (try dsimp only); (try k_fold); k_steps
        (rename Fr _ _ _ _ => lF); (rename News _ _ _ _ => lN)
        exact hret _ _ _ _ lF (fun q hq => lN q (GG.old q hq)) ⟨rfl, rfl⟩
      rw [decide_eq_false c0l]
      (try dsimp only); (try k_fold); k_steps
      (refine Stop.out ?_; k_dflt (refine' use_spec ?k1 ?k2 ?k3 ?k4 ?k5 ?kK (point_spec _ _ _ _ _ _ (by first | assumption | exact Pt.hx _ | omega) (by first | assumption | exact Pt.hy _ | omega)) ?kd ?ku ?_; (case k1 => k_asm); (case k2 => k_asm); (case k3 => k_asm); (case k4 => k_asm); (case k5 => k_asm); (case kK => first | exact rfl | assumption); (case kd => (try dsimp only [ktrTop]); first | omega | exact Nat.le_of_ble_eq_true rfl); (case ku => (try dsimp only [ktrTop]); first | omega | exact Nat.le_of_ble_eq_true rfl)))
      intro r9 l9 h9 tk9 F9 N9 P9
      obtain ⟨q, rfl, q1, q2, q3, kp, _, only⟩ := P9
      have G6 := GG.mono kp (fun y hy => by
        rcases only y hy with h | rfl | rfl
        · exact GG.no y h
        · rfl
        · rfl)
      have T4 := T1.mono kp
      clear GG T1 mrow mring ma0 ma1 mal kp only
      (try dsimp only); (try k_fold); k_steps
      refine Stop.out ?_
      (rename Fr _ _ _ _ => lF); (rename News _ _ _ _ => lN)
      refine kup_listOf (zs := refsOf pts) lF lN G6.ring (by simp) (fun D5 c5 h1 F1 N1 lD => ?_) hz9
      (try dsimp only); (try k_fold); k_steps
      refine Stop.out ?_
      (rename Fr _ _ _ _ => lF); (rename News _ _ _ _ => lN)
      rename_i D6 h6 l6
      have eq9 : (refsOf pts).toArray.toList ++ #[Value.ref q.a].toList = refsOf (pts ++ [q]) := by simp [refsOf]
      have hx9 : (refsOf pts).toArray.toList.length + #[Value.ref q.a].toList.length ≤ sizeLine := by simp only [refsOf, List.length_map, List.length_cons, List.length_nil, sizeLine_eq]; omega
      refine kmk_add_lit lF lN (islist_of lN (.tail _ (.head _))) ⟨_, (lN _ (.head _)).1, rfl, _, rfl⟩ eq9 (fun D7 h7 F7 N7 l7 => ?_) hx9
      clear eq9 hx9
      (try dsimp only); (try k_fold); k_steps
      (rename Fr _ _ _ _ => lF); (rename News _ _ _ _ => lN)
      rename_i lh hh lo
      have hA := hereN lN (q := (D7, listOf (refsOf (pts ++ [q])).toArray 0)) (.tail _ (.head _))
      have G7 := RG.ofN lN G6 (fun _ h => .tail _ (.tail _ (.tail _ (.tail _ h)))) (no10_cons rfl (no10_cons rfl (no10_cons rfl (no10_cons rfl G6.no))))
      have q4 := PtIn.ofN lN (PtIn.mono q3 (fun _ h => .tail _ (.tail _ (.tail _ (.tail _ h)))))
      have hB := snoc_pt G7.pt q4
      have hE9 := G7.no
      have hC9' : 3 ≤ (pts ++ [q]).length := by rw [List.length_append]; omega
      have hD9' : (pts ++ [q]).length ≤ 10 := by rw [List.length_append, List.length_singleton]; omega
      have T5' := TrIn.ofN lN (T4.mono (fun _ h => .tail _ (.tail _ (.tail _ (.tail _ h)))))
      have hLc : (earT (pts ++ [q])).length ≤ 1000 := earT_length hC9' hD9'
      (refine Stop.out ?_; k_dflt (refine' use_spec ?k1 ?k2 ?k3 ?k4 ?k5 ?kK (ec2_spec _ _ _ _ _ hA hB hC9' hD9' hE9 _) ?kd ?ku ?_; (case k1 => k_asm); (case k2 => k_asm); (case k3 => k_asm); (case k4 => k_asm); (case k5 => k_asm); (case kK => first | exact rfl | assumption); (case kd => (try dsimp only [ktrTop]); first | omega | exact Nat.le_of_ble_eq_true rfl); (case ku => (try dsimp only [ktrTop]); first | omega | exact Nat.le_of_ble_eq_true rfl)))
      intro r9 l9 h9 tk9 F9 N9 P9
      obtain ⟨closed, rfl, T6, no9, kp⟩ := P9
      have T5 := T5'.mono kp
      have G8 := G7.mono kp no9
      have q5 := q4.mono kp
      clear hA hB hE9 hC9' hD9' G7 G6 T4 T5' q3 q4 no9 kp
      have mring := G8.ring
      (try dsimp only); (try k_fold); k_steps
      · rename 0 < twZ rs => tz
        refine Stop.out ?_
        (rename Fr _ _ _ _ => lF); (rename News _ _ _ _ => lN)
        with_unfolding_all refine kmk_slice_lit lF lN (islist_of lN mring) (IsPart.int 1 _) IsPart.none (slice_tail epts) (fun D8 h8 F8 N8 l8 => ?_) (by with_unfolding_all rfl) (by intro _; with_unfolding_all rfl) hz9'
        (try dsimp only); (try k_fold); k_steps
        refine Stop.out ?_
        (rename Fr _ _ _ _ => lF); (rename News _ _ _ _ => lN)
        with_unfolding_all refine kmk_slice_lit lF lN (islist_of lN (.tail _ mring)) IsPart.none (IsPart.int 1 _) (slice_head epts) (fun D9 h8 F8 N8 l8 => ?_) (by with_unfolding_all rfl) (by intro _; with_unfolding_all rfl) hz9'
        (try dsimp only); (try k_fold); k_steps
        refine Stop.out ?_
        (rename Fr _ _ _ _ => lF); (rename News _ _ _ _ => lN)
        have eq9 : (refsOf rr).toArray.toList ++ (refsOf [p0]).toArray.toList = refsOf (rr ++ [p0]) := by simp [refsOf]
        have hx9 : (refsOf rr).toArray.toList.length + (refsOf [p0]).toArray.toList.length ≤ sizeLine := by
          have : pts.length = rr.length + 1 := by rw [epts]; rfl
          simp only [refsOf, List.length_map, List.length_cons, List.length_nil, sizeLine_eq]; omega
        refine kmk_add_lit lF lN (islist_of lN (.tail _ (.head _))) (islist_of lN (.head _)) eq9 (fun DA h7 F7 N7 l7 => ?_) hx9
        clear eq9 hx9
        (try dsimp only); (try k_fold); k_steps
        (rename Fr _ _ _ _ => lF); (rename News _ _ _ _ => lN)
        rename_i lh hh lo
        have hA := hereN lN (q := (DA, listOf (refsOf (rr ++ [p0])).toArray 0)) (.tail _ (.head _))
        have hB := pt_ofN lN (turn_pt epts fun p hp => PtIn.mono (G8.pt p hp) (fun _ h => .tail _ (.tail _ (.tail _ (.tail _ h)))))
        have hE9 := no_ofN lN (no10_cons rfl (no10_cons rfl (no10_cons rfl (no10_cons rfl G8.no))))
        have hC9' : 3 ≤ (rr ++ [p0]).length := by have : pts.length = rr.length + 1 := by rw [epts]; rfl
                                                  rw [List.length_append, List.length_singleton]; omega
        have hD9' : (rr ++ [p0]).length ≤ 10 := by have : pts.length = rr.length + 1 := by rw [epts]; rfl
                                                   rw [List.length_append, List.length_singleton]; omega
        (refine Stop.out ?_; k_dflt (refine' use_spec ?k1 ?k2 ?k3 ?k4 ?k5 ?kK (ec2_spec _ _ _ _ _ hA hB hC9' hD9' hE9 _) ?kd ?ku ?_; (case k1 => k_asm); (case k2 => k_asm); (case k3 => k_asm); (case k4 => k_asm); (case k5 => k_asm); (case kK => first | exact rfl | assumption); (case kd => (try dsimp only [ktrTop]); first | omega | exact Nat.le_of_ble_eq_true rfl); (case ku => (try dsimp only [ktrTop]); first | omega | exact Nat.le_of_ble_eq_true rfl)))
        intro r9 l9 h9 tk9 F9 N9 P9
        obtain ⟨other, rfl, T7, no9, kp⟩ := P9
        have T8 := T6.mono fun y hy => kp y (.tail _ (.tail _ (.tail _ (.tail _ hy))))
        have G9 := G8.mono (fun y hy => kp y (.tail _ (.tail _ (.tail _ (.tail _ hy))))) no9
        have eL := pure_left p0 q rr rs (epts ▸ k1) (epts ▸ k2) ⟨q1.trans (by rw [← rp0]), q2.trans (by rw [← rp0])⟩ (epts ▸ hC9) (by rw [← epts]; omega) (by rw [er0, er1]; exact fun e => c01 (by rw [Option.some.inj e])) (by rw [er0, List.getLast?_eq_getElem?, erl]; exact fun e => c0l (by rw [Option.some.inj e])) tz
        rw [← epts] at eL
        rw [← eL] at T7
        clear hA hB hE9 hC9' hD9' no9 kp G8 T6 T5 mring
        (try dsimp only); (try k_fold); k_steps
        have hA := T8
        have hB := T7
        (refine Stop.out ?_; k_dflt (refine' use_spec ?k1 ?k2 ?k3 ?k4 ?k5 ?kK (same_spec _ _ _ _ _ hA hB hLc) ?kd ?ku ?_; (case k1 => k_asm); (case k2 => k_asm); (case k3 => k_asm); (case k4 => k_asm); (case k5 => k_asm); (case kK => first | exact rfl | assumption); (case kd => (try dsimp only [ktrTop]); first | omega | exact Nat.le_of_ble_eq_true rfl); (case ku => (try dsimp only [ktrTop]); first | omega | exact Nat.le_of_ble_eq_true rfl)))
        intro r9 l9 h9 tk9 F9 N9 P9
        obtain ⟨rfl, rfl⟩ := P9
        clear hA hB
        (try dsimp only); (try k_fold); k_steps
        (rename Fr _ _ _ _ => lF); (rename News _ _ _ _ => lN)
        exact hret _ _ _ _ lF (fun y hy => lN y (G9.old y hy)) ⟨rfl, rfl⟩
      · have tz : twZ rs ≤ 0 := by omega
        have fr0 : (refsOf pts)[(0 : Int).toNat]? = some (.ref p0.a) := by rw [epts]; rfl
        (try dsimp only); (try k_fold); k_steps
        have hA := T5
        have hB : ∀ t ∈ earT pts, PAt _ t.1 ∧ PAt _ t.2.1 ∧ PAt _ t.2.2 := ear_at G8.pt
        have hC0 : PAt _ p0.a := ⟨p0.d, (G8.pt p0 (epts ▸ .head _)).1⟩
        have hD0 : PAt _ q.a := ⟨q.d, q5.1⟩
        (refine Stop.out ?_; k_dflt (refine' use_spec ?k1 ?k2 ?k3 ?k4 ?k5 ?kK (sw_spec _ _ _ _ _ _ hA hB hC0 hD0 hL9) ?kd ?ku ?_; (case k1 => k_asm); (case k2 => k_asm); (case k3 => k_asm); (case k4 => k_asm); (case k5 => k_asm); (case kK => first | exact rfl | assumption); (case kd => (try dsimp only [ktrTop]); first | omega | exact Nat.le_of_ble_eq_true rfl); (case ku => (try dsimp only [ktrTop]); first | omega | exact Nat.le_of_ble_eq_true rfl)))
        intro r9 l9 h9 tk9 F9 N9 P9
        obtain ⟨sw, rfl, T7, _, kp⟩ := P9
        have T8 := T6.mono kp
        have eR := pure_right p0 q rr rs (epts ▸ k1) (epts ▸ k2) ⟨q1.trans (by rw [← rp0]), q2.trans (by rw [← rp0])⟩ (epts ▸ hC9) (by rw [← epts]; omega) (by rw [er0, er1]; exact fun e => c01 (by rw [Option.some.inj e])) (by rw [er0, List.getLast?_eq_getElem?, erl]; exact fun e => c0l (by rw [Option.some.inj e])) tz
        rw [← epts] at eR
        rw [← eR] at T7
        have G9 := fun y hy => kp y (G8.old y hy)
        clear hA hB hC0 hD0 kp G8 T6 T5 mring fr0
        (try dsimp only); (try k_fold); k_steps
        have hA := T8
        have hB := T7
        (refine Stop.out ?_; k_dflt (refine' use_spec ?k1 ?k2 ?k3 ?k4 ?k5 ?kK (same_spec _ _ _ _ _ hA hB hLc) ?kd ?ku ?_; (case k1 => k_asm); (case k2 => k_asm); (case k3 => k_asm); (case k4 => k_asm); (case k5 => k_asm); (case kK => first | exact rfl | assumption); (case kd => (try dsimp only [ktrTop]); first | omega | exact Nat.le_of_ble_eq_true rfl); (case ku => (try dsimp only [ktrTop]); first | omega | exact Nat.le_of_ble_eq_true rfl)))
        intro r9 l9 h9 tk9 F9 N9 P9
        obtain ⟨rfl, rfl⟩ := P9
        clear hA hB
        (try dsimp only); (try k_fold); k_steps
        (rename Fr _ _ _ _ => lF); (rename News _ _ _ _ => lN)
        exact hret _ _ _ _ lF (fun y hy => lN y (G9 y hy)) ⟨rfl, rfl⟩
    · rename twZ rs = 0 => tz
      clear tz
      rename RG _ _ _ _ _ _ _ _ _ => GG
      rename TrIn _ _ _ => T1
      have mrow := GG.rows
      have mring := GG.ring
      have ma0 := GG.old _ w0
      have ma1 := GG.old _ w1
      have mal := GG.old _ wl
      (try dsimp only); (try k_fold); k_steps
      refine Stop.out ?_
      (rename Fr _ _ _ _ => lF); (rename News _ _ _ _ => lN)
      refine eq_tup2 lN ma0 ma1 (by ktr_units) ?_
      by_cases c01 : (r0.1, r0.2) = (r1.1, r1.2)
      · rw [decide_eq_true c01]
        (try dsimp only); (try k_fold); k_steps
        (rename Fr _ _ _ _ => lF); (rename News _ _ _ _ => lN)
        exact hret _ _ _ _ lF (fun q hq => lN q (GG.old q hq)) ⟨rfl, rfl⟩
      rw [decide_eq_false c01]
      (try dsimp only); (try k_fold); k_steps
      refine Stop.out ?_
      (rename Fr _ _ _ _ => lF); (rename News _ _ _ _ => lN)
      with_unfolding_all refine item_last lN mrow fl ?_
      (try dsimp only); (try k_fold); k_steps
      refine Stop.out ?_
      (rename Fr _ _ _ _ => lF); (rename News _ _ _ _ => lN)
      refine eq_tup2 lN ma0 mal (by ktr_units) ?_
      by_cases c0l : (r0.1, r0.2) = (rl.1, rl.2)
      · rw [decide_eq_true c0l]
        (try dsimp only); (try k_fold); k_steps
        (rename Fr _ _ _ _ => lF); (rename News _ _ _ _ => lN)
        exact hret _ _ _ _ lF (fun q hq => lN q (GG.old q hq)) ⟨rfl, rfl⟩
      rw [decide_eq_false c0l]
      (try dsimp only); (try k_fold); k_steps
      (refine Stop.out ?_; k_dflt (refine' use_spec ?k1 ?k2 ?k3 ?k4 ?k5 ?kK (point_spec _ _ _ _ _ _ (by first | assumption | exact Pt.hx _ | omega) (by first | assumption | exact Pt.hy _ | omega)) ?kd ?ku ?_; (case k1 => k_asm); (case k2 => k_asm); (case k3 => k_asm); (case k4 => k_asm); (case k5 => k_asm); (case kK => first | exact rfl | assumption); (case kd => (try dsimp only [ktrTop]); first | omega | exact Nat.le_of_ble_eq_true rfl); (case ku => (try dsimp only [ktrTop]); first | omega | exact Nat.le_of_ble_eq_true rfl)))
      intro r9 l9 h9 tk9 F9 N9 P9
      obtain ⟨q, rfl, q1, q2, q3, kp, _, only⟩ := P9
      have G6 := GG.mono kp (fun y hy => by
        rcases only y hy with h | rfl | rfl
        · exact GG.no y h
        · rfl
        · rfl)
      have T4 := T1.mono kp
      clear GG T1 mrow mring ma0 ma1 mal kp only
      (try dsimp only); (try k_fold); k_steps
      refine Stop.out ?_
      (rename Fr _ _ _ _ => lF); (rename News _ _ _ _ => lN)
      refine kup_listOf (zs := refsOf pts) lF lN G6.ring (by simp) (fun D5 c5 h1 F1 N1 lD => ?_) hz9
      (try dsimp only); (try k_fold); k_steps
      refine Stop.out ?_
      (rename Fr _ _ _ _ => lF); (rename News _ _ _ _ => lN)
      rename_i D6 h6 l6
      have eq9 : (refsOf pts).toArray.toList ++ #[Value.ref q.a].toList = refsOf (pts ++ [q]) := by simp [refsOf]
      have hx9 : (refsOf pts).toArray.toList.length + #[Value.ref q.a].toList.length ≤ sizeLine := by simp only [refsOf, List.length_map, List.length_cons, List.length_nil, sizeLine_eq]; omega
      refine kmk_add_lit lF lN (islist_of lN (.tail _ (.head _))) ⟨_, (lN _ (.head _)).1, rfl, _, rfl⟩ eq9 (fun D7 h7 F7 N7 l7 => ?_) hx9
      clear eq9 hx9
      (try dsimp only); (try k_fold); k_steps
      (rename Fr _ _ _ _ => lF); (rename News _ _ _ _ => lN)
      rename_i lh hh lo
      have hA := hereN lN (q := (D7, listOf (refsOf (pts ++ [q])).toArray 0)) (.tail _ (.head _))
      have G7 := RG.ofN lN G6 (fun _ h => .tail _ (.tail _ (.tail _ (.tail _ h)))) (no10_cons rfl (no10_cons rfl (no10_cons rfl (no10_cons rfl G6.no))))
      have q4 := PtIn.ofN lN (PtIn.mono q3 (fun _ h => .tail _ (.tail _ (.tail _ (.tail _ h)))))
      have hB := snoc_pt G7.pt q4
      have hE9 := G7.no
      have hC9' : 3 ≤ (pts ++ [q]).length := by rw [List.length_append]; omega
      have hD9' : (pts ++ [q]).length ≤ 10 := by rw [List.length_append, List.length_singleton]; omega
      have T5' := TrIn.ofN lN (T4.mono (fun _ h => .tail _ (.tail _ (.tail _ (.tail _ h)))))
      have hLc : (earT (pts ++ [q])).length ≤ 1000 := earT_length hC9' hD9'
      (refine Stop.out ?_; k_dflt (refine' use_spec ?k1 ?k2 ?k3 ?k4 ?k5 ?kK (ec2_spec _ _ _ _ _ hA hB hC9' hD9' hE9 _) ?kd ?ku ?_; (case k1 => k_asm); (case k2 => k_asm); (case k3 => k_asm); (case k4 => k_asm); (case k5 => k_asm); (case kK => first | exact rfl | assumption); (case kd => (try dsimp only [ktrTop]); first | omega | exact Nat.le_of_ble_eq_true rfl); (case ku => (try dsimp only [ktrTop]); first | omega | exact Nat.le_of_ble_eq_true rfl)))
      intro r9 l9 h9 tk9 F9 N9 P9
      obtain ⟨closed, rfl, T6, no9, kp⟩ := P9
      have T5 := T5'.mono kp
      have G8 := G7.mono kp no9
      have q5 := q4.mono kp
      clear hA hB hE9 hC9' hD9' G7 G6 T4 T5' q3 q4 no9 kp
      have mring := G8.ring
      (try dsimp only); (try k_fold); k_steps
      · rename 0 < twZ rs => tz
        refine Stop.out ?_
        (rename Fr _ _ _ _ => lF); (rename News _ _ _ _ => lN)
        with_unfolding_all refine kmk_slice_lit lF lN (islist_of lN mring) (IsPart.int 1 _) IsPart.none (slice_tail epts) (fun D8 h8 F8 N8 l8 => ?_) (by with_unfolding_all rfl) (by intro _; with_unfolding_all rfl) hz9'
        (try dsimp only); (try k_fold); k_steps
        refine Stop.out ?_
        (rename Fr _ _ _ _ => lF); (rename News _ _ _ _ => lN)
        with_unfolding_all refine kmk_slice_lit lF lN (islist_of lN (.tail _ mring)) IsPart.none (IsPart.int 1 _) (slice_head epts) (fun D9 h8 F8 N8 l8 => ?_) (by with_unfolding_all rfl) (by intro _; with_unfolding_all rfl) hz9'
        (try dsimp only); (try k_fold); k_steps
        refine Stop.out ?_
        (rename Fr _ _ _ _ => lF); (rename News _ _ _ _ => lN)
        have eq9 : (refsOf rr).toArray.toList ++ (refsOf [p0]).toArray.toList = refsOf (rr ++ [p0]) := by simp [refsOf]
        have hx9 : (refsOf rr).toArray.toList.length + (refsOf [p0]).toArray.toList.length ≤ sizeLine := by
          have : pts.length = rr.length + 1 := by rw [epts]; rfl
          simp only [refsOf, List.length_map, List.length_cons, List.length_nil, sizeLine_eq]; omega
        refine kmk_add_lit lF lN (islist_of lN (.tail _ (.head _))) (islist_of lN (.head _)) eq9 (fun DA h7 F7 N7 l7 => ?_) hx9
        clear eq9 hx9
        (try dsimp only); (try k_fold); k_steps
        (rename Fr _ _ _ _ => lF); (rename News _ _ _ _ => lN)
        rename_i lh hh lo
        have hA := hereN lN (q := (DA, listOf (refsOf (rr ++ [p0])).toArray 0)) (.tail _ (.head _))
        have hB := pt_ofN lN (turn_pt epts fun p hp => PtIn.mono (G8.pt p hp) (fun _ h => .tail _ (.tail _ (.tail _ (.tail _ h)))))
        have hE9 := no_ofN lN (no10_cons rfl (no10_cons rfl (no10_cons rfl (no10_cons rfl G8.no))))
        have hC9' : 3 ≤ (rr ++ [p0]).length := by have : pts.length = rr.length + 1 := by rw [epts]; rfl
                                                  rw [List.length_append, List.length_singleton]; omega
        have hD9' : (rr ++ [p0]).length ≤ 10 := by have : pts.length = rr.length + 1 := by rw [epts]; rfl
                                                   rw [List.length_append, List.length_singleton]; omega
        (refine Stop.out ?_; k_dflt (refine' use_spec ?k1 ?k2 ?k3 ?k4 ?k5 ?kK (ec2_spec _ _ _ _ _ hA hB hC9' hD9' hE9 _) ?kd ?ku ?_; (case k1 => k_asm); (case k2 => k_asm); (case k3 => k_asm); (case k4 => k_asm); (case k5 => k_asm); (case kK => first | exact rfl | assumption); (case kd => (try dsimp only [ktrTop]); first | omega | exact Nat.le_of_ble_eq_true rfl); (case ku => (try dsimp only [ktrTop]); first | omega | exact Nat.le_of_ble_eq_true rfl)))
        intro r9 l9 h9 tk9 F9 N9 P9
        obtain ⟨other, rfl, T7, no9, kp⟩ := P9
        have T8 := T6.mono fun y hy => kp y (.tail _ (.tail _ (.tail _ (.tail _ hy))))
        have G9 := G8.mono (fun y hy => kp y (.tail _ (.tail _ (.tail _ (.tail _ hy))))) no9
        have eL := pure_left p0 q rr rs (epts ▸ k1) (epts ▸ k2) ⟨q1.trans (by rw [← rp0]), q2.trans (by rw [← rp0])⟩ (epts ▸ hC9) (by rw [← epts]; omega) (by rw [er0, er1]; exact fun e => c01 (by rw [Option.some.inj e])) (by rw [er0, List.getLast?_eq_getElem?, erl]; exact fun e => c0l (by rw [Option.some.inj e])) tz
        rw [← epts] at eL
        rw [← eL] at T7
        clear hA hB hE9 hC9' hD9' no9 kp G8 T6 T5 mring
        (try dsimp only); (try k_fold); k_steps
        have hA := T8
        have hB := T7
        (refine Stop.out ?_; k_dflt (refine' use_spec ?k1 ?k2 ?k3 ?k4 ?k5 ?kK (same_spec _ _ _ _ _ hA hB hLc) ?kd ?ku ?_; (case k1 => k_asm); (case k2 => k_asm); (case k3 => k_asm); (case k4 => k_asm); (case k5 => k_asm); (case kK => first | exact rfl | assumption); (case kd => (try dsimp only [ktrTop]); first | omega | exact Nat.le_of_ble_eq_true rfl); (case ku => (try dsimp only [ktrTop]); first | omega | exact Nat.le_of_ble_eq_true rfl)))
        intro r9 l9 h9 tk9 F9 N9 P9
        obtain ⟨rfl, rfl⟩ := P9
        clear hA hB
        (try dsimp only); (try k_fold); k_steps
        (rename Fr _ _ _ _ => lF); (rename News _ _ _ _ => lN)
        exact hret _ _ _ _ lF (fun y hy => lN y (G9.old y hy)) ⟨rfl, rfl⟩
      · have tz : twZ rs ≤ 0 := by omega
        have fr0 : (refsOf pts)[(0 : Int).toNat]? = some (.ref p0.a) := by rw [epts]; rfl
        (try dsimp only); (try k_fold); k_steps
        have hA := T5
        have hB : ∀ t ∈ earT pts, PAt _ t.1 ∧ PAt _ t.2.1 ∧ PAt _ t.2.2 := ear_at G8.pt
        have hC0 : PAt _ p0.a := ⟨p0.d, (G8.pt p0 (epts ▸ .head _)).1⟩
        have hD0 : PAt _ q.a := ⟨q.d, q5.1⟩
        (refine Stop.out ?_; k_dflt (refine' use_spec ?k1 ?k2 ?k3 ?k4 ?k5 ?kK (sw_spec _ _ _ _ _ _ hA hB hC0 hD0 hL9) ?kd ?ku ?_; (case k1 => k_asm); (case k2 => k_asm); (case k3 => k_asm); (case k4 => k_asm); (case k5 => k_asm); (case kK => first | exact rfl | assumption); (case kd => (try dsimp only [ktrTop]); first | omega | exact Nat.le_of_ble_eq_true rfl); (case ku => (try dsimp only [ktrTop]); first | omega | exact Nat.le_of_ble_eq_true rfl)))
        intro r9 l9 h9 tk9 F9 N9 P9
        obtain ⟨sw, rfl, T7, _, kp⟩ := P9
        have T8 := T6.mono kp
        have eR := pure_right p0 q rr rs (epts ▸ k1) (epts ▸ k2) ⟨q1.trans (by rw [← rp0]), q2.trans (by rw [← rp0])⟩ (epts ▸ hC9) (by rw [← epts]; omega) (by rw [er0, er1]; exact fun e => c01 (by rw [Option.some.inj e])) (by rw [er0, List.getLast?_eq_getElem?, erl]; exact fun e => c0l (by rw [Option.some.inj e])) tz
        rw [← epts] at eR
        rw [← eR] at T7
        have G9 := fun y hy => kp y (G8.old y hy)
        clear hA hB hC0 hD0 kp G8 T6 T5 mring fr0
        (try dsimp only); (try k_fold); k_steps
        have hA := T8
        have hB := T7
        (refine Stop.out ?_; k_dflt (refine' use_spec ?k1 ?k2 ?k3 ?k4 ?k5 ?kK (same_spec _ _ _ _ _ hA hB hLc) ?kd ?ku ?_; (case k1 => k_asm); (case k2 => k_asm); (case k3 => k_asm); (case k4 => k_asm); (case k5 => k_asm); (case kK => first | exact rfl | assumption); (case kd => (try dsimp only [ktrTop]); first | omega | exact Nat.le_of_ble_eq_true rfl); (case ku => (try dsimp only [ktrTop]); first | omega | exact Nat.le_of_ble_eq_true rfl)))
        intro r9 l9 h9 tk9 F9 N9 P9
        obtain ⟨rfl, rfl⟩ := P9
        clear hA hB
        (try dsimp only); (try k_fold); k_steps
        (rename Fr _ _ _ _ => lF); (rename News _ _ _ _ => lN)
        exact hret _ _ _ _ lF (fun y hy => lN y (G9 y hy)) ⟨rfl, rfl⟩
end
end
end Mine

open PySem PySem.W PyProof.Rows PySem.Calls
set_option Elab.async false
set_option maxRecDepth 100000
namespace Mine
theorem freshMT : True ∧ True := by
  w_top off
  try (walk1; fail)
  exact ⟨trivial, trivial⟩
end Mine
namespace Mine
open PySem.Builtin.Int (intBits)
theorem Spec.less {w : World} {f : Addr} {vals : List Value} {news : List (Addr × Obj)} {D U : Nat} {P P' : Value → List (Addr × Obj) → Prop} (S : Spec w f vals news D U P) (h : ∀ r X, P r X → ∃ Y, (∀ q ∈ Y, q ∈ X) ∧ P' r Y) : Spec w f vals news D U P' := by
  intro mean mg mb dp un gd cn cs a ccd cl outer A₀ base h₀ L m s Q E B F X N T hk hd hu hret
  exact S mean mg mb dp un gd cn cs a ccd cl outer A₀ base h₀ L m s Q E B F X N T hk hd hu fun r news' h' tk' F' N' hp => by
    obtain ⟨Y, k, p⟩ := h r news' hp
    exact hret r Y h' tk' F' (fun q hq => N' q (k q hq)) p
theorem refs_rfs (pts : List Pt) : refsOf pts = rfs (pts.map (·.a)) := by simp [refsOf, rfs]
theorem hv2_spec (w : World) (news : List (Addr × Obj)) (lr ep : Nat) (pts : List Pt) (hl : (lr, listOf (refsOf pts).toArray ep) ∈ news) (h0 : 0 < pts.length) (hz : pts.length ≤ 400) (hnd : No10 news) :
  Spec w 189 [.ref lr] news 3 30 (fun v news' => ∃ a, v = .ref a ∧ TrIn news' a (hv pts) ∧ No10 news' ∧ (∀ q ∈ news, q ∈ news')) := by
  refine (hv_spec w news lr ep (pts.map (·.a)) (by rw [← refs_rfs]; exact hl) (by rw [List.length_map]; exact h0) (by rw [List.length_map]; exact hz)).less ?_
  rintro r X ⟨a, rfl, T, _, k⟩
  rw [List.length_map] at T
  exact ⟨X.filter fun q => no10 q.2, fun q hq => (List.mem_filter.mp hq).1, a, rfl, T.only, no10_filter, fun q hq => List.mem_filter.mpr ⟨k q hq, hnd q hq⟩⟩
theorem ksN {S Y : List (Addr × Obj)} {h₀ h : Heap} {L : Addr} (_N : News h₀ L h Y) (P : ∀ q ∈ S, q ∈ Y) : ∀ q ∈ S, q ∈ Y := P
theorem cvl3 {pts r : List Pt} {p q : Pt} {W : Int} (e : pts = p :: r) (hc : CurveOf pts W) (hq : q.x = p.x ∧ q.y = p.y) (h3 : 3 ≤ pts.length) (h9 : pts.length ≤ 9) : earT (pts ++ [q]) = hv (r ++ [p]) := by
  subst e; exact pure_curve3 p q r W hc hq h3 h9
theorem cvl4 {pts r : List Pt} {p q : Pt} {W : Int} (e : pts = r ++ [p]) (hc : CurveOf pts W) (hq : q.x = p.x ∧ q.y = p.y) (h3 : 3 ≤ pts.length) (h9 : pts.length ≤ 9) : earT (pts.reverse ++ [q]) = hv (r ++ [q]) := by
  subst e; exact pure_curve4 p q r W hc hq h3 h9
theorem slice_init {pts r : List Pt} {p : Pt} (e : pts = r ++ [p]) : (slicePick (refsOf pts).toArray none (some (-1)) none).toList = refsOf r := by
  have hs : (refsOf pts).toArray.size = r.length + 1 := by rw [e]; simp [refsOf]
  have hb : sliceBounds none (some (-1)) none (refsOf pts).toArray.size = (((0 : Nat) : Int), ((r.length : Nat) : Int), 1) := by
    rw [hs]
    simp only [sliceBounds, Option.getD_none, show (1 : Int) > 0 by decide, if_true, if_pos (show (-1 : Int) < 0 by decide)]
    congr 1
    congr 1
    omega
  rw [kmk_pick_nat _ hb, e]
  simp [refsOf]
/-- corners made of the first numbers -/
def CvJ (w : World) (news : List (Addr × Obj)) (cell : Addr × Obj) (W : Int) (i : Nat) (ys : List Value) (nx : List (Addr × Obj)) : Prop :=
  ∃ pts, ys = refsOf pts ∧ pts.length = i ∧ pts.map (fun p => (p.x, p.y)) = (List.range i).map (crow W) ∧ (∀ p ∈ pts, PtIn w nx p) ∧ (∀ q ∈ news, q ∈ nx) ∧ No10 nx ∧ cell ∈ nx
theorem no10_cell {o : Obj} {v : Option Value} (h : o.data = .cell v) : no10 o = true := by unfold no10; rw [h]
section
local macro_rules | `(tactic| bits_by_make) => `(tactic| first | exact Pt.hx _ | exact Pt.hy _ | with_reducible assumption)
local macro_rules | `(tactic| k_mem) => `(tactic| (refine mem_of ?_; ktr_member))
section
local macro_rules | `(tactic| walk_at "eval Call") => `(tactic| first | ((with_reducible show wpAny _ _ (eval (Expr.Call (Expr.Name _ _) _ (_ :: _) _) _) _ _ _); k_dflt (refine wpAny_Call_Name_kw ?_)) | k_dflt (refine Call_ ?_))
local macro_rules | `(tactic| walk_at "call ref") => `(tactic| (k_here; refine Stop.intro ?_))
local macro_rules | `(tactic| walk_at "eval ListComp") => `(tactic| (k_here; refine Stop.intro ?_))
local macro_rules | `(tactic| walk_at "exec Assign cons ListComp") => `(tactic| (k_here; refine Stop.intro ?_))
local macro_rules | `(tactic| walk_at "CompSrc") => `(tactic| (refine Stop.intro ?_))
local macro_rules | `(tactic| walk_at "CompEnd") => `(tactic| (refine Stop.intro ?_))
local macro_rules | `(tactic| walk_at "call type:list") => `(tactic| (k_here; refine Stop.intro ?_))
local macro_rules | `(tactic| walk_at "call type:reversed") => `(tactic| (k_here; refine Stop.intro ?_))
local macro_rules | `(tactic| walk_at "binaryOp Add ref ref") => `(tactic| (k_here; refine Stop.intro ?_))
local macro_rules | `(tactic| walk_at "subscriptTail Name Slice") => `(tactic| (k_here; refine Stop.intro ?_))
local macro_rules | `(tactic| walk_at "subscriptTail Name Slice ref ref") => `(tactic| (k_here; refine Stop.intro ?_))
local macro_rules | `(tactic| walk_at "subscriptTail Name UnaryOp ref int") => `(tactic| (k_here; refine Stop.intro ?_))
local macro_rules | `(tactic| walk_at "subscriptTail Name UnaryOp") => `(tactic| (k_here; refine Stop.intro ?_))
local macro_rules | `(tactic| walk_at "call builtin:len") => `(tactic| (k_here; k_dflt (refine' len_mine ?k1 ?k2 ?k3 ?k4 ?_; (case k1 => k_asm); (case k2 => k_mem); (case k3 => assumption); (case k4 => omega)); (try dsimp only); (try k_fold)))
local macro_rules | `(tactic| walk_at "subscriptTail") => `(tactic| (k_here; (with_reducible show wpAny _ _ (subscriptTail _ _ (Value.ref _) (Value.int _ _)) _ _ _); (with_unfolding_all refine' item_mine ?k1 ?k2 ?k3 ?k4 ?k5 ?_; (case k1 => k_asm); (case k2 => k_mem); (case k5 => assumption); (case k3 => first | omega | assumption); (case k4 => first | omega | assumption)); (try dsimp only); (try k_fold)))
local macro_rules | `(tactic| walk_at "subscriptTail Name") => `(tactic| (k_here; (with_reducible show wpAny _ _ (subscriptTail _ _ (Value.ref _) (Value.int _ _)) _ _ _); (with_unfolding_all refine' item_mine ?k1 ?k2 ?k3 ?k4 ?k5 ?_; (case k1 => k_asm); (case k2 => k_mem); (case k5 => assumption); (case k3 => first | omega | assumption); (case k4 => first | omega | assumption)); (try dsimp only); (try k_fold)))
local macro_rules | `(tactic| walk_at "subscriptTail Name Name") => `(tactic| (k_here; (with_reducible show wpAny _ _ (subscriptTail _ _ (Value.ref _) (Value.int _ _)) _ _ _); (with_unfolding_all refine' item_mine ?k1 ?k2 ?k3 ?k4 ?k5 ?_; (case k1 => k_asm); (case k2 => k_mem); (case k5 => assumption); (case k3 => first | omega | assumption); (case k4 => first | omega | assumption)); (try dsimp only); (try k_fold)))
local macro_rules | `(tactic| walk_at "subscriptTail Name Constant") => `(tactic| (k_here; (with_reducible show wpAny _ _ (subscriptTail _ _ (Value.ref _) (Value.int _ _)) _ _ _); (with_unfolding_all refine' item_mine ?k1 ?k2 ?k3 ?k4 ?k5 ?_; (case k1 => k_asm); (case k2 => k_mem); (case k5 => assumption); (case k3 => first | omega | assumption); (case k4 => first | omega | assumption)); (try dsimp only); (try k_fold)))
set_option maxHeartbeats 4000000 in
theorem curve_spec (w : World) (news : List (Addr × Obj)) (n : Nat) (W : Int) (t1 t2 : Tok) (h3 : 3 ≤ n) (h9 : n ≤ 9) (hW : intBits W ≤ 1500000) (hnd : No10 news) :
  Spec w 206 [.int (n : Int) t1, .int W t2] news 40 400 (fun v news' => news = news' ∧ v = .bool true) := by
  unfold Spec
  intro mean mg mb dp un gd cn cs aA ccd cl outer A₀ base h₀ L m s Q E B F X N T hk hd hu hret
  have kf9 : (PySem.Challenge.rw_bj5012_02 = PySem.Challenge.rw_bj5012_02 ∧ ∀ p, Mine.hd.heap_39 p = Mine.hd.heap_39 p) := (by k_fill; exact ⟨rfl, fun _ => rfl⟩)
  clear kf9
  refine wpAny_call ?_
  k_dflt (refine' code_defC ?k1 ?k2 ?k3 ?k4 ?k5 ?kA ?kF ?kK ?k6 ?k7 ?k8 ?k9 ?kB ?kD ?_ ?c2 ?c3 ?c4; (case kA => exact rfl); (case kF => exact rfl); (case kK => first | exact rfl | assumption); (case k1 => k_asm); (case k2 => k_asm); (case k3 => k_asm); (case k4 => k_asm); (case k5 => k_asm); (case k6 => k_is); (case k7 => k_is); (case k8 => ktr_room); (case k9 => first | exact BindsTo.of_eq rfl | exact binds_K (by k_in) rfl (by k_is) rfl rfl rfl); (case kB => exact rfl); (case kD => decide +kernel); (case c2 => exact rfl); (case c3 => exact rfl); (case c4 => exact rfl); k_whole; intro g' L' h' tk' cells' FG' F' N' Y' B' X' T' l1; (try k_lt l1); k_cells Y'; (try simp only [List.cons_append, List.nil_append] at N'); (try dsimp only); (try k_fold))
  k_steps
  refine Stop.out ?_
  rename Fr _ _ _ _ => lF
  rename News _ _ _ _ => lN
  refine LCg.Assign_ListComp_U (F₀ := lF) (by rfl) (by with_unfolding_all rfl) (by with_unfolding_all rfl) (by decide) (by rfl) (by decide) (by rfl) (by rfl) (by rfl) ?_
  rename_i oW dW
  replace dW : oW.data = .cell (some (.int W t2)) := dW
  k_steps
  refine Stop.out ?_
  (rename Fr _ _ _ _ => lF); (rename News _ _ _ _ => lN)
  refine LCg.CompSrc.range (by rfl) lF lN (by assumption) (range_small (by omega)) (range_size _) (Nat.le_trans h9 (by simp [sizeLine_eq])) fun g => ?_
  refine comp_inv (CvJ w news (L' + 1, oW) W) n ⟨[], rfl, rfl, rfl, List.forall_mem_nil _, fun _ h => .tail _ h, no10_cons (no10_cell dW) hnd, .head _⟩ ?_ ?_
  · rintro i ys nx v I oI C oC D m₂ h tk E' hi ⟨pts, rfl, k1, k2, k3, k4, k5, k6⟩ hv hC hx F9 N9 off ne
    obtain ⟨ti, rfl⟩ := hv
    have bi : intBits (0 + (i : Int)) ≤ 64 := by rw [Int.zero_add]; exact intBits_cast_le (by simp only [sizeLine_eq]; omega)
    have bi' : intBits (0 + (i : Int)) ≤ 2000000 := Nat.le_trans bi (by omega)
    have bW' : intBits W ≤ 2000000 := Nat.le_trans hW (by omega)
    have bx : intBits ((0 + (i : Int)) + W * (0 + (i : Int)) * (0 + (i : Int))) ≤ 2000000 := Nat.le_trans (intBits_add_le bi (intBits_mul_le (intBits_mul_le hW bi) bi)) (by omega)
    have by' : intBits ((0 + (i : Int)) * (0 + (i : Int))) ≤ 2000000 := Nat.le_trans (intBits_mul_le bi bi) (by omega)
    clear lF lN
    k_steps
    (refine Stop.out ?_; k_dflt (refine' use_spec ?k1 ?k2 ?k3 ?k4 ?k5 ?kK (point_spec _ _ _ _ _ _ (by first | assumption | exact Pt.hx _ | omega) (by first | assumption | exact Pt.hy _ | omega)) ?kd ?ku ?_; (case k1 => k_asm); (case k2 => k_asm); (case k3 => k_asm); (case k4 => k_asm); (case k5 => k_asm); (case kK => first | exact rfl | assumption); (case kd => (try dsimp only [ktrTop]); first | omega | exact Nat.le_of_ble_eq_true rfl); (case ku => (try dsimp only [ktrTop]); first | omega | exact Nat.le_of_ble_eq_true rfl)))
    intro r9 l9 h9 tk9 F9 N9 P9
    obtain ⟨p, rfl, c1, c2, c3, c4, c5, c6⟩ := P9
    (try dsimp only); (try k_fold); k_steps
    refine Stop.out ?_
    (rename Fr _ _ _ _ => lF); (rename News _ _ _ _ => lN)
    refine comp_end lF lN (c4 _ (.head _)) (c4 _ (.tail _ (.head _))) (c4 _ (.tail _ (.tail _ (.head _)))) fun nx' z z2 => ?_
    have kk : ∀ q ∈ nx, q ∈ nx' := fun q hq => z q (c4 _ (.tail _ (.tail _ (.tail _ hq)))) (off.mem q hq).1 (off.mem q hq).2.1 (off.mem q hq).2.2
    have u1 := c5 _ (.head _)
    have u2 := c5 _ (.tail _ (.head _))
    have u3 := c5 _ (.tail _ (.tail _ (.head _)))
    refine ⟨trivial, pts ++ [p], by simp [refsOf], by rw [List.length_append, k1]; rfl, ?_, ?_, fun q hq => kk q (k4 q hq), ?_, kk _ k6⟩
    · rw [List.map_append, k2, List.range_succ, List.map_append]
      simp [crow, c1, c2]
    · intro q hq
      rcases List.mem_append.mp hq with hq | hq
      · exact (k3 q hq).mono kk
      · rw [List.mem_singleton.mp hq]
        exact ⟨z _ c3.1 (Nat.ne_of_gt u1.2) (Nat.ne_of_gt u2.2) (Nat.ne_of_gt u3.2), z _ c3.2 (Nat.ne_of_gt u1.1) (Nat.ne_of_gt u2.1) (Nat.ne_of_gt u3.1)⟩
    · intro q hq
      obtain ⟨w1, w2, w3, w4⟩ := z2 q hq
      rcases c6 q w1 with hq | rfl | rfl
      · rcases List.mem_cons.mp hq with rfl | hq
        · exact absurd rfl w2
        · rcases List.mem_cons.mp hq with rfl | hq
          · exact absurd rfl w3
          · rcases List.mem_cons.mp hq with rfl | hq
            · exact absurd rfl w4
            · exact k5 q hq
      · exact no10_inst
      · exact no10_pt
  · rintro ys nx ⟨pts, rfl, k1, k2, k3, k4, k5, k6⟩
    have hcv : CurveOf pts W := by unfold CurveOf; rw [k1]; exact k2
    have hz9 : (refsOf pts).toArray.toList.length ≤ sizeLine := by simp only [refsOf, List.length_map, sizeLine_eq]; omega
    have hz9' : (refsOf pts).toArray.size ≤ sizeLine := by rw [← Array.length_toList]; exact hz9
    have hC9 : 3 ≤ pts.length := by omega
    have hD9 : pts.length ≤ 10 := by omega
    obtain ⟨p0, rr, epts⟩ : ∃ p r, pts = p :: r := by
      cases pts with
      | nil => simp at hC9
      | cons p r => exact ⟨p, r, rfl⟩
    obtain ⟨pl, rl, epl⟩ : ∃ p r, pts = r ++ [p] := by
      have hne : pts ≠ [] := fun e => by rw [e] at hC9; simp at hC9
      exact ⟨pts.getLast hne, pts.dropLast, (List.dropLast_concat_getLast hne).symm⟩
    have f0 : (refsOf pts)[(0 : Int).toNat]? = some (.ref p0.a) := by rw [epts]; rfl
    have fl : (refsOf pts).getLast? = some (.ref pl.a) := by rw [epl]; simp [refsOf]
    have r1 := (k3 p0 (by rw [epts]; exact .head _)).1
    have r2 := (k3 p0 (by rw [epts]; exact .head _)).2
    have r3 := (k3 pl (by rw [epl]; simp)).1
    have r4 := (k3 pl (by rw [epl]; simp)).2
    clear lF lN
    k_steps
    refine Stop.out ?_
    (rename Fr _ _ _ _ => lF); (rename News _ _ _ _ => lN)
    rename_i D0 h0 tk0 oD0
    have l00 : ∀ q ∈ ((D0, LCg.lst (refsOf pts)) :: nx), q ∈ ((D0, LCg.lst (refsOf pts)) :: nx) := fun _ h => h
    refine krv_reversed lF lN (islist_of lN (.head _)) (fun D3 h8 F8 N8 l8 => ?_)
    clear lF lN
    (try dsimp only); (try k_fold); k_steps
    refine Stop.out ?_
    (rename Fr _ _ _ _ => lF); (rename News _ _ _ _ => lN)
    refine list_rev (vs := refsOf pts) (by rfl) lF lN (fun q hq => Nat.ne_of_lt (l8 q hq)) (.head _) (by rw [refsOf, List.length_map]; omega) (fun D4 c4 h1 tk1 F1 N1 lD => ?_)
    have er : (refsOf pts).reverse = refsOf pts.reverse := by unfold refsOf; rw [List.map_reverse]
    rw [er] at N1
    clear lF lN
    (try dsimp only); (try k_fold); k_steps
    (refine Stop.out ?_; k_dflt (refine' use_spec ?k1 ?k2 ?k3 ?k4 ?k5 ?kK (point_spec _ _ _ _ _ _ (by first | assumption | exact Pt.hx _ | omega) (by first | assumption | exact Pt.hy _ | omega)) ?kd ?ku ?_; (case k1 => k_asm); (case k2 => k_asm); (case k3 => k_asm); (case k4 => k_asm); (case k5 => k_asm); (case kK => first | exact rfl | assumption); (case kd => (try dsimp only [ktrTop]); first | omega | exact Nat.le_of_ble_eq_true rfl); (case ku => (try dsimp only [ktrTop]); first | omega | exact Nat.le_of_ble_eq_true rfl)))
    intro r9 l9 h9 tk9 F9 N9 P9
    obtain ⟨pf, rfl, a1, a2, a3, kp, _, only⟩ := P9
    have no1 : No10 l9 := fun y hy => by
      rcases only y hy with h | rfl | rfl
      · exact no10_cons rfl (no10_cons rfl k5) y h
      · rfl
      · rfl
    have kn : ∀ q ∈ nx, q ∈ l9 := fun q hq => kp q (.tail _ (.tail _ hq))
    have hring := kp _ (.tail _ (.head _))
    have hback := kp _ (.head _)
    have r3' := kn _ r3
    have r4' := kn _ r4
    clear kp only r1 r2 r3 r4 lD
    (try dsimp only); (try k_fold); k_steps
    refine Stop.out ?_
    (rename Fr _ _ _ _ => lF); (rename News _ _ _ _ => lN)
    with_unfolding_all refine item_last lN hring fl ?_
    (try dsimp only); (try k_fold); k_steps
    refine Stop.out ?_
    (rename Fr _ _ _ _ => lF); (rename News _ _ _ _ => lN)
    with_unfolding_all refine item_last lN hring fl ?_
    (try dsimp only); (try k_fold); k_steps
    (refine Stop.out ?_; k_dflt (refine' use_spec ?k1 ?k2 ?k3 ?k4 ?k5 ?kK (point_spec _ _ _ _ _ _ (by first | assumption | exact Pt.hx _ | omega) (by first | assumption | exact Pt.hy _ | omega)) ?kd ?ku ?_; (case k1 => k_asm); (case k2 => k_asm); (case k3 => k_asm); (case k4 => k_asm); (case k5 => k_asm); (case kK => first | exact rfl | assumption); (case kd => (try dsimp only [ktrTop]); first | omega | exact Nat.le_of_ble_eq_true rfl); (case ku => (try dsimp only [ktrTop]); first | omega | exact Nat.le_of_ble_eq_true rfl)))
    intro r9 S9 h9 tk9 F9 N9 P9
    obtain ⟨pe, rfl, b1, b2, se, kp, _, only⟩ := P9
    have nY : No10 S9 := fun y hy => by
      rcases only y hy with h | rfl | rfl
      · exact no1 y h
      · rfl
      · rfl
    have kY : ∀ q ∈ S9, q ∈ S9 := fun _ h => h
    have sring := kp _ hring
    have sback := kp _ hback
    have spt : ∀ p ∈ pts, PtIn w S9 p := fun p hp => (k3 p hp).mono fun q hq => kp q (kn q hq)
    have sf : PtIn w S9 pf := a3.mono kp
    have sold : ∀ q ∈ news, q ∈ S9 := fun q hq => kp q (kn q (k4 q hq))
    have hlr : pts.length = rr.length + 1 := by rw [epts]; rfl
    have hll : pts.length = rl.length + 1 := by rw [epl, List.length_append]; rfl
    clear kp only kn hring hback a3 no1 r3' r4' k3 k4 k5 k6 f0 fl er
    (try dsimp only); (try k_fold); k_steps
    refine Stop.out ?_
    (rename Fr _ _ _ _ => lF); (rename News _ _ _ _ => lN)
    refine kup_listOf (zs := refsOf (pts)) lF lN (kY _ sring) (by simp) (fun DA cA h1 F1 N1 lD => ?_) hz9
    (try dsimp only); (try k_fold); k_steps
    (rename Fr _ _ _ _ => lF); (rename News _ _ _ _ => lN)
    rename_i lh hh lo
    have hA := hereN lN (q := (DA, listOf (refsOf (pts)).toArray cA)) (.tail _ (.head _))
    have kZ := ksN lN (fun q hq => .tail _ (.tail _ (kY q hq)))
    have hE9 := no_ofN lN (no10_cons rfl (no10_cons rfl nY))
    have hB := pt_ofN lN (fun p hp => (spt p hp).mono kZ)
    have hL9 : (earT (pts)).length ≤ 1000 := earT_length hC9 hD9
    (refine Stop.out ?_; k_dflt (refine' use_spec ?k1 ?k2 ?k3 ?k4 ?k5 ?kK (ec2_spec _ _ _ _ _ hA hB hC9 hD9 hE9 _) ?kd ?ku ?_; (case k1 => k_asm); (case k2 => k_asm); (case k3 => k_asm); (case k4 => k_asm); (case k5 => k_asm); (case kK => first | exact rfl | assumption); (case kd => (try dsimp only [ktrTop]); first | omega | exact Nat.le_of_ble_eq_true rfl); (case ku => (try dsimp only [ktrTop]); first | omega | exact Nat.le_of_ble_eq_true rfl)))
    intro r9 l9 h9 tk9 F9 N9 P9
    obtain ⟨tA, rfl, T1, nY2, kp⟩ := P9
    have kY2 := ksN N9 (fun q hq => kp q (kZ q hq))
    clear hA hB hE9 kp kZ kY nY lo
    (try dsimp only); (try k_fold); k_steps
    (rename Fr _ _ _ _ => lF); (rename News _ _ _ _ => lN)
    have hA := hereN lN (kY2 _ sring)
    have kZ := ksN lN (fun q hq => kY2 q hq)
    have hE9 := no_ofN lN nY2
    have T1' := TrIn.ofN lN (TrIn.mono T1 (fun _ h => h))
    have hP9 : 0 < (pts).length := by omega
    have hQ9 : (pts).length ≤ 400 := by omega
    (refine Stop.out ?_; k_dflt (refine' use_spec ?k1 ?k2 ?k3 ?k4 ?k5 ?kK (hv2_spec _ _ _ _ _ hA hP9 hQ9 hE9) ?kd ?ku ?_; (case k1 => k_asm); (case k2 => k_asm); (case k3 => k_asm); (case k4 => k_asm); (case k5 => k_asm); (case kK => first | exact rfl | assumption); (case kd => (try dsimp only [ktrTop]); first | omega | exact Nat.le_of_ble_eq_true rfl); (case ku => (try dsimp only [ktrTop]); first | omega | exact Nat.le_of_ble_eq_true rfl)))
    intro r9 l9 h9 tk9 F9 N9 P9
    obtain ⟨tB, rfl, T2, nY, kp⟩ := P9
    have kY := ksN N9 (fun q hq => kp q (kZ q hq))
    have T3 := T1'.mono kp
    have eL := pure_curve1 pts W hcv hC9 (by omega)
    rw [eL] at T3 hL9
    clear hA hE9 kp kZ kY2 nY2 T1 T1' hP9 hQ9 eL
    (try dsimp only); (try k_fold); k_steps
    have hA := T3
    have hB := T2
    (refine Stop.out ?_; k_dflt (refine' use_spec ?k1 ?k2 ?k3 ?k4 ?k5 ?kK (same_spec _ _ _ _ _ hA hB hL9) ?kd ?ku ?_; (case k1 => k_asm); (case k2 => k_asm); (case k3 => k_asm); (case k4 => k_asm); (case k5 => k_asm); (case kK => first | exact rfl | assumption); (case kd => (try dsimp only [ktrTop]); first | omega | exact Nat.le_of_ble_eq_true rfl); (case ku => (try dsimp only [ktrTop]); first | omega | exact Nat.le_of_ble_eq_true rfl)))
    intro r9 l9 h9 tk9 F9 N9 P9
    obtain ⟨rfl, rfl⟩ := P9
    clear hA hB T3 T2 hL9
    (try dsimp only); (try k_fold); k_steps

    refine Stop.out ?_
    (rename Fr _ _ _ _ => lF); (rename News _ _ _ _ => lN)
    refine kup_listOf (zs := refsOf (pts.reverse)) lF lN (kY _ sback) (by simp) (fun DA cA h1 F1 N1 lD => ?_) (by simp only [refsOf, List.length_map, List.length_reverse, sizeLine_eq]; omega)
    (try dsimp only); (try k_fold); k_steps
    have hC9q : 3 ≤ pts.reverse.length := by rw [List.length_reverse]; omega
    have hD9q : pts.reverse.length ≤ 10 := by rw [List.length_reverse]; omega
    (rename Fr _ _ _ _ => lF); (rename News _ _ _ _ => lN)
    rename_i lh hh lo
    have hA := hereN lN (q := (DA, listOf (refsOf (pts.reverse)).toArray cA)) (.tail _ (.head _))
    have kZ := ksN lN (fun q hq => .tail _ (.tail _ (kY q hq)))
    have hE9 := no_ofN lN (no10_cons rfl (no10_cons rfl nY))
    have hB := pt_ofN lN (fun p hp => (spt p (List.mem_reverse.mp hp)).mono kZ)
    have hL9 : (earT (pts.reverse)).length ≤ 1000 := earT_length hC9q hD9q
    (refine Stop.out ?_; k_dflt (refine' use_spec ?k1 ?k2 ?k3 ?k4 ?k5 ?kK (ec2_spec _ _ _ _ _ hA hB hC9q hD9q hE9 _) ?kd ?ku ?_; (case k1 => k_asm); (case k2 => k_asm); (case k3 => k_asm); (case k4 => k_asm); (case k5 => k_asm); (case kK => first | exact rfl | assumption); (case kd => (try dsimp only [ktrTop]); first | omega | exact Nat.le_of_ble_eq_true rfl); (case ku => (try dsimp only [ktrTop]); first | omega | exact Nat.le_of_ble_eq_true rfl)))
    intro r9 l9 h9 tk9 F9 N9 P9
    obtain ⟨tA, rfl, T1, nY2, kp⟩ := P9
    have kY2 := ksN N9 (fun q hq => kp q (kZ q hq))
    clear hA hB hE9 kp kZ kY nY lo
    (try dsimp only); (try k_fold); k_steps
    clear hC9q hD9q
    (rename Fr _ _ _ _ => lF); (rename News _ _ _ _ => lN)
    have hA := hereN lN (kY2 _ sring)
    have kZ := ksN lN (fun q hq => kY2 q hq)
    have hE9 := no_ofN lN nY2
    have T1' := TrIn.ofN lN (TrIn.mono T1 (fun _ h => h))
    have hP9 : 0 < (pts).length := by omega
    have hQ9 : (pts).length ≤ 400 := by omega
    (refine Stop.out ?_; k_dflt (refine' use_spec ?k1 ?k2 ?k3 ?k4 ?k5 ?kK (hv2_spec _ _ _ _ _ hA hP9 hQ9 hE9) ?kd ?ku ?_; (case k1 => k_asm); (case k2 => k_asm); (case k3 => k_asm); (case k4 => k_asm); (case k5 => k_asm); (case kK => first | exact rfl | assumption); (case kd => (try dsimp only [ktrTop]); first | omega | exact Nat.le_of_ble_eq_true rfl); (case ku => (try dsimp only [ktrTop]); first | omega | exact Nat.le_of_ble_eq_true rfl)))
    intro r9 l9 h9 tk9 F9 N9 P9
    obtain ⟨tB, rfl, T2, nY, kp⟩ := P9
    have kY := ksN N9 (fun q hq => kp q (kZ q hq))
    have T3 := T1'.mono kp
    have eL := pure_curve2 pts W hcv hC9 (by omega)
    rw [eL] at T3 hL9
    clear hA hE9 kp kZ kY2 nY2 T1 T1' hP9 hQ9 eL
    (try dsimp only); (try k_fold); k_steps
    have hA := T3
    have hB := T2
    (refine Stop.out ?_; k_dflt (refine' use_spec ?k1 ?k2 ?k3 ?k4 ?k5 ?kK (same_spec _ _ _ _ _ hA hB hL9) ?kd ?ku ?_; (case k1 => k_asm); (case k2 => k_asm); (case k3 => k_asm); (case k4 => k_asm); (case k5 => k_asm); (case kK => first | exact rfl | assumption); (case kd => (try dsimp only [ktrTop]); first | omega | exact Nat.le_of_ble_eq_true rfl); (case ku => (try dsimp only [ktrTop]); first | omega | exact Nat.le_of_ble_eq_true rfl)))
    intro r9 l9 h9 tk9 F9 N9 P9
    obtain ⟨rfl, rfl⟩ := P9
    clear hA hB T3 T2 hL9
    (try dsimp only); (try k_fold); k_steps

    refine Stop.out ?_
    (rename Fr _ _ _ _ => lF); (rename News _ _ _ _ => lN)
    refine kup_listOf (zs := refsOf (pts)) lF lN (kY _ sring) (by simp) (fun DA cA h1 F1 N1 lD => ?_) hz9
    (try dsimp only); (try k_fold); k_steps
    refine Stop.out ?_
    (rename Fr _ _ _ _ => lF); (rename News _ _ _ _ => lN)
    have eq9 : (refsOf (pts)).toArray.toList ++ (refsOf ([pf])).toArray.toList = refsOf (pts ++ [pf]) := by simp [refsOf]
    have hx9 : (refsOf (pts)).toArray.toList.length + (refsOf ([pf])).toArray.toList.length ≤ sizeLine := by simp only [refsOf, List.length_map, List.length_reverse, List.length_cons, List.length_nil, sizeLine_eq]; omega
    refine kmk_add_lit lF lN (islist_of lN (.tail _ (.head _))) (islist_of lN (.head _)) eq9 (fun DB h7 F7 N7 l7 => ?_) hx9
    clear eq9 hx9
    (try dsimp only); (try k_fold); k_steps
    have hC9q : 3 ≤ (pts ++ [pf]).length := by rw [List.length_append]; omega
    have hD9q : (pts ++ [pf]).length ≤ 10 := by rw [List.length_append, List.length_singleton]; omega
    (rename Fr _ _ _ _ => lF); (rename News _ _ _ _ => lN)
    rename_i lh hh lo
    have hA := hereN lN (q := (DB, listOf (refsOf (pts ++ [pf])).toArray 0)) (.tail _ (.head _))
    have kZ := ksN lN (fun q hq => .tail _ (.tail _ (.tail _ (.tail _ (kY q hq)))))
    have hE9 := no_ofN lN (no10_cons rfl (no10_cons rfl (no10_cons rfl (no10_cons rfl nY))))
    have hB := pt_ofN lN (snoc_pt (fun p hp => (spt p hp).mono kZ) (sf.mono kZ))
    have hL9 : (earT (pts ++ [pf])).length ≤ 1000 := earT_length hC9q hD9q
    (refine Stop.out ?_; k_dflt (refine' use_spec ?k1 ?k2 ?k3 ?k4 ?k5 ?kK (ec2_spec _ _ _ _ _ hA hB hC9q hD9q hE9 _) ?kd ?ku ?_; (case k1 => k_asm); (case k2 => k_asm); (case k3 => k_asm); (case k4 => k_asm); (case k5 => k_asm); (case kK => first | exact rfl | assumption); (case kd => (try dsimp only [ktrTop]); first | omega | exact Nat.le_of_ble_eq_true rfl); (case ku => (try dsimp only [ktrTop]); first | omega | exact Nat.le_of_ble_eq_true rfl)))
    intro r9 l9 h9 tk9 F9 N9 P9
    obtain ⟨tA, rfl, T1, nY2, kp⟩ := P9
    have kY2 := ksN N9 (fun q hq => kp q (kZ q hq))
    clear hA hB hE9 kp kZ kY nY lo
    (try dsimp only); (try k_fold); k_steps
    clear hC9q hD9q
    refine Stop.out ?_
    (rename Fr _ _ _ _ => lF); (rename News _ _ _ _ => lN)
    with_unfolding_all refine kmk_slice_lit lF lN (islist_of lN (kY2 _ sring)) (IsPart.int (1) _) IsPart.none (slice_tail epts) (fun DC h8 F8 N8 l8 => ?_) (by with_unfolding_all rfl) (by intro _; with_unfolding_all rfl) hz9'
    (try dsimp only); (try k_fold); k_steps
    refine Stop.out ?_
    (rename Fr _ _ _ _ => lF); (rename News _ _ _ _ => lN)
    with_unfolding_all refine kmk_slice_lit lF lN (islist_of lN (.tail _ (kY2 _ sring))) IsPart.none (IsPart.int (1) _) (slice_head epts) (fun DD h8 F8 N8 l8 => ?_) (by with_unfolding_all rfl) (by intro _; with_unfolding_all rfl) hz9'
    (try dsimp only); (try k_fold); k_steps
    refine Stop.out ?_
    (rename Fr _ _ _ _ => lF); (rename News _ _ _ _ => lN)
    have eq9 : (refsOf (rr)).toArray.toList ++ (refsOf ([p0])).toArray.toList = refsOf (rr ++ [p0]) := by simp [refsOf]
    have hx9 : (refsOf (rr)).toArray.toList.length + (refsOf ([p0])).toArray.toList.length ≤ sizeLine := by simp only [refsOf, List.length_map, List.length_reverse, List.length_cons, List.length_nil, sizeLine_eq]; omega
    refine kmk_add_lit lF lN (islist_of lN (.tail _ (.head _))) (islist_of lN (.head _)) eq9 (fun DE h7 F7 N7 l7 => ?_) hx9
    clear eq9 hx9
    (try dsimp only); (try k_fold); k_steps
    (rename Fr _ _ _ _ => lF); (rename News _ _ _ _ => lN)
    have hA := hereN lN ((.head _ : ((DE, listOf (refsOf (rr ++ [p0])).toArray 0) : Addr × Obj) ∈ (DE, listOf (refsOf (rr ++ [p0])).toArray 0) :: _))
    have kZ := ksN lN (fun q hq => .tail _ (.tail _ (.tail _ (kY2 q hq))))
    have hE9 := no_ofN lN (no10_cons rfl (no10_cons rfl (no10_cons rfl nY2)))
    have T1' := TrIn.ofN lN (TrIn.mono T1 (fun _ h => .tail _ (.tail _ (.tail _ (h)))))
    have hP9 : 0 < (rr ++ [p0]).length := by simp
    have hQ9 : (rr ++ [p0]).length ≤ 400 := by rw [List.length_append, List.length_singleton]; omega
    (refine Stop.out ?_; k_dflt (refine' use_spec ?k1 ?k2 ?k3 ?k4 ?k5 ?kK (hv2_spec _ _ _ _ _ hA hP9 hQ9 hE9) ?kd ?ku ?_; (case k1 => k_asm); (case k2 => k_asm); (case k3 => k_asm); (case k4 => k_asm); (case k5 => k_asm); (case kK => first | exact rfl | assumption); (case kd => (try dsimp only [ktrTop]); first | omega | exact Nat.le_of_ble_eq_true rfl); (case ku => (try dsimp only [ktrTop]); first | omega | exact Nat.le_of_ble_eq_true rfl)))
    intro r9 l9 h9 tk9 F9 N9 P9
    obtain ⟨tB, rfl, T2, nY, kp⟩ := P9
    have kY := ksN N9 (fun q hq => kp q (kZ q hq))
    have T3 := T1'.mono kp
    have eL := cvl3 epts hcv ⟨a1, a2⟩ hC9 (by omega)
    rw [eL] at T3 hL9
    clear hA hE9 kp kZ kY2 nY2 T1 T1' hP9 hQ9 eL
    (try dsimp only); (try k_fold); k_steps
    have hA := T3
    have hB := T2
    (refine Stop.out ?_; k_dflt (refine' use_spec ?k1 ?k2 ?k3 ?k4 ?k5 ?kK (same_spec _ _ _ _ _ hA hB hL9) ?kd ?ku ?_; (case k1 => k_asm); (case k2 => k_asm); (case k3 => k_asm); (case k4 => k_asm); (case k5 => k_asm); (case kK => first | exact rfl | assumption); (case kd => (try dsimp only [ktrTop]); first | omega | exact Nat.le_of_ble_eq_true rfl); (case ku => (try dsimp only [ktrTop]); first | omega | exact Nat.le_of_ble_eq_true rfl)))
    intro r9 l9 h9 tk9 F9 N9 P9
    obtain ⟨rfl, rfl⟩ := P9
    clear hA hB T3 T2 hL9
    (try dsimp only); (try k_fold); k_steps

    refine Stop.out ?_
    (rename Fr _ _ _ _ => lF); (rename News _ _ _ _ => lN)
    have eq9 : (refsOf (pts.reverse)).toArray.toList ++ (refsOf ([pe])).toArray.toList = refsOf (pts.reverse ++ [pe]) := by simp [refsOf]
    have hx9 : (refsOf (pts.reverse)).toArray.toList.length + (refsOf ([pe])).toArray.toList.length ≤ sizeLine := by simp only [refsOf, List.length_map, List.length_reverse, List.length_cons, List.length_nil, sizeLine_eq]; omega
    refine kmk_add_lit lF lN (islist_of lN (.tail _ (kY _ sback))) (islist_of lN (.head _)) eq9 (fun DB h7 F7 N7 l7 => ?_) hx9
    clear eq9 hx9
    (try dsimp only); (try k_fold); k_steps
    have hC9q : 3 ≤ (pts.reverse ++ [pe]).length := by rw [List.length_append, List.length_reverse]; omega
    have hD9q : (pts.reverse ++ [pe]).length ≤ 10 := by rw [List.length_append, List.length_singleton, List.length_reverse]; omega
    (rename Fr _ _ _ _ => lF); (rename News _ _ _ _ => lN)
    rename_i lh hh lo
    have hA := hereN lN (q := (DB, listOf (refsOf (pts.reverse ++ [pe])).toArray 0)) (.tail _ (.head _))
    have kZ := ksN lN (fun q hq => .tail _ (.tail _ (.tail _ (kY q hq))))
    have hE9 := no_ofN lN (no10_cons rfl (no10_cons rfl (no10_cons rfl nY)))
    have hB := pt_ofN lN (snoc_pt (fun p hp => (spt p (List.mem_reverse.mp hp)).mono kZ) (se.mono kZ))
    have hL9 : (earT (pts.reverse ++ [pe])).length ≤ 1000 := earT_length hC9q hD9q
    (refine Stop.out ?_; k_dflt (refine' use_spec ?k1 ?k2 ?k3 ?k4 ?k5 ?kK (ec2_spec _ _ _ _ _ hA hB hC9q hD9q hE9 _) ?kd ?ku ?_; (case k1 => k_asm); (case k2 => k_asm); (case k3 => k_asm); (case k4 => k_asm); (case k5 => k_asm); (case kK => first | exact rfl | assumption); (case kd => (try dsimp only [ktrTop]); first | omega | exact Nat.le_of_ble_eq_true rfl); (case ku => (try dsimp only [ktrTop]); first | omega | exact Nat.le_of_ble_eq_true rfl)))
    intro r9 l9 h9 tk9 F9 N9 P9
    obtain ⟨tA, rfl, T1, nY2, kp⟩ := P9
    have kY2 := ksN N9 (fun q hq => kp q (kZ q hq))
    clear hA hB hE9 kp kZ kY nY lo
    (try dsimp only); (try k_fold); k_steps
    clear hC9q hD9q
    refine Stop.out ?_
    (rename Fr _ _ _ _ => lF); (rename News _ _ _ _ => lN)
    with_unfolding_all refine kmk_slice_lit lF lN (islist_of lN (kY2 _ sring)) IsPart.none (IsPart.int (-1) _) (slice_init epl) (fun DC h8 F8 N8 l8 => ?_) (by with_unfolding_all rfl) (by intro _; with_unfolding_all rfl) hz9'
    (try dsimp only); (try k_fold); k_steps
    refine Stop.out ?_
    (rename Fr _ _ _ _ => lF); (rename News _ _ _ _ => lN)
    have eq9 : (refsOf (rl)).toArray.toList ++ (refsOf ([pe])).toArray.toList = refsOf (rl ++ [pe]) := by simp [refsOf]
    have hx9 : (refsOf (rl)).toArray.toList.length + (refsOf ([pe])).toArray.toList.length ≤ sizeLine := by simp only [refsOf, List.length_map, List.length_reverse, List.length_cons, List.length_nil, sizeLine_eq]; omega
    refine kmk_add_lit lF lN (islist_of lN (.tail _ (.head _))) (islist_of lN (.head _)) eq9 (fun DE h7 F7 N7 l7 => ?_) hx9
    clear eq9 hx9
    (try dsimp only); (try k_fold); k_steps
    (rename Fr _ _ _ _ => lF); (rename News _ _ _ _ => lN)
    have hA := hereN lN ((.head _ : ((DE, listOf (refsOf (rl ++ [pe])).toArray 0) : Addr × Obj) ∈ (DE, listOf (refsOf (rl ++ [pe])).toArray 0) :: _))
    have kZ := ksN lN (fun q hq => .tail _ (.tail _ (.tail _ (kY2 q hq))))
    have hE9 := no_ofN lN (no10_cons rfl (no10_cons rfl (no10_cons rfl nY2)))
    have T1' := TrIn.ofN lN (TrIn.mono T1 (fun _ h => .tail _ (.tail _ (.tail _ (h)))))
    have hP9 : 0 < (rl ++ [pe]).length := by simp
    have hQ9 : (rl ++ [pe]).length ≤ 400 := by rw [List.length_append, List.length_singleton]; omega
    (refine Stop.out ?_; k_dflt (refine' use_spec ?k1 ?k2 ?k3 ?k4 ?k5 ?kK (hv2_spec _ _ _ _ _ hA hP9 hQ9 hE9) ?kd ?ku ?_; (case k1 => k_asm); (case k2 => k_asm); (case k3 => k_asm); (case k4 => k_asm); (case k5 => k_asm); (case kK => first | exact rfl | assumption); (case kd => (try dsimp only [ktrTop]); first | omega | exact Nat.le_of_ble_eq_true rfl); (case ku => (try dsimp only [ktrTop]); first | omega | exact Nat.le_of_ble_eq_true rfl)))
    intro r9 l9 h9 tk9 F9 N9 P9
    obtain ⟨tB, rfl, T2, nY, kp⟩ := P9
    have kY := ksN N9 (fun q hq => kp q (kZ q hq))
    have T3 := T1'.mono kp
    have eL := cvl4 epl hcv ⟨b1, b2⟩ hC9 (by omega)
    rw [eL] at T3 hL9
    clear hA hE9 kp kZ kY2 nY2 T1 T1' hP9 hQ9 eL
    (try dsimp only); (try k_fold); k_steps
    have hA := T3
    have hB := T2
    (refine Stop.out ?_; k_dflt (refine' use_spec ?k1 ?k2 ?k3 ?k4 ?k5 ?kK (same_spec _ _ _ _ _ hA hB hL9) ?kd ?ku ?_; (case k1 => k_asm); (case k2 => k_asm); (case k3 => k_asm); (case k4 => k_asm); (case k5 => k_asm); (case kK => first | exact rfl | assumption); (case kd => (try dsimp only [ktrTop]); first | omega | exact Nat.le_of_ble_eq_true rfl); (case ku => (try dsimp only [ktrTop]); first | omega | exact Nat.le_of_ble_eq_true rfl)))
    intro r9 l9 h9 tk9 F9 N9 P9
    obtain ⟨rfl, rfl⟩ := P9
    clear hA hB T3 T2 hL9
    (try dsimp only); (try k_fold); k_steps

    (rename Fr _ _ _ _ => lF); (rename News _ _ _ _ => lN)
    exact hret _ _ _ _ lF (fun y hy => lN y (kY y (sold y hy))) ⟨rfl, rfl⟩
end
end
end Mine

open PySem PySem.W PyProof.Rows PySem.Calls
set_option Elab.async false
set_option maxRecDepth 100000
namespace Mine
theorem freshMU : True ∧ True := by
  w_top off
  try (walk1; fail)
  exact ⟨trivial, trivial⟩
end Mine
namespace Mine
open PySem.Builtin.Int (intBits)
theorem curve2_spec (w : World) (news : List (Addr × Obj)) (n : Int) (W : Int) (t1 t2 : Tok) (h3 : 3 ≤ n) (h9 : n ≤ 9) (hW : intBits W ≤ 1500000) (hnd : No10 news) :
  Spec w 206 [.int n t1, .int W t2] news 40 400 (fun v news' => news = news' ∧ v = .bool true) := by
  obtain ⟨k, rfl⟩ := Int.eq_ofNat_of_zero_le (show 0 ≤ n by omega)
  exact curve_spec w news k W t1 t2 (by omega) (by omega) hW hnd
def lrow (W n : Int) : Int × Int := (n.fmod 5 + W * (n.fdiv 5).fmod 5, (n.fdiv 5).fmod 5)
abbrev moreVs : List Value := [.int 5 441, .int 0 442, .int 3 443, .int 19 444, .int 11 445, .int 6 446, .int 23 447, .int 8 448, .int 1 449, .int 14 450]
def moreNs : List Int := [5, 0, 3, 19, 11, 6, 23, 8, 1, 14]
theorem more_ints : IntsAre moreVs moreNs := .cons _ _ (.cons _ _ (.cons _ _ (.cons _ _ (.cons _ _ (.cons _ _ (.cons _ _ (.cons _ _ (.cons _ _ (.cons _ _ .nil)))))))))
theorem more_at (P : Params) : (hd.heap_39 P).lookup 170 = some (listOf moreVs.toArray 0) := by rfl
theorem more_in {P : Params} {h : Heap} (X : (hd.heap_39 P).In h) : h.IsList 170 moreVs.toArray := ⟨_, X _ _ (more_at P), rfl, _, rfl⟩
theorem ints_get {vs : List Value} {ns : List Int} (h : IntsAre vs ns) {i : Nat} (hi : i < ns.length) : ∃ t, vs[i]? = some (.int ns[i] t) := by
  induction h generalizing i with
  | nil => exact absurd hi (Nat.not_lt_zero _)
  | cons n t r ih =>
    cases i with
    | zero => exact ⟨t, rfl⟩
    | succ i =>
      obtain ⟨t', e⟩ := ih (Nat.lt_of_succ_lt_succ hi)
      exact ⟨t', by simpa using e⟩
theorem all_bits {ns : List Int} (h : (PyData.list (ns.map PyData.int)).layable0 = true) : ∀ n ∈ ns ++ moreNs, intBits n ≤ 1048576 := fun n hn => by
  rcases List.mem_append.mp hn with hn | hn
  · exact intBits_le_of_item hn h
  · have : n.natAbs < 2 ^ 5 := by
      have : ∀ k ∈ moreNs, k.natAbs < 2 ^ 5 := by decide
      exact this n hn
    exact Nat.le_trans (intBits_le_iff.mpr this) (by omega)
theorem all_length {ns : List Int} (h : ¬ ((63 : Nat) : Int) < ((ns.length : Nat) : Int)) : 10 ≤ (ns ++ moreNs).length ∧ (ns ++ moreNs).length ≤ 73 := by
  have : moreNs.length = 10 := rfl
  rw [List.length_append, this]; omega
theorem RowsAre.snoc {nx : List (Addr × Obj)} {ys : List Value} {rs : List (Int × Int)} {a : Addr} {r : Int × Int} {tx ty : Tok} (h : RowsAre nx ys rs) (hm : (a, tupOf [.int r.1 tx, .int r.2 ty]) ∈ nx) : RowsAre nx (ys ++ [.ref a]) (rs ++ [r]) := by
  refine ⟨by rw [List.length_append, List.length_append, h.1]; rfl, fun i q e => ?_⟩
  by_cases hi : i < rs.length
  · rw [List.getElem?_append_left hi] at e
    obtain ⟨a', tx', ty', e1, e2⟩ := h.2 i q e
    exact ⟨a', tx', ty', by rw [List.getElem?_append_left (by rw [h.1]; exact hi)]; exact e1, e2⟩
  · have : i < (rs ++ [r]).length := (List.getElem?_eq_some_iff.mp e).1
    have hi2 : i = rs.length := by rw [List.length_append, List.length_singleton] at this; omega
    subst hi2
    rw [List.getElem?_append_right (Nat.le_refl _)] at e
    have : r = q := by simpa using e
    subst this
    refine ⟨a, tx, ty, ?_, hm⟩
    rw [List.getElem?_append_right (by rw [h.1]; exact Nat.le_refl _), h.1]
    simp
/-- rows made of the first numbers -/
def LwJ (src cell : Addr × Obj) (W : Int) (ms : List Int) (i : Nat) (ys : List Value) (nx : List (Addr × Obj)) : Prop :=
  RowsAre nx ys ((ms.take i).map (lrow W)) ∧ src ∈ nx ∧ cell ∈ nx ∧ No10 nx
theorem rows_ofN {Y : List (Addr × Obj)} {vs : List Value} {rs : List (Int × Int)} {h₀ h : Heap} {L : Addr} (_N : News h₀ L h Y) (P : RowsAre Y vs rs) : RowsAre Y vs rs := P
theorem row_bits {W : Int} {ms : List Int} (hW : intBits W ≤ 1048576) (hm : ∀ n ∈ ms, intBits n ≤ 1048576) : ∀ r ∈ ms.map (lrow W), intBits r.1 ≤ 2000000 ∧ intBits r.2 ≤ 2000000 := fun r hr => by
  obtain ⟨n, hn, rfl⟩ := List.mem_map.mp hr
  have b5 : intBits 5 ≤ 3 := by decide
  have h1 : intBits (n.fmod 5) ≤ 1048576 := Nat.le_trans (intBits_fmod_le (hm n hn) b5) (by omega)
  have h2 : intBits ((n.fdiv 5).fmod 5) ≤ 1048576 := Nat.le_trans (intBits_fmod_le (intBits_fdiv_le (hm n hn)) b5) (by omega)
  have h3 : intBits ((n.fdiv 5).fmod 5) ≤ 64 := by
    have : (n.fdiv 5).fmod 5 = ((n.fdiv 5) % 5) := Int.fmod_eq_emod_of_nonneg _ (by decide)
    rw [this]
    exact intBits_le_iff.mpr (by have : ((n.fdiv 5) % 5).natAbs < 2 ^ 3 := by omega
                                 exact Nat.lt_of_lt_of_le this (Nat.pow_le_pow_right (by decide) (by decide)))
  refine ⟨Nat.le_trans (intBits_add_le h1 (intBits_mul_le hW h3)) (by omega), Nat.le_trans h2 (by omega)⟩
section
local macro_rules | `(tactic| bits_by_make) => `(tactic| first | exact Pt.hx _ | exact Pt.hy _ | with_reducible assumption)
local macro_rules | `(tactic| k_mem) => `(tactic| (refine mem_of ?_; ktr_member))
section
local macro_rules | `(tactic| walk_at "eval Call") => `(tactic| first | ((with_reducible show wpAny _ _ (eval (Expr.Call (Expr.Name _ _) _ (_ :: _) _) _) _ _ _); k_dflt (refine wpAny_Call_Name_kw ?_)) | k_dflt (refine Call_ ?_))
local macro_rules | `(tactic| walk_at "call ref") => `(tactic| (k_here; refine Stop.intro ?_))
local macro_rules | `(tactic| walk_at "eval ListComp") => `(tactic| (k_here; refine Stop.intro ?_))
local macro_rules | `(tactic| walk_at "exec Assign cons ListComp") => `(tactic| (k_here; refine Stop.intro ?_))
local macro_rules | `(tactic| walk_at "CompSrc") => `(tactic| (refine Stop.intro ?_))
local macro_rules | `(tactic| walk_at "CompEnd") => `(tactic| (refine Stop.intro ?_))
local macro_rules | `(tactic| walk_at "call type:list") => `(tactic| (k_here; refine Stop.intro ?_))
local macro_rules | `(tactic| walk_at "binaryOp Add ref ref") => `(tactic| (k_here; refine Stop.intro ?_))
local macro_rules | `(tactic| walk_at "subscriptTail Name Slice") => `(tactic| (k_here; refine Stop.intro ?_))
local macro_rules | `(tactic| walk_at "subscriptTail Name Slice ref ref") => `(tactic| (k_here; refine Stop.intro ?_))
local macro_rules | `(tactic| walk_at "subscriptTail") => `(tactic| (k_here; refine Stop.intro ?_))
local macro_rules | `(tactic| walk_at "subscriptTail Name") => `(tactic| (k_here; refine Stop.intro ?_))
local macro_rules | `(tactic| walk_at "subscriptTail Name Constant") => `(tactic| (k_here; refine Stop.intro ?_))
local macro_rules | `(tactic| walk_at "subscriptTail Name Constant ref int") => `(tactic| (k_here; refine Stop.intro ?_))
local macro_rules | `(tactic| walk_at "subscriptTail Name UnaryOp ref int") => `(tactic| (k_here; refine Stop.intro ?_))
local macro_rules | `(tactic| walk_at "subscriptTail Name UnaryOp") => `(tactic| (k_here; refine Stop.intro ?_))
local macro_rules | `(tactic| walk_at "call builtin:len") => `(tactic| (k_here; k_dflt (refine' len_mine ?k1 ?k2 ?k3 ?k4 ?_; (case k1 => k_asm); (case k2 => k_mem); (case k3 => assumption); (case k4 => omega)); (try dsimp only); (try k_fold)))
set_option maxHeartbeats 8000000 in
theorem foo : PySem.Challenge.rw_bj5012_02.Holds := Mine.hd (by
  k_go0
  all_goals (try k_fold)
  rename Heap.IsList _ _ _ => hL
  rename IntsAre _ _ => hI
  rename PyData.layable0 _ = true => hLay
  rename ¬ (_ < _) => hlen
  rename (hd.heap_39 _).In _ => KX
  k_steps
  refine Stop.out ?_
  (rename Fr _ _ _ _ => lF); (rename News _ _ _ _ => lN)
  refine list_copyK lF lN (hL.at fun o e => lF.keep _ _ e) (fun D1 c1 h1 F1 N1 l1 => ?_) (by rw [kmk_size_eq hI, sizeLine_eq]; omega)
  (try dsimp only); (try k_fold); k_steps
  refine Stop.out ?_
  (rename Fr _ _ _ _ => lF); (rename News _ _ _ _ => lN)
  refine kmk_add_ints lF lN (islist_of lN (.head _)) ((more_in KX).at fun o e => lF.keep _ _ e) hI more_ints (fun D2 us h2 F2 N2 l2 hU => ?_) (by rw [show moreNs.length = 10 from rfl, sizeLine_eq]; omega)
  have hb := all_bits hLay
  have hlen2 := all_length hlen
  generalize (_ ++ moreNs) = all at *
  obtain ⟨th, fh⟩ := ints_get hU (i := 0) (by omega)
  have bh := hb _ (List.getElem_mem (show 0 < all.length by omega))
  generalize all[0] = k at *
  have bh2 : intBits k ≤ 2000000 := Nat.le_trans bh (by omega)
  try dsimp only
  try k_fold
  k_steps
  refine Stop.out ?_
  (rename Fr _ _ _ _ => lF); (rename News _ _ _ _ => lN)
  with_unfolding_all refine item_mine lN (.head _) (by decide) (by decide) (x := .int k th) fh ?_
  clear hLay hlen hI hL
  (try dsimp only); (try k_fold); k_steps
  refine Stop.out ?_
  (rename Fr _ _ _ _ => lF); (rename News _ _ _ _ => lN)
  rename _ = Data.cell (some (Value.int (k.fdiv 42) _)) => dC
  refine LCg.Assign_ListComp_U (F₀ := lF) (by rfl) (by with_unfolding_all rfl) (by with_unfolding_all rfl) (by decide) (by rfl) (by decide) (by rfl) (by rfl) (by rfl) ?_
  (try dsimp only); (try k_fold); k_steps
  refine Stop.out ?_
  (rename Fr _ _ _ _ => lF); (rename News _ _ _ _ => lN)
  have hcnt : 0 ≤ k.fmod 6 ∧ k.fmod 6 < 6 := by rw [Int.fmod_eq_emod_of_nonneg _ (by decide)]; omega
  have hzu : us.toArray.size ≤ sizeLine := by rw [kmk_size_eq hU, sizeLine_eq]; omega
  with_unfolding_all refine kmk_slice_ints lF lN (islist_of lN (.head _)) (IsPart.int 1 _) (IsPart.int (1 + (k.fmod 6 + 3)) _) hU (kmk_run hU (by decide) (by omega)) rfl (fun D3 ws h3 F3 N3 l3 hW _ _ => ?_) (by with_unfolding_all rfl) (by intro _; with_unfolding_all rfl) hzu
  (try dsimp only); (try k_fold); k_steps
  refine Stop.out ?_
  (rename Fr _ _ _ _ => lF); (rename News _ _ _ _ => lN)
  obtain ⟨ms, hW, hm3, hm8, hmb⟩ : ∃ ms, IntsAre ws ms ∧ 3 ≤ ms.length ∧ ms.length ≤ 8 ∧ ∀ n ∈ ms, intBits n ≤ 1048576 :=
    ⟨_, hW, by simp only [List.length_take, List.length_drop]; omega, by simp only [List.length_take, List.length_drop]; omega, fun n hn => hb n (List.mem_of_mem_drop (List.mem_of_mem_take hn))⟩
  have ev : ws.toArray.size = ms.length := by rw [List.size_toArray]; exact hW.length
  have bW : intBits (k.fdiv 42) ≤ 1048576 := intBits_fdiv_le bh
  have bW2 : intBits (k.fdiv 42) ≤ 2000000 := Nat.le_trans bW (by omega)
  rename_i D3 _ _ _ _ _
  refine LCg.CompSrc.ledger (by rfl) lF lN (.head _) (by rw [ev, sizeLine_eq]; omega) fun g => ?_
  rw [ev]
  refine comp_inv (LwJ (D3, listOf ws.toArray 0) _ (k.fdiv 42) ms) ms.length ⟨⟨rfl, fun i r e => by simp at e⟩, .head _, .tail _ (.tail _ (.tail _ (.head _))), no10_cons rfl (no10_cons rfl (no10_cons rfl (no10_cons (no10_cell dC) (List.forall_mem_nil _))))⟩ ?_ ?_
  · rintro i ys nx v I oI C oC D m₂ h tk E' hi ⟨k1, k2, k3, k4⟩ hv hC hx F9 N9 off ne
    obtain ⟨tn, en⟩ := ints_get hW hi
    have e0 : ws.toArray[i]? = some (.int ms[i] tn) := by simpa using en
    cases hv.symm.trans e0
    have bn := hmb _ (List.getElem_mem hi)
    have ntk : (ms.take (i + 1)).map (lrow (k.fdiv 42)) = (ms.take i).map (lrow (k.fdiv 42)) ++ [lrow (k.fdiv 42) ms[i]] := by rw [List.take_add_one, List.getElem?_eq_getElem hi, List.map_append]; rfl
    generalize ms[i] = n at *
    have bn2 : intBits n ≤ 2000000 := Nat.le_trans bn (by omega)
    clear lF lN
    k_steps
    refine Stop.out ?_
    (rename Fr _ _ _ _ => lF); (rename News _ _ _ _ => lN)
    rename_i Dt ht lt
    have hfr : ∀ q ∈ nx, q.1 < Dt := fun q hq => tb_ltOf lt.2.2.2 q hq
    refine comp_end lF lN (.tail _ (.head _)) (.tail _ (.tail _ (.head _))) (.tail _ (.tail _ (.tail _ (.head _)))) fun nx' z z2 => ?_
    have kk : ∀ q ∈ nx, q ∈ nx' := fun q hq => z q (.tail _ (.tail _ (.tail _ (.tail _ hq)))) (off.mem q hq).1 (off.mem q hq).2.1 (off.mem q hq).2.2
    refine ⟨.inr ⟨_, kk _ k2, rfl, _, rfl⟩, ?_, kk _ k2, kk _ k3, ?_⟩
    · rw [ntk]
      exact (k1.mono kk).snoc (z _ (.head _) (Nat.ne_of_gt lt.1) (Nat.ne_of_gt lt.2.1) (Nat.ne_of_gt lt.2.2.1))
    · intro q hq
      obtain ⟨w1, w2, w3, w4⟩ := z2 q hq
      rcases List.mem_cons.mp w1 with rfl | hq
      · rfl
      · rcases List.mem_cons.mp hq with rfl | hq
        · exact absurd rfl w2
        · rcases List.mem_cons.mp hq with rfl | hq
          · exact absurd rfl w3
          · rcases List.mem_cons.mp hq with rfl | hq
            · exact absurd rfl w4
            · exact k4 q hq
  · rintro ys nx ⟨k1, k2, k3, k4⟩
    rw [List.take_length] at k1
    have hml : (ms.map (lrow (k.fdiv 42))).length = ms.length := List.length_map ..
    have hbr : ∀ r ∈ ms.map (lrow (k.fdiv 42)), intBits r.1 ≤ 2000000 ∧ intBits r.2 ≤ 2000000 := row_bits bW hmb
    k_steps
    (rename Fr _ _ _ _ => lF); (rename News _ _ _ _ => lN)
    rename_i D4 h4 tk4 o4
    have hA := hereN lN (q := (D4, listOf ys.toArray _)) (.head _)
    have hB := rows_ofN lN (k1.mono fun _ h => .tail _ h)
    have hC9 : 3 ≤ (ms.map (lrow (k.fdiv 42))).length := by rw [hml]; exact hm3
    have hD9 : (ms.map (lrow (k.fdiv 42))).length ≤ 8 := by rw [hml]; exact hm8
    have hE9 := no_ofN lN (no10_cons rfl k4)
    (refine Stop.out ?_; k_dflt (refine' use_spec ?k1 ?k2 ?k3 ?k4 ?k5 ?kK (ring_spec _ _ _ _ _ _ hA hB hC9 hD9 hbr hE9) ?kd ?ku ?_; (case k1 => k_asm); (case k2 => k_asm); (case k3 => k_asm); (case k4 => k_asm); (case k5 => k_asm); (case kK => first | exact rfl | assumption); (case kd => (try dsimp only [ktrTop]); first | omega | exact Nat.le_of_ble_eq_true rfl); (case ku => (try dsimp only [ktrTop]); first | omega | exact Nat.le_of_ble_eq_true rfl)))
    intro r9 l9 h9 tk9 F9 N9 P9
    obtain ⟨rfl, rfl⟩ := P9
    clear hA hB hC9 hD9 lF lN
    (try dsimp only); (try k_fold); k_steps
    (rename Fr _ _ _ _ => lF); (rename News _ _ _ _ => lN)
    have hA : 3 ≤ (k.fdiv 6).fmod 7 + 3 := by rw [Int.fmod_eq_emod_of_nonneg _ (by decide)]; omega
    have hB : (k.fdiv 6).fmod 7 + 3 ≤ 9 := by rw [Int.fmod_eq_emod_of_nonneg _ (by decide)]; omega
    have hC9 : intBits (k.fdiv 42) ≤ 1500000 := Nat.le_trans bW (by omega)
    (refine Stop.out ?_; k_dflt (refine' use_spec ?k1 ?k2 ?k3 ?k4 ?k5 ?kK (curve2_spec _ _ _ _ _ _ hA hB hC9 hE9) ?kd ?ku ?_; (case k1 => k_asm); (case k2 => k_asm); (case k3 => k_asm); (case k4 => k_asm); (case k5 => k_asm); (case kK => first | exact rfl | assumption); (case kd => (try dsimp only [ktrTop]); first | omega | exact Nat.le_of_ble_eq_true rfl); (case ku => (try dsimp only [ktrTop]); first | omega | exact Nat.le_of_ble_eq_true rfl)))
    intro r9 l9 h9 tk9 F9 N9 P9
    obtain ⟨rfl, rfl⟩ := P9
    clear hA hB hC9 hE9
    (try dsimp only); (try k_fold); k_steps)
end
end
end Mine

theorem PySem.Challenge.cw_bj5012_02_holds : PySem.Challenge.rw_bj5012_02.Holds := by
  exact Mine.foo
