import PyProof.Rows.All
import Wide.All
import OpenK.AllK
import Wide.FinOn
import Lean
import PySem.Challenge.RW_dr5025_02
set_option Elab.async false
set_option maxRecDepth 100000
set_option maxHeartbeats 0
set_option linter.unusedVariables false
section
set_option Elab.async false
set_option maxRecDepth 100000
namespace Mine
open PySem PySem.W PySem.Calls PyProof.Rows PySem.Spec

def Stop (p : Prop) : Prop := p
theorem Stop.out {p : Prop} (h : Stop p) : p := h
theorem Stop.mk {p : Prop} (h : p) : Stop p := h
structure Mark (n : Nat) : Prop where

/-- an object of the ledger exchanged -/
def setAt (r : Addr) (o : Obj) (news : List (Addr × Obj)) : List (Addr × Obj) := news.map fun p => if p.1 = r then (r, o) else p
theorem setAt_addrs (r : Addr) (o : Obj) (news : List (Addr × Obj)) : (setAt r o news).map (·.1) = news.map (·.1) := by
  unfold setAt
  rw [List.map_map]
  refine List.map_congr_left fun p _ => ?_
  show (if p.1 = r then (r, o) else p).1 = p.1
  split
  · rename_i h; exact h.symm
  · rfl
theorem setAt_ne {r : Addr} {o : Obj} {news : List (Addr × Obj)} {p : Addr × Obj} (h : p ∈ news) (hn : p.1 ≠ r) : p ∈ setAt r o news :=
  List.mem_map.mpr ⟨p, h, if_neg hn⟩
theorem setAt_eq {r : Addr} {o o' : Obj} {news : List (Addr × Obj)} (h : (r, o') ∈ news) : (r, o) ∈ setAt r o news :=
  List.mem_map.mpr ⟨_, h, if_pos rfl⟩
theorem setAt_mem {r : Addr} {o : Obj} {news : List (Addr × Obj)} {p : Addr × Obj} (h : p ∈ setAt r o news) : (p = (r, o) ∧ ∃ o', (r, o') ∈ news) ∨ (p ∈ news ∧ p.1 ≠ r) := by
  obtain ⟨q, hq, e⟩ := List.mem_map.mp h
  by_cases hr : q.1 = r
  · rw [if_pos hr] at e
    exact .inl ⟨e.symm, q.2, by rw [← hr]; exact hq⟩
  · rw [if_neg hr] at e
    exact .inr ⟨e ▸ hq, e ▸ hr⟩
theorem setAt_news {h₀ h h' : Heap} {L r : Addr} {o : Obj} {news : List (Addr × Obj)} (N : News h₀ L h news) (hs : Heap.SameBut r h h') (ho : h'.get? r = some o) : News h₀ L h' (setAt r o news) := by
  intro p hp
  rcases setAt_mem hp with ⟨rfl, o', ho'⟩ | ⟨hp, hn⟩
  · exact ⟨ho, (N _ ho').2⟩
  · exact ⟨(hs.2 p.1 hn).trans (N p hp).1, (N p hp).2⟩

/-- rows of ints on the ledger -/
def IsTab (news : List (Addr × Obj)) (rs : List Addr) (n : Nat) (T : Nat → Nat → Int) : Prop :=
  ∀ i r, rs[i]? = some r → ∃ (vs : List Value) (k : Nat), (r, listOf vs.toArray k) ∈ news ∧ vs.length = n ∧ ∀ j, j < n → ∃ t, vs[j]? = some (Value.int (T i j) t)
theorem IsTab.mono {news news' : List (Addr × Obj)} {rs : List Addr} {n : Nat} {T : Nat → Nat → Int} (h : IsTab news rs n T) (hs : ∀ p ∈ news, p.1 ∈ rs → p ∈ news') : IsTab news' rs n T := fun i r hr =>
  let ⟨vs, k, hm, r1⟩ := h i r hr
  ⟨vs, k, hs _ hm (List.mem_of_getElem? hr), r1⟩
theorem IsTab.congr {news : List (Addr × Obj)} {rs : List Addr} {n : Nat} {T T' : Nat → Nat → Int} (h : IsTab news rs n T) (e : ∀ i j, i < rs.length → j < n → T i j = T' i j) : IsTab news rs n T' := fun i r hr => by
  obtain ⟨vs, k, hm, hl, hv⟩ := h i r hr
  refine ⟨vs, k, hm, hl, fun j hj => ?_⟩
  obtain ⟨t, ht⟩ := hv j hj
  have hi : i < rs.length := (List.getElem?_eq_some_iff.mp hr).1
  exact ⟨t, by rw [← e i j hi hj]; exact ht⟩

section
variable {prog : Program} {w : World} {A : Around} {E : Value → Shared → Prop} {s : Shared} {h₀ : Heap} {L : Addr} {m : Str → Option Value} {news : List (Addr × Obj)}

/-- the row of a list of lists -/
theorem outer_sub {value slice : PySem.Expr} {aL : Addr} {vs : List Value} {n : Nat} {k : Int} {u : Tok} {v : Value} {Q : Value → Shared → Prop} (N : News h₀ L s.heap news) (hm : (aL, listOf vs.toArray n) ∈ news)
    (h0 : 0 ≤ k) (hfit : k < 2 ^ 63) (hx : vs[k.toNat]? = some v) (h : Q v s)
    (hs : subscripted slice false (.ref aL) (.int k u) = operate [.ref aL, .int k u] (getItem (.ref aL) (.int k u)) := by with_unfolding_all rfl) :
    wpAny (model prog w) A (subscriptTail value slice (.ref aL) (.int k u)) Q E s :=
  have hl := PySem.IsL.isList (n := n) (N _ hm).1
  tail_any hl.typeIs slot_list_getitem.lookup (wpAny_getItem_list hl h0 hfit (by simpa using hx) h) hs

theorem tab_sub {value slice : PySem.Expr} {rs : List Addr} {n : Nat} {T : Nat → Nat → Int} {i : Nat} {r : Addr} {k : Int} {u : Tok} {Q : Value → Shared → Prop} (N : News h₀ L s.heap news) (hT : IsTab news rs n T)
    (hr : rs[i]? = some r) (h0 : 0 ≤ k) (hfit : k < 2 ^ 63) (hk : k.toNat < n) (h : ∀ t, Q (.int (T i k.toNat) t) s)
    (hs : subscripted slice false (.ref r) (.int k u) = operate [.ref r, .int k u] (getItem (.ref r) (.int k u)) := by with_unfolding_all rfl) :
    wpAny (model prog w) A (subscriptTail value slice (.ref r) (.int k u)) Q E s := by
  obtain ⟨vs, kk, hm, hl, hv⟩ := hT i r hr
  obtain ⟨t, ht⟩ := hv _ hk
  exact outer_sub N hm h0 hfit ht (h t) hs

theorem tab_set {rs : List Addr} {n : Nat} {T : Nat → Nat → Int} {i : Nat} {r : Addr} {k x : Int} {t u : Tok} {Q : Unit → Shared → Prop} (F : Fr h₀ L s.heap m) (N : News h₀ L s.heap news) (hT : IsTab news rs n T) (hn : rs.Nodup)
    (hr : rs[i]? = some r) (h0 : 0 ≤ k) (hfit : k < 2 ^ 63) (hk : k.toNat < n)
    (h : ∀ h' o, Fr h₀ L h' m → News h₀ L h' (setAt r o news) → IsTab (setAt r o news) rs n (fun a b => if a = i ∧ b = k.toNat then x else T a b) → Q () { s with heap := h' }) :
    wpAny (model prog w) A (setItem (.ref r) (.int k t) (.int x u)) Q E s := by
  obtain ⟨vs, kk, hm, hl, hv⟩ := hT i r hr
  have z := N _ hm
  have hsz : vs.toArray.size = n := by rw [List.size_toArray]; exact hl
  have ho' : (s.heap.update r (Obj.mapSeq (·.setIfInBounds k.toNat (.int x u)))).get? r = some (listOf (vs.set k.toNat (.int x u)).toArray kk) := by
    have q := PySem.IsL.update z.1 (·.setIfInBounds k.toNat (.int x u))
    have e1 : vs.toArray.setIfInBounds k.toNat (.int x u) = (vs.set k.toNat (.int x u)).toArray := by
      apply Array.toList_inj.mp
      simp
    rw [e1] at q
    have e2 : (if (vs.set k.toNat (Value.int x u)).toArray.size == vs.toArray.size then kk else kk + 1) = kk := by simp
    rw [e2] at q
    exact q
  refine ki_setAt z.1 h0 hfit (by rw [hsz]; omega) (h _ (listOf (vs.set k.toNat (.int x u)).toArray kk) (F.change (Heap.SameBut.update ..) z.2.1 z.2.2) (setAt_news N (Heap.SameBut.update ..) ho') ?_)
  intro a ra hra
  obtain ⟨vs', k', hm', hl', hv'⟩ := hT a ra hra
  by_cases ha : a = i
  · subst ha
    have hrr : ra = r := Option.some.inj (hra.symm.trans hr)
    subst hrr
    refine ⟨_, kk, setAt_eq hm, by rw [List.length_set]; exact hl, fun j hj => ?_⟩
    by_cases hjk : j = k.toNat
    · subst hjk
      refine ⟨u, ?_⟩
      rw [List.getElem?_set_self (by omega)]
      simp
    · obtain ⟨t', ht'⟩ := hv j hj
      refine ⟨t', ?_⟩
      rw [List.getElem?_set_ne (by omega), ht']
      simp [hjk]
  · have hne : ra ≠ r := by
      intro e
      subst e
      exact ha ((List.getElem?_inj (List.getElem?_eq_some_iff.mp hra).1 hn).mp (hra.trans hr.symm))
    refine ⟨vs', k', setAt_ne hm' hne, hl', fun j hj => ?_⟩
    obtain ⟨t', ht'⟩ := hv' j hj
    refine ⟨t', ?_⟩
    rw [ht']
    simp [ha]
end

section
variable {prog : Program} {w : World} {A : Around} {h₀ : Heap} {L : Addr} {m : Str → Option Value} {env : Env} {elt : Expr} {x : Str} {scope : Scope} {cl : List (Str × Addr)} {s : Shared} {S : List (Addr × Obj) → Prop} {P : Nat → Value → Prop} {Fin : List Value → List (Addr × Obj) → Prop} {news : List (Addr × Obj)}
/-- a comprehension by an invariant -/
theorem comp_inv {n : Nat} (J : Nat → List Value → List (Addr × Obj) → Prop)
    (turn : ∀ i v I oI C oC D m₂ ys nx h tk (E' : Value → Shared → Prop), i < n → P i v → J i ys nx → LCg.NsObj oC m₂ → m₂ x = some v → Fr h₀ L h m → News h₀ L h ((I, oI) :: (C, oC) :: (D, LCg.lst ys) :: nx) → LCg.Off3 I C D nx → ((@Ne Nat I C) ∧ (@Ne Nat I D) ∧ (@Ne Nat C D)) →
      wpAny (model prog w) A (eval elt (compEnvC scope cl C env)) (LCg.CompEnd h₀ L m { s with heap := h, toks := tk } I oI C oC D (LCg.lst ys) S (fun y nx' => J (i + 1) (ys ++ [y]) nx')) E' { s with heap := h, toks := tk })
    (h0 : J 0 [] news) (fin : ∀ ys nx, J n ys nx → Fin ys nx) : LCg.CompRest prog w A h₀ L m env elt x scope cl s S P Fin n 0 [] news := by
  have key : ∀ (j i : Nat) (ys : List Value) (nx : List (Addr × Obj)), i + j = n → J i ys nx → LCg.CompRest prog w A h₀ L m env elt x scope cl s S P Fin j i ys nx := by
    intro j
    induction j with
    | zero =>
      intro i ys nx hi hy
      have e : i = n := by omega
      subst e
      exact LCg.CompRest.zero (fin ys nx hy)
    | succ j ih =>
      intro i ys nx hi hy
      refine LCg.CompRest.succ ?_
      intro v I oI C oC D m₂ h tk E' hv hC hx F N off ne
      refine wpAny_mono (turn i v I oI C oC D m₂ ys nx h tk E' (by omega) hv hy hC hx F N off ne) (fun y s₂ hq => ?_) fun _ _ e => e
      obtain ⟨h', tk', nw, e, F', N', off', hS, hj⟩ := hq
      exact ⟨h', tk', nw, e, F', N', off', hS, ih (i + 1) _ nw (by omega) hj⟩
  exact key n 0 [] news (by omega) h0
end

/-- the names that a loop stores are forgotten -/
def ovr (st : List Str) (u m : Str → Option Value) : Str → Option Value := fun z => if st.contains z then u z else m z
theorem ovr_self (st : List Str) (m : Str → Option Value) : ovr st m m = m := by
  funext z; unfold ovr; split <;> rfl
theorem ovr_put {st : List Str} {u m : Str → Option Value} {x : Str} {v : Option Value} (hx : st.contains x = true) :
    (fun y => if y = x then v else ovr st u m y) = ovr st (fun y => if y = x then v else u y) m := by
  funext y
  unfold ovr
  by_cases h : y = x
  · subst h
    simp only [if_true]
    rw [hx]; rfl
  · simp [h]
end Mine

namespace Mine
open PySem PySem.W PySem.Calls PyProof.Rows PySem.Spec
/-- what a comprehension of rows has made -/
def RowsJ (n : Nat) (base : List (Addr × Obj)) (i : Nat) (ys : List Value) (nx : List (Addr × Obj)) : Prop :=
  ∃ rs : List Addr, ys = rs.map Value.ref ∧ rs.length = i ∧ rs.Nodup ∧ (∀ r ∈ rs, ∀ p ∈ base, p.1 ≠ r) ∧ (∀ p ∈ base, p ∈ nx) ∧ IsTab nx rs n (fun _ _ => 0)
theorem RowsJ.zero (n : Nat) (base : List (Addr × Obj)) : RowsJ n base 0 [] base := ⟨[], rfl, rfl, List.nodup_nil, by simp, fun _ h => h, fun i r h => by simp at h⟩
theorem IsTab.mem {news : List (Addr × Obj)} {rs : List Addr} {n : Nat} {T : Nat → Nat → Int} (h : IsTab news rs n T) {r : Addr} (hr : r ∈ rs) : ∃ o, (r, o) ∈ news := by
  obtain ⟨i, hi, e⟩ := List.mem_iff_getElem.mp hr
  obtain ⟨vs, k, hm, _⟩ := h i r (by rw [← e]; exact List.getElem?_eq_getElem hi)
  exact ⟨_, hm⟩
theorem RowsJ.succ {n : Nat} {base : List (Addr × Obj)} {i : Nat} {ys : List Value} {nx : List (Addr × Obj)} {r : Addr} {vs : List Value} {k : Nat} (h : RowsJ n base i ys nx) (hlt : ∀ p ∈ nx, p.1 < r) (hl : vs.length = n) (hv : ∀ v ∈ vs, ∃ t, v = .int 0 t) :
    RowsJ n base (i + 1) (ys ++ [.ref r]) ((r, listOf vs.toArray k) :: nx) := by
  obtain ⟨rs, rfl, rfl, hn, hb, hs, hT⟩ := h
  have hne : ∀ r' ∈ rs, r' ≠ r := fun r' hr' e => by
    obtain ⟨o, ho⟩ := hT.mem hr'
    exact absurd (hlt _ ho) (by rw [e]; exact Nat.lt_irrefl _)
  refine ⟨rs ++ [r], by simp, by simp, ?_, ?_, fun p hp => List.mem_cons_of_mem _ (hs p hp), ?_⟩
  · rw [List.nodup_append]
    refine ⟨hn, by simp, fun a ha b hb => ?_⟩
    rw [List.mem_singleton.mp hb]
    exact hne a ha
  · intro r' hr' p hp
    rcases List.mem_append.mp hr' with hr' | hr'
    · exact hb r' hr' p hp
    · rw [List.mem_singleton.mp hr']
      exact Nat.ne_of_lt (hlt p (hs p hp))
  · intro i r' hr'
    by_cases hi : i < rs.length
    · rw [List.getElem?_append_left hi] at hr'
      obtain ⟨vs', k', hm, r2⟩ := hT i r' hr'
      exact ⟨vs', k', List.mem_cons_of_mem _ hm, r2⟩
    · have hi' : i = rs.length := by
        have := (List.getElem?_eq_some_iff.mp hr').1
        simp at this
        omega
      subst hi'
      have : r' = r := by
        rw [List.getElem?_append_right (Nat.le_refl _)] at hr'
        simpa using hr'.symm
      subst this
      refine ⟨vs, k, List.mem_cons_self, hl, fun j hj => ?_⟩
      have hj' : j < vs.length := by omega
      obtain ⟨t, ht⟩ := hv _ (List.getElem_mem hj')
      exact ⟨t, by rw [List.getElem?_eq_getElem hj', ht]⟩
theorem allLt_mem {d : Addr} {l : List (Addr × Obj)} (h : AllLt d l) : ∀ p ∈ l, p.1 < d := by
  induction l with
  | nil => intro p hp; cases hp
  | cons q r ih =>
    intro p hp
    rcases List.mem_cons.mp hp with e | hp
    · rw [e]; exact h.1
    · exact ih h.2 p hp
end Mine

namespace Mine
open PySem PySem.W PySem.Calls PyProof.Rows PySem.Spec
/-- the common row's length, by the grid -/
def dp {α : Type} [DecidableEq α] (a b : List α) : Nat → Nat → Nat
  | 0, _ => 0
  | _ + 1, 0 => 0
  | i + 1, j + 1 => if a[i]? = b[j]? then dp a b i j + 1 else max (dp a b (i + 1) j) (dp a b i (j + 1))
theorem dp_zero_right {α : Type} [DecidableEq α] (a b : List α) (i : Nat) : dp a b i 0 = 0 := by cases i <;> simp [dp]
theorem dp_zero_left {α : Type} [DecidableEq α] (a b : List α) (j : Nat) : dp a b 0 j = 0 := by simp [dp]
/-- the grid when i rows are done and j places of the next -/
def grid {α : Type} [DecidableEq α] (a b : List α) (i j : Nat) : Nat → Nat → Int := fun p q => if p ≤ i ∨ (p = i + 1 ∧ q ≤ j) then (dp a b p q : Int) else 0
theorem grid_zero {α : Type} [DecidableEq α] (a b : List α) (p q : Nat) : (0 : Int) = grid a b 0 0 p q := by
  unfold grid
  split
  · rename_i h
    rcases h with h | ⟨h1, h2⟩
    · have : p = 0 := by omega
      subst this; simp [dp]
    · have : q = 0 := by omega
      subst this; simp [dp_zero_right]
  · rfl
theorem grid_row {α : Type} [DecidableEq α] (a b : List α) (i p q : Nat) (hq : q ≤ b.length) : grid a b i b.length p q = grid a b (i + 1) 0 p q := by
  unfold grid
  by_cases h1 : p ≤ i
  · rw [if_pos (.inl h1), if_pos (.inl (by omega))]
  · by_cases h2 : p = i + 1
    · rw [if_pos (.inr ⟨h2, hq⟩), if_pos (.inl (by omega))]
    · rw [if_neg (by omega)]
      by_cases h3 : p = i + 1 + 1 ∧ q ≤ 0
      · rw [if_pos (.inr h3)]
        have : q = 0 := by omega
        subst this; simp [dp_zero_right]
      · rw [if_neg (by omega)]
theorem grid_step {α : Type} [DecidableEq α] (a b : List α) (i j p q : Nat) (x : Int) (hx : x = dp a b (i + 1) (j + 1)) :
    (if p = i + 1 ∧ q = j + 1 then x else grid a b i j p q) = grid a b i (j + 1) p q := by
  by_cases h : p = i + 1 ∧ q = j + 1
  · rw [if_pos h, hx, h.1, h.2]
    unfold grid
    rw [if_pos (.inr ⟨rfl, Nat.le_refl _⟩)]
  · rw [if_neg h]
    unfold grid
    by_cases h1 : p ≤ i ∨ (p = i + 1 ∧ q ≤ j)
    · rw [if_pos h1, if_pos (by omega)]
    · rw [if_neg h1, if_neg (by omega)]
theorem grid_old {α : Type} [DecidableEq α] (a b : List α) (i j p q : Nat) (h : p ≤ i ∨ (p = i + 1 ∧ q ≤ j)) : grid a b i j p q = dp a b p q := if_pos h

theorem ovr_of {st : List Str} {m m₀ : Str → Option Value} (h : ∀ z, st.contains z = false → m z = m₀ z) : m = ovr st m m₀ := by
  funext z
  unfold ovr
  cases e : st.contains z with
  | true => rfl
  | false => exact h z e

/-- between the turns of a loop that fills rows -/
def TabJ (st : List Str) (m₀ : Str → Option Value) (nx₀ : List (Addr × Obj)) (rs : List Addr) (n : Nat) (T : Nat → Nat → Nat → Int) (i : Nat) (m : Str → Option Value) (nx : List (Addr × Obj)) : Prop :=
  (∀ z, st.contains z = false → m z = m₀ z) ∧ IsTab nx rs n (T i) ∧ ∀ p ∈ nx₀, p.1 ∉ rs → p ∈ nx
theorem drop_mem {h₀ h : Heap} {L : Addr} {F nx₁ nx₂ : List (Addr × Obj)} (N : News h₀ L h nx₂) (hm : nx₂.map (·.1) = (F ++ nx₁).map (·.1)) {p : Addr × Obj} (hp : p ∈ nx₂) (ha : ∃ o, (p.1, o) ∈ nx₁) : p ∈ nx₂.drop F.length := by
  obtain ⟨o, ho⟩ := ha
  have h1 : (nx₂.drop F.length).map (·.1) = nx₁.map (·.1) := by
    rw [List.map_drop, hm, List.map_append, List.drop_append_of_le_length (by simp), List.drop_of_length_le (by simp)]
    rfl
  have h2 : p.1 ∈ (nx₂.drop F.length).map (·.1) := by rw [h1]; exact List.mem_map.mpr ⟨_, ho, rfl⟩
  obtain ⟨q, hq, e⟩ := List.mem_map.mp h2
  have h3 := (N q (List.mem_of_mem_drop hq)).1
  have h4 := (N p hp).1
  rw [e, h4] at h3
  have : q = p := by
    obtain ⟨q1, q2⟩ := q
    obtain ⟨p1, p2⟩ := p
    simp only at e h3
    subst e
    rw [Option.some.inj h3]
  exact this ▸ hq
theorem drop_map {F nx₁ nx₂ : List (Addr × Obj)} (hm : nx₂.map (·.1) = (F ++ nx₁).map (·.1)) : (nx₂.drop F.length).map (·.1) = nx₁.map (·.1) := by
  rw [List.map_drop, hm, List.map_append, List.drop_append_of_le_length (by simp), List.drop_of_length_le (by simp)]
  rfl
theorem off1_mem {D : Addr} {l : List (Addr × Obj)} (h : LCg.Off1 D l) : ∀ p ∈ l, p.1 ≠ D := by
  induction l with
  | nil => intro p hp; cases hp
  | cons q r ih =>
    intro p hp
    rcases List.mem_cons.mp hp with e | hp
    · rw [e]; exact h.1
    · exact ih h.2 p hp
end Mine

namespace Mine
open PySem PySem.W PySem.Calls PyProof.Rows PySem.Spec
section
variable {prog : Program} {w : World} {A : Around} {E : Value → Shared → Prop} {s : Shared} {env : Env} {h₀ : Heap} {m : Str → Option Value} {news : List (Addr × Obj)}
theorem pair_tab {α : Type} {K : ItemKind α} {as : List α} {xv : Value} {xi xc : Str} {body : List Stmt} {Q : Flow → Shared → Prop} (S : PairSrc prog w A E h₀ env K as xv s m news) (st : List Str) (rs : List Addr) (n : Nat) (T : Nat → Nat → Nat → Int) (h0 : IsTab news rs n (T 0))
    (step : ∀ (i : Nat) c v t (u : Str → Option Value) nx₁ own h tk, as[i]? = some c → K.is c v → IsTab nx₁ rs n (T i) → (∀ p ∈ news, p.1 ∉ rs → p ∈ nx₁) → nx₁.map (·.1) = news.map (·.1) → (∀ p ∈ own, ∀ q ∈ news, p.1 ≠ q.1) →
      Fr h₀ env.locals h (fun y => if y = xc then some v else if y = xi then some (.int i t) else ovr st u m y) → News h₀ env.locals h (own ++ nx₁) →
      wpAny (model prog w) A (execs body env) (LoopStep3 h₀ env.locals own nx₁ (TabJ st m news rs n T (i + 1)) { s with heap := h, toks := tk } (fun v s' => Q (.ret v) s') fun s' => Q .next s') E { s with heap := h, toks := tk })
    (done : ∀ h tk (u : Str → Option Value) nx, Fr h₀ env.locals h (ovr st u m) → News h₀ env.locals h nx → IsTab nx rs n (T as.length) → (∀ p ∈ news, p.1 ∉ rs → p ∈ nx) → nx.map (·.1) = news.map (·.1) → Q .next { s with heap := h, toks := tk }) :
    wpAny (model prog w) A (pyIter xv) (fun it s₂ => PairAt3 prog w A h₀ env xi xc body Q E it s₂) E s := by
  refine S xi xc body Q (TabJ st m news rs n T) ⟨fun _ _ => rfl, h0, fun p hp _ => hp⟩ ?_ ?_
  · rintro i c t v m₁ nx₁ s₁ own ⟨h, tk, rfl⟩ hi hv ⟨hm, hT, hk⟩ hmap hown F N
    refine step i c v t m₁ nx₁ own h tk hi hv hT hk hmap hown ?_ N
    rw [← ovr_of hm]
    exact F
  · rintro h tk m' nx F N hmap ⟨hm, hT, hk⟩
    refine done h tk m' nx ?_ N hT hk hmap
    rw [← ovr_of hm]
    exact F
end
end Mine

namespace Mine
open PySem PySem.W PySem.Calls PyProof.Rows PySem.Spec
theorem IsTab.narrow {h₀ h : Heap} {L : Addr} {big nx : List (Addr × Obj)} {rs : List Addr} {n : Nat} {T : Nat → Nat → Int} (N : News h₀ L h big) (hsub : ∀ p ∈ nx, p ∈ big) (hex : ∀ r ∈ rs, r ∈ nx.map (·.1)) (hT : IsTab big rs n T) : IsTab nx rs n T := by
  intro i r hr
  obtain ⟨vs, k, hm, r2⟩ := hT i r hr
  obtain ⟨q, hq, e⟩ := List.mem_map.mp (hex r (List.mem_of_getElem? hr))
  have h1 := (N q (hsub q hq)).1
  have h2 := (N _ hm).1
  obtain ⟨q1, q2⟩ := q
  simp only at e h1 h2
  subst e
  rw [h2] at h1
  rw [← Option.some.inj h1] at hq
  exact ⟨vs, k, hq, r2⟩
theorem IsTab.addrs {nx : List (Addr × Obj)} {rs : List Addr} {n : Nat} {T : Nat → Nat → Int} (h : IsTab nx rs n T) : ∀ r ∈ rs, r ∈ nx.map (·.1) := fun r hr => by
  obtain ⟨o, ho⟩ := h.mem hr
  exact List.mem_map.mpr ⟨_, ho, rfl⟩
theorem ovr_out {st : List Str} {u m : Str → Option Value} : ∀ z, st.contains z = false → ovr st u m z = m z := fun z hz => by
  unfold ovr; rw [hz]; rfl
theorem put_out {st : List Str} {m m' : Str → Option Value} {x : Str} {v : Option Value} (hx : st.contains x = true) (h : ∀ z, st.contains z = false → m' z = m z) : ∀ z, st.contains z = false → (fun y => if y = x then v else m' y) z = m z := fun z hz => by
  have hne : z ≠ x := fun e => by rw [e, hx] at hz; cases hz
  show (if z = x then v else m' z) = m z
  rw [if_neg hne]
  exact h z hz
theorem tab_step {h₀ h' : Heap} {L : Addr} {own nx front news : List (Addr × Obj)} {rs : List Addr} {n : Nat} {T : Nat → Nat → Nat → Int} {T₀ T₁ : Nat → Nat → Int} {i : Nat} {r : Addr} {o : Obj} {st : List Str} {m m' : Str → Option Value} {s₁ : Shared} {tk : Nat} {Qr : Value → Shared → Prop} {Qb : Shared → Prop}
    (F : Fr h₀ L h' m') (N : News h₀ L h' (setAt r o (front ++ (own ++ nx)))) (hT : IsTab (setAt r o (front ++ (own ++ nx))) rs n T₁) (hr : r ∈ rs) (hT0 : IsTab nx rs n T₀) (hown : ∀ p ∈ own, p.1 ∉ rs) (hkeep : ∀ p ∈ news, p.1 ∉ rs → p ∈ nx)
    (hz : ∀ z, st.contains z = false → m' z = m z) (eT : ∀ a b, a < rs.length → b < n → T₁ a b = T i a b) : LoopStep3 h₀ L own nx (TabJ st m news rs n T i) s₁ Qr Qb .next { s₁ with heap := h', toks := tk } := by
  have hsub : ∀ p ∈ setAt r o nx, p ∈ setAt r o (front ++ (own ++ nx)) := fun p hp => by
    rcases setAt_mem hp with ⟨rfl, o', ho'⟩ | ⟨hp, hn⟩
    · exact setAt_eq (List.mem_append_right _ (List.mem_append_right _ ho'))
    · exact setAt_ne (List.mem_append_right _ (List.mem_append_right _ hp)) hn
  refine ⟨rfl, h', tk, m', setAt r o nx, rfl, F, fun p hp => ?_, setAt_addrs r o nx, hz, (IsTab.narrow N hsub (by rw [setAt_addrs]; exact hT0.addrs) hT).congr eT, fun p hp hn => setAt_ne (hkeep p hp hn) fun e => hn (e ▸ hr)⟩
  rcases List.mem_append.mp hp with hp | hp
  · exact N p (setAt_ne (List.mem_append_right _ (List.mem_append_left _ hp)) fun e => hown p hp (e ▸ hr))
  · exact N p (hsub p hp)
end Mine

namespace Mine
open PySem PySem.W PySem.Calls PyProof.Rows PySem.Spec
theorem ovr_in {st st' : List Str} {u m m' : Str → Option Value} (hs : st'.all (fun x => st.contains x) = true) (h : ∀ z, st.contains z = false → m' z = m z) : ∀ z, st.contains z = false → ovr st' u m' z = m z := fun z hz => by
  have e : st'.contains z = false := by
    cases e : st'.contains z with
    | false => rfl
    | true =>
      have := List.all_eq_true.mp hs z (List.contains_iff_mem.mp e)
      rw [this] at hz; cases hz
  unfold ovr; rw [e]
  exact h z hz
theorem grid_eq {α : Type} [DecidableEq α] {a b : List α} {i j : Nat} (h : a[i]? = b[j]?) : grid a b i j i j + 1 = dp a b (i + 1) (j + 1) := by
  rw [grid_old a b i j i j (.inl (Nat.le_refl _))]
  simp [dp, h]
theorem grid_max {α : Type} [DecidableEq α] {a b : List α} {i j : Nat} (h : a[i]? ≠ b[j]?) : (if grid a b i j i (j + 1) > grid a b i j (i + 1) j then grid a b i j i (j + 1) else grid a b i j (i + 1) j) = dp a b (i + 1) (j + 1) := by
  rw [grid_old a b i j i (j + 1) (.inl (Nat.le_refl _)), grid_old a b i j (i + 1) j (.inr ⟨rfl, Nat.le_refl _⟩)]
  have e : dp a b (i + 1) (j + 1) = max (dp a b (i + 1) j) (dp a b i (j + 1)) := by simp [dp, h]
  rw [e]
  split <;> omega
theorem tab_close {h₀ h' : Heap} {L : Addr} {own nx nx₂ front news : List (Addr × Obj)} {rs : List Addr} {n : Nat} {T : Nat → Nat → Nat → Int} {T₀ T₁ : Nat → Nat → Int} {i : Nat} {st : List Str} {m m' : Str → Option Value} {s₁ : Shared} {tk : Nat} {Qr : Value → Shared → Prop} {Qb : Shared → Prop}
    (F : Fr h₀ L h' m') (N : News h₀ L h' nx₂) (hT : IsTab nx₂ rs n T₁) (hT0 : IsTab nx rs n T₀) (hmap : nx₂.map (·.1) = (front ++ own ++ nx).map (·.1)) (hk₂ : ∀ p ∈ front ++ own ++ nx, p.1 ∉ rs → p ∈ nx₂) (hown : ∀ p ∈ own, p.1 ∉ rs) (hkeep : ∀ p ∈ news, p.1 ∉ rs → p ∈ nx)
    (hz : ∀ z, st.contains z = false → m' z = m z) (eT : ∀ a b, a < rs.length → b < n → T₁ a b = T i a b) : LoopStep3 h₀ L own nx (TabJ st m news rs n T i) s₁ Qr Qb .next { s₁ with heap := h', toks := tk } := by
  have hsub : ∀ p ∈ nx₂.drop (front ++ own).length, p ∈ nx₂ := fun p hp => List.mem_of_mem_drop hp
  refine ⟨rfl, h', tk, m', nx₂.drop (front ++ own).length, rfl, F, fun p hp => ?_, drop_map hmap, hz, (IsTab.narrow N hsub (by rw [drop_map hmap]; exact hT0.addrs) hT).congr eT, fun p hp hn => ?_⟩
  · rcases List.mem_append.mp hp with hp | hp
    · exact N p (hk₂ p (List.mem_append_left _ (List.mem_append_right _ hp)) (hown p hp))
    · exact N p (hsub p hp)
  · have h1 := hkeep p hp hn
    exact drop_mem N hmap (hk₂ p (List.mem_append_right _ h1) hn) ⟨p.2, h1⟩
end Mine

namespace Mine
open PySem PySem.W PySem.Calls PyProof.Rows PySem.Spec
def Tri (xi xj xr : Str) (st : List Str) (m₀ : Str → Option Value) (NL : List (Addr × Obj)) (I : Nat → Nat → Str → Prop) (n : Nat) (m : Str → Option Value) (nx : List (Addr × Obj)) : Prop :=
  ∃ i j r, n = i + j ∧ I i j r ∧ (∃ t, m xi = some (.int (i : Nat) t)) ∧ (∃ t, m xj = some (.int (j : Nat) t)) ∧ (∃ t, m xr = some (.str r t)) ∧ (∀ z, st.contains z = false → m z = m₀ z) ∧ ∀ p ∈ NL, p ∈ nx
theorem while_tri {prog : Program} {w : World} {A : Around} {E : Value → Shared → Prop} {Q : Flow → Shared → Prop} {s : Shared} {env : Env} {h₀ : Heap} {L : Addr} {test : Expr} {body : List Stmt} {pos : Pos} {m₀ : Str → Option Value} {xi xj xr : Str} {i₀ j₀ : Nat} {r₀ : Str} {ti₀ tj₀ tr₀ : Tok} {NL : List (Addr × Obj)} (I : Nat → Nat → Str → Prop)
    (F : Fr h₀ L s.heap (fun y => if y = xi then some (.int (i₀ : Nat) ti₀) else if y = xj then some (.int (j₀ : Nat) tj₀) else if y = xr then some (.str r₀ tr₀) else m₀ y)) (N : News h₀ L s.heap NL) (hji : xj ≠ xi) (hri : xr ≠ xi) (hrj : xr ≠ xj) (h0 : I i₀ j₀ r₀)
    (turn : ∀ i j r ti tj tr (u : Str → Option Value) h tk, I i j r → Fr h₀ L h (fun y => if y = xi then some (.int (i : Nat) ti) else if y = xj then some (.int (j : Nat) tj) else if y = xr then some (.str r tr) else ovr [xi, xj, xr] u m₀ y) → News h₀ L h NL →
      wpAny (model prog w) A (isTrue test env (eval test env)) (fun b s₂ =>
        if b = true then wpAny (model prog w) A (execs body env) (WhileStep2 h₀ L s (Tri xi xj xr [xi, xj, xr] m₀ NL I) Q (i + j)) E s₂ else Q .next s₂) E { s with heap := h, toks := tk })
    (hE : PassesOwn (model prog w) A env E := by passes_own) :
    wpAny (model prog w) A (exec (.While test body [] pos) env) Q E s := by
  refine While_inv2 (n₀ := i₀ + j₀) (Tri xi xj xr [xi, xj, xr] m₀ NL I) F N ⟨i₀, j₀, r₀, rfl, h0, ⟨ti₀, by simp⟩, ⟨tj₀, by simp [hji]⟩, ⟨tr₀, by simp [hri, hrj]⟩, put_out (by simp) (put_out (by simp) (put_out (by simp) fun _ _ => rfl)), fun p hp => hp⟩ ?_ hE
  rintro n m₁ nx h₁ tk₁ F₁ N₁ ⟨i, j, r, rfl, hI, ⟨ti, hi⟩, ⟨tj, hj⟩, ⟨tr, hr⟩, hz, hnl⟩
  refine turn i j r ti tj tr m₁ h₁ tk₁ hI ?_ fun p hp => N₁ p (hnl p hp)
  have e : m₁ = fun y => if y = xi then some (.int (i : Nat) ti) else if y = xj then some (.int (j : Nat) tj) else if y = xr then some (.str r tr) else ovr [xi, xj, xr] m₁ m₀ y := by
    funext y
    by_cases h1 : y = xi
    · rw [if_pos h1, h1, hi]
    · rw [if_neg h1]
      by_cases h2 : y = xj
      · rw [if_pos h2, h2, hj]
      · rw [if_neg h2]
        by_cases h3 : y = xr
        · rw [if_pos h3, h3, hr]
        · rw [if_neg h3, ← ovr_of hz]
  exact e ▸ F₁
/-- the way back -/
def tb (la lb : List Str) : Nat → Nat → Str → Str
  | 0, _, r => r
  | _ + 1, 0, r => r
  | i + 1, j + 1, r => if dp la lb (i + 1) (j + 1) = dp la lb i (j + 1) then tb la lb i (j + 1) r else if dp la lb (i + 1) (j + 1) = dp la lb (i + 1) j then tb la lb (i + 1) j r else tb la lb i j (la.getD i Str.empty ++ r)
termination_by i j => i + j
theorem tb_zero_left (la lb : List Str) (j : Nat) (r : Str) : tb la lb 0 j r = r := by rw [tb]
theorem tb_zero_right (la lb : List Str) (i : Nat) (r : Str) : tb la lb i 0 r = r := by cases i <;> rw [tb]
end Mine

namespace Mine
open PySem PySem.W PySem.Calls PyProof.Rows PySem.Spec
theorem sign_item {x : Str} {i : Int} {k : Nat} (hk : k < x.length) (e : i = k) : Txt.item x i = (signs x).getD k Str.empty := by
  rw [signs_getD hk]
  exact item_at (by omega) (by omega) (by omega)
theorem getD_getElem? {α : Type} {l : List α} {k : Nat} {d : α} (h : k < l.length) : l[k]? = some (l.getD k d) := by
  simp [List.getD_eq_getElem?_getD, h]
section
variable {la lb : List Str} {i j : Nat} {r : Str}
theorem tb_up (hi : i ≠ 0) (hj : j ≠ 0) (h : dp la lb i j = dp la lb (i - 1) j) : tb la lb i j r = tb la lb (i - 1) j r := by
  obtain ⟨i, rfl⟩ := Nat.exists_eq_succ_of_ne_zero hi
  obtain ⟨j, rfl⟩ := Nat.exists_eq_succ_of_ne_zero hj
  show tb la lb (i + 1) (j + 1) r = tb la lb i (j + 1) r
  rw [tb, if_pos (show dp la lb (i + 1) (j + 1) = dp la lb i (j + 1) from h)]
theorem tb_left (hi : i ≠ 0) (hj : j ≠ 0) (h0 : dp la lb i j ≠ dp la lb (i - 1) j) (h : dp la lb i j = dp la lb i (j - 1)) : tb la lb i j r = tb la lb i (j - 1) r := by
  obtain ⟨i, rfl⟩ := Nat.exists_eq_succ_of_ne_zero hi
  obtain ⟨j, rfl⟩ := Nat.exists_eq_succ_of_ne_zero hj
  show tb la lb (i + 1) (j + 1) r = tb la lb (i + 1) j r
  rw [tb, if_neg (show ¬ dp la lb (i + 1) (j + 1) = dp la lb i (j + 1) from h0), if_pos (show dp la lb (i + 1) (j + 1) = dp la lb (i + 1) j from h)]
theorem tb_diag (hi : i ≠ 0) (hj : j ≠ 0) (h0 : dp la lb i j ≠ dp la lb (i - 1) j) (h : dp la lb i j ≠ dp la lb i (j - 1)) : tb la lb i j r = tb la lb (i - 1) (j - 1) (la.getD (i - 1) Str.empty ++ r) := by
  obtain ⟨i, rfl⟩ := Nat.exists_eq_succ_of_ne_zero hi
  obtain ⟨j, rfl⟩ := Nat.exists_eq_succ_of_ne_zero hj
  show tb la lb (i + 1) (j + 1) r = tb la lb i j (la.getD i Str.empty ++ r)
  rw [tb, if_neg (show ¬ dp la lb (i + 1) (j + 1) = dp la lb i (j + 1) from h0), if_neg (show ¬ dp la lb (i + 1) (j + 1) = dp la lb (i + 1) j from h)]
theorem dp_diag {α : Type} [DecidableEq α] {la lb : List α} (hi : i ≠ 0) (hj : j ≠ 0) (h0 : dp la lb i j ≠ dp la lb (i - 1) j) (h : dp la lb i j ≠ dp la lb i (j - 1)) : la[i - 1]? = lb[j - 1]? := by
  obtain ⟨i, rfl⟩ := Nat.exists_eq_succ_of_ne_zero hi
  obtain ⟨j, rfl⟩ := Nat.exists_eq_succ_of_ne_zero hj
  show la[i]? = lb[j]?
  by_cases e : la[i]? = lb[j]?
  · exact e
  · exfalso
    have e2 : dp la lb (i + 1) (j + 1) = max (dp la lb (i + 1) j) (dp la lb i (j + 1)) := by simp [dp, e]
    have h0' : dp la lb (i + 1) (j + 1) ≠ dp la lb i (j + 1) := h0
    have h' : dp la lb (i + 1) (j + 1) ≠ dp la lb (i + 1) j := h
    omega
theorem grid_full {α : Type} [DecidableEq α] {a b : List α} {p q : Nat} (h : p ≤ a.length) : grid a b a.length 0 p q = dp a b p q := if_pos (.inl h)
end
theorem tri_close {h₀ h' : Heap} {L : Addr} {xi xj xr : Str} {st : List Str} {m₀ m' : Str → Option Value} {NL : List (Addr × Obj)} {I : Nat → Nat → Str → Prop} {Q : Flow → Shared → Prop} {s : Shared} {n tk : Nat} {vi vj : Int} {r : Str} {ti tj tr : Tok}
    (F : Fr h₀ L h' m') (N : News h₀ L h' NL) (hi : m' xi = some (.int vi ti)) (hj : m' xj = some (.int vj tj)) (hr : m' xr = some (.str r tr)) (i' j' : Nat) (ei : vi = (i' : Nat)) (ej : vj = (j' : Nat)) (lt : i' + j' < n) (hI : I i' j' r)
    (hz : ∀ z, st.contains z = false → m' z = m₀ z) : WhileStep2 h₀ L s (Tri xi xj xr st m₀ NL I) Q n .next { s with heap := h', toks := tk } :=
  ⟨h', tk, m', NL, i' + j', rfl, F, N, lt, i', j', r, rfl, hI, ⟨ti, by rw [hi, ei]⟩, ⟨tj, by rw [hj, ej]⟩, ⟨tr, hr⟩, hz, fun _ hp => hp⟩
end Mine

namespace Mine
open PySem PySem.W PySem.Calls PyProof.Rows PySem.Spec
theorem strs_pairs {vs : List Value} {cs : List Str} (h : StrsAre vs cs) : ∃ l : List (Str × Tok), vs = strValues l ∧ l.map (·.1) = cs := by
  induction vs generalizing cs with
  | nil => cases h; exact ⟨[], rfl, rfl⟩
  | cons v vs ih =>
    cases h with
    | cons y t h =>
      obtain ⟨l, rfl, rfl⟩ := ih h
      exact ⟨(y, t) :: l, rfl, rfl⟩
theorem empty_cps : (Str.ofString "").cps = #[] := by decide +kernel
theorem cps_app (x y : Str) : (x ++ y).cps = x.cps ++ y.cps := rfl
theorem join_cps : ∀ cs : List Str, (Str.join (Str.ofString "") cs).cps.toList = cs.flatMap (·.cps.toList)
  | [] => by simp [Str.join, Str.empty]
  | [x] => by simp [Str.join]
  | x :: y :: r => by
    have ih := join_cps (y :: r)
    show ((x ++ Str.ofString "") ++ Str.join (Str.ofString "") (y :: r)).cps.toList = _
    rw [cps_app, cps_app, empty_cps]
    rw [Array.toList_append, ih]
    simp
theorem signs_join {cs : List Str} (h : ∀ c ∈ cs, c.length = 1) : signs (Txt.join (Str.ofString "") cs) = cs := by
  unfold Txt.join
  rw [StrLaws.glued_eq_join]
  unfold signs
  rw [join_cps]
  induction cs with
  | nil => rfl
  | cons c r ih =>
    rw [List.flatMap_cons, List.map_append, ih fun z hz => h z (List.mem_cons_of_mem _ hz)]
    have hc := h c List.mem_cons_self
    obtain ⟨⟨l⟩⟩ := c
    have hc' : l.length = 1 := hc
    obtain ⟨n, rfl⟩ := List.length_eq_one_iff.mp hc'
    rfl
theorem sign_one {x c : Str} (h : c ∈ signs x) : c.length = 1 := by
  unfold signs at h
  obtain ⟨n, _, rfl⟩ := List.mem_map.mp h
  rfl
theorem item_sign {x : Str} {i : Int} (h0 : 0 ≤ i) (h1 : i < (x.length : Int)) : Txt.item x i ∈ signs x := by
  have hk : i.toNat < x.length := by omega
  rw [sign_item hk (by omega)]
  have e := getD_getElem? (l := signs x) (d := Str.empty) (k := i.toNat) (by rw [signs_length]; exact hk)
  exact List.mem_of_getElem? e
section
variable {prog : Program} {w : World} {A : Around} {E : Value → Shared → Prop} {s : Shared} {h₀ : Heap} {L : Addr} {news : List (Addr × Obj)}
theorem join_word {D : Addr} {yv : List Value} {cs : List Str} {n : Nat} {t : Tok} {Q : Value → Shared → Prop} (N : News h₀ L s.heap news) (hm : (D, listOf yv.toArray n) ∈ news) (hS : StrsAre yv cs) (h1 : ∀ c ∈ cs, c.length = 1) (hl : cs.length ≤ 1000)
    (hq : ∀ x t' k, signs x = cs → x.length = cs.length → Q (.str x t') { s with toks := k }) : wpAny (model prog w) A (call (.builtin "str.join") [.str (Str.ofString "") t, .ref D]) Q E s := by
  obtain ⟨l, rfl, rfl⟩ := strs_pairs hS
  refine SC.join (PySem.IsL.isList (n := n) (N _ hm).1) rfl ?_ fun t' k => hq _ t' k (signs_join h1) (by rw [← signs_length, signs_join h1])
  unfold JoinOk
  have e : (Str.ofString "").length = 0 := by decide +kernel
  rw [StrLaws.joinFits (B := 1) (fun y hy => Nat.le_of_eq (h1 y hy)) (by rw [e]; omega)]
  rfl
end
end Mine

namespace Mine
open PySem PySem.W PySem.Calls PyProof.Rows PySem.Spec
section
variable {prog : Program} {w : World} {A : Around} {E : Value → Shared → Prop} {s : Shared} {env : Env} {h₀ : Heap} {x : Str} {body : List Stmt} {Q : Flow → Shared → Prop} {m₀ : Str → Option Value} {news : List (Addr × Obj)}
/-- a loop over a text by an invariant -/
theorem str_inv {xt : Str} {tx : Tok} (JJ : (Str → Option Value) → Nat → (Str → Option Value) → List (Addr × Obj) → Prop) (hh : A.handled = none) (F : Fr h₀ env.locals s.heap m₀) (N : News h₀ env.locals s.heap news) (hj : JJ m₀ 0 m₀ news)
    (turn : ∀ i c t m₁ nx h tk own, (signs xt)[i]? = some c → OwnOff own (nx.map (·.1)) → JJ m₀ i m₁ nx → Fr h₀ env.locals h (fun y => if y = x then some (.str c t) else m₁ y) → News h₀ env.locals h (nx ++ own) →
      wpAny (model prog w) A (execs body env) (InvPostG h₀ env.locals (JJ m₀ (i + 1)) own { s with heap := h, toks := tk } Q) E { s with heap := h, toks := tk })
    (done : ∀ m₁ nx h tk, JJ m₀ (signs xt).length m₁ nx → Fr h₀ env.locals h m₁ → News h₀ env.locals h nx → Q .next { s with heap := h, toks := tk }) :
    wpAny (model prog w) A (pyIter (.str xt tx)) (fun it s₂ => LoopAtV prog w A h₀ env x body Q E it s₂) E s := by
  have key : ∀ (T : String) (St : Nat → Heap → Prop) (o : Obj), o.isFreed = false → St = (fun i h => h.IsStrIter s.heap.objs.size T xt tx i) → Walks prog w A s.heap.objs.size [s.heap.objs.size] [s.heap.objs.size] xt.cps.size (SignAt xt) St → St 0 (s.heap.push o) → LoopAtV prog w A h₀ env x body Q E (.ref s.heap.objs.size) { s with heap := s.heap.push o } := by
    intro T St o ho hSt W hst
    refine kdr_loop (JJ m₀) W (fun _ h => h) (fun _ h => h) ?_ ?_ ?_ ?_ hst (F.push _) (fun p hp => ⟨Heap.get?_push_of_some _ (N p hp).1, (N p hp).2⟩) hj ?_ ?_
    · intro i h hi b hb
      rw [List.mem_singleton.mp hb]
      rw [hSt] at hi
      obtain ⟨o, ho, _⟩ := hi
      exact ⟨o, ho⟩
    · intro hm
      exact absurd F.ns.lt ((List.mem_singleton.mp hm) ▸ Nat.lt_irrefl _)
    · intro b' hb
      rw [List.mem_singleton.mp hb]
      exact next_is_new F
    · intro p hp hI
      exact absurd (Heap.lt_size (N p hp).1) ((List.mem_singleton.mp hI) ▸ Nat.lt_irrefl _)
    · rintro i v m₁ nx h tk own hi ⟨n, u, hn, rfl⟩ hoff hj F₁ N₁
      exact turn i _ u m₁ nx h tk own (signs_get hn) hoff hj F₁ N₁
    · intro m₁ nx h tk hj F₁ N₁
      exact done m₁ nx h tk (by rw [signs_length]; exact hj) F₁ N₁
  cases ha : xt.cps.all (· < 128)
  · exact wpAny_pyIter_wide ha (key _ _ _ rfl rfl (Walks.strWide hh _ xt tx) ⟨_, Heap.get?_push_size _ rfl, rfl, rfl⟩)
  · exact wpAny_pyIter_ascii ha (key _ _ _ rfl rfl (Walks.strAscii hh _ xt tx) ⟨_, Heap.get?_push_size _ rfl, rfl, rfl⟩)
/-- a loop over a range by an invariant -/
theorem range_inv {r : Addr} {a₀ b₀ : Int} {t₀ u₀ v₀ : Tok} {n : Nat} (JJ : (Str → Option Value) → Nat → (Str → Option Value) → List (Addr × Obj) → Prop) (hh : A.handled = none) (hr : IsRange s.heap r a₀ b₀ 1 t₀ u₀ v₀) (hsmall : Builtin.Range.small a₀ b₀ 1 = true) (hsz : Builtin.Range.rangeSize a₀ b₀ 1 = (n : Int))
    (F : Fr h₀ env.locals s.heap m₀) (N : News h₀ env.locals s.heap news) (hj : JJ m₀ 0 m₀ news)
    (turn : ∀ i t m₁ nx h tk own, i < n → OwnOff own (nx.map (·.1)) → JJ m₀ i m₁ nx → Fr h₀ env.locals h (fun y => if y = x then some (.int (a₀ + (i : Nat)) t) else m₁ y) → News h₀ env.locals h (nx ++ own) →
      wpAny (model prog w) A (execs body env) (InvPostG h₀ env.locals (JJ m₀ (i + 1)) own { s with heap := h, toks := tk } Q) E { s with heap := h, toks := tk })
    (done : ∀ m₁ nx h tk, JJ m₀ n m₁ nx → Fr h₀ env.locals h m₁ → News h₀ env.locals h nx → Q .next { s with heap := h, toks := tk }) :
    wpAny (model prog w) A (pyIter (.ref r)) (fun it s₂ => LoopAtV prog w A h₀ env x body Q E it s₂) E s := by
  refine wpAny_pyIter_range hr hsmall ?_
  have W : Walks prog w A s.heap.objs.size [s.heap.objs.size] [s.heap.objs.size] n (fun i v => i < n ∧ ∃ t, v = .int (a₀ + i * 1) t)
      (fun i h => IsRangeIter h s.heap.objs.size (a₀ + (i : Nat) * 1) ((n : Int) - (i : Nat)) 1) := (Walks.range hh _ a₀ 1 n).bound
  refine kdr_loop (JJ m₀) W (fun _ h => h) (fun _ h => h) ?_ ?_ ?_ ?_ (by show IsRangeIter _ _ _ _ _; rw [hsz]; simpa using Heap.get?_push_size _ rfl) (F.push _) (fun p hp => ⟨Heap.get?_push_of_some _ (N p hp).1, (N p hp).2⟩) hj ?_ ?_
  · intro i h hi b hb
    rw [List.mem_singleton.mp hb]
    exact ⟨_, hi⟩
  · intro hm
    exact absurd F.ns.lt ((List.mem_singleton.mp hm) ▸ Nat.lt_irrefl _)
  · intro b hb
    rw [List.mem_singleton.mp hb]
    exact next_is_new F
  · intro p hp hI
    exact absurd (Heap.lt_size (N p hp).1) ((List.mem_singleton.mp hI) ▸ Nat.lt_irrefl _)
  · rintro i v m₁ nx h tk own hi ⟨_, t, rfl⟩ hoff hj F₁ N₁
    have e1 : a₀ + (i : Int) * 1 = a₀ + (i : Int) := by omega
    rw [e1] at F₁
    exact turn i t m₁ nx h tk own hi hoff hj F₁ N₁
  · intro m₁ nx h tk hj F₁ N₁
    exact done m₁ nx h tk hj F₁ N₁
/-- the same, the invariant told the ledger at the start -/
theorem range_invN {r : Addr} {a₀ b₀ : Int} {t₀ u₀ v₀ : Tok} {n : Nat} (JJ : (Str → Option Value) → List (Addr × Obj) → Nat → (Str → Option Value) → List (Addr × Obj) → Prop) (hh : A.handled = none) (hr : IsRange s.heap r a₀ b₀ 1 t₀ u₀ v₀) (hsmall : Builtin.Range.small a₀ b₀ 1 = true) (hsz : Builtin.Range.rangeSize a₀ b₀ 1 = (n : Int))
    (F : Fr h₀ env.locals s.heap m₀) (N : News h₀ env.locals s.heap news) (hj : JJ m₀ news 0 m₀ news)
    (turn : ∀ i t m₁ nx h tk own, i < n → OwnOff own (nx.map (·.1)) → JJ m₀ news i m₁ nx → Fr h₀ env.locals h (fun y => if y = x then some (.int (a₀ + (i : Nat)) t) else m₁ y) → News h₀ env.locals h (nx ++ own) →
      wpAny (model prog w) A (execs body env) (InvPostG h₀ env.locals (JJ m₀ news (i + 1)) own { s with heap := h, toks := tk } Q) E { s with heap := h, toks := tk })
    (done : ∀ m₁ nx h tk, JJ m₀ news n m₁ nx → Fr h₀ env.locals h m₁ → News h₀ env.locals h nx → Q .next { s with heap := h, toks := tk }) :
    wpAny (model prog w) A (pyIter (.ref r)) (fun it s₂ => LoopAtV prog w A h₀ env x body Q E it s₂) E s :=
  range_inv (fun m => JJ m news) hh hr hsmall hsz F N hj turn done
/-- a loop over a list of the ledger by an invariant -/
theorem list_inv {ax : Addr} {vs : List Value} {k : Nat} (JJ : (Str → Option Value) → Nat → (Str → Option Value) → List (Addr × Obj) → Prop) (hh : A.handled = none) (F : Fr h₀ env.locals s.heap m₀) (N : News h₀ env.locals s.heap news) (hm : (ax, listOf vs.toArray k) ∈ news) (hj : JJ m₀ 0 m₀ news)
    (turn : ∀ i v m₁ nx h tk own, vs[i]? = some v → (ax, listOf vs.toArray k) ∈ own → OwnOff (own.filter fun p => p.1 ≠ ax) (nx.map (·.1)) → JJ m₀ i m₁ nx → Fr h₀ env.locals h (fun y => if y = x then some v else m₁ y) → News h₀ env.locals h (nx ++ own) →
      wpAny (model prog w) A (execs body env) (InvPostG h₀ env.locals (JJ m₀ (i + 1)) (own.filter fun p => p.1 ≠ ax) { s with heap := h, toks := tk } Q) E { s with heap := h, toks := tk })
    (keep : ∀ i m₁ nx, JJ m₀ i m₁ nx → (ax, listOf vs.toArray k) ∈ nx)
    (done : ∀ m₁ nx h tk, JJ m₀ vs.length m₁ nx → Fr h₀ env.locals h m₁ → News h₀ env.locals h nx → Q .next { s with heap := h, toks := tk }) :
    wpAny (model prog w) A (pyIter (.ref ax)) (fun it s₂ => LoopAtV prog w A h₀ env x body Q E it s₂) E s := by
  have hax := N _ hm
  have hls : s.heap.IsList ax vs.toArray := PySem.IsL.isList (n := k) hax.1
  have hlt : ax < s.heap.objs.size := Heap.lt_size hax.1
  have hne : ax ≠ s.heap.objs.size := Nat.ne_of_lt hlt
  refine wpAny_pyIter_list hls ?_
  have W := Walks.list (prog := prog) (w := w) hh s.heap.objs.size ax hne vs.toArray
  refine ⟨_, _, _, _, _, _, m₀, news, JJ m₀, rfl, W, ?_, ?_, ?_, ⟨⟨_, Heap.get?_push_size _ rfl, rfl, rfl⟩, hls.at fun o e => Heap.get?_push_of_some _ e⟩, F.push _, (fun p hp => ⟨Heap.get?_push_of_some _ (N p hp).1, (N p hp).2⟩), hj, ?_, ?_⟩
  · intro hL
    rcases List.mem_cons.mp hL with e | hL
    · exact absurd F.ns.lt (e ▸ Nat.lt_irrefl _)
    · exact hax.2.1 (List.mem_singleton.mp hL).symm
  · intro b hb
    rw [List.mem_singleton.mp hb]
    exact next_is_new F
  · intro p hp hI
    exact absurd (Heap.lt_size (N p hp).1) ((List.mem_singleton.mp hI) ▸ Nat.lt_irrefl _)
  · rintro i v m₁ nx s₁ own ⟨hh', tk', rfl⟩ hin hP hJ hoff hown hget hall hst F₁ N₁
    have hP' : vs[i]? = some v := by simpa using hP
    have N₂ : News h₀ env.locals hh' (nx ++ own) := fun p hp => N₁ p ((List.mem_append.mp hp).elim (fun h => List.mem_append.mpr (.inr h)) fun h => List.mem_append.mpr (.inl h))
    have haxn := keep i m₁ nx hJ
    have haxo : (ax, listOf vs.toArray k) ∈ own := hall ax (by simp) hax.2.2 _ (N₂ _ (List.mem_append_left _ haxn)).1
    have hsep : OwnOff (own.filter fun p => p.1 ≠ ax) (nx.map (·.1)) := by
      intro p hp b hb e
      obtain ⟨hp1, hp2⟩ := List.mem_filter.mp hp
      have hp2' : p.1 ≠ ax := by simpa using hp2
      obtain ⟨q, hq, rfl⟩ := List.mem_map.mp hb
      have h1 := hown p hp1
      rcases List.mem_cons.mp h1 with e1 | h1
      · exact hoff q hq (by rw [← e, e1]; exact List.mem_singleton.mpr rfl)
      · exact hp2' (List.mem_singleton.mp h1)
    refine wpAny_mono (turn i v m₁ nx hh' tk' own hP' haxo hsep hJ F₁ N₂) (fun f s₂ p => ?_) fun _ _ e => e
    have fin : InvEndG h₀ env.locals (JJ m₀ (i + 1)) (own.filter fun p => p.1 ≠ ax) { s with heap := hh', toks := tk' } s₂ → LoopStepU h₀ env.locals [s.heap.objs.size] own (JJ m₀ (i + 1)) { s with heap := hh', toks := tk' } .next s₂ := by
      rintro ⟨h', tk, m', news', nx', e, F', N', hn, ho, ha, hm'⟩
      have hax' := keep (i + 1) m' nx' hm'
      refine ⟨rfl, h', tk, m', nx', e, F', fun p hp => ?_, fun p hp hq => ?_, hm'⟩
      · rcases List.mem_append.mp hp with hp | hp
        · by_cases hpa : p.1 = ax
          · have h1 := (N₂ p (List.mem_append_right _ hp)).1
            have h2 := (N₂ _ (List.mem_append_left _ haxn)).1
            obtain ⟨p1, p2⟩ := p
            simp only at hpa h1
            subst hpa
            rw [h1] at h2
            rw [Option.some.inj h2]
            exact N' _ (hn _ hax')
          · exact N' p (ho p (List.mem_filter.mpr ⟨hp, by simpa using hpa⟩))
        · exact N' p (hn p hp)
      · have h0 : ∃ o, hh'.get? s.heap.objs.size = some o := by
          obtain ⟨o, ho', _⟩ := hst.1
          exact ⟨o, ho'⟩
        obtain ⟨o, ho'⟩ := h0
        have h1 := hall s.heap.objs.size (by simp) (next_is_new F) o ho'
        have h2 : (s.heap.objs.size, o) ∈ own.filter fun p => p.1 ≠ ax := List.mem_filter.mpr ⟨h1, by simpa using Ne.symm hne⟩
        exact ha _ h2 p.1 (List.mem_map.mpr ⟨p, hp, rfl⟩) (List.mem_singleton.mp hq).symm
    cases f with
    | ret v => exact .ret p
    | brk => exact .brk p
    | next => exact .next (fin p)
    | cont => exact .cont (fin p)
  · rintro h' tk m' news' F' N' _ hJ
    exact done m' news' h' tk (by simpa using hJ) F' N'
/-- the same, the invariant told the ledger at the start -/
theorem list_invN {ax : Addr} {vs : List Value} {k : Nat} (JJ : (Str → Option Value) → List (Addr × Obj) → Nat → (Str → Option Value) → List (Addr × Obj) → Prop) (hh : A.handled = none) (F : Fr h₀ env.locals s.heap m₀) (N : News h₀ env.locals s.heap news) (hm : (ax, listOf vs.toArray k) ∈ news) (hj : JJ m₀ news 0 m₀ news)
    (turn : ∀ i v m₁ nx h tk own, vs[i]? = some v → (ax, listOf vs.toArray k) ∈ own → OwnOff (own.filter fun p => p.1 ≠ ax) (nx.map (·.1)) → JJ m₀ news i m₁ nx → Fr h₀ env.locals h (fun y => if y = x then some v else m₁ y) → News h₀ env.locals h (nx ++ own) →
      wpAny (model prog w) A (execs body env) (InvPostG h₀ env.locals (JJ m₀ news (i + 1)) (own.filter fun p => p.1 ≠ ax) { s with heap := h, toks := tk } Q) E { s with heap := h, toks := tk })
    (keep : ∀ i m₁ nx, JJ m₀ news i m₁ nx → (ax, listOf vs.toArray k) ∈ nx)
    (done : ∀ m₁ nx h tk, JJ m₀ news vs.length m₁ nx → Fr h₀ env.locals h m₁ → News h₀ env.locals h nx → Q .next { s with heap := h, toks := tk }) :
    wpAny (model prog w) A (pyIter (.ref ax)) (fun it s₂ => LoopAtV prog w A h₀ env x body Q E it s₂) E s :=
  list_inv (fun m => JJ m news) hh F N hm hj turn keep done
end
end Mine

namespace Mine
open PySem PySem.W PySem.Calls PyProof.Rows PySem.Spec
def puts : List (Str × Value) → (Str → Option Value) → Str → Option Value
  | [], f => f
  | p :: r, f => fun y => if y = p.1 then some p.2 else puts r f y
theorem puts_of {st : List Str} {m m₀ : Str → Option Value} : ∀ (ps : List (Str × Value)), (∀ p ∈ ps, m p.1 = some p.2) → (∀ z, st.contains z = false → m z = m₀ z) → m = puts ps (ovr st m m₀)
  | [], _, h => ovr_of h
  | p :: r, h1, h => by
    have ih := puts_of r (fun q hq => h1 q (List.mem_cons_of_mem _ hq)) h
    funext y
    show m y = if y = p.1 then some p.2 else puts r (ovr st m m₀) y
    split
    · rename_i e; rw [e]; exact h1 p List.mem_cons_self
    · exact congrFun ih y
theorem fr_puts {h₀ h : Heap} {L : Addr} {x : Str} {v : Value} {st : List Str} {m m₀ : Str → Option Value} (ps : List (Str × Value)) (F : Fr h₀ L h (fun y => if y = x then some v else m y)) (h1 : ∀ p ∈ ps, m p.1 = some p.2) (h2 : ∀ z, st.contains z = false → m z = m₀ z) :
    ∃ u, Fr h₀ L h (fun y => if y = x then some v else puts ps (ovr st u m₀) y) := by
  have e := puts_of ps h1 h2
  refine ⟨m, ?_⟩
  rw [← e]
  exact F
theorem fr_puts0 {h₀ h : Heap} {L : Addr} {st : List Str} {m m₀ : Str → Option Value} (ps : List (Str × Value)) (F : Fr h₀ L h m) (h1 : ∀ p ∈ ps, m p.1 = some p.2) (h2 : ∀ z, st.contains z = false → m z = m₀ z) :
    ∃ u, Fr h₀ L h (puts ps (ovr st u m₀)) := by
  have e := puts_of ps h1 h2
  refine ⟨m, ?_⟩
  rw [← e]
  exact F
theorem puts_out {st : List Str} {m m' : Str → Option Value} : ∀ (ps : List (Str × Value)), ps.all (fun p => st.contains p.1) = true → (∀ z, st.contains z = false → m' z = m z) → ∀ z, st.contains z = false → puts ps m' z = m z
  | [], _, h => h
  | p :: r, hp, h => by
    simp only [List.all_cons, Bool.and_eq_true] at hp
    exact put_out hp.1 (puts_out r hp.2 h)
end Mine

namespace Mine
open PySem PySem.W PySem.Calls PyProof.Rows PySem.Spec
section
variable {prog : Program} {w : World} {A : Around} {E : Value → Shared → Prop} {s : Shared} {h₀ : Heap} {L : Addr} {news : List (Addr × Obj)}
theorem led_len {D : Addr} {vs : List Value} {n : Nat} {Q : Value → Shared → Prop} (N : News h₀ L s.heap news) (hm : (D, listOf vs.toArray n) ∈ news) (hl : vs.length < 2 ^ 62)
    (h : Q (.int (vs.length : Nat) (s.toks + 1)) { s with toks := s.toks + 1 + 1 }) : wpAny (model prog w) A (call (.builtin "len") [.ref D]) Q E s :=
  Calls.call_len_list (PySem.IsL.isList (n := n) (N _ hm).1) (by rw [List.size_toArray]; omega) (by rw [List.size_toArray]; exact h)
end
end Mine

namespace Mine
theorem sum_take_succ {α : Type} {l : List α} {f : α → Nat} {i : Nat} {c : α} (h : l[i]? = some c) : ((l.take (i + 1)).map f).sum = ((l.take i).map f).sum + f c := by
  rw [List.take_add_one, h]
  simp
end Mine

namespace Mine
open PySem
theorem int_at {m' : Str → Option Value} {x : Str} {v v' : Int} {t : Tok} (h : m' x = some (.int v t)) (e : v = v') : ∃ t, m' x = some (.int v' t) := ⟨t, by rw [h, e]⟩
end Mine

namespace Mine
open PySem PySem.W PySem.Calls PyProof.Rows PySem.Spec
section
variable {prog : Program} {w : World} {A : Around} {E : Value → Shared → Prop} {s : Shared} {K : Frag} {x C p L : Addr} {ox : Obj} {name : Str} {h₀ : Heap} {m : Str → Option Value} {es : List DictEntry} {n : Nat} {expr : Bool} {Q : Value → Shared → Prop} {fv : Value} {rest : List Value}
/-- a static method read off an object of the class -/
theorem get_sm (F : Fr h₀ L s.heap m) (X₀ : K.In h₀) (I : InstAt s.heap x ox C (some (dictOf es n))) (hg : plainGet K C name = true) (hh : hasDictIn K C = true) (ha : findIn K (.ref C) name = some (some (.ref p)))
    (hgf : specialIn K (.ref p) "__get__" = some (some (.builtin "staticmethod.__get__"))) (hts : takesIn K (.ref p) = some false) (hc : copiedNames.contains name = false) (hl : getL name es = some none) (hp : recIn K p "staticmethod" = some (fv :: rest)) (hv : handedIn fv = true)
    (h : Q fv { s with toks := s.toks + 1 }) : wpAny (model prog w) A (getAttr (.ref x) name expr) Q E s :=
  get_bind (X₀.keeps F.keep) I (plainGet_of hg).1 (findObj_fn hh ha hgf hts hc (by show lookIn name (dictOf es n) = _; rw [lookIn_dict, hl])) (plainGet_of hg).2
    (wpAny_call (sm_get (s := { s with toks := s.toks + 1 }) (X₀.keeps F.keep) hp (handed_on hv h)))
end
end Mine
end
section
set_option Elab.async false
set_option maxRecDepth 100000
namespace Mine
open PySem PySem.W PySem.Calls PyProof.Rows PySem.Spec
abbrev two (elt i1 i2 : Expr) (x y : Str) (px py : Pos) (scope : Scope) (pos : Pos) : Expr := .ListComp elt [⟨.Name x px, i1, [], 0⟩, ⟨.Name y py, i2, [], 0⟩] scope pos
theorem turn0 (elt i1 i2 : Expr) (x y : Str) (px py : Pos) (scope : Scope) (pos : Pos) (it acc : Value) (env : Env) :
    compTurn (two elt i1 i2 x y px py scope pos) 0 it acc env = (standAt i1.pos >>= fun _ => pyNext it >>= fun r => match r with
      | none => pure (.done .next)
      | some v => letOwnedTupleGo (.Name x px) it v >>= fun _ => assign (.Name x px) env v >>= fun _ => eval i2 env >>= fun xv => standAt i2.pos >>= fun _ => foldedSetIterable i2 env xv >>= fun xv => holding [xv] (pyIter xv) >>= fun it2 =>
          runOwn (.compStart (two elt i1 i2 x y px py scope pos) 1 it2 acc env) env >>= fun _ => again (.compLoop (two elt i1 i2 x y px py scope pos) 0 it acc env)) := by rfl
theorem turn1 (elt i1 i2 : Expr) (x y : Str) (px py : Pos) (scope : Scope) (pos : Pos) (it acc : Value) (env : Env) :
    compTurn (two elt i1 i2 x y px py scope pos) 1 it acc env = (standAt i2.pos >>= fun _ => pyNext it >>= fun r => match r with
      | none => pure (.done .next)
      | some v => letOwnedTupleGo (.Name y py) it v >>= fun _ => assign (.Name y py) env v >>= fun _ =>
        (eval elt env >>= fun x => call (.builtin "list.append") [acc, x] >>= fun _ => pure ()) >>= fun _ => again (.compLoop (two elt i1 i2 x y px py scope pos) 1 it acc env)) := by rfl
section
variable {prog : Program} {w : World} {A : Around} {E : Value → Shared → Prop} {R : Result → Shared → Prop} {s : Shared} {elt i1 i2 : Expr} {x y : Str} {px py : Pos} {scope : Scope} {pos : Pos} {it acc : Value} {env : Env}
theorem start1 (h0 : codeAny (model prog w) A (.compLoop (two elt i1 i2 x y px py scope pos) 1 it acc env) R s)
    (h : wpAny (model prog w) A (pyIter it) (fun it' s' => codeAny (model prog w) A (.compLoop (two elt i1 i2 x y px py scope pos) 1 it' acc env) R s')
      (notedBy (model prog w) A env fun x s' => R (.error x) s') s) :
    codeAny (model prog w) A (.compStart (two elt i1 i2 x y px py scope pos) 1 it acc env) R s := by
  refine codeAny_of_tree ?_
  show wpAny _ _ ((compStart (two elt i1 i2 x y px py scope pos) 1 it acc env).onRaise (fun x => do noteFrame x env; standAt theWindowsPlace)) _ _ s
  refine wpAny_notedAt ?_
  unfold compStart
  show wpAny _ _ (ask >>= _) _ _ s
  refine wpAny_bind (wpAny_askSetting (wpAny_ite ?_))
  split
  · first
      | exact wpAny_bind (wpAny_pure (wpAny_pure (And.intro rfl h0)))
      | exact wpAny_pure (And.intro rfl h0)
  · first
      | exact wpAny_bind (wpAny_rule (wpAny_bind (wpAny_standAt (wpAny_bind (wpAny_mono h (fun it' s' h' => wpAny_pure (And.intro rfl h')) fun _ _ x => x)))))
      | (refine wpAny_bind (wpAny_rule ?_); show wpAny _ _ (standAt i2.pos >>= _) _ _ s; exact wpAny_bind (wpAny_standAt (wpAny_bind (wpAny_mono h (fun it' s' h' => wpAny_pure (And.intro rfl h')) fun _ _ x => x))))
theorem loop1 (I : Nat → Shared → Prop)
    (turn : ∀ n s, I n s → ∀ E', wpAny (model prog w) A (pyNext it) (fun r s₁ => match r with
      | none => R (.ok .next) s₁
      | some v => wpAny (model prog w) A (assign (.Name y py) env v) (fun _ s₂ => wpAny (model prog w) A (eval elt env) (fun x s₃ =>
          wpAny (model prog w) A (call (.builtin "list.append") [acc, x]) (fun _ s₄ => ∃ m, m < n ∧ I m s₄) E' s₃) E' s₂) E' s₁) E' s)
    (n : Nat) (h : I n s) : codeAny (model prog w) A (.compLoop (two elt i1 i2 x y px py scope pos) 1 it acc env) R s := by
  refine codeAny_loop rfl I (fun n s hI => ?_) n h
  show wpAny _ _ ((compTurn (two elt i1 i2 x y px py scope pos) 1 it acc env).onRaise (fun x => do noteFrame x env; theTreesLotGoes x)) _ _ s
  refine wpAny_noted ?_
  rw [turn1]
  refine wpAny_bind (wpAny_standAt (wpAny_bind (wpAny_mono (turn n s hI _) (fun r s₁ h₁ => ?_) fun _ _ h' => h')))
  cases r with
  | none => exact wpAny_pure h₁
  | some v =>
    refine wpAny_bind (wpAny_of_eq (a := ()) (by rfl) ?_)
    exact wpAny_bind (wpAny_mono h₁ (fun _ s₂ h₂ => wpAny_bind (wpAny_bind (wpAny_mono h₂ (fun x s₃ h₃ => wpAny_bind (wpAny_mono h₃ (fun _ s₄ h₄ => wpAny_pure (wpAny_pure ⟨rfl, h₄⟩)) fun _ _ h' => h')) fun _ _ h' => h'))) fun _ _ h' => h')
theorem loop0 (I : Nat → Shared → Prop) (hs : ∀ v, foldedSetIterable i2 env v = pure v)
    (turn : ∀ n s, I n s → ∀ E', wpAny (model prog w) A (pyNext it) (fun r s₁ => match r with
      | none => R (.ok .next) s₁
      | some v => wpAny (model prog w) A (assign (.Name x px) env v) (fun _ s₂ => wpAny (model prog w) A (eval i2 env) (fun xv s₃ => wpAny (model prog w) A (pyIter xv) (fun it2 s₄ =>
          codeAny (model prog w) A (.compStart (two elt i1 i2 x y px py scope pos) 1 it2 acc env) (fun r s' => match r with | .ok _ => ∃ m, m < n ∧ I m s' | .error _ => False) s₄) E' s₃) E' s₂) E' s₁) E' s)
    (n : Nat) (h : I n s) : codeAny (model prog w) A (.compLoop (two elt i1 i2 x y px py scope pos) 0 it acc env) R s := by
  refine codeAny_loop rfl I (fun n s hI => ?_) n h
  show wpAny _ _ ((compTurn (two elt i1 i2 x y px py scope pos) 0 it acc env).onRaise (fun x => do noteFrame x env; theTreesLotGoes x)) _ _ s
  refine wpAny_noted ?_
  rw [turn0]
  refine wpAny_bind (wpAny_standAt (wpAny_bind (wpAny_mono (turn n s hI _) (fun r s₁ h₁ => ?_) fun _ _ h' => h')))
  cases r with
  | none => exact wpAny_pure h₁
  | some v =>
    refine wpAny_bind (wpAny_of_eq (a := ()) (by rfl) ?_)
    refine wpAny_bind (wpAny_mono h₁ (fun _ s₂ h₂ => wpAny_bind (wpAny_mono h₂ (fun xv s₃ h₃ => wpAny_bind (wpAny_standAt (wpAny_bind (wpAny_of_eq (hs xv) (wpAny_bind (wpAny_holding (wpAny_mono h₃ (fun it2 s₄ h₄ => ?_) fun _ _ h' => h'))))))) fun _ _ h' => h')) fun _ _ h' => h')
    refine wpAny_bind (wpAny_runOwn (codeAny_mono h₄ fun r s' hr => ?_))
    cases r with
    | ok f => exact wpAny_pure ⟨rfl, hr⟩
    | error e => exact hr.elim
end
end Mine
namespace Mine
open PySem PySem.W PySem.Calls PyProof.Rows PySem.Spec
section
variable {prog : Program} {w : World} {A : Around} {E : Value → Shared → Prop} {R : Result → Shared → Prop} {s : Shared} {elt i1 i2 : Expr} {x y : Str} {px py : Pos} {scope : Scope} {pos : Pos} {cenv : Env}
theorem inner {J D : Addr} {St : Nat → Heap → Prop} {kt o : Str} {t₀ : Tok} {m : Str → Option Value} {ys : List Value}
    (W : Walks prog w A J [J] [J] kt.cps.size (SignAt kt) St) (hy : cenv.kindOf y = some .local) (hp : (cenv.scope.kind == .class || (cenv.scope.kind == .module && cenv.locals != cenv.globals)) = false) (hyx : y ≠ x)
    (hJC : J ≠ cenv.locals) (hJD : J ≠ D) (hDC : D ≠ cenv.locals) (hst : St 0 s.heap) (hn : s.heap.Ns cenv.locals m) (hm : m x = some (.str o t₀)) (hD : s.heap.get? D = some (LCg.lst ys)) (hsz : ys.length + kt.length ≤ sizeLine)
    (helt : ∀ (s₂ : Shared) m₂ c t (E' : Value → Shared → Prop), s₂.heap.Ns cenv.locals m₂ → m₂ x = some (.str o t₀) → m₂ y = some (.str c t) → c ∈ signs kt → wpAny (model prog w) A (eval elt cenv) (fun v s₃ => ∃ t' k, v = .str (o ++ c) t' ∧ s₃ = { s₂ with toks := k }) E' s₂)
    (hR : ∀ h' tk m' zs, StrsAre zs ((signs kt).map (o ++ ·)) → h'.Ns cenv.locals m' → h'.get? D = some (LCg.lst (ys ++ zs)) → (∀ b ob, b ≠ cenv.locals → b ≠ D → b ≠ J → s.heap.get? b = some ob → h'.get? b = some ob) → R (.ok .next) { s with heap := h', toks := tk }) :
    codeAny (model prog w) A (.compStart (two elt i1 i2 x y px py scope pos) 1 (.ref J) (.ref D) cenv) R s := by
  have loop : codeAny (model prog w) A (.compLoop (two elt i1 i2 x y px py scope pos) 1 (.ref J) (.ref D) cenv) R s := by
    refine loop1 (fun n s' => ∃ h' tk i m' zs, s' = { s with heap := h', toks := tk } ∧ i ≤ kt.cps.size ∧ n = kt.cps.size + 1 - i ∧ St i h' ∧ h'.Ns cenv.locals m' ∧ m' x = some (.str o t₀) ∧ StrsAre zs (((signs kt).take i).map (o ++ ·)) ∧ h'.get? D = some (LCg.lst (ys ++ zs)) ∧ (∀ b ob, b ≠ cenv.locals → b ≠ D → b ≠ J → s.heap.get? b = some ob → h'.get? b = some ob)) ?_ (kt.cps.size + 1)
      ⟨s.heap, s.toks, 0, m, [], rfl, Nat.zero_le _, rfl, hst, hn, hm, .nil, by simpa using hD, fun _ _ _ _ _ e => e⟩
    rintro n s' ⟨h', tk, i, m', zs, rfl, hi, rfl, hst', hn', hm', hzs, hD', hk'⟩ E'
    by_cases hlt : i < kt.cps.size
    · refine W.item i _ _ _ hlt hst' fun v h₁ tk₁ hPv hst₁ hk₁ => ?_
      obtain ⟨c, u, hc, rfl⟩ := hPv
      have hsg := signs_get hc
      refine wpAny_assign_Name (wpAny_storeName_local hy (hn'.at' fun o e => hk₁ _ o (by simpa using Ne.symm hJC) e) (fun h₂ hn₂ hs₂ => ?_) hp)
      refine wpAny_mono (helt _ _ ⟨#[c]⟩ u _ hn₂ (by simpa [Ne.symm hyx] using hm') (by simp) (List.mem_of_getElem? hsg)) (fun v s₃ h₃ => ?_) fun _ _ e => e
      obtain ⟨t', k, rfl, rfl⟩ := h₃
      have hD₂ : h₂.get? D = some (LCg.lst (ys ++ zs)) := hs₂.extBut _ _ hDC (hk₁ _ _ (by simpa using Ne.symm hJD) hD')
      have hzl : zs.length = i := by
        rw [hzs.len_eq, List.length_map, List.length_take, signs_length]
        have : kt.length = kt.cps.size := rfl
        omega
      have hkl : kt.length = kt.cps.size := rfl
      refine append_at (hsz := by rw [List.size_toArray, List.length_append]; omega) hD₂ fun h₅ hs₅ hD₅ => ?_
      refine ⟨kt.cps.size + 1 - (i + 1), by omega, h₅, k, i + 1, _, zs ++ [.str (o ++ ⟨#[c]⟩) t'], rfl, hlt, rfl, ?_, hn₂.sameBut hs₅ (Ne.symm hDC), by simpa [Ne.symm hyx] using hm', ?_, ?_, ?_⟩
      · refine W.frame _ _ _ hst₁ fun b hb ob e => ?_
        rw [List.mem_singleton.mp hb] at e ⊢
        exact hs₅.extBut _ _ hJD (hs₂.extBut _ _ hJC e)
      · have e1 : ((signs kt).take (i + 1)).map (o ++ ·) = ((signs kt).take i).map (o ++ ·) ++ [o ++ ⟨#[c]⟩] := by
          rw [List.take_add_one, hsg]; simp
        rw [e1]
        exact hzs.append' (.cons _ _ .nil)
      · rw [← List.append_assoc]
        exact hD₅.trans (congrArg some (LCg.lst_snoc (ys ++ zs) _))
      · intro b ob h1 h2 h3 e
        exact hs₅.extBut _ _ h2 (hs₂.extBut _ _ h1 (hk₁ _ _ (by simpa using h3) (hk' b ob h1 h2 h3 e)))
    · have hin : i = kt.cps.size := by omega
      subst hin
      refine W.done _ _ _ hst' fun h₁ tk₁ hk₁ => ?_
      have hkl : (signs kt).length = kt.cps.size := signs_length kt
      rw [← hkl, List.take_length] at hzs
      exact hR h₁ tk₁ m' zs hzs (hn'.at' fun o e => hk₁ _ o (by simpa using Ne.symm hJC) e) (hk₁ _ _ (by simpa using Ne.symm hJD) hD') fun b ob h1 h2 h3 e => hk₁ _ _ (by simpa using h3) (hk' b ob h1 h2 h3 e)
  exact start1 loop (W.self 0 _ _ _ hst loop)
end
end Mine
namespace Mine
open PySem PySem.W PySem.Calls PyProof.Rows PySem.Spec
section
variable {prog : Program} {w : World} {A : Around} {E : Value → Shared → Prop} {s : Shared} {elt i1 i2 : Expr} {x y z : Str} {px py pz : Pos} {scope : Scope} {pos spos : Pos} {env : Env} {h₀ : Heap} {L : Addr} {m : Str → Option Value} {news : List (Addr × Obj)} {cl : List (Str × Addr)}
def grow (ws ks : List Str) : List Str := ws.flatMap fun o => ks.map (o ++ ·)
theorem grow_length (ws ks : List Str) : (grow ws ks).length = ws.length * ks.length := by
  unfold grow
  induction ws with
  | nil => simp
  | cons a r ih => rw [List.flatMap_cons, List.length_append, ih, List.length_map, List.length_cons, Nat.succ_mul]; omega
theorem grow_snoc (ws ks : List Str) (o : Str) : grow (ws ++ [o]) ks = grow ws ks ++ ks.map (o ++ ·) := by
  unfold grow; simp
theorem Assign_two {ax c : Addr} {oc : Obj} {vs : List Value} {k : Nat} {ws : List Str} {kt : Str} {tkt : Tok} {Q : Flow → Shared → Prop} (F₀ : Fr h₀ L s.heap m) (N : News h₀ L s.heap news) (hLe : env.locals = L) (hh : A.handled = none)
    (hsw : swapsWith (two elt i1 i2 x y px py scope pos) (some (.Name z pz)) spos.line env = pure true)
    (hclos : closureFor scope env = pure cl) (hcell : ∀ v ∈ scope.names, v.2 ≠ .cell) (hkind : scope.kind = .function)
    (hnames : ∀ v ∈ scope.names, v.2 = .local → scope.names.lookup v.1 = some .local) (hx : scope.names.lookup x = some .local) (hy : scope.names.lookup y = some .local) (hyx : y ≠ x)
    (hz : env.kindOf z = some .local) (hp : (env.scope.kind == .class || (env.scope.kind == .module && env.locals != env.globals)) = false)
    (h1 : ∀ Q' : Value → Shared → Prop, Q' (.ref ax) s → wpAny (model prog w) A (eval i1 env) Q' E s)
    (hm : (ax, listOf vs.toArray k) ∈ news) (hS : StrsAre vs ws) (hc : (c, oc) ∈ news) (hsize : ws.length * kt.length + kt.length ≤ sizeLine)
    (h2 : ∀ C (s₂ : Shared) (Q' : Value → Shared → Prop) (E' : Value → Shared → Prop), s₂.heap.get? c = some oc → Q' (.str kt tkt) s₂ → wpAny (model prog w) A (eval i2 (compEnvC scope cl C env)) Q' E' s₂)
    (helt : ∀ C (s₂ : Shared) m₂ o cc t t' (E' : Value → Shared → Prop), s₂.heap.Ns C m₂ → m₂ x = some (.str o t) → m₂ y = some (.str cc t') → o ∈ ws → cc ∈ signs kt → wpAny (model prog w) A (eval elt (compEnvC scope cl C env)) (fun v s₃ => ∃ t' k, v = .str (o ++ cc) t' ∧ s₃ = { s₂ with toks := k }) E' s₂)
    (hQ : ∀ D h tk zs, StrsAre zs (grow ws (signs kt)) → Fr h₀ L h (fun v => if v = z then some (.ref D) else m v) → News h₀ L h ((D, LCg.lst zs) :: news) → (∀ p ∈ news, p.1 ≠ D) → Q .next { s with heap := h, toks := tk })
    (hs1 : ∀ v, foldedSetIterable i1 env v = pure v) (hs2 : ∀ C v, foldedSetIterable i2 (compEnvC scope cl C env) v = pure v) :
    wpAny (model prog w) A (exec (.Assign [.Name z pz] (two elt i1 i2 x y px py scope pos) spos) env) Q E s := by
  subst hLe
  rw [exec_Assign_Name_used _ _ _ _ hsw]
  refine wpAny_bind (wpAny_standAt (wpAny_bind ?_))
  show wpAny _ A (do let _ ← comprehension (two elt i1 i2 x y px py scope pos) scope env _ (newList []) false (eval i1 env) (some (assign (.Name z pz) env))) _ _ s
  refine wpAny_bind (wpAny_mono (wpAny_comprehension_free (use := some (assign (.Name z pz) env)) (Q := fun _ s' => Q .next s') rfl hs1 hclos hkind hnames
    (h1 _ ?_)) (fun _ s' hq => wpAny_pure (wpAny_pure hq)) fun _ _ e => e)
  have hl : s.heap.IsList ax vs.toArray := PySem.IsL.isList (n := k) (N _ hm).1
  have hlt : ax < s.heap.objs.size := Heap.lt_size (N _ hm).1
  refine wpAny_pyIter_list hl ?_
  have up : ∀ b o, s.heap.get? b = some o → (s.heap.push { cls := .type "list_iterator", data := .fields #[.ref ax, .int 0 0] }).get? b = some o := fun b o e => Heap.get?_push_of_some _ e
  have W := Walks.list (prog := prog) (w := w) hh s.heap.objs.size ax (Nat.ne_of_lt hlt) vs.toArray
  have hIz : (s.heap.push { cls := .type "list_iterator", data := .fields #[.ref ax, .int 0 0] }).objs.size = s.heap.objs.size + 1 := Heap.size_push ..
  have hit0 : (s.heap.push { cls := .type "list_iterator", data := .fields #[.ref ax, .int 0 0] }).IsListIter s.heap.objs.size ax 0 := ⟨_, Heap.get?_push_size _ rfl, rfl, rfl⟩
  generalize hH1 : s.heap.push { cls := .type "list_iterator", data := .fields #[.ref ax, .int 0 0] } = H1 at up hIz hit0
  refine wpAny_newObj_type (wpAny_newFunctionEnv hcell (by intro y hy; simp at hy) (fun h₁ hns₁ hsb₁ => ?_) hkind)
  dsimp only at hns₁ hsb₁ ⊢
  have hDz : (H1.push { cls := .type "list", dict := none, data := .seq ([] : List Value).toArray }).objs.size = s.heap.objs.size + 2 := by rw [Heap.size_push, hIz]
  have hD0 : (H1.push { cls := .type "list", dict := none, data := .seq ([] : List Value).toArray }).get? H1.objs.size = some (LCg.lst []) := Heap.get?_push_size _ rfl
  have up2 : ∀ b o, H1.get? b = some o → (H1.push { cls := .type "list", dict := none, data := .seq ([] : List Value).toArray }).get? b = some o := fun b o e => Heap.get?_push_of_some _ e
  generalize hH2 : H1.push { cls := .type "list", dict := none, data := .seq ([] : List Value).toArray } = H2 at hns₁ hsb₁ hDz hD0 up2 ⊢
  have eI : H1.objs.size = s.heap.objs.size + 1 := hIz
  have nDC : H1.objs.size ≠ H2.objs.size := by rw [eI, hDz]; exact Nat.ne_of_lt (Nat.lt_succ_self _)
  have nIC : s.heap.objs.size ≠ H2.objs.size := by rw [hDz]; exact Nat.ne_of_lt (Nat.lt_succ_of_lt (Nat.lt_succ_self _))
  have nID : s.heap.objs.size ≠ H1.objs.size := by rw [eI]; exact Nat.ne_of_lt (Nat.lt_succ_self _)
  have small : ∀ b, b < s.heap.objs.size → b ≠ s.heap.objs.size ∧ b ≠ H1.objs.size ∧ b ≠ H2.objs.size := fun b hb => by
    refine ⟨Nat.ne_of_lt hb, ?_, ?_⟩
    · rw [eI]; exact Nat.ne_of_lt (Nat.lt_succ_of_lt hb)
    · rw [hDz]; exact Nat.ne_of_lt (Nat.lt_succ_of_lt (Nat.lt_succ_of_lt hb))
  have old : ∀ b o, s.heap.get? b = some o → h₁.get? b = some o := fun b o e => hsb₁.extBut b o (small b (Heap.lt_size e)).2.2 (Heap.get?_push_of_some _ (up2 _ _ (up _ _ e)))
  have hD₁ : h₁.get? H1.objs.size = some (LCg.lst []) := hsb₁.extBut _ _ nDC (Heap.get?_push_of_some _ hD0)
  have hit₁ : h₁.IsListIter s.heap.objs.size ax 0 := by
    obtain ⟨o, ho, r⟩ := hit0
    exact ⟨o, hsb₁.extBut _ _ nIC (Heap.get?_push_of_some _ (up2 _ _ ho)), r⟩
  have hl₁ : h₁.IsList ax vs.toArray := hl.at fun o e => old _ _ e
  have hC₁ : H2.objs.size < h₁.objs.size := hns₁.lt
  have fresh₀ : ∀ a, s.heap.objs.size ≤ a → h₀.get? a = none := fun a ha => by
    cases e : h₀.get? a with
    | none => rfl
    | some o' => exact absurd (Heap.lt_size (F₀.keep a o' e)) (Nat.not_lt.mpr ha)
  have hLlt : env.locals < s.heap.objs.size := F₀.ns.lt
  have loop : ∀ s₃ : Shared, s₃ = { s with heap := h₁, toks := s.toks + ([] : List (Str × Value)).length } →
      codeAny (model prog w) A (.compLoop (two elt i1 i2 x y px py scope pos) 0 (.ref s.heap.objs.size) (.ref H1.objs.size) (compEnvC scope cl H2.objs.size env))
        (compPost (model prog w) A E (some (assign (.Name z pz) env)) (fun _ s' => Q .next s') (.ref H1.objs.size) H2.objs.size) s₃ := by
    rintro s₃ rfl
    have hvl : vs.toArray.size = ws.length := by rw [List.size_toArray]; exact hS.len_eq
    let Inv : Nat → Shared → Prop := fun n s' => ∃ h' tk i m' zs, s' = { s with heap := h', toks := tk } ∧ i ≤ vs.toArray.size ∧ n = vs.toArray.size + 1 - i ∧ (h'.IsListIter s.heap.objs.size ax i ∧ h'.IsList ax vs.toArray) ∧ h'.Ns H2.objs.size m' ∧
      StrsAre zs (grow (ws.take i) (signs kt)) ∧ h'.get? H1.objs.size = some (LCg.lst zs) ∧ (∀ b ob, b ≠ H2.objs.size → b ≠ H1.objs.size → b ≠ s.heap.objs.size → h₁.get? b = some ob → h'.get? b = some ob)
    refine loop0 Inv (hs2 _) ?_ (vs.toArray.size + 1)
      ⟨h₁, _, 0, _, [], rfl, Nat.zero_le _, rfl, ⟨hit₁, hl₁⟩, hns₁, .nil, hD₁, fun _ _ _ _ _ e => e⟩
    rintro n s' ⟨h', tk, i, m', zs, rfl, hi, rfl, hst', hn', hzs, hD', hk'⟩ E'
    have oldk : ∀ b o, s.heap.get? b = some o → h'.get? b = some o := fun b o e => by
      have sm := small b (Heap.lt_size e)
      exact hk' b o sm.2.2 sm.2.1 sm.1 (old b o e)
    by_cases hlt' : i < vs.toArray.size
    · refine W.item i _ _ _ hlt' hst' fun v h₂ tk₂ hPv hst₂ hk₂ => ?_
      have hPv' : vs[i]? = some v := by simpa using hPv
      obtain ⟨o, to, rfl, ho⟩ := hS.item i v hPv'
      have hkI : ∀ b ob, b ≠ s.heap.objs.size → h'.get? b = some ob → h₂.get? b = some ob := fun b ob hb e => hk₂ b ob (by simpa using hb) e
      refine wpAny_assign_Name (wpAny_storeName_local (lookup_relabel_local hx) (hn'.at' fun o e => hkI _ o (Ne.symm nIC) e) (fun h₃ hn₃ hs₃ => ?_) (by simp [compEnvC, relabel, hkind]))
      have hcN := (N _ hc)
      have smc := small c (Heap.lt_size hcN.1)
      have hcell₃ : h₃.get? c = some oc := hs₃.extBut _ _ smc.2.2 (hkI _ _ smc.1 (oldk _ _ hcN.1))
      refine h2 _ _ _ _ hcell₃ ?_
      have hD₃ : h₃.get? H1.objs.size = some (LCg.lst zs) := hs₃.extBut _ _ nDC (hkI _ _ (Ne.symm nID) hD')
      have hit₃ : h₃.IsListIter s.heap.objs.size ax (i + 1) := by
        obtain ⟨ob, hob, r⟩ := hst₂.1
        exact ⟨ob, hs₃.extBut _ _ nIC hob, r⟩
      have hl₃ : h₃.IsList ax vs.toArray := hst₂.2.at fun ob e => hs₃.extBut _ _ (small ax hlt).2.2 e
      have hzl : zs.length = i * kt.length := by
        rw [hzs.len_eq, grow_length, List.length_take, signs_length, Nat.min_eq_left (by omega)]
      have hmul : i * kt.length ≤ ws.length * kt.length := Nat.mul_le_mul_right _ (by omega)
      have key : ∀ (ob : Obj) (St : Nat → Heap → Prop), Walks prog w A h₃.objs.size [h₃.objs.size] [h₃.objs.size] kt.cps.size (SignAt kt) St → St 0 (h₃.push ob) →
          codeAny (model prog w) A (.compStart (two elt i1 i2 x y px py scope pos) 1 (.ref h₃.objs.size) (.ref H1.objs.size) (compEnvC scope cl H2.objs.size env))
            (fun r s' => match r with | .ok _ => ∃ m, m < vs.toArray.size + 1 - i ∧ Inv m s' | .error _ => False)
            { s with heap := h₃.push ob, toks := tk₂ + 1 } := by
        intro ob St W2 hst2
        have upJ : ∀ b o', h₃.get? b = some o' → (h₃.push ob).get? b = some o' := fun b o' e => Heap.get?_push_of_some _ e
        have ltJ : ∀ b o', h₃.get? b = some o' → b ≠ h₃.objs.size := fun b o' e => Nat.ne_of_lt (Heap.lt_size e)
        have hCJ : H2.objs.size < h₃.objs.size := hn₃.lt
        refine inner W2 (lookup_relabel_local hy) (by simp [compEnvC, relabel, hkind]) hyx (Nat.ne_of_gt hCJ) (Ne.symm (ltJ _ _ hD₃)) nDC hst2 (hn₃.at' fun o' e => upJ _ _ e) (o := o) (t₀ := to) (by simp) (upJ _ _ hD₃) (by omega) ?_ ?_
        · intro s₂ m₂ cc t E'' hn2 hmx hmy hcc
          exact helt _ _ _ _ _ _ _ _ hn2 hmx hmy (List.mem_of_getElem? ho) hcc
        · intro h₄ tk₄ m₄ zs' hzs' hn₄ hD₄ hk₄
          have hkk : ∀ b ob', b ≠ H2.objs.size → b ≠ H1.objs.size → h₃.get? b = some ob' → h₄.get? b = some ob' := fun b ob' h1 h2 e => hk₄ b ob' h1 h2 (ltJ _ _ e) (upJ _ _ e)
          refine ⟨vs.toArray.size + 1 - (i + 1), by omega, h₄, tk₄, i + 1, m₄, zs ++ zs', rfl, hlt', rfl, ⟨?_, ?_⟩, hn₄, ?_, hD₄, ?_⟩
          · obtain ⟨ob', hob, r⟩ := hit₃
            exact ⟨ob', hkk _ _ nIC nID hob, r⟩
          · exact hl₃.at fun ob' e => hkk _ _ (small ax hlt).2.2 (small ax hlt).2.1 e
          · have e1 : ws.take (i + 1) = ws.take i ++ [o] := by rw [List.take_add_one, ho]; simp
            rw [e1, grow_snoc]
            exact hzs.append' hzs'
          · intro b ob' hb1 hb2 hb3 e
            exact hkk _ _ hb1 hb2 (hs₃.extBut _ _ hb1 (hkI _ _ hb3 (hk' b ob' hb1 hb2 hb3 e)))
      cases ha : kt.cps.all (· < 128)
      · exact wpAny_pyIter_wide ha (key _ _ (Walks.strWide hh _ kt tkt) ⟨_, Heap.get?_push_size _ rfl, rfl, rfl⟩)
      · exact wpAny_pyIter_ascii ha (key _ _ (Walks.strAscii hh _ kt tkt) ⟨_, Heap.get?_push_size _ rfl, rfl, rfl⟩)
    · have hin : i = vs.toArray.size := by omega
      subst hin
      refine W.done _ _ _ hst' fun h₂ tk₂ hk₂ => ?_
      have hkI : ∀ b ob, b ≠ s.heap.objs.size → h'.get? b = some ob → h₂.get? b = some ob := fun b ob hb e => hk₂ b ob (by simpa using hb) e
      rw [hvl, List.take_length] at hzs
      have F' : Fr h₀ env.locals h₂ m := F₀.keeps fun b o e => hkI b o (small b (Heap.lt_size e)).1 (oldk b o e)
      have hD₂ : h₂.get? H1.objs.size = some (LCg.lst zs) := hkI _ _ (Ne.symm nID) hD'
      have hn₂ : h₂.Ns H2.objs.size m' := hn'.at' fun o e => hkI _ o (Ne.symm nIC) e
      show wpAny _ A (assign (.Name z pz) env (.ref H1.objs.size)) _ _ _
      refine wpAny_assign_Name (wpAny_storeName_local hz F'.ns (fun h₅ hn₅ hs₅ => ?_) hp)
      have hL₀ : h₀.get? env.locals = none := Heap.get?_none_of_le F'.above
      have F₅ : Fr h₀ env.locals h₅ (fun v => if v = z then some (.ref H1.objs.size) else m v) := ⟨hn₅, fun b o e => hs₅.extBut b o (fun q => by rw [q, hL₀] at e; cases e) (F'.keep b o e), F'.above⟩
      have hCL : H2.objs.size ≠ env.locals := Ne.symm (small _ hLlt).2.2
      have hDL : H1.objs.size ≠ env.locals := Ne.symm (small _ hLlt).2.1
      have hC₀ : h₀.get? H2.objs.size = none := fresh₀ _ (by rw [hDz]; omega)
      have hD₀ : h₀.get? H1.objs.size = none := fresh₀ _ (by rw [eI]; omega)
      refine ⟨m', hn₂.sameBut hs₅ hCL, fun h₆ hs₆ => hQ H1.objs.size h₆ _ zs hzs (F₅.change hs₆ hCL hC₀) (fun p hp => ?_) fun p hp => (small _ (Heap.lt_size (N p hp).1)).2.1⟩
      rcases List.mem_cons.mp hp with rfl | hp
      · exact ⟨hs₆.extBut _ _ nDC (hs₅.extBut _ _ hDL hD₂), hDL, hD₀⟩
      · have sm := small _ (Heap.lt_size (N p hp).1)
        exact ⟨hs₆.extBut _ _ sm.2.2 (hs₅.extBut _ _ (N p hp).2.1 (hkI _ _ sm.1 (oldk _ _ (N p hp).1))), (N p hp).2⟩
  exact codeAny_compStart_list (loop _ rfl) (W.self 0 _ _ _ ⟨hit₁, hl₁⟩ (loop _ rfl))
end
end Mine
end
section
set_option Elab.async false
set_option maxRecDepth 100000
namespace Mine
open PySem PySem.W PySem.Calls PyProof.Rows PySem.Spec
def wordsOf (ks : List Str) : Nat → List Str
  | 0 => [Str.ofString ""]
  | n + 1 => grow (wordsOf ks n) ks
theorem wordsOf_length (ks : List Str) (n : Nat) : (wordsOf ks n).length = ks.length ^ n := by
  induction n with
  | zero => rfl
  | succ n ih => rw [wordsOf, grow_length, ih, Nat.pow_succ]
theorem wordsOf_one {ks : List Str} (hk : ∀ c ∈ ks, c.length = 1) (n : Nat) : ∀ x ∈ wordsOf ks n, x.length = n := by
  induction n with
  | zero =>
    intro x hx
    rw [List.mem_singleton.mp hx]
    decide +kernel
  | succ n ih =>
    intro x hx
    unfold wordsOf grow at hx
    obtain ⟨o, ho, hx⟩ := List.mem_flatMap.mp hx
    obtain ⟨c, hc, rfl⟩ := List.mem_map.mp hx
    rw [Str.length_append, ih o ho, hk c hc]
def WordsJ (ks : List Str) (m₀ : Str → Option Value) (NL : List (Addr × Obj)) (i : Nat) (m : Str → Option Value) (nx : List (Addr × Obj)) : Prop :=
  ∃ (D : Addr) (vs : List Value) (k : Nat), nx = (D, listOf vs.toArray k) :: NL ∧ StrsAre vs (wordsOf ks i) ∧ m (Str.ofString "words") = some (.ref D) ∧ ∀ z, [Str.ofString "words", Str.ofString "k"].contains z = false → m z = m₀ z
end Mine
namespace Mine
open PySem PySem.W PySem.Calls PyProof.Rows PySem.Spec
theorem words_end {h₀ h' : Heap} {L D D' : Addr} {ks : List Str} {i tk k : Nat} {NL own : List (Addr × Obj)} {m₀ m' : Str → Option Value} {vs zs : List Value} {s₁ : Shared} {Q : Flow → Shared → Prop}
    (F : Fr h₀ L h' m') (N : News h₀ L h' ((D', LCg.lst zs) :: ((D, listOf vs.toArray k) :: NL ++ own))) (hfr : ∀ p ∈ (D, listOf vs.toArray k) :: NL ++ own, p.1 ≠ D') (hoff : OwnOff own (((D, listOf vs.toArray k) :: NL).map (·.1)))
    (hS : StrsAre zs (grow (wordsOf ks i) ks)) (hw : m' (Str.ofString "words") = some (.ref D')) (hz : ∀ z, [Str.ofString "words", Str.ofString "k"].contains z = false → m' z = m₀ z) :
    InvPostG h₀ L (WordsJ ks m₀ NL (i + 1)) own s₁ Q .next { s₁ with heap := h', toks := tk } := by
  refine InvEndG.intro F N (nx := (D', LCg.lst zs) :: NL) ⟨D', zs, zs.length, rfl, hS, hw, hz⟩ ?_ ?_ (fun p hp => List.mem_cons_of_mem _ (List.mem_append_right _ hp))
  · intro p hp b hb
    rcases List.mem_cons.mp hb with e | hb
    · rw [e]; exact hfr p (List.mem_append_right _ hp)
    · exact hoff p hp b (List.mem_cons_of_mem _ hb)
  · intro p hp
    rcases List.mem_cons.mp hp with e | hp
    · rw [e]; exact List.mem_cons_self
    · exact List.mem_cons_of_mem _ (List.mem_append_left _ (List.mem_cons_of_mem _ hp))
theorem words_size {ks : Str} {i : Nat} (hk : ks.length = 2 ∨ ks.length = 3) (hi : i < 1 + 10) : (wordsOf (signs ks) i).length * ks.length + ks.length ≤ sizeLine := by
  rw [wordsOf_length, signs_length, PySem.sizeLine_eq]
  have h1 : ks.length ^ i ≤ 3 ^ i := Nat.pow_le_pow_left (by omega) i
  have h2 : 3 ^ i ≤ 3 ^ 10 := Nat.pow_le_pow_right (by omega) (by omega)
  have h3 : ks.length ^ i * ks.length ≤ 3 ^ 10 * 3 := Nat.mul_le_mul (Nat.le_trans h1 h2) (by omega)
  omega
theorem signs_one (x : Str) : ∀ c ∈ signs x, c.length = 1 := fun _ h => sign_one h
end Mine
end
section
set_option Elab.async false
set_option maxRecDepth 100000
namespace Mine
open PySem PySem.W PySem.Calls PyProof.Rows PySem.Spec
section
variable {M : Model} {A : Around} {E : Value → Shared → Prop} {s : Shared} {K : Frag} {env : Env} {pos p : Pos} {x C : Addr} {ox : Obj} {od : Option Obj} {first : List Value} {Q : Value → Shared → Prop} {e : Expr}
/-- an object called with a starred sequence -/
theorem kco_star {f : Addr} (_X : K.In s.heap) (_I : InstAt s.heap x ox C od) (hd : ox.data = .plain) (_hs : findIn K (.ref C) "__call__" = some (some (.ref f)))
    (h : wpAny M A (eval e env) (fun v s₁ => StarOf M A E v (fun vs s₂ => kco_P K x C ox od s₂.heap ∧ wpAny M A (call (.ref x) (first ++ vs)) Q E s₂) s₁) E s)
    (he : starEach [.Starred e p] env = [(true, eval e env)] := by rfl) : wpAny M A (callWith pos (.ref x) first (backTo pos (starEach [.Starred e p] env)) []) Q E s := by
  rw [he]
  have h' : wpAny M A (evalArgs (.ref x) true [(true, (do let v ← eval e env; standAt pos; pure v))] []) (fun a s₁ => kco_P K x C ox od s₁.heap ∧ wpAny M A (call (.ref x) (first ++ a.pos) a.kw) Q E s₁) E s := ks_lone h
  unfold callWith
  refine wpAny_bind (wpAny_holding (wpAny_mono h' (fun a s₁ h₁ => wpAny_bind (wpAny_standAt ?_)) fun _ _ y => y))
  have L := kco_keeper (M := M) h₁.1.2 hd
  refine wpAny_bind (L.here ?_)
  have tail : ∀ {t : Sem Value}, wpAny M A t Q E s₁ → wpAny M A (t >>= fun r => holding [r] point >>= fun _ => pure r) Q E s₁ :=
    fun ht => wpAny_bind (wpAny_mono ht (fun r s₂ hr => wpAny_bind (wpAny_holding (wpAny_point (wpAny_pure hr)))) fun _ _ y => y)
  exact tail (wpAny_operating h₁.2)
end
end Mine
namespace Mine
open PySem PySem.W PySem.Calls PyProof.Rows PySem.Spec
section
variable {M : Model} {A : Around} {E : Value → Shared → Prop} {s : Shared} {K : Frag} {env : Env} {pos p apos : Pos} {L : Addr} {first : List Value} {Q : Value → Shared → Prop} {e o : Expr} {name : Str} {h₀ : Heap} {news : List (Addr × Obj)}
/-- a bound method called with a starred sequence -/
theorem callWith_MS {q f : Addr} {self : Value} (_X : K.In h₀) (_N : News h₀ L s.heap news) (_hq : (q, methodObj (.ref f) self) ∈ news) (hf : fnIn K f = true)
    (h : wpAny M A (eval e env) (fun v s₁ => StarOf M A E v (fun vs s₂ => MethP K q f self s₂.heap ∧ wpAny M A (call (.ref q) (first ++ vs)) Q E s₂) s₁) E s)
    (he : starEach [.Starred e p] env = [(true, eval e env)] := by rfl) : wpAny M A (callWith pos (.ref q) first (backTo pos (starEach [.Starred e p] env)) []) Q E s := by
  rw [he]
  exact ks_call rfl (keeps_M hf) (ks_lone h)
theorem MethodCall_S (h : wpAny M A (eval o env) (fun ov s₁ => wpAny M A (getAttr ov name true) (fun f s₂ => wpAny M A (callWith pos f [] (backTo pos (starEach [.Starred e p] env)) []) Q E s₂) E s₁) E s)
    (he : eval (.Call (.Attribute o name apos) [.Starred e p] [] pos) env = (eval o env >>= fun ov => standAt apos.atName >>= fun _ => holding [ov] (getAttr ov name true >>= fun f => pure (f, [])) >>= fun fx => callWith pos fx.1 fx.2 (backTo pos (starEach [.Starred e p] env)) []) := by rfl) :
    wpAny M A (eval (.Call (.Attribute o name apos) [.Starred e p] [] pos) env) Q E s := by
  rw [he]
  refine wpAny_bind (wpAny_mono h (fun ov s₁ h₁ => wpAny_bind (wpAny_standAt (wpAny_bind (wpAny_holding (wpAny_bind (wpAny_mono h₁ (fun f s₂ h₂ => wpAny_pure h₂) fun _ _ x => x)))))) fun _ _ x => x)
end
end Mine
end
section
open PySem PySem.W PyProof.Rows PySem.Calls
set_option Elab.async false
set_option maxRecDepth 100000
set_option linter.unusedVariables false
namespace Mine
section
variable {prog : Program} {w : World} {A₀ A : Around} {s : Shared} {base h₀ : Heap} {outer : List Env} {L : Addr} {m : Str → Option Value} {env : Env} {news : List (Addr × Obj)}
  {R : Result → Shared → Prop} {name qual : Str} {params : Arguments} {body : List Stmt} {scope : Scope} {dV kV doc pm cdv ct : Value} {an : Option Addr} {f : Addr} {args : Args} {binds : List (Str × Value)}

theorem frame_cells {E : Value → Shared → Prop} (B : Below A₀ base outer h₀) (F : Fr h₀ L s.heap m) (N : News h₀ L s.heap news) (hlim : h₀.NoLimit) (hA : A.frames = some (env :: outer)) (hf : env.frame = some L) (hke : env.scope.kind = .function)
    (hkind : ∀ n, ∀ x ∈ binds, scope.names.lookup x.1 = some .local ∨ (scope.names.lookup x.1 = some .cell ∧ ((cellsFrom n scope.names []).lookup x.1).isSome = true))
    (hnd : ((cellsFrom 0 scope.names []).map (·.1)).Nodup)
    (h : ∀ g L' h₁ tk cells, Fr h₀ L g m → Fr g L' h₁ (bindL (envOfC qual scope L' f cdv).kindOf binds fun _ => none) → News g L' h₁ (cells ++ news) →
      CellsAre (bindC (envOfC qual scope L' f cdv).kindOf binds fun _ => none) (cellsFrom (L' + 1) scope.names []) cells → Below A base (env :: outer) g → h₀.StaysIn g → (∀ p ∈ news, p.1 < L') →
      wpAny (model prog w) (A.deeper (envOfC qual scope L' f cdv)) (execs body (envOfC qual scope L' f cdv))
        (fun fl s' => LeaveK h₀ L m g R (match fl with | .ret v => v | _ => .none) s')
        (fun e s' => wpAny (model prog w) (A.deeper (envOfC qual scope L' f cdv)) (leaving (envOfC qual scope L' f cdv) e) (fun _ s'' => R (.error e) s'') (fun e' s'' => R (.error e') s'') s')
        { s with heap := h₁, toks := tk })
    (hk : scope.kind = .function) :
    wpAny (model prog w) A.in1 (newFunctionEnv scope mainGlobals [] binds (qual ++ ".<locals>.") (some f) cdv none builtinsNs) (fun env' s₂ => s₂.heap.NoLimit ∧ codeAny (model prog w) A (.func body env') R s₂) E s := by
  obtain ⟨FG, BG, st, lv⟩ := groundX (R := R) B F N hA hf hke
  refine wpAny_newFunctionEnv_cells hk (hkind _) fun env' he s' x => ?_
  subst he
  refine ⟨(hlim.keeps F.keep).keeps x.toInCall.keep, codeAny_func ?_⟩
  obtain ⟨h₁, tk, rfl, _⟩ := x.done
  have hk₁ := x.toInCall.keep
  obtain ⟨cells, NC, Y⟩ := Cl.news (h₀ := s.heap) (Nat.le_refl _) fun n c hm => ⟨x.cell n c (lookup_of_mem_nodup (cellsFrom_names scope.names 0 (s.heap.objs.size + 1) [] [] rfl ▸ hnd) hm), x.above n c hm⟩
  refine wpAny_mono (h _ s.heap.objs.size h₁ tk cells FG ⟨x.toInCall.ns, fun b o e => hk₁ b o (of_hideAll _ e), Nat.le_of_eq (hideAll_size _ _)⟩ (fun p hp => ?_) Y BG st (fun p hp => Heap.lt_size (N p hp).1)) (fun fl s' hl => lv _ _ hl) fun _ _ y => y
  rcases List.mem_append.mp hp with hp | hp
  · refine ⟨(NC p hp).1, (NC p hp).2.1, ?_⟩
    cases q : (hideAll s.heap (news.map (·.1))).get? p.1 with
    | none => rfl
    | some o => have := of_hideAll _ q; rw [(NC p hp).2.2] at this; cases this
  · exact ⟨hk₁ _ _ (N p hp).1, Nat.ne_of_lt (Heap.lt_size (N p hp).1), hideAll_none _ (List.mem_map_of_mem hp)⟩
end
section
variable {prog : Program} {w : World} {A A₀ : Around} {s : Shared} {K : Frag} {L : Addr} {h₀ base : Heap} {m mg mb : Str → Option Value} {news : List (Addr × Obj)} {p : Program} {loose : List Str} {mean : ExcName → Option Value}
theorem rest_cells {env : Env} {outer : List Env} {R : Result → Shared → Prop} {name qual : Str} {params : Arguments} {body : List Stmt} {scope : Scope} {dV kV doc pm cdv ct oc : Value} {an od : Option Addr} {osl : Array (Option Value)} {f : Addr} {args : Args} {vs : List Value} {g₁ : Addr → Option (List (Str × Value))} {binds : Addr → List (Str × Value)}
    (B : Below A₀ base outer h₀) (F : Fr h₀ L s.heap m) (X₀ : K.In h₀) (N : News h₀ L s.heap news) (T : Top p loose mean mg mb h₀) (hA : A.frames = some (env :: outer)) (hf : env.frame = some L) (hke : env.scope.kind = .function)
    (ho : K.lookup f = some ⟨oc, od, .func (fnOf name qual params body scope dV kV doc pm an cdv ct), osl⟩) (hcd : codeIn K cdv qual = true) (hroom : A.depth < recursionLimit)
    (hv : args.pos.drop (params.posonlyargs.length + params.args.length) = vs)
    (hp : peek1 K ⟨prog, w.params⟩ (bindArgs (fnOf name qual params body scope dV kV doc pm an cdv ct) args) = some (({ cls := .type "tuple", data := .seq vs.toArray } : Obj), g₁))
    (hg : ∀ D, g₁ D = some (binds D)) (hkind : ∀ D, ((binds D).all fun y => scope.names.lookup y.1 == some .local || scope.names.lookup y.1 == some .cell) = true)
    (hnd : ((cellsFrom 0 scope.names []).map (·.1)).Nodup)
    (h : ∀ D g L' h₁ tk cells, (∀ p ∈ news, p.1 < D) → Fr h₀ L g m → Fr g L' h₁ (bindL (envOfC qual scope L' f cdv).kindOf (binds D) fun _ => none) → News g L' h₁ (cells ++ (D, ({ cls := .type "tuple", data := .seq vs.toArray } : Obj)) :: news) →
      CellsAre (bindC (envOfC qual scope L' f cdv).kindOf (binds D) fun _ => none) (cellsFrom (L' + 1) scope.names []) cells → Below A base (env :: outer) g → K.In g → Top p loose mean mg mb g → (∀ p ∈ (D, ({ cls := .type "tuple", data := .seq vs.toArray } : Obj)) :: news, p.1 < L') →
      wpAny (model prog w) (A.deeper (envOfC qual scope L' f cdv)) (execs body (envOfC qual scope L' f cdv))
        (fun fl s' => LeaveK h₀ L m g R (match fl with | .ret v => v | _ => .none) s')
        (fun e s' => wpAny (model prog w) (A.deeper (envOfC qual scope L' f cdv)) (leaving (envOfC qual scope L' f cdv) e) (fun _ s'' => R (.error e) s'') (fun e' s'' => R (.error e') s'') s')
        { s with heap := h₁, toks := tk })
    (hco : scope.isCoroutine = false) (hgen : scope.isGenerator = false) (hk : scope.kind = .function) : codeAny (model prog w) A (.call (.ref f) args) R s := by
  have _ := hv
  refine codeAny_call_function (fd := fnOf name qual params body scope dV kV doc pm an cdv ct) (body := body) hroom ((X₀.keeps F.keep) _ _ ho) rfl hco hgen rfl (codeRec_of (X₀.keeps F.keep) hcd) ?_
  refine wp_of_peek1 (o := ({ cls := .type "tuple", data := .seq vs.toArray } : Obj)) F N (X₀.keeps F.keep) rfl (r := binds) (fun D h' F' N' l => ?_) _ g₁ hp hg
  exact frame_cells (s := { s with heap := h' }) B F' N' T.nolimit hA hf hke (kindsX (hkind D)) hnd (fun g L' h₁ tk cells FG FL NG Y BG st l2 => h D g L' h₁ tk cells l FG FL NG Y BG (X₀.keeps st) (T.keeps st) l2) hk
end
end Mine
end
section
open PySem PySem.W PyProof.Rows
set_option Elab.async false
set_option maxRecDepth 100000
set_option maxHeartbeats 0
set_option linter.unusedVariables false
namespace Mine
open_top hd for PySem.Challenge.rw_dr5025_02
end Mine
end
section
open PySem PySem.W PyProof.Rows
set_option Elab.async false
set_option maxRecDepth 100000
set_option maxHeartbeats 0
set_option linter.unusedVariables false
namespace Mine
def lcs (a b : Str) : Str := tb (signs a) (signs b) a.length b.length (Str.ofString "")

local macro_rules | `(tactic| walk_at "pyIter ref") => `(tactic| (refine Stop.out ?_))
local macro_rules | `(tactic| walk_at "subscriptTail") => `(tactic| (k_here; (with_reducible show wpAny _ _ (subscriptTail _ _ (Value.ref _) (Value.int _ _)) _ _ _); k_dflt (refine' tab_sub ?k1 ?k2 ?k3 ?k4 ?k5 ?k6 ?_ ?k7; (case k1 => k_asm); (case k2 => assumption); (case k3 => assumption); (case k4 => omega); (case k5 => omega); (case k6 => omega); (case k7 => with_unfolding_all rfl); k_whole); intro t5'))
local macro_rules | `(tactic| walk_at "subscriptTail") => `(tactic| (k_here; (with_reducible show wpAny _ _ (subscriptTail _ _ (Value.ref _) (Value.int _ _)) _ _ _); k_dflt (refine' outer_sub ?k1 ?k2 ?k3 ?k4 ?k5 ?_ ?k6; (case k1 => k_asm); (case k2 => k_mem); (case k3 => omega); (case k4 => omega); (case k5 => assumption); (case k6 => with_unfolding_all rfl); k_whole)))
local macro_rules | `(tactic| walk_at "setItem ref int") => `(tactic| (k_here; (with_reducible show wpAny _ _ (setItem (Value.ref _) (Value.int _ _) (Value.int _ _)) _ _ _); k_dflt (refine' tab_set ?k1 ?k2 ?k3 ?k4 ?k5 ?k6 ?k7 ?k8 ?_; (case k1 => k_asm); (case k2 => k_asm); (case k3 => assumption); (case k4 => assumption); (case k5 => assumption); (case k6 => omega); (case k7 => omega); (case k8 => omega); k_whole); intro h5' o5' F5' N5' T5'))
local macro_rules | `(tactic| walk_at "LoopStep3") => `(tactic| (refine Stop.out ?_))
local macro_rules | `(tactic| walk_at "exec While") => `(tactic| (refine Stop.out ?_))
local macro_rules | `(tactic| walk_at "CompSrc") => `(tactic| (refine Stop.out ?_))
local macro_rules | `(tactic| walk_at "CompEnd") => `(tactic| (refine Stop.out ?_))

theorem dyn (w : World) (mean : ExcName → Option Value) (mg mb : Str → Option Value) (news : List (Addr × Obj)) (x : Addr) (a b : Str) (ta tb : Tok) (dp un : Nat) (gd : Option (List Code)) (cn : Str) (cs : Scope) (ad : Addr) (ccd : Value) (cl : List (Str × Addr)) (outer : List Env) (A₀ : Around) (base h₀ : Heap) (L : Addr) (m : Str → Option Value) (s : Shared) (Q E : Value → Shared → Prop)
    (hB : Below A₀ base outer h₀) (hF : Fr h₀ L s.heap m) (hK : (hd.heap_39 w.params).In h₀) (hN : News h₀ L s.heap news) (hT : Top hd.view_39 (looseW hd.view_39 [Str.ofString "Base", Str.ofString "LCSSeq"]) mean mg mb h₀) (hk : cs.kind = .function)
    (hpre : a.length ≤ 100 ∧ b.length ≤ 100) (hdp : dp + 1 < recursionLimit) (hun : un + 8 < cLine) (hret : CbRet h₀ L m news s Q (fun t => .str (lcs a b) t)) :
    codeAny (model PySem.Challenge.rw_dr5025_02.row.prog w) (ktrTop dp un gd cn cs L ad ccd cl outer) (.call (.ref 203) ⟨[.ref x, .str a ta, .str b tb], []⟩) (fun r s' => match r with | .ok (.ret v) => Q v s' | .ok _ => False | .error e => E e s') s := by
  dsimp only [CbRet] at hret
  revert hK
  k_fill
  intro hK
  k_dflt (refine' code_defC ?k1 ?k2 ?k3 ?k4 ?k5 ?kA ?kF ?kK ?k6 ?k7 ?k8 ?k9 ?kB ?kD ?_ ?c2 ?c3 ?c4; (case kA => exact rfl); (case kF => exact rfl); (case kK => assumption); (case k1 => k_asm); (case k2 => k_asm); (case k3 => k_asm); (case k4 => k_asm); (case k5 => k_asm); (case k6 => k_is); (case k7 => k_is); (case k8 => ktr_room); (case k9 => exact BindsTo.of_eq rfl); (case kB => exact rfl); (case kD => decide +kernel); (case c2 => exact rfl); (case c3 => exact rfl); (case c4 => exact rfl); k_whole; intro g' L' h' tk' cells' FG' F' N' Y' B' X' T' l1; (try k_lt l1); k_cells Y'; (try simp only [List.cons_append, List.nil_append] at N'); (try dsimp only); (try k_lift B'); (try k_fold))
  rename_i oc dc
  k_steps
  refine Stop.mk ?_
  rename_i hr F1 N1 hk1
  have hpa := hpre.1
  have hpb := hpre.2
  refine LCg.CompSrc.range (n := a.length + 1) (by rfl) F1 N1 hr (small_one (by omega) (by omega) (by omega) (by omega)) (by rw [rangeSize_nat]; omega) (by rw [PySem.sizeLine_eq]; omega) ?_
  intro g2
  refine comp_inv (RowsJ (b.length + 1) ((L' + 1, oc) :: news)) ?turn (RowsJ.zero _ _) ?fin
  case turn =>
    intro i v I oI C oC D m₂ ys nx h2 tk2 E' hi hv hJ hC hx F2 N2 off ne
    have hcell : ∀ p ∈ (I, oI) :: (C, oC) :: (D, LCg.lst ys) :: (L' + 1, oc) :: nx, p ∈ (I, oI) :: (C, oC) :: (D, LCg.lst ys) :: nx := by
      obtain ⟨rs, _, _, _, _, hs, _⟩ := hJ
      have h1 := hs _ List.mem_cons_self
      intro p hp
      simp only [List.mem_cons] at hp ⊢
      rcases hp with h | h | h | h | h
      · exact .inl h
      · exact .inr (.inl h)
      · exact .inr (.inr (.inl h))
      · exact .inr (.inr (.inr (h ▸ h1)))
      · exact .inr (.inr (.inr h))
    replace N2 := cb_drop N2 hcell
    k_steps
    refine Stop.mk ?_
    rename_i l9 h9 F9 N9 lt9 D9 h10 F10 N10 i1 n1 s1 e1 e2 e3 lt10
    refine LCg.CompEnd.intro F10 N10 ((D9, listOf _ 0) :: nx) ?_ ⟨⟨Nat.ne_of_gt lt10.2.1, Nat.ne_of_gt lt10.2.2.1, Nat.ne_of_gt lt10.2.2.2.1⟩, off⟩ True.intro (hJ.succ (vs := (List.replicate ((b.length : Int) + 1).toNat [Value.int 0 tk2]).flatten) (allLt_mem lt10.2.2.2.2.2) ?_ ?_)
    · intro p hp
      simp only [List.mem_cons] at hp ⊢
      rcases hp with h | h | h | h | h
      · exact .inr (.inr (.inl h))
      · exact .inr (.inr (.inr (.inl h)))
      · exact .inr (.inr (.inr (.inr (.inl h))))
      · exact .inl h
      · exact .inr (.inr (.inr (.inr (.inr (.inr h)))))
    · simp
    · intro v hv
      simp only [List.mem_flatten, List.mem_replicate] at hv
      obtain ⟨l, ⟨_, rfl⟩, hv⟩ := hv
      exact ⟨_, List.mem_singleton.mp hv⟩
  case fin =>
    intro ys nx hJ
    obtain ⟨rs, rfl, hrl, hrn, hrb, hsub, hT0⟩ := hJ
    intro D5 h5 tk5 F5 N5 o15
    have hD5 : D5 ∉ rs := fun hm => by
      obtain ⟨o, ho⟩ := hT0.mem hm
      exact off1_mem o15 _ ho rfl
    have hc5 : L' + 1 ∉ rs := fun hm => hrb _ hm _ List.mem_cons_self rfl
    replace N5 : News g' L' h5 ((D5, LCg.lst (rs.map Value.ref)) :: (L' + 1, oc) :: nx) := cb_drop N5 (by
      intro p hp
      simp only [List.mem_cons] at hp ⊢
      rcases hp with h | h | h
      · exact .inl h
      · exact .inr (h ▸ hsub _ List.mem_cons_self)
      · exact .inr h)
    k_steps
    refine Stop.mk ?_
    rename_i h6 e6 F6 N6 S6
    refine pair_tab (S6.at _ rfl) [Str.ofString "i", Str.ofString "char1", Str.ofString "j", Str.ofString "char2"] rs (b.length + 1) (fun i => grid (signs a) (signs b) i 0) ?j0 ?jstep ?jdone
    case j0 => exact (hT0.mono fun p hp _ => List.mem_cons_of_mem _ (List.mem_cons_of_mem _ hp)).congr fun i j _ _ => grid_zero _ _ i j
    case jstep =>
      intro i c1 v1 t1 u1 nx1 own1 h7 tk7 hi1 hv1 hT1 hk1 hmap1 hown1 F7 N7
      obtain ⟨tc1, rfl⟩ := ItemKind.str_is hv1
      replace F7 : Fr g' L' h7 _ := F7
      have hD7 : (D5, LCg.lst (rs.map Value.ref)) ∈ nx1 := hk1 _ List.mem_cons_self hD5
      have hc7 : (L' + 1, oc) ∈ nx1 := hk1 _ (List.mem_cons_of_mem _ List.mem_cons_self) hc5
      have hown7 : ∀ p ∈ own1, p.1 ∉ rs := fun p hp hm => by
        obtain ⟨o, ho⟩ := (hT0.mono (news' := (D5, LCg.lst (rs.map Value.ref)) :: (L' + 1, oc) :: nx) fun p hp _ => List.mem_cons_of_mem _ (List.mem_cons_of_mem _ hp)).mem hm
        exact hown1 p hp _ ho rfl
      replace N7 : News g' L' h7 ([(D5, LCg.lst (rs.map Value.ref)), (L' + 1, oc)] ++ own1 ++ nx1) := cb_drop N7 (by
        intro p hp
        simp only [List.mem_append, List.mem_cons, List.not_mem_nil, or_false] at hp ⊢
        rcases hp with ((h | h) | h) | h
        · exact .inr (h ▸ hD7)
        · exact .inr (h ▸ hc7)
        · exact .inl h
        · exact .inr h)
      have hia : i < a.length := by
        have := (List.getElem?_eq_some_iff.mp hi1).1
        rw [signs_length] at this
        exact this
      have hr0 : rs[i]? = some (rs[i]'(by omega)) := List.getElem?_eq_getElem (by omega)
      have hr1 : rs[i + 1]? = some (rs[i + 1]'(by omega)) := List.getElem?_eq_getElem (by omega)
      generalize rs[i]'(by omega) = r0 at hr0
      generalize rs[i + 1]'(by omega) = r1 at hr1
      have hv0 : (rs.map Value.ref)[((i : Nat) : Int).toNat]? = some (.ref r0) := by simp [hr0]
      have hv1' : (rs.map Value.ref)[(((i : Nat) : Int) + 1).toNat]? = some (.ref r1) := by
        have e : (((i : Nat) : Int) + 1).toNat = i + 1 := by omega
        rw [e]; simp [hr1]
      k_steps
      refine Stop.mk ?_
      rename_i h8 e8 F8 N8 S8
      refine pair_tab (S8.at _ rfl) [Str.ofString "j", Str.ofString "char2"] rs (b.length + 1) (fun j => grid (signs a) (signs b) i j) ?k0 ?kstep ?kdone
      case k0 => exact hT1.mono fun p hp _ => List.mem_append_right _ hp
      case kstep =>
        intro j c2 v2 t2 u2 nx2 own2 h9 tk9 hj2 hv2 hT2 hk2 hmap2 hown2 F9 N9
        obtain ⟨tc2, rfl⟩ := ItemKind.str_is hv2
        replace F9 : Fr g' L' h9 _ := F9
        replace N9 : News g' L' h9 ((D5, LCg.lst (rs.map Value.ref)) :: (own2 ++ nx2)) := cb_drop N9 (by
          intro p hp
          rcases List.mem_cons.mp hp with h | h
          · exact List.mem_append_right _ (h ▸ hk2 _ List.mem_cons_self hD5)
          · exact h)
        have hT9 : IsTab ((D5, LCg.lst (rs.map Value.ref)) :: (own2 ++ nx2)) rs (b.length + 1) (grid (signs a) (signs b) i j) := hT2.mono fun p hp _ => List.mem_cons_of_mem _ (List.mem_append_right _ hp)
        have hjb : j < b.length := by
          have := (List.getElem?_eq_some_iff.mp hj2).1
          rw [signs_length] at this
          exact this
        have hown9 : ∀ p ∈ own2, p.1 ∉ rs := fun p hp hm => by
          obtain ⟨o, ho⟩ := hT1.mem hm
          exact hown2 p hp _ (List.mem_append_right _ ho) rfl
        have ej : ((j : Nat) : Int).toNat = j := by omega
        have ej1 : (((j : Nat) : Int) + 1).toNat = j + 1 := by omega
        k_steps
        · refine Stop.mk ?_
          rename_i hc t5 h5 o5 F5 N5 T5
          rw [ej, ej1] at T5
          have hcc : (signs a)[i]? = (signs b)[j]? := by rw [hi1, hj2, eq_of_beq hc]
          refine tab_step (front := [(D5, LCg.lst (rs.map Value.ref))]) F5 N5 T5 (List.mem_of_getElem? hr1) hT2 hown9 hk2 ?hz ?eT
          case hz => exact (put_out rfl (put_out rfl ovr_out))
          case eT => exact fun p q _ _ => grid_step _ _ _ _ _ _ _ (grid_eq hcc)
        · refine Stop.mk ?_
          rename_i hc t5 t5b h6 tk6 F6 N6 h5 o5 F5 N5 T5
          rw [ej, ej1] at T5
          have hcc : (signs a)[i]? ≠ (signs b)[j]? := by
            rw [hi1, hj2]
            intro e
            rw [Option.some.inj e] at hc
            simp at hc
          refine tab_step (front := [(D5, LCg.lst (rs.map Value.ref))]) F5 N5 T5 (List.mem_of_getElem? hr1) hT2 hown9 hk2 ?hz ?eT
          case hz => exact (put_out rfl (put_out rfl ovr_out))
          case eT => exact fun p q _ _ => grid_step _ _ _ _ _ _ _ (grid_max hcc)
      case kdone =>
        intro h9 tk9 u2 nx2 F9 N9 hT2 hk2 hmap2
        replace F9 : Fr g' L' h9 _ := F9
        k_steps
        refine Stop.mk ?_
        refine tab_close F9 N9 hT2 hT1 hmap2 hk2 hown7 hk1 ?hz ?eT
        case hz => exact (ovr_in rfl (put_out rfl (put_out rfl ovr_out)))
        case eT => exact fun p q _ hq => grid_row _ _ _ _ _ (by rw [signs_length]; omega)
    case jdone =>
      intro h9 tk9 u1 nx1 F9 N9 hT1 hk1 hmap1
      replace F9 : Fr g' L' h9 _ := F9
      have hD9 : (D5, LCg.lst (rs.map Value.ref)) ∈ nx1 := hk1 _ List.mem_cons_self hD5
      have hc9 : (L' + 1, oc) ∈ nx1 := hk1 _ (List.mem_cons_of_mem _ List.mem_cons_self) hc5
      replace N9 : News g' L' h9 ((D5, LCg.lst (rs.map Value.ref)) :: (L' + 1, oc) :: nx1) := cb_drop N9 (by
        intro p hp
        simp only [List.mem_cons] at hp
        rcases hp with h | h | h
        · exact h ▸ hD9
        · exact h ▸ hc9
        · exact h)
      replace hT1 := hT1.mono (news' := (D5, LCg.lst (rs.map Value.ref)) :: (L' + 1, oc) :: nx1) fun p hp _ => List.mem_cons_of_mem _ (List.mem_cons_of_mem _ hp)
      k_steps
      refine Stop.mk ?_
      rename_i F11 N11
      have N12 : News g' L' _ ((D5, LCg.lst (rs.map Value.ref)) :: (L' + 1, oc) :: nx1) := cb_drop N11 fun p hp => List.mem_cons_of_mem _ hp
      refine while_tri (xi := Str.ofString "i") (xj := Str.ofString "j") (xr := Str.ofString "result") (fun i j r => i ≤ a.length ∧ j ≤ b.length ∧ r.length + i ≤ a.length ∧ Mine.tb (signs a) (signs b) i j r = Mine.tb (signs a) (signs b) a.length b.length (Str.ofString "")) F11 N12 (by decide) (by decide) (by decide) ?w0 ?wturn
      case w0 => exact ⟨Nat.le_refl _, Nat.le_refl _, by have e : (Str.ofString "").length = 0 := by decide +kernel
                                                         omega, rfl⟩
      case wturn =>
        intro i j r ti tj tr u h12 tk12 hI F12 N13
        obtain ⟨hia, hjb, hra, htb⟩ := hI
        have hr0 : rs[i - 1]? = some (rs[i - 1]'(by omega)) := List.getElem?_eq_getElem (by omega)
        have hr1 : rs[i]? = some (rs[i]'(by omega)) := List.getElem?_eq_getElem (by omega)
        generalize rs[i - 1]'(by omega) = r0 at hr0
        generalize rs[i]'(by omega) = r1 at hr1
        have hv0 : (rs.map Value.ref)[(((i : Nat) : Int) - 1).toNat]? = some (.ref r0) := by
          have e : (((i : Nat) : Int) - 1).toNat = i - 1 := by omega
          rw [e]; simp [hr0]
        have hv1' : (rs.map Value.ref)[((i : Nat) : Int).toNat]? = some (.ref r1) := by simp [hr1]
        have hla : (signs a).length = a.length := signs_length a
        have ejj : ((j : Nat) : Int).toNat = j := by omega
        have ej1 : (((j : Nat) : Int) - 1).toNat = j - 1 := by omega
        have hback : ∀ p ∈ news, p ∈ (D5, LCg.lst (rs.map Value.ref)) :: (L' + 1, oc) :: nx1 := fun p hp =>
          List.mem_cons_of_mem _ (List.mem_cons_of_mem _ (hk1 p (List.mem_cons_of_mem _ (List.mem_cons_of_mem _ (hsub p (List.mem_cons_of_mem _ hp)))) fun hm => hrb _ hm _ (List.mem_cons_of_mem _ hp) rfl))
        k_steps
        · (rename grid (signs a) (signs b) (signs a).length 0 i ((j : Nat) : Int).toNat = grid (signs a) (signs b) (signs a).length 0 (i - 1) ((j : Nat) : Int).toNat => hc); rename Fr g' L' _ _ => F20; rename News g' L' _ _ => N20
          rw [ejj, grid_full (by omega), grid_full (by omega)] at hc
          refine tri_close F20 N20 rfl rfl rfl (i - 1) j (by omega) rfl (by omega) ⟨by omega, hjb, by omega, ?_⟩ ?hz
          case hz => exact put_out rfl (put_out rfl (put_out rfl (put_out rfl ovr_out)))
          exact (tb_up (by omega) (by omega) (by omega)).symm.trans htb
        · (rename grid (signs a) (signs b) (signs a).length 0 i ((j : Nat) : Int).toNat ≠ grid (signs a) (signs b) (signs a).length 0 (i - 1) ((j : Nat) : Int).toNat => hc1); (rename grid (signs a) (signs b) (signs a).length 0 i ((j : Nat) : Int).toNat = grid (signs a) (signs b) (signs a).length 0 i (((j : Nat) : Int) - 1).toNat => hc2); rename Fr g' L' _ _ => F20; rename News g' L' _ _ => N20
          rw [ejj, grid_full (by omega), grid_full (by omega)] at hc1
          rw [ejj, ej1, grid_full (by omega), grid_full (by omega)] at hc2
          refine tri_close F20 N20 rfl rfl rfl i (j - 1) rfl (by omega) (by omega) ⟨by omega, by omega, by omega, ?_⟩ ?hz
          case hz => exact put_out rfl (put_out rfl (put_out rfl (put_out rfl ovr_out)))
          exact (tb_left (by omega) (by omega) (by omega) (by omega)).symm.trans htb
        · (rename grid (signs a) (signs b) (signs a).length 0 i ((j : Nat) : Int).toNat ≠ grid (signs a) (signs b) (signs a).length 0 (i - 1) ((j : Nat) : Int).toNat => hc1); (rename grid (signs a) (signs b) (signs a).length 0 i ((j : Nat) : Int).toNat ≠ grid (signs a) (signs b) (signs a).length 0 i (((j : Nat) : Int) - 1).toNat => hc2); rename Fr g' L' _ _ => F20; rename News g' L' _ _ => N20
          rw [ejj, grid_full (by omega), grid_full (by omega)] at hc1
          rw [ejj, ej1, grid_full (by omega), grid_full (by omega)] at hc2
          have eit : Txt.item a ((i : Int) - 1) = (signs a).getD (i - 1) Str.empty := sign_item (by omega) (by omega)
          have elen : (Txt.item a ((i : Int) - 1)).length = 1 := len_item _ _
          refine tri_close F20 N20 rfl rfl rfl (i - 1) (j - 1) (by omega) (by omega) (by omega) ⟨by omega, by omega, by omega, ?_⟩ ?hz
          case hz => exact put_out rfl (put_out rfl (put_out rfl (put_out rfl (put_out rfl (put_out rfl ovr_out)))))
          rw [eit]
          exact (tb_diag (by omega) (by omega) (by omega) (by omega)).symm.trans htb
        · (rename grid (signs a) (signs b) (signs a).length 0 i ((j : Nat) : Int).toNat ≠ grid (signs a) (signs b) (signs a).length 0 (i - 1) ((j : Nat) : Int).toNat => hc1); (rename grid (signs a) (signs b) (signs a).length 0 i ((j : Nat) : Int).toNat ≠ grid (signs a) (signs b) (signs a).length 0 i (((j : Nat) : Int) - 1).toNat => hc2); rename (_ == _) = false => hne
          exfalso
          rw [ejj, grid_full (by omega), grid_full (by omega)] at hc1
          rw [ejj, ej1, grid_full (by omega), grid_full (by omega)] at hc2
          have eia : Txt.item a ((i : Int) - 1) = (signs a).getD (i - 1) Str.empty := sign_item (by omega) (by omega)
          have eib : Txt.item b ((j : Int) - 1) = (signs b).getD (j - 1) Str.empty := sign_item (by omega) (by omega)
          have hd := dp_diag (by omega) (by omega) (by omega) (by omega) (la := signs a) (lb := signs b) (i := i) (j := j)
          rw [getD_getElem? (d := Str.empty) (by omega), getD_getElem? (d := Str.empty) (by rw [signs_length]; omega), ← eia, ← eib] at hd
          rw [Option.some.inj hd] at hne
          simp at hne
        · rename Fr h₀ L _ m => kF; rename News h₀ L _ ((D5, _) :: _) => kN
          have hj0' : j = 0 := by omega
          subst hj0'
          exact cb_retS hret (by rw [← tb_zero_right (signs a) (signs b) i r]; exact htb) kF (cb_drop kN hback)
        · rename Fr h₀ L _ m => kF; rename News h₀ L _ ((D5, _) :: _) => kN
          have hi0' : i = 0 := by omega
          subst hi0'
          exact cb_retS hret (by rw [← tb_zero_left (signs a) (signs b) j r]; exact htb) kF (cb_drop kN hback)
end Mine
end
section
open PySem PySem.W PyProof.Rows
set_option maxRecDepth 100000
set_option linter.unusedVariables false
namespace Mine
section
variable {w : World} {mean : ExcName → Option Value} {mg mb : Str → Option Value} {news : List (Addr × Obj)} {a b : Str} {ta tb tn : Tok} {dp un : Nat} {gd : Option (List Code)} {cn : Str} {cs : Scope} {ad : Addr} {ccd : Value} {cl : List (Str × Addr)} {outer : List Env} {A₀ : Around} {base h₀ : Heap} {L : Addr} {m : Str → Option Value} {s : Shared} {Q E : Value → Shared → Prop}
theorem dyn_rule {x : Addr} (h1 : Below A₀ base outer h₀) (h2 : Fr h₀ L s.heap m) (h3 : (hd.heap_39 w.params).In h₀) (h4 : News h₀ L s.heap news) (h5 : Top hd.view_39 (looseW hd.view_39 [Str.ofString "Base", Str.ofString "LCSSeq"]) mean mg mb h₀) (h6 : cs.kind = .function)
    (h7 : a.length ≤ 100 ∧ b.length ≤ 100) (h8 : dp + 1 < recursionLimit) (h9 : un + 8 < cLine) (hR : CbRet h₀ L m news s Q (fun t => .str (lcs a b) t)) :
    codeAny (model PySem.Challenge.rw_dr5025_02.row.prog w) (ktrTop dp un gd cn cs L ad ccd cl outer) (.call (.ref 203) ⟨[.ref x, .str a ta, .str b tb], []⟩) (fun r s' => match r with | .ok (.ret v) => Q v s' | .ok _ => False | .error e => E e s') s :=
  dyn w mean mg mb news x a b ta tb dp un gd cn cs ad ccd cl outer A₀ base h₀ L m s Q E h1 h2 h3 h4 h5 h6 h7 h8 h9 hR
end
end Mine
end
section
open PySem PySem.W PyProof.Rows
set_option Elab.async false
set_option maxRecDepth 100000
set_option maxHeartbeats 0
set_option linter.unusedVariables false
namespace Mine
local macro_rules | `(tactic| walk_at "call ref") => `(tactic| (k_here; (with_reducible show wpAny _ _ (call (Value.ref _) [Value.str _ _, Value.str _ _]) _ _ _); k_dflt (refine' call_meth (f := Value.ref 203) ?km ?kn ?_; (case km => k_asm); (case kn => k_mem); refine' dyn_rule ?k1 ?k2 ?k3 ?k4 ?k5 ?k6 ?k7 ?k8 ?k9 ?_; (case k1 => k_asm); (case k2 => k_asm); (case k3 => k_asm); (case k4 => k_asm); (case k5 => k_asm); (case k6 => first | exact rfl | assumption); (case k7 => exact ⟨by omega, by omega⟩); (case k8 => ktr_room); (case k9 => ktr_units); k_whole); intro t9 h9 tk9 F9 N9; (try dsimp only); (try k_fold)))
local macro_rules | `(tactic| walk_at "eval Call Attribute") => `(tactic| (k_here; (with_reducible show wpAny _ _ (eval (Expr.Call (Expr.Attribute _ _ _) [Expr.Starred _ _] _ _) _) _ _ _); refine MethodCall_S ?_))
local macro_rules | `(tactic| walk_at "callWith ref") => `(tactic| (k_here; (with_reducible show wpAny _ _ (callWith _ (Value.ref _) _ (backTo _ (starEach [Expr.Starred _ _] _)) []) _ _ _); k_dflt (refine' callWith_MS ?k1 ?k2 ?k3 ?k4 ?_; (case k1 => k_asm); (case k2 => k_asm); (case k3 => k_mem); (case k4 => k_is); k_whole)))
local macro_rules | `(tactic| walk_at "callWith ref") => `(tactic| (k_here; (with_reducible show wpAny _ _ (callWith _ (Value.ref _) _ (backTo _ (starEach [Expr.Starred _ _] _)) []) _ _ _); kco_here; k_dflt (refine' kco_star ?k1 ?k2 ?k3 ?k4 ?_; (case k1 => k_in); (case k2 => k_inst); (case k3 => rfl); (case k4 => k_is); k_whole)))
local macro_rules | `(tactic| k_enter) => `(tactic| ((with_reducible show codeAny _ _ (Code.call (Value.ref 108) _) _ _); (refine' rest_cells ?k1 ?k2 ?k3 ?k4 ?k5 ?kA ?kF ?kK ?k6 ?k7 ?k8 ?kV ?kP ?kG ?kB ?kD ?_ ?c2 ?c3 ?c4; (case kA => exact rfl); (case kF => exact rfl); (case kK => exact rfl); (case k1 => k_asm); (case k2 => k_asm); (case k3 => k_asm); (case k4 => k_asm); (case k5 => k_asm); (case k6 => k_is); (case k7 => k_is); (case k8 => k_room); (case kV => kl_lit); (case kP => exact rfl); (case kG => exact fun _ => rfl); (case kB => exact fun _ => rfl); (case kD => decide +kernel); (case c2 => exact rfl); (case c3 => exact rfl); (case c4 => exact rfl); k_whole; intro D' g' L' h' tk' cells' l1 FG' F' N' Y' B' X' T' l2; (try k_lt l1); (try k_lt l2); k_cells Y'; (try simp only [List.cons_append, List.nil_append] at N'); (try dsimp only); (try k_lift B'); (try k_fold))))
local macro_rules | `(tactic| walk_at "call builtin:len") => `(tactic| (k_here; (with_reducible show wpAny _ _ (call (Value.builtin "len") [Value.str (lcs _ _) _]) _ _ _); refine PySem.P.len_str (by omega) ?_))
local macro_rules | `(tactic| k_room) => `(tactic| ktr_room)
theorem sim (w : World) (mean : ExcName → Option Value) (mg mb : Str → Option Value) (news : List (Addr × Obj)) (x dx : Addr) (k1 k2 k3 : Tok) (a b : Str) (ta tb : Tok) (dp un : Nat) (gd : Option (List Code)) (cn : Str) (cs : Scope) (ad : Addr) (ccd : Value) (cl : List (Str × Addr)) (outer : List Env) (A₀ : Around) (base h₀ : Heap) (L : Addr) (m : Str → Option Value) (s : Shared) (Q E : Value → Shared → Prop)
    (hB : Below A₀ base outer h₀) (hF : Fr h₀ L s.heap m) (hK : (hd.heap_39 w.params).In h₀) (hN : News h₀ L s.heap ((x, instObj 225 dx) :: (dx, dictOf [{ hash := PyData.keyHash w.params (Str.ofString "qval"), key := Value.str (Str.ofString "qval") k1, val := Value.int 1 424 }, { hash := PyData.keyHash w.params (Str.ofString "test_func"), key := Value.str (Str.ofString "test_func") k2, val := Value.ref 100 }, { hash := PyData.keyHash w.params (Str.ofString "external"), key := Value.str (Str.ofString "external") k3, val := Value.bool true }] 3) :: news)) (hT : Top hd.view_39 (looseW hd.view_39 [Str.ofString "Base", Str.ofString "LCSSeq"]) mean mg mb h₀) (hk : cs.kind = .function)
    (hpre : a.length ≤ 100 ∧ b.length ≤ 100) (hb : (lcs a b).length ≤ 100) (hdp : dp + 4 < recursionLimit) (hun : un + 30 < cLine) (hret : CbRet h₀ L m ((x, instObj 225 dx) :: (dx, dictOf [{ hash := PyData.keyHash w.params (Str.ofString "qval"), key := Value.str (Str.ofString "qval") k1, val := Value.int 1 424 }, { hash := PyData.keyHash w.params (Str.ofString "test_func"), key := Value.str (Str.ofString "test_func") k2, val := Value.ref 100 }, { hash := PyData.keyHash w.params (Str.ofString "external"), key := Value.str (Str.ofString "external") k3, val := Value.bool true }] 3) :: news) s Q (fun t => .int ((lcs a b).length : Nat) t)) :
    codeAny (model PySem.Challenge.rw_dr5025_02.row.prog w) (ktrTop dp un gd cn cs L ad ccd cl outer) (.call (.ref 222) ⟨[.ref x, .str a ta, .str b tb], []⟩) (fun r s' => match r with | .ok (.ret v) => Q v s' | .ok _ => False | .error e => E e s') s := by
  dsimp only [CbRet] at hret
  revert hK
  k_fill
  intro hK
  refine' kp_rest ?k1 ?k2 ?k3 ?k4 ?k5 ?kA ?kF ?kK ?k6 ?k7 ?k8 ?kV ?kP ?kG ?kB ?_ ?c2 ?c3 ?c4 ?c5; (case kA => exact rfl); (case kF => exact rfl); (case kK => assumption); (case k1 => k_asm); (case k2 => k_asm); (case k3 => k_asm); (case k4 => k_asm); (case k5 => k_asm); (case k6 => k_is); (case k7 => k_is); (case k8 => ktr_room); (case kV => kl_lit); (case kP => exact rfl); (case kG => exact fun _ => rfl); (case kB => exact fun _ => locs rfl); (case c5 => decide); (case c2 => exact rfl); (case c3 => exact rfl); (case c4 => exact rfl); k_whole; intro D' g' L' h' l1 FG' F' N' B' X' T'; (try k_lt l1); (try dsimp only); (try k_lift B'); (try k_fold)
  k_steps
  rename Fr h₀ L _ m => kF
  rename News h₀ L _ _ => kN
  refine cb_retI hret rfl kF (cb_drop kN ?_)
  intro p hp
  repeat (first | exact hp | refine List.mem_cons_of_mem _ ?_)
theorem sim_rule {w : World} {mean : ExcName → Option Value} {mg mb : Str → Option Value} {news : List (Addr × Obj)} {x dx : Addr} {k1 k2 k3 : Tok} {a b : Str} {ta tb : Tok} {dp un : Nat} {gd : Option (List Code)} {cn : Str} {cs : Scope} {ad : Addr} {ccd : Value} {cl : List (Str × Addr)} {outer : List Env} {A₀ : Around} {base h₀ : Heap} {L : Addr} {m : Str → Option Value} {s : Shared} {Q E : Value → Shared → Prop}
    (hB : Below A₀ base outer h₀) (hF : Fr h₀ L s.heap m) (hK : (hd.heap_39 w.params).In h₀) (hN : News h₀ L s.heap news) (hT : Top hd.view_39 (looseW hd.view_39 [Str.ofString "Base", Str.ofString "LCSSeq"]) mean mg mb h₀) (hk : cs.kind = .function)
    (hx : (x, instObj 225 dx) ∈ news) (hdx : (dx, dictOf [{ hash := PyData.keyHash w.params (Str.ofString "qval"), key := Value.str (Str.ofString "qval") k1, val := Value.int 1 424 }, { hash := PyData.keyHash w.params (Str.ofString "test_func"), key := Value.str (Str.ofString "test_func") k2, val := Value.ref 100 }, { hash := PyData.keyHash w.params (Str.ofString "external"), key := Value.str (Str.ofString "external") k3, val := Value.bool true }] 3) ∈ news)
    (hpre : a.length ≤ 100 ∧ b.length ≤ 100) (hb : (lcs a b).length ≤ 100) (hdp : dp + 4 < recursionLimit) (hun : un + 30 < cLine) (hret : CbRet h₀ L m news s Q (fun t => .int ((lcs a b).length : Nat) t)) :
    codeAny (model PySem.Challenge.rw_dr5025_02.row.prog w) (ktrTop dp un gd cn cs L ad ccd cl outer) (.call (.ref 222) ⟨[.ref x, .str a ta, .str b tb], []⟩) (fun r s' => match r with | .ok (.ret v) => Q v s' | .ok _ => False | .error e => E e s') s := by
  refine sim w mean mg mb news x dx k1 k2 k3 a b ta tb dp un gd cn cs ad ccd cl outer A₀ base h₀ L m s Q E hB hF hK (fun p hp => ?_) hT hk hpre hb hdp hun ?_
  · rcases List.mem_cons.mp hp with e | hp
    · rw [e]; exact hN _ hx
    · rcases List.mem_cons.mp hp with e | hp
      · rw [e]; exact hN _ hdx
      · exact hN p hp
  · intro t h tk F N
    exact hret t h tk F (cb_drop N fun p hp => List.mem_cons_of_mem _ (List.mem_cons_of_mem _ hp))
end Mine
end
section
open PySem PySem.W PyProof.Rows
set_option maxRecDepth 100000
set_option linter.unusedVariables false
namespace Mine
theorem sub_snoc {α : Type} {l c : List α} {x : α} (h : c.Sublist (l ++ [x])) : c.Sublist l ∨ ∃ c', c = c' ++ [x] ∧ c'.Sublist l := by
  obtain ⟨c1, c2, rfl, h1, h2⟩ := List.sublist_append_iff.mp h
  rcases List.sublist_cons_iff.mp h2 with k2 | ⟨r, e, k2⟩
  · rw [List.sublist_nil.mp k2, List.append_nil]
    exact .inl h1
  · rw [e, List.sublist_nil.mp k2]
    exact .inr ⟨c1, rfl, h1⟩
theorem sub_last {α : Type} {l c : List α} {x : α} (h : c.Sublist (l ++ [x])) : c.dropLast.Sublist l := by
  rcases sub_snoc h with k | ⟨c', e, k⟩
  · exact (List.dropLast_sublist c).trans k
  · rw [e, List.dropLast_concat]
    exact k
theorem dp_ge {α : Type} [DecidableEq α] (a b : List α) : ∀ i j, i ≤ a.length → j ≤ b.length → ∀ c : List α, c.Sublist (a.take i) → c.Sublist (b.take j) → c.length ≤ dp a b i j := by
  intro i
  induction i with
  | zero =>
    intro j _ _ c h _
    rw [List.take_zero] at h
    rw [List.sublist_nil.mp h]
    exact Nat.zero_le _
  | succ i ihi =>
    intro j
    induction j with
    | zero =>
      intro _ _ c _ h
      rw [List.take_zero] at h
      rw [List.sublist_nil.mp h]
      exact Nat.zero_le _
    | succ j ihj =>
      intro hi hj c h1 h2
      have hi' : i < a.length := hi
      have hj' : j < b.length := hj
      have k1 := h1
      have k2 := h2
      rw [List.take_succ_eq_append_getElem hi'] at h1
      rw [List.take_succ_eq_append_getElem hj'] at h2
      rw [dp, List.getElem?_eq_getElem hi', List.getElem?_eq_getElem hj']
      by_cases e : a[i] = b[j]
      · rw [if_pos (by rw [e])]
        have := ihi j (Nat.le_of_lt hi) (Nat.le_of_lt hj) c.dropLast (sub_last h1) (sub_last h2)
        rw [List.length_dropLast] at this
        omega
      · rw [if_neg (by simpa using e)]
        rcases sub_snoc h1 with h1 | ⟨c1, e1, h1⟩
        · have := ihi (j + 1) (Nat.le_of_lt hi) hj c h1 k2
          omega
        · rcases sub_snoc h2 with h2 | ⟨c2, e2, h2⟩
          · have := ihj hi (Nat.le_of_lt hj) c k1 h2
            omega
          · refine absurd ?_ e
            have := List.append_inj_right' (e1.symm.trans e2) rfl
            simpa using this
theorem signs_append (a b : Str) : signs (a ++ b) = signs a ++ signs b := by
  unfold signs
  rw [PySem.Str.cps_append, Array.toList_append, List.map_append]
theorem signs_self {x c : Str} (h : c ∈ signs x) : signs c = [c] := by
  obtain ⟨n, -, rfl⟩ := List.mem_map.mp h
  rfl
theorem dp_le_left {α : Type} [DecidableEq α] (a b : List α) : ∀ i j, dp a b i j ≤ i := by
  intro i
  induction i with
  | zero => intro j; simp [dp]
  | succ i ihi =>
    intro j
    induction j with
    | zero => simp [dp]
    | succ j ihj =>
      rw [dp]
      have := ihi j
      have := ihi (j + 1)
      split <;> omega
theorem tb_sub (la lb : List Str) (hl : ∀ c ∈ la, signs c = [c]) : ∀ i j, i ≤ la.length → j ≤ lb.length → ∀ r : Str, ∃ C : List Str, C.Sublist (la.take i) ∧ C.Sublist (lb.take j) ∧ C.length = dp la lb i j ∧ signs (tb la lb i j r) = C ++ signs r := by
  intro i
  induction i with
  | zero =>
    intro j _ _ r
    refine ⟨[], List.nil_sublist _, List.nil_sublist _, ?_, ?_⟩
    · rw [dp]; rfl
    · rw [tb_zero_left]; rfl
  | succ i ihi =>
    intro j
    induction j with
    | zero =>
      intro _ _ r
      refine ⟨[], List.nil_sublist _, List.nil_sublist _, ?_, ?_⟩
      · rw [dp]; rfl
      · rw [tb_zero_right]; rfl
    | succ j ihj =>
      intro hi hj r
      have hi' : i < la.length := hi
      have hj' : j < lb.length := hj
      by_cases h0 : dp la lb (i + 1) (j + 1) = dp la lb i (j + 1)
      · obtain ⟨C, c1, c2, c3, c4⟩ := ihi (j + 1) (Nat.le_of_lt hi) hj r
        refine ⟨C, c1.trans (List.take_sublist_take_left (Nat.le_succ i)), c2, by rw [h0]; exact c3, ?_⟩
        rw [tb_up (Nat.succ_ne_zero i) (Nat.succ_ne_zero j) h0]
        exact c4
      · by_cases h1 : dp la lb (i + 1) (j + 1) = dp la lb (i + 1) j
        · obtain ⟨C, c1, c2, c3, c4⟩ := ihj hi (Nat.le_of_lt hj) r
          refine ⟨C, c1, c2.trans (List.take_sublist_take_left (Nat.le_succ j)), by rw [h1]; exact c3, ?_⟩
          rw [tb_left (Nat.succ_ne_zero i) (Nat.succ_ne_zero j) h0 h1]
          exact c4
        · have e := dp_diag (Nat.succ_ne_zero i) (Nat.succ_ne_zero j) h0 h1
          replace e : la[i]? = lb[j]? := e
          obtain ⟨C, c1, c2, c3, c4⟩ := ihi j (Nat.le_of_lt hi) (Nat.le_of_lt hj) (la.getD i Str.empty ++ r)
          have g : la.getD i Str.empty = la[i] := by simp [List.getD, hi']
          have e' : la[i] = lb[j] := by
            rw [List.getElem?_eq_getElem hi', List.getElem?_eq_getElem hj'] at e
            exact Option.some.inj e
          refine ⟨C ++ [la[i]], ?_, ?_, ?_, ?_⟩
          · rw [List.take_succ_eq_append_getElem hi']
            exact c1.append (List.Sublist.refl _)
          · rw [List.take_succ_eq_append_getElem hj', e']
            exact c2.append (List.Sublist.refl _)
          · rw [dp, if_pos e, List.length_append, c3]; rfl
          · rw [tb_diag (Nat.succ_ne_zero i) (Nat.succ_ne_zero j) h0 h1]
            show signs (tb la lb i j (la.getD i Str.empty ++ r)) = _
            rw [c4, g, signs_append, hl _ (List.getElem_mem hi'), List.append_assoc]
/-- what the traceback answers: a longest common subsequence -/
theorem tb_best (a b : Str) : (signs (tb (signs a) (signs b) a.length b.length (Str.ofString ""))).Sublist (signs a) ∧ (signs (tb (signs a) (signs b) a.length b.length (Str.ofString ""))).Sublist (signs b) ∧
    (tb (signs a) (signs b) a.length b.length (Str.ofString "")).length = dp (signs a) (signs b) a.length b.length ∧
    ∀ c : List Str, c.Sublist (signs a) → c.Sublist (signs b) → c.length ≤ (tb (signs a) (signs b) a.length b.length (Str.ofString "")).length := by
  have ea : (signs a).take a.length = signs a := List.take_of_length_le (by rw [signs_length]; exact Nat.le_refl _)
  have eb : (signs b).take b.length = signs b := List.take_of_length_le (by rw [signs_length]; exact Nat.le_refl _)
  have la : a.length ≤ (signs a).length := by rw [signs_length]; exact Nat.le_refl _
  have lb : b.length ≤ (signs b).length := by rw [signs_length]; exact Nat.le_refl _
  obtain ⟨C, c1, c2, c3, c4⟩ := tb_sub (signs a) (signs b) (fun c h => signs_self h) a.length b.length la lb (Str.ofString "")
  rw [show signs (Str.ofString "") = [] from rfl, List.append_nil] at c4
  rw [ea] at c1
  rw [eb] at c2
  have e : (tb (signs a) (signs b) a.length b.length (Str.ofString "")).length = dp (signs a) (signs b) a.length b.length := by
    rw [← signs_length, c4, c3]
  refine ⟨c4 ▸ c1, c4 ▸ c2, e, fun c h1 h2 => ?_⟩
  rw [e]
  exact dp_ge _ _ _ _ la lb c (by rw [ea]; exact h1) (by rw [eb]; exact h2)
end Mine
end
section
open PySem PySem.W PyProof.Rows
set_option Elab.async false
set_option maxRecDepth 100000
set_option maxHeartbeats 0
set_option linter.unusedVariables false
namespace Mine
def archStep (K : Nat) (s : Nat × List Str) (z : Str) : Nat × List Str :=
  let ms := if z ∈ s.2 then s.2 else s.2 ++ [z]
  if ms.length = K then (s.1 + 1, []) else (s.1, ms)
def arches (K : Nat) (la : List Str) : Nat := (la.foldl (archStep K) (0, [])).1

def ArchJ (K : Nat) (la : List Str) (news : List (Addr × Obj)) (m₀ : Str → Option Value) (i : Nat) (m : Str → Option Value) (nx : List (Addr × Obj)) : Prop :=
  ∃ (c : Nat) (ms : List Str) (D : Addr) (vs : List Value) (n : Nat), (la.take i).foldl (archStep K) (0, []) = (c, ms) ∧ StrsAre vs ms ∧ vs.length ≤ i ∧ c ≤ i ∧ nx = (D, listOf vs.toArray n) :: news ∧ (∀ p ∈ news, p.1 ≠ D) ∧
    (∃ t, m (Str.ofString "count") = some (.int (c : Nat) t)) ∧ m (Str.ofString "met") = some (.ref D) ∧ ∀ z, [Str.ofString "count", Str.ofString "met", Str.ofString "letter"].contains z = false → m z = m₀ z

theorem arch_end {h₀ h' : Heap} {L : Addr} {K i c c' n' tk : Nat} {la ms ms' : List Str} {z : Str} {news own all : List (Addr × Obj)} {m₀ m' : Str → Option Value} {vs' : List Value} {D' : Addr} {vc : Int} {tc : Tok} {s₁ : Shared} {Q : Flow → Shared → Prop}
    (hprev : (la.take i).foldl (archStep K) (0, []) = (c, ms)) (hz : la[i]? = some z) (F : Fr h₀ L h' m') (N : News h₀ L h' all) (hm : (D', listOf vs'.toArray n') ∈ all) (hstep : archStep K (c, ms) z = (c', ms')) (hS : StrsAre vs' ms') (hvl : vs'.length ≤ i + 1) (hci : c' ≤ i + 1)
    (hnews : ∀ p ∈ news, p ∈ all) (hown : ∀ p ∈ own, p ∈ all) (hf : ∀ p ∈ news, p.1 ≠ D') (hof : ∀ p ∈ own, p.1 ≠ D') (hon : OwnOff own (news.map (·.1)))
    (hc : m' (Str.ofString "count") = some (.int vc tc)) (hvc : vc = (c' : Nat)) (hmet : m' (Str.ofString "met") = some (.ref D')) (hrest : ∀ z, [Str.ofString "count", Str.ofString "met", Str.ofString "letter"].contains z = false → m' z = m₀ z) :
    InvPostG h₀ L (ArchJ K la news m₀ (i + 1)) own s₁ Q .next { s₁ with heap := h', toks := tk } := by
  refine InvEndG.intro F N (nx := (D', listOf vs'.toArray n') :: news) ⟨c', ms', D', vs', n', ?_, hS, hvl, hci, rfl, hf, ⟨tc, by rw [hc, hvc]⟩, hmet, hrest⟩ ?_ ?_ hown
  · rw [List.take_add_one, hz]
    simp only [Option.toList_some, List.foldl_append, List.foldl_cons, List.foldl_nil]
    rw [hprev, hstep]
  · intro p hp b hb
    rcases List.mem_cons.mp hb with e | hb
    · rw [e]; exact hof p hp
    · exact hon p hp b hb
  · intro p hp
    rcases List.mem_cons.mp hp with e | hp
    · rw [e]; exact hm
    · exact hnews p hp
local macro_rules | `(tactic| walk_at "exec For Name Name cons nil") => `(tactic| (k_here; (rename Fr _ _ _ _ => lF'); (with_unfolding_all refine' For_invVF lF' ?k1 ?k2 ?_; (case k1 => exact rfl); (case k2 => exact rfl); k_whole)))
local macro_rules | `(tactic| walk_at "exec For Name Call cons nil") => `(tactic| (k_here; (rename Fr _ _ _ _ => lF'); (with_unfolding_all refine' For_invVF lF' ?k1 ?k2 ?_; (case k1 => exact rfl); (case k2 => exact rfl); k_whole)))
local macro_rules | `(tactic| walk_at "pyIter str") => `(tactic| (refine Stop.out ?_))
local macro_rules | `(tactic| walk_at "call builtin:len") => `(tactic| (k_here; (with_reducible show wpAny _ _ (call (Value.builtin "len") [Value.ref _]) _ _ _); k_dflt (refine' led_len ?k1 ?k2 ?k3 ?_; (case k1 => k_asm); (case k2 => k_mem); (case k3 => ((try simp only [List.length_append, List.length_cons, List.length_nil]); omega)); k_whole)))
local macro_rules | `(tactic| walk_at "InvPostG") => `(tactic| (refine Stop.out ?_))
local macro_rules | `(tactic| k_all) => `(tactic| first | assumption | (refine List.forall_mem_append.mpr ⟨?_, ?_⟩ <;> k_all))

local macro_rules | `(tactic| walk_at "call builtin:list.append") => `(tactic| ((fail_if_success (with_reducible show wpAny _ _ (call (Value.builtin _) [Value.ref _, _]) _ _ _)); dsimp only [List.cons_append, List.nil_append]))
theorem arch (w : World) (mean : ExcName → Option Value) (mg mb : Str → Option Value) (news : List (Addr × Obj)) (a b : Str) (ta tb : Tok) :
    CbClaim PySem.Challenge.rw_dr5025_02.row.prog w (hd.heap_39 w.params) hd.view_39 (looseW hd.view_39 [Str.ofString "Base", Str.ofString "LCSSeq"]) mean mg mb 235 news [] (a.length ≤ 100 ∧ b.length ≤ 100) [.str a ta, .str b tb] (fun t => .int (arches b.length (signs a)) t) := by
  k_fill
  unfold CbClaim; dsimp only [CbLists, CbRet]; intro dp un gd cn cs ad ccd cl outer A₀ base h₀ L m s Q E hB hF hK hN hT hk hpre hdp hun hret
  refine wpAny_call ?_
  k_dflt (refine' code_def ?k1 ?k2 ?k3 ?k4 ?k5 ?kA ?kF ?kK ?k6 ?k7 ?k8 ?k9 ?kB ?_ ?c2 ?c3 ?c4 ?c5; (case kA => exact rfl); (case kF => exact rfl); (case kK => assumption); (case k1 => k_asm); (case k2 => k_asm); (case k3 => k_asm); (case k4 => k_asm); (case k5 => k_asm); (case k6 => k_is); (case k7 => k_is); (case k8 => ktr_room); (case k9 => exact BindsTo.of_eq rfl); (case c5 => decide); (case kB => exact locs rfl); (case c2 => exact rfl); (case c3 => exact rfl); (case c4 => exact rfl); k_whole; intro g' L' h' FG' F' N' B' X' T'; (try dsimp only); (try k_lift B'); (try k_fold))
  have hpa := hpre.1
  have hpb := hpre.2
  k_steps
  refine Stop.mk ?_
  rename Fr g' L' _ _ => F1
  rename News g' L' _ _ => N1
  rename ∀ p ∈ news, p.1 < _ => lt1
  replace N1 := cb_drop N1 (fun p hp => List.mem_cons_of_mem _ hp)
  refine str_inv (ArchJ b.length (signs a) news) (by rfl) F1 N1 ?j0 ?jturn ?jdone
  case j0 => exact ⟨0, [], _, [], 0, rfl, .nil, Nat.le_refl _, Nat.le_refl _, rfl, fun p hp => Nat.ne_of_lt (lt1 p hp), ⟨_, rfl⟩, rfl, fun _ _ => rfl⟩
  case jturn =>
    intro i c t m₁ nx h1 tk1 own hc hoff hJ F2 N2
    obtain ⟨cn', ms, D, vs, n, hst, hS, hvl, hci, rfl, hD, ⟨tc, hcnt⟩, hmet, hz⟩ := hJ
    obtain ⟨u, F3⟩ := fr_puts [(Str.ofString "count", Value.int (cn' : Nat) tc), (Str.ofString "met", Value.ref D)] F2 (by simp [hcnt, hmet]) hz
    replace F3 : Fr g' L' h1 _ := F3
    have hown : ∀ p ∈ own, p.1 ≠ D := fun p hp => hoff p hp D (List.mem_cons_self)
    have hia : i < a.length := by
      have := (List.getElem?_eq_some_iff.mp hc).1
      rw [signs_length] at this
      exact this
    have hon : OwnOff own (news.map (·.1)) := fun p hp b hb => hoff p hp b (List.mem_cons_of_mem _ hb)
    have hlen : vs.length = ms.length := hS.length
    k_steps
    · refine Stop.mk ?_
      rename (ms.any fun x => x == c) = true => hany
      rename ((vs.length : Nat) : Int) = ((b.length : Nat) : Int) => hlb
      rename Fr g' L' _ _ => F20
      rename News g' L' _ _ => N20
      rename ∀ p ∈ (D, listOf vs.toArray n) :: news ++ own, p.1 < _ => lt1
      have hin : c ∈ ms := by
        obtain ⟨y, hy, e⟩ := List.any_eq_true.mp hany
        rw [← eq_of_beq e]; exact hy
      refine arch_end (D' := _) (vs' := []) hst hc F20 N20 (List.mem_cons_of_mem _ List.mem_cons_self) (c' := cn' + 1) (ms' := []) ?_ .nil (Nat.zero_le _) (by omega) ?_ ?_ ?_ ?_ hon rfl (by omega) rfl ?hrest
      case hrest => exact put_out rfl (put_out rfl (put_out rfl (puts_out _ rfl ovr_out)))
      · simp only [archStep, if_pos hin]
        rw [if_pos (by omega)]
      · exact fun p hp => List.mem_cons_of_mem _ (List.mem_cons_of_mem _ (List.mem_append_left _ (List.mem_cons_of_mem _ hp)))
      · exact fun p hp => List.mem_cons_of_mem _ (List.mem_cons_of_mem _ (List.mem_append_right _ hp))
      · exact fun p hp => Nat.ne_of_lt (lt1 p (List.mem_append_left _ (List.mem_cons_of_mem _ hp)))
      · exact fun p hp => Nat.ne_of_lt (lt1 p (List.mem_append_right _ hp))
    · refine Stop.mk ?_
      rename (ms.any fun x => x == c) = true => hany
      rename ((vs.length : Nat) : Int) ≠ ((b.length : Nat) : Int) => hlb
      have hin : c ∈ ms := by
        obtain ⟨y, hy, e⟩ := List.any_eq_true.mp hany
        rw [← eq_of_beq e]; exact hy
      refine arch_end (D' := D) (vs' := vs) hst hc F3 N2 List.mem_cons_self (c' := cn') (ms' := ms) ?_ hS (by omega) (by omega) ?_ ?_ hD hown hon rfl rfl rfl ?hrest
      case hrest => exact put_out rfl (puts_out _ rfl ovr_out)
      · simp only [archStep, if_pos hin]
        rw [if_neg (by omega)]
      · exact fun p hp => List.mem_cons_of_mem _ (List.mem_append_left _ hp)
      · exact fun p hp => List.mem_append_right _ hp
    · refine Stop.mk ?_
      rename (ms.any fun x => x == c) = false => hany
      rename (((vs ++ [Value.str c t]).length : Nat) : Int) = ((b.length : Nat) : Int) => hlb
      rename Fr g' L' _ _ => F20
      rename News g' L' _ _ => N20
      rename D < _ ∧ AllLt _ (news.append own) => lt1
      have lt2 := allLt_mem lt1.2
      have hin : c ∉ ms := fun h => by
        have : (ms.any fun x => x == c) = true := List.any_eq_true.mpr ⟨c, h, by simp⟩
        rw [this] at hany; cases hany
      simp only [List.length_append, List.length_cons, List.length_nil] at hlb
      refine arch_end (D' := _) (vs' := []) hst hc F20 N20 (List.mem_cons_of_mem _ List.mem_cons_self) (c' := cn' + 1) (ms' := []) ?_ .nil (Nat.zero_le _) (by omega) ?_ ?_ ?_ ?_ hon rfl (by omega) rfl ?hrest
      case hrest => exact put_out rfl (put_out rfl (put_out rfl (puts_out _ rfl ovr_out)))
      · simp only [archStep, if_neg hin, List.length_append, List.length_cons, List.length_nil]
        rw [if_pos (by omega)]
      · exact fun p hp => List.mem_cons_of_mem _ (List.mem_cons_of_mem _ (List.mem_cons_of_mem _ (List.mem_append_left _ hp)))
      · exact fun p hp => List.mem_cons_of_mem _ (List.mem_cons_of_mem _ (List.mem_cons_of_mem _ (List.mem_append_right _ hp)))
      · exact fun p hp => Nat.ne_of_lt (lt2 p (List.mem_append_left _ hp))
      · exact fun p hp => Nat.ne_of_lt (lt2 p (List.mem_append_right _ hp))
    · refine Stop.mk ?_
      rename (ms.any fun x => x == c) = false => hany
      rename (((vs ++ [Value.str c t]).length : Nat) : Int) ≠ ((b.length : Nat) : Int) => hlb
      rename Fr g' L' _ _ => F20
      rename News g' L' _ _ => N20
      have hin : c ∉ ms := fun h => by
        have : (ms.any fun x => x == c) = true := List.any_eq_true.mpr ⟨c, h, by simp⟩
        rw [this] at hany; cases hany
      simp only [List.length_append, List.length_cons, List.length_nil] at hlb
      refine arch_end (D' := D) (vs' := vs ++ [Value.str c t]) hst hc F20 N20 List.mem_cons_self (c' := cn') (ms' := ms ++ [c]) ?_ (hS.append' (.cons _ _ .nil)) (by simp; omega) (by omega) ?_ ?_ hD hown hon rfl rfl rfl ?hrest
      case hrest => exact put_out rfl (puts_out _ rfl ovr_out)
      · simp only [archStep, if_neg hin, List.length_append, List.length_cons, List.length_nil]
        rw [if_neg (by omega)]
      · exact fun p hp => List.mem_cons_of_mem _ (List.mem_append_left _ hp)
      · exact fun p hp => List.mem_cons_of_mem _ (List.mem_append_right _ hp)
  case jdone =>
    intro m₁ nx h1 tk1 hJ F2 N2
    obtain ⟨cn', ms, D, vs, n, hst, hS, hvl, hci, rfl, hD, ⟨tc, hcnt⟩, hmet, hz⟩ := hJ
    obtain ⟨u, F3⟩ := fr_puts0 [(Str.ofString "count", Value.int (cn' : Nat) tc), (Str.ofString "met", Value.ref D)] F2 (by simp [hcnt, hmet]) hz
    replace F3 : Fr g' L' h1 _ := F3
    rw [List.take_length] at hst
    k_steps
    rename Fr h₀ L _ m => kF
    rename News h₀ L _ ((D, _) :: _) => kN
    exact cb_retI hret (by unfold arches; rw [hst]) kF (cb_drop kN fun p hp => List.mem_cons_of_mem _ hp)
end Mine
end
section
open PySem PySem.W PyProof.Rows
set_option Elab.async false
set_option maxRecDepth 100000
set_option maxHeartbeats 0
set_option linter.unusedVariables false
namespace Mine
def lack (ks : List Str) : Nat → Str → Nat
  | 0, _ => 0
  | n + 1, w => (ks.map fun c => if Txt.find w c < 0 then ks.length ^ n else lack ks n (Txt.slice w (some (Txt.find w c + 1)) none)).sum

def lackF (ks : List Str) (n : Nat) (w c : Str) : Nat := if Txt.find w c < 0 then ks.length ^ n else lack ks n (Txt.slice w (some (Txt.find w c + 1)) none)
theorem lack_succ (ks : List Str) (n : Nat) (w : Str) : lack ks (n + 1) w = (ks.map (lackF ks n w)).sum := by rw [lack]; rfl
def LackAt (w : World) (mean : ExcName → Option Value) (mg mb : Str → Option Value) (b : Str) (n : Nat) : Prop :=
  ∀ (news : List (Addr × Obj)) (a : Str) (ta tb tn : Tok) (dp un : Nat) (gd : Option (List Code)) (cn : Str) (cs : Scope) (ad : Addr) (ccd : Value) (cl : List (Str × Addr)) (outer : List Env) (A₀ : Around) (base h₀ : Heap) (L : Addr) (m : Str → Option Value) (s : Shared) (Q E : Value → Shared → Prop),
    Below A₀ base outer h₀ → Fr h₀ L s.heap m → (hd.heap_39 w.params).In h₀ → News h₀ L s.heap news → Top hd.view_39 (looseW hd.view_39 [Str.ofString "Base", Str.ofString "LCSSeq"]) mean mg mb h₀ → cs.kind = .function →
    a.length ≤ 100 → b.length ≤ 3 → n ≤ 20 → dp + 1 + n < recursionLimit → un + 8 + 8 * n < cLine → CbRet h₀ L m news s Q (fun t => .int (lack (signs b) n a : Nat) t) →
      wpAny (model PySem.Challenge.rw_dr5025_02.row.prog w) (ktrTop dp un gd cn cs L ad ccd cl outer) (call (.ref 242) [.str a ta, .str b tb, .int (n : Nat) tn]) Q E s

def LackJ (la : List Str) (f : Str → Nat) (news : List (Addr × Obj)) (m₀ : Str → Option Value) (i : Nat) (m : Str → Option Value) (nx : List (Addr × Obj)) : Prop :=
  nx = news ∧ (∃ t, m (Str.ofString "total") = some (.int (((la.take i).map f).sum : Nat) t)) ∧ ∀ z, [Str.ofString "total", Str.ofString "place", Str.ofString "letter"].contains z = false → m z = m₀ z

theorem lack_end {h₀ h' : Heap} {L : Addr} {i tk : Nat} {la : List Str} {f : Str → Nat} {c : Str} {nx own : List (Addr × Obj)} {m₀ m' : Str → Option Value} {v : Int} {t : Tok} {s₁ : Shared} {Q : Flow → Shared → Prop}
    (hc : la[i]? = some c) (F : Fr h₀ L h' m') (N : News h₀ L h' (nx ++ own)) (hoff : OwnOff own (nx.map (·.1)))
    (ht : m' (Str.ofString "total") = some (.int v t)) (hv : v = ((((la.take i).map f).sum : Nat) : Int) + (f c : Nat)) (hrest : ∀ z, [Str.ofString "total", Str.ofString "place", Str.ofString "letter"].contains z = false → m' z = m₀ z) :
    InvPostG h₀ L (LackJ la f nx m₀ (i + 1)) own s₁ Q .next { s₁ with heap := h', toks := tk } := by
  refine InvEndG.intro F N (nx := nx) ⟨rfl, ⟨t, ?_⟩, hrest⟩ hoff (fun p hp => List.mem_append_left _ hp) (fun p hp => List.mem_append_right _ hp)
  rw [ht, hv, sum_take_succ hc]
  push_cast
  rfl
local macro_rules | `(tactic| walk_at "exec For Name Name cons nil") => `(tactic| (k_here; (rename Fr _ _ _ _ => lF'); (with_unfolding_all refine' For_invVF lF' ?k1 ?k2 ?_; (case k1 => exact rfl); (case k2 => exact rfl); k_whole)))
local macro_rules | `(tactic| walk_at "exec For Name Call cons nil") => `(tactic| (k_here; (rename Fr _ _ _ _ => lF'); (with_unfolding_all refine' For_invVF lF' ?k1 ?k2 ?_; (case k1 => exact rfl); (case k2 => exact rfl); k_whole)))
local macro_rules | `(tactic| walk_at "pyIter str") => `(tactic| (refine Stop.out ?_))
local macro_rules | `(tactic| walk_at "InvPostG") => `(tactic| (refine Stop.out ?_))
local macro_rules | `(tactic| walk_at "call ref") => `(tactic| (refine Stop.out ?_))

theorem lackAt (w : World) (mean : ExcName → Option Value) (mg mb : Str → Option Value) (b : Str) (n : Nat) : LackAt w mean mg mb b n := by
  induction n with
  | zero =>
    unfold LackAt
    k_fill
    dsimp only [CbRet]; intro news a ta tb tn dp un gd cn cs ad ccd cl outer A₀ base h₀ L m s Q E hB hF hK hN hT hk ha hb hn hdp hun hret
    refine wpAny_call ?_
    k_dflt (refine' code_def ?k1 ?k2 ?k3 ?k4 ?k5 ?kA ?kF ?kK ?k6 ?k7 ?k8 ?k9 ?kB ?_ ?c2 ?c3 ?c4 ?c5; (case kA => exact rfl); (case kF => exact rfl); (case kK => assumption); (case k1 => k_asm); (case k2 => k_asm); (case k3 => k_asm); (case k4 => k_asm); (case k5 => k_asm); (case k6 => k_is); (case k7 => k_is); (case k8 => ktr_room); (case k9 => exact BindsTo.of_eq rfl); (case c5 => decide); (case kB => exact locs rfl); (case c2 => exact rfl); (case c3 => exact rfl); (case c4 => exact rfl); k_whole; intro g' L' h' FG' F' N' B' X' T'; (try dsimp only); (try k_lift B'); (try k_fold))
    k_steps
    rename Fr h₀ L _ m => kF
    rename News h₀ L _ news => kN
    exact cb_retI hret rfl kF kN
  | succ n ih =>
    unfold LackAt
    k_fill
    dsimp only [CbRet]; intro news a ta tb tn dp un gd cn cs ad ccd cl outer A₀ base h₀ L m s Q E hB hF hK hN hT hk ha hb hn hdp hun hret
    refine wpAny_call ?_
    k_dflt (refine' code_def ?k1 ?k2 ?k3 ?k4 ?k5 ?kA ?kF ?kK ?k6 ?k7 ?k8 ?k9 ?kB ?_ ?c2 ?c3 ?c4 ?c5; (case kA => exact rfl); (case kF => exact rfl); (case kK => assumption); (case k1 => k_asm); (case k2 => k_asm); (case k3 => k_asm); (case k4 => k_asm); (case k5 => k_asm); (case k6 => k_is); (case k7 => k_is); (case k8 => ktr_room); (case k9 => exact BindsTo.of_eq rfl); (case c5 => decide); (case kB => exact locs rfl); (case c2 => exact rfl); (case c3 => exact rfl); (case c4 => exact rfl); k_whole; intro g' L' h' FG' F' N' B' X' T'; (try dsimp only); (try k_lift B'); (try k_fold))
    k_steps
    · exfalso
      rename ((n + 1 : Nat) : Int) = 0 => h0
      omega
    refine Stop.mk ?_
    rename Fr g' L' _ _ => F1
    rename News g' L' _ news => N1
    refine str_inv (LackJ (signs b) (lackF (signs b) n a) news) (by rfl) F1 N1 ?j0 ?jturn ?jdone
    case j0 => exact ⟨rfl, ⟨_, rfl⟩, fun _ _ => rfl⟩
    case jturn =>
      intro i c t m₁ nx h1 tk1 own hc hoff hJ F2 N2
      obtain ⟨rfl, ⟨tt, htot⟩, hz⟩ := hJ
      obtain ⟨u, F3⟩ := fr_puts [(Str.ofString "total", Value.int ((((signs b).take i).map (lackF (signs b) n a)).sum : Nat) tt)] F2 (by simp [htot]) hz
      replace F3 : Fr g' L' h1 _ := F3
      unfold LackAt at ih
      dsimp only [CbRet] at ih
      k_steps
      · refine Stop.mk ?_
        rename Txt.find a c < 0 => hfind
        rename Fr g' L' _ _ => F20
        rename News g' L' _ _ => N20
        have e : (((n + 1 : Nat) : Int) - 1).toNat = n := by omega
        rw [e] at F20
        have hv : lackF (signs b) n a c = b.length ^ n := by
          unfold lackF
          rw [if_pos hfind, signs_length]
        refine lack_end hc F20 N20 hoff rfl ?hv ?hz
        case hz => exact put_out rfl (put_out rfl (put_out rfl (puts_out _ rfl ovr_out)))
        case hv =>
          rw [hv]
          push_cast
          rfl
      · refine Stop.mk ?_
        rename ¬ Txt.find a c < 0 => hfind
        have e : ((n + 1 : Nat) : Int) - 1 = ((n : Nat) : Int) := by omega
        rw [e]
        have hv : lackF (signs b) n a c = lack (signs b) n (Txt.slice a (some (Txt.find a c + 1)) none) := by
          unfold lackF
          rw [if_neg hfind]
        rename (Txt.slice a (some (Txt.find a c + 1)) none).length ≤ a.length => hsl
        k_dflt (refine' ih _ _ _ _ _ _ _ _ _ _ _ _ _ _ _ _ _ _ _ _ _ _ ?k1 ?k2 ?k3 ?k4 ?k5 ?k6 ?k7 ?k8 ?k9 ?k10 ?k11 ?k12)
        case k1 => k_asm
        case k2 => k_asm
        case k3 => k_asm
        case k4 => k_asm
        case k5 => k_asm
        case k6 => first | exact rfl | assumption
        case k7 => omega
        case k8 => omega
        case k9 => omega
        case k10 => show dp + 1 + 1 + n < recursionLimit; omega
        case k11 => show un + 3 + 8 + 8 * n < cLine; omega
        case k12 =>
          intro t9 h9 tk9 F9 N9
          rw [← hv]
          dsimp only
          k_steps
          refine Stop.mk ?_
          rename Fr g' L' _ _ => F20
          rename News g' L' _ _ => N20
          refine lack_end hc F20 N20 hoff rfl rfl ?hz
          case hz => exact put_out rfl (put_out rfl (put_out rfl (puts_out _ rfl ovr_out)))
    case jdone =>
      intro m₁ nx h1 tk1 hJ F2 N2
      obtain ⟨hnx, ⟨tt, htot⟩, hz⟩ := hJ
      rw [List.take_length] at htot
      rw [hnx] at N2
      obtain ⟨u, F3⟩ := fr_puts0 [(Str.ofString "total", Value.int (((signs b).map (lackF (signs b) n a)).sum : Nat) tt)] F2 (by simp [htot]) hz
      replace F3 : Fr g' L' h1 _ := F3
      k_steps
      rename Fr h₀ L _ m => kF
      rename News h₀ L _ news => kN
      exact cb_retI hret (by rw [lack_succ]) kF kN
end Mine
end
section
open PySem PySem.W PyProof.Rows
set_option maxRecDepth 100000
set_option linter.unusedVariables false
namespace Mine
section
variable {w : World} {mean : ExcName → Option Value} {mg mb : Str → Option Value} {news : List (Addr × Obj)} {a b : Str} {ta tb tn : Tok} {dp un : Nat} {gd : Option (List Code)} {cn : Str} {cs : Scope} {ad : Addr} {ccd : Value} {cl : List (Str × Addr)} {outer : List Env} {A₀ : Around} {base h₀ : Heap} {L : Addr} {m : Str → Option Value} {s : Shared} {Q E : Value → Shared → Prop}
theorem arch_rule (h1 : Below A₀ base outer h₀) (h2 : Fr h₀ L s.heap m) (h3 : (hd.heap_39 w.params).In h₀) (h4 : News h₀ L s.heap news) (h5 : Top hd.view_39 (looseW hd.view_39 [Str.ofString "Base", Str.ofString "LCSSeq"]) mean mg mb h₀) (h6 : cs.kind = .function)
    (h7 : a.length ≤ 100 ∧ b.length ≤ 100) (h8 : dp + 1 < recursionLimit) (h9 : un + 8 < cLine) (hR : CbRet h₀ L m news s Q (fun t => .int (arches b.length (signs a) : Nat) t)) :
    wpAny (model PySem.Challenge.rw_dr5025_02.row.prog w) (ktrTop dp un gd cn cs L ad ccd cl outer) (call (.ref 235) [.str a ta, .str b tb]) Q E s :=
  arch w mean mg mb news a b ta tb dp un gd cn cs ad ccd cl outer A₀ base h₀ L m s Q E h1 h2 h3 h4 h5 h6 h7 h8 h9 hR
theorem lack_rule {n : Nat} (h1 : Below A₀ base outer h₀) (h2 : Fr h₀ L s.heap m) (h3 : (hd.heap_39 w.params).In h₀) (h4 : News h₀ L s.heap news) (h5 : Top hd.view_39 (looseW hd.view_39 [Str.ofString "Base", Str.ofString "LCSSeq"]) mean mg mb h₀) (h6 : cs.kind = .function)
    (h7 : a.length ≤ 100) (h8 : b.length ≤ 3) (h9 : n ≤ 20) (h10 : dp + 1 + n < recursionLimit) (h11 : un + 8 + 8 * n < cLine) (hR : CbRet h₀ L m news s Q (fun t => .int (lack (signs b) n a : Nat) t)) :
    wpAny (model PySem.Challenge.rw_dr5025_02.row.prog w) (ktrTop dp un gd cn cs L ad ccd cl outer) (call (.ref 242) [.str a ta, .str b tb, .int (n : Nat) tn]) Q E s :=
  lackAt w mean mg mb b n news a ta tb tn dp un gd cn cs ad ccd cl outer A₀ base h₀ L m s Q E h1 h2 h3 h4 h5 h6 h7 h8 h9 h10 h11 hR
end
end Mine
end
section
open PySem PySem.W PyProof.Rows
set_option maxRecDepth 100000
set_option linter.unusedVariables false
namespace Mine
/-! a word of no more letters than there are arches is a subsequence -/
theorem pigeon {α : Type} [DecidableEq α] : ∀ (ms ks : List α), ms.Nodup → (∀ z ∈ ms, z ∈ ks) → ms.length ≤ ks.length := by
  intro ms
  induction ms with
  | nil => intro ks _ _; exact Nat.zero_le _
  | cons m t ih =>
    intro ks hn hs
    have hm := hs m List.mem_cons_self
    have := ih (ks.erase m) (List.nodup_cons.mp hn).2 (fun z hz => (List.mem_erase_of_ne (fun (e : z = m) => (List.nodup_cons.mp hn).1 (by rw [← e]; exact hz))).mpr (hs z (List.mem_cons_of_mem _ hz)))
    rw [List.length_erase_of_mem hm] at this
    have : 0 < ks.length := List.length_pos_of_mem hm
    rw [List.length_cons]
    omega
theorem pigeon_all {α : Type} [DecidableEq α] {ms ks : List α} (hn : ms.Nodup) (hs : ∀ z ∈ ms, z ∈ ks) (hl : ms.length = ks.length) : ∀ z ∈ ks, z ∈ ms := by
  intro z hz
  refine Decidable.byContradiction fun hc => ?_
  have := pigeon ms (ks.erase z) hn (fun y hy => (List.mem_erase_of_ne (fun (e : y = z) => hc (by rw [← e]; exact hy))).mpr (hs y hy))
  rw [List.length_erase_of_mem hz] at this
  have : 0 < ks.length := List.length_pos_of_mem hz
  omega
def ArcInv (ks la : List Str) (s : Nat × List Str) : Prop :=
  (∀ z ∈ s.2, z ∈ ks) ∧ s.2.Nodup ∧ (∀ o : List Str, (∀ z ∈ o, z ∈ ks) → o.length ≤ s.1 → o.Sublist la) ∧ ∀ (o : List Str) (y : Str), (∀ z ∈ o, z ∈ ks) → y ∈ s.2 → o.length ≤ s.1 → (o ++ [y]).Sublist la
theorem arc_step {ks la : List Str} {s : Nat × List Str} {z : Str} (h : ArcInv ks la s) (hz : z ∈ ks) : ArcInv ks (la ++ [z]) (archStep ks.length s z) := by
  obtain ⟨h1, h2, h3, h4⟩ := h
  have up : la.Sublist (la ++ [z]) := List.sublist_append_left _ _
  have key : ∃ ms, ms = (if z ∈ s.2 then s.2 else s.2 ++ [z]) ∧ (∀ y ∈ ms, y ∈ ks) ∧ ms.Nodup ∧ ∀ (o : List Str) (y : Str), (∀ z ∈ o, z ∈ ks) → y ∈ ms → o.length ≤ s.1 → (o ++ [y]).Sublist (la ++ [z]) := by
    refine ⟨_, rfl, ?_⟩
    by_cases e : z ∈ s.2
    · rw [if_pos e]
      exact ⟨h1, h2, fun o y ho hy hl => (h4 o y ho hy hl).trans up⟩
    · rw [if_neg e]
      refine ⟨fun y hy => ?_, ?_, fun o y ho hy hl => ?_⟩
      · rcases List.mem_append.mp hy with hy | hy
        · exact h1 y hy
        · rw [List.mem_singleton.mp hy]; exact hz
      · rw [List.nodup_append]
        refine ⟨h2, by simp, fun a ha b hb e' => e ?_⟩
        rw [← List.mem_singleton.mp hb, ← e']
        exact ha
      · rcases List.mem_append.mp hy with hy | hy
        · exact (h4 o y ho hy hl).trans up
        · rw [List.mem_singleton.mp hy]
          exact (h3 o ho hl).append (List.Sublist.refl _)
  obtain ⟨ms, em, k1, k2, k3⟩ := key
  have es : archStep ks.length s z = if ms.length = ks.length then (s.1 + 1, []) else (s.1, ms) := by rw [em]; rfl
  rw [es]
  by_cases e : ms.length = ks.length
  · rw [if_pos e]
    refine ⟨fun _ h => absurd h (List.not_mem_nil), List.nodup_nil, fun o ho hl => ?_, fun _ _ _ h => absurd h (List.not_mem_nil)⟩
    rcases List.eq_nil_or_concat o with e0 | ⟨o', y, e0⟩
    · rw [e0]; exact List.nil_sublist _
    · subst e0
      rw [List.concat_eq_append, List.length_append] at hl
      rw [List.concat_eq_append] at ho ⊢
      have hl' : o'.length ≤ s.1 := Nat.le_of_succ_le_succ hl
      exact k3 o' y (fun z hz => ho z (List.mem_append_left _ hz)) (pigeon_all k2 k1 e y (ho y (List.mem_append_right _ (List.mem_singleton.mpr rfl)))) hl'
  · rw [if_neg e]
    exact ⟨k1, k2, fun o ho hl => (h3 o ho hl).trans up, k3⟩
theorem arc_fold {ks : List Str} : ∀ (lb la : List Str) (s : Nat × List Str), ArcInv ks la s → (∀ z ∈ lb, z ∈ ks) → ArcInv ks (la ++ lb) (lb.foldl (archStep ks.length) s) := by
  intro lb
  induction lb with
  | nil => intro la s h _; rw [List.append_nil]; exact h
  | cons z lb ih =>
    intro la s h hb
    have := ih (la ++ [z]) _ (arc_step h (hb z List.mem_cons_self)) (fun y hy => hb y (List.mem_cons_of_mem _ hy))
    rw [List.append_assoc] at this
    exact this
theorem arches_sub {ks la o : List Str} (hla : ∀ z ∈ la, z ∈ ks) (ho : ∀ z ∈ o, z ∈ ks) (hl : o.length ≤ arches ks.length la) : o.Sublist la := by
  have := arc_fold la [] (0, []) ⟨fun _ h => absurd h (List.not_mem_nil), List.nodup_nil, fun o _ h => ?_, fun _ _ _ h => absurd h (List.not_mem_nil)⟩ hla
  · exact this.2.2.1 o ho hl
  · have e : o = [] := List.length_eq_zero_iff.mp (Nat.le_zero.mp h)
    rw [e]
    exact List.Sublist.refl _
theorem arches_le (K : Nat) (la : List Str) : arches K la ≤ la.length := by
  have : ∀ (la : List Str) (s : Nat × List Str), (la.foldl (archStep K) s).1 ≤ s.1 + la.length := by
    intro la
    induction la with
    | nil => intro s; exact Nat.le_refl _
    | cons z la ih =>
      intro s
      have h := ih (archStep K s z)
      have h2 : (archStep K s z).1 ≤ s.1 + 1 := by
        unfold archStep
        dsimp only
        split
        · split <;> simp
        · split <;> simp
      rw [List.foldl_cons, List.length_cons]
      omega
  have h := this la (0, [])
  unfold arches
  omega
/-! the words -/
theorem words_in (ks : List Str) (hk : ∀ c ∈ ks, signs c = [c]) (n : Nat) : ∀ x ∈ wordsOf ks n, (∀ z ∈ signs x, z ∈ ks) ∧ (signs x).length = n := by
  induction n with
  | zero =>
    intro x hx
    rw [List.mem_singleton.mp hx]
    exact ⟨fun _ h => absurd h (List.not_mem_nil), rfl⟩
  | succ n ih =>
    intro x hx
    unfold wordsOf grow at hx
    obtain ⟨o, ho, hx⟩ := List.mem_flatMap.mp hx
    obtain ⟨c, hc, rfl⟩ := List.mem_map.mp hx
    obtain ⟨h1, h2⟩ := ih o ho
    rw [signs_append, hk c hc]
    refine ⟨fun z hz => ?_, by rw [List.length_append, h2]; rfl⟩
    rcases List.mem_append.mp hz with hz | hz
    · exact h1 z hz
    · rw [List.mem_singleton.mp hz]; exact hc
/-- 1 for a word that is no subsequence -/
def nos (w x : Str) : Nat := if (signs x).Sublist (signs w) then 0 else 1
theorem lcs_nos {ks w o : Str} (hw : ∀ z ∈ signs w, z ∈ signs ks) (ho : o ∈ wordsOf (signs ks) (1 + arches ks.length (signs w))) :
    ((lcs o w).length = arches ks.length (signs w) ∨ (lcs o w).length = 1 + arches ks.length (signs w)) ∧ 1 + arches ks.length (signs w) - (lcs o w).length = nos w o := by
  obtain ⟨h1, h2⟩ := words_in (signs ks) (fun c h => signs_self h) _ o ho
  obtain ⟨b1, b2, b3, b4⟩ := tb_best o w
  have el : (tb (signs o) (signs w) o.length w.length (Str.ofString "")) = lcs o w := rfl
  rw [el] at b1 b2 b3 b4
  have up : (lcs o w).length ≤ 1 + arches ks.length (signs w) := by
    have := b1.length_le
    rw [signs_length, h2] at this
    exact this
  have lo : arches ks.length (signs w) ≤ (lcs o w).length := by
    have hsub : ((signs o).take (arches ks.length (signs w))).Sublist (signs o) := List.take_sublist _ _
    have hlen : ((signs o).take (arches ks.length (signs w))).length = arches ks.length (signs w) := by
      rw [List.length_take, h2]; omega
    have := b4 _ hsub (arches_sub (ks := signs ks) hw (fun z hz => h1 z (hsub.subset hz)) (by rw [hlen, signs_length]; exact Nat.le_refl _))
    rw [hlen] at this
    exact this
  refine ⟨by omega, ?_⟩
  unfold nos
  by_cases e : (signs o).Sublist (signs w)
  · rw [if_pos e]
    have := b4 _ (List.Sublist.refl _) e
    rw [h2] at this
    omega
  · rw [if_neg e]
    by_cases e2 : (lcs o w).length = 1 + arches ks.length (signs w)
    · refine absurd ?_ e
      have e3 : signs (lcs o w) = signs o := b1.eq_of_length (by rw [signs_length, e2, h2])
      rw [e3] at b2
      exact b2
    · omega
/-! counting by the first letter -/
theorem sum_map_add {α : Type} (l : List α) (f g : α → Nat) : (l.map fun x => f x + g x).sum = (l.map f).sum + (l.map g).sum := by
  induction l with
  | nil => rfl
  | cons a l ih => simp only [List.map_cons, List.sum_cons, ih]; omega
theorem sum_comm {α β : Type} (l : List α) (m : List β) (f : α → β → Nat) : (l.map fun x => (m.map fun y => f x y).sum).sum = (m.map fun y => (l.map fun x => f x y).sum).sum := by
  induction l with
  | nil =>
    simp only [List.map_nil, List.sum_nil]
    induction m with
    | nil => rfl
    | cons b m ih => simp only [List.map_cons, List.sum_cons, ← ih]; rfl
  | cons a l ih => simp only [List.map_cons, List.sum_cons, ih, sum_map_add]
theorem sum_flat {α : Type} (l : List α) (g : α → List Str) (f : Str → Nat) : ((l.flatMap g).map f).sum = (l.map fun x => ((g x).map f).sum).sum := by
  induction l with
  | nil => rfl
  | cons a l ih => simp only [List.flatMap_cons, List.map_append, List.sum_append_nat, List.map_cons, List.sum_cons, ih]
theorem sum_words (ks : List Str) (n : Nat) : ∀ f : Str → Nat, ((wordsOf ks (n + 1)).map f).sum = (ks.map fun c => ((wordsOf ks n).map fun x => f (c ++ x)).sum).sum := by
  have e0 : ∀ c : Str, Str.ofString "" ++ c = c := fun c => by
    have := PySem.Str.cps_append (Str.ofString "") c
    cases c
    rename_i a
    show (⟨_⟩ : Str) = _
    congr 1
    exact Array.empty_append
  have e1 : ∀ c : Str, c ++ Str.ofString "" = c := fun c => by
    cases c
    rename_i a
    show (⟨_⟩ : Str) = _
    congr 1
  have ea : ∀ a b c : Str, (a ++ b) ++ c = a ++ (b ++ c) := fun a b c => by
    show (⟨(a.cps ++ b.cps) ++ c.cps⟩ : Str) = ⟨a.cps ++ (b.cps ++ c.cps)⟩
    rw [Array.append_assoc]
  induction n with
  | zero =>
    intro f
    simp only [wordsOf, grow, List.flatMap_cons, List.flatMap_nil, List.append_nil, List.map_map, List.map_cons, List.map_nil, List.sum_cons, List.sum_nil, Nat.add_zero, e1]
    congr 1
    refine List.map_congr_left fun c _ => ?_
    show f (Str.ofString "" ++ c) = f c
    rw [e0]
  | succ n ih =>
    intro f
    rw [wordsOf, grow, sum_flat]
    simp only [List.map_map]
    have := ih fun o => (ks.map fun d => f (o ++ d)).sum
    rw [show (wordsOf ks (n + 1)).map (fun x => (ks.map (f ∘ fun x_1 => x ++ x_1)).sum) = (wordsOf ks (n + 1)).map (fun o => (ks.map fun d => f (o ++ d)).sum) from rfl, this]
    congr 1
    refine List.map_congr_left fun c _ => ?_
    rw [show wordsOf ks (n + 1) = grow (wordsOf ks n) ks from rfl, grow, sum_flat]
    simp only [List.map_map, ea]
    rfl
theorem at_one (w : Str) (n i : Nat) : StrLaws.At w ⟨#[n]⟩ w.length i ↔ w.cps.toList[i]? = some n := by
  unfold StrLaws.At
  rw [StrLaws.subAt_eq]
  have e : w.cps.toList[i]? = (w.cps.toList.drop i)[0]? := by rw [List.getElem?_drop]; rfl
  rw [e]
  have hl : w.length = w.cps.toList.length := rfl
  have h1 : (⟨#[n]⟩ : Str).length = 1 := rfl
  rw [h1]
  cases h : w.cps.toList.drop i with
  | nil => simp
  | cons a r =>
    have : i < w.cps.toList.length := by
      have := congrArg List.length h
      rw [List.length_drop, List.length_cons] at this
      omega
    have e2 : i + 1 ≤ w.length := this
    simp [e2]
theorem cons_sub {c : Str} {x v : List Str} : ∀ u : List Str, c ∉ u → ((c :: x).Sublist (u ++ c :: v) ↔ x.Sublist v) := by
  intro u
  induction u with
  | nil => intro _; exact List.cons_sublist_cons
  | cons d u ih =>
    intro h
    rw [List.cons_append, List.sublist_cons_iff, ih (fun h' => h (List.mem_cons_of_mem _ h'))]
    constructor
    · rintro (h1 | ⟨r, e, -⟩)
      · exact h1
      · exact absurd ((List.cons.inj e).1 ▸ List.mem_cons_self) h
    · exact .inl
theorem find_first (w : Str) (n : Nat) : (Txt.find w ⟨#[n]⟩ < 0 ∧ (⟨#[n]⟩ : Str) ∉ signs w) ∨
    (0 ≤ Txt.find w ⟨#[n]⟩ ∧ ∃ u, signs w = u ++ (⟨#[n]⟩ : Str) :: signs (Txt.slice w (some (Txt.find w ⟨#[n]⟩ + 1)) none) ∧ (⟨#[n]⟩ : Str) ∉ u) := by
  have inj : ∀ a : Nat, (⟨#[a]⟩ : Str) = ⟨#[n]⟩ → a = n := fun a h => by
    injection h with h
    have := congrArg Array.toList h
    exact (List.cons.inj this).1
  rcases find_whole w ⟨#[n]⟩ with ⟨e, h⟩ | ⟨i, e, h, hn⟩
  · left
    rw [e]
    refine ⟨by decide, fun hc => ?_⟩
    obtain ⟨a, ha, ea⟩ := List.mem_map.mp hc
    obtain ⟨k, hk, ek⟩ := List.mem_iff_getElem.mp ha
    refine h k ((at_one w n k).mpr ?_)
    rw [List.getElem?_eq_getElem hk, ek, inj a ea]
  · right
    rw [e]
    refine ⟨Int.natCast_nonneg i, w.cps.toList.take i |>.map (fun a => (⟨#[a]⟩ : Str)), ?_, fun hc => ?_⟩
    · rw [at_one] at h
      have hi : i < w.cps.toList.length := by
        rcases Nat.lt_or_ge i w.cps.toList.length with h' | h'
        · exact h'
        · rw [List.getElem?_eq_none h'] at h; cases h
      have hw : (w.length : Int) = w.cps.toList.length := rfl
      rw [slice_from_eq (b := w.length) (by omega) (by rw [hw]; omega) rfl]
      have e1 : ((i : Int) + 1).toNat = i + 1 := by omega
      have e2 : ((w.length : Int) - ((i : Int) + 1)).toNat = w.cps.toList.length - (i + 1) := by rw [hw]; omega
      rw [e1, e2]
      unfold signs
      dsimp only
      have e3 : (w.cps.toList.drop (i + 1)).take (w.cps.toList.length - (i + 1)) = w.cps.toList.drop (i + 1) := List.take_of_length_le (by rw [List.length_drop]; exact Nat.le_refl _)
      rw [List.getElem?_eq_getElem hi] at h
      have e4 : w.cps.toList = w.cps.toList.take i ++ n :: w.cps.toList.drop (i + 1) := by
        rw [← Option.some.inj h, List.getElem_cons_drop, List.take_append_drop]
      rw [e3]
      have e5 := congrArg (List.map fun a => (⟨#[a]⟩ : Str)) e4
      rw [List.map_append, List.map_cons] at e5
      exact e5
    · obtain ⟨a, ha, ea⟩ := List.mem_map.mp hc
      obtain ⟨k, hk, ek⟩ := List.mem_iff_getElem.mp ha
      rw [List.length_take] at hk
      refine hn k (by omega) ((at_one w n k).mpr ?_)
      rw [List.getElem_take] at ek
      rw [List.getElem?_eq_getElem (by omega), ek, inj a ea]
/-- the program's count is the count of the words that are no subsequence -/
theorem lack_eq (x : Str) (n : Nat) : ∀ w : Str, lack (signs x) n w = ((wordsOf (signs x) n).map (nos w)).sum := by
  induction n with
  | zero =>
    intro w
    have e : nos w (Str.ofString "") = 0 := if_pos (List.nil_sublist _)
    simp only [lack, wordsOf, List.map_cons, List.map_nil, List.sum_cons, List.sum_nil, e]
    rfl
  | succ n ih =>
    intro w
    rw [lack_succ, sum_words]
    congr 1
    refine List.map_congr_left fun c hc => ?_
    obtain ⟨k, -, rfl⟩ := List.mem_map.mp hc
    unfold lackF
    rcases find_first w k with ⟨h, hk⟩ | ⟨h, u, hu, hk⟩
    · rw [if_pos h, ← wordsOf_length]
      have : ∀ l : List Str, l.length = (l.map fun y => nos w ((⟨#[k]⟩ : Str) ++ y)).sum := by
        intro l
        induction l with
        | nil => rfl
        | cons y l ihl =>
          rw [List.map_cons, List.sum_cons, ← ihl, List.length_cons]
          unfold nos
          rw [if_neg (fun hs => hk (hs.subset (by rw [signs_append]; exact List.mem_append_left _ List.mem_cons_self)))]
          omega
      exact this _
    · rw [if_neg (by omega), ih]
      congr 1
      refine List.map_congr_left fun y _ => ?_
      unfold nos
      rw [signs_append, hu]
      have e : (signs ⟨#[k]⟩ ++ signs y) = (⟨#[k]⟩ : Str) :: signs y := rfl
      rw [e]
      congr 1
      exact propext (cons_sub u hk).symm
/-- the law, plainly -/
theorem lack_law {ks w : Str} (hw : ∀ z ∈ signs w, z ∈ signs ks) :
    ((wordsOf (signs ks) (1 + arches ks.length (signs w))).map fun o => 1 + arches ks.length (signs w) - (lcs o w).length).sum = lack (signs ks) (1 + arches ks.length (signs w)) w := by
  rw [lack_eq]
  congr 1
  exact List.map_congr_left fun o ho => (lcs_nos hw ho).2
end Mine
end
section
open PySem PySem.W PyProof.Rows
set_option Elab.async false
set_option maxRecDepth 100000
set_option maxHeartbeats 0
set_option linter.unusedVariables false
namespace Mine
local macro_rules | `(tactic| walk_at "exec For Name Name cons nil") => `(tactic| (k_here; (rename Fr _ _ _ _ => lF'); (with_unfolding_all refine' For_invVF lF' ?k1 ?k2 ?_; (case k1 => exact rfl); (case k2 => exact rfl); k_whole)))
local macro_rules | `(tactic| walk_at "exec For Name Call cons nil") => `(tactic| (k_here; (rename Fr _ _ _ _ => lF'); (with_unfolding_all refine' For_invVF lF' ?k1 ?k2 ?_; (case k1 => exact rfl); (case k2 => exact rfl); k_whole)))
local macro_rules | `(tactic| walk_at "pyIter ref") => `(tactic| (refine Stop.out ?_))
local macro_rules | `(tactic| walk_at "InvPostG") => `(tactic| (refine Stop.out ?_))
local macro_rules | `(tactic| walk_at "CompSrc") => `(tactic| (refine Stop.out ?_))
local macro_rules | `(tactic| walk_at "eval ListComp") => `(tactic| (k_here; k_dflt (refine LCg.ListComp_U (F₀ := by k_asm) (by with_unfolding_all rfl) (by decide) (by rfl) (by decide) (by rfl) ?_)))
local macro_rules | `(tactic| walk_at "call builtin:str.join") => `(tactic| (k_here; k_dflt (refine' join_word ?k1 ?k2 ?k3 ?k4 ?k5 ?_; (case k1 => k_asm); (case k2 => k_mem); (case k3 => assumption); (case k4 => assumption); (case k5 => assumption); k_whole); intro xw tw kw hxw hxl))
local macro_rules | `(tactic| walk_at "call ref") => `(tactic| (k_here; (with_reducible show wpAny _ _ (call (Value.ref 235) [_, _]) _ _ _); k_dflt (refine' arch_rule ?k1 ?k2 ?k3 ?k4 ?k5 ?k6 ?k7 ?k8 ?k9 ?_; (case k1 => k_asm); (case k2 => k_asm); (case k3 => k_asm); (case k4 => k_asm); (case k5 => k_asm); (case k6 => first | exact rfl | assumption); (case k7 => exact ⟨by omega, by omega⟩); (case k8 => ktr_room); (case k9 => ktr_units); k_whole); intro t9 h9 tk9 F9 N9; (try dsimp only); (try k_fold)))
local macro_rules | `(tactic| walk_at "getAttr ref") => `(tactic| (k_here; (with_reducible show wpAny _ _ (getAttr (Value.ref _) (PySem.Str.ofString "_ident") _) _ _ _); k_dflt (refine' get_sm ?k1 ?k2 ?k4 ?k5 ?k6 ?k7 ?k9 ?k10 ?k11 ?k12 ?k13 ?k14 ?_; (case k1 => k_asm); (case k2 => k_asm); (case k4 => k_inst); (case k5 => k_is); (case k6 => k_is); (case k7 => k_is); (case k9 => k_is); (case k10 => k_is); (case k11 => decide +kernel); (case k12 => k_get); (case k13 => k_is); (case k14 => k_handed); k_whole)))
local macro_rules | `(tactic| walk_at "CompEnd") => `(tactic| (refine Stop.out ?_))
local macro_rules | `(tactic| walk_at "storeName") => `(tactic| ((fail_if_success (have : Mark 1 := by assumption)); refine Stop.out ?_))
local macro_rules | `(tactic| walk_at "exec Assign cons ListComp") => `(tactic| ((have : Mark 2 := by assumption); refine Stop.out ?_))
local macro_rules | `(tactic| walk_at "call ref") => `(tactic| ((with_reducible show wpAny _ _ (call (Value.ref 242) [_, _, _]) _ _ _); refine Stop.out ?_))
local macro_rules | `(tactic| walk_at "compareOp NotIn int ref") => `(tactic| (refine Stop.out ?_))
local macro_rules | `(tactic| walk_at "call ref") => `(tactic| ((with_reducible show wpAny _ _ (call (Value.ref 222) [_, _, _]) _ _ _); refine Stop.out ?_))
def LackSumJ (z : Nat) (f : Str → Nat) (ws : List Str) (m₀ : Str → Option Value) (NL : List (Addr × Obj)) (i : Nat) (m : Str → Option Value) (nx : List (Addr × Obj)) : Prop :=
  nx = NL ∧ (∃ t, m (Str.ofString "lacking") = some (.int (((ws.take i).map f).sum : Nat) t)) ∧ ∀ z, [Str.ofString "lacking", Str.ofString "other", Str.ofString "shared"].contains z = false → m z = m₀ z
theorem lsum_end {h₀ h' : Heap} {L : Addr} {i tk : Nat} {ws : List Str} {f : Str → Nat} {c : Str} {nx own own₀ led : List (Addr × Obj)} {m₀ m' : Str → Option Value} {v : Int} {t : Tok} {s₁ : Shared} {Q : Flow → Shared → Prop}
    (hc : ws[i]? = some c) (F : Fr h₀ L h' m') (N : News h₀ L h' led) (hk : ∀ p ∈ nx ++ own₀, p ∈ led) (hs : ∀ p ∈ own, p ∈ own₀) (hoff : OwnOff own (nx.map (·.1)))
    (ht : m' (Str.ofString "lacking") = some (.int v t)) (hv : v = ((((ws.take i).map f).sum : Nat) : Int) + (f c : Nat)) (hrest : ∀ z, [Str.ofString "lacking", Str.ofString "other", Str.ofString "shared"].contains z = false → m' z = m₀ z) :
    InvPostG h₀ L (LackSumJ 0 f ws m₀ nx (i + 1)) own s₁ Q .next { s₁ with heap := h', toks := tk } := by
  refine InvEndG.intro F (fun p hp => N p (hk p ((List.mem_append.mp hp).elim (List.mem_append_left _) fun q => List.mem_append_right _ (hs p q)))) (nx := nx) ⟨rfl, ⟨t, ?_⟩, hrest⟩ hoff (fun p hp => List.mem_append_left _ hp) (fun p hp => List.mem_append_right _ hp)
  rw [ht, hv, sum_take_succ hc]
  push_cast
  rfl
theorem main : PySem.Challenge.rw_dr5025_02.Holds := by
  refine hd ?_
  k_go0
  all_goals (try k_fold)
  k_steps
  refine Stop.mk ?_
  rename_i hr F1 N1 hk1
  refine LCg.CompSrc.range (n := 10) (by rfl) F1 N1 hr (small_one (by omega) (by omega) (by omega) (by omega)) (by rfl) (by rw [PySem.sizeLine_eq]; omega) ?_
  intro g2
  refine comp_inv (fun i ys nx => nx = _ ∧ ∃ ds : List Int, ds.length = i ∧ IntsAre ys ds) ?turn ⟨rfl, [], rfl, .nil⟩ ?fin
  case turn =>
    intro i v I oI C oC D m₂ ys nx h2 tk2 E' hi hv hJ hC hx F2 N2 off ne
    obtain ⟨hnx, ds, hds, hys⟩ := hJ
    subst hnx
    obtain ⟨t, rfl⟩ := hv
    k_steps
    · refine Stop.mk ?_
      rename Fr _ _ _ _ => F3
      refine LCg.CompEnd.intro F3 N2 _ (fun p hp => hp) off True.intro ⟨rfl, ds ++ [_], by simp [hds], IntsAre.append hys (.cons _ _ .nil)⟩
    · refine Stop.mk ?_
      rename Fr _ _ _ _ => F3
      refine LCg.CompEnd.intro F3 N2 _ (fun p hp => hp) off True.intro ⟨rfl, ds ++ [_], by simp [hds], IntsAre.append hys (.cons _ _ .nil)⟩
  case fin =>
    intro ys nx hJ
    obtain ⟨hnx, ds, hds, hys⟩ := hJ
    subst hnx
    intro D5 h5 tk5 F5 N5 o15
    k_steps
    refine Stop.mk ?_
    have mk1 : Mark 1 := ⟨⟩
    have hks : Txt.slice (Str.ofString "abc") none (some (2 + (ds.getD (Int.toNat 0) 0).fmod 2)) = Str.ofString "ab" ∨ Txt.slice (Str.ofString "abc") none (some (2 + (ds.getD (Int.toNat 0) 0).fmod 2)) = Str.ofString "abc" := by
      have h1 := fmod_lo (ds.getD (Int.toNat 0) 0) (n := 2) (by decide)
      have h2 := fmod_hi (ds.getD (Int.toNat 0) 0) (n := 2) (by decide)
      have h3 : (ds.getD (Int.toNat 0) 0).fmod 2 = 0 ∨ (ds.getD (Int.toNat 0) 0).fmod 2 = 1 := by omega
      rcases h3 with h | h
      · rw [h]; left; decide +kernel
      · rw [h]; right; decide +kernel
    generalize Txt.slice (Str.ofString "abc") none (some (2 + (ds.getD (Int.toNat 0) 0).fmod 2)) = ks at hks ⊢
    have hkl : ks.length = 2 ∨ ks.length = 3 := by
      rcases hks with rfl | rfl
      · left; decide +kernel
      · right; decide +kernel
    have hf0 : 0 ≤ (ds.getD (Int.toNat 1) 0).fmod (5 + (ks.length : Int)) := Int.fmod_nonneg_of_pos _ (by omega)
    have hf1 : (ds.getD (Int.toNat 1) 0).fmod (5 + (ks.length : Int)) < 5 + (ks.length : Int) := Int.fmod_lt_of_pos _ (by omega)
    k_steps
    refine Stop.mk ?_
    rename_i D6 ws6 h6 F6 N6 l6 hI6 hC6 hL6
    generalize List.take (min (3 + (ds.getD 1 0).fmod (5 + (ks.length : Int))).toNat ds.length - 2) (List.drop 2 ds) = dz at hI6 hC6 hL6
    simp only [List.cons_append, List.nil_append] at N6 l6
    have hwl : ws6.length = dz.length := hI6.length
    refine LCg.CompSrc.ledger (by rfl) F6 N6 List.mem_cons_self (by rw [PySem.sizeLine_eq, List.size_toArray]; omega) ?_
    intro g3
    refine comp_inv (fun i yv nx => nx = _ ∧ ∃ cs : List Str, cs.length = i ∧ StrsAre yv cs ∧ ∀ c ∈ cs, c ∈ signs ks) ?turn2 ⟨rfl, [], rfl, .nil, by simp⟩ ?fin2
    case turn2 =>
      intro i v I oI C oC D m₂ yv nx h2 tk2 E' hi hv hJ hC hx F2 N2 off ne
      obtain ⟨hnx, cs, hcs, hys, hcm⟩ := hJ
      subst hnx
      obtain ⟨n, t, rfl, hn⟩ := IntsAre.at hI6 i v (by simpa using hv)
      have hg0 : 0 ≤ n.fmod (ks.length : Int) := Int.fmod_nonneg_of_pos _ (by omega)
      have hg1 : n.fmod (ks.length : Int) < (ks.length : Int) := Int.fmod_lt_of_pos _ (by omega)
      k_steps
      refine Stop.mk ?_
      rename Fr _ _ _ _ => F3
      refine LCg.CompEnd.intro F3 N2 _ (fun p hp => hp) off (.inr ⟨_, List.mem_cons_self, rfl, _, rfl⟩) ⟨rfl, cs ++ [_], by simp [hcs], hys.append' (.cons _ _ .nil), ?_⟩
      intro c hc
      rcases List.mem_append.mp hc with hc | hc
      · exact hcm c hc
      · rw [List.mem_singleton.mp hc]
        exact item_sign hg0 hg1
    case fin2 =>
      intro yv nx hJ
      obtain ⟨hnx, cs, hcs, hys, hcm⟩ := hJ
      subst hnx
      intro D7 h7 tk7 F7 N7 o17
      rw [List.size_toArray] at hcs
      have hc1 : ∀ c ∈ cs, c.length = 1 := fun c hc => sign_one (hcm c hc)
      have hcl : cs.length ≤ 1000 := by omega
      k_steps
      refine Stop.mk ?_
      rename_i tK _ _ oK hoK _ xw tw kw hxw hxl _ _ _ _ t9 h9 tk9 _ _ lW _ lt1 xI dI _ lt2 lt3 _ _ _ _ _ _ _ _ _ _ _ _ _ _ _ _ kX D8 _ lt4 _ _ _ _ _ _ _ hR tkR t1 u1 v1 hr F1 N1 _
      have hcs : ∀ z ∈ signs xw, z ∈ signs ks := by rw [hxw]; exact hcm
      have ha10 : arches ks.length (signs xw) ≤ 10 := by
        have := arches_le ks.length (signs xw)
        rw [signs_length] at this
        omega
      have mk2 : Mark 2 := ⟨⟩
      replace N1 := cb_drop (news := (lW, listOf #[Value.str (Str.ofString "") (tk9 + 1)] 0) :: _) N1 (List.forall_mem_cons.mpr ⟨by k_mem, fun p hp => hp⟩)
      refine range_invN (n := 1 + arches ks.length (signs xw)) (fun m₀ NL => WordsJ (signs ks) m₀ NL.tail) (by rfl) hr (small_one (by omega) (by omega) (by omega) (by omega)) (by rw [rangeSize_nat]; omega) F1 N1 ?j0 ?jturn ?jdone
      case j0 => exact ⟨lW, [Value.str (Str.ofString "") (tk9 + 1)], 0, rfl, .cons _ _ .nil, rfl, fun _ _ => rfl⟩
      case jturn =>
        intro i t m₁ nx h2 tk2 own hi hoff hJ F2 N2
        obtain ⟨D, vs, k, hnx, hS, hmw, hz⟩ := hJ
        rw [List.tail_cons] at hnx
        subst hnx
        obtain ⟨u, F3⟩ := fr_puts [(Str.ofString "words", Value.ref D)] F2 (by simp [hmw]) hz
        k_steps
        refine Stop.mk ?_
        refine' Assign_two (ax := D) (oc := oK) (vs := vs) (k := k) (ws := wordsOf (signs ks) i) (kt := ks) (tkt := tK) F3 N2 rfl (by rfl) (by with_unfolding_all rfl) (by with_unfolding_all rfl) (by decide) (by rfl) (by decide) (by rfl) (by rfl) (by decide) (by rfl) (by rfl) ?h1 List.mem_cons_self hS ?hc (words_size hkl (by omega)) ?h2 ?helt ?hQ (by intro _; rfl) (by intro _ _; rfl)
        case hc => (refine List.mem_append_left _ ?_; k_mem)
        case h1 => exact fun Q' hq => wpAny_Name (wpAny_loadName_local rfl rfl F3.ns rfl hq) (by decide)
        case h2 => exact fun C s₂ Q' E' hget hq => wpAny_Name (wpAny_loadName_cell rfl rfl rfl ⟨oK, hget, hoK⟩ hq) (by decide)
        case helt =>
          intro C s₂ m₂ o cc t t' E' hn hx hy ho hcc
          have hol := wordsOf_one (signs_one ks) i o ho
          have hcl := signs_one ks cc hcc
          refine wpAny_BinOp (wpAny_Name (wpAny_loadName_local rfl rfl hn hx (wpAny_Name (wpAny_loadName_local rfl rfl hn hy (add_str (fun t' tk => ⟨t', tk, rfl, rfl⟩) ?_)) (by decide))) (by decide))
          rw [hol, hcl, PySem.sizeLine_eq]
          omega
        case hQ =>
          intro D' h3 tk3 zs hzs F4 N4 hfr
          k_steps
          refine Stop.mk ?_
          refine words_end F4 N4 hfr hoff hzs rfl ?hz
          case hz => exact put_out rfl (put_out rfl (puts_out _ rfl ovr_out))
      case jdone =>
        intro m₁ nx h2 tk2 hJ F2 N2
        obtain ⟨D, vs, k, hnx, hS, hmw, hz⟩ := hJ
        rw [List.tail_cons] at hnx
        subst hnx
        obtain ⟨u, F3⟩ := fr_puts0 [(Str.ofString "words", Value.ref D)] F2 (by simp [hmw]) hz
        k_steps
        refine Stop.mk ?_
        rename Fr _ _ _ _ => F1
        refine list_invN (vs := vs) (k := k) (fun m₀ NL => LackSumJ 0 (fun o => 1 + arches ks.length (signs xw) - (lcs o xw).length) (wordsOf (signs ks) (1 + arches ks.length (signs xw))) m₀ NL) (by rfl) F1 N2 List.mem_cons_self ?j0 ?jturn ?jkeep ?jdone
        case j0 => exact ⟨rfl, ⟨_, rfl⟩, fun _ _ => rfl⟩
        case jkeep =>
          intro i m₁ nx hJ
          rw [hJ.1]
          exact List.mem_cons_self
        case jturn =>
          intro i v m₁' nx h3 tk3 own hi hax hoff hJ F2 N3
          obtain ⟨hnx, ⟨tt, htot⟩, hz'⟩ := hJ
          subst hnx
          obtain ⟨o, to, rfl, ho⟩ := hS.item i v hi
          have hol := wordsOf_one (signs_one ks) _ o (List.mem_of_getElem? ho)
          obtain ⟨u', F3⟩ := fr_puts [(Str.ofString "lacking", Value.int ((((wordsOf (signs ks) (1 + arches ks.length (signs xw))).take i).map (fun o => 1 + arches ks.length (signs xw) - (lcs o xw).length)).sum : Nat) tt)] F2 (by simp [htot]) hz'
          obtain ⟨hsz, hnos⟩ := lcs_nos hcs (List.mem_of_getElem? ho)
          have hb : (lcs o xw).length ≤ 11 := by omega
          k_steps
          refine Stop.mk ?_
          refine wpAny_call ?_
          k_dflt (refine' sim_rule ?k1 ?k2 ?k3 ?k4 ?k5 ?k6 ?kx ?kd ?k7 ?kb ?k8 ?k9 ?_)
          case k1 => k_asm
          case k2 => k_asm
          case k3 => k_asm
          case k4 => k_asm
          case k5 => k_asm
          case k6 => first | exact rfl | assumption
          case kx => k_mem
          case kd => k_mem
          case k7 => exact ⟨by omega, by omega⟩
          case kb => omega
          case k8 => ktr_room
          case k9 => ktr_units
          intro t9 h9 tk9 F9 N9
          (try dsimp only)
          (try k_fold)
          k_steps
          refine Stop.mk ?_
          refine notin_tuple_ints (News.isTup (by k_asm) (by k_mem)) (.cons _ _ (.cons _ _ .nil)) ?_
          have hin : ([1 + ((arches ks.length (signs xw) : Nat) : Int) - 1, 1 + ((arches ks.length (signs xw) : Nat) : Int)].any fun x => x == (((lcs o xw).length : Nat) : Int)) = true := by
            rcases hsz with e | e
            · rw [e]; simp; omega
            · rw [e]; simp
          rw [hin]
          k_steps
          refine Stop.mk ?_
          rename Fr _ _ _ _ => F20
          rename News _ _ _ _ => N20
          refine lsum_end (own₀ := own) ho F20 N20 ?hk (fun p hp => (List.mem_filter.mp hp).1) hoff rfl ?hv ?hz
          case hk =>
            intro p hp
            iterate 1 refine List.mem_cons_of_mem _ ?_
            exact hp
          case hz => exact put_out rfl (put_out rfl (put_out rfl (puts_out _ rfl ovr_out)))
          case hv =>
            rcases hsz with e | e
            · rw [e]; push_cast; omega
            · rw [e]; push_cast; omega
        case jdone =>
          intro m₁ nx h2 tk2 hJ F2 N2
          obtain ⟨hnx, ⟨tt, htot⟩, hz⟩ := hJ
          have hSl : vs.length = (wordsOf (signs ks) (1 + arches ks.length (signs xw))).length := hS.length
          rw [hSl, List.take_length] at htot
          subst hnx
          obtain ⟨u, F3⟩ := fr_puts0 [(Str.ofString "lacking", Value.int (((wordsOf (signs ks) (1 + arches ks.length (signs xw))).map (fun o => 1 + arches ks.length (signs xw) - (lcs o xw).length)).sum : Nat) tt)] F2 (by simp [htot]) hz
          k_steps
          refine Stop.mk ?_
          rw [show (1 + ((arches ks.length (signs xw) : Nat) : Int)) = ((1 + arches ks.length (signs xw) : Nat) : Int) by push_cast; rfl]
          k_dflt (refine' lack_rule (n := 1 + arches ks.length (signs xw)) ?k1 ?k2 ?k3 ?k4 ?k5 ?k6 ?k7 ?k8 ?k9 ?k10 ?k11 ?_)
          case k1 => k_asm
          case k2 => k_asm
          case k3 => k_asm
          case k4 => k_asm
          case k5 => k_asm
          case k6 => first | exact rfl | assumption
          case k7 => omega
          case k8 => omega
          case k9 => omega
          case k10 => have : arches ks.length (signs xw) ≤ 10 := ha10; ktr_room
          case k11 => ktr_units
          intro t9 h9 tk9 F9 N9
          (try dsimp only)
          (try k_fold)
          rw [← lack_law hcs]
          k_steps
end Mine
end
theorem PySem.Challenge.cw_dr5025_02_holds : PySem.Challenge.rw_dr5025_02.Holds := by
  exact Mine.main
