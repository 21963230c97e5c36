import PyProof.Rows.All
import Wide.All
import OpenK.AllK
import Wide.FinOn
import Lean
import PySem.Challenge.RW_dr5025_01
set_option Elab.async false
set_option maxRecDepth 100000
set_option maxHeartbeats 0
set_option linter.unusedVariables false
section
set_option Elab.async false
set_option maxRecDepth 100000
namespace Mine
open PySem PySem.W PySem.Calls PyProof.Rows PySem.Spec

def Stop (p : Prop) : Prop := p
theorem Stop.out {p : Prop} (h : Stop p) : p := h
theorem Stop.mk {p : Prop} (h : p) : Stop p := h
structure Mark (n : Nat) : Prop where

/-- an object of the ledger exchanged -/
def setAt (r : Addr) (o : Obj) (news : List (Addr × Obj)) : List (Addr × Obj) := news.map fun p => if p.1 = r then (r, o) else p
theorem setAt_addrs (r : Addr) (o : Obj) (news : List (Addr × Obj)) : (setAt r o news).map (·.1) = news.map (·.1) := by
  unfold setAt
  rw [List.map_map]
  refine List.map_congr_left fun p _ => ?_
  show (if p.1 = r then (r, o) else p).1 = p.1
  split
  · rename_i h; exact h.symm
  · rfl
theorem setAt_ne {r : Addr} {o : Obj} {news : List (Addr × Obj)} {p : Addr × Obj} (h : p ∈ news) (hn : p.1 ≠ r) : p ∈ setAt r o news :=
  List.mem_map.mpr ⟨p, h, if_neg hn⟩
theorem setAt_eq {r : Addr} {o o' : Obj} {news : List (Addr × Obj)} (h : (r, o') ∈ news) : (r, o) ∈ setAt r o news :=
  List.mem_map.mpr ⟨_, h, if_pos rfl⟩
theorem setAt_mem {r : Addr} {o : Obj} {news : List (Addr × Obj)} {p : Addr × Obj} (h : p ∈ setAt r o news) : (p = (r, o) ∧ ∃ o', (r, o') ∈ news) ∨ (p ∈ news ∧ p.1 ≠ r) := by
  obtain ⟨q, hq, e⟩ := List.mem_map.mp h
  by_cases hr : q.1 = r
  · rw [if_pos hr] at e
    exact .inl ⟨e.symm, q.2, by rw [← hr]; exact hq⟩
  · rw [if_neg hr] at e
    exact .inr ⟨e ▸ hq, e ▸ hr⟩
theorem setAt_news {h₀ h h' : Heap} {L r : Addr} {o : Obj} {news : List (Addr × Obj)} (N : News h₀ L h news) (hs : Heap.SameBut r h h') (ho : h'.get? r = some o) : News h₀ L h' (setAt r o news) := by
  intro p hp
  rcases setAt_mem hp with ⟨rfl, o', ho'⟩ | ⟨hp, hn⟩
  · exact ⟨ho, (N _ ho').2⟩
  · exact ⟨(hs.2 p.1 hn).trans (N p hp).1, (N p hp).2⟩

/-- rows of ints on the ledger -/
def IsTab (news : List (Addr × Obj)) (rs : List Addr) (n : Nat) (T : Nat → Nat → Int) : Prop :=
  ∀ i r, rs[i]? = some r → ∃ (vs : List Value) (k : Nat), (r, listOf vs.toArray k) ∈ news ∧ vs.length = n ∧ ∀ j, j < n → ∃ t, vs[j]? = some (Value.int (T i j) t)
theorem IsTab.mono {news news' : List (Addr × Obj)} {rs : List Addr} {n : Nat} {T : Nat → Nat → Int} (h : IsTab news rs n T) (hs : ∀ p ∈ news, p.1 ∈ rs → p ∈ news') : IsTab news' rs n T := fun i r hr =>
  let ⟨vs, k, hm, r1⟩ := h i r hr
  ⟨vs, k, hs _ hm (List.mem_of_getElem? hr), r1⟩
theorem IsTab.congr {news : List (Addr × Obj)} {rs : List Addr} {n : Nat} {T T' : Nat → Nat → Int} (h : IsTab news rs n T) (e : ∀ i j, i < rs.length → j < n → T i j = T' i j) : IsTab news rs n T' := fun i r hr => by
  obtain ⟨vs, k, hm, hl, hv⟩ := h i r hr
  refine ⟨vs, k, hm, hl, fun j hj => ?_⟩
  obtain ⟨t, ht⟩ := hv j hj
  have hi : i < rs.length := (List.getElem?_eq_some_iff.mp hr).1
  exact ⟨t, by rw [← e i j hi hj]; exact ht⟩

section
variable {prog : Program} {w : World} {A : Around} {E : Value → Shared → Prop} {s : Shared} {h₀ : Heap} {L : Addr} {m : Str → Option Value} {news : List (Addr × Obj)}

/-- the row of a list of lists -/
theorem outer_sub {value slice : PySem.Expr} {aL : Addr} {vs : List Value} {n : Nat} {k : Int} {u : Tok} {v : Value} {Q : Value → Shared → Prop} (N : News h₀ L s.heap news) (hm : (aL, listOf vs.toArray n) ∈ news)
    (h0 : 0 ≤ k) (hfit : k < 2 ^ 63) (hx : vs[k.toNat]? = some v) (h : Q v s)
    (hs : subscripted slice false (.ref aL) (.int k u) = operate [.ref aL, .int k u] (getItem (.ref aL) (.int k u)) := by with_unfolding_all rfl) :
    wpAny (model prog w) A (subscriptTail value slice (.ref aL) (.int k u)) Q E s :=
  have hl := PySem.IsL.isList (n := n) (N _ hm).1
  tail_any hl.typeIs slot_list_getitem.lookup (wpAny_getItem_list hl h0 hfit (by simpa using hx) h) hs

theorem tab_sub {value slice : PySem.Expr} {rs : List Addr} {n : Nat} {T : Nat → Nat → Int} {i : Nat} {r : Addr} {k : Int} {u : Tok} {Q : Value → Shared → Prop} (N : News h₀ L s.heap news) (hT : IsTab news rs n T)
    (hr : rs[i]? = some r) (h0 : 0 ≤ k) (hfit : k < 2 ^ 63) (hk : k.toNat < n) (h : ∀ t, Q (.int (T i k.toNat) t) s)
    (hs : subscripted slice false (.ref r) (.int k u) = operate [.ref r, .int k u] (getItem (.ref r) (.int k u)) := by with_unfolding_all rfl) :
    wpAny (model prog w) A (subscriptTail value slice (.ref r) (.int k u)) Q E s := by
  obtain ⟨vs, kk, hm, hl, hv⟩ := hT i r hr
  obtain ⟨t, ht⟩ := hv _ hk
  exact outer_sub N hm h0 hfit ht (h t) hs

theorem tab_set {rs : List Addr} {n : Nat} {T : Nat → Nat → Int} {i : Nat} {r : Addr} {k x : Int} {t u : Tok} {Q : Unit → Shared → Prop} (F : Fr h₀ L s.heap m) (N : News h₀ L s.heap news) (hT : IsTab news rs n T) (hn : rs.Nodup)
    (hr : rs[i]? = some r) (h0 : 0 ≤ k) (hfit : k < 2 ^ 63) (hk : k.toNat < n)
    (h : ∀ h' o, Fr h₀ L h' m → News h₀ L h' (setAt r o news) → IsTab (setAt r o news) rs n (fun a b => if a = i ∧ b = k.toNat then x else T a b) → Q () { s with heap := h' }) :
    wpAny (model prog w) A (setItem (.ref r) (.int k t) (.int x u)) Q E s := by
  obtain ⟨vs, kk, hm, hl, hv⟩ := hT i r hr
  have z := N _ hm
  have hsz : vs.toArray.size = n := by rw [List.size_toArray]; exact hl
  have ho' : (s.heap.update r (Obj.mapSeq (·.setIfInBounds k.toNat (.int x u)))).get? r = some (listOf (vs.set k.toNat (.int x u)).toArray kk) := by
    have q := PySem.IsL.update z.1 (·.setIfInBounds k.toNat (.int x u))
    have e1 : vs.toArray.setIfInBounds k.toNat (.int x u) = (vs.set k.toNat (.int x u)).toArray := by
      apply Array.toList_inj.mp
      simp
    rw [e1] at q
    have e2 : (if (vs.set k.toNat (Value.int x u)).toArray.size == vs.toArray.size then kk else kk + 1) = kk := by simp
    rw [e2] at q
    exact q
  refine ki_setAt z.1 h0 hfit (by rw [hsz]; omega) (h _ (listOf (vs.set k.toNat (.int x u)).toArray kk) (F.change (Heap.SameBut.update ..) z.2.1 z.2.2) (setAt_news N (Heap.SameBut.update ..) ho') ?_)
  intro a ra hra
  obtain ⟨vs', k', hm', hl', hv'⟩ := hT a ra hra
  by_cases ha : a = i
  · subst ha
    have hrr : ra = r := Option.some.inj (hra.symm.trans hr)
    subst hrr
    refine ⟨_, kk, setAt_eq hm, by rw [List.length_set]; exact hl, fun j hj => ?_⟩
    by_cases hjk : j = k.toNat
    · subst hjk
      refine ⟨u, ?_⟩
      rw [List.getElem?_set_self (by omega)]
      simp
    · obtain ⟨t', ht'⟩ := hv j hj
      refine ⟨t', ?_⟩
      rw [List.getElem?_set_ne (by omega), ht']
      simp [hjk]
  · have hne : ra ≠ r := by
      intro e
      subst e
      exact ha ((List.getElem?_inj (List.getElem?_eq_some_iff.mp hra).1 hn).mp (hra.trans hr.symm))
    refine ⟨vs', k', setAt_ne hm' hne, hl', fun j hj => ?_⟩
    obtain ⟨t', ht'⟩ := hv' j hj
    refine ⟨t', ?_⟩
    rw [ht']
    simp [ha]
end

section
variable {prog : Program} {w : World} {A : Around} {h₀ : Heap} {L : Addr} {m : Str → Option Value} {env : Env} {elt : Expr} {x : Str} {scope : Scope} {cl : List (Str × Addr)} {s : Shared} {S : List (Addr × Obj) → Prop} {P : Nat → Value → Prop} {Fin : List Value → List (Addr × Obj) → Prop} {news : List (Addr × Obj)}
/-- a comprehension by an invariant -/
theorem comp_inv {n : Nat} (J : Nat → List Value → List (Addr × Obj) → Prop)
    (turn : ∀ i v I oI C oC D m₂ ys nx h tk (E' : Value → Shared → Prop), i < n → P i v → J i ys nx → LCg.NsObj oC m₂ → m₂ x = some v → Fr h₀ L h m → News h₀ L h ((I, oI) :: (C, oC) :: (D, LCg.lst ys) :: nx) → LCg.Off3 I C D nx → ((@Ne Nat I C) ∧ (@Ne Nat I D) ∧ (@Ne Nat C D)) →
      wpAny (model prog w) A (eval elt (compEnvC scope cl C env)) (LCg.CompEnd h₀ L m { s with heap := h, toks := tk } I oI C oC D (LCg.lst ys) S (fun y nx' => J (i + 1) (ys ++ [y]) nx')) E' { s with heap := h, toks := tk })
    (h0 : J 0 [] news) (fin : ∀ ys nx, J n ys nx → Fin ys nx) : LCg.CompRest prog w A h₀ L m env elt x scope cl s S P Fin n 0 [] news := by
  have key : ∀ (j i : Nat) (ys : List Value) (nx : List (Addr × Obj)), i + j = n → J i ys nx → LCg.CompRest prog w A h₀ L m env elt x scope cl s S P Fin j i ys nx := by
    intro j
    induction j with
    | zero =>
      intro i ys nx hi hy
      have e : i = n := by omega
      subst e
      exact LCg.CompRest.zero (fin ys nx hy)
    | succ j ih =>
      intro i ys nx hi hy
      refine LCg.CompRest.succ ?_
      intro v I oI C oC D m₂ h tk E' hv hC hx F N off ne
      refine wpAny_mono (turn i v I oI C oC D m₂ ys nx h tk E' (by omega) hv hy hC hx F N off ne) (fun y s₂ hq => ?_) fun _ _ e => e
      obtain ⟨h', tk', nw, e, F', N', off', hS, hj⟩ := hq
      exact ⟨h', tk', nw, e, F', N', off', hS, ih (i + 1) _ nw (by omega) hj⟩
  exact key n 0 [] news (by omega) h0
end

/-- the names that a loop stores are forgotten -/
def ovr (st : List Str) (u m : Str → Option Value) : Str → Option Value := fun z => if st.contains z then u z else m z
theorem ovr_self (st : List Str) (m : Str → Option Value) : ovr st m m = m := by
  funext z; unfold ovr; split <;> rfl
theorem ovr_put {st : List Str} {u m : Str → Option Value} {x : Str} {v : Option Value} (hx : st.contains x = true) :
    (fun y => if y = x then v else ovr st u m y) = ovr st (fun y => if y = x then v else u y) m := by
  funext y
  unfold ovr
  by_cases h : y = x
  · subst h
    simp only [if_true]
    rw [hx]; rfl
  · simp [h]
end Mine

namespace Mine
open PySem PySem.W PySem.Calls PyProof.Rows PySem.Spec
/-- what a comprehension of rows has made -/
def RowsJ (n : Nat) (base : List (Addr × Obj)) (i : Nat) (ys : List Value) (nx : List (Addr × Obj)) : Prop :=
  ∃ rs : List Addr, ys = rs.map Value.ref ∧ rs.length = i ∧ rs.Nodup ∧ (∀ r ∈ rs, ∀ p ∈ base, p.1 ≠ r) ∧ (∀ p ∈ base, p ∈ nx) ∧ IsTab nx rs n (fun _ _ => 0)
theorem RowsJ.zero (n : Nat) (base : List (Addr × Obj)) : RowsJ n base 0 [] base := ⟨[], rfl, rfl, List.nodup_nil, by simp, fun _ h => h, fun i r h => by simp at h⟩
theorem IsTab.mem {news : List (Addr × Obj)} {rs : List Addr} {n : Nat} {T : Nat → Nat → Int} (h : IsTab news rs n T) {r : Addr} (hr : r ∈ rs) : ∃ o, (r, o) ∈ news := by
  obtain ⟨i, hi, e⟩ := List.mem_iff_getElem.mp hr
  obtain ⟨vs, k, hm, _⟩ := h i r (by rw [← e]; exact List.getElem?_eq_getElem hi)
  exact ⟨_, hm⟩
theorem RowsJ.succ {n : Nat} {base : List (Addr × Obj)} {i : Nat} {ys : List Value} {nx : List (Addr × Obj)} {r : Addr} {vs : List Value} {k : Nat} (h : RowsJ n base i ys nx) (hlt : ∀ p ∈ nx, p.1 < r) (hl : vs.length = n) (hv : ∀ v ∈ vs, ∃ t, v = .int 0 t) :
    RowsJ n base (i + 1) (ys ++ [.ref r]) ((r, listOf vs.toArray k) :: nx) := by
  obtain ⟨rs, rfl, rfl, hn, hb, hs, hT⟩ := h
  have hne : ∀ r' ∈ rs, r' ≠ r := fun r' hr' e => by
    obtain ⟨o, ho⟩ := hT.mem hr'
    exact absurd (hlt _ ho) (by rw [e]; exact Nat.lt_irrefl _)
  refine ⟨rs ++ [r], by simp, by simp, ?_, ?_, fun p hp => List.mem_cons_of_mem _ (hs p hp), ?_⟩
  · rw [List.nodup_append]
    refine ⟨hn, by simp, fun a ha b hb => ?_⟩
    rw [List.mem_singleton.mp hb]
    exact hne a ha
  · intro r' hr' p hp
    rcases List.mem_append.mp hr' with hr' | hr'
    · exact hb r' hr' p hp
    · rw [List.mem_singleton.mp hr']
      exact Nat.ne_of_lt (hlt p (hs p hp))
  · intro i r' hr'
    by_cases hi : i < rs.length
    · rw [List.getElem?_append_left hi] at hr'
      obtain ⟨vs', k', hm, r2⟩ := hT i r' hr'
      exact ⟨vs', k', List.mem_cons_of_mem _ hm, r2⟩
    · have hi' : i = rs.length := by
        have := (List.getElem?_eq_some_iff.mp hr').1
        simp at this
        omega
      subst hi'
      have : r' = r := by
        rw [List.getElem?_append_right (Nat.le_refl _)] at hr'
        simpa using hr'.symm
      subst this
      refine ⟨vs, k, List.mem_cons_self, hl, fun j hj => ?_⟩
      have hj' : j < vs.length := by omega
      obtain ⟨t, ht⟩ := hv _ (List.getElem_mem hj')
      exact ⟨t, by rw [List.getElem?_eq_getElem hj', ht]⟩
theorem allLt_mem {d : Addr} {l : List (Addr × Obj)} (h : AllLt d l) : ∀ p ∈ l, p.1 < d := by
  induction l with
  | nil => intro p hp; cases hp
  | cons q r ih =>
    intro p hp
    rcases List.mem_cons.mp hp with e | hp
    · rw [e]; exact h.1
    · exact ih h.2 p hp
end Mine

namespace Mine
open PySem PySem.W PySem.Calls PyProof.Rows PySem.Spec
/-- the common row's length, by the grid -/
def dp {α : Type} [DecidableEq α] (a b : List α) : Nat → Nat → Nat
  | 0, _ => 0
  | _ + 1, 0 => 0
  | i + 1, j + 1 => if a[i]? = b[j]? then dp a b i j + 1 else max (dp a b (i + 1) j) (dp a b i (j + 1))
theorem dp_zero_right {α : Type} [DecidableEq α] (a b : List α) (i : Nat) : dp a b i 0 = 0 := by cases i <;> simp [dp]
theorem dp_zero_left {α : Type} [DecidableEq α] (a b : List α) (j : Nat) : dp a b 0 j = 0 := by simp [dp]
/-- the grid when i rows are done and j places of the next -/
def grid {α : Type} [DecidableEq α] (a b : List α) (i j : Nat) : Nat → Nat → Int := fun p q => if p ≤ i ∨ (p = i + 1 ∧ q ≤ j) then (dp a b p q : Int) else 0
theorem grid_zero {α : Type} [DecidableEq α] (a b : List α) (p q : Nat) : (0 : Int) = grid a b 0 0 p q := by
  unfold grid
  split
  · rename_i h
    rcases h with h | ⟨h1, h2⟩
    · have : p = 0 := by omega
      subst this; simp [dp]
    · have : q = 0 := by omega
      subst this; simp [dp_zero_right]
  · rfl
theorem grid_row {α : Type} [DecidableEq α] (a b : List α) (i p q : Nat) (hq : q ≤ b.length) : grid a b i b.length p q = grid a b (i + 1) 0 p q := by
  unfold grid
  by_cases h1 : p ≤ i
  · rw [if_pos (.inl h1), if_pos (.inl (by omega))]
  · by_cases h2 : p = i + 1
    · rw [if_pos (.inr ⟨h2, hq⟩), if_pos (.inl (by omega))]
    · rw [if_neg (by omega)]
      by_cases h3 : p = i + 1 + 1 ∧ q ≤ 0
      · rw [if_pos (.inr h3)]
        have : q = 0 := by omega
        subst this; simp [dp_zero_right]
      · rw [if_neg (by omega)]
theorem grid_step {α : Type} [DecidableEq α] (a b : List α) (i j p q : Nat) (x : Int) (hx : x = dp a b (i + 1) (j + 1)) :
    (if p = i + 1 ∧ q = j + 1 then x else grid a b i j p q) = grid a b i (j + 1) p q := by
  by_cases h : p = i + 1 ∧ q = j + 1
  · rw [if_pos h, hx, h.1, h.2]
    unfold grid
    rw [if_pos (.inr ⟨rfl, Nat.le_refl _⟩)]
  · rw [if_neg h]
    unfold grid
    by_cases h1 : p ≤ i ∨ (p = i + 1 ∧ q ≤ j)
    · rw [if_pos h1, if_pos (by omega)]
    · rw [if_neg h1, if_neg (by omega)]
theorem grid_old {α : Type} [DecidableEq α] (a b : List α) (i j p q : Nat) (h : p ≤ i ∨ (p = i + 1 ∧ q ≤ j)) : grid a b i j p q = dp a b p q := if_pos h

theorem ovr_of {st : List Str} {m m₀ : Str → Option Value} (h : ∀ z, st.contains z = false → m z = m₀ z) : m = ovr st m m₀ := by
  funext z
  unfold ovr
  cases e : st.contains z with
  | true => rfl
  | false => exact h z e

/-- between the turns of a loop that fills rows -/
def TabJ (st : List Str) (m₀ : Str → Option Value) (nx₀ : List (Addr × Obj)) (rs : List Addr) (n : Nat) (T : Nat → Nat → Nat → Int) (i : Nat) (m : Str → Option Value) (nx : List (Addr × Obj)) : Prop :=
  (∀ z, st.contains z = false → m z = m₀ z) ∧ IsTab nx rs n (T i) ∧ ∀ p ∈ nx₀, p.1 ∉ rs → p ∈ nx
theorem drop_mem {h₀ h : Heap} {L : Addr} {F nx₁ nx₂ : List (Addr × Obj)} (N : News h₀ L h nx₂) (hm : nx₂.map (·.1) = (F ++ nx₁).map (·.1)) {p : Addr × Obj} (hp : p ∈ nx₂) (ha : ∃ o, (p.1, o) ∈ nx₁) : p ∈ nx₂.drop F.length := by
  obtain ⟨o, ho⟩ := ha
  have h1 : (nx₂.drop F.length).map (·.1) = nx₁.map (·.1) := by
    rw [List.map_drop, hm, List.map_append, List.drop_append_of_le_length (by simp), List.drop_of_length_le (by simp)]
    rfl
  have h2 : p.1 ∈ (nx₂.drop F.length).map (·.1) := by rw [h1]; exact List.mem_map.mpr ⟨_, ho, rfl⟩
  obtain ⟨q, hq, e⟩ := List.mem_map.mp h2
  have h3 := (N q (List.mem_of_mem_drop hq)).1
  have h4 := (N p hp).1
  rw [e, h4] at h3
  have : q = p := by
    obtain ⟨q1, q2⟩ := q
    obtain ⟨p1, p2⟩ := p
    simp only at e h3
    subst e
    rw [Option.some.inj h3]
  exact this ▸ hq
theorem drop_map {F nx₁ nx₂ : List (Addr × Obj)} (hm : nx₂.map (·.1) = (F ++ nx₁).map (·.1)) : (nx₂.drop F.length).map (·.1) = nx₁.map (·.1) := by
  rw [List.map_drop, hm, List.map_append, List.drop_append_of_le_length (by simp), List.drop_of_length_le (by simp)]
  rfl
theorem off1_mem {D : Addr} {l : List (Addr × Obj)} (h : LCg.Off1 D l) : ∀ p ∈ l, p.1 ≠ D := by
  induction l with
  | nil => intro p hp; cases hp
  | cons q r ih =>
    intro p hp
    rcases List.mem_cons.mp hp with e | hp
    · rw [e]; exact h.1
    · exact ih h.2 p hp
end Mine

namespace Mine
open PySem PySem.W PySem.Calls PyProof.Rows PySem.Spec
section
variable {prog : Program} {w : World} {A : Around} {E : Value → Shared → Prop} {s : Shared} {env : Env} {h₀ : Heap} {m : Str → Option Value} {news : List (Addr × Obj)}
theorem pair_tab {α : Type} {K : ItemKind α} {as : List α} {xv : Value} {xi xc : Str} {body : List Stmt} {Q : Flow → Shared → Prop} (S : PairSrc prog w A E h₀ env K as xv s m news) (st : List Str) (rs : List Addr) (n : Nat) (T : Nat → Nat → Nat → Int) (h0 : IsTab news rs n (T 0))
    (step : ∀ (i : Nat) c v t (u : Str → Option Value) nx₁ own h tk, as[i]? = some c → K.is c v → IsTab nx₁ rs n (T i) → (∀ p ∈ news, p.1 ∉ rs → p ∈ nx₁) → nx₁.map (·.1) = news.map (·.1) → (∀ p ∈ own, ∀ q ∈ news, p.1 ≠ q.1) →
      Fr h₀ env.locals h (fun y => if y = xc then some v else if y = xi then some (.int i t) else ovr st u m y) → News h₀ env.locals h (own ++ nx₁) →
      wpAny (model prog w) A (execs body env) (LoopStep3 h₀ env.locals own nx₁ (TabJ st m news rs n T (i + 1)) { s with heap := h, toks := tk } (fun v s' => Q (.ret v) s') fun s' => Q .next s') E { s with heap := h, toks := tk })
    (done : ∀ h tk (u : Str → Option Value) nx, Fr h₀ env.locals h (ovr st u m) → News h₀ env.locals h nx → IsTab nx rs n (T as.length) → (∀ p ∈ news, p.1 ∉ rs → p ∈ nx) → nx.map (·.1) = news.map (·.1) → Q .next { s with heap := h, toks := tk }) :
    wpAny (model prog w) A (pyIter xv) (fun it s₂ => PairAt3 prog w A h₀ env xi xc body Q E it s₂) E s := by
  refine S xi xc body Q (TabJ st m news rs n T) ⟨fun _ _ => rfl, h0, fun p hp _ => hp⟩ ?_ ?_
  · rintro i c t v m₁ nx₁ s₁ own ⟨h, tk, rfl⟩ hi hv ⟨hm, hT, hk⟩ hmap hown F N
    refine step i c v t m₁ nx₁ own h tk hi hv hT hk hmap hown ?_ N
    rw [← ovr_of hm]
    exact F
  · rintro h tk m' nx F N hmap ⟨hm, hT, hk⟩
    refine done h tk m' nx ?_ N hT hk hmap
    rw [← ovr_of hm]
    exact F
end
end Mine

namespace Mine
open PySem PySem.W PySem.Calls PyProof.Rows PySem.Spec
theorem IsTab.narrow {h₀ h : Heap} {L : Addr} {big nx : List (Addr × Obj)} {rs : List Addr} {n : Nat} {T : Nat → Nat → Int} (N : News h₀ L h big) (hsub : ∀ p ∈ nx, p ∈ big) (hex : ∀ r ∈ rs, r ∈ nx.map (·.1)) (hT : IsTab big rs n T) : IsTab nx rs n T := by
  intro i r hr
  obtain ⟨vs, k, hm, r2⟩ := hT i r hr
  obtain ⟨q, hq, e⟩ := List.mem_map.mp (hex r (List.mem_of_getElem? hr))
  have h1 := (N q (hsub q hq)).1
  have h2 := (N _ hm).1
  obtain ⟨q1, q2⟩ := q
  simp only at e h1 h2
  subst e
  rw [h2] at h1
  rw [← Option.some.inj h1] at hq
  exact ⟨vs, k, hq, r2⟩
theorem IsTab.addrs {nx : List (Addr × Obj)} {rs : List Addr} {n : Nat} {T : Nat → Nat → Int} (h : IsTab nx rs n T) : ∀ r ∈ rs, r ∈ nx.map (·.1) := fun r hr => by
  obtain ⟨o, ho⟩ := h.mem hr
  exact List.mem_map.mpr ⟨_, ho, rfl⟩
theorem ovr_out {st : List Str} {u m : Str → Option Value} : ∀ z, st.contains z = false → ovr st u m z = m z := fun z hz => by
  unfold ovr; rw [hz]; rfl
theorem put_out {st : List Str} {m m' : Str → Option Value} {x : Str} {v : Option Value} (hx : st.contains x = true) (h : ∀ z, st.contains z = false → m' z = m z) : ∀ z, st.contains z = false → (fun y => if y = x then v else m' y) z = m z := fun z hz => by
  have hne : z ≠ x := fun e => by rw [e, hx] at hz; cases hz
  show (if z = x then v else m' z) = m z
  rw [if_neg hne]
  exact h z hz
theorem tab_step {h₀ h' : Heap} {L : Addr} {own nx front news : List (Addr × Obj)} {rs : List Addr} {n : Nat} {T : Nat → Nat → Nat → Int} {T₀ T₁ : Nat → Nat → Int} {i : Nat} {r : Addr} {o : Obj} {st : List Str} {m m' : Str → Option Value} {s₁ : Shared} {tk : Nat} {Qr : Value → Shared → Prop} {Qb : Shared → Prop}
    (F : Fr h₀ L h' m') (N : News h₀ L h' (setAt r o (front ++ (own ++ nx)))) (hT : IsTab (setAt r o (front ++ (own ++ nx))) rs n T₁) (hr : r ∈ rs) (hT0 : IsTab nx rs n T₀) (hown : ∀ p ∈ own, p.1 ∉ rs) (hkeep : ∀ p ∈ news, p.1 ∉ rs → p ∈ nx)
    (hz : ∀ z, st.contains z = false → m' z = m z) (eT : ∀ a b, a < rs.length → b < n → T₁ a b = T i a b) : LoopStep3 h₀ L own nx (TabJ st m news rs n T i) s₁ Qr Qb .next { s₁ with heap := h', toks := tk } := by
  have hsub : ∀ p ∈ setAt r o nx, p ∈ setAt r o (front ++ (own ++ nx)) := fun p hp => by
    rcases setAt_mem hp with ⟨rfl, o', ho'⟩ | ⟨hp, hn⟩
    · exact setAt_eq (List.mem_append_right _ (List.mem_append_right _ ho'))
    · exact setAt_ne (List.mem_append_right _ (List.mem_append_right _ hp)) hn
  refine ⟨rfl, h', tk, m', setAt r o nx, rfl, F, fun p hp => ?_, setAt_addrs r o nx, hz, (IsTab.narrow N hsub (by rw [setAt_addrs]; exact hT0.addrs) hT).congr eT, fun p hp hn => setAt_ne (hkeep p hp hn) fun e => hn (e ▸ hr)⟩
  rcases List.mem_append.mp hp with hp | hp
  · exact N p (setAt_ne (List.mem_append_right _ (List.mem_append_left _ hp)) fun e => hown p hp (e ▸ hr))
  · exact N p (hsub p hp)
end Mine

namespace Mine
open PySem PySem.W PySem.Calls PyProof.Rows PySem.Spec
theorem ovr_in {st st' : List Str} {u m m' : Str → Option Value} (hs : st'.all (fun x => st.contains x) = true) (h : ∀ z, st.contains z = false → m' z = m z) : ∀ z, st.contains z = false → ovr st' u m' z = m z := fun z hz => by
  have e : st'.contains z = false := by
    cases e : st'.contains z with
    | false => rfl
    | true =>
      have := List.all_eq_true.mp hs z (List.contains_iff_mem.mp e)
      rw [this] at hz; cases hz
  unfold ovr; rw [e]
  exact h z hz
theorem grid_eq {α : Type} [DecidableEq α] {a b : List α} {i j : Nat} (h : a[i]? = b[j]?) : grid a b i j i j + 1 = dp a b (i + 1) (j + 1) := by
  rw [grid_old a b i j i j (.inl (Nat.le_refl _))]
  simp [dp, h]
theorem grid_max {α : Type} [DecidableEq α] {a b : List α} {i j : Nat} (h : a[i]? ≠ b[j]?) : (if grid a b i j i (j + 1) > grid a b i j (i + 1) j then grid a b i j i (j + 1) else grid a b i j (i + 1) j) = dp a b (i + 1) (j + 1) := by
  rw [grid_old a b i j i (j + 1) (.inl (Nat.le_refl _)), grid_old a b i j (i + 1) j (.inr ⟨rfl, Nat.le_refl _⟩)]
  have e : dp a b (i + 1) (j + 1) = max (dp a b (i + 1) j) (dp a b i (j + 1)) := by simp [dp, h]
  rw [e]
  split <;> omega
theorem tab_close {h₀ h' : Heap} {L : Addr} {own nx nx₂ front news : List (Addr × Obj)} {rs : List Addr} {n : Nat} {T : Nat → Nat → Nat → Int} {T₀ T₁ : Nat → Nat → Int} {i : Nat} {st : List Str} {m m' : Str → Option Value} {s₁ : Shared} {tk : Nat} {Qr : Value → Shared → Prop} {Qb : Shared → Prop}
    (F : Fr h₀ L h' m') (N : News h₀ L h' nx₂) (hT : IsTab nx₂ rs n T₁) (hT0 : IsTab nx rs n T₀) (hmap : nx₂.map (·.1) = (front ++ own ++ nx).map (·.1)) (hk₂ : ∀ p ∈ front ++ own ++ nx, p.1 ∉ rs → p ∈ nx₂) (hown : ∀ p ∈ own, p.1 ∉ rs) (hkeep : ∀ p ∈ news, p.1 ∉ rs → p ∈ nx)
    (hz : ∀ z, st.contains z = false → m' z = m z) (eT : ∀ a b, a < rs.length → b < n → T₁ a b = T i a b) : LoopStep3 h₀ L own nx (TabJ st m news rs n T i) s₁ Qr Qb .next { s₁ with heap := h', toks := tk } := by
  have hsub : ∀ p ∈ nx₂.drop (front ++ own).length, p ∈ nx₂ := fun p hp => List.mem_of_mem_drop hp
  refine ⟨rfl, h', tk, m', nx₂.drop (front ++ own).length, rfl, F, fun p hp => ?_, drop_map hmap, hz, (IsTab.narrow N hsub (by rw [drop_map hmap]; exact hT0.addrs) hT).congr eT, fun p hp hn => ?_⟩
  · rcases List.mem_append.mp hp with hp | hp
    · exact N p (hk₂ p (List.mem_append_left _ (List.mem_append_right _ hp)) (hown p hp))
    · exact N p (hsub p hp)
  · have h1 := hkeep p hp hn
    exact drop_mem N hmap (hk₂ p (List.mem_append_right _ h1) hn) ⟨p.2, h1⟩
end Mine

namespace Mine
open PySem PySem.W PySem.Calls PyProof.Rows PySem.Spec
def Tri (xi xj xr : Str) (st : List Str) (m₀ : Str → Option Value) (NL : List (Addr × Obj)) (I : Nat → Nat → Str → Prop) (n : Nat) (m : Str → Option Value) (nx : List (Addr × Obj)) : Prop :=
  ∃ i j r, n = i + j ∧ I i j r ∧ (∃ t, m xi = some (.int (i : Nat) t)) ∧ (∃ t, m xj = some (.int (j : Nat) t)) ∧ (∃ t, m xr = some (.str r t)) ∧ (∀ z, st.contains z = false → m z = m₀ z) ∧ ∀ p ∈ NL, p ∈ nx
theorem while_tri {prog : Program} {w : World} {A : Around} {E : Value → Shared → Prop} {Q : Flow → Shared → Prop} {s : Shared} {env : Env} {h₀ : Heap} {L : Addr} {test : Expr} {body : List Stmt} {pos : Pos} {m₀ : Str → Option Value} {xi xj xr : Str} {i₀ j₀ : Nat} {r₀ : Str} {ti₀ tj₀ tr₀ : Tok} {NL : List (Addr × Obj)} (I : Nat → Nat → Str → Prop)
    (F : Fr h₀ L s.heap (fun y => if y = xi then some (.int (i₀ : Nat) ti₀) else if y = xj then some (.int (j₀ : Nat) tj₀) else if y = xr then some (.str r₀ tr₀) else m₀ y)) (N : News h₀ L s.heap NL) (hji : xj ≠ xi) (hri : xr ≠ xi) (hrj : xr ≠ xj) (h0 : I i₀ j₀ r₀)
    (turn : ∀ i j r ti tj tr (u : Str → Option Value) h tk, I i j r → Fr h₀ L h (fun y => if y = xi then some (.int (i : Nat) ti) else if y = xj then some (.int (j : Nat) tj) else if y = xr then some (.str r tr) else ovr [xi, xj, xr] u m₀ y) → News h₀ L h NL →
      wpAny (model prog w) A (isTrue test env (eval test env)) (fun b s₂ =>
        if b = true then wpAny (model prog w) A (execs body env) (WhileStep2 h₀ L s (Tri xi xj xr [xi, xj, xr] m₀ NL I) Q (i + j)) E s₂ else Q .next s₂) E { s with heap := h, toks := tk })
    (hE : PassesOwn (model prog w) A env E := by passes_own) :
    wpAny (model prog w) A (exec (.While test body [] pos) env) Q E s := by
  refine While_inv2 (n₀ := i₀ + j₀) (Tri xi xj xr [xi, xj, xr] m₀ NL I) F N ⟨i₀, j₀, r₀, rfl, h0, ⟨ti₀, by simp⟩, ⟨tj₀, by simp [hji]⟩, ⟨tr₀, by simp [hri, hrj]⟩, put_out (by simp) (put_out (by simp) (put_out (by simp) fun _ _ => rfl)), fun p hp => hp⟩ ?_ hE
  rintro n m₁ nx h₁ tk₁ F₁ N₁ ⟨i, j, r, rfl, hI, ⟨ti, hi⟩, ⟨tj, hj⟩, ⟨tr, hr⟩, hz, hnl⟩
  refine turn i j r ti tj tr m₁ h₁ tk₁ hI ?_ fun p hp => N₁ p (hnl p hp)
  have e : m₁ = fun y => if y = xi then some (.int (i : Nat) ti) else if y = xj then some (.int (j : Nat) tj) else if y = xr then some (.str r tr) else ovr [xi, xj, xr] m₁ m₀ y := by
    funext y
    by_cases h1 : y = xi
    · rw [if_pos h1, h1, hi]
    · rw [if_neg h1]
      by_cases h2 : y = xj
      · rw [if_pos h2, h2, hj]
      · rw [if_neg h2]
        by_cases h3 : y = xr
        · rw [if_pos h3, h3, hr]
        · rw [if_neg h3, ← ovr_of hz]
  exact e ▸ F₁
/-- the way back -/
def tb (la lb : List Str) : Nat → Nat → Str → Str
  | 0, _, r => r
  | _ + 1, 0, r => r
  | i + 1, j + 1, r => if dp la lb (i + 1) (j + 1) = dp la lb i (j + 1) then tb la lb i (j + 1) r else if dp la lb (i + 1) (j + 1) = dp la lb (i + 1) j then tb la lb (i + 1) j r else tb la lb i j (la.getD i Str.empty ++ r)
termination_by i j => i + j
theorem tb_zero_left (la lb : List Str) (j : Nat) (r : Str) : tb la lb 0 j r = r := by rw [tb]
theorem tb_zero_right (la lb : List Str) (i : Nat) (r : Str) : tb la lb i 0 r = r := by cases i <;> rw [tb]
end Mine

namespace Mine
open PySem PySem.W PySem.Calls PyProof.Rows PySem.Spec
theorem sign_item {x : Str} {i : Int} {k : Nat} (hk : k < x.length) (e : i = k) : Txt.item x i = (signs x).getD k Str.empty := by
  rw [signs_getD hk]
  exact item_at (by omega) (by omega) (by omega)
theorem getD_getElem? {α : Type} {l : List α} {k : Nat} {d : α} (h : k < l.length) : l[k]? = some (l.getD k d) := by
  simp [List.getD_eq_getElem?_getD, h]
section
variable {la lb : List Str} {i j : Nat} {r : Str}
theorem tb_up (hi : i ≠ 0) (hj : j ≠ 0) (h : dp la lb i j = dp la lb (i - 1) j) : tb la lb i j r = tb la lb (i - 1) j r := by
  obtain ⟨i, rfl⟩ := Nat.exists_eq_succ_of_ne_zero hi
  obtain ⟨j, rfl⟩ := Nat.exists_eq_succ_of_ne_zero hj
  show tb la lb (i + 1) (j + 1) r = tb la lb i (j + 1) r
  rw [tb, if_pos (show dp la lb (i + 1) (j + 1) = dp la lb i (j + 1) from h)]
theorem tb_left (hi : i ≠ 0) (hj : j ≠ 0) (h0 : dp la lb i j ≠ dp la lb (i - 1) j) (h : dp la lb i j = dp la lb i (j - 1)) : tb la lb i j r = tb la lb i (j - 1) r := by
  obtain ⟨i, rfl⟩ := Nat.exists_eq_succ_of_ne_zero hi
  obtain ⟨j, rfl⟩ := Nat.exists_eq_succ_of_ne_zero hj
  show tb la lb (i + 1) (j + 1) r = tb la lb (i + 1) j r
  rw [tb, if_neg (show ¬ dp la lb (i + 1) (j + 1) = dp la lb i (j + 1) from h0), if_pos (show dp la lb (i + 1) (j + 1) = dp la lb (i + 1) j from h)]
theorem tb_diag (hi : i ≠ 0) (hj : j ≠ 0) (h0 : dp la lb i j ≠ dp la lb (i - 1) j) (h : dp la lb i j ≠ dp la lb i (j - 1)) : tb la lb i j r = tb la lb (i - 1) (j - 1) (la.getD (i - 1) Str.empty ++ r) := by
  obtain ⟨i, rfl⟩ := Nat.exists_eq_succ_of_ne_zero hi
  obtain ⟨j, rfl⟩ := Nat.exists_eq_succ_of_ne_zero hj
  show tb la lb (i + 1) (j + 1) r = tb la lb i j (la.getD i Str.empty ++ r)
  rw [tb, if_neg (show ¬ dp la lb (i + 1) (j + 1) = dp la lb i (j + 1) from h0), if_neg (show ¬ dp la lb (i + 1) (j + 1) = dp la lb (i + 1) j from h)]
theorem dp_diag {α : Type} [DecidableEq α] {la lb : List α} (hi : i ≠ 0) (hj : j ≠ 0) (h0 : dp la lb i j ≠ dp la lb (i - 1) j) (h : dp la lb i j ≠ dp la lb i (j - 1)) : la[i - 1]? = lb[j - 1]? := by
  obtain ⟨i, rfl⟩ := Nat.exists_eq_succ_of_ne_zero hi
  obtain ⟨j, rfl⟩ := Nat.exists_eq_succ_of_ne_zero hj
  show la[i]? = lb[j]?
  by_cases e : la[i]? = lb[j]?
  · exact e
  · exfalso
    have e2 : dp la lb (i + 1) (j + 1) = max (dp la lb (i + 1) j) (dp la lb i (j + 1)) := by simp [dp, e]
    have h0' : dp la lb (i + 1) (j + 1) ≠ dp la lb i (j + 1) := h0
    have h' : dp la lb (i + 1) (j + 1) ≠ dp la lb (i + 1) j := h
    omega
theorem grid_full {α : Type} [DecidableEq α] {a b : List α} {p q : Nat} (h : p ≤ a.length) : grid a b a.length 0 p q = dp a b p q := if_pos (.inl h)
end
theorem tri_close {h₀ h' : Heap} {L : Addr} {xi xj xr : Str} {st : List Str} {m₀ m' : Str → Option Value} {NL : List (Addr × Obj)} {I : Nat → Nat → Str → Prop} {Q : Flow → Shared → Prop} {s : Shared} {n tk : Nat} {vi vj : Int} {r : Str} {ti tj tr : Tok}
    (F : Fr h₀ L h' m') (N : News h₀ L h' NL) (hi : m' xi = some (.int vi ti)) (hj : m' xj = some (.int vj tj)) (hr : m' xr = some (.str r tr)) (i' j' : Nat) (ei : vi = (i' : Nat)) (ej : vj = (j' : Nat)) (lt : i' + j' < n) (hI : I i' j' r)
    (hz : ∀ z, st.contains z = false → m' z = m₀ z) : WhileStep2 h₀ L s (Tri xi xj xr st m₀ NL I) Q n .next { s with heap := h', toks := tk } :=
  ⟨h', tk, m', NL, i' + j', rfl, F, N, lt, i', j', r, rfl, hI, ⟨ti, by rw [hi, ei]⟩, ⟨tj, by rw [hj, ej]⟩, ⟨tr, hr⟩, hz, fun _ hp => hp⟩
end Mine

namespace Mine
open PySem PySem.W PySem.Calls PyProof.Rows PySem.Spec
theorem strs_pairs {vs : List Value} {cs : List Str} (h : StrsAre vs cs) : ∃ l : List (Str × Tok), vs = strValues l ∧ l.map (·.1) = cs := by
  induction vs generalizing cs with
  | nil => cases h; exact ⟨[], rfl, rfl⟩
  | cons v vs ih =>
    cases h with
    | cons y t h =>
      obtain ⟨l, rfl, rfl⟩ := ih h
      exact ⟨(y, t) :: l, rfl, rfl⟩
theorem empty_cps : (Str.ofString "").cps = #[] := by decide +kernel
theorem cps_app (x y : Str) : (x ++ y).cps = x.cps ++ y.cps := rfl
theorem join_cps : ∀ cs : List Str, (Str.join (Str.ofString "") cs).cps.toList = cs.flatMap (·.cps.toList)
  | [] => by simp [Str.join, Str.empty]
  | [x] => by simp [Str.join]
  | x :: y :: r => by
    have ih := join_cps (y :: r)
    show ((x ++ Str.ofString "") ++ Str.join (Str.ofString "") (y :: r)).cps.toList = _
    rw [cps_app, cps_app, empty_cps]
    rw [Array.toList_append, ih]
    simp
theorem signs_join {cs : List Str} (h : ∀ c ∈ cs, c.length = 1) : signs (Txt.join (Str.ofString "") cs) = cs := by
  unfold Txt.join
  rw [StrLaws.glued_eq_join]
  unfold signs
  rw [join_cps]
  induction cs with
  | nil => rfl
  | cons c r ih =>
    rw [List.flatMap_cons, List.map_append, ih fun z hz => h z (List.mem_cons_of_mem _ hz)]
    have hc := h c List.mem_cons_self
    obtain ⟨⟨l⟩⟩ := c
    have hc' : l.length = 1 := hc
    obtain ⟨n, rfl⟩ := List.length_eq_one_iff.mp hc'
    rfl
theorem sign_one {x c : Str} (h : c ∈ signs x) : c.length = 1 := by
  unfold signs at h
  obtain ⟨n, _, rfl⟩ := List.mem_map.mp h
  rfl
theorem item_sign {x : Str} {i : Int} (h0 : 0 ≤ i) (h1 : i < (x.length : Int)) : Txt.item x i ∈ signs x := by
  have hk : i.toNat < x.length := by omega
  rw [sign_item hk (by omega)]
  have e := getD_getElem? (l := signs x) (d := Str.empty) (k := i.toNat) (by rw [signs_length]; exact hk)
  exact List.mem_of_getElem? e
section
variable {prog : Program} {w : World} {A : Around} {E : Value → Shared → Prop} {s : Shared} {h₀ : Heap} {L : Addr} {news : List (Addr × Obj)}
theorem join_word {D : Addr} {yv : List Value} {cs : List Str} {n : Nat} {t : Tok} {Q : Value → Shared → Prop} (N : News h₀ L s.heap news) (hm : (D, listOf yv.toArray n) ∈ news) (hS : StrsAre yv cs) (h1 : ∀ c ∈ cs, c.length = 1) (hl : cs.length ≤ 1000)
    (hq : ∀ x t' k, signs x = cs → x.length = cs.length → Q (.str x t') { s with toks := k }) : wpAny (model prog w) A (call (.builtin "str.join") [.str (Str.ofString "") t, .ref D]) Q E s := by
  obtain ⟨l, rfl, rfl⟩ := strs_pairs hS
  refine SC.join (PySem.IsL.isList (n := n) (N _ hm).1) rfl ?_ fun t' k => hq _ t' k (signs_join h1) (by rw [← signs_length, signs_join h1])
  unfold JoinOk
  have e : (Str.ofString "").length = 0 := by decide +kernel
  rw [StrLaws.joinFits (B := 1) (fun y hy => Nat.le_of_eq (h1 y hy)) (by rw [e]; omega)]
  rfl
end
end Mine

namespace Mine
open PySem PySem.W PySem.Calls PyProof.Rows PySem.Spec
section
variable {prog : Program} {w : World} {A : Around} {E : Value → Shared → Prop} {s : Shared} {env : Env} {h₀ : Heap} {x : Str} {body : List Stmt} {Q : Flow → Shared → Prop} {m₀ : Str → Option Value} {news : List (Addr × Obj)}
/-- a loop over a text by an invariant -/
theorem str_inv {xt : Str} {tx : Tok} (JJ : (Str → Option Value) → Nat → (Str → Option Value) → List (Addr × Obj) → Prop) (hh : A.handled = none) (F : Fr h₀ env.locals s.heap m₀) (N : News h₀ env.locals s.heap news) (hj : JJ m₀ 0 m₀ news)
    (turn : ∀ i c t m₁ nx h tk own, (signs xt)[i]? = some c → OwnOff own (nx.map (·.1)) → JJ m₀ i m₁ nx → Fr h₀ env.locals h (fun y => if y = x then some (.str c t) else m₁ y) → News h₀ env.locals h (nx ++ own) →
      wpAny (model prog w) A (execs body env) (InvPostG h₀ env.locals (JJ m₀ (i + 1)) own { s with heap := h, toks := tk } Q) E { s with heap := h, toks := tk })
    (done : ∀ m₁ nx h tk, JJ m₀ (signs xt).length m₁ nx → Fr h₀ env.locals h m₁ → News h₀ env.locals h nx → Q .next { s with heap := h, toks := tk }) :
    wpAny (model prog w) A (pyIter (.str xt tx)) (fun it s₂ => LoopAtV prog w A h₀ env x body Q E it s₂) E s := by
  have key : ∀ (T : String) (St : Nat → Heap → Prop) (o : Obj), o.isFreed = false → St = (fun i h => h.IsStrIter s.heap.objs.size T xt tx i) → Walks prog w A s.heap.objs.size [s.heap.objs.size] [s.heap.objs.size] xt.cps.size (SignAt xt) St → St 0 (s.heap.push o) → LoopAtV prog w A h₀ env x body Q E (.ref s.heap.objs.size) { s with heap := s.heap.push o } := by
    intro T St o ho hSt W hst
    refine kdr_loop (JJ m₀) W (fun _ h => h) (fun _ h => h) ?_ ?_ ?_ ?_ hst (F.push _) (fun p hp => ⟨Heap.get?_push_of_some _ (N p hp).1, (N p hp).2⟩) hj ?_ ?_
    · intro i h hi b hb
      rw [List.mem_singleton.mp hb]
      rw [hSt] at hi
      obtain ⟨o, ho, _⟩ := hi
      exact ⟨o, ho⟩
    · intro hm
      exact absurd F.ns.lt ((List.mem_singleton.mp hm) ▸ Nat.lt_irrefl _)
    · intro b' hb
      rw [List.mem_singleton.mp hb]
      exact next_is_new F
    · intro p hp hI
      exact absurd (Heap.lt_size (N p hp).1) ((List.mem_singleton.mp hI) ▸ Nat.lt_irrefl _)
    · rintro i v m₁ nx h tk own hi ⟨n, u, hn, rfl⟩ hoff hj F₁ N₁
      exact turn i _ u m₁ nx h tk own (signs_get hn) hoff hj F₁ N₁
    · intro m₁ nx h tk hj F₁ N₁
      exact done m₁ nx h tk (by rw [signs_length]; exact hj) F₁ N₁
  cases ha : xt.cps.all (· < 128)
  · exact wpAny_pyIter_wide ha (key _ _ _ rfl rfl (Walks.strWide hh _ xt tx) ⟨_, Heap.get?_push_size _ rfl, rfl, rfl⟩)
  · exact wpAny_pyIter_ascii ha (key _ _ _ rfl rfl (Walks.strAscii hh _ xt tx) ⟨_, Heap.get?_push_size _ rfl, rfl, rfl⟩)
/-- a loop over a range by an invariant -/
theorem range_inv {r : Addr} {a₀ b₀ : Int} {t₀ u₀ v₀ : Tok} {n : Nat} (JJ : (Str → Option Value) → Nat → (Str → Option Value) → List (Addr × Obj) → Prop) (hh : A.handled = none) (hr : IsRange s.heap r a₀ b₀ 1 t₀ u₀ v₀) (hsmall : Builtin.Range.small a₀ b₀ 1 = true) (hsz : Builtin.Range.rangeSize a₀ b₀ 1 = (n : Int))
    (F : Fr h₀ env.locals s.heap m₀) (N : News h₀ env.locals s.heap news) (hj : JJ m₀ 0 m₀ news)
    (turn : ∀ i t m₁ nx h tk own, i < n → OwnOff own (nx.map (·.1)) → JJ m₀ i m₁ nx → Fr h₀ env.locals h (fun y => if y = x then some (.int (a₀ + (i : Nat)) t) else m₁ y) → News h₀ env.locals h (nx ++ own) →
      wpAny (model prog w) A (execs body env) (InvPostG h₀ env.locals (JJ m₀ (i + 1)) own { s with heap := h, toks := tk } Q) E { s with heap := h, toks := tk })
    (done : ∀ m₁ nx h tk, JJ m₀ n m₁ nx → Fr h₀ env.locals h m₁ → News h₀ env.locals h nx → Q .next { s with heap := h, toks := tk }) :
    wpAny (model prog w) A (pyIter (.ref r)) (fun it s₂ => LoopAtV prog w A h₀ env x body Q E it s₂) E s := by
  refine wpAny_pyIter_range hr hsmall ?_
  have W : Walks prog w A s.heap.objs.size [s.heap.objs.size] [s.heap.objs.size] n (fun i v => i < n ∧ ∃ t, v = .int (a₀ + i * 1) t)
      (fun i h => IsRangeIter h s.heap.objs.size (a₀ + (i : Nat) * 1) ((n : Int) - (i : Nat)) 1) := (Walks.range hh _ a₀ 1 n).bound
  refine kdr_loop (JJ m₀) W (fun _ h => h) (fun _ h => h) ?_ ?_ ?_ ?_ (by show IsRangeIter _ _ _ _ _; rw [hsz]; simpa using Heap.get?_push_size _ rfl) (F.push _) (fun p hp => ⟨Heap.get?_push_of_some _ (N p hp).1, (N p hp).2⟩) hj ?_ ?_
  · intro i h hi b hb
    rw [List.mem_singleton.mp hb]
    exact ⟨_, hi⟩
  · intro hm
    exact absurd F.ns.lt ((List.mem_singleton.mp hm) ▸ Nat.lt_irrefl _)
  · intro b hb
    rw [List.mem_singleton.mp hb]
    exact next_is_new F
  · intro p hp hI
    exact absurd (Heap.lt_size (N p hp).1) ((List.mem_singleton.mp hI) ▸ Nat.lt_irrefl _)
  · rintro i v m₁ nx h tk own hi ⟨_, t, rfl⟩ hoff hj F₁ N₁
    have e1 : a₀ + (i : Int) * 1 = a₀ + (i : Int) := by omega
    rw [e1] at F₁
    exact turn i t m₁ nx h tk own hi hoff hj F₁ N₁
  · intro m₁ nx h tk hj F₁ N₁
    exact done m₁ nx h tk hj F₁ N₁
/-- the same, the invariant told the ledger at the start -/
theorem range_invN {r : Addr} {a₀ b₀ : Int} {t₀ u₀ v₀ : Tok} {n : Nat} (JJ : (Str → Option Value) → List (Addr × Obj) → Nat → (Str → Option Value) → List (Addr × Obj) → Prop) (hh : A.handled = none) (hr : IsRange s.heap r a₀ b₀ 1 t₀ u₀ v₀) (hsmall : Builtin.Range.small a₀ b₀ 1 = true) (hsz : Builtin.Range.rangeSize a₀ b₀ 1 = (n : Int))
    (F : Fr h₀ env.locals s.heap m₀) (N : News h₀ env.locals s.heap news) (hj : JJ m₀ news 0 m₀ news)
    (turn : ∀ i t m₁ nx h tk own, i < n → OwnOff own (nx.map (·.1)) → JJ m₀ news i m₁ nx → Fr h₀ env.locals h (fun y => if y = x then some (.int (a₀ + (i : Nat)) t) else m₁ y) → News h₀ env.locals h (nx ++ own) →
      wpAny (model prog w) A (execs body env) (InvPostG h₀ env.locals (JJ m₀ news (i + 1)) own { s with heap := h, toks := tk } Q) E { s with heap := h, toks := tk })
    (done : ∀ m₁ nx h tk, JJ m₀ news n m₁ nx → Fr h₀ env.locals h m₁ → News h₀ env.locals h nx → Q .next { s with heap := h, toks := tk }) :
    wpAny (model prog w) A (pyIter (.ref r)) (fun it s₂ => LoopAtV prog w A h₀ env x body Q E it s₂) E s :=
  range_inv (fun m => JJ m news) hh hr hsmall hsz F N hj turn done
/-- a loop over a list of the ledger by an invariant -/
theorem list_inv {ax : Addr} {vs : List Value} {k : Nat} (JJ : (Str → Option Value) → Nat → (Str → Option Value) → List (Addr × Obj) → Prop) (hh : A.handled = none) (F : Fr h₀ env.locals s.heap m₀) (N : News h₀ env.locals s.heap news) (hm : (ax, listOf vs.toArray k) ∈ news) (hj : JJ m₀ 0 m₀ news)
    (turn : ∀ i v m₁ nx h tk own, vs[i]? = some v → (ax, listOf vs.toArray k) ∈ own → OwnOff (own.filter fun p => p.1 ≠ ax) (nx.map (·.1)) → JJ m₀ i m₁ nx → Fr h₀ env.locals h (fun y => if y = x then some v else m₁ y) → News h₀ env.locals h (nx ++ own) →
      wpAny (model prog w) A (execs body env) (InvPostG h₀ env.locals (JJ m₀ (i + 1)) (own.filter fun p => p.1 ≠ ax) { s with heap := h, toks := tk } Q) E { s with heap := h, toks := tk })
    (keep : ∀ i m₁ nx, JJ m₀ i m₁ nx → (ax, listOf vs.toArray k) ∈ nx)
    (done : ∀ m₁ nx h tk, JJ m₀ vs.length m₁ nx → Fr h₀ env.locals h m₁ → News h₀ env.locals h nx → Q .next { s with heap := h, toks := tk }) :
    wpAny (model prog w) A (pyIter (.ref ax)) (fun it s₂ => LoopAtV prog w A h₀ env x body Q E it s₂) E s := by
  have hax := N _ hm
  have hls : s.heap.IsList ax vs.toArray := PySem.IsL.isList (n := k) hax.1
  have hlt : ax < s.heap.objs.size := Heap.lt_size hax.1
  have hne : ax ≠ s.heap.objs.size := Nat.ne_of_lt hlt
  refine wpAny_pyIter_list hls ?_
  have W := Walks.list (prog := prog) (w := w) hh s.heap.objs.size ax hne vs.toArray
  refine ⟨_, _, _, _, _, _, m₀, news, JJ m₀, rfl, W, ?_, ?_, ?_, ⟨⟨_, Heap.get?_push_size _ rfl, rfl, rfl⟩, hls.at fun o e => Heap.get?_push_of_some _ e⟩, F.push _, (fun p hp => ⟨Heap.get?_push_of_some _ (N p hp).1, (N p hp).2⟩), hj, ?_, ?_⟩
  · intro hL
    rcases List.mem_cons.mp hL with e | hL
    · exact absurd F.ns.lt (e ▸ Nat.lt_irrefl _)
    · exact hax.2.1 (List.mem_singleton.mp hL).symm
  · intro b hb
    rw [List.mem_singleton.mp hb]
    exact next_is_new F
  · intro p hp hI
    exact absurd (Heap.lt_size (N p hp).1) ((List.mem_singleton.mp hI) ▸ Nat.lt_irrefl _)
  · rintro i v m₁ nx s₁ own ⟨hh', tk', rfl⟩ hin hP hJ hoff hown hget hall hst F₁ N₁
    have hP' : vs[i]? = some v := by simpa using hP
    have N₂ : News h₀ env.locals hh' (nx ++ own) := fun p hp => N₁ p ((List.mem_append.mp hp).elim (fun h => List.mem_append.mpr (.inr h)) fun h => List.mem_append.mpr (.inl h))
    have haxn := keep i m₁ nx hJ
    have haxo : (ax, listOf vs.toArray k) ∈ own := hall ax (by simp) hax.2.2 _ (N₂ _ (List.mem_append_left _ haxn)).1
    have hsep : OwnOff (own.filter fun p => p.1 ≠ ax) (nx.map (·.1)) := by
      intro p hp b hb e
      obtain ⟨hp1, hp2⟩ := List.mem_filter.mp hp
      have hp2' : p.1 ≠ ax := by simpa using hp2
      obtain ⟨q, hq, rfl⟩ := List.mem_map.mp hb
      have h1 := hown p hp1
      rcases List.mem_cons.mp h1 with e1 | h1
      · exact hoff q hq (by rw [← e, e1]; exact List.mem_singleton.mpr rfl)
      · exact hp2' (List.mem_singleton.mp h1)
    refine wpAny_mono (turn i v m₁ nx hh' tk' own hP' haxo hsep hJ F₁ N₂) (fun f s₂ p => ?_) fun _ _ e => e
    have fin : InvEndG h₀ env.locals (JJ m₀ (i + 1)) (own.filter fun p => p.1 ≠ ax) { s with heap := hh', toks := tk' } s₂ → LoopStepU h₀ env.locals [s.heap.objs.size] own (JJ m₀ (i + 1)) { s with heap := hh', toks := tk' } .next s₂ := by
      rintro ⟨h', tk, m', news', nx', e, F', N', hn, ho, ha, hm'⟩
      have hax' := keep (i + 1) m' nx' hm'
      refine ⟨rfl, h', tk, m', nx', e, F', fun p hp => ?_, fun p hp hq => ?_, hm'⟩
      · rcases List.mem_append.mp hp with hp | hp
        · by_cases hpa : p.1 = ax
          · have h1 := (N₂ p (List.mem_append_right _ hp)).1
            have h2 := (N₂ _ (List.mem_append_left _ haxn)).1
            obtain ⟨p1, p2⟩ := p
            simp only at hpa h1
            subst hpa
            rw [h1] at h2
            rw [Option.some.inj h2]
            exact N' _ (hn _ hax')
          · exact N' p (ho p (List.mem_filter.mpr ⟨hp, by simpa using hpa⟩))
        · exact N' p (hn p hp)
      · have h0 : ∃ o, hh'.get? s.heap.objs.size = some o := by
          obtain ⟨o, ho', _⟩ := hst.1
          exact ⟨o, ho'⟩
        obtain ⟨o, ho'⟩ := h0
        have h1 := hall s.heap.objs.size (by simp) (next_is_new F) o ho'
        have h2 : (s.heap.objs.size, o) ∈ own.filter fun p => p.1 ≠ ax := List.mem_filter.mpr ⟨h1, by simpa using Ne.symm hne⟩
        exact ha _ h2 p.1 (List.mem_map.mpr ⟨p, hp, rfl⟩) (List.mem_singleton.mp hq).symm
    cases f with
    | ret v => exact .ret p
    | brk => exact .brk p
    | next => exact .next (fin p)
    | cont => exact .cont (fin p)
  · rintro h' tk m' news' F' N' _ hJ
    exact done m' news' h' tk (by simpa using hJ) F' N'
/-- the same, the invariant told the ledger at the start -/
theorem list_invN {ax : Addr} {vs : List Value} {k : Nat} (JJ : (Str → Option Value) → List (Addr × Obj) → Nat → (Str → Option Value) → List (Addr × Obj) → Prop) (hh : A.handled = none) (F : Fr h₀ env.locals s.heap m₀) (N : News h₀ env.locals s.heap news) (hm : (ax, listOf vs.toArray k) ∈ news) (hj : JJ m₀ news 0 m₀ news)
    (turn : ∀ i v m₁ nx h tk own, vs[i]? = some v → (ax, listOf vs.toArray k) ∈ own → OwnOff (own.filter fun p => p.1 ≠ ax) (nx.map (·.1)) → JJ m₀ news i m₁ nx → Fr h₀ env.locals h (fun y => if y = x then some v else m₁ y) → News h₀ env.locals h (nx ++ own) →
      wpAny (model prog w) A (execs body env) (InvPostG h₀ env.locals (JJ m₀ news (i + 1)) (own.filter fun p => p.1 ≠ ax) { s with heap := h, toks := tk } Q) E { s with heap := h, toks := tk })
    (keep : ∀ i m₁ nx, JJ m₀ news i m₁ nx → (ax, listOf vs.toArray k) ∈ nx)
    (done : ∀ m₁ nx h tk, JJ m₀ news vs.length m₁ nx → Fr h₀ env.locals h m₁ → News h₀ env.locals h nx → Q .next { s with heap := h, toks := tk }) :
    wpAny (model prog w) A (pyIter (.ref ax)) (fun it s₂ => LoopAtV prog w A h₀ env x body Q E it s₂) E s :=
  list_inv (fun m => JJ m news) hh F N hm hj turn keep done
end
end Mine

namespace Mine
open PySem PySem.W PySem.Calls PyProof.Rows PySem.Spec
def puts : List (Str × Value) → (Str → Option Value) → Str → Option Value
  | [], f => f
  | p :: r, f => fun y => if y = p.1 then some p.2 else puts r f y
theorem puts_of {st : List Str} {m m₀ : Str → Option Value} : ∀ (ps : List (Str × Value)), (∀ p ∈ ps, m p.1 = some p.2) → (∀ z, st.contains z = false → m z = m₀ z) → m = puts ps (ovr st m m₀)
  | [], _, h => ovr_of h
  | p :: r, h1, h => by
    have ih := puts_of r (fun q hq => h1 q (List.mem_cons_of_mem _ hq)) h
    funext y
    show m y = if y = p.1 then some p.2 else puts r (ovr st m m₀) y
    split
    · rename_i e; rw [e]; exact h1 p List.mem_cons_self
    · exact congrFun ih y
theorem fr_puts {h₀ h : Heap} {L : Addr} {x : Str} {v : Value} {st : List Str} {m m₀ : Str → Option Value} (ps : List (Str × Value)) (F : Fr h₀ L h (fun y => if y = x then some v else m y)) (h1 : ∀ p ∈ ps, m p.1 = some p.2) (h2 : ∀ z, st.contains z = false → m z = m₀ z) :
    ∃ u, Fr h₀ L h (fun y => if y = x then some v else puts ps (ovr st u m₀) y) := by
  have e := puts_of ps h1 h2
  refine ⟨m, ?_⟩
  rw [← e]
  exact F
theorem fr_puts0 {h₀ h : Heap} {L : Addr} {st : List Str} {m m₀ : Str → Option Value} (ps : List (Str × Value)) (F : Fr h₀ L h m) (h1 : ∀ p ∈ ps, m p.1 = some p.2) (h2 : ∀ z, st.contains z = false → m z = m₀ z) :
    ∃ u, Fr h₀ L h (puts ps (ovr st u m₀)) := by
  have e := puts_of ps h1 h2
  refine ⟨m, ?_⟩
  rw [← e]
  exact F
theorem puts_out {st : List Str} {m m' : Str → Option Value} : ∀ (ps : List (Str × Value)), ps.all (fun p => st.contains p.1) = true → (∀ z, st.contains z = false → m' z = m z) → ∀ z, st.contains z = false → puts ps m' z = m z
  | [], _, h => h
  | p :: r, hp, h => by
    simp only [List.all_cons, Bool.and_eq_true] at hp
    exact put_out hp.1 (puts_out r hp.2 h)
end Mine

namespace Mine
open PySem PySem.W PySem.Calls PyProof.Rows PySem.Spec
section
variable {prog : Program} {w : World} {A : Around} {E : Value → Shared → Prop} {s : Shared} {h₀ : Heap} {L : Addr} {news : List (Addr × Obj)}
theorem led_len {D : Addr} {vs : List Value} {n : Nat} {Q : Value → Shared → Prop} (N : News h₀ L s.heap news) (hm : (D, listOf vs.toArray n) ∈ news) (hl : vs.length < 2 ^ 62)
    (h : Q (.int (vs.length : Nat) (s.toks + 1)) { s with toks := s.toks + 1 + 1 }) : wpAny (model prog w) A (call (.builtin "len") [.ref D]) Q E s :=
  Calls.call_len_list (PySem.IsL.isList (n := n) (N _ hm).1) (by rw [List.size_toArray]; omega) (by rw [List.size_toArray]; exact h)
end
end Mine

namespace Mine
theorem sum_take_succ {α : Type} {l : List α} {f : α → Nat} {i : Nat} {c : α} (h : l[i]? = some c) : ((l.take (i + 1)).map f).sum = ((l.take i).map f).sum + f c := by
  rw [List.take_add_one, h]
  simp
end Mine

namespace Mine
open PySem
theorem int_at {m' : Str → Option Value} {x : Str} {v v' : Int} {t : Tok} (h : m' x = some (.int v t)) (e : v = v') : ∃ t, m' x = some (.int v' t) := ⟨t, by rw [h, e]⟩
end Mine

namespace Mine
open PySem PySem.W PySem.Calls PyProof.Rows PySem.Spec
section
variable {prog : Program} {w : World} {A : Around} {E : Value → Shared → Prop} {s : Shared} {K : Frag} {x C p L : Addr} {ox : Obj} {name : Str} {h₀ : Heap} {m : Str → Option Value} {es : List DictEntry} {n : Nat} {expr : Bool} {Q : Value → Shared → Prop} {fv : Value} {rest : List Value}
/-- a static method read off an object of the class -/
theorem get_sm (F : Fr h₀ L s.heap m) (X₀ : K.In h₀) (I : InstAt s.heap x ox C (some (dictOf es n))) (hg : plainGet K C name = true) (hh : hasDictIn K C = true) (ha : findIn K (.ref C) name = some (some (.ref p)))
    (hgf : specialIn K (.ref p) "__get__" = some (some (.builtin "staticmethod.__get__"))) (hts : takesIn K (.ref p) = some false) (hc : copiedNames.contains name = false) (hl : getL name es = some none) (hp : recIn K p "staticmethod" = some (fv :: rest)) (hv : handedIn fv = true)
    (h : Q fv { s with toks := s.toks + 1 }) : wpAny (model prog w) A (getAttr (.ref x) name expr) Q E s :=
  get_bind (X₀.keeps F.keep) I (plainGet_of hg).1 (findObj_fn hh ha hgf hts hc (by show lookIn name (dictOf es n) = _; rw [lookIn_dict, hl])) (plainGet_of hg).2
    (wpAny_call (sm_get (s := { s with toks := s.toks + 1 }) (X₀.keeps F.keep) hp (handed_on hv h)))
end
end Mine
end
section
set_option Elab.async false
set_option maxRecDepth 100000
namespace Mine
open PySem PySem.W PySem.Calls PyProof.Rows PySem.Spec
section
variable {M : Model} {A : Around} {E : Value → Shared → Prop} {s : Shared} {K : Frag} {env : Env} {pos p : Pos} {x C : Addr} {ox : Obj} {od : Option Obj} {first : List Value} {Q : Value → Shared → Prop} {e : Expr}
/-- an object called with a starred sequence -/
theorem kco_star {f : Addr} (_X : K.In s.heap) (_I : InstAt s.heap x ox C od) (hd : ox.data = .plain) (_hs : findIn K (.ref C) "__call__" = some (some (.ref f)))
    (h : wpAny M A (eval e env) (fun v s₁ => StarOf M A E v (fun vs s₂ => kco_P K x C ox od s₂.heap ∧ wpAny M A (call (.ref x) (first ++ vs)) Q E s₂) s₁) E s)
    (he : starEach [.Starred e p] env = [(true, eval e env)] := by rfl) : wpAny M A (callWith pos (.ref x) first (backTo pos (starEach [.Starred e p] env)) []) Q E s := by
  rw [he]
  have h' : wpAny M A (evalArgs (.ref x) true [(true, (do let v ← eval e env; standAt pos; pure v))] []) (fun a s₁ => kco_P K x C ox od s₁.heap ∧ wpAny M A (call (.ref x) (first ++ a.pos) a.kw) Q E s₁) E s := ks_lone h
  unfold callWith
  refine wpAny_bind (wpAny_holding (wpAny_mono h' (fun a s₁ h₁ => wpAny_bind (wpAny_standAt ?_)) fun _ _ y => y))
  have L := kco_keeper (M := M) h₁.1.2 hd
  refine wpAny_bind (L.here ?_)
  have tail : ∀ {t : Sem Value}, wpAny M A t Q E s₁ → wpAny M A (t >>= fun r => holding [r] point >>= fun _ => pure r) Q E s₁ :=
    fun ht => wpAny_bind (wpAny_mono ht (fun r s₂ hr => wpAny_bind (wpAny_holding (wpAny_point (wpAny_pure hr)))) fun _ _ y => y)
  exact tail (wpAny_operating h₁.2)
end
end Mine
namespace Mine
open PySem PySem.W PySem.Calls PyProof.Rows PySem.Spec
section
variable {M : Model} {A : Around} {E : Value → Shared → Prop} {s : Shared} {K : Frag} {env : Env} {pos p apos : Pos} {L : Addr} {first : List Value} {Q : Value → Shared → Prop} {e o : Expr} {name : Str} {h₀ : Heap} {news : List (Addr × Obj)}
/-- a bound method called with a starred sequence -/
theorem callWith_MS {q f : Addr} {self : Value} (_X : K.In h₀) (_N : News h₀ L s.heap news) (_hq : (q, methodObj (.ref f) self) ∈ news) (hf : fnIn K f = true)
    (h : wpAny M A (eval e env) (fun v s₁ => StarOf M A E v (fun vs s₂ => MethP K q f self s₂.heap ∧ wpAny M A (call (.ref q) (first ++ vs)) Q E s₂) s₁) E s)
    (he : starEach [.Starred e p] env = [(true, eval e env)] := by rfl) : wpAny M A (callWith pos (.ref q) first (backTo pos (starEach [.Starred e p] env)) []) Q E s := by
  rw [he]
  exact ks_call rfl (keeps_M hf) (ks_lone h)
theorem MethodCall_S (h : wpAny M A (eval o env) (fun ov s₁ => wpAny M A (getAttr ov name true) (fun f s₂ => wpAny M A (callWith pos f [] (backTo pos (starEach [.Starred e p] env)) []) Q E s₂) E s₁) E s)
    (he : eval (.Call (.Attribute o name apos) [.Starred e p] [] pos) env = (eval o env >>= fun ov => standAt apos.atName >>= fun _ => holding [ov] (getAttr ov name true >>= fun f => pure (f, [])) >>= fun fx => callWith pos fx.1 fx.2 (backTo pos (starEach [.Starred e p] env)) []) := by rfl) :
    wpAny M A (eval (.Call (.Attribute o name apos) [.Starred e p] [] pos) env) Q E s := by
  rw [he]
  refine wpAny_bind (wpAny_mono h (fun ov s₁ h₁ => wpAny_bind (wpAny_standAt (wpAny_bind (wpAny_holding (wpAny_bind (wpAny_mono h₁ (fun f s₂ h₂ => wpAny_pure h₂) fun _ _ x => x)))))) fun _ _ x => x)
end
end Mine
end
section
open PySem PySem.W PyProof.Rows PySem.Calls
set_option Elab.async false
set_option maxRecDepth 100000
set_option linter.unusedVariables false
namespace Mine
section
variable {prog : Program} {w : World} {A₀ A : Around} {s : Shared} {base h₀ : Heap} {outer : List Env} {L : Addr} {m : Str → Option Value} {env : Env} {news : List (Addr × Obj)}
  {R : Result → Shared → Prop} {name qual : Str} {params : Arguments} {body : List Stmt} {scope : Scope} {dV kV doc pm cdv ct : Value} {an : Option Addr} {f : Addr} {args : Args} {binds : List (Str × Value)}

theorem frame_cells {E : Value → Shared → Prop} (B : Below A₀ base outer h₀) (F : Fr h₀ L s.heap m) (N : News h₀ L s.heap news) (hlim : h₀.NoLimit) (hA : A.frames = some (env :: outer)) (hf : env.frame = some L) (hke : env.scope.kind = .function)
    (hkind : ∀ n, ∀ x ∈ binds, scope.names.lookup x.1 = some .local ∨ (scope.names.lookup x.1 = some .cell ∧ ((cellsFrom n scope.names []).lookup x.1).isSome = true))
    (hnd : ((cellsFrom 0 scope.names []).map (·.1)).Nodup)
    (h : ∀ g L' h₁ tk cells, Fr h₀ L g m → Fr g L' h₁ (bindL (envOfC qual scope L' f cdv).kindOf binds fun _ => none) → News g L' h₁ (cells ++ news) →
      CellsAre (bindC (envOfC qual scope L' f cdv).kindOf binds fun _ => none) (cellsFrom (L' + 1) scope.names []) cells → Below A base (env :: outer) g → h₀.StaysIn g → (∀ p ∈ news, p.1 < L') →
      wpAny (model prog w) (A.deeper (envOfC qual scope L' f cdv)) (execs body (envOfC qual scope L' f cdv))
        (fun fl s' => LeaveK h₀ L m g R (match fl with | .ret v => v | _ => .none) s')
        (fun e s' => wpAny (model prog w) (A.deeper (envOfC qual scope L' f cdv)) (leaving (envOfC qual scope L' f cdv) e) (fun _ s'' => R (.error e) s'') (fun e' s'' => R (.error e') s'') s')
        { s with heap := h₁, toks := tk })
    (hk : scope.kind = .function) :
    wpAny (model prog w) A.in1 (newFunctionEnv scope mainGlobals [] binds (qual ++ ".<locals>.") (some f) cdv none builtinsNs) (fun env' s₂ => s₂.heap.NoLimit ∧ codeAny (model prog w) A (.func body env') R s₂) E s := by
  obtain ⟨FG, BG, st, lv⟩ := groundX (R := R) B F N hA hf hke
  refine wpAny_newFunctionEnv_cells hk (hkind _) fun env' he s' x => ?_
  subst he
  refine ⟨(hlim.keeps F.keep).keeps x.toInCall.keep, codeAny_func ?_⟩
  obtain ⟨h₁, tk, rfl, _⟩ := x.done
  have hk₁ := x.toInCall.keep
  obtain ⟨cells, NC, Y⟩ := Cl.news (h₀ := s.heap) (Nat.le_refl _) fun n c hm => ⟨x.cell n c (lookup_of_mem_nodup (cellsFrom_names scope.names 0 (s.heap.objs.size + 1) [] [] rfl ▸ hnd) hm), x.above n c hm⟩
  refine wpAny_mono (h _ s.heap.objs.size h₁ tk cells FG ⟨x.toInCall.ns, fun b o e => hk₁ b o (of_hideAll _ e), Nat.le_of_eq (hideAll_size _ _)⟩ (fun p hp => ?_) Y BG st (fun p hp => Heap.lt_size (N p hp).1)) (fun fl s' hl => lv _ _ hl) fun _ _ y => y
  rcases List.mem_append.mp hp with hp | hp
  · refine ⟨(NC p hp).1, (NC p hp).2.1, ?_⟩
    cases q : (hideAll s.heap (news.map (·.1))).get? p.1 with
    | none => rfl
    | some o => have := of_hideAll _ q; rw [(NC p hp).2.2] at this; cases this
  · exact ⟨hk₁ _ _ (N p hp).1, Nat.ne_of_lt (Heap.lt_size (N p hp).1), hideAll_none _ (List.mem_map_of_mem hp)⟩
end
section
variable {prog : Program} {w : World} {A A₀ : Around} {s : Shared} {K : Frag} {L : Addr} {h₀ base : Heap} {m mg mb : Str → Option Value} {news : List (Addr × Obj)} {p : Program} {loose : List Str} {mean : ExcName → Option Value}
theorem rest_cells {env : Env} {outer : List Env} {R : Result → Shared → Prop} {name qual : Str} {params : Arguments} {body : List Stmt} {scope : Scope} {dV kV doc pm cdv ct oc : Value} {an od : Option Addr} {osl : Array (Option Value)} {f : Addr} {args : Args} {vs : List Value} {g₁ : Addr → Option (List (Str × Value))} {binds : Addr → List (Str × Value)}
    (B : Below A₀ base outer h₀) (F : Fr h₀ L s.heap m) (X₀ : K.In h₀) (N : News h₀ L s.heap news) (T : Top p loose mean mg mb h₀) (hA : A.frames = some (env :: outer)) (hf : env.frame = some L) (hke : env.scope.kind = .function)
    (ho : K.lookup f = some ⟨oc, od, .func (fnOf name qual params body scope dV kV doc pm an cdv ct), osl⟩) (hcd : codeIn K cdv qual = true) (hroom : A.depth < recursionLimit)
    (hv : args.pos.drop (params.posonlyargs.length + params.args.length) = vs)
    (hp : peek1 K ⟨prog, w.params⟩ (bindArgs (fnOf name qual params body scope dV kV doc pm an cdv ct) args) = some (({ cls := .type "tuple", data := .seq vs.toArray } : Obj), g₁))
    (hg : ∀ D, g₁ D = some (binds D)) (hkind : ∀ D, ((binds D).all fun y => scope.names.lookup y.1 == some .local || scope.names.lookup y.1 == some .cell) = true)
    (hnd : ((cellsFrom 0 scope.names []).map (·.1)).Nodup)
    (h : ∀ D g L' h₁ tk cells, (∀ p ∈ news, p.1 < D) → Fr h₀ L g m → Fr g L' h₁ (bindL (envOfC qual scope L' f cdv).kindOf (binds D) fun _ => none) → News g L' h₁ (cells ++ (D, ({ cls := .type "tuple", data := .seq vs.toArray } : Obj)) :: news) →
      CellsAre (bindC (envOfC qual scope L' f cdv).kindOf (binds D) fun _ => none) (cellsFrom (L' + 1) scope.names []) cells → Below A base (env :: outer) g → K.In g → Top p loose mean mg mb g → (∀ p ∈ (D, ({ cls := .type "tuple", data := .seq vs.toArray } : Obj)) :: news, p.1 < L') →
      wpAny (model prog w) (A.deeper (envOfC qual scope L' f cdv)) (execs body (envOfC qual scope L' f cdv))
        (fun fl s' => LeaveK h₀ L m g R (match fl with | .ret v => v | _ => .none) s')
        (fun e s' => wpAny (model prog w) (A.deeper (envOfC qual scope L' f cdv)) (leaving (envOfC qual scope L' f cdv) e) (fun _ s'' => R (.error e) s'') (fun e' s'' => R (.error e') s'') s')
        { s with heap := h₁, toks := tk })
    (hco : scope.isCoroutine = false) (hgen : scope.isGenerator = false) (hk : scope.kind = .function) : codeAny (model prog w) A (.call (.ref f) args) R s := by
  have _ := hv
  refine codeAny_call_function (fd := fnOf name qual params body scope dV kV doc pm an cdv ct) (body := body) hroom ((X₀.keeps F.keep) _ _ ho) rfl hco hgen rfl (codeRec_of (X₀.keeps F.keep) hcd) ?_
  refine wp_of_peek1 (o := ({ cls := .type "tuple", data := .seq vs.toArray } : Obj)) F N (X₀.keeps F.keep) rfl (r := binds) (fun D h' F' N' l => ?_) _ g₁ hp hg
  exact frame_cells (s := { s with heap := h' }) B F' N' T.nolimit hA hf hke (kindsX (hkind D)) hnd (fun g L' h₁ tk cells FG FL NG Y BG st l2 => h D g L' h₁ tk cells l FG FL NG Y BG (X₀.keeps st) (T.keeps st) l2) hk
end
end Mine
end
section
open PySem PySem.W PySem.Calls PyProof.Rows PySem.Spec
set_option Elab.async false
set_option maxRecDepth 100000
set_option linter.unusedVariables false
namespace Mine
section
variable {prog : Program} {w : World} {A : Around} {E : Value → Shared → Prop} {s : Shared} {h₀ : Heap} {L : Addr} {m : Str → Option Value} {news : List (Addr × Obj)}
/-- list(range(..)), any step -/
theorem mk_range {r : Addr} {a b c : Int} {t u v : Tok} {n : Nat} {Q : Value → Shared → Prop} (hh : A.handled = none) (F : Fr h₀ L s.heap m) (N : News h₀ L s.heap news) (hr : IsRange s.heap r a b c t u v) (hsmall : Builtin.Range.small a b c = true) (hn : Builtin.Range.rangeSize a b c = (n : Int)) (hz : n ≤ 2 ^ 24)
    (h : ∀ D us k h' tk, Fr h₀ L h' m → News h₀ L h' ((D, listOf (List.toArray us) k) :: news) → (∀ p ∈ news, p.1 < D) → us.length = n → (∀ j, j < n → ∃ t, us[j]? = some (Value.int (a + (j : Nat) * c) t)) → Q (.ref D) { s with heap := h', toks := tk }) :
    wpAny (model prog w) A (call (.type "list") [.ref r]) Q E s := by
  refine call_list_range hh hr hsmall hn hz fun h' tk acc k hk hD hI => ?_
  have hD' : h'.get? s.heap.objs.size = some (listOf (List.toArray acc.toList) k) := by
    rw [Array.toArray_toList]
    exact hD
  have hl : acc.toList.length = n := by rw [Array.length_toList]; exact hI.1
  refine h _ acc.toList k h' tk (F.keeps hk) (news_pushed F N hk hD' rfl) (fun p hp => Heap.lt_size (N p hp).1) hl fun j hj => ?_
  have hj' : j < acc.toList.length := by rw [hl]; exact hj
  have e : acc[j]? = some acc.toList[j] := by rw [← Array.getElem?_toList, List.getElem?_eq_getElem hj']
  obtain ⟨t, ht⟩ := hI.2 j _ e
  exact ⟨t, by rw [List.getElem?_eq_getElem hj', ht]⟩
theorem one_sub {value slice : PySem.Expr} {n : Nat} {T : Nat → Int} {r : Addr} {k : Int} {u : Tok} {Q : Value → Shared → Prop} (N : News h₀ L s.heap news) (hT : IsTab news [r] n (fun _ => T))
    (h0 : 0 ≤ k) (hfit : k < 2 ^ 63) (hk : k.toNat < n) (h : ∀ t, Q (.int (T k.toNat) t) s)
    (hs : subscripted slice false (.ref r) (.int k u) = operate [.ref r, .int k u] (getItem (.ref r) (.int k u)) := by with_unfolding_all rfl) :
    wpAny (model prog w) A (subscriptTail value slice (.ref r) (.int k u)) Q E s :=
  tab_sub N hT (i := 0) rfl h0 hfit hk h hs
theorem one_set {n n' : Nat} {T T' : Nat → Int} {r r' : Addr} {k x : Int} {t u : Tok} {Q : Unit → Shared → Prop} (F : Fr h₀ L s.heap m) (N : News h₀ L s.heap news) (hT : IsTab news [r] n (fun _ => T)) (hne : r' ≠ r) (hT' : IsTab news [r'] n' (fun _ => T'))
    (h0 : 0 ≤ k) (hfit : k < 2 ^ 63) (hk : k.toNat < n)
    (h : ∀ h' o, Fr h₀ L h' m → News h₀ L h' (setAt r o news) → IsTab (setAt r o news) [r] n (fun _ b => if b = k.toNat then x else T b) → IsTab (setAt r o news) [r'] n' (fun _ => T') → Q () { s with heap := h' }) :
    wpAny (model prog w) A (setItem (.ref r) (.int k t) (.int x u)) Q E s := by
  refine tab_set F N hT (by simp) (i := 0) rfl h0 hfit hk fun h' o F' N' T1 => h h' o F' N' (T1.congr fun i j hi hj => ?_) (hT'.mono fun p hp hr => setAt_ne hp ?_)
  · have : i = 0 := by simpa using hi
    subst this
    simp
  · rw [List.mem_singleton.mp hr]; exact hne
theorem setAt_append (r : Addr) (o : Obj) (a b : List (Addr × Obj)) : setAt r o (a ++ b) = setAt r o a ++ setAt r o b := List.map_append
theorem setAt_off {r : Addr} {o : Obj} {l : List (Addr × Obj)} (h : ∀ p ∈ l, p.1 ≠ r) : setAt r o l = l := by
  unfold setAt
  rw [show l = l.map id from (List.map_id l).symm, List.map_map]
  exact List.map_congr_left fun p hp => if_neg (h p (by simpa using hp))
end
theorem tab_one {r : Addr} {us : List Value} {k n : Nat} {T : Nat → Int} {news : List (Addr × Obj)} (hm : (r, listOf us.toArray k) ∈ news) (hl : us.length = n) (h : ∀ j, j < n → ∃ t, us[j]? = some (Value.int (T j) t)) : IsTab news [r] n (fun _ => T) := fun i q hq => by
  have hi := (List.getElem?_eq_some_iff.mp hq).1
  have : i = 0 := by simpa using hi
  subst this
  have : r = q := by simpa using hq
  subst this
  exact ⟨us, k, hm, hl, h⟩
theorem pick_mem {h₀ h : Heap} {L : Addr} {big nx : List (Addr × Obj)} {p : Addr × Obj} (N : News h₀ L h big) (hsub : ∀ p ∈ nx, p ∈ big) (hp : p ∈ big) (ha : p.1 ∈ nx.map (·.1)) : p ∈ nx := by
  obtain ⟨q, hq, e⟩ := List.mem_map.mp ha
  have h1 := (N _ (hsub q hq)).1
  have h2 := (N _ hp).1
  obtain ⟨q1, q2⟩ := q
  obtain ⟨p1, p2⟩ := p
  simp only at e h1 h2
  subst e
  rw [h1] at h2
  rw [← Option.some.inj h2]
  exact hq
def upd (f : Nat → Int) (k : Nat) (v : Int) : Nat → Int := fun j => if j = k then v else f j
/-- one crossing of two threads -/
def cellF (la lb : List Str) (k n : Nat) (st : (Nat → Int) × (Nat → Int)) : (Nat → Int) × (Nat → Int) :=
  if la[k]? = lb[n]? ∨ st.1 k > st.2 n then (upd st.1 k (st.2 n), upd st.2 n (st.1 k)) else st
def rowF (la lb : List Str) (k : Nat) (st : (Nat → Int) × (Nat → Int)) : Nat → (Nat → Int) × (Nat → Int)
  | 0 => st
  | n + 1 => cellF la lb k n (rowF la lb k st n)
def rowsF (la lb : List Str) : Nat → (Nat → Int) × (Nat → Int)
  | 0 => (fun k => (la.length : Int) - 1 - (k : Nat), fun n => (la.length : Int) + (n : Nat))
  | k + 1 => rowF la lb k (rowsF la lb k) lb.length

/-- two rows of ints in a loop -/
def TwoJ (st : List Str) (base : List (Addr × Obj)) (ra rd : Addr) (M N : Nat) (T : Nat → (Nat → Int) × (Nat → Int)) (m₀ : Str → Option Value) (NL : List (Addr × Obj)) (i : Nat) (m : Str → Option Value) (nx : List (Addr × Obj)) : Prop :=
  (∀ z, st.contains z = false → m z = m₀ z) ∧ nx.map (·.1) = NL.map (·.1) ∧ (∀ p ∈ base, p ∈ nx) ∧ IsTab nx [ra] M (fun _ => (T i).1) ∧ IsTab nx [rd] N (fun _ => (T i).2)
theorem map_setAt {r : Addr} {o : Obj} {l k : List (Addr × Obj)} (h : l.map (·.1) = k.map (·.1)) : (setAt r o l).map (·.1) = k.map (·.1) := by
  rw [setAt_addrs]; exact h
theorem two_stay {h₀ h' : Heap} {L ra rd : Addr} {st : List Str} {base own nx NL : List (Addr × Obj)} {M N i tk : Nat} {T : Nat → (Nat → Int) × (Nat → Int)} {T₁ T₂ : Nat → Int} {m₀ m' : Str → Option Value} {s₁ : Shared} {Q : Flow → Shared → Prop}
    (F : Fr h₀ L h' m') (Nn : News h₀ L h' (nx ++ own)) (hon : OwnOff own (nx.map (·.1))) (hmap : nx.map (·.1) = NL.map (·.1)) (hbase : ∀ p ∈ base, p ∈ nx) (h1 : IsTab nx [ra] M (fun _ => T₁)) (h2 : IsTab nx [rd] N (fun _ => T₂)) (e : T (i + 1) = (T₁, T₂))
    (hrest : ∀ z, st.contains z = false → m' z = m₀ z) :
    InvPostG h₀ L (TwoJ st base ra rd M N T m₀ NL (i + 1)) own s₁ Q .next { s₁ with heap := h', toks := tk } := by
  refine InvEndG.intro F Nn (nx := nx) ⟨hrest, hmap, hbase, by rw [e]; exact h1, by rw [e]; exact h2⟩ hon (fun p hp => List.mem_append_left _ hp) (fun p hp => List.mem_append_right _ hp)
theorem two_swap {h₀ h' : Heap} {L ra rd : Addr} {o₁ o₂ : Obj} {st : List Str} {base own nx NL : List (Addr × Obj)} {M N i tk : Nat} {T : Nat → (Nat → Int) × (Nat → Int)} {T₁ T₂ : Nat → Int} {m₀ m' : Str → Option Value} {s₁ : Shared} {Q : Flow → Shared → Prop}
    (F : Fr h₀ L h' m') (Nn : News h₀ L h' (setAt rd o₂ (setAt ra o₁ (nx ++ own)))) (hon : OwnOff own (nx.map (·.1))) (hmap : nx.map (·.1) = NL.map (·.1)) (hbase : ∀ p ∈ base, p ∈ nx)
    (hra : ra ∈ nx.map (·.1)) (hrd : rd ∈ nx.map (·.1)) (hoa : ∀ p ∈ base, p.1 ≠ ra) (hod : ∀ p ∈ base, p.1 ≠ rd)
    (h1 : IsTab (setAt rd o₂ (setAt ra o₁ (nx ++ own))) [ra] M (fun _ => T₁)) (h2 : IsTab (setAt rd o₂ (setAt ra o₁ (nx ++ own))) [rd] N (fun _ => T₂)) (e1 : ∀ j, j < M → T₁ j = (T (i + 1)).1 j) (e2 : ∀ j, j < N → T₂ j = (T (i + 1)).2 j)
    (hrest : ∀ z, st.contains z = false → m' z = m₀ z) :
    InvPostG h₀ L (TwoJ st base ra rd M N T m₀ NL (i + 1)) own s₁ Q .next { s₁ with heap := h', toks := tk } := by
  have ha : ∀ p ∈ own, p.1 ≠ ra := fun p hp => hon p hp ra hra
  have hd : ∀ p ∈ own, p.1 ≠ rd := fun p hp => hon p hp rd hrd
  have e : setAt rd o₂ (setAt ra o₁ (nx ++ own)) = setAt rd o₂ (setAt ra o₁ nx) ++ own := by
    rw [setAt_append, setAt_off ha, setAt_append, setAt_off hd]
  rw [e] at Nn h1 h2
  have hm : (setAt rd o₂ (setAt ra o₁ nx)).map (·.1) = nx.map (·.1) := by rw [setAt_addrs, setAt_addrs]
  have hsub : ∀ p ∈ setAt rd o₂ (setAt ra o₁ nx), p ∈ setAt rd o₂ (setAt ra o₁ nx) ++ own := fun p hp => List.mem_append_left _ hp
  refine InvEndG.intro F Nn (nx := setAt rd o₂ (setAt ra o₁ nx)) ⟨hrest, hm.trans hmap, fun p hp => setAt_ne (setAt_ne (hbase p hp) (hoa p hp)) (hod p hp), ?_, ?_⟩ (by rw [hm]; exact hon) hsub (fun p hp => List.mem_append_right _ hp)
  · exact (h1.narrow Nn hsub (fun r hr => by rw [List.mem_singleton.mp hr, hm]; exact hra)).congr fun _ j _ hj => e1 j hj
  · exact (h2.narrow Nn hsub (fun r hr => by rw [List.mem_singleton.mp hr, hm]; exact hrd)).congr fun _ j _ hj => e2 j hj
theorem cell_eq {a b : Str} {i j : Nat} {vi vj : Int} (hi : i < a.length) (hj : j < b.length) (ei : vi = i) (ej : vj = j) (h : (Txt.item a vi == Txt.item b vj) = true) : (signs a)[i]? = (signs b)[j]? := by
  rw [sign_item hi ei, sign_item hj ej] at h
  rw [getD_getElem? (d := Str.empty) (by rw [signs_length]; exact hi), getD_getElem? (l := signs b) (d := Str.empty) (by rw [signs_length]; exact hj), eq_of_beq h]
theorem cell_ne {a b : Str} {i j : Nat} {vi vj : Int} (hi : i < a.length) (hj : j < b.length) (ei : vi = i) (ej : vj = j) (h : (Txt.item a vi == Txt.item b vj) = false) : (signs a)[i]? ≠ (signs b)[j]? := by
  rw [sign_item hi ei, sign_item hj ej] at h
  rw [getD_getElem? (d := Str.empty) (by rw [signs_length]; exact hi), getD_getElem? (l := signs b) (d := Str.empty) (by rw [signs_length]; exact hj)]
  intro e
  rw [Option.some.inj e] at h
  simp at h
theorem row_swap1 {la lb : List Str} {i j : Nat} {vi vj : Int} {st : (Nat → Int) × (Nat → Int)} (ei : vi = i) (ej : vj = j) (h : la[i]? = lb[j]? ∨ (rowF la lb i st j).1 vi.toNat > (rowF la lb i st j).2 vj.toNat) :
    (fun x => if x = vi.toNat then (rowF la lb i st j).2 vj.toNat else (rowF la lb i st j).1 x) = (rowF la lb i st (j + 1)).1 ∧ (fun x => if x = vj.toNat then (rowF la lb i st j).1 vi.toNat else (rowF la lb i st j).2 x) = (rowF la lb i st (j + 1)).2 := by
  subst ei; subst ej
  rw [Int.toNat_natCast, Int.toNat_natCast] at *
  rw [rowF, cellF, if_pos h]
  exact ⟨rfl, rfl⟩
theorem row_stay {la lb : List Str} {i j : Nat} {vi vj : Int} {st : (Nat → Int) × (Nat → Int)} (ei : vi = i) (ej : vj = j) (h : la[i]? ≠ lb[j]?) (h2 : ¬ (rowF la lb i st j).1 vi.toNat > (rowF la lb i st j).2 vj.toNat) :
    rowF la lb i st (j + 1) = ((rowF la lb i st j).1, (rowF la lb i st j).2) := by
  subst ei; subst ej
  rw [Int.toNat_natCast, Int.toNat_natCast] at *
  rw [rowF, cellF, if_neg (fun c => c.elim h h2)]
theorem two_row {h₀ h' : Heap} {L ra rd : Addr} {st : List Str} {base own nx nx₂ NL : List (Addr × Obj)} {M N i tk : Nat} {T : Nat → (Nat → Int) × (Nat → Int)} {T₁ T₂ : Nat → Int} {m₀ m' : Str → Option Value} {s₁ : Shared} {Q : Flow → Shared → Prop}
    (F : Fr h₀ L h' m') (Nn : News h₀ L h' nx₂) (hon : OwnOff own (nx.map (·.1))) (hmap : nx.map (·.1) = NL.map (·.1)) (hbase : ∀ p ∈ base, p ∈ nx) (hra : ra ∈ nx.map (·.1)) (hrd : rd ∈ nx.map (·.1)) (hmap2 : nx₂.map (·.1) = (nx ++ own).map (·.1)) (hbase2 : ∀ p ∈ base ++ own, p ∈ nx₂)
    (h1 : IsTab nx₂ [ra] M (fun _ => T₁)) (h2 : IsTab nx₂ [rd] N (fun _ => T₂)) (e : T (i + 1) = (T₁, T₂)) (hrest : ∀ z, st.contains z = false → m' z = m₀ z) :
    InvPostG h₀ L (TwoJ st base ra rd M N T m₀ NL (i + 1)) own s₁ Q .next { s₁ with heap := h', toks := tk } := by
  have hm : (nx₂.take nx.length).map (·.1) = nx.map (·.1) := by
    rw [List.map_take, hmap2, List.map_append, show nx.length = (nx.map (·.1)).length by simp, List.take_left]
  have hsub : ∀ p ∈ nx₂.take nx.length, p ∈ nx₂ := fun p hp => List.mem_of_mem_take hp
  refine InvEndG.intro F Nn (nx := nx₂.take nx.length) ⟨hrest, hm.trans hmap, fun p hp => pick_mem Nn hsub (hbase2 p (List.mem_append_left _ hp)) (by rw [hm]; exact List.mem_map.mpr ⟨p, hbase p hp, rfl⟩), ?_, ?_⟩ (by rw [hm]; exact hon) hsub (fun p hp => hbase2 p (List.mem_append_right _ hp))
  · rw [e]
    exact h1.narrow Nn hsub (fun r hr => by rw [List.mem_singleton.mp hr, hm]; exact hra)
  · rw [e]
    exact h2.narrow Nn hsub (fun r hr => by rw [List.mem_singleton.mp hr, hm]; exact hrd)
/-- the threads at the end -/
def threads (a b : Str) : Nat → Int := (rowsF (signs a) (signs b) a.length).2
end Mine
end
section
open PySem PySem.W PySem.Calls PyProof.Rows PySem.Spec
set_option Elab.async false
set_option maxRecDepth 100000
set_option linter.unusedVariables false
namespace Mine
/-- the end of a turn that leaves by no return -/
def NextG (h₀ : Heap) (L : Addr) (J : (Str → Option Value) → List (Addr × Obj) → Prop) (own : List (Addr × Obj)) (s₁ : Shared) (f : Flow) (s₂ : Shared) : Prop := f = .next ∧ InvEndG h₀ L J own s₁ s₂
section
variable {prog : Program} {w : World} {A : Around} {E : Value → Shared → Prop} {s : Shared} {h₀ : Heap} {m₀ : Str → Option Value} {news : List (Addr × Obj)} {env : Env} {body : List Stmt} {Q : Flow → Shared → Prop} {target : Expr}
/-- a loop over a range, any target, by an invariant -/
theorem range_invT {r : Addr} {a₀ b₀ : Int} {t₀ u₀ v₀ : Tok} {n : Nat} (JJ : (Str → Option Value) → List (Addr × Obj) → Nat → (Str → Option Value) → List (Addr × Obj) → Prop) (hgo : ∀ I v, letOwnedTupleGo target I v = pure ()) (hh : A.handled = none) (hr : IsRange s.heap r a₀ b₀ 1 t₀ u₀ v₀) (hsmall : Builtin.Range.small a₀ b₀ 1 = true) (hsz : Builtin.Range.rangeSize a₀ b₀ 1 = (n : Int))
    (F : Fr h₀ env.locals s.heap m₀) (N : News h₀ env.locals s.heap news) (hj : JJ m₀ news 0 m₀ news)
    (turn : ∀ i t m₁ nx s₁ own, i < n → OwnOff own (nx.map (·.1)) → JJ m₀ news i m₁ nx → Fr h₀ env.locals s₁.heap m₁ → News h₀ env.locals s₁.heap (nx ++ own) →
      wpAny (model prog w) A (assign target env (.int (a₀ + (i : Nat)) t)) (fun _ s₃ => wpAny (model prog w) A (execs body env) (NextG h₀ env.locals (JJ m₀ news (i + 1)) own s₁) E s₃) E s₁)
    (done : ∀ m₁ nx h tk, JJ m₀ news n m₁ nx → Fr h₀ env.locals h m₁ → News h₀ env.locals h nx → Q .next { s with heap := h, toks := tk }) :
    wpAny (model prog w) A (pyIter (.ref r)) (fun it s₂ => LoopAtT prog w A h₀ env target body Q E it s₂) E s := by
  refine wpAny_pyIter_range hr hsmall ?_
  have W : Walks prog w A s.heap.objs.size [s.heap.objs.size] [s.heap.objs.size] n (fun i v => i < n ∧ ∃ t, v = .int (a₀ + i * 1) t)
      (fun i h => IsRangeIter h s.heap.objs.size (a₀ + (i : Nat) * 1) ((n : Int) - (i : Nat)) 1) := (Walks.range hh _ a₀ 1 n).bound
  refine ⟨_, _, _, _, _, _, m₀, news, JJ m₀ news, rfl, W, ?_, ?_, ?_, (by show IsRangeIter _ _ _ _ _; rw [hsz]; simpa using Heap.get?_push_size _ rfl), F.push _, (fun p hp => ⟨Heap.get?_push_of_some _ (N p hp).1, (N p hp).2⟩), ?_, hj, ?_, ?_⟩
  · intro hm
    exact absurd F.ns.lt ((List.mem_singleton.mp hm) ▸ Nat.lt_irrefl _)
  · intro b hb
    rw [List.mem_singleton.mp hb]
    exact next_is_new F
  · intro p hp hI
    exact absurd (Heap.lt_size (N p hp).1) ((List.mem_singleton.mp hI) ▸ Nat.lt_irrefl _)
  · intro i s' v Q' _ hQ
    rw [hgo]
    exact wpAny_pure hQ
  · rintro i v m₁ news₁ s₁ own hin ⟨_, t, rfl⟩ hJ hoff hown _ hmem hst' F₁ N₁
    have hsep : OwnOff own (news₁.map (·.1)) := by
      intro p hp b hb e
      obtain ⟨q, hq, rfl⟩ := List.mem_map.mp hb
      exact hoff q hq (e ▸ hown p hp)
    have N₂ : News h₀ env.locals s₁.heap (news₁ ++ own) := fun p hp => N₁ p ((List.mem_append.mp hp).elim (fun h => List.mem_append.mpr (.inr h)) fun h => List.mem_append.mpr (.inl h))
    have e1 : a₀ + (i : Int) * 1 = a₀ + (i : Int) := by omega
    rw [e1]
    refine wpAny_mono (turn i t m₁ news₁ s₁ own hin hsep hJ F₁ N₂) (fun _ s₃ h₃ => wpAny_mono h₃ (fun f s₂ p => ?_) fun _ _ e => e) fun _ _ e => e
    obtain ⟨rfl, h', tk, m', news', nx, e, F', N', hn, ho, ha, hm⟩ := p
    refine ⟨rfl, h', tk, m', nx, e, F', fun p hp => N' p ((List.mem_append.mp hp).elim (ho p) (hn p)), fun p hp hq => ?_, hm⟩
    have hb := List.mem_singleton.mp hq
    have ho' : ∃ o, s₁.heap.get? p.1 = some o := ⟨_, by rw [hb]; exact hst'⟩
    obtain ⟨o, hbo⟩ := ho'
    exact ha _ (hmem _ hq (by rw [hb]; exact next_is_new F) o hbo) p.1 (List.mem_map.mpr ⟨p, hp, rfl⟩) rfl
  · rintro h' tk m' news' F' N' _ hJ
    exact done m' news' h' tk hJ F' N'
end
theorem pick5 {h₀ h : Heap} {L : Addr} {a0 a1 a2 a3 a4 a5 a6 a7 a8 a9 a10 : Addr × Obj} {r : List (Addr × Obj)} (N : News h₀ L h (a0 :: a1 :: a2 :: a3 :: a4 :: a5 :: a6 :: a7 :: a8 :: a9 :: a10 :: r)) : News h₀ L h [a9, a1, a2, a3, a10] := cb_drop N fun p hp => by
  simp only [List.mem_cons, List.not_mem_nil, or_false] at hp ⊢
  rcases hp with h | h | h | h | h
  · exact .inr (.inr (.inr (.inr (.inr (.inr (.inr (.inr (.inr (.inl h)))))))))
  · exact .inr (.inl h)
  · exact .inr (.inr (.inl h))
  · exact .inr (.inr (.inr (.inl h)))
  · exact .inr (.inr (.inr (.inr (.inr (.inr (.inr (.inr (.inr (.inr (.inl h))))))))))
/-- the outer loop: its variable lies in a cell, the first of the ledger -/
def FirstJ (st : List Str) (m₀ : Str → Option Value) (NL : List (Addr × Obj)) (i : Nat) (m : Str → Option Value) (nx : List (Addr × Obj)) : Prop :=
  (∃ c o₀ r, NL = (c, o₀) :: r ∧ ∃ o v, o.data = Data.cell v ∧ nx = (c, o) :: r) ∧ ∀ z, st.contains z = false → m z = m₀ z
/-- the inner loop: the ledger stands -/
def StayJ (st : List Str) (m₀ : Str → Option Value) (NL : List (Addr × Obj)) (i : Nat) (m : Str → Option Value) (nx : List (Addr × Obj)) : Prop :=
  nx = NL ∧ ∀ z, st.contains z = false → m z = m₀ z
theorem stay_end {h₀ h' : Heap} {L : Addr} {i tk : Nat} {st : List Str} {nx own led : List (Addr × Obj)} {m₀ m' : Str → Option Value} {s₁ : Shared} {Q : Flow → Shared → Prop}
    (F : Fr h₀ L h' m') (N : News h₀ L h' led) (hk : ∀ p ∈ nx ++ own, p ∈ led) (hoff : OwnOff own (nx.map (·.1))) (hrest : ∀ z, st.contains z = false → m' z = m₀ z) :
    InvPostG h₀ L (StayJ st m₀ nx (i + 1)) own s₁ Q .next { s₁ with heap := h', toks := tk } :=
  InvEndG.intro F (fun p hp => N p (hk p hp)) (nx := nx) ⟨rfl, hrest⟩ hoff (fun p hp => List.mem_append_left _ hp) (fun p hp => List.mem_append_right _ hp)
section
variable {prog : Program} {w : World} {A : Around} {E : Value → Shared → Prop} {s : Shared} {h₀ : Heap} {L : Addr} {m : Str → Option Value} {news : List (Addr × Obj)}
theorem max_nat {a b : Int} {k : Nat} {t u : Tok} {Q : Value → Shared → Prop} (hh : A.handled = none) (F : Fr h₀ L s.heap m) (N : News h₀ L s.heap news) (e : (k : Int) = if b > a then b else a)
    (h : ∀ h' tk t', Fr h₀ L h' m → News h₀ L h' news → Q (.int (k : Nat) t') { s with heap := h', toks := tk }) :
    wpAny (model prog w) A (call (.builtin "max") [.int a t, .int b u]) Q E s :=
  max_two_N hh F N fun h' tk F' N' => by
    rw [← e]
    exact h h' tk _ F' N'
end
section
variable {prog : Program} {w : World} {A : Around} {h₀ : Heap} {L : Addr} {m : Str → Option Value} {env : Env} {ct elt : Expr} {x : Str} {scope : Scope} {cl : List (Str × Addr)} {s : Shared} {S : List (Addr × Obj) → Prop} {P : Nat → Value → Prop} {Fin : List Value → List (Addr × Obj) → Prop} {news : List (Addr × Obj)}
/-- a comprehension with a test by an invariant -/
theorem comp_invT {n : Nat} (J : Nat → List Value → List (Addr × Obj) → Prop)
    (turn : ∀ i v I oI C oC D m₂ ys nx h tk (E' : Value → Shared → Prop), i < n → P i v → J i ys nx → LCg.NsObj oC m₂ → m₂ x = some v → Fr h₀ L h m → News h₀ L h ((I, oI) :: (C, oC) :: (D, LCg.lst ys) :: nx) → LCg.Off3 I C D nx → ((@Ne Nat I C) ∧ (@Ne Nat I D) ∧ (@Ne Nat C D)) →
      wpAny (model prog w) A (isTrue ct (compEnvC scope cl C env) (eval ct (compEnvC scope cl C env))) (fun ok s' => if ok = true then
        wpAny (model prog w) A (eval elt (compEnvC scope cl C env)) (LCg.CompEnd h₀ L m { s with heap := h, toks := tk } I oI C oC D (LCg.lst ys) S (fun y nx' => J (i + 1) (ys ++ [y]) nx')) E' s'
        else LCg.CompEnd h₀ L m { s with heap := h, toks := tk } I oI C oC D (LCg.lst ys) S (fun _ nx' => J (i + 1) ys nx') Value.none s') E' { s with heap := h, toks := tk })
    (h0 : J 0 [] news) (fin : ∀ ys nx, J n ys nx → Fin ys nx) : LCt.CompRestT prog w A h₀ L m env ct elt x scope cl s S P Fin n 0 [] news := by
  have key : ∀ (j i : Nat) (ys : List Value) (nx : List (Addr × Obj)), i + j = n → J i ys nx → LCt.CompRestT prog w A h₀ L m env ct elt x scope cl s S P Fin j i ys nx := by
    intro j
    induction j with
    | zero =>
      intro i ys nx hi hy
      have e : i = n := by omega
      subst e
      exact LCt.CompRestT.zero (fin ys nx hy)
    | succ j ih =>
      intro i ys nx hi hy
      refine LCt.CompRestT.succ ?_
      intro v I oI C oC D m₂ h tk E' hv hC hx F N off ne
      refine wpAny_mono (turn i v I oI C oC D m₂ ys nx h tk E' (by omega) hv hy hC hx F N off ne) (fun ok s₁ h₁ => ?_) fun _ _ e => e
      cases ok with
      | true =>
        simp only [if_true] at h₁ ⊢
        refine wpAny_mono h₁ (fun y s₂ hq => ?_) fun _ _ e => e
        obtain ⟨h', tk', nw, e, F', N', off', hS, hj⟩ := hq
        exact ⟨h', tk', nw, e, F', N', off', hS, ih (i + 1) _ nw (by omega) hj⟩
      | false =>
        simp only [Bool.false_eq_true, if_false] at h₁ ⊢
        obtain ⟨h', tk', nw, e, F', N', off', hS, hj⟩ := h₁
        exact ⟨h', tk', nw, e, F', N', off', hS, ih (i + 1) _ nw (by omega) hj⟩
  exact key n 0 [] news (by omega) h0
end
theorem first_end {h₀ h' : Heap} {L c : Addr} {o₀ o₁ o' : Obj} {v : Option Value} {i tk : Nat} {st : List Str} {r own led : List (Addr × Obj)} {m₀ m' : Str → Option Value} {s₁ : Shared}
    (F : Fr h₀ L h' m') (N : News h₀ L h' led) (hd : o'.data = Data.cell v) (hk : ∀ p ∈ ((c, o') :: r) ++ own, p ∈ led) (hoff : OwnOff own (((c, o₁) :: r).map (·.1))) (hrest : ∀ z, st.contains z = false → m' z = m₀ z) :
    NextG h₀ L (FirstJ st m₀ ((c, o₀) :: r) (i + 1)) own s₁ .next { s₁ with heap := h', toks := tk } :=
  ⟨rfl, InvEndG.intro F (fun p hp => N p (hk p hp)) (nx := (c, o') :: r) ⟨⟨c, o₀, r, rfl, o', v, hd, rfl⟩, hrest⟩ hoff (fun p hp => List.mem_append_left _ hp) (fun p hp => List.mem_append_right _ hp)⟩
theorem ints_of {vs : List Value} {f : Nat → Int} : ∀ {n : Nat}, vs.length = n → (∀ j, j < n → ∃ t, vs[j]? = some (.int (f j) t)) → IntsAre vs ((List.range n).map f) := by
  induction vs generalizing f with
  | nil =>
    intro n h _
    subst h
    exact .nil
  | cons v r ih =>
    intro n h hv
    subst h
    obtain ⟨t, ht⟩ := hv 0 (Nat.zero_lt_succ _)
    have e : v = .int (f 0) t := by simpa using ht
    subst e
    rw [List.length_cons, List.range_succ_eq_map, List.map_cons, List.map_map]
    refine IntsAre.cons _ _ (ih (f := f ∘ Nat.succ) rfl fun j hj => ?_)
    obtain ⟨t', ht'⟩ := hv (j + 1) (Nat.succ_lt_succ hj)
    exact ⟨t', by simpa using ht'⟩
/-- the small ones among the first -/
def small (T : Nat → Int) (c : Int) (n : Nat) : Nat := ((List.range n).filter fun q => decide (T q < c)).length
theorem small_zero (T : Nat → Int) (c : Int) : small T c 0 = 0 := rfl
theorem small_yes {T : Nat → Int} {c : Int} {n : Nat} (h : T n < c) : small T c (n + 1) = small T c n + 1 := by
  unfold small
  rw [List.range_succ, List.filter_append, List.filter_cons_of_pos (by simpa using h)]
  simp
theorem small_no {T : Nat → Int} {c : Int} {n : Nat} (h : ¬ T n < c) : small T c (n + 1) = small T c n := by
  unfold small
  rw [List.range_succ, List.filter_append, List.filter_cons_of_neg (by simpa using h)]
  simp
theorem small_le (T : Nat → Int) (c : Int) (n : Nat) : small T c n ≤ n := by
  have := List.length_filter_le (fun q => decide (T q < c)) (List.range n)
  rw [List.length_range] at this
  exact this
theorem range_get {f : Nat → Int} {n k q : Nat} {x : Int} (h : (List.take k ((List.range n).map f))[q]? = some x) : x = f q := by
  rw [List.getElem?_take] at h
  split at h
  · rw [List.getElem?_map] at h
    obtain ⟨y, hy, e⟩ := Option.map_eq_some_iff.mp h
    rw [List.getElem?_eq_some_iff] at hy
    obtain ⟨hq, hy⟩ := hy
    rw [List.getElem_range] at hy
    rw [← e, hy]
  · cases h
end Mine
end
section
open PySem PySem.W PyProof.Rows
set_option Elab.async false
set_option maxRecDepth 100000
set_option maxHeartbeats 0
set_option linter.unusedVariables false
namespace Mine
open_top hd for PySem.Challenge.rw_dr5025_01
end Mine
end
section
open PySem PySem.W PyProof.Rows
set_option Elab.async false
set_option maxRecDepth 100000
set_option maxHeartbeats 0
set_option linter.unusedVariables false
namespace Mine
def lcs (a b : Str) : Str := tb (signs a) (signs b) a.length b.length (Str.ofString "")

local macro_rules | `(tactic| walk_at "pyIter ref") => `(tactic| (refine Stop.out ?_))
local macro_rules | `(tactic| walk_at "subscriptTail") => `(tactic| (k_here; (with_reducible show wpAny _ _ (subscriptTail _ _ (Value.ref _) (Value.int _ _)) _ _ _); k_dflt (refine' tab_sub ?k1 ?k2 ?k3 ?k4 ?k5 ?k6 ?_ ?k7; (case k1 => k_asm); (case k2 => assumption); (case k3 => assumption); (case k4 => omega); (case k5 => omega); (case k6 => omega); (case k7 => with_unfolding_all rfl); k_whole); intro t5'))
local macro_rules | `(tactic| walk_at "subscriptTail") => `(tactic| (k_here; (with_reducible show wpAny _ _ (subscriptTail _ _ (Value.ref _) (Value.int _ _)) _ _ _); k_dflt (refine' outer_sub ?k1 ?k2 ?k3 ?k4 ?k5 ?_ ?k6; (case k1 => k_asm); (case k2 => k_mem); (case k3 => omega); (case k4 => omega); (case k5 => assumption); (case k6 => with_unfolding_all rfl); k_whole)))
local macro_rules | `(tactic| walk_at "setItem ref int") => `(tactic| (k_here; (with_reducible show wpAny _ _ (setItem (Value.ref _) (Value.int _ _) (Value.int _ _)) _ _ _); k_dflt (refine' tab_set ?k1 ?k2 ?k3 ?k4 ?k5 ?k6 ?k7 ?k8 ?_; (case k1 => k_asm); (case k2 => k_asm); (case k3 => assumption); (case k4 => assumption); (case k5 => assumption); (case k6 => omega); (case k7 => omega); (case k8 => omega); k_whole); intro h5' o5' F5' N5' T5'))
local macro_rules | `(tactic| walk_at "LoopStep3") => `(tactic| (refine Stop.out ?_))
local macro_rules | `(tactic| walk_at "exec While") => `(tactic| (refine Stop.out ?_))
local macro_rules | `(tactic| walk_at "CompSrc") => `(tactic| (refine Stop.out ?_))
local macro_rules | `(tactic| walk_at "CompEnd") => `(tactic| (refine Stop.out ?_))

theorem dyn (w : World) (mean : ExcName → Option Value) (mg mb : Str → Option Value) (news : List (Addr × Obj)) (x : Addr) (a b : Str) (ta tb : Tok) (dp un : Nat) (gd : Option (List Code)) (cn : Str) (cs : Scope) (ad : Addr) (ccd : Value) (cl : List (Str × Addr)) (outer : List Env) (A₀ : Around) (base h₀ : Heap) (L : Addr) (m : Str → Option Value) (s : Shared) (Q E : Value → Shared → Prop)
    (hB : Below A₀ base outer h₀) (hF : Fr h₀ L s.heap m) (hK : (hd.heap_39 w.params).In h₀) (hN : News h₀ L s.heap news) (hT : Top hd.view_39 (looseW hd.view_39 [Str.ofString "Base", Str.ofString "LCSSeq"]) mean mg mb h₀) (hk : cs.kind = .function)
    (hpre : a.length ≤ 100 ∧ b.length ≤ 100) (hdp : dp + 1 < recursionLimit) (hun : un + 8 < cLine) (hret : CbRet h₀ L m news s Q (fun t => .str (lcs a b) t)) :
    codeAny (model PySem.Challenge.rw_dr5025_01.row.prog w) (ktrTop dp un gd cn cs L ad ccd cl outer) (.call (.ref 203) ⟨[.ref x, .str a ta, .str b tb], []⟩) (fun r s' => match r with | .ok (.ret v) => Q v s' | .ok _ => False | .error e => E e s') s := by
  dsimp only [CbRet] at hret
  revert hK
  k_fill
  intro hK
  k_dflt (refine' code_defC ?k1 ?k2 ?k3 ?k4 ?k5 ?kA ?kF ?kK ?k6 ?k7 ?k8 ?k9 ?kB ?kD ?_ ?c2 ?c3 ?c4; (case kA => exact rfl); (case kF => exact rfl); (case kK => assumption); (case k1 => k_asm); (case k2 => k_asm); (case k3 => k_asm); (case k4 => k_asm); (case k5 => k_asm); (case k6 => k_is); (case k7 => k_is); (case k8 => ktr_room); (case k9 => exact BindsTo.of_eq rfl); (case kB => exact rfl); (case kD => decide +kernel); (case c2 => exact rfl); (case c3 => exact rfl); (case c4 => exact rfl); k_whole; intro g' L' h' tk' cells' FG' F' N' Y' B' X' T' l1; (try k_lt l1); k_cells Y'; (try simp only [List.cons_append, List.nil_append] at N'); (try dsimp only); (try k_lift B'); (try k_fold))
  rename_i oc dc
  k_steps
  refine Stop.mk ?_
  rename_i hr F1 N1 hk1
  have hpa := hpre.1
  have hpb := hpre.2
  refine LCg.CompSrc.range (n := a.length + 1) (by rfl) F1 N1 hr (small_one (by omega) (by omega) (by omega) (by omega)) (by rw [rangeSize_nat]; omega) (by rw [PySem.sizeLine_eq]; omega) ?_
  intro g2
  refine comp_inv (RowsJ (b.length + 1) ((L' + 1, oc) :: news)) ?turn (RowsJ.zero _ _) ?fin
  case turn =>
    intro i v I oI C oC D m₂ ys nx h2 tk2 E' hi hv hJ hC hx F2 N2 off ne
    have hcell : ∀ p ∈ (I, oI) :: (C, oC) :: (D, LCg.lst ys) :: (L' + 1, oc) :: nx, p ∈ (I, oI) :: (C, oC) :: (D, LCg.lst ys) :: nx := by
      obtain ⟨rs, _, _, _, _, hs, _⟩ := hJ
      have h1 := hs _ List.mem_cons_self
      intro p hp
      simp only [List.mem_cons] at hp ⊢
      rcases hp with h | h | h | h | h
      · exact .inl h
      · exact .inr (.inl h)
      · exact .inr (.inr (.inl h))
      · exact .inr (.inr (.inr (h ▸ h1)))
      · exact .inr (.inr (.inr h))
    replace N2 := cb_drop N2 hcell
    k_steps
    refine Stop.mk ?_
    rename_i l9 h9 F9 N9 lt9 D9 h10 F10 N10 i1 n1 s1 e1 e2 e3 lt10
    refine LCg.CompEnd.intro F10 N10 ((D9, listOf _ 0) :: nx) ?_ ⟨⟨Nat.ne_of_gt lt10.2.1, Nat.ne_of_gt lt10.2.2.1, Nat.ne_of_gt lt10.2.2.2.1⟩, off⟩ True.intro (hJ.succ (vs := (List.replicate ((b.length : Int) + 1).toNat [Value.int 0 tk2]).flatten) (allLt_mem lt10.2.2.2.2.2) ?_ ?_)
    · intro p hp
      simp only [List.mem_cons] at hp ⊢
      rcases hp with h | h | h | h | h
      · exact .inr (.inr (.inl h))
      · exact .inr (.inr (.inr (.inl h)))
      · exact .inr (.inr (.inr (.inr (.inl h))))
      · exact .inl h
      · exact .inr (.inr (.inr (.inr (.inr (.inr h)))))
    · simp
    · intro v hv
      simp only [List.mem_flatten, List.mem_replicate] at hv
      obtain ⟨l, ⟨_, rfl⟩, hv⟩ := hv
      exact ⟨_, List.mem_singleton.mp hv⟩
  case fin =>
    intro ys nx hJ
    obtain ⟨rs, rfl, hrl, hrn, hrb, hsub, hT0⟩ := hJ
    intro D5 h5 tk5 F5 N5 o15
    have hD5 : D5 ∉ rs := fun hm => by
      obtain ⟨o, ho⟩ := hT0.mem hm
      exact off1_mem o15 _ ho rfl
    have hc5 : L' + 1 ∉ rs := fun hm => hrb _ hm _ List.mem_cons_self rfl
    replace N5 : News g' L' h5 ((D5, LCg.lst (rs.map Value.ref)) :: (L' + 1, oc) :: nx) := cb_drop N5 (by
      intro p hp
      simp only [List.mem_cons] at hp ⊢
      rcases hp with h | h | h
      · exact .inl h
      · exact .inr (h ▸ hsub _ List.mem_cons_self)
      · exact .inr h)
    k_steps
    refine Stop.mk ?_
    rename_i h6 e6 F6 N6 S6
    refine pair_tab (S6.at _ rfl) [Str.ofString "i", Str.ofString "char1", Str.ofString "j", Str.ofString "char2"] rs (b.length + 1) (fun i => grid (signs a) (signs b) i 0) ?j0 ?jstep ?jdone
    case j0 => exact (hT0.mono fun p hp _ => List.mem_cons_of_mem _ (List.mem_cons_of_mem _ hp)).congr fun i j _ _ => grid_zero _ _ i j
    case jstep =>
      intro i c1 v1 t1 u1 nx1 own1 h7 tk7 hi1 hv1 hT1 hk1 hmap1 hown1 F7 N7
      obtain ⟨tc1, rfl⟩ := ItemKind.str_is hv1
      replace F7 : Fr g' L' h7 _ := F7
      have hD7 : (D5, LCg.lst (rs.map Value.ref)) ∈ nx1 := hk1 _ List.mem_cons_self hD5
      have hc7 : (L' + 1, oc) ∈ nx1 := hk1 _ (List.mem_cons_of_mem _ List.mem_cons_self) hc5
      have hown7 : ∀ p ∈ own1, p.1 ∉ rs := fun p hp hm => by
        obtain ⟨o, ho⟩ := (hT0.mono (news' := (D5, LCg.lst (rs.map Value.ref)) :: (L' + 1, oc) :: nx) fun p hp _ => List.mem_cons_of_mem _ (List.mem_cons_of_mem _ hp)).mem hm
        exact hown1 p hp _ ho rfl
      replace N7 : News g' L' h7 ([(D5, LCg.lst (rs.map Value.ref)), (L' + 1, oc)] ++ own1 ++ nx1) := cb_drop N7 (by
        intro p hp
        simp only [List.mem_append, List.mem_cons, List.not_mem_nil, or_false] at hp ⊢
        rcases hp with ((h | h) | h) | h
        · exact .inr (h ▸ hD7)
        · exact .inr (h ▸ hc7)
        · exact .inl h
        · exact .inr h)
      have hia : i < a.length := by
        have := (List.getElem?_eq_some_iff.mp hi1).1
        rw [signs_length] at this
        exact this
      have hr0 : rs[i]? = some (rs[i]'(by omega)) := List.getElem?_eq_getElem (by omega)
      have hr1 : rs[i + 1]? = some (rs[i + 1]'(by omega)) := List.getElem?_eq_getElem (by omega)
      generalize rs[i]'(by omega) = r0 at hr0
      generalize rs[i + 1]'(by omega) = r1 at hr1
      have hv0 : (rs.map Value.ref)[((i : Nat) : Int).toNat]? = some (.ref r0) := by simp [hr0]
      have hv1' : (rs.map Value.ref)[(((i : Nat) : Int) + 1).toNat]? = some (.ref r1) := by
        have e : (((i : Nat) : Int) + 1).toNat = i + 1 := by omega
        rw [e]; simp [hr1]
      k_steps
      refine Stop.mk ?_
      rename_i h8 e8 F8 N8 S8
      refine pair_tab (S8.at _ rfl) [Str.ofString "j", Str.ofString "char2"] rs (b.length + 1) (fun j => grid (signs a) (signs b) i j) ?k0 ?kstep ?kdone
      case k0 => exact hT1.mono fun p hp _ => List.mem_append_right _ hp
      case kstep =>
        intro j c2 v2 t2 u2 nx2 own2 h9 tk9 hj2 hv2 hT2 hk2 hmap2 hown2 F9 N9
        obtain ⟨tc2, rfl⟩ := ItemKind.str_is hv2
        replace F9 : Fr g' L' h9 _ := F9
        replace N9 : News g' L' h9 ((D5, LCg.lst (rs.map Value.ref)) :: (own2 ++ nx2)) := cb_drop N9 (by
          intro p hp
          rcases List.mem_cons.mp hp with h | h
          · exact List.mem_append_right _ (h ▸ hk2 _ List.mem_cons_self hD5)
          · exact h)
        have hT9 : IsTab ((D5, LCg.lst (rs.map Value.ref)) :: (own2 ++ nx2)) rs (b.length + 1) (grid (signs a) (signs b) i j) := hT2.mono fun p hp _ => List.mem_cons_of_mem _ (List.mem_append_right _ hp)
        have hjb : j < b.length := by
          have := (List.getElem?_eq_some_iff.mp hj2).1
          rw [signs_length] at this
          exact this
        have hown9 : ∀ p ∈ own2, p.1 ∉ rs := fun p hp hm => by
          obtain ⟨o, ho⟩ := hT1.mem hm
          exact hown2 p hp _ (List.mem_append_right _ ho) rfl
        have ej : ((j : Nat) : Int).toNat = j := by omega
        have ej1 : (((j : Nat) : Int) + 1).toNat = j + 1 := by omega
        k_steps
        · refine Stop.mk ?_
          rename_i hc t5 h5 o5 F5 N5 T5
          rw [ej, ej1] at T5
          have hcc : (signs a)[i]? = (signs b)[j]? := by rw [hi1, hj2, eq_of_beq hc]
          refine tab_step (front := [(D5, LCg.lst (rs.map Value.ref))]) F5 N5 T5 (List.mem_of_getElem? hr1) hT2 hown9 hk2 ?hz ?eT
          case hz => exact (put_out rfl (put_out rfl ovr_out))
          case eT => exact fun p q _ _ => grid_step _ _ _ _ _ _ _ (grid_eq hcc)
        · refine Stop.mk ?_
          rename_i hc t5 t5b h6 tk6 F6 N6 h5 o5 F5 N5 T5
          rw [ej, ej1] at T5
          have hcc : (signs a)[i]? ≠ (signs b)[j]? := by
            rw [hi1, hj2]
            intro e
            rw [Option.some.inj e] at hc
            simp at hc
          refine tab_step (front := [(D5, LCg.lst (rs.map Value.ref))]) F5 N5 T5 (List.mem_of_getElem? hr1) hT2 hown9 hk2 ?hz ?eT
          case hz => exact (put_out rfl (put_out rfl ovr_out))
          case eT => exact fun p q _ _ => grid_step _ _ _ _ _ _ _ (grid_max hcc)
      case kdone =>
        intro h9 tk9 u2 nx2 F9 N9 hT2 hk2 hmap2
        replace F9 : Fr g' L' h9 _ := F9
        k_steps
        refine Stop.mk ?_
        refine tab_close F9 N9 hT2 hT1 hmap2 hk2 hown7 hk1 ?hz ?eT
        case hz => exact (ovr_in rfl (put_out rfl (put_out rfl ovr_out)))
        case eT => exact fun p q _ hq => grid_row _ _ _ _ _ (by rw [signs_length]; omega)
    case jdone =>
      intro h9 tk9 u1 nx1 F9 N9 hT1 hk1 hmap1
      replace F9 : Fr g' L' h9 _ := F9
      have hD9 : (D5, LCg.lst (rs.map Value.ref)) ∈ nx1 := hk1 _ List.mem_cons_self hD5
      have hc9 : (L' + 1, oc) ∈ nx1 := hk1 _ (List.mem_cons_of_mem _ List.mem_cons_self) hc5
      replace N9 : News g' L' h9 ((D5, LCg.lst (rs.map Value.ref)) :: (L' + 1, oc) :: nx1) := cb_drop N9 (by
        intro p hp
        simp only [List.mem_cons] at hp
        rcases hp with h | h | h
        · exact h ▸ hD9
        · exact h ▸ hc9
        · exact h)
      replace hT1 := hT1.mono (news' := (D5, LCg.lst (rs.map Value.ref)) :: (L' + 1, oc) :: nx1) fun p hp _ => List.mem_cons_of_mem _ (List.mem_cons_of_mem _ hp)
      k_steps
      refine Stop.mk ?_
      rename_i F11 N11
      have N12 : News g' L' _ ((D5, LCg.lst (rs.map Value.ref)) :: (L' + 1, oc) :: nx1) := cb_drop N11 fun p hp => List.mem_cons_of_mem _ hp
      refine while_tri (xi := Str.ofString "i") (xj := Str.ofString "j") (xr := Str.ofString "result") (fun i j r => i ≤ a.length ∧ j ≤ b.length ∧ r.length + i ≤ a.length ∧ Mine.tb (signs a) (signs b) i j r = Mine.tb (signs a) (signs b) a.length b.length (Str.ofString "")) F11 N12 (by decide) (by decide) (by decide) ?w0 ?wturn
      case w0 => exact ⟨Nat.le_refl _, Nat.le_refl _, by have e : (Str.ofString "").length = 0 := by decide +kernel
                                                         omega, rfl⟩
      case wturn =>
        intro i j r ti tj tr u h12 tk12 hI F12 N13
        obtain ⟨hia, hjb, hra, htb⟩ := hI
        have hr0 : rs[i - 1]? = some (rs[i - 1]'(by omega)) := List.getElem?_eq_getElem (by omega)
        have hr1 : rs[i]? = some (rs[i]'(by omega)) := List.getElem?_eq_getElem (by omega)
        generalize rs[i - 1]'(by omega) = r0 at hr0
        generalize rs[i]'(by omega) = r1 at hr1
        have hv0 : (rs.map Value.ref)[(((i : Nat) : Int) - 1).toNat]? = some (.ref r0) := by
          have e : (((i : Nat) : Int) - 1).toNat = i - 1 := by omega
          rw [e]; simp [hr0]
        have hv1' : (rs.map Value.ref)[((i : Nat) : Int).toNat]? = some (.ref r1) := by simp [hr1]
        have hla : (signs a).length = a.length := signs_length a
        have ejj : ((j : Nat) : Int).toNat = j := by omega
        have ej1 : (((j : Nat) : Int) - 1).toNat = j - 1 := by omega
        have hback : ∀ p ∈ news, p ∈ (D5, LCg.lst (rs.map Value.ref)) :: (L' + 1, oc) :: nx1 := fun p hp =>
          List.mem_cons_of_mem _ (List.mem_cons_of_mem _ (hk1 p (List.mem_cons_of_mem _ (List.mem_cons_of_mem _ (hsub p (List.mem_cons_of_mem _ hp)))) fun hm => hrb _ hm _ (List.mem_cons_of_mem _ hp) rfl))
        k_steps
        · (rename grid (signs a) (signs b) (signs a).length 0 i ((j : Nat) : Int).toNat = grid (signs a) (signs b) (signs a).length 0 (i - 1) ((j : Nat) : Int).toNat => hc); rename Fr g' L' _ _ => F20; rename News g' L' _ _ => N20
          rw [ejj, grid_full (by omega), grid_full (by omega)] at hc
          refine tri_close F20 N20 rfl rfl rfl (i - 1) j (by omega) rfl (by omega) ⟨by omega, hjb, by omega, ?_⟩ ?hz
          case hz => exact put_out rfl (put_out rfl (put_out rfl (put_out rfl ovr_out)))
          exact (tb_up (by omega) (by omega) (by omega)).symm.trans htb
        · (rename grid (signs a) (signs b) (signs a).length 0 i ((j : Nat) : Int).toNat ≠ grid (signs a) (signs b) (signs a).length 0 (i - 1) ((j : Nat) : Int).toNat => hc1); (rename grid (signs a) (signs b) (signs a).length 0 i ((j : Nat) : Int).toNat = grid (signs a) (signs b) (signs a).length 0 i (((j : Nat) : Int) - 1).toNat => hc2); rename Fr g' L' _ _ => F20; rename News g' L' _ _ => N20
          rw [ejj, grid_full (by omega), grid_full (by omega)] at hc1
          rw [ejj, ej1, grid_full (by omega), grid_full (by omega)] at hc2
          refine tri_close F20 N20 rfl rfl rfl i (j - 1) rfl (by omega) (by omega) ⟨by omega, by omega, by omega, ?_⟩ ?hz
          case hz => exact put_out rfl (put_out rfl (put_out rfl (put_out rfl ovr_out)))
          exact (tb_left (by omega) (by omega) (by omega) (by omega)).symm.trans htb
        · (rename grid (signs a) (signs b) (signs a).length 0 i ((j : Nat) : Int).toNat ≠ grid (signs a) (signs b) (signs a).length 0 (i - 1) ((j : Nat) : Int).toNat => hc1); (rename grid (signs a) (signs b) (signs a).length 0 i ((j : Nat) : Int).toNat ≠ grid (signs a) (signs b) (signs a).length 0 i (((j : Nat) : Int) - 1).toNat => hc2); rename Fr g' L' _ _ => F20; rename News g' L' _ _ => N20
          rw [ejj, grid_full (by omega), grid_full (by omega)] at hc1
          rw [ejj, ej1, grid_full (by omega), grid_full (by omega)] at hc2
          have eit : Txt.item a ((i : Int) - 1) = (signs a).getD (i - 1) Str.empty := sign_item (by omega) (by omega)
          have elen : (Txt.item a ((i : Int) - 1)).length = 1 := len_item _ _
          refine tri_close F20 N20 rfl rfl rfl (i - 1) (j - 1) (by omega) (by omega) (by omega) ⟨by omega, by omega, by omega, ?_⟩ ?hz
          case hz => exact put_out rfl (put_out rfl (put_out rfl (put_out rfl (put_out rfl (put_out rfl ovr_out)))))
          rw [eit]
          exact (tb_diag (by omega) (by omega) (by omega) (by omega)).symm.trans htb
        · (rename grid (signs a) (signs b) (signs a).length 0 i ((j : Nat) : Int).toNat ≠ grid (signs a) (signs b) (signs a).length 0 (i - 1) ((j : Nat) : Int).toNat => hc1); (rename grid (signs a) (signs b) (signs a).length 0 i ((j : Nat) : Int).toNat ≠ grid (signs a) (signs b) (signs a).length 0 i (((j : Nat) : Int) - 1).toNat => hc2); rename (_ == _) = false => hne
          exfalso
          rw [ejj, grid_full (by omega), grid_full (by omega)] at hc1
          rw [ejj, ej1, grid_full (by omega), grid_full (by omega)] at hc2
          have eia : Txt.item a ((i : Int) - 1) = (signs a).getD (i - 1) Str.empty := sign_item (by omega) (by omega)
          have eib : Txt.item b ((j : Int) - 1) = (signs b).getD (j - 1) Str.empty := sign_item (by omega) (by omega)
          have hd := dp_diag (by omega) (by omega) (by omega) (by omega) (la := signs a) (lb := signs b) (i := i) (j := j)
          rw [getD_getElem? (d := Str.empty) (by omega), getD_getElem? (d := Str.empty) (by rw [signs_length]; omega), ← eia, ← eib] at hd
          rw [Option.some.inj hd] at hne
          simp at hne
        · rename Fr h₀ L _ m => kF; rename News h₀ L _ ((D5, _) :: _) => kN
          have hj0' : j = 0 := by omega
          subst hj0'
          exact cb_retS hret (by rw [← tb_zero_right (signs a) (signs b) i r]; exact htb) kF (cb_drop kN hback)
        · rename Fr h₀ L _ m => kF; rename News h₀ L _ ((D5, _) :: _) => kN
          have hi0' : i = 0 := by omega
          subst hi0'
          exact cb_retS hret (by rw [← tb_zero_left (signs a) (signs b) j r]; exact htb) kF (cb_drop kN hback)
end Mine
end
section
open PySem PySem.W PyProof.Rows
set_option maxRecDepth 100000
set_option linter.unusedVariables false
namespace Mine
section
variable {w : World} {mean : ExcName → Option Value} {mg mb : Str → Option Value} {news : List (Addr × Obj)} {a b : Str} {ta tb tn : Tok} {dp un : Nat} {gd : Option (List Code)} {cn : Str} {cs : Scope} {ad : Addr} {ccd : Value} {cl : List (Str × Addr)} {outer : List Env} {A₀ : Around} {base h₀ : Heap} {L : Addr} {m : Str → Option Value} {s : Shared} {Q E : Value → Shared → Prop}
theorem dyn_rule {x : Addr} (h1 : Below A₀ base outer h₀) (h2 : Fr h₀ L s.heap m) (h3 : (hd.heap_39 w.params).In h₀) (h4 : News h₀ L s.heap news) (h5 : Top hd.view_39 (looseW hd.view_39 [Str.ofString "Base", Str.ofString "LCSSeq"]) mean mg mb h₀) (h6 : cs.kind = .function)
    (h7 : a.length ≤ 100 ∧ b.length ≤ 100) (h8 : dp + 1 < recursionLimit) (h9 : un + 8 < cLine) (hR : CbRet h₀ L m news s Q (fun t => .str (lcs a b) t)) :
    codeAny (model PySem.Challenge.rw_dr5025_01.row.prog w) (ktrTop dp un gd cn cs L ad ccd cl outer) (.call (.ref 203) ⟨[.ref x, .str a ta, .str b tb], []⟩) (fun r s' => match r with | .ok (.ret v) => Q v s' | .ok _ => False | .error e => E e s') s :=
  dyn w mean mg mb news x a b ta tb dp un gd cn cs ad ccd cl outer A₀ base h₀ L m s Q E h1 h2 h3 h4 h5 h6 h7 h8 h9 hR
end
end Mine
end
section
open PySem PySem.W PyProof.Rows
set_option Elab.async false
set_option maxRecDepth 100000
set_option maxHeartbeats 0
set_option linter.unusedVariables false
namespace Mine
local macro_rules | `(tactic| walk_at "call ref") => `(tactic| (k_here; (with_reducible show wpAny _ _ (call (Value.ref _) [Value.str _ _, Value.str _ _]) _ _ _); k_dflt (refine' call_meth (f := Value.ref 203) ?km ?kn ?_; (case km => k_asm); (case kn => k_mem); refine' dyn_rule ?k1 ?k2 ?k3 ?k4 ?k5 ?k6 ?k7 ?k8 ?k9 ?_; (case k1 => k_asm); (case k2 => k_asm); (case k3 => k_asm); (case k4 => k_asm); (case k5 => k_asm); (case k6 => first | exact rfl | assumption); (case k7 => exact ⟨by omega, by omega⟩); (case k8 => ktr_room); (case k9 => ktr_units); k_whole); intro t9 h9 tk9 F9 N9; (try dsimp only); (try k_fold)))
local macro_rules | `(tactic| walk_at "eval Call Attribute") => `(tactic| (k_here; (with_reducible show wpAny _ _ (eval (Expr.Call (Expr.Attribute _ _ _) [Expr.Starred _ _] _ _) _) _ _ _); refine MethodCall_S ?_))
local macro_rules | `(tactic| walk_at "callWith ref") => `(tactic| (k_here; (with_reducible show wpAny _ _ (callWith _ (Value.ref _) _ (backTo _ (starEach [Expr.Starred _ _] _)) []) _ _ _); k_dflt (refine' callWith_MS ?k1 ?k2 ?k3 ?k4 ?_; (case k1 => k_asm); (case k2 => k_asm); (case k3 => k_mem); (case k4 => k_is); k_whole)))
local macro_rules | `(tactic| walk_at "callWith ref") => `(tactic| (k_here; (with_reducible show wpAny _ _ (callWith _ (Value.ref _) _ (backTo _ (starEach [Expr.Starred _ _] _)) []) _ _ _); kco_here; k_dflt (refine' kco_star ?k1 ?k2 ?k3 ?k4 ?_; (case k1 => k_in); (case k2 => k_inst); (case k3 => rfl); (case k4 => k_is); k_whole)))
local macro_rules | `(tactic| k_enter) => `(tactic| ((with_reducible show codeAny _ _ (Code.call (Value.ref 108) _) _ _); (refine' rest_cells ?k1 ?k2 ?k3 ?k4 ?k5 ?kA ?kF ?kK ?k6 ?k7 ?k8 ?kV ?kP ?kG ?kB ?kD ?_ ?c2 ?c3 ?c4; (case kA => exact rfl); (case kF => exact rfl); (case kK => exact rfl); (case k1 => k_asm); (case k2 => k_asm); (case k3 => k_asm); (case k4 => k_asm); (case k5 => k_asm); (case k6 => k_is); (case k7 => k_is); (case k8 => k_room); (case kV => kl_lit); (case kP => exact rfl); (case kG => exact fun _ => rfl); (case kB => exact fun _ => rfl); (case kD => decide +kernel); (case c2 => exact rfl); (case c3 => exact rfl); (case c4 => exact rfl); k_whole; intro D' g' L' h' tk' cells' l1 FG' F' N' Y' B' X' T' l2; (try k_lt l1); (try k_lt l2); k_cells Y'; (try simp only [List.cons_append, List.nil_append] at N'); (try dsimp only); (try k_lift B'); (try k_fold))))
local macro_rules | `(tactic| walk_at "call builtin:len") => `(tactic| (k_here; (with_reducible show wpAny _ _ (call (Value.builtin "len") [Value.str (lcs _ _) _]) _ _ _); refine PySem.P.len_str (by omega) ?_))
local macro_rules | `(tactic| k_room) => `(tactic| ktr_room)
theorem callS (w : World) (mean : ExcName → Option Value) (mg mb : Str → Option Value) (news : List (Addr × Obj)) (x dx : Addr) (k1 k2 k3 : Tok) (a b : Str) (ta tb : Tok) (dp un : Nat) (gd : Option (List Code)) (cn : Str) (cs : Scope) (ad : Addr) (ccd : Value) (cl : List (Str × Addr)) (outer : List Env) (A₀ : Around) (base h₀ : Heap) (L : Addr) (m : Str → Option Value) (s : Shared) (Q E : Value → Shared → Prop)
    (hB : Below A₀ base outer h₀) (hF : Fr h₀ L s.heap m) (hK : (hd.heap_39 w.params).In h₀) (hN : News h₀ L s.heap ((x, instObj 225 dx) :: (dx, dictOf [{ hash := PyData.keyHash w.params (Str.ofString "qval"), key := Value.str (Str.ofString "qval") k1, val := Value.int 1 424 }, { hash := PyData.keyHash w.params (Str.ofString "test_func"), key := Value.str (Str.ofString "test_func") k2, val := Value.ref 100 }, { hash := PyData.keyHash w.params (Str.ofString "external"), key := Value.str (Str.ofString "external") k3, val := Value.bool true }] 3) :: news)) (hT : Top hd.view_39 (looseW hd.view_39 [Str.ofString "Base", Str.ofString "LCSSeq"]) mean mg mb h₀) (hk : cs.kind = .function)
    (hpre : a.length ≤ 100 ∧ b.length ≤ 100) (hdp : dp + 3 < recursionLimit) (hun : un + 30 < cLine) (hret : CbRet h₀ L m ((x, instObj 225 dx) :: (dx, dictOf [{ hash := PyData.keyHash w.params (Str.ofString "qval"), key := Value.str (Str.ofString "qval") k1, val := Value.int 1 424 }, { hash := PyData.keyHash w.params (Str.ofString "test_func"), key := Value.str (Str.ofString "test_func") k2, val := Value.ref 100 }, { hash := PyData.keyHash w.params (Str.ofString "external"), key := Value.str (Str.ofString "external") k3, val := Value.bool true }] 3) :: news) s Q (fun t => .str (lcs a b) t)) :
    codeAny (model PySem.Challenge.rw_dr5025_01.row.prog w) (ktrTop dp un gd cn cs L ad ccd cl outer) (.call (.ref 215) ⟨[.ref x, .str a ta, .str b tb], []⟩) (fun r s' => match r with | .ok (.ret v) => Q v s' | .ok _ => False | .error e => E e s') s := by
  dsimp only [CbRet] at hret
  revert hK
  k_fill
  intro hK
  refine' kp_rest ?k1 ?k2 ?k3 ?k4 ?k5 ?kA ?kF ?kK ?k6 ?k7 ?k8 ?kV ?kP ?kG ?kB ?_ ?c2 ?c3 ?c4 ?c5; (case kA => exact rfl); (case kF => exact rfl); (case kK => assumption); (case k1 => k_asm); (case k2 => k_asm); (case k3 => k_asm); (case k4 => k_asm); (case k5 => k_asm); (case k6 => k_is); (case k7 => k_is); (case k8 => ktr_room); (case kV => kl_lit); (case kP => exact rfl); (case kG => exact fun _ => rfl); (case kB => exact fun _ => locs rfl); (case c5 => decide); (case c2 => exact rfl); (case c3 => exact rfl); (case c4 => exact rfl); k_whole; intro D' g' L' h' l1 FG' F' N' B' X' T'; (try k_lt l1); (try dsimp only); (try k_lift B'); (try k_fold)
  k_steps
  rename Fr h₀ L _ m => kF
  rename News h₀ L _ _ => kN
  refine cb_retS hret rfl kF (cb_drop kN ?_)
  intro p hp
  repeat (first | exact hp | refine List.mem_cons_of_mem _ ?_)
theorem callS_rule {w : World} {mean : ExcName → Option Value} {mg mb : Str → Option Value} {news : List (Addr × Obj)} {x dx : Addr} {k1 k2 k3 : Tok} {a b : Str} {ta tb : Tok} {dp un : Nat} {gd : Option (List Code)} {cn : Str} {cs : Scope} {ad : Addr} {ccd : Value} {cl : List (Str × Addr)} {outer : List Env} {A₀ : Around} {base h₀ : Heap} {L : Addr} {m : Str → Option Value} {s : Shared} {Q E : Value → Shared → Prop}
    (hB : Below A₀ base outer h₀) (hF : Fr h₀ L s.heap m) (hK : (hd.heap_39 w.params).In h₀) (hN : News h₀ L s.heap news) (hT : Top hd.view_39 (looseW hd.view_39 [Str.ofString "Base", Str.ofString "LCSSeq"]) mean mg mb h₀) (hk : cs.kind = .function)
    (hx : (x, instObj 225 dx) ∈ news) (hdx : (dx, dictOf [{ hash := PyData.keyHash w.params (Str.ofString "qval"), key := Value.str (Str.ofString "qval") k1, val := Value.int 1 424 }, { hash := PyData.keyHash w.params (Str.ofString "test_func"), key := Value.str (Str.ofString "test_func") k2, val := Value.ref 100 }, { hash := PyData.keyHash w.params (Str.ofString "external"), key := Value.str (Str.ofString "external") k3, val := Value.bool true }] 3) ∈ news)
    (hpre : a.length ≤ 100 ∧ b.length ≤ 100) (hdp : dp + 3 < recursionLimit) (hun : un + 30 < cLine) (hret : CbRet h₀ L m news s Q (fun t => .str (lcs a b) t)) :
    codeAny (model PySem.Challenge.rw_dr5025_01.row.prog w) (ktrTop dp un gd cn cs L ad ccd cl outer) (.call (.ref 215) ⟨[.ref x, .str a ta, .str b tb], []⟩) (fun r s' => match r with | .ok (.ret v) => Q v s' | .ok _ => False | .error e => E e s') s := by
  refine callS w mean mg mb news x dx k1 k2 k3 a b ta tb dp un gd cn cs ad ccd cl outer A₀ base h₀ L m s Q E hB hF hK (fun p hp => ?_) hT hk hpre hdp hun ?_
  · rcases List.mem_cons.mp hp with e | hp
    · rw [e]; exact hN _ hx
    · rcases List.mem_cons.mp hp with e | hp
      · rw [e]; exact hN _ hdx
      · exact hN p hp
  · intro t h tk F N
    exact hret t h tk F (cb_drop N fun p hp => List.mem_cons_of_mem _ (List.mem_cons_of_mem _ hp))
end Mine
end
section
open PySem PySem.W PyProof.Rows
set_option maxRecDepth 100000
set_option linter.unusedVariables false
namespace Mine
theorem sub_snoc {α : Type} {l c : List α} {x : α} (h : c.Sublist (l ++ [x])) : c.Sublist l ∨ ∃ c', c = c' ++ [x] ∧ c'.Sublist l := by
  obtain ⟨c1, c2, rfl, h1, h2⟩ := List.sublist_append_iff.mp h
  rcases List.sublist_cons_iff.mp h2 with k2 | ⟨r, e, k2⟩
  · rw [List.sublist_nil.mp k2, List.append_nil]
    exact .inl h1
  · rw [e, List.sublist_nil.mp k2]
    exact .inr ⟨c1, rfl, h1⟩
theorem sub_last {α : Type} {l c : List α} {x : α} (h : c.Sublist (l ++ [x])) : c.dropLast.Sublist l := by
  rcases sub_snoc h with k | ⟨c', e, k⟩
  · exact (List.dropLast_sublist c).trans k
  · rw [e, List.dropLast_concat]
    exact k
theorem dp_ge {α : Type} [DecidableEq α] (a b : List α) : ∀ i j, i ≤ a.length → j ≤ b.length → ∀ c : List α, c.Sublist (a.take i) → c.Sublist (b.take j) → c.length ≤ dp a b i j := by
  intro i
  induction i with
  | zero =>
    intro j _ _ c h _
    rw [List.take_zero] at h
    rw [List.sublist_nil.mp h]
    exact Nat.zero_le _
  | succ i ihi =>
    intro j
    induction j with
    | zero =>
      intro _ _ c _ h
      rw [List.take_zero] at h
      rw [List.sublist_nil.mp h]
      exact Nat.zero_le _
    | succ j ihj =>
      intro hi hj c h1 h2
      have hi' : i < a.length := hi
      have hj' : j < b.length := hj
      have k1 := h1
      have k2 := h2
      rw [List.take_succ_eq_append_getElem hi'] at h1
      rw [List.take_succ_eq_append_getElem hj'] at h2
      rw [dp, List.getElem?_eq_getElem hi', List.getElem?_eq_getElem hj']
      by_cases e : a[i] = b[j]
      · rw [if_pos (by rw [e])]
        have := ihi j (Nat.le_of_lt hi) (Nat.le_of_lt hj) c.dropLast (sub_last h1) (sub_last h2)
        rw [List.length_dropLast] at this
        omega
      · rw [if_neg (by simpa using e)]
        rcases sub_snoc h1 with h1 | ⟨c1, e1, h1⟩
        · have := ihi (j + 1) (Nat.le_of_lt hi) hj c h1 k2
          omega
        · rcases sub_snoc h2 with h2 | ⟨c2, e2, h2⟩
          · have := ihj hi (Nat.le_of_lt hj) c k1 h2
            omega
          · refine absurd ?_ e
            have := List.append_inj_right' (e1.symm.trans e2) rfl
            simpa using this
theorem signs_append (a b : Str) : signs (a ++ b) = signs a ++ signs b := by
  unfold signs
  rw [PySem.Str.cps_append, Array.toList_append, List.map_append]
theorem signs_self {x c : Str} (h : c ∈ signs x) : signs c = [c] := by
  obtain ⟨n, -, rfl⟩ := List.mem_map.mp h
  rfl
theorem dp_le_left {α : Type} [DecidableEq α] (a b : List α) : ∀ i j, dp a b i j ≤ i := by
  intro i
  induction i with
  | zero => intro j; simp [dp]
  | succ i ihi =>
    intro j
    induction j with
    | zero => simp [dp]
    | succ j ihj =>
      rw [dp]
      have := ihi j
      have := ihi (j + 1)
      split <;> omega
theorem tb_sub (la lb : List Str) (hl : ∀ c ∈ la, signs c = [c]) : ∀ i j, i ≤ la.length → j ≤ lb.length → ∀ r : Str, ∃ C : List Str, C.Sublist (la.take i) ∧ C.Sublist (lb.take j) ∧ C.length = dp la lb i j ∧ signs (tb la lb i j r) = C ++ signs r := by
  intro i
  induction i with
  | zero =>
    intro j _ _ r
    refine ⟨[], List.nil_sublist _, List.nil_sublist _, ?_, ?_⟩
    · rw [dp]; rfl
    · rw [tb_zero_left]; rfl
  | succ i ihi =>
    intro j
    induction j with
    | zero =>
      intro _ _ r
      refine ⟨[], List.nil_sublist _, List.nil_sublist _, ?_, ?_⟩
      · rw [dp]; rfl
      · rw [tb_zero_right]; rfl
    | succ j ihj =>
      intro hi hj r
      have hi' : i < la.length := hi
      have hj' : j < lb.length := hj
      by_cases h0 : dp la lb (i + 1) (j + 1) = dp la lb i (j + 1)
      · obtain ⟨C, c1, c2, c3, c4⟩ := ihi (j + 1) (Nat.le_of_lt hi) hj r
        refine ⟨C, c1.trans (List.take_sublist_take_left (Nat.le_succ i)), c2, by rw [h0]; exact c3, ?_⟩
        rw [tb_up (Nat.succ_ne_zero i) (Nat.succ_ne_zero j) h0]
        exact c4
      · by_cases h1 : dp la lb (i + 1) (j + 1) = dp la lb (i + 1) j
        · obtain ⟨C, c1, c2, c3, c4⟩ := ihj hi (Nat.le_of_lt hj) r
          refine ⟨C, c1, c2.trans (List.take_sublist_take_left (Nat.le_succ j)), by rw [h1]; exact c3, ?_⟩
          rw [tb_left (Nat.succ_ne_zero i) (Nat.succ_ne_zero j) h0 h1]
          exact c4
        · have e := dp_diag (Nat.succ_ne_zero i) (Nat.succ_ne_zero j) h0 h1
          replace e : la[i]? = lb[j]? := e
          obtain ⟨C, c1, c2, c3, c4⟩ := ihi j (Nat.le_of_lt hi) (Nat.le_of_lt hj) (la.getD i Str.empty ++ r)
          have g : la.getD i Str.empty = la[i] := by simp [List.getD, hi']
          have e' : la[i] = lb[j] := by
            rw [List.getElem?_eq_getElem hi', List.getElem?_eq_getElem hj'] at e
            exact Option.some.inj e
          refine ⟨C ++ [la[i]], ?_, ?_, ?_, ?_⟩
          · rw [List.take_succ_eq_append_getElem hi']
            exact c1.append (List.Sublist.refl _)
          · rw [List.take_succ_eq_append_getElem hj', e']
            exact c2.append (List.Sublist.refl _)
          · rw [dp, if_pos e, List.length_append, c3]; rfl
          · rw [tb_diag (Nat.succ_ne_zero i) (Nat.succ_ne_zero j) h0 h1]
            show signs (tb la lb i j (la.getD i Str.empty ++ r)) = _
            rw [c4, g, signs_append, hl _ (List.getElem_mem hi'), List.append_assoc]
/-- what the traceback answers: a longest common subsequence -/
theorem tb_best (a b : Str) : (signs (tb (signs a) (signs b) a.length b.length (Str.ofString ""))).Sublist (signs a) ∧ (signs (tb (signs a) (signs b) a.length b.length (Str.ofString ""))).Sublist (signs b) ∧
    (tb (signs a) (signs b) a.length b.length (Str.ofString "")).length = dp (signs a) (signs b) a.length b.length ∧
    ∀ c : List Str, c.Sublist (signs a) → c.Sublist (signs b) → c.length ≤ (tb (signs a) (signs b) a.length b.length (Str.ofString "")).length := by
  have ea : (signs a).take a.length = signs a := List.take_of_length_le (by rw [signs_length]; exact Nat.le_refl _)
  have eb : (signs b).take b.length = signs b := List.take_of_length_le (by rw [signs_length]; exact Nat.le_refl _)
  have la : a.length ≤ (signs a).length := by rw [signs_length]; exact Nat.le_refl _
  have lb : b.length ≤ (signs b).length := by rw [signs_length]; exact Nat.le_refl _
  obtain ⟨C, c1, c2, c3, c4⟩ := tb_sub (signs a) (signs b) (fun c h => signs_self h) a.length b.length la lb (Str.ofString "")
  rw [show signs (Str.ofString "") = [] from rfl, List.append_nil] at c4
  rw [ea] at c1
  rw [eb] at c2
  have e : (tb (signs a) (signs b) a.length b.length (Str.ofString "")).length = dp (signs a) (signs b) a.length b.length := by
    rw [← signs_length, c4, c3]
  refine ⟨c4 ▸ c1, c4 ▸ c2, e, fun c h1 h2 => ?_⟩
  rw [e]
  exact dp_ge _ _ _ _ la lb c (by rw [ea]; exact h1) (by rw [eb]; exact h2)
end Mine
end
section
open PySem PySem.W PyProof.Rows
set_option Elab.async false
set_option maxRecDepth 100000
set_option maxHeartbeats 0
set_option linter.unusedVariables false
namespace Mine
def heldStep (row : List Str) (k : Nat) (z : Str) : Nat := if row[k]? = some z then k + 1 else k
def heldTo (row word : List Str) : Nat := word.foldl (heldStep row) 0

def HeldJ (row word : List Str) (news : List (Addr × Obj)) (m₀ : Str → Option Value) (i : Nat) (m : Str → Option Value) (nx : List (Addr × Obj)) : Prop :=
  ∃ (k : Nat), heldTo row (word.take i) = k ∧ k ≤ i ∧ nx = news ∧ (∃ t, m (Str.ofString "at") = some (.int (k : Nat) t)) ∧ ∀ z, [Str.ofString "at", Str.ofString "letter"].contains z = false → m z = m₀ z

theorem held_end {h₀ h' : Heap} {L : Addr} {i k k' tk : Nat} {row word : List Str} {z : Str} {news own all : List (Addr × Obj)} {m₀ m' : Str → Option Value} {vc : Int} {tc : Tok} {s₁ : Shared} {Q : Flow → Shared → Prop}
    (hprev : heldTo row (word.take i) = k) (hz : word[i]? = some z) (F : Fr h₀ L h' m') (N : News h₀ L h' all) (hstep : heldStep row k z = k') (hk : k' ≤ i + 1)
    (hnews : ∀ p ∈ news, p ∈ all) (hown : ∀ p ∈ own, p ∈ all) (hon : OwnOff own (news.map (·.1)))
    (hc : m' (Str.ofString "at") = some (.int vc tc)) (hvc : vc = (k' : Nat)) (hrest : ∀ z, [Str.ofString "at", Str.ofString "letter"].contains z = false → m' z = m₀ z) :
    InvPostG h₀ L (HeldJ row word news m₀ (i + 1)) own s₁ Q .next { s₁ with heap := h', toks := tk } := by
  refine InvEndG.intro F N (nx := news) ⟨k', ?_, hk, rfl, ⟨tc, by rw [hc, hvc]⟩, hrest⟩ hon hnews hown
  unfold heldTo at hprev ⊢
  rw [List.take_add_one, hz]
  simp only [Option.toList_some, List.foldl_append, List.foldl_cons, List.foldl_nil]
  rw [hprev, hstep]
local macro_rules | `(tactic| walk_at "exec For Name Name cons nil") => `(tactic| (k_here; (rename Fr _ _ _ _ => lF'); (with_unfolding_all refine' For_invVF lF' ?k1 ?k2 ?_; (case k1 => exact rfl); (case k2 => exact rfl); k_whole)))
local macro_rules | `(tactic| walk_at "exec For Name Call cons nil") => `(tactic| (k_here; (rename Fr _ _ _ _ => lF'); (with_unfolding_all refine' For_invVF lF' ?k1 ?k2 ?_; (case k1 => exact rfl); (case k2 => exact rfl); k_whole)))
local macro_rules | `(tactic| walk_at "pyIter str") => `(tactic| (refine Stop.out ?_))
local macro_rules | `(tactic| walk_at "InvPostG") => `(tactic| (refine Stop.out ?_))
local macro_rules | `(tactic| k_all) => `(tactic| first | assumption | (refine List.forall_mem_append.mpr ⟨?_, ?_⟩ <;> k_all))
local macro_rules | `(tactic| walk_at "call builtin:len") => `(tactic| (k_here; (with_reducible show wpAny _ _ (call (Value.builtin "len") [Value.str _ _]) _ _ _); refine PySem.P.len_str (by omega) ?_))

theorem held (w : World) (mean : ExcName → Option Value) (mg mb : Str → Option Value) (news : List (Addr × Obj)) (a b : Str) (ta tb : Tok) :
    CbClaim PySem.Challenge.rw_dr5025_01.row.prog w (hd.heap_39 w.params) hd.view_39 (looseW hd.view_39 [Str.ofString "Base", Str.ofString "LCSSeq"]) mean mg mb 242 news [] (a.length ≤ 100 ∧ b.length ≤ 100) [.str a ta, .str b tb] (fun t => .bool (decide (heldTo (signs a) (signs b) = a.length))) := by
  k_fill
  unfold CbClaim; dsimp only [CbLists, CbRet]; intro dp un gd cn cs ad ccd cl outer A₀ base h₀ L m s Q E hB hF hK hN hT hk hpre hdp hun hret
  refine wpAny_call ?_
  k_dflt (refine' code_def ?k1 ?k2 ?k3 ?k4 ?k5 ?kA ?kF ?kK ?k6 ?k7 ?k8 ?k9 ?kB ?_ ?c2 ?c3 ?c4 ?c5; (case kA => exact rfl); (case kF => exact rfl); (case kK => assumption); (case k1 => k_asm); (case k2 => k_asm); (case k3 => k_asm); (case k4 => k_asm); (case k5 => k_asm); (case k6 => k_is); (case k7 => k_is); (case k8 => ktr_room); (case k9 => exact BindsTo.of_eq rfl); (case c5 => decide); (case kB => exact locs rfl); (case c2 => exact rfl); (case c3 => exact rfl); (case c4 => exact rfl); k_whole; intro g' L' h' FG' F' N' B' X' T'; (try dsimp only); (try k_lift B'); (try k_fold))
  have hpa := hpre.1
  have hpb := hpre.2
  k_steps
  refine Stop.mk ?_
  rename Fr g' L' _ _ => F1
  rename News g' L' _ _ => N1
  refine str_inv (HeldJ (signs a) (signs b) news) (by rfl) F1 N1 ?j0 ?jturn ?jdone
  case j0 => exact ⟨0, rfl, Nat.le_refl _, rfl, ⟨_, rfl⟩, fun _ _ => rfl⟩
  case jturn =>
    intro i c t m₁ nx h1 tk1 own hc hoff hJ F2 N2
    obtain ⟨k, hst, hki, rfl, ⟨tc, hcnt⟩, hz⟩ := hJ
    obtain ⟨u, F3⟩ := fr_puts [(Str.ofString "at", Value.int (k : Nat) tc)] F2 (by simp [hcnt]) hz
    replace F3 : Fr g' L' h1 _ := F3
    have hib : i < b.length := by
      have := (List.getElem?_eq_some_iff.mp hc).1
      rw [signs_length] at this
      exact this
    have hon : OwnOff own (nx.map (·.1)) := hoff
    k_steps
    · refine Stop.mk ?_
      rename _ < _ => hlt
      rename (Txt.item a _ == c) = true => heq
      rename Fr g' L' _ _ => F20
      rename News g' L' _ _ => N20
      have hka : k < a.length := by omega
      have hstep : heldStep (signs a) k c = k + 1 := by
        rw [sign_item hka rfl] at heq
        unfold heldStep
        rw [if_pos (by rw [getD_getElem? (d := Str.empty) (by rw [signs_length]; exact hka), eq_of_beq heq])]
      refine held_end hst hc F20 N20 hstep (by omega) (fun p hp => List.mem_append_left _ hp) (fun p hp => List.mem_append_right _ hp) hon rfl (by omega) ?hrest
      case hrest => exact put_out rfl (put_out rfl (puts_out _ rfl ovr_out))
    · refine Stop.mk ?_
      rename _ < _ => hlt
      rename (Txt.item a _ == c) = false => heq
      have hka : k < a.length := by omega
      have hstep : heldStep (signs a) k c = k := by
        rw [sign_item hka rfl] at heq
        unfold heldStep
        rw [if_neg (fun e => by
          rw [getD_getElem? (d := Str.empty) (by rw [signs_length]; exact hka)] at e
          rw [Option.some.inj e] at heq
          simp at heq)]
      refine held_end hst hc F3 N2 hstep (by omega) (fun p hp => List.mem_append_left _ hp) (fun p hp => List.mem_append_right _ hp) hon rfl rfl ?hrest
      case hrest => exact put_out rfl (puts_out _ rfl ovr_out)
    · refine Stop.mk ?_
      rename ¬ _ < _ => hlt
      have hka : ¬ k < a.length := by omega
      have hstep : heldStep (signs a) k c = k := by
        unfold heldStep
        rw [if_neg (fun e => by
          have := (List.getElem?_eq_some_iff.mp e).1
          rw [signs_length] at this
          exact hka this)]
      refine held_end hst hc F3 N2 hstep (by omega) (fun p hp => List.mem_append_left _ hp) (fun p hp => List.mem_append_right _ hp) hon rfl rfl ?hrest
      case hrest => exact put_out rfl (puts_out _ rfl ovr_out)
  case jdone =>
    intro m₁ nx h1 tk1 hJ F2 N2
    obtain ⟨k, hst, hki, rfl, ⟨tc, hcnt⟩, hz⟩ := hJ
    obtain ⟨u, F3⟩ := fr_puts0 [(Str.ofString "at", Value.int (k : Nat) tc)] F2 (by simp [hcnt]) hz
    replace F3 : Fr g' L' h1 _ := F3
    rw [List.take_length] at hst
    k_steps
    rename Fr h₀ L _ m => kF
    rename News h₀ L _ nx => kN
    refine cb_retB hret ?_ kF kN
    rw [hst]
    rw [Bool.eq_iff_iff, beq_iff_eq, decide_eq_true_iff]
    omega
end Mine
end
section
open PySem PySem.W PyProof.Rows
set_option Elab.async false
set_option maxRecDepth 100000
set_option maxHeartbeats 0
set_option linter.unusedVariables false
namespace Mine
local macro_rules | `(tactic| walk_at "exec For Name Name cons nil") => `(tactic| (k_here; (rename Fr _ _ _ _ => lF'); (with_unfolding_all refine' For_invVF lF' ?k1 ?k2 ?_; (case k1 => exact rfl); (case k2 => exact rfl); k_whole)))
local macro_rules | `(tactic| walk_at "exec For Name Call cons nil") => `(tactic| (k_here; (rename Fr _ _ _ _ => lF'); (with_unfolding_all refine' For_invVF lF' ?k1 ?k2 ?_; (case k1 => exact rfl); (case k2 => exact rfl); k_whole)))
local macro_rules | `(tactic| walk_at "pyIter ref") => `(tactic| (refine Stop.out ?_))
local macro_rules | `(tactic| walk_at "InvPostG") => `(tactic| (refine Stop.out ?_))
local macro_rules | `(tactic| k_all) => `(tactic| first | assumption | (refine List.forall_mem_append.mpr ⟨?_, ?_⟩ <;> k_all))
local macro_rules | `(tactic| walk_at "call builtin:len") => `(tactic| (k_here; (with_reducible show wpAny _ _ (call (Value.builtin "len") [Value.str _ _]) _ _ _); refine PySem.P.len_str (by omega) ?_))
local macro_rules | `(tactic| walk_at "call type:list") => `(tactic| (k_here; (with_reducible show wpAny _ _ (call (Value.type _) [Value.ref _]) _ _ _); (rename IsRange _ _ _ _ _ _ _ _ => rgX); k_dflt ((with_unfolding_all refine' mk_range ?k0 ?k1 ?k2 ?k3 ?k4 ?k5 ?k6 ?_; (case k0 => rfl); (case k1 => k_asm); (case k2 => k_asm); (case k3 => exact rgX); (case k4 => first | exact small_one (by omega) (by omega) (by omega) (by omega) | exact small_down (by omega) (by omega) (by omega) (by omega)); (case k5 => first | exact rangeSize_nat _ _ | exact rangeSize_downNat _ _); (case k6 => omega); k_whole)); intro D' us' c' h' tk' F' N' l1 hl' hI'; (try k_lt l1)))
local macro_rules | `(tactic| walk_at "subscriptTail") => `(tactic| (k_here; (with_reducible show wpAny _ _ (subscriptTail _ _ (Value.ref _) (Value.int _ _)) _ _ _); k_dflt (refine' one_sub ?k1 ?k2 ?k3 ?k4 ?k5 ?_ ?k6; (case k1 => k_asm); (case k2 => assumption); (case k3 => omega); (case k4 => omega); (case k5 => omega); (case k6 => with_unfolding_all rfl); k_whole); intro t5'))
local macro_rules | `(tactic| walk_at "setItem ref int") => `(tactic| (k_here; (with_reducible show wpAny _ _ (setItem (Value.ref _) (Value.int _ _) (Value.int _ _)) _ _ _); k_dflt (refine' one_set ?k1 ?k2 ?k3 ?k4 ?k4b ?k6 ?k7 ?k8 ?_; (case k3 => assumption); (case k4 => assumption); (case k4b => assumption); (case k1 => k_asm); (case k2 => first | assumption | (rename News _ _ _ _ => nX; exact cb_drop nX (fun p hp => List.mem_cons_of_mem _ hp))); (case k6 => omega); (case k7 => omega); (case k8 => omega); k_whole); intro h5' o5' F5' N5' T5' T6'))

theorem thr (w : World) (mean : ExcName → Option Value) (mg mb : Str → Option Value) (news : List (Addr × Obj)) (a b : Str) (ta tb : Tok) (dp un : Nat) (gd : Option (List Code)) (cn : Str) (cs : Scope) (ad : Addr) (ccd : Value) (cl : List (Str × Addr)) (outer : List Env) (A₀ : Around) (base h₀ : Heap) (L : Addr) (m : Str → Option Value) (s : Shared) (Q E : Value → Shared → Prop)
    (hB : Below A₀ base outer h₀) (hF : Fr h₀ L s.heap m) (hK : (hd.heap_39 w.params).In h₀) (hN : News h₀ L s.heap news) (hT : Top hd.view_39 (looseW hd.view_39 [Str.ofString "Base", Str.ofString "LCSSeq"]) mean mg mb h₀) (hk : cs.kind = .function)
    (hpre : a.length ≤ 100 ∧ b.length ≤ 100) (hdp : dp + 1 < recursionLimit) (hun : un + 8 < cLine)
    (hret : ∀ (D : Addr) (vs : List Value) (k : Nat) (h' : Heap) (tk' : Nat), Fr h₀ L h' m → News h₀ L h' ((D, listOf vs.toArray k) :: news) → (∀ p ∈ news, p.1 < D) → vs.length = b.length → (∀ j, j < b.length → ∃ t, vs[j]? = some (.int (threads a b j) t)) → Q (.ref D) { s with heap := h', toks := tk' }) :
    wpAny (model PySem.Challenge.rw_dr5025_01.row.prog w) (ktrTop dp un gd cn cs L ad ccd cl outer) (call (.ref 235) [.str a ta, .str b tb]) Q E s := by
  have hpa := hpre.1
  have hpb := hpre.2
  revert hK
  k_fill
  intro hK
  refine wpAny_call ?_
  k_dflt (refine' code_def ?k1 ?k2 ?k3 ?k4 ?k5 ?kA ?kF ?kK ?k6 ?k7 ?k8 ?k9 ?kB ?_ ?c2 ?c3 ?c4 ?c5; (case kA => exact rfl); (case kF => exact rfl); (case kK => assumption); (case k1 => k_asm); (case k2 => k_asm); (case k3 => k_asm); (case k4 => k_asm); (case k5 => k_asm); (case k6 => k_is); (case k7 => k_is); (case k8 => ktr_room); (case k9 => exact BindsTo.of_eq rfl); (case c5 => decide); (case kB => exact locs rfl); (case c2 => exact rfl); (case c3 => exact rfl); (case c4 => exact rfl); k_whole; intro g' L' h' FG' F' N' B' X' T'; (try dsimp only); (try k_lift B'); (try k_fold))
  k_steps
  refine Stop.mk ?_
  rename_i ra usa ca _ _ l1 hla hIa _ _ _ _ _ _ _ rd usd cd _ _ hld hId l2 D _ l3 _ _ _ _ _ _ _ _ _ _ hr F1 N1 _
  have hne1 : ra ≠ rd := Nat.ne_of_lt l2.1
  have hne2 : rd ≠ ra := Ne.symm hne1
  have lt2 := allLt_mem l2.2
  have hoa : ∀ p ∈ news, p.1 ≠ ra := fun p hp => Nat.ne_of_lt (l1 p hp)
  have hod : ∀ p ∈ news, p.1 ≠ rd := fun p hp => Nat.ne_of_lt (lt2 p hp)
  replace N1 := cb_drop N1 (fun p hp => List.mem_cons_of_mem _ hp)
  have hTa : IsTab ((rd, listOf usd.toArray cd) :: (ra, listOf usa.toArray ca) :: news) [ra] a.length (fun _ => (rowsF (signs a) (signs b) 0).1) := tab_one (us := usa) (k := ca) (by simp) (by omega) fun j hj => by
    obtain ⟨t, ht⟩ := hIa j (by omega)
    exact ⟨t, by rw [ht]; simp only [rowsF, signs_length]; congr 2; omega⟩
  have hTd : IsTab ((rd, listOf usd.toArray cd) :: (ra, listOf usa.toArray ca) :: news) [rd] b.length (fun _ => (rowsF (signs a) (signs b) 0).2) := tab_one (us := usd) (k := cd) (by simp) (by omega) fun j hj => by
    obtain ⟨t, ht⟩ := hId j (by omega)
    exact ⟨t, by rw [ht]; simp only [rowsF, signs_length]; congr 2; omega⟩
  refine range_invN (n := a.length) (TwoJ [Str.ofString "k", Str.ofString "n"] news ra rd a.length b.length (rowsF (signs a) (signs b))) (by rfl) hr (small_one (by omega) (by omega) (by omega) (by omega)) (by rw [rangeSize_nat]; omega) F1 N1 ?j0 ?jturn ?jdone
  case j0 => exact ⟨fun _ _ => rfl, rfl, fun p hp => List.mem_cons_of_mem _ (List.mem_cons_of_mem _ hp), hTa, hTd⟩
  case jturn =>
    intro i t m₁ nx h1 tk1 own hi hoff hJ F2 N2
    obtain ⟨hz, hmap, hbase, hTa, hTd⟩ := hJ
    obtain ⟨u, F3⟩ := fr_puts [] F2 (by simp) hz
    replace F3 : Fr g' L' h1 _ := F3
    have hra : ra ∈ nx.map (·.1) := hTa.addrs ra (by simp)
    have hrd : rd ∈ nx.map (·.1) := hTd.addrs rd (by simp)
    replace hTa := hTa.mono (news' := nx ++ own) fun p hp _ => List.mem_append_left _ hp
    replace hTd := hTd.mono (news' := nx ++ own) fun p hp _ => List.mem_append_left _ hp
    have hoa2 : ∀ p ∈ news ++ own, p.1 ≠ ra := fun p hp => (List.mem_append.mp hp).elim (hoa p) (fun h => hoff p h ra hra)
    have hod2 : ∀ p ∈ news ++ own, p.1 ≠ rd := fun p hp => (List.mem_append.mp hp).elim (hod p) (fun h => hoff p h rd hrd)
    k_steps
    refine Stop.mk ?_
    rename IsRange _ _ _ _ _ _ _ _ => hr2
    rename Fr g' L' _ _ => F4
    rename News g' L' _ _ => N4
    refine range_invN (n := b.length) (TwoJ [Str.ofString "n"] (news ++ own) ra rd a.length b.length (rowF (signs a) (signs b) i (rowsF (signs a) (signs b) i))) (by rfl) hr2 (small_one (by omega) (by omega) (by omega) (by omega)) (by rw [rangeSize_nat]; omega) F4 N4 ?i0 ?iturn ?idone
    case i0 => exact ⟨fun _ _ => rfl, rfl, fun p hp => (List.mem_append.mp hp).elim (fun h => List.mem_append_left _ (hbase p h)) (fun h => List.mem_append_right _ h), hTa, hTd⟩
    case iturn =>
      intro j t2 m₂ nx2 h2 tk2 own2 hj hoff2 hJ2 F5 N5
      obtain ⟨hz2, hmap2, hbase2, hTa2, hTd2⟩ := hJ2
      obtain ⟨u2, F6⟩ := fr_puts [] F5 (by simp) hz2
      replace F6 : Fr g' L' h2 _ := F6
      have hra2 : ra ∈ nx2.map (·.1) := hTa2.addrs ra (by simp)
      have hrd2 : rd ∈ nx2.map (·.1) := hTd2.addrs rd (by simp)
      have hTa3 := hTa2.mono (news' := nx2 ++ own2) fun p hp _ => List.mem_append_left _ hp
      have hTd3 := hTd2.mono (news' := nx2 ++ own2) fun p hp _ => List.mem_append_left _ hp
      k_steps
      · refine Stop.mk ?_
        rename (Txt.item _ _ == _) = true => heq
        have hc := row_swap1 (st := rowsF (signs a) (signs b) i) (vi := 0 + (i : Int)) (vj := 0 + (j : Int)) (by omega) (by omega) (.inl (cell_eq hi hj (by omega) (by omega) heq))
        rename Fr g' L' _ _ => F9
        rename News g' L' _ _ => N9
        rename IsTab _ [ra] _ _ => Ta9
        rename IsTab _ [rd] _ _ => Td9
        refine two_swap F9 N9 hoff2 hmap2 hbase2 hra2 hrd2 hoa2 hod2 Ta9 Td9 (fun x _ => congrFun hc.1 x) (fun x _ => congrFun hc.2 x) ?hrest1
        case hrest1 => exact put_out rfl (puts_out _ rfl ovr_out)
      · refine Stop.mk ?_
        rename (Txt.item _ _ == _) = false => heq
        rename _ > _ => hgt
        have hc := row_swap1 (st := rowsF (signs a) (signs b) i) (vi := 0 + (i : Int)) (vj := 0 + (j : Int)) (by omega) (by omega) (.inr hgt)
        rename Fr g' L' _ _ => F9
        rename News g' L' _ _ => N9
        rename IsTab _ [ra] _ _ => Ta9
        rename IsTab _ [rd] _ _ => Td9
        refine two_swap F9 N9 hoff2 hmap2 hbase2 hra2 hrd2 hoa2 hod2 Ta9 Td9 (fun x _ => congrFun hc.1 x) (fun x _ => congrFun hc.2 x) ?hrest2
        case hrest2 => exact put_out rfl (puts_out _ rfl ovr_out)
      · refine Stop.mk ?_
        rename (Txt.item _ _ == _) = false => heq
        rename ¬ _ > _ => hgt
        have hc := row_stay (st := rowsF (signs a) (signs b) i) (vi := 0 + (i : Int)) (vj := 0 + (j : Int)) (by omega) (by omega) (cell_ne hi hj (by omega) (by omega) heq) hgt
        refine two_stay F6 N5 hoff2 hmap2 hbase2 hTa2 hTd2 hc ?hrest3
        case hrest3 => exact put_out rfl (puts_out _ rfl ovr_out)
    case idone =>
      intro m₂ nx2 h2 tk2 hJ2 F5 N5
      obtain ⟨hz2, hmap2, hbase2, hTa2, hTd2⟩ := hJ2
      obtain ⟨u2, F6⟩ := fr_puts0 [] F5 (by simp) hz2
      replace F6 : Fr g' L' h2 _ := F6
      k_steps
      refine Stop.mk ?_
      refine two_row F6 N5 hoff hmap hbase hra hrd hmap2 hbase2 hTa2 hTd2 (by simp only [rowsF, signs_length]) ?hrest4
      case hrest4 => exact puts_out _ rfl (ovr_in rfl (put_out rfl (puts_out _ rfl ovr_out)))
  case jdone =>
    intro m₁ nx h1 tk1 hJ F2 N2
    obtain ⟨hz, hmap, hbase, hTa, hTd⟩ := hJ
    obtain ⟨u, F3⟩ := fr_puts0 [] F2 (by simp) hz
    replace F3 : Fr g' L' h1 _ := F3
    k_steps
    rename Fr h₀ L _ m => kF
    rename News h₀ L _ nx => kN
    obtain ⟨us, k, hm, hl, hv⟩ := hTd 0 rd rfl
    refine hret rd us k _ _ kF (cb_drop kN (List.forall_mem_cons.mpr ⟨hm, hbase⟩)) lt2 hl hv
end Mine
end
section
open PySem PySem.W PyProof.Rows
set_option maxRecDepth 100000
set_option linter.unusedVariables false
namespace Mine
section
variable {w : World} {mean : ExcName → Option Value} {mg mb : Str → Option Value} {news : List (Addr × Obj)} {a b : Str} {ta tb tn : Tok} {dp un : Nat} {gd : Option (List Code)} {cn : Str} {cs : Scope} {ad : Addr} {ccd : Value} {cl : List (Str × Addr)} {outer : List Env} {A₀ : Around} {base h₀ : Heap} {L : Addr} {m : Str → Option Value} {s : Shared} {Q E : Value → Shared → Prop}
theorem held_rule (h1 : Below A₀ base outer h₀) (h2 : Fr h₀ L s.heap m) (h3 : (hd.heap_39 w.params).In h₀) (h4 : News h₀ L s.heap news) (h5 : Top hd.view_39 (looseW hd.view_39 [Str.ofString "Base", Str.ofString "LCSSeq"]) mean mg mb h₀) (h6 : cs.kind = .function)
    (h7 : a.length ≤ 100 ∧ b.length ≤ 100) (h8 : dp + 1 < recursionLimit) (h9 : un + 8 < cLine) (hR : CbRet h₀ L m news s Q (fun t => .bool (decide (heldTo (signs a) (signs b) = a.length)))) :
    wpAny (model PySem.Challenge.rw_dr5025_01.row.prog w) (ktrTop dp un gd cn cs L ad ccd cl outer) (call (.ref 242) [.str a ta, .str b tb]) Q E s :=
  held w mean mg mb news a b ta tb dp un gd cn cs ad ccd cl outer A₀ base h₀ L m s Q E h1 h2 h3 h4 h5 h6 h7 h8 h9 hR
theorem thr_rule (h1 : Below A₀ base outer h₀) (h2 : Fr h₀ L s.heap m) (h3 : (hd.heap_39 w.params).In h₀) (h4 : News h₀ L s.heap news) (h5 : Top hd.view_39 (looseW hd.view_39 [Str.ofString "Base", Str.ofString "LCSSeq"]) mean mg mb h₀) (h6 : cs.kind = .function)
    (h7 : a.length ≤ 100 ∧ b.length ≤ 100) (h8 : dp + 1 < recursionLimit) (h9 : un + 8 < cLine)
    (hR : ∀ (D : Addr) (vs : List Value) (k : Nat) (h' : Heap) (tk' : Nat), Fr h₀ L h' m → News h₀ L h' ((D, listOf vs.toArray k) :: news) → (∀ p ∈ news, p.1 < D) → vs.length = b.length → (∀ j, j < b.length → ∃ t, vs[j]? = some (.int (threads a b j) t)) → Q (.ref D) { s with heap := h', toks := tk' }) :
    wpAny (model PySem.Challenge.rw_dr5025_01.row.prog w) (ktrTop dp un gd cn cs L ad ccd cl outer) (call (.ref 235) [.str a ta, .str b tb]) Q E s :=
  thr w mean mg mb news a b ta tb dp un gd cn cs ad ccd cl outer A₀ base h₀ L m s Q E h1 h2 h3 h4 h5 h6 h7 h8 h9 hR
end
end Mine
end
section
open PySem PySem.W PyProof.Rows
set_option maxRecDepth 100000
set_option linter.unusedVariables false
namespace Mine
/-- the greedy walk holds what is a subsequence -/
theorem held_sub {row : List Str} : ∀ (W : List Str) (k : Nat), k ≤ row.length → (row.drop k).Sublist W → W.foldl (heldStep row) k = row.length := by
  intro W
  induction W with
  | nil =>
    intro k hk h
    have := List.sublist_nil.mp h
    rw [List.drop_eq_nil_iff] at this
    exact Nat.le_antisymm hk this
  | cons z W ih =>
    intro k hk h
    rw [List.foldl_cons]
    unfold heldStep
    by_cases hz : row[k]? = some z
    · rw [if_pos hz]
      have hk' : k < row.length := (List.getElem?_eq_some_iff.mp hz).1
      have e : row[k] = z := (List.getElem?_eq_some_iff.mp hz).2
      refine ih (k + 1) hk' ?_
      rw [List.drop_eq_getElem_cons hk', e] at h
      exact List.cons_sublist_cons.mp h
    · rw [if_neg hz]
      refine ih k hk ?_
      rcases List.sublist_cons_iff.mp h with h | ⟨r, e, -⟩
      · exact h
      · exfalso
        apply hz
        have : (row.drop k)[0]? = some z := by rw [e]; rfl
        rw [List.getElem?_drop] at this
        simpa using this
theorem held_all {row W : List Str} (h : row.Sublist W) : heldTo row W = row.length := held_sub W 0 (Nat.zero_le _) (by simpa using h)
theorem law_held1 (a b : Str) : heldTo (signs (lcs a b)) (signs a) = (lcs a b).length := by
  unfold lcs
  rw [held_all (tb_best a b).1, signs_length]
theorem law_held2 (a b : Str) : heldTo (signs (lcs a b)) (signs b) = (lcs a b).length := by
  unfold lcs
  rw [held_all (tb_best a b).2.1, signs_length]
section
variable {α : Type} [DecidableEq α] (a b : List α)
theorem dp_lip : ∀ i, (∀ j, dp a b i j ≤ dp a b i (j + 1) ∧ dp a b i (j + 1) ≤ dp a b i j + 1) ∧ (∀ j, dp a b i j ≤ dp a b (i + 1) j ∧ dp a b (i + 1) j ≤ dp a b i j + 1) := by
  have ver : ∀ i, (∀ j, dp a b i j ≤ dp a b i (j + 1) ∧ dp a b i (j + 1) ≤ dp a b i j + 1) → (∀ j, dp a b i j ≤ dp a b (i + 1) j ∧ dp a b (i + 1) j ≤ dp a b i j + 1) := by
    intro i hor j
    induction j with
    | zero => rw [dp_zero_right, dp_zero_right]; omega
    | succ j ih =>
      have h1 := hor j
      rw [dp]
      split <;> omega
  intro i
  induction i with
  | zero =>
    have h0 : ∀ j, dp a b 0 j ≤ dp a b 0 (j + 1) ∧ dp a b 0 (j + 1) ≤ dp a b 0 j + 1 := fun j => by rw [dp_zero_left, dp_zero_left]; omega
    exact ⟨h0, ver 0 h0⟩
  | succ i ih =>
    have h0 : ∀ j, dp a b (i + 1) j ≤ dp a b (i + 1) (j + 1) ∧ dp a b (i + 1) (j + 1) ≤ dp a b (i + 1) j + 1 := fun j => by
      have h1 := ih.1 j
      have h2 := ih.2 j
      rw [dp]
      split <;> omega
    exact ⟨h0, ver _ h0⟩
theorem dp_take (n : Nat) : ∀ i j, j ≤ n → dp a (b.take n) i j = dp a b i j := by
  intro i
  induction i with
  | zero => intro j _; rw [dp_zero_left, dp_zero_left]
  | succ i ihi =>
    intro j
    induction j with
    | zero => intro _; rw [dp_zero_right, dp_zero_right]
    | succ j ihj =>
      intro hj
      have e : (b.take n)[j]? = b[j]? := by rw [List.getElem?_take, if_pos (by omega)]
      rw [dp, dp, e, ihi j (by omega), ihi (j + 1) hj, ihj (by omega)]
end
/-- the grid of the two ends, drawn on the whole rows -/
def ext (la lb : List Str) (s f i j : Nat) : Nat := dp (la.drop s) (lb.drop f) (i - s) (j - f)
def hBit (la lb : List Str) (s f i j : Nat) : Prop := j < f ∨ ext la lb s f i (j + 1) = ext la lb s f i j + 1
def vBit (la lb : List Str) (s f i j : Nat) : Prop := s ≤ i ∧ ext la lb s f (i + 1) j = ext la lb s f i j
theorem bits {la lb : List Str} {s f i j : Nat} (hor : f = 0 ∨ s = 0) :
    (la[i]? = lb[j]? → (vBit la lb s f i (j + 1) ↔ hBit la lb s f i j) ∧ (hBit la lb s f (i + 1) j ↔ vBit la lb s f i j)) ∧
    (la[i]? ≠ lb[j]? → (vBit la lb s f i (j + 1) ↔ vBit la lb s f i j ∨ hBit la lb s f i j) ∧ (hBit la lb s f (i + 1) j ↔ vBit la lb s f i j ∧ hBit la lb s f i j)) := by
  by_cases hi : i < s
  · have hf : f = 0 := by omega
    have v1 : ¬ vBit la lb s f i j := fun h => Nat.lt_irrefl _ (Nat.lt_of_lt_of_le hi h.1)
    have v2 : ¬ vBit la lb s f i (j + 1) := fun h => Nat.lt_irrefl _ (Nat.lt_of_lt_of_le hi h.1)
    have z : ∀ p q, p ≤ s → ext la lb s f p q = 0 := fun p q hp => by
      unfold ext
      rw [show p - s = 0 by omega, dp_zero_left]
    have h1 : ¬ hBit la lb s f i j := fun h => by
      rcases h with h | h
      · omega
      · rw [z _ _ (by omega), z _ _ (by omega)] at h; omega
    have h2 : ¬ hBit la lb s f (i + 1) j := fun h => by
      rcases h with h | h
      · omega
      · rw [z _ _ (by omega), z _ _ (by omega)] at h; omega
    exact ⟨fun _ => ⟨by simp [v2, h1], by simp [h2, v1]⟩, fun _ => ⟨by simp [v2, v1, h1], by simp [h2, v1]⟩⟩
  · by_cases hj : j < f
    · have hs : s = 0 := by omega
      have z : ∀ p q, q ≤ f → ext la lb s f p q = 0 := fun p q hq => by
        unfold ext
        rw [show q - f = 0 by omega, dp_zero_right]
      have v1 : vBit la lb s f i j := ⟨by omega, by rw [z _ _ (by omega), z _ _ (by omega)]⟩
      have v2 : vBit la lb s f i (j + 1) := ⟨by omega, by rw [z _ _ (by omega), z _ _ (by omega)]⟩
      have h1 : hBit la lb s f i j := .inl hj
      have h2 : hBit la lb s f (i + 1) j := .inl hj
      exact ⟨fun _ => ⟨by simp [v2, h1], by simp [h2, v1]⟩, fun _ => ⟨by simp [v2, v1], by simp [h2, v1, h1]⟩⟩
    · obtain ⟨p, rfl⟩ : ∃ p, i = s + p := ⟨i - s, by omega⟩
      obtain ⟨q, rfl⟩ : ∃ q, j = f + q := ⟨j - f, by omega⟩
      have e1 : ∀ x y, ext la lb s f (s + x) (f + y) = dp (la.drop s) (lb.drop f) x y := fun x y => by
        unfold ext
        rw [Nat.add_sub_cancel_left, Nat.add_sub_cancel_left]
      have L := dp_lip (la.drop s) (lb.drop f) p
      have L1 := L.1 q
      have L2 := L.2 q
      have L3 := (dp_lip (la.drop s) (lb.drop f) (p + 1)).1 q
      have R : dp (la.drop s) (lb.drop f) (p + 1) (q + 1) = _ := dp.eq_3 ..
      rw [List.getElem?_drop, List.getElem?_drop] at R
      have E1 := e1 p q
      have E2 := e1 (p + 1) q
      have E3 := e1 p (q + 1)
      have E4 := e1 (p + 1) (q + 1)
      unfold hBit vBit
      simp only [Nat.add_assoc] at *
      rw [E1, E2, E3, E4]
      refine ⟨fun h => ?_, fun h => ?_⟩
      · rw [if_pos h] at R
        constructor <;> constructor <;> intro k <;> omega
      · rw [if_neg h] at R
        constructor <;> constructor <;> intro k <;> omega
theorem upd_same (f : Nat → Int) (k : Nat) (v : Int) : upd f k v k = v := if_pos rfl
theorem upd_other {f : Nat → Int} {k j : Nat} {v : Int} (h : j ≠ k) : upd f k v j = f j := if_neg h
/-- the state of the threads, by the small bits -/
structure Bits (la lb : List Str) (s f : Nat) (c : Int) (k n : Nat) (st : (Nat → Int) × (Nat → Int)) : Prop where
  d : ∀ q, q < lb.length → (st.2 q < c ↔ if q < n then hBit la lb s f (k + 1) q else hBit la lb s f k q)
  a : k < la.length → (st.1 k < c ↔ vBit la lb s f k n)
  r : ∀ p, k < p → p < la.length → (st.1 p < c ↔ s ≤ p)
theorem cell_bits {la lb : List Str} {s f k n : Nat} {c : Int} {st : (Nat → Int) × (Nat → Int)} (hor : f = 0 ∨ s = 0) (hk : k < la.length) (hn : n < lb.length) (h : Bits la lb s f c k n st) : Bits la lb s f c k (n + 1) (cellF la lb k n st) := by
  have hx := h.a hk
  have hy := h.d n hn
  rw [if_neg (Nat.lt_irrefl _)] at hy
  have B := bits (la := la) (lb := lb) (s := s) (f := f) (i := k) (j := n) hor
  unfold cellF
  by_cases hm : la[k]? = lb[n]? ∨ st.1 k > st.2 n
  · rw [if_pos hm]
    have key : (st.2 n < c ↔ vBit la lb s f k (n + 1)) ∧ (st.1 k < c ↔ hBit la lb s f (k + 1) n) := by
      by_cases he : la[k]? = lb[n]?
      · obtain ⟨B1, B2⟩ := B.1 he
        exact ⟨hy.trans B1.symm, hx.trans B2.symm⟩
      · obtain ⟨B1, B2⟩ := B.2 he
        have hgt : st.1 k > st.2 n := hm.resolve_left he
        rw [B1, B2, ← hx, ← hy]
        constructor
        · constructor
          · exact .inr
          · rintro (h | h) <;> omega
        · constructor
          · intro h; exact ⟨h, by omega⟩
          · exact fun h => h.1
    refine ⟨fun q hq => ?_, fun _ => ?_, fun p hp hpl => ?_⟩
    · by_cases e : q = n
      · subst e
        show upd st.2 q (st.1 k) q < c ↔ _
        rw [upd_same, if_pos (Nat.lt_succ_self _)]
        exact key.2
      · show upd st.2 n (st.1 k) q < c ↔ _
        rw [upd_other e, h.d q hq]
        by_cases hqn : q < n
        · rw [if_pos hqn, if_pos (by omega)]
        · rw [if_neg hqn, if_neg (by omega)]
    · show upd st.1 k (st.2 n) k < c ↔ _
      rw [upd_same]
      exact key.1
    · show upd st.1 k (st.2 n) p < c ↔ _
      rw [upd_other (by omega)]
      exact h.r p hp hpl
  · rw [if_neg hm]
    have he : la[k]? ≠ lb[n]? := fun e => hm (.inl e)
    have hle : ¬ st.1 k > st.2 n := fun e => hm (.inr e)
    obtain ⟨B1, B2⟩ := B.2 he
    refine ⟨fun q hq => ?_, fun _ => ?_, h.r⟩
    · by_cases e : q = n
      · subst e
        rw [if_pos (Nat.lt_succ_self _), B2, ← hx, ← hy]
        constructor
        · intro h; exact ⟨by omega, h⟩
        · exact fun h => h.2
      · rw [h.d q hq]
        by_cases hqn : q < n
        · rw [if_pos hqn, if_pos (by omega)]
        · rw [if_neg hqn, if_neg (by omega)]
    · rw [B1, ← hx, ← hy]
      constructor
      · exact .inl
      · rintro (h | h) <;> omega
theorem row_bits {la lb : List Str} {s f k : Nat} {c : Int} {st : (Nat → Int) × (Nat → Int)} (hor : f = 0 ∨ s = 0) (hk : k < la.length) (h : Bits la lb s f c k 0 st) : ∀ n, n ≤ lb.length → Bits la lb s f c k n (rowF la lb k st n) := by
  intro n
  induction n with
  | zero => intro _; exact h
  | succ n ih =>
    intro hn
    exact cell_bits hor hk hn (ih (Nat.le_of_lt hn))
theorem next_bits {la lb : List Str} {s f k : Nat} {c : Int} {st : (Nat → Int) × (Nat → Int)} (h : Bits la lb s f c k lb.length st) : Bits la lb s f c (k + 1) 0 st := by
  refine ⟨fun q hq => ?_, fun hk => ?_, fun p hp hpl => h.r p (by omega) hpl⟩
  · rw [h.d q hq, if_pos hq, if_neg (Nat.not_lt_zero _)]
  · rw [h.r (k + 1) (Nat.lt_succ_self _) hk]
    unfold vBit ext
    rw [Nat.zero_sub, dp_zero_right, dp_zero_right]
    simp
theorem rows_bits {la lb : List Str} {s f : Nat} {c : Int} (hor : f = 0 ∨ s = 0) (hc : c = (la.length : Int) + f - s) : ∀ k, k ≤ la.length → Bits la lb s f c k 0 (rowsF la lb k) := by
  intro k
  induction k with
  | zero =>
    intro _
    refine ⟨fun q hq => ?_, fun _ => ?_, fun p _ _ => ?_⟩
    · rw [if_neg (Nat.not_lt_zero _)]
      show (la.length : Int) + (q : Nat) < c ↔ _
      unfold hBit ext
      rw [Nat.zero_sub, dp_zero_left, dp_zero_left]
      omega
    · show (la.length : Int) - 1 - ((0 : Nat) : Int) < c ↔ _
      unfold vBit ext
      rw [Nat.zero_sub, dp_zero_right, dp_zero_right]
      omega
    · show (la.length : Int) - 1 - (p : Nat) < c ↔ _
      omega
  | succ k ih =>
    intro hk
    exact next_bits (row_bits hor hk (ih (Nat.le_of_lt hk)) lb.length (Nat.le_refl _))
theorem small_ext {la lb : List Str} {s f : Nat} {c : Int} (hor : f = 0 ∨ s = 0) (hc : c = (la.length : Int) + f - s) : ∀ n, n ≤ lb.length → small (rowsF la lb la.length).2 c n = min n f + dp (la.drop s) (lb.drop f) (la.length - s) (n - f) := by
  have B := rows_bits (la := la) (lb := lb) hor hc la.length (Nat.le_refl _)
  intro n
  induction n with
  | zero =>
    intro _
    rw [small_zero, Nat.zero_sub, dp_zero_right]
    omega
  | succ n ih =>
    intro hn
    have h := B.d n hn
    rw [if_neg (Nat.not_lt_zero _)] at h
    have ihn := ih (Nat.le_of_lt hn)
    unfold hBit ext at h
    by_cases hf : n < f
    · rw [small_yes (h.mpr (.inl hf)), ihn, show n - f = 0 by omega, show n + 1 - f = 0 by omega, dp_zero_right]
      omega
    · have L := (dp_lip (la.drop s) (lb.drop f) (la.length - s)).1 (n - f)
      rw [show n + 1 - f = n - f + 1 by omega] at h ⊢
      by_cases hd : dp (la.drop s) (lb.drop f) (la.length - s) (n - f + 1) = dp (la.drop s) (lb.drop f) (la.length - s) (n - f) + 1
      · rw [small_yes (h.mpr (.inr hd)), ihn, hd]
        omega
      · rw [small_no (fun k => (h.mp k).elim hf hd), ihn]
        omega
theorem slice_end {a : Str} {s : Nat} (h : s ≤ a.length) : signs (Txt.slice a (some (s : Int)) none) = (signs a).drop s := by
  rw [slice_from_eq (b := a.length) (by omega) (by omega) rfl]
  unfold signs
  dsimp only
  rw [← List.map_drop, Int.toNat_natCast, List.take_of_length_le]
  rw [List.length_drop, Array.length_toList]
  show a.length - s ≤ _
  omega
theorem slice_mid {b : Str} {f j : Nat} (h : f + j < b.length) : signs (Txt.slice b (some (f : Int)) (some ((f : Int) + 1 + (j : Nat)))) = ((signs b).drop f).take (j + 1) := by
  rw [eq_of_beq (slice_closesL (x := b) (i := f) (j := (f : Int) + 1 + (j : Nat)) (by omega) (by omega) (by omega))]
  unfold signs
  dsimp only
  rw [Int.toNat_natCast, show ((f : Int) + 1 + (j : Nat) - f).toNat = j + 1 by omega, List.map_take, List.map_drop]
theorem law_key (a b : Str) (i j f s : Nat) (c : Int) (hfs : 1 - (a.length : Int) + (i : Nat) = (f : Int) - s) (hor : f = 0 ∨ s = 0) (hs : s < a.length) (hf : f + j < b.length) (hc : c = (a.length : Int) + (1 - (a.length : Int) + (i : Nat))) :
    (((lcs (Txt.slice a (some (s : Int)) none) (Txt.slice b (some (f : Int)) (some ((f : Int) + 1 + (j : Nat))))).length : Nat) : Int) = ((small (threads a b) c (f + 1 + j) : Nat) : Int) - (f : Int) := by
  have e := (tb_best (Txt.slice a (some (s : Int)) none) (Txt.slice b (some (f : Int)) (some ((f : Int) + 1 + (j : Nat))))).2.2.1
  have l1 : (Txt.slice a (some (s : Int)) none).length = (signs a).length - s := by
    rw [← signs_length, slice_end (Nat.le_of_lt hs), List.length_drop]
  have l2 : (Txt.slice b (some (f : Int)) (some ((f : Int) + 1 + (j : Nat)))).length = j + 1 := by
    rw [← signs_length, slice_mid hf, List.length_take, List.length_drop, signs_length]
    omega
  have S := small_ext (la := signs a) (lb := signs b) (s := s) (f := f) (c := c) hor (by rw [signs_length]; omega) (f + 1 + j) (by rw [signs_length]; omega)
  rw [signs_length] at S
  have S' : small (threads a b) c (f + 1 + j) = _ := S
  rw [S']
  unfold lcs
  rw [e, l1, l2, slice_end (Nat.le_of_lt hs), slice_mid hf, dp_take _ _ _ _ _ (Nat.le_refl _), show f + 1 + j - f = j + 1 by omega, signs_length]
  omega
end Mine
end
section
open PySem PySem.W PyProof.Rows
set_option Elab.async false
set_option maxRecDepth 100000
set_option maxHeartbeats 0
set_option linter.unusedVariables false
namespace Mine
local macro_rules | `(tactic| walk_at "exec For Name Name cons nil") => `(tactic| (k_here; (rename Fr _ _ _ _ => lF'); (with_unfolding_all refine' For_invVF lF' ?k1 ?k2 ?_; (case k1 => exact rfl); (case k2 => exact rfl); k_whole)))
local macro_rules | `(tactic| walk_at "exec For Name Call cons nil") => `(tactic| (k_here; (rename Fr _ _ _ _ => lF'); (with_unfolding_all refine' For_invVF lF' ?k1 ?k2 ?_; (case k1 => exact rfl); (case k2 => exact rfl); k_whole)))
local macro_rules | `(tactic| walk_at "exec For Name Call cons nil") => `(tactic| (k_here; (with_reducible show wpAny _ _ (exec (Stmt.For (Expr.Name (PySem.Str.ofString "first") _) _ _ _ _) _) _ _ _); refine Stop.out ?_))
local macro_rules | `(tactic| walk_at "pyIter ref") => `(tactic| (refine Stop.out ?_))
local macro_rules | `(tactic| walk_at "InvPostG") => `(tactic| (refine Stop.out ?_))
local macro_rules | `(tactic| walk_at "CompSrc") => `(tactic| (refine Stop.out ?_))
local macro_rules | `(tactic| walk_at "eval ListComp") => `(tactic| (k_here; k_dflt (refine LCg.ListComp_U (F₀ := by k_asm) (by with_unfolding_all rfl) (by decide) (by rfl) (by decide) (by rfl) ?_)))
local macro_rules | `(tactic| walk_at "call builtin:str.join") => `(tactic| (k_here; k_dflt (refine' join_word ?k1 ?k2 ?k3 ?k4 ?k5 ?_; (case k1 => k_asm); (case k2 => k_mem); (case k3 => assumption); (case k4 => assumption); (case k5 => assumption); k_whole); intro xw tw kw hxw hxl))
local macro_rules | `(tactic| walk_at "getAttr ref") => `(tactic| (k_here; (with_reducible show wpAny _ _ (getAttr (Value.ref _) (PySem.Str.ofString "_ident") _) _ _ _); k_dflt (refine' get_sm ?k1 ?k2 ?k4 ?k5 ?k6 ?k7 ?k9 ?k10 ?k11 ?k12 ?k13 ?k14 ?_; (case k1 => k_asm); (case k2 => k_asm); (case k4 => k_inst); (case k5 => k_is); (case k6 => k_is); (case k7 => k_is); (case k9 => k_is); (case k10 => k_is); (case k11 => decide +kernel); (case k12 => k_get); (case k13 => k_is); (case k14 => k_handed); k_whole)))
local macro_rules | `(tactic| walk_at "CompEnd") => `(tactic| (refine Stop.out ?_))
local macro_rules | `(tactic| walk_at "call ref") => `(tactic| ((with_reducible show wpAny _ _ (call (Value.ref _) [_, _]) _ _ _); refine Stop.out ?_))
local macro_rules | `(tactic| walk_at "call builtin:max") => `(tactic| (k_here; (with_reducible show wpAny _ _ (call (Value.builtin "max") [Value.int _ _, Value.int _ _]) _ _ _); k_dflt (refine' max_nat ?k1 ?k2 ?k3 ?k4 ?_; (case k4 => assumption); (case k1 => exact rfl); (case k2 => k_asm); (case k3 => k_asm); k_whole); intro h' tk' t' F' N'))
local macro_rules | `(tactic| walk_at "eval ListComp") => `(tactic| (k_here; lct_look; k_dflt (refine LCt.ListComp_T (F₀ := by k_asm) (by with_unfolding_all rfl) (by decide) (by rfl) (by decide) (by rfl) ?_)))
local macro_rules | `(tactic| walk_at "CompSrcT") => `(tactic| (refine Stop.out ?_))
local macro_rules | `(tactic| walk_at "NextG") => `(tactic| (refine Stop.out ?_))
local macro_rules | `(tactic| walk_at "call builtin:len") => `(tactic| ((have : Mark 3 := by assumption); k_here; (with_reducible show wpAny _ _ (call (Value.builtin "len") [Value.str _ _]) _ _ _); refine PySem.P.len_str (by omega) ?_))
local macro_rules | `(tactic| walk_at "call builtin:len") => `(tactic| ((have : Mark 3 := by assumption); k_here; (with_reducible show wpAny _ _ (call (Value.builtin "len") [Value.ref _]) _ _ _); k_dflt (refine' led_len ?k1 ?k2 ?k3 ?_; (case k1 => k_asm); (case k2 => k_mem); (case k3 => omega); k_whole)))
theorem lcs_le (a b : Str) : (lcs a b).length ≤ a.length := by
  have h := (tb_best a b).2.2.1
  have h2 := dp_le_left (signs a) (signs b) a.length b.length
  exact Nat.le_trans (Nat.le_of_eq h) h2
theorem main : PySem.Challenge.rw_dr5025_01.Holds := by
  refine hd ?_
  k_go0
  all_goals (try k_fold)
  k_steps
  refine Stop.mk ?_
  rename_i hr F1 N1 hk1
  refine LCg.CompSrc.range (n := 14) (by rfl) F1 N1 hr (small_one (by omega) (by omega) (by omega) (by omega)) (by rfl) (by rw [PySem.sizeLine_eq]; omega) ?_
  intro g2
  refine comp_inv (fun i ys nx => nx = _ ∧ ∃ ds : List Int, ds.length = i ∧ IntsAre ys ds) ?turn ⟨rfl, [], rfl, .nil⟩ ?fin
  case turn =>
    intro i v I oI C oC D m₂ ys nx h2 tk2 E' hi hv hJ hC hx F2 N2 off ne
    obtain ⟨hnx, ds, hds, hys⟩ := hJ
    subst hnx
    obtain ⟨t, rfl⟩ := hv
    k_steps
    · refine Stop.mk ?_
      rename Fr _ _ _ _ => F3
      refine LCg.CompEnd.intro F3 N2 _ (fun p hp => hp) off True.intro ⟨rfl, ds ++ [_], by simp [hds], IntsAre.append hys (.cons _ _ .nil)⟩
    · refine Stop.mk ?_
      rename Fr _ _ _ _ => F3
      refine LCg.CompEnd.intro F3 N2 _ (fun p hp => hp) off True.intro ⟨rfl, ds ++ [_], by simp [hds], IntsAre.append hys (.cons _ _ .nil)⟩
  case fin =>
    intro ys nx hJ
    obtain ⟨hnx, ds, hds, hys⟩ := hJ
    subst hnx
    intro D5 h5 tk5 F5 N5 o15
    have hf0 : 0 ≤ (ds.getD (Int.toNat 0) 0).fmod 6 := Int.fmod_nonneg_of_pos _ (by omega)
    have hf1 : (ds.getD (Int.toNat 0) 0).fmod 6 < 6 := Int.fmod_lt_of_pos _ (by omega)
    have hf2 : 0 ≤ (ds.getD (Int.toNat 1) 0).fmod 6 := Int.fmod_nonneg_of_pos _ (by omega)
    have hf3 : (ds.getD (Int.toNat 1) 0).fmod 6 < 6 := Int.fmod_lt_of_pos _ (by omega)
    k_steps
    refine Stop.mk ?_
    rename_i D6 ws6 h6 F6 N6 hI6 hC6 hL6 l6
    generalize hdz : List.take (min (3 + (ds.getD 0 0).fmod 6).toNat ds.length - 2) (List.drop 2 ds) = dz at hI6 hC6 hL6
    have hzl : 1 ≤ dz.length ∧ dz.length ≤ 6 := by
      rw [← hdz, List.length_take, List.length_drop]
      simp only [Int.toNat_zero] at hf0 hf1
      omega
    have hwl : ws6.length = dz.length := hI6.length
    refine LCg.CompSrc.ledger (by rfl) F6 N6 List.mem_cons_self (by rw [PySem.sizeLine_eq, List.size_toArray]; omega) ?_
    intro g3
    refine comp_inv (fun i yv nx => nx = _ ∧ ∃ cs : List Str, cs.length = i ∧ StrsAre yv cs ∧ ∀ c ∈ cs, c ∈ signs (Str.ofString "abc")) ?turn2 ⟨rfl, [], rfl, .nil, by simp⟩ ?fin2
    case turn2 =>
      intro i v I oI C oC D m₂ yv nx h2 tk2 E' hi hv hJ hC hx F2 N2 off ne
      obtain ⟨hnx, cs, hcs, hys, hcm⟩ := hJ
      subst hnx
      obtain ⟨n, t, rfl, hn⟩ := IntsAre.at hI6 i v (by simpa using hv)
      have hg0 : 0 ≤ n.fmod 3 := Int.fmod_nonneg_of_pos _ (by omega)
      have hg1 : n.fmod 3 < 3 := Int.fmod_lt_of_pos _ (by omega)
      have hgl : (Str.ofString "abc").length = 3 := by decide +kernel
      k_steps
      refine Stop.mk ?_
      rename Fr _ _ _ _ => F3
      refine LCg.CompEnd.intro F3 N2 _ (fun p hp => hp) off (.inr ⟨_, List.mem_cons_self, rfl, _, rfl⟩) ⟨rfl, cs ++ [_], by simp [hcs], hys.append' (.cons _ _ .nil), ?_⟩
      intro c hc
      rcases List.mem_append.mp hc with hc | hc
      · exact hcm c hc
      · rw [List.mem_singleton.mp hc]
        exact item_sign hg0 (by omega)
    case fin2 =>
      intro yv nx hJ
      obtain ⟨hnx, cs, hcs, hys, hcm⟩ := hJ
      subst hnx
      intro D7 h7 tk7 F7 N7 o17
      rw [List.size_toArray] at hcs
      have hc1 : ∀ c ∈ cs, c.length = 1 := fun c hc => sign_one (hcm c hc)
      have hcl : cs.length ≤ 1000 := by omega
      dsimp only [LCg.Off1] at o15 o17
      k_steps
      refine Stop.mk ?_
      rename_i xa ta ka hxa hxla _ oc hoc _ D8 ws8 h8 F8 N8 hI8 hC8 hL8 l8
      generalize hdz8 : List.take (min (9 + (ds.getD 1 0).fmod 6).toNat ds.length - 8) (List.drop 8 ds) = dy at hI8 hC8 hL8
      have hyl : 1 ≤ dy.length ∧ dy.length ≤ 6 := by
        rw [← hdz8, List.length_take, List.length_drop]
        simp only [Int.toNat_one] at hf2 hf3
        omega
      have hwl8 : ws8.length = dy.length := hI8.length
      refine LCg.CompSrc.ledger (by rfl) F8 N8 List.mem_cons_self (by rw [PySem.sizeLine_eq, List.size_toArray]; omega) ?_
      intro g4
      refine comp_inv (fun i yv nx => nx = _ ∧ ∃ cs : List Str, cs.length = i ∧ StrsAre yv cs ∧ ∀ c ∈ cs, c ∈ signs (Str.ofString "abc")) ?turn3 ⟨rfl, [], rfl, .nil, by simp⟩ ?fin3
      case turn3 =>
        intro i v I oI C oC D m₂ yv' nx h2 tk2 E' hi hv hJ hC hx F2 N2 off ne
        obtain ⟨hnx, cs', hcs', hys', hcm'⟩ := hJ
        subst hnx
        obtain ⟨n, t, rfl, hn⟩ := IntsAre.at hI8 i v (by simpa using hv)
        have hg0 : 0 ≤ n.fmod 3 := Int.fmod_nonneg_of_pos _ (by omega)
        have hg1 : n.fmod 3 < 3 := Int.fmod_lt_of_pos _ (by omega)
        have hgl : (Str.ofString "abc").length = 3 := by decide +kernel
        k_steps
        refine Stop.mk ?_
        rename Fr _ _ _ _ => F3
        refine LCg.CompEnd.intro F3 N2 _ (fun p hp => hp) off (.inr ⟨_, List.mem_cons_self, rfl, _, rfl⟩) ⟨rfl, cs' ++ [_], by simp [hcs'], hys'.append' (.cons _ _ .nil), ?_⟩
        intro c hc
        rcases List.mem_append.mp hc with hc | hc
        · exact hcm' c hc
        · rw [List.mem_singleton.mp hc]
          exact item_sign hg0 (by omega)
      case fin3 =>
        intro yv' nx hJ
        obtain ⟨hnx, cs', hcs', hys', hcm'⟩ := hJ
        subst hnx
        intro D9 h9 tk9 F9 N9 o19
        rw [List.size_toArray] at hcs'
        have hc1' : ∀ c ∈ cs', c.length = 1 := fun c hc => sign_one (hcm' c hc)
        have hcl' : cs'.length ≤ 1000 := by omega
        dsimp only [LCg.Off1] at o19
        k_steps
        refine Stop.mk ?_
        rename_i xb tb kb hxb hxlb _ _ _
        k_dflt (refine' thr_rule ?k1 ?k2 ?k3 ?k4 ?k5 ?k6 ?k7 ?k8 ?k9 ?_)
        case k2 => k_asm
        case k4 => k_asm
        case k3 => k_asm
        case k5 => k_asm
        case k1 => k_asm
        case k6 => first | exact rfl | assumption
        case k7 => exact ⟨by omega, by omega⟩
        case k8 => ktr_room
        case k9 => ktr_units
        intro D vt kt ht tkt Ft Nt hDt hvl hvt
        k_lt hDt
        (try dsimp only)
        (try k_fold)
        k_steps
        refine Stop.mk ?_
        rename Fr _ _ _ _ => lF'
        refine' For_invTF lF' ?q1 ?q2
        case q2 => intro x; rfl
        k_steps
        refine Stop.mk ?_
        have mk3 : Mark 3 := ⟨⟩
        rename_i xI dI _ _ _ lt2 lt3 _ _ _ _ _ _ _ _ _ _ _ _ _ _ _ _ kX D8t _ lt4 _ _ _ _ _ hRh tkR t1 u1 v1 hr F1 N1 _
        replace N1 := pick5 N1
        refine range_invT (n := xa.length + xb.length - 1) (FirstJ [Str.ofString "last", Str.ofString "end", Str.ofString "piece", Str.ofString "row"]) (fun _ _ => rfl) (by rfl) hr (small_one (by omega) (by omega) (by omega) (by omega)) (by rw [rangeSize_nat]; omega) F1 N1 ?a0 ?aturn ?adone
        case a0 => exact ⟨⟨_, _, _, rfl, _, _, by assumption, rfl⟩, fun _ _ => rfl⟩
        case aturn =>
          intro i t m₁ nx s₁ own hi hoff hJ F2 N2
          obtain ⟨⟨c, o₀, r, hNL, o, v, hov, hnx⟩, hz⟩ := hJ
          cases hNL
          subst hnx
          obtain ⟨u, F3⟩ := fr_puts0 [] F2 (by simp) hz
          simp only [List.cons_append, List.nil_append] at N2
          obtain ⟨fN, sN, hfs, hor, hM1, hM2, hsa, hfb⟩ : ∃ fN sN : Nat, (1 - (xa.length : Int) + (i : Nat)) = (fN : Int) - sN ∧ (fN = 0 ∨ sN = 0) ∧ ((fN : Nat) : Int) = (if 0 > 1 - (xa.length : Int) + (i : Nat) then 0 else 1 - (xa.length : Int) + (i : Nat)) ∧ ((sN : Nat) : Int) = (if 0 > -(1 - (xa.length : Int) + (i : Nat)) then 0 else -(1 - (xa.length : Int) + (i : Nat))) ∧ sN < xa.length ∧ fN < xb.length := by
            refine ⟨i + 1 - xa.length, xa.length - 1 - i, ?_, ?_, ?_, ?_, ?_, ?_⟩
            · omega
            · omega
            · split <;> omega
            · split <;> omega
            · omega
            · omega
          k_steps
          refine Stop.mk ?_
          rename IsRange _ _ _ _ _ _ _ _ => hr2
          rename Fr _ _ _ _ => F4
          rename News _ _ _ _ => N4
          refine range_invN (n := xb.length - fN) (StayJ [Str.ofString "last", Str.ofString "end", Str.ofString "piece", Str.ofString "row"]) (by rfl) hr2 (small_one (by omega) (by omega) (by omega) (by omega)) (by rw [rangeSize_nat]; omega) F4 N4 ?i0 ?iturn ?idone
          case i0 => exact ⟨rfl, fun _ _ => rfl⟩
          case iturn =>
            intro j t2 m₂ nx2 h2 tk2 own2 hj hoff2 hJ2 F5 N5
            obtain ⟨hnx2, hz2⟩ := hJ2
            subst hnx2
            obtain ⟨u2, F6⟩ := fr_puts [] F5 (by simp) hz2
            simp only [List.cons_append, List.nil_append] at N5
            have hIt : IntsAre vt ((List.range xb.length).map (threads xa xb)) := ints_of hvl hvt
            k_steps
            refine Stop.mk ?_
            have hel : (Txt.slice xa (some (sN : Int)) none).length ≤ xa.length := by assumption
            have hpl : (Txt.slice xb (some (fN : Int)) (some ((fN : Int) + 1 + (j : Nat)))).length ≤ xb.length := by assumption
            have hlb := lcs_le (Txt.slice xa (some (sN : Int)) none) (Txt.slice xb (some (fN : Int)) (some ((fN : Int) + 1 + (j : Nat))))
            refine wpAny_call ?_
            k_dflt (refine' kco_code ?k1 ?k2 ?k3 ?k4 ?k5 ?k6 ?_; (case k1 => k_in); (case k2 => k_inst); (case k3 => rfl); (case k4 => k_is); (case k5 => k_is); (case k6 => k_is); (try dsimp only))
            k_dflt (refine' callS_rule ?k1 ?k2 ?k3 ?k4 ?k5 ?k6 ?kx ?kd ?k7 ?k8 ?k9 ?_)
            case k2 => k_asm
            case k4 => k_asm
            case k3 => k_asm
            case k5 => k_asm
            case k1 => k_asm
            case k6 => first | exact rfl | assumption
            case kx => k_mem
            case kd => k_mem
            case k7 => exact ⟨by omega, by omega⟩
            case k8 => ktr_room
            case k9 => ktr_units
            intro t9 h9 tk9 F9 N9
            (try dsimp only)
            (try k_fold)
            k_steps
            refine Stop.mk ?_
            rename_i D12 ws12 h12 F12 N12 hI12 hC12 hL12 l12
            have hwl12 : ws12.length = fN + 1 + j := by
              have h1 : ws12.length = _ := hI12.length
              rw [h1, List.length_take, List.length_map, List.length_range]
              omega
            refine LCt.CompSrcT.ledger (by rfl) F12 N12 List.mem_cons_self (by rw [PySem.sizeLine_eq, List.size_toArray]; omega) ?_
            intro g12
            refine comp_invT (fun q yv nx => nx = _ ∧ yv.length = small (threads xa xb) ((xa.length : Int) + (1 - (xa.length : Int) + (i : Nat))) q) ?turnT ⟨rfl, rfl⟩ ?finT
            case turnT =>
              intro q v I oI C oC Dq m₃ ys nx h3 tk3 E' hq hv hJ hC hx F7 N7 off ne
              obtain ⟨hnx, hyl⟩ := hJ
              subst hnx
              obtain ⟨n, t, rfl, hn⟩ := IntsAre.at hI12 q v (by simpa using hv)
              have hnq := range_get hn
              k_steps
              · refine Stop.mk ?_
                rename Fr _ _ _ _ => F8
                rename n < _ => hlt
                rw [hnq] at hlt
                refine LCg.CompEnd.intro F8 N7 _ (fun p hp => hp) off (.inr ⟨_, List.mem_cons_self, rfl, _, rfl⟩) ⟨rfl, ?_⟩
                rw [List.length_append, List.length_singleton, hyl, small_yes hlt]
              · refine Stop.mk ?_
                rename Fr _ _ _ _ => F8
                rename ¬ n < _ => hlt
                rw [hnq] at hlt
                refine LCg.CompEnd.intro F8 N7 _ (fun p hp => hp) off (.inr ⟨_, List.mem_cons_self, rfl, _, rfl⟩) ⟨rfl, ?_⟩
                rw [hyl, small_no hlt]
            case finT =>
              intro yv nx hJ
              obtain ⟨hnx, hyl⟩ := hJ
              subst hnx
              intro D13 h13 tk13 F13 N13 o113
              rw [List.size_toArray, hwl12] at hyl
              have hys := small_le (threads xa xb) ((xa.length : Int) + (1 - (xa.length : Int) + (i : Nat))) (fN + 1 + j)
              dsimp only [LCg.Off1] at o113
              have hkey := law_key xa xb i j fN sN _ hfs hor hsa (by omega) rfl
              rw [← hyl] at hkey
              k_steps
              · exfalso
                rename _ ≠ _ => hne9
                exact hne9 hkey
              · refine Stop.mk ?_
                k_dflt (refine' held_rule ?k1 ?k2 ?k3 ?k4 ?k5 ?k6 ?k7 ?k8 ?k9 ?_)
                case k2 => k_asm
                case k4 => k_asm
                case k3 => k_asm
                case k5 => k_asm
                case k1 => k_asm
                case k6 => first | exact rfl | assumption
                case k7 => exact ⟨by omega, by omega⟩
                case k8 => ktr_room
                case k9 => ktr_units
                intro t14 h14 tk14 F14 N14
                rw [decide_eq_true (law_held1 _ _)]
                (try dsimp only)
                (try k_fold)
                k_steps
                refine Stop.mk ?_
                k_dflt (refine' held_rule ?k1 ?k2 ?k3 ?k4 ?k5 ?k6 ?k7 ?k8 ?k9 ?_)
                case k2 => k_asm
                case k4 => k_asm
                case k3 => k_asm
                case k5 => k_asm
                case k1 => k_asm
                case k6 => first | exact rfl | assumption
                case k7 => exact ⟨by omega, by omega⟩
                case k8 => ktr_room
                case k9 => ktr_units
                intro t15 h15 tk15 F15 N15
                rw [decide_eq_true (law_held2 _ _)]
                (try dsimp only)
                (try k_fold)
                k_steps
                refine Stop.mk ?_
                rename Fr _ _ _ _ => F20
                rename News _ _ _ _ => N20
                refine stay_end F20 N20 ?hk2 hoff2 ?hrest2
                case hk2 =>
                  intro p hp
                  repeat (first | exact hp | refine List.mem_cons_of_mem _ ?_)
                case hrest2 => exact put_out rfl (put_out rfl (put_out rfl (put_out rfl (puts_out _ rfl ovr_out))))
          case idone =>
            intro m₂ nx2 h2 tk2 hJ2 F5 N5
            obtain ⟨hnx2, hz2⟩ := hJ2
            subst hnx2
            obtain ⟨u2, F6⟩ := fr_puts0 [] F5 (by simp) hz2
            k_steps
            refine Stop.mk ?_
            refine first_end F6 N5 (by assumption) (fun p hp => hp) hoff ?hrest
            case hrest => exact puts_out _ rfl (ovr_in rfl (puts_out _ rfl ovr_out))
        case adone =>
          intro m₁ nx h1 tk1 hJ F2 N2
          obtain ⟨⟨c, o₀, r, hNL, o, v, hov, hnx⟩, hz⟩ := hJ
          cases hNL
          subst hnx
          obtain ⟨u, F3⟩ := fr_puts0 [] F2 (by simp) hz
          k_steps
end Mine
end
theorem PySem.Challenge.cw_dr5025_01_holds : PySem.Challenge.rw_dr5025_01.Holds := by
  exact Mine.main
